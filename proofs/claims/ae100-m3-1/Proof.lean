import JvmDerived
import JvmDerived.Pilot.@@N@@Statement
import JvmDerived.Pilot.@@N@@Code
set_option linter.unusedVariables false
set_option linter.unusedSimpArgs false
set_option maxRecDepth 65536
set_option maxHeartbeats 40000000
namespace Jvm.Pilot.@@N@@
open Jvm Jvm.ClassFile Sem Op Lib Jvm.Free Jvm.Stand Jvm.LawKit Jvm.RoadKit Bundle Jvm.Pilot.@@N@@.Jvm.D
/-! my own words: Go (the run comes from T to a state with P), a step, a return -/
def Go (tb : Tables) (e : Env) (below : List Frame) (P : State → Prop) (T : State) : Prop := ∃ u, P u ∧ ∀ t, Steps tb e below u t → Steps tb e below T t
theorem Go.by' {tb : Tables} {e : Env} {below : List Frame} {P : State → Prop} {T T' : State} (h : ∀ t, Steps tb e below T' t → Steps tb e below T t) (k : Go tb e below P T') : Go tb e below P T :=
  k.elim fun u q => ⟨u, q.1, fun t z => h t (q.2 t z)⟩
theorem Go.cast {tb : Tables} {e : Env} {below : List Frame} {P : State → Prop} {T : State} {g g' : JFrame} (q : g = g') (k : Go tb e below P (T.setTop g')) : Go tb e below P (T.setTop g) := q ▸ k
theorem Go.castF {tb : Tables} {e : Env} {below : List Frame} {P : State → Prop} {T : State} {α : Type} (F : α → JFrame) {a b : α} (q : a = b) (k : Go tb e below P (T.setTop (F b))) : Go tb e below P (T.setTop (F a)) := q ▸ k
def Fin' (s : State) (below : List Frame) (ce sl : Nat) (Q : Option Value → Heap → List Loc → Prop) (u : State) : Prop := u.status = .running ∧ ∃ o, Ended u below o ∧ ∃ v L, o = .returned v ∧ Q v u.heap L ∧ FrameEnd s o u L ce sl
theorem Go.body {tb : Tables} {e : Env} {below : List Frame} {s : State} {ce sl : Nat} {Q : Option Value → Heap → List Loc → Prop} {T : State} (h : Go tb e below (Fin' s below ce sl Q) T) :
    ∃ s₂ o, Steps tb e below T s₂ ∧ s₂.status = .running ∧ Ended s₂ below o ∧ ∃ v L, o = .returned v ∧ Q v s₂.heap L ∧ FrameEnd s o s₂ L ce sl := by
  obtain ⟨u, ⟨h1, o, h2, h3⟩, h4⟩ := h
  exact ⟨u, o, h4 u (Steps.refl _), h1, h2, h3⟩
section OwnStand
variable {p : Program} {l : Launch} {e : Env} {R : Room} {s : State} {m : MethodId} {args : Array Value} {below : List Frame} {meth : Method} {c : Code} {T : State} {locs : List Loc} {cells slots : Nat}
def Like (X : Stand p l e R s m args below meth c T locs cells slots) (T' : State) : Prop := Stand p l e R s m args below meth c T' locs cells slots
theorem Go.out (X : Stand p l e R s m args below meth c T locs cells slots) {v : Option Value} (hv : meth.sig.returnType = none → v = none) (hlocks : meth.locks = false) {g : JFrame} {ce sl : Nat} {Q : Option Value → Heap → List Loc → Prop}
    (st : ∀ fs : List Frame, (∀ (f : JFrame) (acts : List Action), f.method = m → f.locked = none → f.entered = [] → (doReturn e (T.setTop f) acts v).1 = T.setFrames fs) → Steps p.tables e below (T.setTop g) (T.setFrames fs))
    (hc : cells ≤ ce) (hs : slots ≤ sl) (q : Q v T.heap locs) : Go p.tables e below (Fin' s below ce sl Q) (T.setTop g) := by
  obtain ⟨fs, hr, hrun, hended, hW, hsame⟩ := X.leave (v := v) hv hlocks
  exact ⟨T.setFrames fs, ⟨hrun, _, hended, v, locs, rfl, q, ⟨_, rfl⟩, hW, hsame.mono hc hs⟩, fun t k => (st fs hr).trans k⟩
theorem Go.retI' (X : Stand p l e R s m args below meth c T locs cells slots) (hx : p.tables.exec = Jvm.exec) {pc : Nat} {Ls : Array Slot} {z : Int32} {rest : List Value} {t : FieldType} (hret : meth.sig.returnType = some t) (hlocks : meth.locks = false)
    (ht : t = .int ∨ t = .boolean ∨ t = .byte ∨ t = .char ∨ t = .short) (hn : narrow t (.int z) = .int z) (hd : decode c.code pc = .ok (.ireturn, 1)) {ce sl : Nat} {Q : Option Value → Heap → List Loc → Prop} (hc : cells ≤ ce) (hs : slots ≤ sl) (q : Q (some (.int z)) T.heap locs) :
    Go p.tables e below (Fin' s below ce sl Q) (T.setTop (mkF m pc Ls (.int z :: rest))) :=
  Go.out X (fun h => by rw [hret] at h; cases h) hlocks (fun _ hl => retOut X hx hret hn (Or.inl ⟨rfl, ht, z, rfl⟩) hd hl) hc hs q
theorem Go.retA' (X : Stand p l e R s m args below meth c T locs cells slots) (hx : p.tables.exec = Jvm.exec) {pc : Nat} {Ls : Array Slot} {w : Value} {rest : List Value} {t : FieldType} (hret : meth.sig.returnType = some t) (hlocks : meth.locks = false)
    (ht : t.isReference = true) (hw : w.isRef = true) (hd : decode c.code pc = .ok (.areturn, 1)) {ce sl : Nat} {Q : Option Value → Heap → List Loc → Prop} (hc : cells ≤ ce) (hs : slots ≤ sl) (q : Q (some w) T.heap locs) :
    Go p.tables e below (Fin' s below ce sl Q) (T.setTop (mkF m pc Ls (w :: rest))) :=
  Go.out X (fun h => by rw [hret] at h; cases h) hlocks (fun _ hl => retOut X hx hret (by cases t <;> first | (cases ht; done) | (rcases ref_cases hw with rfl | ⟨z, rfl⟩ <;> rfl)) (Or.inr (Or.inr (Or.inr (Or.inr ⟨rfl, ht, hw⟩)))) hd hl) hc hs q
theorem Go.retD' (X : Stand p l e R s m args below meth c T locs cells slots) (hx : p.tables.exec = Jvm.exec) {pc : Nat} {Ls : Array Slot} {z : UInt64} {rest : List Value} (hret : meth.sig.returnType = some .double) (hlocks : meth.locks = false)
    (hd : decode c.code pc = .ok (.dreturn, 1)) {ce sl : Nat} {Q : Option Value → Heap → List Loc → Prop} (hc : cells ≤ ce) (hs : slots ≤ sl) (q : Q (some (.double z)) T.heap locs) :
    Go p.tables e below (Fin' s below ce sl Q) (T.setTop (mkF m pc Ls (.double z :: rest))) :=
  Go.out X (fun h => by rw [hret] at h; cases h) hlocks (fun _ hl => retOut X hx hret rfl (Or.inr (Or.inr (Or.inl ⟨rfl, rfl, z, rfl⟩))) hd hl) hc hs q
theorem Go.retV' (X : Stand p l e R s m args below meth c T locs cells slots) (hx : p.tables.exec = Jvm.exec) {pc : Nat} {Ls : Array Slot} (hret : meth.sig.returnType = none) (hlocks : meth.locks = false)
    (hd : decode c.code pc = .ok (.return_, 1)) {ce sl : Nat} {Q : Option Value → Heap → List Loc → Prop} (hc : cells ≤ ce) (hs : slots ≤ sl) (q : Q none T.heap locs) :
    Go p.tables e below (Fin' s below ce sl Q) (T.setTop (mkF m pc Ls [])) :=
  Go.out X (fun _ => rfl) hlocks (fun _ hl => X.returnOut hx hret hd hl) hc hs q
theorem own_nil (X : Stand p l e R s m args below meth c T (locs ++ []) cells slots) : Stand p l e R s m args below meth c T locs cells slots := by rw [List.append_nil] at X; exact X
theorem own_pack {k : Nat} (X : Stand p l e R s m args below meth c T locs cells slots) (N : Fr k locs) : ∃ ll, Stand p l e R s m args below meth c T ll cells slots ∧ Fr k ll := ⟨_, X, N⟩
end OwnStand
abbrev vi (x : Int32) : Slot := .val (.int x)
abbrev vr (a : Addr) : Slot := .val (.ref a)
theorem own_nb {z : Int32} (h : z = 0 ∨ z = 1) : narrow .boolean (.int z) = .int z := by rcases h with rfl | rfl <;> rfl
theorem own_fb {z : Int32} (h : z = 0 ∨ z = 1) : fits .boolean (.int z) = true := by rcases h with rfl | rfl <;> rfl
theorem own_bb {x : Int32} : nar .byte (x.toInt8.toInt32) = x.toInt8.toInt32 := by show x.toInt8.toInt32.toInt8.toInt32 = x.toInt8.toInt32; simp
theorem own_nm (x : Int32) : nar .char (x &&& (255 : Int32)) = (x &&& (255 : Int32)) := i2c_mask x
theorem own_i2c {x : Int32} (h0 : ¬ x < (0 : Int32)) (h1 : ¬ (255 : Int32) < x) : x.toUInt32.toUInt16.toUInt32.toInt32 = x := by
  have a := c_i2c x
  have z0 : (0 : Int32).toInt = 0 := rfl
  have z1 : (255 : Int32).toInt = 255 := rfl
  rw [Int32.lt_iff_toInt_lt] at h0 h1
  rw [← Int32.toInt_inj]; omega
theorem own_nc {x : Int32} (h0 : ¬ x < (0 : Int32)) (h1 : ¬ (255 : Int32) < x) : nar .char x = x := own_i2c h0 h1
theorem own_b8 {x y : Int32} (h0 : ¬ x < (0 : Int32)) (h1 : ¬ (255 : Int32) < x) (h2 : ¬ y < (0 : Int32)) (h3 : ¬ (255 : Int32) < y) : (x.toInt8.toInt32) = (y.toInt8.toInt32) ↔ x = y := by
  have a := c_i2b x
  have b := c_i2b y
  have z0 : (0 : Int32).toInt = 0 := rfl
  have z1 : (255 : Int32).toInt = 255 := rfl
  rw [Int32.lt_iff_toInt_lt] at h0 h1 h2 h3
  rw [← Int32.toInt_inj, ← Int32.toInt_inj]; omega
theorem own_m (x : Int32) : ¬ (x &&& (255 : Int32)) < (0 : Int32) ∧ ¬ (255 : Int32) < (x &&& (255 : Int32)) := by
  have h := c_mask x 255 8 (by decide) (by decide)
  have z0 : (0 : Int32).toInt = 0 := rfl
  have z1 : (255 : Int32).toInt = 255 := rfl
  rw [Int32.lt_iff_toInt_lt, Int32.lt_iff_toInt_lt]; omega
theorem own_le {Z : State} {n0 : Nat} {h : Heap} (X : Old Z n0 h) : n0 ≤ h.size := X.1 ▸ X.2.1
abbrev S_1 : String := "java/util/TreeMap$Entry"
abbrev S_2 : String := "java/lang/Object"
abbrev S_3 : String := "java/lang/String"
abbrev S_4 : String := "java/util/ArrayList"
abbrev S_5 : String := "Ljava/util/TreeMap$Entry;"
abbrev S_6 : String := "java/util/TreeMap"
abbrev S_7 : String := "java/util/TreeMap$PrivateEntryIterator"
abbrev S_8 : String := "java/util/TreeSet"
abbrev S_9 : String := "[Ljava/lang/Object;"
abbrev S_10 : String := "java/util/AbstractList"
abbrev S_11 : String := "Ljava/lang/Object;"
abbrev S_12 : String := "java/util/TreeMap$KeySet"
abbrev S_13 : String := "Ljava/util/NavigableMap;"
abbrev S_14 : String := "java/util/Collections$UnmodifiableCollection"
abbrev S_15 : String := "java/util/Collections$UnmodifiableSet"
abbrev S_16 : String := "java/util/TreeMap$KeyIterator"
abbrev S_17 : String := "Ljava/util/Collection;"
abbrev S_18 : String := "java/lang/StringLatin1"
abbrev S_19 : String := "Ljava/util/TreeMap;"
abbrev S_20 : String := "java/util/Comparator"
abbrev S_21 : String := "java/util/NavigableMap"
abbrev S_22 : String := "java/util/Set"
abbrev S_23 : String := "java/lang/CharacterDataLatin1"
abbrev S_24 : String := "java/lang/invoke/MethodHandle"
abbrev S_25 : String := "java/lang/invoke/VarHandle"
abbrev S_26 : String := "com/example/usher/usher/ProfilesOfPinLaw"
abbrev S_27 : String := "Ljava/util/TreeMap$KeySet;"
abbrev S_28 : String := "java/util/Iterator"
abbrev S_29 : String := "Ljava/util/Comparator;"
abbrev S_30 : String := "java/util/AbstractCollection"
abbrev S_31 : String := "java/util/Collection"
theorem own_len {Z : State} {args : Array Value} {t : Term} {a : Addr} {cl : Cell} {ty : FieldType} {z : Int32} (ht : t.eval args Z none [] Z = some (.ref a)) (A : Arr Z Z.heap a cl ty) (h : (Term.length t).eval args Z none [] Z = some (.int z)) : cl.slots.size < 2 ^ 31 ∧ cl.slots.size.toInt32 = z := by
  have ha := Arr.fin (Vm.Alike.refl _) A
  by_cases q : cl.slots.size < 2 ^ 31
  · exact ⟨q, Value.int.inj (Option.some.inj ((len_f ht ha q).symm.trans h))⟩
  · exfalso; simp [Term.eval, ht, ha] at h; exact q (by omega)
theorem own_eqr {Z : State} {args : Array Value} {X F : Term} {a : Addr} (hF : F.eval args Z none [] Z = some (.ref a)) (h : (Cond.eq X F).value args Z none Z [] = some true) : X.eval args Z none [] Z = some (.ref a) := by
  obtain ⟨x, y', e1, e2, k1, k2⟩ := cmp_v (Or.inl h)
  cases hF.symm.trans e2
  have hx : x.isRef = true := k2.2
  have := gotT (eq_R e1 hF hx rfl) h
  rw [e1, this]
section OwnShort
variable {p : Program} {l : Launch} {e : Env} {R : Room} {s Z : State} {m : MethodId} {args a0 : Array Value} {below : List Frame} {meth : Method} {c : Code} {T target : State} {locs : List Loc} {cells slots : Nat} {H : Heap} {a : Addr} {ka : ClassId} {ty : FieldType} {z j : Int32} {vs : List Value} {d v : Value} {g : JFrame} {rest : List Value}
theorem own_bal (X : Stand p l e R s m args below meth c T locs cells slots) (hx : p.tables.exec = Jvm.exec) (hZ : Z.Warmed39 s.vm) (eT : T.heap = H) (V : Arv Z H a ka .byte z vs d) (hj : ¬ j < 0 ∧ j < z) (hv : vs.getD j.toNatClampNeg d = v) (hg : g.method = m) (hs : g.stack = .int j :: .ref a :: rest) (hd : decode c.code g.pc = .ok (.baload, 1))
    (k : Steps p.tables e below (T.setTop { g with pc := g.pc + 1, stack := v :: rest }) target) : Steps p.tables e below (T.setTop g) target := by
  obtain ⟨cl, A, -, S, -, Hs, -⟩ := V
  have hin := inb_of S hj
  exact X.baloadBytes hx (by rw [eT]; exact A.1) (State.isArrayOf_alike hZ.alike A.2.1) A.2.2 hin (Hs.at hin hv) hg hs hd _ k
theorem own_cal (X : Stand p l e R s m args below meth c T locs cells slots) (hx : p.tables.exec = Jvm.exec) (hZ : Z.Warmed39 s.vm) (eT : T.heap = H) (V : Arv Z H a ka .char z vs d) (hj : ¬ j < 0 ∧ j < z) (hv : vs.getD j.toNatClampNeg d = v) (hg : g.method = m) (hs : g.stack = .int j :: .ref a :: rest) (hd : decode c.code g.pc = .ok (.caload, 1))
    (k : Steps p.tables e below (T.setTop { g with pc := g.pc + 1, stack := v :: rest }) target) : Steps p.tables e below (T.setTop g) target := by
  obtain ⟨cl, A, -, S, -, Hs, -⟩ := V
  have hin := inb_of S hj
  exact X.caload hx (by rw [eT]; exact A.1) (State.isArrayOf_alike hZ.alike A.2.1) A.2.2 hin (Hs.at hin hv) hg hs hd _ k
theorem own_alen (X : Stand p l e R s m args below meth c T locs cells slots) (hx : p.tables.exec = Jvm.exec) (hZ : Z.Warmed39 s.vm) (eT : T.heap = H) (V : Arv Z H a ka ty z vs d) (hg : g.method = m) (hs : g.stack = .ref a :: rest) (hd : decode c.code g.pc = .ok (.arraylength, 1))
    (k : Steps p.tables e below (T.setTop { g with pc := g.pc + 1, stack := .int z :: rest }) target) : Steps p.tables e below (T.setTop g) target := by
  obtain ⟨cl, A, -, S, P, -, -⟩ := V
  rw [← len_of S P] at k
  exact X.arraylength hx (by rw [eT]; exact A.1) (State.isArrayOf_alike hZ.alike A.2.1) hg hs hd _ k
end OwnShort
theorem own_w {Z : State} {a0 : Array Value} (hw : ∀ d ∈ tables_1, d.before a0 Z = true) (i : Nat) {d : Jvm.Cond} (h : tables_1[i]? = some d) : d.before a0 Z = true := hw _ (List.mem_of_getElem? h)
theorem own_hd {p : Program} {l : Launch} {x : MethodName} {ws : List Jvm.Cond} {rm : Room} {code : ByteArray} {maxL : Nat} {ret : Option FieldType} {e : Env} {s s₁ : State} {m : MethodId} {args : Array Value} {below : List Frame} {meth : Method} {c : Code} {h0 : Heap} (Bd : BodyLoose p l x (head1 ws rm) code maxL ret e s m args below meth c s₁) (hh : s.heap = h0) :
    p.tables.exec = Jvm.exec ∧ c.code = code ∧ meth.locks = false ∧ s.vm.findClass x.cls = some m.cls ∧ meth.name = x.name ∧ meth.sig.returnType = ret ∧ Stand p l e rm s m args below meth c s₁ [] 0 0 ∧ s₁.heap = h0 :=
  ⟨Bd.exec, Bd.bytes, Bd.notSynchronized, findClass_of_methodNamed Bd.named, (name_of_methodNamed Bd.named Bd.method).1, Bd.returns, Stand.of_body Bd, by rw [← hh, Bd.state]; rfl⟩
def tabI : List (Int32 × Int32) := [(0, 1207963663), (1, 1207963663), (2, 1207963663), (3, 1207963663), (4, 1207963663), (5, 1207963663), (6, 1207963663), (7, 1207963663), (8, 1207963663), (9, 1476411407), (10, 1342193679), (11, 1476411407), (12, 1610629135), (13, 1342193679), (14, 1207963663), (15, 1207963663), (16, 1207963663), (17, 1207963663), (18, 1207963663), (19, 1207963663), (20, 1207963663), (21, 1207963663), (22, 1207963663), (23, 1207963663), (24, 1207963663), (25, 1207963663), (26, 1207963663), (27, 1207963663), (28, 1342193679), (29, 1342193679), (30, 1342193679), (31, 1476411407), (32, 1610629132), (33, 1744830488), (34, 1744830488), (35, 671088664), (36, 671113242), (37, 671088664), (38, 1744830488), (39, 1744830488), (40, (-402653163)), (41, (-402653162)), (42, 1744830488), (43, 536870937), (44, 939524120), (45, 536870932), (46, 939524120), (47, 939524120), (48, 402667017), (49, 402667017), (50, 402667017), (51, 402667017), (52, 402667017), (53, 402667017), (54, 402667017), (55, 402667017), (56, 402667017), (57, 402667017), (58, 939524120), (59, 1744830488), (60, (-402653159)), (61, 1744830489), (62, (-402653159)), (63, 1744830488), (64, 1744830488), (65, 8552417), (66, 8552417), (67, 8552417), (68, 8552417), (69, 8552417), (70, 8552417), (71, 8552417), (72, 8552417), (73, 8552417), (74, 8552417), (75, 8552417), (76, 8552417), (77, 8552417), (78, 8552417), (79, 8552417), (80, 8552417), (81, 8552417), (82, 8552417), (83, 8552417), (84, 8552417), (85, 8552417), (86, 8552417), (87, 8552417), (88, 8552417), (89, 8552417), (90, 8552417), (91, (-402653163)), (92, 1744830488), (93, (-402653162)), (94, 1744830491), (95, 1744850967), (96, 1744830491), (97, 8486882), (98, 8486882), (99, 8486882), (100, 8486882), (101, 8486882), (102, 8486882), (103, 8486882), (104, 8486882), (105, 8486882), (106, 8486882), (107, 8486882), (108, 8486882), (109, 8486882), (110, 8486882), (111, 8486882), (112, 8486882), (113, 8486882), (114, 8486882), (115, 8486882), (116, 8486882), (117, 8486882), (118, 8486882), (119, 8486882), (120, 8486882), (121, 8486882), (122, 8486882), (123, (-402653163)), (124, 1744830489), (125, (-402653162)), (126, 1744830489), (127, 1207963663), (128, 1207963663), (129, 1207963663), (130, 1207963663), (131, 1207963663), (132, 1207963663), (133, 1342181391), (134, 1207963663), (135, 1207963663), (136, 1207963663), (137, 1207963663), (138, 1207963663), (139, 1207963663), (140, 1207963663), (141, 1207963663), (142, 1207963663), (143, 1207963663), (144, 1207963663), (145, 1207963663), (146, 1207963663), (147, 1207963663), (148, 1207963663), (149, 1207963663), (150, 1207963663), (151, 1207963663), (152, 1207963663), (153, 1207963663), (154, 1207963663), (155, 1207963663), (156, 1207963663), (157, 1207963663), (158, 1207963663), (159, 1207963663), (160, 939524108), (161, 1744830488), (162, 671113242), (163, 671113242), (164, 671113242), (165, 671113242), (166, 1744830492), (167, 1744830488), (168, 1744830491), (169, 1744830492), (170, 28677), (171, (-402653155)), (172, 1744830489), (173, 1207963664), (174, 1744830492), (175, 1744830491), (176, 671088668), (177, 671088665), (178, 402654731), (179, 402654731), (180, 1744830491), (181, 134049794), (182, 1744830488), (183, 1744830488), (184, 1744830491), (185, 402654475), (186, 28677), (187, (-402653154)), (188, 1744832523), (189, 1744832523), (190, 1744832523), (191, 1744830488), (192, 8548353), (193, 8548353), (194, 8548353), (195, 8548353), (196, 8548353), (197, 8548353), (198, 8548353), (199, 8548353), (200, 8548353), (201, 8548353), (202, 8548353), (203, 8548353), (204, 8548353), (205, 8548353), (206, 8548353), (207, 8548353), (208, 8548353), (209, 8548353), (210, 8548353), (211, 8548353), (212, 8548353), (213, 8548353), (214, 8548353), (215, 1744830489), (216, 8548353), (217, 8548353), (218, 8548353), (219, 8548353), (220, 8548353), (221, 8548353), (222, 8548353), (223, 134049794), (224, 8482818), (225, 8482818), (226, 8482818), (227, 8482818), (228, 8482818), (229, 8482818), (230, 8482818), (231, 8482818), (232, 8482818), (233, 8482818), (234, 8482818), (235, 8482818), (236, 8482818), (237, 8482818), (238, 8482818), (239, 8482818), (240, 8482818), (241, 8482818), (242, 8482818), (243, 8482818), (244, 8482818), (245, 8482818), (246, 8482818), (247, 1744830489), (248, 8482818), (249, 8482818), (250, 8482818), (251, 8482818), (252, 8482818), (253, 8482818), (254, 8482818), (255, 102592514)]
def tabW (q : Int32 × Int32) : Jvm.Cond := Jvm.Cond.eq (Jvm.Term.elem (Jvm.Term.static S_23 "A" "[I") (Jvm.Term.int q.1)) (Jvm.Term.int q.2)
set_option maxRecDepth 200000 in
theorem own_tab : (jdkStatics_1.drop 26).take 256 = tabI.map tabW := rfl
theorem own_tabn : ∀ n : Nat, n < 256 → (tabI.getD n (0, 0)).1.toNatClampNeg = n ∧ ¬ (tabI.getD n (0, 0)).1 < 0 := by decide +kernel
theorem own_tabl : tabI.length = 256 := by decide +kernel
def tv (x : Int32) : Int32 := (tabI.getD x.toNatClampNeg (0, 0)).2
def Ws (y : Int32) : Prop := (¬ y < (9 : Int32) ∧ ¬ (13 : Int32) < y) ∨ (¬ y < (28 : Int32) ∧ ¬ (31 : Int32) < y) ∨ y = (32 : Int32)
instance (y : Int32) : Decidable (Ws y) := by unfold Ws; infer_instance
def TA (Z : State) (wA : Addr) (cA : Cell) : Prop := Arr Z Z.heap wA cA .int ∧ cA.slots.size = 256 ∧ ∀ n : Nat, n < 256 → cA.slots[n]? = some (.int (tabI.getD n (0, 0)).2)
theorem own_TA {Z : State} {args : Array Value} {wA : Addr} {cA : Cell} (ev : (Jvm.Term.static S_23 "A" "[I").eval args Z none [] Z = some (.ref wA)) (A : Arr Z Z.heap wA cA .int) (h1 : cA.slots.size < 2 ^ 31) (h2 : cA.slots.size.toInt32 = (256 : Int32)) (h : ∀ d ∈ jdkStatics_1, d.before args Z = true) : TA Z wA cA := by
  refine ⟨A, ?_, fun n hn => ?_⟩
  · have := congrArg Int32.toInt h2
    rw [len_toInt h1] at this
    have z : (256 : Int32).toInt = 256 := rfl
    omega
  · have hm : tabI.getD n (0, 0) ∈ tabI := by rw [List.getD_eq_getElem?_getD, List.getElem?_eq_getElem (by rw [own_tabl]; exact hn)]; exact List.getElem_mem _
    have hw := h _ (List.mem_of_mem_drop (List.mem_of_mem_take (own_tab ▸ List.mem_map_of_mem (f := tabW) hm)))
    obtain ⟨t1, t2⟩ := own_tabn n hn
    have q := eqv_i (Term.int_eval _) (Cond.before_iff.mp hw)
    rw [← t1, ← elem_f ev (Term.int_eval _) (A.fin (Vm.Alike.refl _)) t2]
    rw [t1]; exact q
theorem own_wsn : ∀ n : Nat, n < 256 → ((((tabI.getD n (0, 0)).2 &&& (28672 : Int32)) = (16384 : Int32)) ↔ Ws n.toInt32) := by decide +kernel
theorem own_u8n : ∀ n : Nat, n < 256 → ((n.toInt32).toInt8.toInt32 &&& (255 : Int32)) = n.toInt32 := by decide +kernel
theorem own_nn {x : Int32} (h0 : ¬ x < (0 : Int32)) (h1 : ¬ (255 : Int32) < x) : ∃ n : Nat, n < 256 ∧ x = n.toInt32 ∧ x.toNatClampNeg = n := by
  have z0 : (0 : Int32).toInt = 0 := rfl
  have z1 : (255 : Int32).toInt = 255 := rfl
  rw [Int32.lt_iff_toInt_lt] at h0 h1
  obtain ⟨n, hn⟩ : ∃ n : Nat, x.toInt = n := ⟨_, (Int.toNat_of_nonneg (by omega)).symm⟩
  have hx : x = n.toInt32 := by rw [← Int32.toInt_inj, hn, len_toInt (by omega)]
  exact ⟨n, by omega, hx, by simp only [Int32.toNatClampNeg]; omega⟩
theorem own_u8 {x : Int32} (h0 : ¬ x < (0 : Int32)) (h1 : ¬ (255 : Int32) < x) : ((x.toInt8.toInt32) &&& (255 : Int32)) = x := by
  obtain ⟨n, a, rfl, -⟩ := own_nn h0 h1
  exact own_u8n n a
theorem own_ws {x : Int32} (h0 : ¬ x < (0 : Int32)) (h1 : ¬ (255 : Int32) < x) : ((tv x &&& (28672 : Int32)) = (16384 : Int32)) ↔ Ws x := by
  obtain ⟨n, a, b, c⟩ := own_nn h0 h1
  have := own_wsn n a
  rw [tv, c, this, b]
theorem own_tvr {x : Int32} (h0 : ¬ x < (0 : Int32)) (h1 : ¬ (255 : Int32) < x) : ¬ x < 0 ∧ x < (256 : Int32) := by
  have z0 : (0 : Int32).toInt = 0 := rfl
  have z1 : (255 : Int32).toInt = 255 := rfl
  have z2 : (256 : Int32).toInt = 256 := rfl
  simp only [Int32.lt_iff_toInt_lt] at *
  omega
theorem own_w9 {y : Int32} (h : y = (9 : Int32)) : Ws y := by subst h; decide
theorem own_w32 {y : Int32} (h : y = (32 : Int32)) : Ws y := by subst h; decide
section OwnUp
variable {p : Program} {l : Launch} {e : Env} {R : Room} {s Z : State} {m : MethodId} {args a0 : Array Value} {below : List Frame} {meth : Method} {c : Code} {T : State} {locs : List Loc} {cells slots : Nat} {h : Heap}
/-- the class called C has its mirror at a -/
def Mir (Z : State) (C : String) (a : Addr) : Prop := ∃ (c : ClassId) (k : Class), Z.vm.findClass C = some c ∧ Z.vm.classes[c]? = some k ∧ k.mirror = some a ∧ ∃ cell : Cell, Z.heap[a]? = some cell ∧ cell.vm = .mirror c
theorem own_ldcM (X : Stand p l e R s m args below meth c T locs cells slots) (hx : p.tables.exec = Jvm.exec) (hZ : Z.Warmed39 s.vm) {own C : String} {index : Nat} {a : Addr} (hown : s.vm.findClass own = some m.cls) (w : (Cond.classLink own index C).before a0 Z = true) (M : Mir Z C a) (eT : T.heap = h)
    {g : JFrame} (hg : g.method = m) (hd : decode c.code g.pc = .ok (.ldc index, 2)) :
    ∃ T', Stand p l e R s m args below meth c T' locs cells slots ∧ T'.heap = h ∧ ∀ target, Steps p.tables e below (T'.setTop { g with pc := g.pc + 2, stack := .ref a :: g.stack }) target → Steps p.tables e below (T.setTop g) target := by
  obtain ⟨cc, k, h1, h2, h3, -⟩ := M
  obtain ⟨k', q, ek⟩ := hZ.alike.2.2 _ _ h2
  have hm : k'.mirror = some a := by rw [ek]; exact h3
  obtain ⟨vm', X', st⟩ := X.ldcMirror hx hown (mvT hZ w) (C := C) (a := a) (by
    simp [Term.eval, hZ.alike.findClass, h1, q, hm]) hg hd
  exact ⟨_, X', eT, st⟩
/-- getClass() through an interface, on an object of exactly C -/
theorem own_getC (X : Stand p l e R s m args below meth c T locs cells slots) (hx : p.tables.exec = Jvm.exec) (hZ : Z.Warmed39 s.vm) {own C : String} {index count : Nat} {xi : MethodName} (hown : s.vm.findClass own = some m.cls)
    (w1 : (Cond.methodLink own index xi).before a0 Z = true) (w2 : (Cond.declares Jvm.Stand.gcN).before a0 Z = true) (w3 : (Cond.interfaceMethod xi.cls S_2 xi.name xi.desc).before a0 Z = true) (w4 : (Cond.selects C xi Jvm.Stand.gcN).before a0 Z = true) (w5 : (Cond.instanceMethod Jvm.Stand.gcN).before a0 Z = true)
    (w6 : (Cond.publicMethod Jvm.Stand.gcN).before a0 Z = true) (w7 : (Cond.unhidden C xi.name xi.desc).before a0 Z = true) (w8 : (Cond.castable C xi.cls).before a0 Z = true) (w9 : (Cond.native Jvm.Stand.gcN).before a0 Z = true)
    (hxx : xi.cls ≠ S_24 ∧ xi.cls ≠ S_25) (hxo : xi.cls ≠ S_2) (hname : xi.name = "getClass") (hdesc : xi.desc = "()Ljava/lang/Class;")
    (eT : T.heap = h) {b : Addr} (E : Exa Z h b C) {mir : Addr} (M : Mir Z C mir)
    {g : JFrame} (hg : g.method = m) (hsize : g.locals.size = c.maxLocals) {rest : List Value} (hs : g.stack = .ref b :: rest) (hd : decode c.code g.pc = .ok (.invokeinterface index count, 5))
    (hfr : 1 ≤ R.frames) {W : Nat} (hW : 2 * g.monitorRoom + (rest.map fun v => v.category).sum ≤ W) (hlo : W + (nativeFrameWords S_2 "getClass" 1 + 11) ≤ R.locals) :
    ∃ T', Stand p l e R s m args below meth c T' locs cells slots ∧ T'.heap = h ∧ ∀ target, Steps p.tables e below (T'.setTop { g with pc := g.pc + 5, stack := .ref mir :: rest }) target → Steps p.tables e below (T.setTop g) target := by
  obtain ⟨cc, k, h1, h2, h3, -⟩ := M
  obtain ⟨k', q, ek⟩ := hZ.alike.2.2 _ _ h2
  have hm : k'.mirror = some mir := by rw [ek]; exact h3
  obtain ⟨cB, kB, q1, q2, q3⟩ := isOf hZ eT E
  cases q1.symm.trans ((hZ.alike.findClass _ _).trans h1)
  cases q2.symm.trans q
  obtain ⟨vm', X', st⟩ := X.getClassOfI hx (C := C) hown (mvT hZ w1) (mvT hZ w2) (Jvm.Free.ULB.iface_rides hZ.alike w3) (mvT hZ w4) (mvT hZ w5) (mvT hZ w6) (mvT hZ w7) (mvT hZ w8) (mvT hZ w9) hxx hxo hname hdesc q1 q2 q3 hm hg hsize hs hd hfr (Nat.le_trans (Nat.add_le_add_right hW _) hlo)
  exact ⟨_, X', eT, st⟩
/-- two interfaces' references that come to one method of O: what C selects for the one it selects for the other -/
theorem own_selX {C O : String} {x x' y : MethodName} (hs : (Cond.selects C x y).before a0 Z = true) (h1 : (Cond.interfaceMethod x.cls O x.name x.desc).before a0 Z = true) (h2 : (Cond.interfaceMethod x'.cls O x'.name x'.desc).before a0 Z = true) (hn : x'.name = x.name) (hd : x'.desc = x.desc) : (Cond.selects C x' y).before a0 Z = true := by
  obtain ⟨c1, k1, r1, a1, a2, a3, a4, a5⟩ := Cond.interfaceMethod_spec h1
  obtain ⟨c2, k2, r2, b1, b2, b3, b4, b5⟩ := Cond.interfaceMethod_spec h2
  rw [hn, hd] at b5
  cases a5.symm.trans b5
  rw [hn, hd] at b4
  have q := hs
  simp only [Cond.before, Cond.holds, Cond.value, a4] at q
  simp only [Cond.before, Cond.holds, Cond.value, hn, hd, b4]
  exact q
theorem own_mir {C : String} (h : Jvm.D.MirrorMade Z C) : ∃ a, Mir Z C a := by
  obtain ⟨c, k, a, h1, h2, h3⟩ := h
  exact ⟨a, c, k, h1, h2, h3⟩
theorem own_mne {C D : String} {a b : Addr} (M : Mir Z C a) (N : Mir Z D b) (h : C ≠ D) : a ≠ b := fun q => by
  subst q
  obtain ⟨c, k, h1, h2, -, cl, h3, h4⟩ := M
  obtain ⟨d, k', g1, g2, -, cl', g3, g4⟩ := N
  cases h3.symm.trans g3
  have e : c = d := by rw [h4] at g4; cases g4; rfl
  subst e
  obtain ⟨k1, q1, q2⟩ := Vm.findClass_spec h1
  obtain ⟨k2, r1, r2⟩ := Vm.findClass_spec g1
  cases q1.symm.trans r1
  exact h (q2.symm.trans r2)
/-- an interface's entry whose method a superinterface declares, by the entry's own road of access: read off the word's own text -/
theorem own_link {cls : String} {x : MethodName} {index d c : Nat} {ck ok : Class} {mt : Method} {mf : MethodId} (hd : s.vm.findClass cls = some d) (hc : s.vm.findClass x.cls = some c) (hck : s.vm.classes[c]? = some ck) (hvi : ck.isInterface = true) (hno : ck.findMethod x.name x.desc = none) (hf : s.methodFound? x.cls x.name x.desc = some mf) (hok : s.vm.classes[mf.cls]? = some ok) (hm : ok.methods[mf.idx]? = some mt) (hx : x.cls ≠ S_24 ∧ x.cls ≠ S_25) (hcl : x.name ≠ "clone")
    (h : (Cond.methodLink cls index x).before args s = true) (pl : Platform) (hpl : pl.magicAccessors = ({} : Platform).magicAccessors) : ∃ ci, s.vm.MethodLinksFF pl d index ci c mf ∧ s.rightAt d index (.method mf) = true := by
  have hE : ∃ dk cf ci nt, s.vm.classes[d]? = some dk ∧ dk.cf = some cf ∧ cf.constantPool[index]? = some (.interfaceMethodref ci nt) := by
    cases hdk : s.vm.classes[d]? with
    | none => simp [Cond.before, Cond.holds, Cond.value, State.memberEntry?, State.poolOf?, hd, hdk] at h
    | some dk =>
      cases hcf : dk.cf with
      | none => simp [Cond.before, Cond.holds, Cond.value, State.memberEntry?, State.poolOf?, hd, hdk, hcf] at h
      | some cf =>
        cases he : cf.constantPool[index]? with
        | none => simp [Cond.before, Cond.holds, Cond.value, State.memberEntry?, State.poolOf?, hd, hdk, hcf, he] at h
        | some i => cases i <;> first | exact ⟨dk, cf, _, _, rfl, hcf, he⟩ | (simp [Cond.before, Cond.holds, Cond.value, State.memberEntry?, State.poolOf?, Vm.method?, Option.bind_eq_some_iff, hd, hc, hf, hdk, hcf, he, hck, hvi, hok, hm] at h)
  obtain ⟨dk, cf, ci, nt, hdk, hcf, he⟩ := hE
  simp [Cond.before, Cond.holds, Cond.value, State.memberEntry?, State.poolOf?, Vm.method?, Option.bind_eq_some_iff, hd, hc, hf, hdk, hcf, he, hck, hvi, hok, hm, hx, hcl] at h
  obtain ⟨hli, ⟨⟨hn, ho⟩, hlo⟩, hac⟩ := h
  have hw : namesOf? cf.constantPool index = some (.method x.cls x.name x.desc) := by simpa [State.names, State.poolOf?, hd, hdk, hcf] using hn
  obtain ⟨hnt, hcn⟩ : cf.constantPool.nameAndType? nt = some (x.name, x.desc) ∧ cf.constantPool.className? ci = some x.cls := by
    simp [namesOf?, he, Option.bind_eq_some_iff] at hw
    obtain ⟨a, b, q, z, r, rfl, rfl, rfl⟩ := hw
    exact ⟨q, r⟩
  obtain ⟨c', hc', hL⟩ := State.classLinks_spec hd hli pl hpl
  have hcc : c = c' := Option.some.inj (hc.symm.trans hc')
  subst hcc
  have hp : ∀ y, signaturePolymorphic ck y = false := by
    obtain ⟨k, q, n⟩ := Vm.findClass_spec hc
    rw [hck] at q
    cases q
    simp [signaturePolymorphic, n, hx]
  have hlk : dk.loader = ok.loader := by
    obtain ⟨k, _, _, _, q, _, n, _⟩ := hL.here
    rw [hdk] at q
    cases q
    rw [n, hlo]
  refine ⟨ci, ⟨dk, cf, nt, _, _, ck, ok, mt, hdk, hcf, he, hnt, hL, ?_, hck, hvi, hp, hno, State.faceFind_of_found hc hck hvi hp hno hf, hok, hm, hlk, ?_, State.openOr_spec hd hdk ho⟩, ?_⟩
  · rintro rfl
    simp [ConstantPool.className?, he] at hcn
  · simpa [Vm.Plain, plainAccess, and_assoc, or_assoc] using hac
  · simp [State.rightAt, hdk, hcf, hw, hf]
/-- the instruction at such an entry: the receiver's own method mk is called -/
theorem own_ifE (X : Stand p l e R s m args below meth c T locs cells slots) (hexec : p.tables.exec = Jvm.exec) {index count ci cI cB b : Nat} {r0 mk : MethodId} {r mM : Method} {kB : Class} (hl : s.vm.MethodLinksFF e.platform m.cls index ci cI r0) (hr : s.rightAt m.cls index (.method r0) = true) (hrm : s.vm.method? r0 = some r) (hrs : r.isStatic = false) (hmM : s.vm.method? mk = some mM) (hpub : hasFlag mM.accessFlags Acc.public_ = true) (hab : mM.isAbstract = false)
    (hkB : s.vm.classes[cB]? = some kB) (hb : IsOf cB T b) (hca : s.vm.assignable cB cI = true) (hse : selectMethod {} s.vm cB r0 = .method mk) (hun : ((cB :: s.vm.superclasses cB).any fun k => (declaredIn s.vm r.name r.desc k).any fun (_, y) => y.isPrivate || y.isStatic) = false)
    {g : JFrame} (hg : g.method = m) {argsL rest : List Value} (hlen : argsL.length = r.sig.parameters.length) (hstack : g.stack = argsL.reverse ++ .ref b :: rest) (hdg : decode c.code g.pc = .ok (.invokeinterface index count, 5)) :
    ∃ vm₁, Stand p l e R s m args below meth c (T.setVm vm₁) locs cells slots ∧ ∀ acts, Steps p.tables e below (T.setTop g) (doInvoke e ((T.setVm vm₁).setTop { g with stack := rest }) acts mk (.ref b :: argsL).toArray).1 := by
  subst hg
  have hE := State.methodEntryFF X.warmed hl hr
  refine ⟨_, X.noted hE.warmed, fun acts => ?_⟩
  have al := hE.warmed.alike
  obtain ⟨cell, hcell, rfl, hns⟩ := hb
  have hw : ∀ {Q : Unit → Pre} {E : CtlPost} {d : Bool} {ac : List Action}, wp (invokeinterface.sem index count) Q E e d ac (T.setTop g) ↔ E (.invoke mk (.ref b :: argsL).toArray) ac ((T.setVm (T.vm.calledUp g.method.cls ci index cI r0)).setTop { g with stack := rest }) := by
    intro Q E d ac
    obtain ⟨dk, cf, nt, _, _, ck, _, _, h1, h2, h3, -, -, -, h4, h5, -⟩ := hl.here
    obtain ⟨dk', h1', e1⟩ := al.2.2 _ _ h1
    obtain ⟨ck', h4', e4⟩ := al.2.2 _ _ h4
    obtain ⟨kB', hkB', -⟩ := al.2.2 _ _ hkB
    obtain ⟨k, hk, hres⟩ := hE.classReady
    cases h1'.symm.trans hk
    refine (invokeinterface.wp_coldFace X.here.top X.warmed hE h1 h2 (.inr h3) h4 h5).trans (invokeinterface.wp_ready (meth := mM) (r := r) (cell := cell) (s := T.setVm _) X.here.top hE.ready ?_ hrs hlen hstack hcell ?_ hkB' h1' ?_ h3 hres h4' ?_ ?_ ?_ ?_ (.inr (.inr ?_)) (.inl hpub) hab)
    · exact (al.method? r0).trans hrm
    · intro z q; rw [q] at hns; exact Bool.noConfusion hns
    · rw [e1]; exact h2
    · rw [e4]; exact h5
    · exact (al.assignable _ _).trans hca
    · exact (al.selectMethod _ _ _).trans ((Launch.admits_selectMethod X.admits _ _ _).trans hse)
    · exact (al.method? mk).trans hmM
    · simpa only [State.vm_setVm, al.superclasses, al.declaredIn] using hun
  jvm_step X.here [hexec, hdg, hw]
  intro ac
  rw [doInvoke_state e _ ac, doInvoke_state e _ acts]
  exact Steps.refl _
theorem own_ifUp (X : Stand p l e R s m args below meth c T locs cells slots) (hexec : p.tables.exec = Jvm.exec) {own C J : String} {index count : Nat} {xi y : MethodName} (hown : s.vm.findClass own = some m.cls) (hlink : (Cond.methodLink own index xi).before args s = true) (hdecl : (Cond.declares ⟨J, xi.name, xi.desc⟩).before args s = true) (hface : (Cond.interfaceMethod xi.cls J xi.name xi.desc).before args s = true) (hxo : xi.cls ≠ J) (hcl : xi.name ≠ "clone")
    (hsel : (Cond.selects C xi y).before args s = true) (hinst : (Cond.instanceMethod y).before args s = true) (hpub : (Cond.publicMethod y).before args s = true) (hunh : (Cond.unhidden C xi.name xi.desc).before args s = true) (hcast : (Cond.castable C xi.cls).before args s = true) (hx : xi.cls ≠ S_24 ∧ xi.cls ≠ S_25)
    {W : Nat} {Pre : Pt → Array Value → Prop} {Post : Pt → Array Value → Option Value → Pt → Prop} (hK : Back l R p e below s args y 5 W Pre Post) {b : Addr} {cB : ClassId} {kB : Class} (hcB : s.vm.findClass C = some cB) (hkB : s.vm.classes[cB]? = some kB) (hrecv : IsOf cB T b)
    {g : JFrame} (hg : g.method = m) (hsize : g.locals.size = c.maxLocals) {s₀ : State} (hcome : Steps p.tables e below s₀ (T.setTop g)) {argsL rest : List Value} (hlen : ∀ sig, parseMethodDescriptor xi.desc = some sig → argsL.length = sig.parameters.length) (hstack : g.stack = argsL.reverse ++ .ref b :: rest) (hW : 2 * g.monitorRoom + (rest.map fun v => v.category).sum ≤ W)
    (hdg : decode c.code g.pc = .ok (.invokeinterface index count, 5)) (hpre : ∀ vm₁, s.WarmedH vm₁ → Pre ⟨T.setVm vm₁, locs, cells, slots⟩ (.ref b :: argsL).toArray) :
    ∃ (v : Option Value) (vm₁ : Vm) (B : Pt), s.WarmedH vm₁ ∧ Stand p l e R s m args below meth c B.U B.locs B.cells B.slots ∧ Post ⟨T.setVm vm₁, locs, cells, slots⟩ (.ref b :: argsL).toArray v B ∧ Steps p.tables e below s₀ (B.U.setTop { g with pc := g.pc + 5, stack := v.toList ++ rest }) := by
  obtain ⟨cI, kI, r0, hcI, hkI, hiI, hfI, hn⟩ := Cond.interfaceMethod_spec hface
  obtain ⟨r1, r, hn', hrm, hrs, hsig⟩ := Cond.declares_spec hdecl
  obtain ⟨mk, mM, hy, hmM, -, hab⟩ := Cond.instanceMethod_spec hinst
  have q1 : r1 = r0 := Option.some.inj (hn'.symm.trans hn)
  subst q1
  have hse : selectMethod {} s.vm cB r1 = .method mk := by
    obtain ⟨_, _, _, a1, a2, a3, a4, -⟩ := Cond.selects_spec hsel
    rw [hcB] at a1; rw [hfI] at a2; rw [hy] at a3
    cases a1; cases a2; cases a3
    exact a4
  have hca : s.vm.assignable cB cI = true := by
    obtain ⟨_, _, a1, a2, a3⟩ := Cond.castable_spec hcast
    rw [hcB] at a1; rw [hcI] at a2
    cases a1; cases a2
    exact a3
  obtain ⟨ok, hok, hJ⟩ := className_of_methodNamed hn
  obtain ⟨hr1, hr2⟩ := name_of_methodNamed hn hrm
  have hmr : ok.methods[r1.idx]? = some r := by simpa [Vm.method?, hok] using hrm
  have hno : kI.findMethod xi.name xi.desc = none := by
    obtain ⟨k, a1, a2⟩ := Vm.findClass_spec hcI
    rw [hkI] at a1
    cases a1
    refine Option.eq_none_iff_forall_ne_some.mpr fun j hj => hxo ?_
    have hlt : (kI.methods[j]?).isSome := by simp [(Array.findIdx?_eq_some_iff_getElem.mp hj).1]
    have a3 := (State.methodFound?_declared hcI hkI (fun z => by simp [signaturePolymorphic, a2, hx]) hj hlt).symm.trans hfI
    cases a3
    rw [hkI] at hok
    cases hok
    exact a2.symm.trans hJ
  obtain ⟨ci, hl, hr⟩ := own_link hown hcI hkI hiI hno hfI hok hmr hx hcl hlink e.platform (by rw [X.admits.platform])
  obtain ⟨vm₁, Y, hst⟩ := own_ifE X hexec hl hr hrm hrs hmM (Cond.publicMethod_spec hy hmM hpub) hab hkB hrecv hca hse (by rw [hr1, hr2]; exact Cond.unhidden_spec hcB hunh) hg (hlen _ hsig) hstack hdg
  obtain ⟨v, B, Y', hP, hS⟩ := hK m meth c ⟨_, locs, cells, slots⟩ { g with stack := rest } _ mk _ Y hg hsize hdg hW (Y.named hy) (hpre vm₁ Y.warmed)
  exact ⟨v, vm₁, B, Y.warmed, Y', hP, (hcome.trans (hst [])).trans hS⟩
end OwnUp
def Gh (Z : State) (vcs : Int32) (wI : Addr) (wA : Addr) (cA : Cell) (vF : Value) (wP : Addr) (wD : Addr) (kD : ClassId) (wE : Addr) (kE : ClassId) (mT : Addr) (mU : Addr) (mL : Addr) (mO : Addr) : Prop := (Sta Z Z.heap S_3 "COMPACT_STRINGS" "Z" (.int vcs)) ∧ (¬ (vcs = (0 : Int32))) ∧ (Sta Z Z.heap S_23 "instance" "Ljava/lang/CharacterDataLatin1;" (.ref wI)) ∧ (Exa Z Z.heap wI S_23) ∧ (Sta Z Z.heap S_23 "A" "[I" (.ref wA)) ∧ (TA Z wA cA) ∧ (Sta Z Z.heap "jdk/internal/util/Preconditions" "SIOOBE_FORMATTER" "Ljava/util/function/BiFunction;" vF) ∧ (vF.isRef = true) ∧ (Sta Z Z.heap S_8 "PRESENT" S_11 (.ref wP)) ∧ (Exa Z Z.heap wP S_2) ∧ (Sta Z Z.heap S_4 "DEFAULTCAPACITY_EMPTY_ELEMENTDATA" S_9 (.ref wD)) ∧ (Exa Z Z.heap wD S_9) ∧ (Arv Z Z.heap wD kD (.object S_2) (0 : Int32) [] Value.null) ∧ (Sta Z Z.heap S_4 "EMPTY_ELEMENTDATA" S_9 (.ref wE)) ∧ (Exa Z Z.heap wE S_9) ∧ (Arv Z Z.heap wE kE (.object S_2) (0 : Int32) [] Value.null) ∧ (Mir Z S_8 mT) ∧ (Mir Z S_15 mU) ∧ (Mir Z S_4 mL) ∧ (Mir Z S_9 mO) ∧ (mT ≠ mU) ∧ (mT ≠ mL) ∧ (mU ≠ mL)
/-! walks that may load String constants: what a walk bears besides its Stand -/
def Sb (Z : State) (EL : List (String × Nat)) (own : String) (cls : ClassId) (s : State) (vm0 : Vm) (h0 H : Heap) : Prop :=
  ∃ k0, s.Since vm0 k0 ∧ k0 ≤ H.size ∧ Z.Warmed39 vm0 ∧ vm0.findClass own = some cls ∧ CHr Z EL s.vm h0 vm0 H
section OwnS
variable {Z s : State} {EL : List (String × Nat)} {own : String} {cls : ClassId} {vm0 : Vm} {h0 H H' : Heap} {a0 : Array Value}
theorem Sb.start (hZ : Z.Warmed39 s.vm) (ho : s.vm.findClass own = some cls) (hC : CHv Z EL s.vm h0) : Sb Z EL own cls s s.vm h0 h0 := ⟨0, (State.WarmedH.refl s).since 0, Nat.zero_le _, hZ, ho, CHr.refl hC⟩
theorem Sb.hZ (b : Sb Z EL own cls s vm0 h0 H) : Z.Warmed39 (s.setVm vm0).vm := b.elim fun _ q => q.2.2.1
theorem Sb.hO (b : Sb Z EL own cls s vm0 h0 H) : (s.setVm vm0).vm.findClass own = some cls := b.elim fun _ q => q.2.2.2.1
theorem Sb.ch (b : Sb Z EL own cls s vm0 h0 H) : CHv Z EL vm0 H := b.elim fun _ q => q.2.2.2.2.1
theorem Sb.ext (b : Sb Z EL own cls s vm0 h0 H) (E : Ext H H') : Sb Z EL own cls s vm0 h0 H' := by
  obtain ⟨k0, b1, b2, b3, b4, b5⟩ := b
  exact ⟨k0, b1, Nat.le_trans b2 E.1, b3, b4, b5.trans (CHr.ext E b5.1)⟩
theorem Sb.wr (b : Sb Z EL own cls s vm0 h0 H) {a : Addr} {sl : Nat} {v : Value} (W : Wr H H' a sl v) (S : Safe Z EL vm0 H a) : Sb Z EL own cls s vm0 h0 H' := by
  obtain ⟨k0, b1, b2, b3, b4, b5⟩ := b
  exact ⟨k0, b1, Nat.le_trans b2 (Nat.le_of_eq W.size.symm), b3, b4, b5.trans (CHr.wr W S b5.1)⟩
theorem Sb.keep (b : Sb Z EL own cls s vm0 h0 H) {ws : List Addr} (K : Keep H H' ws) (hs : ∀ x ∈ ws, Safe Z EL vm0 H x) : Sb Z EL own cls s vm0 h0 H' := by
  obtain ⟨k0, b1, b2, b3, b4, b5⟩ := b
  exact ⟨k0, b1, Nat.le_trans b2 K.1, b3, b4, b5.trans (CHr.keep K hs b5.1)⟩
theorem Sb.called (b : Sb Z EL own cls s vm0 h0 H) {vm1 : Vm} (h2 : (s.setVm vm0).Since vm1 H'.size) (g : H.size ≤ H'.size) (A : CHr Z EL vm0 H vm1 H') : Sb Z EL own cls s vm1 h0 H' := by
  obtain ⟨k0, b1, b2, b3, b4, b5⟩ := b
  exact ⟨H'.size, b1.trans h2 (Nat.le_trans b2 g), Nat.le_refl _, State.Warmed39.trans (t := s.setVm vm0) b3 h2.1, (h2.1.alike.findClass _ _).trans b4, b5.trans A⟩
variable {p : Program} {l : Launch} {e : Env} {R : Room} {m : MethodId} {args : Array Value} {below : List Frame} {meth : Method} {c : Code} {T : State} {locs : List Loc} {cells slots : Nat}
/-- ldc of a String constant of EL, its text read -/
theorem own_ldc (X : Stand p l e R (s.setVm vm0) m args below meth c T locs cells slots) (hx : p.tables.exec = Jvm.exec) (b : Sb Z EL own m.cls s vm0 h0 H) {index : Nat} {text : String} (w : (Cond.stringLink own index text).before a0 Z = true) (wS : ∀ a ∈ Bundle.stringAtoms, a.before a0 Z = true)
    (eT : T.heap = H) (hEL : EW Z a0 EL) (hmem : (own, index) ∈ EL) {vs : List Value} {z : Int32} (ht : (∀ c ∈ text.toList, c.toNat < 256) ∧ text.toList.map (fun c => Value.int (Jvm.Lit.byteI c.toNat.toUInt16)) = vs) (hz : ¬ z < 0) (hl : z.toNatClampNeg = vs.length)
    {g : JFrame} (hg : g.method = m) (hd : decode c.code g.pc = .ok (.ldc index, 2)) {n : Nat} (hn : 4 * text.toList.length ≤ n) (hbig : n ≤ 536870912) (hc : cells + 2 ≤ R.cells) (hl' : slots + (n + 4) ≤ R.slots) :
    ∃ (T' : State) (h' : Heap) (a : Addr) (bb : Addr) (k : ClassId), Stand p l e R (s.setVm T'.vm) m args below meth c T' locs (cells + 2) (slots + (n + 4)) ∧ T'.heap = h' ∧ Ext H h' ∧ Sb Z EL own m.cls s T'.vm h0 h' ∧ CHr Z EL vm0 H T'.vm h' ∧
      Exa Z h' a S_3 ∧ Fld Z h' a S_3 "coder" "B" (.int 0) ∧ Fld Z h' a S_3 "value" "[B" (.ref bb) ∧ Arv Z h' bb k .byte z vs (.int 0) ∧ (∀ x, Safe Z EL T'.vm h' x → x ≠ a ∧ x ≠ bb) ∧
      ∀ target, Steps p.tables e below (T'.setTop { g with pc := g.pc + 2, stack := .ref a :: g.stack }) target → Steps p.tables e below (T.setTop g) target := by
  obtain ⟨k0, b1, b2, b3, b4, b5⟩ := b
  obtain ⟨a, T', h', k1, bb, k, X', e', E, hS, hk, hZ', ho', hA, hC, hV, hB, -, -, A, -, hne, st⟩ := ldcCH X hx b3 b4 w wS eT b1 b2 hEL hmem b5.1 ht hz hl hg hd hn hbig hc hl'
  exact ⟨T', h', a, bb, k, X', e', E, ⟨k1, hS, hk, hZ', ho', b5.trans A⟩, A, hA, hC, hV, hB, hne, st⟩
def FinS (Z : State) (EL : List (String × Nat)) (s : State) (below : List Frame) (ce sl : Nat) (Q : Option Value → Heap → Vm → List Loc → Prop) (u : State) : Prop := u.status = .running ∧ ∃ o, Ended u below o ∧ ∃ v L, o = .returned v ∧ Q v u.heap u.vm L ∧ CHr Z EL s.vm s.heap u.vm u.heap ∧ ReturnedEndW s o u L ce sl
theorem Go.bodyS {tb : Tables} {ce sl : Nat} {Q : Option Value → Heap → Vm → List Loc → Prop} (h : Go tb e below (FinS Z EL s below ce sl Q) T) :
    ∃ s₂ o, Steps tb e below T s₂ ∧ s₂.status = .running ∧ Ended s₂ below o ∧ ∃ v L, o = .returned v ∧ Q v s₂.heap s₂.vm L ∧ CHr Z EL s.vm s.heap s₂.vm s₂.heap ∧ ReturnedEndW s o s₂ L ce sl := by
  obtain ⟨u, ⟨h1, o, h2, h3⟩, h4⟩ := h
  exact ⟨u, o, h4 u (Steps.refl _), h1, h2, h3⟩
theorem Go.outS (X : Stand p l e R (s.setVm vm0) m args below meth c T locs cells slots) (hEL : EW Z a0 EL) (b : Sb Z EL own m.cls s vm0 h0 H) (eT : T.heap = H) (es : s.heap = h0) {v : Option Value} (hv : meth.sig.returnType = none → v = none) (hlocks : meth.locks = false) {g : JFrame} {ce sl : Nat} {Q : Option Value → Heap → Vm → List Loc → Prop}
    (st : ∀ fs : List Frame, (∀ (f : JFrame) (acts : List Action), f.method = m → f.locked = none → f.entered = [] → (doReturn e (T.setTop f) acts v).1 = T.setFrames fs) → Steps p.tables e below (T.setTop g) (T.setFrames fs))
    (hc : cells ≤ ce) (hs : slots ≤ sl) (q : Q v T.heap T.vm locs) : Go p.tables e below (FinS Z EL s below ce sl Q) (T.setTop g) := by
  obtain ⟨k0, b1, b2, b3, b4, b5⟩ := b
  subst eT es
  have A := b5.trans (CHv.at X b3 hEL b5.1)
  obtain ⟨fs, hr, hrun, hended, h1, h2, h3, h4⟩ := X.leaveW b1 b2 hv hlocks
  exact ⟨T.setFrames fs, ⟨hrun, _, hended, v, locs, rfl, q, A, h1, h2, h3, h4.mono hc hs⟩, fun t k => (st fs hr).trans k⟩
theorem Go.retIS (X : Stand p l e R (s.setVm vm0) m args below meth c T locs cells slots) (hx : p.tables.exec = Jvm.exec) (hEL : EW Z a0 EL) (b : Sb Z EL own m.cls s vm0 h0 H) (eT : T.heap = H) (es : s.heap = h0) {pc : Nat} {Ls : Array Slot} {z : Int32} {rest : List Value} {t : FieldType} (hret : meth.sig.returnType = some t) (hlocks : meth.locks = false)
    (ht : t = .int ∨ t = .boolean ∨ t = .byte ∨ t = .char ∨ t = .short) (hn : narrow t (.int z) = .int z) (hd : decode c.code pc = .ok (.ireturn, 1)) {ce sl : Nat} {Q : Option Value → Heap → Vm → List Loc → Prop} (hc : cells ≤ ce) (hs : slots ≤ sl) (q : Q (some (.int z)) T.heap T.vm locs) :
    Go p.tables e below (FinS Z EL s below ce sl Q) (T.setTop (mkF m pc Ls (.int z :: rest))) :=
  Go.outS X hEL b eT es (fun h => by rw [hret] at h; cases h) hlocks (fun _ hl => retOut X hx hret hn (Or.inl ⟨rfl, ht, z, rfl⟩) hd hl) hc hs q
theorem Go.retAS (X : Stand p l e R (s.setVm vm0) m args below meth c T locs cells slots) (hx : p.tables.exec = Jvm.exec) (hEL : EW Z a0 EL) (b : Sb Z EL own m.cls s vm0 h0 H) (eT : T.heap = H) (es : s.heap = h0) {pc : Nat} {Ls : Array Slot} {w : Value} {rest : List Value} {t : FieldType} (hret : meth.sig.returnType = some t) (hlocks : meth.locks = false)
    (ht : t.isReference = true) (hw : w.isRef = true) (hd : decode c.code pc = .ok (.areturn, 1)) {ce sl : Nat} {Q : Option Value → Heap → Vm → List Loc → Prop} (hc : cells ≤ ce) (hs : slots ≤ sl) (q : Q (some w) T.heap T.vm locs) :
    Go p.tables e below (FinS Z EL s below ce sl Q) (T.setTop (mkF m pc Ls (w :: rest))) :=
  Go.outS X hEL b eT es (fun h => by rw [hret] at h; cases h) hlocks (fun _ hl => retOut X hx hret (by cases t <;> first | (cases ht; done) | (rcases ref_cases hw with rfl | ⟨z, rfl⟩ <;> rfl)) (Or.inr (Or.inr (Or.inr (Or.inr ⟨rfl, ht, hw⟩)))) hd hl) hc hs q
theorem Go.retVS (X : Stand p l e R (s.setVm vm0) m args below meth c T locs cells slots) (hx : p.tables.exec = Jvm.exec) (hEL : EW Z a0 EL) (b : Sb Z EL own m.cls s vm0 h0 H) (eT : T.heap = H) (es : s.heap = h0) {pc : Nat} {Ls : Array Slot} (hret : meth.sig.returnType = none) (hlocks : meth.locks = false)
    (hd : decode c.code pc = .ok (.return_, 1)) {ce sl : Nat} {Q : Option Value → Heap → Vm → List Loc → Prop} (hc : cells ≤ ce) (hs : slots ≤ sl) (q : Q none T.heap T.vm locs) :
    Go p.tables e below (FinS Z EL s below ce sl Q) (T.setTop (mkF m pc Ls [])) :=
  Go.outS X hEL b eT es (fun _ => rfl) hlocks (fun _ hl => X.returnOut hx hret hd hl) hc hs q
/-- a callee that may load constants, by its contract; sf: objects that no constant's cell is -/
theorem own_backS {y : MethodName} {bytes : ByteArray} {maxL : Nat} {ret : Option FieldType} {rm : Room} {len W : Nat} {as' : Array Value} {Q : Option Value → Heap → Vm → List Loc → Prop} {sf : List Addr}
    (hM : MetFree l y (head1 [Cond.code y bytes maxL ret] rm) (fun a U => a = as' ∧ Z.Warmed39 U.vm ∧ U.heap = H ∧ CHv Z EL U.vm H ∧ ∀ x ∈ sf, Safe Z EL U.vm H x) (fun _ _ _ _ _ => True) (fun _ U o U' => ∃ v L, o = .returned v ∧ Q v U'.heap U'.vm L ∧ CHr Z EL U.vm U.heap U'.vm U'.heap ∧ ReturnedEndW U o U' L rm.cells rm.slots))
    (b : Sb Z EL own cls s vm0 h0 H) (wc : (Cond.code y bytes maxL ret).before a0 Z = true) (wz : (Cond.initialized y.cls).before a0 Z = true) (hf : rm.frames + 1 ≤ R.frames) (hl : W + (maxL + 11) + rm.locals ≤ R.locals) (hEL : EW Z a0 EL) (hsf : ∀ x ∈ sf, x < H.size ∧ Safe Z EL vm0 H x) :
    BackS l R p e below (s.setVm vm0) args y len W (fun A a => a = as' ∧ A.U.heap = H ∧ A.cells + rm.cells ≤ R.cells ∧ A.slots + rm.slots ≤ R.slots)
      (fun A _ v B => ∃ L, Q v B.U.heap B.U.vm L ∧ B.locs = A.locs ++ L ∧ B.cells = A.cells + rm.cells ∧ B.slots = A.slots + rm.slots ∧ CHr Z EL vm0 H B.U.vm B.U.heap) := by
  have hZ := b.hZ
  have hC := b.ch
  exact BackS.of_freeW (bytes := bytes) (maxL := maxL) (ret := ret) (E := fun _ first o t L k n => k = rm.cells ∧ n = rm.slots ∧ (∃ v, o = .returned v ∧ Q v t.heap t.vm L) ∧ CHr Z EL first.vm first.heap t.vm t.heap) hM hf hl
    (fun m meth c A a Y hp => by
      have hU : Z.Warmed39 A.U.vm := wtrans (s := s.setVm vm0) hZ Y.warmed
      refine ⟨?_, mv hU wc, mv hU wz, hp.2.2.1, hp.2.2.2⟩
      show (Cond.and _ .tt).before a A.U = true
      rw [Cond.before_and, mv hU wc]; rfl)
    (fun m meth c A a g mk Y hp => by
      have q := CHv.at Y hZ hEL hC
      exact ⟨hp.1, wtrans (s := s.setVm vm0) hZ Y.warmed, hp.2.1, q.1, fun x hx => q.safe (hsf x hx).1 (hsf x hx).2⟩)
    (fun _ _ _ _ _ _ _ _ _ => trivial)
    (fun _ _ _ _ h => by obtain ⟨v, L, h1, h2, h3, h4⟩ := h; exact ⟨L, _, _, h4, rfl, rfl, ⟨v, h1, h2⟩, h3⟩)
    (fun m meth c A a g mk v t L k n Y hp _ _ h => by
      obtain ⟨e1, e2, ⟨v', e3, e4⟩, e5⟩ := h
      cases e3; subst e1 e2
      refine ⟨L, e4, rfl, rfl, rfl, (CHv.at Y hZ hEL hC).trans ?_⟩
      rw [← hp.2.1]; exact e5)
theorem own_reb {vm1 : Vm} (X : Stand p l e R ((s.setVm vm0).setVm vm1) m args below meth c T locs cells slots) : Stand p l e R (s.setVm vm1) m args below meth c T locs cells slots := X
end OwnS
theorem own_EW {Z : State} {a0 : Array Value} (hw : ∀ d ∈ tables_1, d.before a0 Z = true) : EW Z a0 consts_1 := (EW.cons (hw _ (List.mem_of_getElem? (i := 307) rfl)) (by decide +kernel) (EW.cons (hw _ (List.mem_of_getElem? (i := 340) rfl)) (by decide +kernel) EW.nil))
theorem own_SA {Z : State} {a0 : Array Value} (hw : ∀ d ∈ tables_1, d.before a0 Z = true) : ∀ d ∈ Bundle.stringAtoms, d.before a0 Z = true := fun d hd => by
  simp only [Bundle.stringAtoms, List.mem_cons, List.not_mem_nil, or_false] at hd
  rcases hd with rfl | rfl | rfl | rfl | rfl | rfl | rfl
  · exact (hw _ (List.mem_of_getElem? (i := 12) rfl))
  · exact (hw _ (List.mem_of_getElem? (i := 20) rfl))
  · exact (hw _ (List.mem_of_getElem? (i := 24) rfl))
  · exact (hw _ (List.mem_of_getElem? (i := 33) rfl))
  · exact (hw _ (List.mem_of_getElem? (i := 35) rfl))
  · exact (hw _ (List.mem_of_getElem? (i := 308) rfl))
  · exact (hw _ (List.mem_of_getElem? (i := 309) rfl))
theorem own_shl0 (x : Int32) : (x <<< ((0 : Int32) &&& 31)) = x := by
  rw [show ((0 : Int32) &&& 31) = 0 from by decide]; simp
theorem own_shr0 (x : Int32) : (x >>> ((0 : Int32) &&& 31)) = x := by
  rw [show ((0 : Int32) &&& 31) = 0 from by decide]; simp
theorem own_sub0 (x : Int32) : (x - (0 : Int32)) = x := by simp
section OwnCopy
variable {p : Program} {l : Launch} {e : Env} {R : Room} {s Z : State} {m : MethodId} {args a0 : Array Value} {below : List Frame} {meth : Method} {c : Code} {T : State} {locs : List Loc} {cells slots : Nat}
theorem own_acw {own : String} {index : Nat} (h1 : (Cond.methodLink own index acN).before args s = true) (h2 : (Cond.native acN).before args s = true) (h3 : (Cond.static acN).before args s = true) (h4 : (Cond.initialized "java/lang/System").before args s = true) : ∀ w ∈ Jvm.Free.XT.acW own index, w.before args s = true := fun w hw => by
  simp only [Jvm.Free.XT.acW, List.mem_cons, List.not_mem_nil, or_false] at hw
  rcases hw with rfl | rfl | rfl | rfl
  · exact h1
  · exact h2
  · exact h3
  · exact h4
theorem own_nf {C : String} {y z : MethodName} (hsel : (Cond.selects C z z).before args s = true) (h : y.cls = z.cls) : NotFace s y := fun r0 h0 => by
  obtain ⟨c2, r2, m2, q1, q2, q3, q4, -⟩ := Cond.selects_spec hsel
  obtain ⟨kP, hk, hi⟩ := notFace_of_selects hsel _ q3
  have a := findClass_of_methodNamed h0
  have b := findClass_of_methodNamed q3
  rw [h] at a
  exact ⟨kP, by rw [Option.some.inj (a.symm.trans b)]; exact hk, hi⟩
theorem own_same {y : MethodName} (hdecl : (Cond.declares y).before args s = true) (nf : NotFace s y) (hy : y.cls ≠ S_24 ∧ y.cls ≠ S_25) : (Cond.sameMethod y.cls y.cls y.name y.desc).before args s = true := by
  obtain ⟨r0, r, hn, hrm, hstR, hsigR⟩ := Cond.declares_spec hdecl
  obtain ⟨k, hk, hi⟩ := nf r0 hn
  have hc := findClass_of_methodNamed hn
  have hf := State.methodFound?_of_named hn hy
  cases y
  simp [Cond.before, Cond.holds, Cond.value, hc, hf, hn, hk, hi]
theorem own_selP {C : String} {y : MethodName} (hsel : (Cond.selects C y y).before args s = true) (hpriv : s.PrivateAt y) (hinst : (Cond.instanceMethod y).before args s = true) (hy : y.cls ≠ S_24 ∧ y.cls ≠ S_25) : (Cond.selects y.cls y y).before args s = true := by
  obtain ⟨c2, r2, m2, q1, q2, q3, q4, kP, hkP, hkPi⟩ := Cond.selects_spec hsel
  exact selects_self_of_private (findClass_of_methodNamed q3) hkP hkPi hpriv hinst hy
theorem own_nfT {C : String} {y x z : MethodName} (hsel : (Cond.selects C x z).before args s = true) (h : y.cls = z.cls) : NotFace s y := fun r0 h0 => by
  obtain ⟨c2, r2, m2, q1, q2, q3, q4, kP, hk, hi⟩ := Cond.selects_spec hsel
  have a := findClass_of_methodNamed h0
  have b := findClass_of_methodNamed q3
  rw [h] at a
  exact ⟨kP, by rw [Option.some.inj (a.symm.trans b)]; exact hk, hi⟩
end OwnCopy
/-! shorter words for contracts, their heads and the steps -/
abbrev a_0 : Instr × Nat := (.aload_n 0, 1)
abbrev a_1 : Instr × Nat := (.aload_n 1, 1)
abbrev a_2 : Instr × Nat := (.aload_n 2, 1)
abbrev a_3 : Instr × Nat := (.aload_n 3, 1)
abbrev i_0 : Instr × Nat := (.iload_n 0, 1)
abbrev i_1 : Instr × Nat := (.iload_n 1, 1)
abbrev i_2 : Instr × Nat := (.iload_n 2, 1)
abbrev i_3 : Instr × Nat := (.iload_n 3, 1)
abbrev HW (a0 : Array Value) (Z : State) : Prop := ∀ d ∈ tables_1, d.before a0 Z = true
theorem ww {Z : State} {a0 : Array Value} (hw : HW a0 Z) (i : Nat) {d : Jvm.Cond} (h : tables_1[i]? = some d) : d.before a0 Z = true := hw _ (List.mem_of_getElem? h)
theorem dd {c : ByteArray} {L : List (Nat × Instr × Nat)} (h : ∀ q ∈ L, decode c q.1 = .ok q.2) (i : Nat) {q : Nat × Instr × Nat} (e : L[i]? = some q) : decode c q.1 = .ok q.2 := h _ (List.mem_of_getElem? e)
abbrev Rm (f c s l : Nat) : Room := { frames := f, cells := c, slots := s, locals := l }
def QF (n0 : Nat) (Q : Option Value → Heap → Prop) (v : Option Value) (h : Heap) (L : List Loc) : Prop := Q v h ∧ Fr n0 L
def QP (h0 : Heap) (Q : Option Value → Prop) (v : Option Value) (h : Heap) (L : List Loc) : Prop := Q v ∧ L = [] ∧ h = h0
abbrev MM (l : Launch) (Z : State) (y : MethodName) (code : ByteArray) (ml : Nat) (rt : Option FieldType) (ws : List Jvm.Cond) (rm : Room) (as : Array Value) (h0 : Heap) (Q : Option Value → Heap → List Loc → Prop) : Prop :=
  MetFree l y (head1 (Jvm.Cond.code y code ml rt :: ws) rm) (fun a U => a = as ∧ Z.Warmed39 U.vm ∧ U.heap = h0) (fun _ _ _ _ _ => True) (fun _ U o V => ∃ v L, o = .returned v ∧ Q v V.heap L ∧ FrameEnd U o V L rm.cells rm.slots)
abbrev G_ {tb : Tables} {e : Env} {below : List Frame} {P : State → Prop} {T : State} {m : MethodId} (pc : Nat) (Ls : Array Slot) (st : List Value) : Prop := Go tb e below P (T.setTop (mkF m pc Ls st))
/-- what stands through a walk -/
def Jn (p : Program) (Z : State) (a0 : Array Value) (s : State) (m : MethodId) (own : String) (c : Code) (n : Nat) (L : List (Nat × Instr × Nat)) : Prop := p.tables.exec = Jvm.exec ∧ Z.Warmed39 s.vm ∧ s.vm.findClass own = some m.cls ∧ HW a0 Z ∧ c.maxLocals = n ∧ ∀ (i : Nat) (q : Nat × Instr × Nat), L[i]? = some q → decode c.code q.1 = .ok q.2
theorem jd {p : Program} {Z s : State} {a0 : Array Value} {m : MethodId} {own : String} {c : Code} {n : Nat} {L : List (Nat × Instr × Nat)} (J : Jn p Z a0 s m own c n L) (i : Nat) {pc : Nat} {ins : Instr} {k : Nat} (h : L[i]? = some (pc, ins, k)) : decode c.code pc = .ok (ins, k) := J.2.2.2.2.2 i (pc, ins, k) h
theorem Jn.up {p : Program} {Z s s' : State} {a0 : Array Value} {m : MethodId} {own : String} {c : Code} {n : Nat} {L : List (Nat × Instr × Nat)} (J : Jn p Z a0 s m own c n L) (h1 : Z.Warmed39 s'.vm) (h2 : s'.vm.findClass own = some m.cls) : Jn p Z a0 s' m own c n L := ⟨J.1, h1, h2, J.2.2.2.1, J.2.2.2.2.1, J.2.2.2.2.2⟩
section OwnShort2
variable {p : Program} {l : Launch} {e : Env} {R rm : Room} {s Z : State} {m : MethodId} {args a0 : Array Value} {below : List Frame} {meth : Method} {c : Code} {T : State} {locs : List Loc} {cells slots : Nat} {h0 h : Heap} {n0 n pc : Nat} {y z : MethodName} {bytes : ByteArray} {ml : Nat} {rt : Option FieldType} {ws : List Jvm.Cond} {argsL rest stk : List Value} {Q : Option Value → Heap → List Loc → Prop} {P : State → Prop} {own C : String} {index : Nat} {Ls : Array Slot} {b : Addr} {v : Value} {DL : List (Nat × Instr × Nat)}
theorem own_go (hw : HW a0 Z) (hp : plainFor y = true) {as : Array Value} (Ls : Array Slot)
    (k : ∀ (p : Program) (e : Env) (s : State) (m : MethodId) (below : List Frame) (meth : Method) (c : Code) (T : State) (Pf : State → Prop), p.tables.exec = Jvm.exec → c.code = bytes → meth.locks = false → s.vm.findClass y.cls = some m.cls → meth.name = y.name → meth.sig.returnType = rt → c.maxLocals = ml → Z.Warmed39 s.vm → s.heap = h0 →
      Stand p l e rm s m as below meth c T [] 0 0 → T.heap = h0 → Pf = Fin' s below rm.cells rm.slots Q → (∀ {DL : List (Nat × Instr × Nat)}, (∀ q ∈ DL, decode bytes q.1 = .ok q.2) → Jn p Z a0 s m y.cls c ml DL) → Go p.tables e below Pf (T.setTop (mkF m 0 Ls []))) (hE : ∀ m, entryFrame m as ml = mkF m 0 Ls [] := by intro m; first | (simp [entryFrame, mkF, argsToLocals, Value.category]; done) | rfl) : MM l Z y bytes ml rt ws rm as h0 Q := by
  refine MetFree.of_bodySF hp hisR ?_
  intro p e s m args below meth c s₁ Bd hml0 hP hK
  obtain ⟨rfl, hZ, hh⟩ := hP
  obtain ⟨hx, hby, hlk, hown, hnm, hret, X0, e0⟩ := own_hd Bd hh
  exact Go.body (Go.cast (hE m) (k p e s m below meth c s₁ _ hx hby hlk hown hnm hret hml0 hZ hh X0 e0 rfl (fun h => ⟨hx, hZ, hown, hw, hml0, fun i q e => hb hby (h _ (List.mem_of_getElem? e))⟩)))
theorem kF {Q : Option Value → Heap → Prop} {c' n' : Nat} {F : State → Option Value → State} (N : Fr n0 locs) (k : ∀ (lc : List Loc) (T' : State) (v : Option Value), Stand p l e R s m args below meth c T' lc c' n' → Fr n0 lc → Q v T'.heap → Go p.tables e below P (F T' v)) :
    ∀ (T' : State) (L : List Loc) (v : Option Value), Stand p l e R s m args below meth c T' (locs ++ L) c' n' → QF n0 Q v T'.heap L → Go p.tables e below P (F T' v) := fun T' L v X q => k _ T' v X (N.app q.2) q.1
theorem kP {Q : Option Value → Prop} {F : State → Option Value → State} (k : ∀ (T' : State) (v : Option Value), Stand p l e R s m args below meth c T' locs cells slots → T'.heap = h0 → Q v → Go p.tables e below P (F T' v)) :
    ∀ (T' : State) (L : List Loc) (v : Option Value), Stand p l e R s m args below meth c T' (locs ++ L) (cells + 0) (slots + 0) → QP h0 Q v T'.heap L → Go p.tables e below P (F T' v) := fun T' L v X q => by
  obtain ⟨q1, rfl, q3⟩ := q
  exact k T' v (own_nil X) q3 q1
theorem own_nr {g : JFrame} {c' n' j : Nat} (H : ∃ (v : Option Value) (vm : Vm) (B : Pt), s.WarmedH vm ∧ Stand p l e R s m args below meth c B.U B.locs B.cells B.slots ∧ (∃ L, Q v B.U.heap L ∧ B.locs = locs ++ L ∧ B.cells = cells + c' ∧ B.slots = slots + n') ∧ Steps p.tables e below (T.setTop g) (B.U.setTop { g with pc := g.pc + j, stack := v.toList ++ rest }))
    (k : ∀ (T' : State) (L : List Loc) (v : Option Value), Stand p l e R s m args below meth c T' (locs ++ L) (cells + c') (slots + n') → Q v T'.heap L → Go p.tables e below P (T'.setTop { g with pc := g.pc + j, stack := v.toList ++ rest })) : Go p.tables e below P (T.setTop g) := by
  obtain ⟨v, vm, ⟨U, L', c2, n2⟩, -, X, ⟨L, q, l1, l2, l3⟩, st⟩ := H
  subst l1 l2 l3
  exact Go.by' (fun t z => st.trans z) (k U L v X q)
abbrev ok (y : MethodName) : Prop := y.cls ≠ S_24 ∧ y.cls ≠ S_25
theorem mr0 {W : Nat} (hW : (rest.map fun v => v.category).sum = W) : 2 * (mkF m pc Ls stk).monitorRoom + (rest.map fun v => v.category).sum ≤ W := Nat.le_of_eq ((show 2 * 0 + _ = _ from Nat.zero_add _).trans hW)
theorem own_cs (K : MM l Z y bytes ml rt [] rm argsL.toArray h0 Q) (X : Stand p l e R s m args below meth c T locs cells slots) (J : Jn p Z a0 s m own c n DL) (jn : Nat) (iw1 : Nat) (iw2 : Nat) (iw3 : Nat) (iw4 : Nat)
    (eT : T.heap = h0) (W : Nat) {ps : List FieldType} {pr : Option FieldType} (hlen : parseMethodDescriptor y.desc = some ⟨ps, pr⟩)
    (k : ∀ (T' : State) (L : List Loc) (v : Option Value), Stand p l e R s m args below meth c T' (locs ++ L) (cells + rm.cells) (slots + rm.slots) → Q v T'.heap L → Go p.tables e below P (T'.setTop (mkF m (pc + 3) Ls (v.toList ++ rest))))
    (hs : stk = argsL.reverse ++ rest := by rfl) (hn : Ls.size = n := by rfl) (hW : (rest.map fun v => v.category).sum = W := by rfl) (hf : rm.frames + 1 ≤ R.frames := by decide) (hl : W + (ml + 11) + rm.locals ≤ R.locals := by decide) (hc : cells + rm.cells ≤ R.cells := by decide) (hsl : slots + rm.slots ≤ R.slots := by decide) (hy : ok y := by decide) (hw1 : tables_1[iw1]? = some (Cond.methodLink own index y) := by rfl) (hw2 : tables_1[iw2]? = some (Cond.static y) := by rfl) (hw3 : tables_1[iw3]? = some (Cond.initialized y.cls) := by rfl) (hw4 : tables_1[iw4]? = some (Cond.code y bytes ml rt) := by rfl) (hle : argsL.length = ps.length := by rfl) (hd : DL[jn]? = some (pc, .invokestatic index, 3) := by rfl) : Go p.tables e below P (T.setTop (mkF m pc Ls stk)) := by
  subst hs
  obtain ⟨v, vm, B, q1, q2, q3, q4⟩ := Jvm.LawKit.callS X J.1 (y := y) J.2.2.1 (mvT J.2.1 (ww J.2.2.2.1 iw1 hw1)) (mvT J.2.1 (ww J.2.2.2.1 iw2 hw2)) (mvT J.2.1 (ww J.2.2.2.1 iw3 hw3)) (mvT J.2.1 (ww J.2.2.2.1 iw4 hw4)) hy (backOf (W := W) K J.2.1 (ww J.2.2.2.1 iw4 hw4) (ww J.2.2.2.1 iw3 hw3) hf hl) (g := mkF m pc Ls (argsL.reverse ++ rest)) rfl (hn.trans J.2.2.2.2.1.symm) (argsL := argsL) (rest := rest) (lenOf hlen hle) rfl (mr0 hW) (jd J jn hd) (fun _ _ => ⟨rfl, eT, hc, hsl⟩)
  exact own_nr ⟨v, vm, B, q1, q2, q3, q4 _ (Steps.refl _)⟩ k
theorem own_ci (K : MM l Z y bytes ml none [] rm (Value.ref b :: argsL).toArray h0 Q) (X : Stand p l e R s m args below meth c T locs cells slots) (J : Jn p Z a0 s m own c n DL) (jn : Nat) (iw1 : Nat) (iw2 : Nat) (iw3 : Nat) (iw4 : Nat)
    (eT : T.heap = h0) (W : Nat) {ps : List FieldType} {pr : Option FieldType} (hlen : parseMethodDescriptor y.desc = some ⟨ps, pr⟩)
    (k : ∀ (T' : State) (L : List Loc) (v : Option Value), Stand p l e R s m args below meth c T' (locs ++ L) (cells + rm.cells) (slots + rm.slots) → Q v T'.heap L → Go p.tables e below P (T'.setTop (mkF m (pc + 3) Ls (v.toList ++ rest))))
    (hs : stk = argsL.reverse ++ .ref b :: rest := by rfl) (hn : Ls.size = n := by rfl) (hW : (rest.map fun v => v.category).sum = W := by rfl) (hf : rm.frames + 1 ≤ R.frames := by decide) (hl : W + (ml + 11) + rm.locals ≤ R.locals := by decide) (hc : cells + rm.cells ≤ R.cells := by decide) (hsl : slots + rm.slots ≤ R.slots := by decide) (hy : ok y := by decide) (hi : y.name = "<init>" := by rfl) (hw1 : tables_1[iw1]? = some (Cond.methodLink own index y) := by rfl) (hw2 : tables_1[iw2]? = some (Cond.instanceMethod y) := by rfl) (hw3 : tables_1[iw3]? = some (Cond.initialized y.cls) := by rfl) (hw4 : tables_1[iw4]? = some (Cond.code y bytes ml none) := by rfl) (hle : argsL.length = ps.length := by rfl) (hd : DL[jn]? = some (pc, .invokespecial index, 3) := by rfl) : Go p.tables e below P (T.setTop (mkF m pc Ls stk)) := by
  subst hs
  exact own_nr (X.specialBack J.1 (y := y) hi J.2.2.1 (mvT J.2.1 (ww J.2.2.2.1 iw1 hw1)) (mvT J.2.1 (ww J.2.2.2.1 iw2 hw2)) (mvT J.2.1 (ww J.2.2.2.1 iw4 hw4)) hy (backOf (W := W) K J.2.1 (ww J.2.2.2.1 iw4 hw4) (ww J.2.2.2.1 iw3 hw3) hf hl) (g := mkF m pc Ls (argsL.reverse ++ .ref b :: rest)) rfl (hn.trans J.2.2.2.2.1.symm) (Steps.refl _) (a := b) (argsL := argsL) (rest := rest) (lenOf hlen hle) rfl (mr0 hW) (jd J jn hd) (fun _ _ => ⟨rfl, eT, hc, hsl⟩)) k
theorem own_cz (K : MM l Z z bytes ml rt [] rm (Value.ref b :: argsL).toArray h0 Q) (X : Stand p l e R s m args below meth c T locs cells slots) (J : Jn p Z a0 s m own c n DL) (jn : Nat) (nf : NotFace s y) (iw1 : Nat) (iw2 : Nat) (iw5 : Nat) (iw6 : Nat) (iw3 : Nat) (iw4 : Nat)
    (eT : T.heap = h0) (E : Exa Z h0 b C) (W : Nat) {ps : List FieldType} {pr : Option FieldType} (hlen : parseMethodDescriptor y.desc = some ⟨ps, pr⟩)
    (k : ∀ (T' : State) (L : List Loc) (v : Option Value), Stand p l e R s m args below meth c T' (locs ++ L) (cells + rm.cells) (slots + rm.slots) → Q v T'.heap L → Go p.tables e below P (T'.setTop (mkF m (pc + 3) Ls (v.toList ++ rest))))
    (hs : stk = argsL.reverse ++ .ref b :: rest := by rfl) (hn : Ls.size = n := by rfl) (hW : (rest.map fun v => v.category).sum = W := by rfl) (hf : rm.frames + 1 ≤ R.frames := by decide) (hl : W + (ml + 11) + rm.locals ≤ R.locals := by decide) (hc : cells + rm.cells ≤ R.cells := by decide) (hsl : slots + rm.slots ≤ R.slots := by decide) (hy : ok y := by decide) (hw1 : tables_1[iw1]? = some (Cond.methodLink own index y) := by rfl) (hw2 : tables_1[iw2]? = some (Cond.declares y) := by rfl) (hw5 : tables_1[iw5]? = some (Cond.selects C y z) := by rfl) (hw6 : tables_1[iw6]? = some (Cond.instanceMethod z) := by rfl) (hw3 : tables_1[iw3]? = some (Cond.initialized z.cls) := by rfl) (hw4 : tables_1[iw4]? = some (Cond.code z bytes ml rt) := by rfl) (hle : argsL.length = ps.length := by rfl) (hd : DL[jn]? = some (pc, .invokevirtual index, 3) := by rfl) : Go p.tables e below P (T.setTop (mkF m pc Ls stk)) := by
  subst hs
  obtain ⟨cB, kB, q1, q2, q3⟩ := isOf J.2.1 eT E
  exact own_nr (X.virtualBack J.1 (y := y) (z := z) J.2.2.1 (mvT J.2.1 (ww J.2.2.2.1 iw1 hw1)) (mvT J.2.1 (ww J.2.2.2.1 iw2 hw2)) nf (mvT J.2.1 (ww J.2.2.2.1 iw5 hw5)) (mvT J.2.1 (ww J.2.2.2.1 iw6 hw6)) hy (backOf (W := W) K J.2.1 (ww J.2.2.2.1 iw4 hw4) (ww J.2.2.2.1 iw3 hw3) hf hl) q1 q3 (g := mkF m pc Ls (argsL.reverse ++ .ref b :: rest)) rfl (hn.trans J.2.2.2.2.1.symm) (Steps.refl _) (argsL := argsL) (rest := rest) (lenOf hlen hle) rfl (mr0 hW) (jd J jn hd) (fun _ _ => ⟨rfl, eT, hc, hsl⟩)) k
theorem own_cv (K : MM l Z y bytes ml rt [] rm (Value.ref b :: argsL).toArray h0 Q) (X : Stand p l e R s m args below meth c T locs cells slots) (J : Jn p Z a0 s m own c n DL) (jn : Nat) (iw1 : Nat) (iw2 : Nat) (iw5 : Nat) (iw6 : Nat) (iw3 : Nat) (iw4 : Nat)
    (eT : T.heap = h0) (E : Exa Z h0 b C) (W : Nat) {ps : List FieldType} {pr : Option FieldType} (hlen : parseMethodDescriptor y.desc = some ⟨ps, pr⟩)
    (k : ∀ (T' : State) (L : List Loc) (v : Option Value), Stand p l e R s m args below meth c T' (locs ++ L) (cells + rm.cells) (slots + rm.slots) → Q v T'.heap L → Go p.tables e below P (T'.setTop (mkF m (pc + 3) Ls (v.toList ++ rest))))
    (hs : stk = argsL.reverse ++ .ref b :: rest := by rfl) (hn : Ls.size = n := by rfl) (hW : (rest.map fun v => v.category).sum = W := by rfl) (hf : rm.frames + 1 ≤ R.frames := by decide) (hl : W + (ml + 11) + rm.locals ≤ R.locals := by decide) (hc : cells + rm.cells ≤ R.cells := by decide) (hsl : slots + rm.slots ≤ R.slots := by decide) (hy : ok y := by decide) (hw1 : tables_1[iw1]? = some (Cond.methodLink own index y) := by rfl) (hw2 : tables_1[iw2]? = some (Cond.declares y) := by rfl) (hw5 : tables_1[iw5]? = some (Cond.selects C y y) := by rfl) (hw6 : tables_1[iw6]? = some (Cond.instanceMethod y) := by rfl) (hw3 : tables_1[iw3]? = some (Cond.initialized y.cls) := by rfl) (hw4 : tables_1[iw4]? = some (Cond.code y bytes ml rt) := by rfl) (hle : argsL.length = ps.length := by rfl) (hd : DL[jn]? = some (pc, .invokevirtual index, 3) := by rfl) : Go p.tables e below P (T.setTop (mkF m pc Ls stk)) :=
  own_cz K X J jn (notFace_of_selects (args := #[]) (mvT J.2.1 (ww J.2.2.2.1 iw5 hw5))) iw1 iw2 iw5 iw6 iw3 iw4 eT E W hlen k hs hn hW hf hl hc hsl hy hw1 hw2 hw5 hw6 hw3 hw4 hle hd
theorem own_cp (K : MM l Z y bytes ml rt [] rm (Value.ref b :: argsL).toArray h0 Q) (X : Stand p l e R s m args below meth c T locs cells slots) (J : Jn p Z a0 s m own c n DL) (jn : Nat) (iw1 : Nat) (iw2 : Nat) (iw5 : Nat) (iw6 : Nat) (iw3 : Nat) (iw4 : Nat)
    (eT : T.heap = h0) (E : Exa Z h0 b C) (W : Nat) {ps : List FieldType} {pr : Option FieldType} (hlen : parseMethodDescriptor y.desc = some ⟨ps, pr⟩)
    (k : ∀ (T' : State) (L : List Loc) (v : Option Value), Stand p l e R s m args below meth c T' (locs ++ L) (cells + rm.cells) (slots + rm.slots) → Q v T'.heap L → Go p.tables e below P (T'.setTop (mkF m (pc + 3) Ls (v.toList ++ rest))))
    (hs : stk = argsL.reverse ++ .ref b :: rest := by rfl) (hn : Ls.size = n := by rfl) (hW : (rest.map fun v => v.category).sum = W := by rfl) (hf : rm.frames + 1 ≤ R.frames := by decide) (hl : W + (ml + 11) + rm.locals ≤ R.locals := by decide) (hc : cells + rm.cells ≤ R.cells := by decide) (hsl : slots + rm.slots ≤ R.slots := by decide) (hy : ok y := by decide) (hw1 : tables_1[iw1]? = some (Cond.methodLink own index y) := by rfl) (hw2 : tables_1[iw2]? = some (Cond.privateMethod y) := by rfl) (hw5 : tables_1[iw5]? = some (Cond.selects y.cls y y) := by rfl) (hw6 : tables_1[iw6]? = some (Cond.instanceMethod y) := by rfl) (hw3 : tables_1[iw3]? = some (Cond.initialized y.cls) := by rfl) (hw4 : tables_1[iw4]? = some (Cond.code y bytes ml rt) := by rfl) (hle : argsL.length = ps.length := by rfl) (hd : DL[jn]? = some (pc, .invokevirtual index, 3) := by rfl) : Go p.tables e below P (T.setTop (mkF m pc Ls stk)) := by
  subst hs
  obtain ⟨cq, q1, q2⟩ := E.cell
  exact own_nr (X.privateBack J.1 (y := y) J.2.2.1 (mvT J.2.1 (ww J.2.2.2.1 iw1 hw1)) (mvT J.2.1 (ww J.2.2.2.1 iw6 hw6)) (mvT J.2.1 (ww J.2.2.2.1 iw5 hw5)) (Cond.privateMethod_at (mvP J.2.1 (ww J.2.2.2.1 iw2 hw2) (args := #[]))) (mvT J.2.1 (ww J.2.2.2.1 iw4 hw4)) hy (backOf (W := W) K J.2.1 (ww J.2.2.2.1 iw4 hw4) (ww J.2.2.2.1 iw3 hw3) hf hl) (g := mkF m pc Ls (argsL.reverse ++ .ref b :: rest)) rfl (hn.trans J.2.2.2.2.1.symm) (Steps.refl _) (a := b) (by rw [eT]; exact q1) q2 (argsL := argsL) (rest := rest) (lenOf hlen hle) rfl (mr0 hW) (jd J jn hd) (fun _ _ => ⟨rfl, eT, hc, hsl⟩)) k
theorem own_cf (K : MM l Z z bytes ml rt [] rm (Value.ref b :: argsL).toArray h0 Q) (X : Stand p l e R s m args below meth c T locs cells slots) (J : Jn p Z a0 s m own c n DL) (jn : Nat) (iw1 : Nat) (iw2 : Nat) (iw7 : Nat) (iw5 : Nat) (iw6 : Nat) (iw8 : Nat) (iw9 : Nat) (iwc : Nat) (iw3 : Nat) (iw4 : Nat)
    (eT : T.heap = h0) (E : Exa Z h0 b C) (W : Nat) {ps : List FieldType} {pr : Option FieldType} (hlen : parseMethodDescriptor y.desc = some ⟨ps, pr⟩) {cnt : Nat}
    (k : ∀ (T' : State) (L : List Loc) (v : Option Value), Stand p l e R s m args below meth c T' (locs ++ L) (cells + rm.cells) (slots + rm.slots) → Q v T'.heap L → Go p.tables e below P (T'.setTop (mkF m (pc + 5) Ls (v.toList ++ rest))))
    (hs : stk = argsL.reverse ++ .ref b :: rest := by rfl) (hn : Ls.size = n := by rfl) (hW : (rest.map fun v => v.category).sum = W := by rfl) (hf : rm.frames + 1 ≤ R.frames := by decide) (hl : W + (ml + 11) + rm.locals ≤ R.locals := by decide) (hc : cells + rm.cells ≤ R.cells := by decide) (hsl : slots + rm.slots ≤ R.slots := by decide) (hy : ok y := by decide) (hw1 : tables_1[iw1]? = some (Cond.methodLink own index y) := by rfl) (hw2 : tables_1[iw2]? = some (Cond.declares y) := by rfl) (hw7 : tables_1[iw7]? = some (Cond.interfaceMethod y.cls y.cls y.name y.desc) := by rfl) (hw5 : tables_1[iw5]? = some (Cond.selects C y z) := by rfl) (hw6 : tables_1[iw6]? = some (Cond.instanceMethod z) := by rfl) (hw8 : tables_1[iw8]? = some (Cond.publicMethod z) := by rfl) (hw9 : tables_1[iw9]? = some (Cond.unhidden C y.name y.desc) := by rfl) (hwc : tables_1[iwc]? = some (Cond.castable C y.cls) := by rfl) (hw3 : tables_1[iw3]? = some (Cond.initialized z.cls) := by rfl) (hw4 : tables_1[iw4]? = some (Cond.code z bytes ml rt) := by rfl) (hle : argsL.length = ps.length := by rfl) (hd : DL[jn]? = some (pc, .invokeinterface index cnt, 5) := by rfl) : Go p.tables e below P (T.setTop (mkF m pc Ls stk)) := by
  subst hs
  obtain ⟨cB, kB, q1, q2, q3⟩ := isOf J.2.1 eT E
  exact own_nr (X.interfaceBack J.1 (xi := y) (y := z) J.2.2.1 (mvT J.2.1 (ww J.2.2.2.1 iw1 hw1)) (mvT J.2.1 (ww J.2.2.2.1 iw2 hw2)) (Jvm.Free.ULB.iface_rides J.2.1.alike (ww J.2.2.2.1 iw7 hw7)) (mvT J.2.1 (ww J.2.2.2.1 iw5 hw5)) (mvT J.2.1 (ww J.2.2.2.1 iw6 hw6)) (mvT J.2.1 (ww J.2.2.2.1 iw8 hw8)) (mvT J.2.1 (ww J.2.2.2.1 iw9 hw9)) (mvT J.2.1 (ww J.2.2.2.1 iwc hwc)) hy (backOf (W := W) K J.2.1 (ww J.2.2.2.1 iw4 hw4) (ww J.2.2.2.1 iw3 hw3) hf hl) q1 q2 q3 (g := mkF m pc Ls (argsL.reverse ++ .ref b :: rest)) rfl (hn.trans J.2.2.2.2.1.symm) (Steps.refl _) (argsL := argsL) (rest := rest) (lenOf hlen hle) rfl (mr0 hW) (jd J jn hd) (fun _ _ => ⟨rfl, eT, hc, hsl⟩)) k
theorem own_cw {owner : String} (K : MM l Z z bytes ml rt [] rm (Value.ref b :: argsL).toArray h0 Q) (X : Stand p l e R s m args below meth c T locs cells slots) (J : Jn p Z a0 s m own c n DL) (jn : Nat) (iw1 : Nat) (iw7 : Nat) (iw2 : Nat) (iw5 : Nat) (iw6 : Nat) (iw3 : Nat) (iw4 : Nat)
    (eT : T.heap = h0) (E : Exa Z h0 b C) (W : Nat) {ps : List FieldType} {pr : Option FieldType} (hlen : parseMethodDescriptor y.desc = some ⟨ps, pr⟩)
    (k : ∀ (T' : State) (L : List Loc) (v : Option Value), Stand p l e R s m args below meth c T' (locs ++ L) (cells + rm.cells) (slots + rm.slots) → Q v T'.heap L → Go p.tables e below P (T'.setTop (mkF m (pc + 3) Ls (v.toList ++ rest))))
    (hs : stk = argsL.reverse ++ .ref b :: rest := by rfl) (hn : Ls.size = n := by rfl) (hW : (rest.map fun v => v.category).sum = W := by rfl) (hf : rm.frames + 1 ≤ R.frames := by decide) (hl : W + (ml + 11) + rm.locals ≤ R.locals := by decide) (hc : cells + rm.cells ≤ R.cells := by decide) (hsl : slots + rm.slots ≤ R.slots := by decide) (hy : owner ≠ S_24 ∧ owner ≠ S_25 := by decide) (hw1 : tables_1[iw1]? = some (Cond.methodLink own index y) := by rfl) (hw7 : tables_1[iw7]? = some (Cond.sameMethod y.cls owner y.name y.desc) := by rfl) (hw2 : tables_1[iw2]? = some (Cond.declares ⟨owner, y.name, y.desc⟩) := by rfl) (hw5 : tables_1[iw5]? = some (Cond.selects C y z) := by rfl) (hw6 : tables_1[iw6]? = some (Cond.instanceMethod z) := by rfl) (hw3 : tables_1[iw3]? = some (Cond.initialized z.cls) := by rfl) (hw4 : tables_1[iw4]? = some (Cond.code z bytes ml rt) := by rfl) (hle : argsL.length = ps.length := by rfl) (hd : DL[jn]? = some (pc, .invokevirtual index, 3) := by rfl) : Go p.tables e below P (T.setTop (mkF m pc Ls stk)) := by
  subst hs
  obtain ⟨cB, kB, q1, q2, q3⟩ := isOf J.2.1 eT E
  exact own_nr (X.virtualBackUp J.1 (x := y) (y := z) (owner := owner) J.2.2.1 (mvT J.2.1 (ww J.2.2.2.1 iw1 hw1)) (mvT J.2.1 (ww J.2.2.2.1 iw7 hw7)) (mvT J.2.1 (ww J.2.2.2.1 iw2 hw2)) hy (mvT J.2.1 (ww J.2.2.2.1 iw5 hw5)) (mvT J.2.1 (ww J.2.2.2.1 iw6 hw6)) (backOf (W := W) K J.2.1 (ww J.2.2.2.1 iw4 hw4) (ww J.2.2.2.1 iw3 hw3) hf hl) q1 q3 (g := mkF m pc Ls (argsL.reverse ++ .ref b :: rest)) rfl (hn.trans J.2.2.2.2.1.symm) (Steps.refl _) (argsL := argsL) (rest := rest) (lenOf hlen hle) rfl (mr0 hW) (jd J jn hd) (fun _ _ => ⟨rfl, eT, hc, hsl⟩)) k
/-- steps that leave the heap alone -/
theorem own_st {g g' : JFrame} (H : ∃ T', Stand p l e R s m args below meth c T' locs cells slots ∧ T'.heap = h ∧ ∀ target, Steps p.tables e below (T'.setTop g') target → Steps p.tables e below (T.setTop g) target) (k : ∀ T', Stand p l e R s m args below meth c T' locs cells slots → T'.heap = h → Go p.tables e below P (T'.setTop g')) : Go p.tables e below P (T.setTop g) := by
  obtain ⟨T', X, q, st⟩ := H
  exact Go.by' st (k T' X q)
theorem own_gf {R0 O nm d : String} (X : Stand p l e R s m args below meth c T locs cells slots) (J : Jn p Z a0 s m own c n DL) (jn : Nat) (iw : Nat) (via : Via Z R0 O nm d) (eT : T.heap = h) (F : Fld Z h b O nm d v)
    (k : ∀ T', Stand p l e R s m args below meth c T' locs cells slots → T'.heap = h → Go p.tables e below P (T'.setTop (mkF m (pc + 3) Ls (v :: rest)))) (hw : tables_1[iw]? = some (Cond.fieldLink own index R0 nm d) := by rfl) (hd : DL[jn]? = some (pc, .getfield index, 3) := by rfl) : Go p.tables e below P (T.setTop (mkF m pc Ls (.ref b :: rest))) :=
  own_st (getF X J.1 J.2.1 J.2.2.1 (host := "") (Or.inl (ww J.2.2.2.1 iw hw)) via eT F (g := mkF m pc Ls (.ref b :: rest)) rfl rfl (jd J jn hd)) k
theorem own_gs {R0 O nm d : String} (X : Stand p l e R s m args below meth c T locs cells slots) (J : Jn p Z a0 s m own c n DL) (jn : Nat) (iw : Nat) (via : Via Z R0 O nm d) (eT : T.heap = h) (F : Sta Z h O nm d v)
    (k : ∀ T', Stand p l e R s m args below meth c T' locs cells slots → T'.heap = h → Go p.tables e below P (T'.setTop (mkF m (pc + 3) Ls (v :: stk)))) (hw : tables_1[iw]? = some (Cond.fieldLink own index R0 nm d) := by rfl) (hd : DL[jn]? = some (pc, .getstatic index, 3) := by rfl) : Go p.tables e below P (T.setTop (mkF m pc Ls stk)) :=
  own_st (getS2 X J.1 J.2.1 J.2.2.1 (host := "") (Or.inl (ww J.2.2.2.1 iw hw)) via eT F (g := mkF m pc Ls stk) rfl (jd J jn hd)) k
theorem own_cc {K : String} (X : Stand p l e R s m args below meth c T locs cells slots) (J : Jn p Z a0 s m own c n DL) (jn : Nat) (iw : Nat) (eT : T.heap = h) (F : Ins Z h b K true)
    (k : ∀ T', Stand p l e R s m args below meth c T' locs cells slots → T'.heap = h → Go p.tables e below P (T'.setTop (mkF m (pc + 3) Ls (.ref b :: rest)))) (hw : tables_1[iw]? = some (Cond.classLink own index K) := by rfl) (hd : DL[jn]? = some (pc, .checkcast index, 3) := by rfl) : Go p.tables e below P (T.setTop (mkF m pc Ls (.ref b :: rest))) :=
  own_st (castY X J.1 J.2.1 J.2.2.1 (ww J.2.2.2.1 iw hw) eT F (g := mkF m pc Ls (.ref b :: rest)) rfl rfl (jd J jn hd)) k
theorem own_io {K : String} (X : Stand p l e R s m args below meth c T locs cells slots) (J : Jn p Z a0 s m own c n DL) (jn : Nat) (iw : Nat) (eT : T.heap = h) (F : Ins Z h b K true)
    (k : ∀ T', Stand p l e R s m args below meth c T' locs cells slots → T'.heap = h → Go p.tables e below P (T'.setTop (mkF m (pc + 3) Ls (.int 1 :: rest)))) (hw : tables_1[iw]? = some (Cond.classLink own index K) := by rfl) (hd : DL[jn]? = some (pc, .instanceof index, 3) := by rfl) : Go p.tables e below P (T.setTop (mkF m pc Ls (.ref b :: rest))) :=
  own_st (instY X J.1 J.2.1 J.2.2.1 (ww J.2.2.2.1 iw hw) eT F (g := mkF m pc Ls (.ref b :: rest)) rfl rfl (jd J jn hd)) k
/-- a field written -/
theorem own_ff {v : Value} {k : String} (h : v.isRef = true) : fits (.object k) v = true := by
  rcases ref_cases h with rfl | ⟨_, rfl⟩ <;> rfl
theorem own_pf {R0 O nm d : String} {kk : Nat} {ty : FieldType} {v' old : Value} (X : Stand p l e R s m args below meth c T locs cells slots) (J : Jn p Z a0 s m own c n DL) (jn : Nat) (iw : Nat) (via : Via Z R0 O nm d) (eT : T.heap = h) (F : Fld Z h b O nm d old) (E : Exa Z h b C) (L : (Cond.lays C O nm d).before a0 Z = true ∨ ((Cond.laysFinal C O nm d).before a0 Z = true ∧ own = O ∧ meth.name = "<init>")) (iwi : Nat) (hn : narrow ty v = v') (hf : fits ty v' = true) (N : Fr n0 locs) (g : n0 ≤ b)
    (k : ∀ (T' : State) (h' : Heap) (lc : List Loc), Stand p l e R s m args below meth c T' lc cells slots → T'.heap = h' → Wr h h' b (Jvm.RoadKit.slotOf Z O nm d) v' → Fr n0 lc → Go p.tables e below P (T'.setTop (mkF m (pc + 3) Ls rest))) (hty : parseFieldDescriptor d = some ty := by decide) (hw : tables_1[iw]? = some (Cond.fieldLink own index R0 nm d) := by rfl) (hwi : tables_1[iwi]? = some (Cond.instantiable C kk) := by rfl) (hd : DL[jn]? = some (pc, .putfield index, 3) := by rfl) : Go p.tables e below P (T.setTop (mkF m pc Ls (v :: .ref b :: rest))) := by
  obtain ⟨T', h', X', q, W, st⟩ := putFN X J.1 J.2.1 J.2.2.1 (ww J.2.2.2.1 iw hw) via eT F E L (ww J.2.2.2.1 iwi hwi) hty hn hf (g := mkF m pc Ls (v :: .ref b :: rest)) rfl rfl (jd J jn hd)
  exact Go.by' st (k T' h' _ X' q W (Fr.snoc X' N g))
theorem own_oi (X : Stand p l e R s m args below meth c T locs cells slots) (J : Jn p Z a0 s m own c n DL) (jn : Nat) (iw1 : Nat) (iw2 : Nat) (iw3 : Nat) (eT : T.heap = h) (W : Nat)
    (k : ∀ T', Stand p l e R s m args below meth c T' locs cells slots → T'.heap = h → Go p.tables e below P (T'.setTop (mkF m (pc + 3) Ls rest))) (hn : Ls.size = n := by rfl) (hW : (rest.map fun v => v.category).sum = W := by rfl) (hf : 1 ≤ R.frames := by decide) (hl : W + 12 ≤ R.locals := by decide) (hw1 : tables_1[iw1]? = some (Cond.methodLink own index Lib.objectInit) := by rfl) (hw2 : tables_1[iw2]? = some (Cond.instanceMethod Lib.objectInit) := by rfl) (hw3 : tables_1[iw3]? = some (Cond.code Lib.objectInit ⟨#[0xb1]⟩ 1 none) := by rfl) (hd : DL[jn]? = some (pc, .invokespecial index, 3) := by rfl) : Go p.tables e below P (T.setTop (mkF m pc Ls (.ref b :: rest))) :=
  own_st (initO X J.1 J.2.1 J.2.2.1 (ww J.2.2.2.1 iw1 hw1) (ww J.2.2.2.1 iw2 hw2) (ww J.2.2.2.1 iw3 hw3) eT (g := mkF m pc Ls (.ref b :: rest)) rfl (hn.trans J.2.2.2.2.1.symm) rfl (jd J jn hd) hf (mr0 hW) hl) k
end OwnShort2
theorem od {c : Code} {bytes : ByteArray} (h : c.code = bytes) {L : List (Nat × Instr × Nat)} (hL : ∀ q ∈ L, decode bytes q.1 = .ok q.2) : ∀ (i : Nat) {q : Nat × Instr × Nat}, L[i]? = some q → decode c.code q.1 = .ok q.2 := fun _ _ e => hb h (hL _ (List.mem_of_getElem? e))
theorem il (i : Nat) {ws : List Addr} {a : Addr} {P : Prop} (h : ws[i]? = some a := by rfl) : a ∈ ws ∨ P := Or.inl (List.mem_of_getElem? h)
abbrev uS : Slot := .unset
section OwnSteps
variable {p : Program} {l : Launch} {e : Env} {R : Room} {s : State} {m : MethodId} {args : Array Value} {below : List Frame} {meth : Method} {c : Code} {T t : State} {locs : List Loc} {cells slots pc : Nat} {Ls : Array Slot} {st rest : List Value} {v : Value} {i : Fin 4} {j : Nat} {x y : Int32} {o : Int} {cd : ClassFile.Cond} {a : Addr} {Z : State} {a0 : Array Value} {own : String} {n : Nat} {DL : List (Nat × Instr × Nat)}
abbrev Sf (tb : Tables) (e : Env) (below : List Frame) (T : State) (m : MethodId) (pc : Nat) (Ls : Array Slot) (st : List Value) (t : State) : Prop := Steps tb e below (T.setTop (mkF m pc Ls st)) t
theorem aN (X : Stand p l e R s m args below meth c T locs cells slots) (J : Jn p Z a0 s m own c n DL) (jn : Nat) (hd : DL[jn]? = some (pc, .aload_n i, 1)) (hl : Ls[i.val]? = some (.val v)) (k : Sf p.tables e below T m (pc + 1) Ls (v :: st) t) (hv : v.isRef = true := by rfl) : Sf p.tables e below T m pc Ls st t := XS.aloadN (g := mkF m pc Ls st) X.here J.1 rfl (jd J jn hd) hl hv k
theorem aL (X : Stand p l e R s m args below meth c T locs cells slots) (J : Jn p Z a0 s m own c n DL) (jn : Nat) (hd : DL[jn]? = some (pc, .aload j, 2)) (hl : Ls[j]? = some (.val v)) (k : Sf p.tables e below T m (pc + 2) Ls (v :: st) t) (hv : v.isRef = true := by rfl) : Sf p.tables e below T m pc Ls st t := XS.aload (g := mkF m pc Ls st) X.here J.1 rfl (jd J jn hd) hl hv k
theorem iN (X : Stand p l e R s m args below meth c T locs cells slots) (J : Jn p Z a0 s m own c n DL) (jn : Nat) (hd : DL[jn]? = some (pc, .iload_n i, 1)) (hl : Ls[i.val]? = some (.val (.int x))) (k : Sf p.tables e below T m (pc + 1) Ls (.int x :: st) t) : Sf p.tables e below T m pc Ls st t := XS.iloadN (g := mkF m pc Ls st) X.here J.1 rfl (jd J jn hd) hl k
theorem iL (X : Stand p l e R s m args below meth c T locs cells slots) (J : Jn p Z a0 s m own c n DL) (jn : Nat) (hd : DL[jn]? = some (pc, .iload j, 2)) (hl : Ls[j]? = some (.val (.int x))) (k : Sf p.tables e below T m (pc + 2) Ls (.int x :: st) t) : Sf p.tables e below T m pc Ls st t := XS.iload (g := mkF m pc Ls st) X.here J.1 rfl (jd J jn hd) hl k
theorem cI (X : Stand p l e R s m args below meth c T locs cells slots) (J : Jn p Z a0 s m own c n DL) (jn : Nat) (hd : DL[jn]? = some (pc, .iconst o, 1)) (z : Int32) (k : Sf p.tables e below T m (pc + 1) Ls (.int z :: st) t) (hz : Int32.ofInt o = z := by rfl) : Sf p.tables e below T m pc Ls st t := XS.iconst (g := mkF m pc Ls st) X.here J.1 rfl (jd J jn hd) (hz ▸ k)
theorem cB (X : Stand p l e R s m args below meth c T locs cells slots) (J : Jn p Z a0 s m own c n DL) (jn : Nat) (hd : DL[jn]? = some (pc, .bipush o, 2)) (z : Int32) (k : Sf p.tables e below T m (pc + 2) Ls (.int z :: st) t) (hz : (Int8.ofInt o).toInt32 = z := by rfl) : Sf p.tables e below T m pc Ls st t := XS.bipush (g := mkF m pc Ls st) X.here J.1 rfl (jd J jn hd) (hz ▸ k)
theorem cU (X : Stand p l e R s m args below meth c T locs cells slots) (J : Jn p Z a0 s m own c n DL) (jn : Nat) (hd : DL[jn]? = some (pc, .aconst_null, 1)) (k : Sf p.tables e below T m (pc + 1) Ls (.null :: st) t) : Sf p.tables e below T m pc Ls st t := XS.aconstNull (g := mkF m pc Ls st) X.here J.1 rfl (jd J jn hd) k
theorem oA (X : Stand p l e R s m args below meth c T locs cells slots) (J : Jn p Z a0 s m own c n DL) (jn : Nat) (hd : DL[jn]? = some (pc, .iadd, 1)) (z : Int32) (k : Sf p.tables e below T m (pc + 1) Ls (.int z :: rest) t) (hz : x + y = z := by rfl) : Sf p.tables e below T m pc Ls (.int y :: .int x :: rest) t := XS.iadd (g := mkF m pc Ls (.int y :: .int x :: rest)) X.here J.1 rfl (jd J jn hd) rfl (hz ▸ k)
theorem oS (X : Stand p l e R s m args below meth c T locs cells slots) (J : Jn p Z a0 s m own c n DL) (jn : Nat) (hd : DL[jn]? = some (pc, .isub, 1)) (z : Int32) (k : Sf p.tables e below T m (pc + 1) Ls (.int z :: rest) t) (hz : x - y = z := by rfl) : Sf p.tables e below T m pc Ls (.int y :: .int x :: rest) t := XS.isub (g := mkF m pc Ls (.int y :: .int x :: rest)) X.here J.1 rfl (jd J jn hd) rfl (hz ▸ k)
theorem oD (X : Stand p l e R s m args below meth c T locs cells slots) (J : Jn p Z a0 s m own c n DL) (jn : Nat) (hd : DL[jn]? = some (pc, .iand, 1)) (z : Int32) (k : Sf p.tables e below T m (pc + 1) Ls (.int z :: rest) t) (hz : x &&& y = z := by rfl) : Sf p.tables e below T m pc Ls (.int y :: .int x :: rest) t := XS.iand (g := mkF m pc Ls (.int y :: .int x :: rest)) X.here J.1 rfl (jd J jn hd) rfl (hz ▸ k)
theorem oP (X : Stand p l e R s m args below meth c T locs cells slots) (J : Jn p Z a0 s m own c n DL) (jn : Nat) (hd : DL[jn]? = some (pc, .dup, 1)) (k : Sf p.tables e below T m (pc + 1) Ls (v :: v :: rest) t) (hc : v.category = 1 := by rfl) : Sf p.tables e below T m pc Ls (v :: rest) t := XS.dup (g := mkF m pc Ls (v :: rest)) X.here J.1 rfl (jd J jn hd) rfl hc k
theorem oQ (X : Stand p l e R s m args below meth c T locs cells slots) (J : Jn p Z a0 s m own c n DL) (jn : Nat) (hd : DL[jn]? = some (pc, .pop, 1)) (k : Sf p.tables e below T m (pc + 1) Ls rest t) (hc : v.category = 1 := by rfl) : Sf p.tables e below T m pc Ls (v :: rest) t := XS.pop (g := mkF m pc Ls (v :: rest)) X.here J.1 rfl (jd J jn hd) rfl hc k
theorem sAN (X : Stand p l e R s m args below meth c T locs cells slots) (J : Jn p Z a0 s m own c n DL) (jn : Nat) (hd : DL[jn]? = some (pc, .astore_n i, 1)) (l' : Array Slot) (k : Sf p.tables e below T m (pc + 1) l' rest t) (hl : storeLocals Ls i.val v = some l' := by rfl) (hv : v.isRef = true := by rfl) : Sf p.tables e below T m pc Ls (v :: rest) t := XS.astoreN (g := mkF m pc Ls (v :: rest)) X.here J.1 rfl (jd J jn hd) rfl hv hl k
theorem sA (X : Stand p l e R s m args below meth c T locs cells slots) (J : Jn p Z a0 s m own c n DL) (jn : Nat) (hd : DL[jn]? = some (pc, .astore j, 2)) (l' : Array Slot) (k : Sf p.tables e below T m (pc + 2) l' rest t) (hl : storeLocals Ls j v = some l' := by rfl) (hv : v.isRef = true := by rfl) : Sf p.tables e below T m pc Ls (v :: rest) t := XS.astore (g := mkF m pc Ls (v :: rest)) X.here J.1 rfl (jd J jn hd) rfl hv hl k
theorem sIN (X : Stand p l e R s m args below meth c T locs cells slots) (J : Jn p Z a0 s m own c n DL) (jn : Nat) (hd : DL[jn]? = some (pc, .istore_n i, 1)) (l' : Array Slot) (k : Sf p.tables e below T m (pc + 1) l' rest t) (hl : storeLocals Ls i.val (.int x) = some l' := by rfl) : Sf p.tables e below T m pc Ls (.int x :: rest) t := XS.istoreN (g := mkF m pc Ls (.int x :: rest)) X.here J.1 rfl (jd J jn hd) rfl hl k
theorem sI (X : Stand p l e R s m args below meth c T locs cells slots) (J : Jn p Z a0 s m own c n DL) (jn : Nat) (hd : DL[jn]? = some (pc, .istore j, 2)) (l' : Array Slot) (k : Sf p.tables e below T m (pc + 2) l' rest t) (hl : storeLocals Ls j (.int x) = some l' := by rfl) : Sf p.tables e below T m pc Ls (.int x :: rest) t := XS.istore (g := mkF m pc Ls (.int x :: rest)) X.here J.1 rfl (jd J jn hd) rfl hl k
theorem xI {cst : Int} (X : Stand p l e R s m args below meth c T locs cells slots) (J : Jn p Z a0 s m own c n DL) (jn : Nat) (hd : DL[jn]? = some (pc, .iinc j cst, 3)) (hl : Ls[j]? = some (.val (.int x))) (l' : Array Slot) (k : Sf p.tables e below T m (pc + 3) l' st t) (hl' : storeLocals Ls j (.int (x + Int32.ofInt cst)) = some l' := by rfl) : Sf p.tables e below T m pc Ls st t := XS.iinc (g := mkF m pc Ls st) X.here J.1 rfl (jd J jn hd) hl hl' k
theorem jG (X : Stand p l e R s m args below meth c T locs cells slots) (J : Jn p Z a0 s m own c n DL) (jn : Nat) (hd : DL[jn]? = some (pc, .goto o, 3)) (pc' : Nat) (k : Sf p.tables e below T m pc' Ls st t) (ho : 0 ≤ (pc : Int) + o := by decide) (hp : ((pc : Int) + o).toNat = pc' := by decide) : Sf p.tables e below T m pc Ls st t := XS.goto (g := mkF m pc Ls st) X.here J.1 rfl (pc0 := pc) (pc' := pc') rfl (jd J jn hd) ho hp k
theorem fY (X : Stand p l e R s m args below meth c T locs cells slots) (J : Jn p Z a0 s m own c n DL) (jn : Nat) (hd : DL[jn]? = some (pc, .ifCond cd o, 3)) (hc : ifCond.holds cd x = true) (pc' : Nat) (k : Sf p.tables e below T m pc' Ls rest t) (ho : 0 ≤ (pc : Int) + o := by decide) (hp : ((pc : Int) + o).toNat = pc' := by decide) : Sf p.tables e below T m pc Ls (.int x :: rest) t := XS.ifYes (g := mkF m pc Ls (.int x :: rest)) X.here J.1 rfl (pc0 := pc) (pc' := pc') rfl (jd J jn hd) rfl hc ho hp k
theorem fN (X : Stand p l e R s m args below meth c T locs cells slots) (J : Jn p Z a0 s m own c n DL) (jn : Nat) (hd : DL[jn]? = some (pc, .ifCond cd o, 3)) (hc : ifCond.holds cd x = false) (k : Sf p.tables e below T m (pc + 3) Ls rest t) : Sf p.tables e below T m pc Ls (.int x :: rest) t := XS.ifNo (g := mkF m pc Ls (.int x :: rest)) X.here J.1 rfl (jd J jn hd) rfl hc k
theorem cY (X : Stand p l e R s m args below meth c T locs cells slots) (J : Jn p Z a0 s m own c n DL) (jn : Nat) (hd : DL[jn]? = some (pc, .if_icmp cd o, 3)) (hc : if_icmp.holds cd x y = true) (pc' : Nat) (k : Sf p.tables e below T m pc' Ls rest t) (ho : 0 ≤ (pc : Int) + o := by decide) (hp : ((pc : Int) + o).toNat = pc' := by decide) : Sf p.tables e below T m pc Ls (.int y :: .int x :: rest) t := XS.icmpYes (g := mkF m pc Ls (.int y :: .int x :: rest)) X.here J.1 rfl (pc0 := pc) (pc' := pc') rfl (jd J jn hd) rfl hc ho hp k
theorem cN (X : Stand p l e R s m args below meth c T locs cells slots) (J : Jn p Z a0 s m own c n DL) (jn : Nat) (hd : DL[jn]? = some (pc, .if_icmp cd o, 3)) (hc : if_icmp.holds cd x y = false) (k : Sf p.tables e below T m (pc + 3) Ls rest t) : Sf p.tables e below T m pc Ls (.int y :: .int x :: rest) t := XS.icmpNo (g := mkF m pc Ls (.int y :: .int x :: rest)) X.here J.1 rfl (jd J jn hd) rfl hc k
theorem uY (X : Stand p l e R s m args below meth c T locs cells slots) (J : Jn p Z a0 s m own c n DL) (jn : Nat) (hd : DL[jn]? = some (pc, .ifnull o, 3)) (pc' : Nat) (k : Sf p.tables e below T m pc' Ls rest t) (ho : 0 ≤ (pc : Int) + o := by decide) (hp : ((pc : Int) + o).toNat = pc' := by decide) : Sf p.tables e below T m pc Ls (.null :: rest) t := XS.ifnullYes (g := mkF m pc Ls (.null :: rest)) X.here J.1 rfl (pc0 := pc) (pc' := pc') rfl (jd J jn hd) rfl ho hp k
theorem uN (X : Stand p l e R s m args below meth c T locs cells slots) (J : Jn p Z a0 s m own c n DL) (jn : Nat) (hd : DL[jn]? = some (pc, .ifnull o, 3)) (k : Sf p.tables e below T m (pc + 3) Ls rest t) : Sf p.tables e below T m pc Ls (.ref a :: rest) t := XS.ifnullNo (g := mkF m pc Ls (.ref a :: rest)) X.here J.1 rfl (jd J jn hd) rfl k
theorem wY (X : Stand p l e R s m args below meth c T locs cells slots) (J : Jn p Z a0 s m own c n DL) (jn : Nat) (hd : DL[jn]? = some (pc, .ifnonnull o, 3)) (pc' : Nat) (k : Sf p.tables e below T m pc' Ls rest t) (ho : 0 ≤ (pc : Int) + o := by decide) (hp : ((pc : Int) + o).toNat = pc' := by decide) : Sf p.tables e below T m pc Ls (.ref a :: rest) t := XS.ifnonnullYes (g := mkF m pc Ls (.ref a :: rest)) X.here J.1 rfl (pc0 := pc) (pc' := pc') rfl (jd J jn hd) rfl ho hp k
theorem wN (X : Stand p l e R s m args below meth c T locs cells slots) (J : Jn p Z a0 s m own c n DL) (jn : Nat) (hd : DL[jn]? = some (pc, .ifnonnull o, 3)) (k : Sf p.tables e below T m (pc + 3) Ls rest t) : Sf p.tables e below T m pc Ls (.null :: rest) t := XS.ifnonnullNo (g := mkF m pc Ls (.null :: rest)) X.here J.1 rfl (jd J jn hd) rfl k
theorem gy {tb : Tables} {P : State → Prop} {pc' : Nat} {Ls' : Array Slot} {st' : List Value} (h : ∀ t, Sf tb e below T m pc' Ls' st' t → Sf tb e below T m pc Ls st t) (k : Go tb e below P (T.setTop (mkF m pc' Ls' st'))) : Go tb e below P (T.setTop (mkF m pc Ls st)) := k.elim fun u q => ⟨u, q.1, fun t z => h t (q.2 t z)⟩
end OwnSteps
theorem jQ {p : Program} {l : Launch} {e : Env} {R : Room} {s : State} {m : MethodId} {args : Array Value} {below : List Frame} {meth : Method} {c : Code} {T t : State} {locs : List Loc} {cells slots pc : Nat} {Ls : Array Slot} {rest : List Value} {o : Int} {cd : ACond} {u w : Value} {Z : State} {a0 : Array Value} {own : String} {n : Nat} {DL : List (Nat × Instr × Nat)} (X : Stand p l e R s m args below meth c T locs cells slots) (J : Jn p Z a0 s m own c n DL) (jn : Nat) (hd : DL[jn]? = some (pc, .if_acmp cd o, 3)) (same : Bool) (hq : decide (u = w) = same) (pc' : Nat) (k : Sf p.tables e below T m pc' Ls rest t) (h1 : u.isRef = true := by rfl) (h2 : w.isRef = true := by rfl) (ho : 0 ≤ (pc : Int) + o := by decide) (hp : pc' = if acV cd same = true then ((pc : Int) + o).toNat else pc + 3 := by decide) : Sf p.tables e below T m pc Ls (w :: u :: rest) t :=
  Jvm.RoadKit.acmp (g := mkF m pc Ls (w :: u :: rest)) X J.1 rfl h1 h2 (pc0 := pc) (pc' := pc') (same := same) rfl (jd J jn hd) rfl hq ho hp k
section OwnRet
variable {p : Program} {l : Launch} {e : Env} {R : Room} {s : State} {m : MethodId} {args a0 : Array Value} {below : List Frame} {meth : Method} {c : Code} {T Z : State} {locs : List Loc} {cells slots pc n : Nat} {Ls : Array Slot} {rest : List Value} {z : Int32} {w : Value} {t : FieldType} {ce sl : Nat} {Q : Option Value → Heap → List Loc → Prop} {Pf : State → Prop} {own : String} {DL : List (Nat × Instr × Nat)}
theorem rI (X : Stand p l e R s m args below meth c T locs cells slots) (hret : meth.sig.returnType = some t) (hlk : meth.locks = false) (hP : Pf = Fin' s below ce sl Q) (J : Jn p Z a0 s m own c n DL) (jn : Nat) (q : Q (some (.int z)) T.heap locs) (hn : narrow t (.int z) = .int z := by rfl) (hd : DL[jn]? = some (pc, .ireturn, 1) := by rfl) (hc : cells ≤ ce := by decide) (hs : slots ≤ sl := by decide) (ht : t = .int ∨ t = .boolean ∨ t = .byte ∨ t = .char ∨ t = .short := by simp) : Go p.tables e below Pf (T.setTop (mkF m pc Ls (.int z :: rest))) := hP ▸ Go.retI' X J.1 hret hlk ht hn (jd J jn hd) hc hs q
theorem rA (X : Stand p l e R s m args below meth c T locs cells slots) (hret : meth.sig.returnType = some t) (hlk : meth.locks = false) (hP : Pf = Fin' s below ce sl Q) (J : Jn p Z a0 s m own c n DL) (jn : Nat) (q : Q (some w) T.heap locs) (hw : w.isRef = true := by rfl) (hd : DL[jn]? = some (pc, .areturn, 1) := by rfl) (hc : cells ≤ ce := by decide) (hs : slots ≤ sl := by decide) (ht : t.isReference = true := by rfl) : Go p.tables e below Pf (T.setTop (mkF m pc Ls (w :: rest))) := hP ▸ Go.retA' X J.1 hret hlk ht hw (jd J jn hd) hc hs q
theorem rV (X : Stand p l e R s m args below meth c T locs cells slots) (hret : meth.sig.returnType = none) (hlk : meth.locks = false) (hP : Pf = Fin' s below ce sl Q) (J : Jn p Z a0 s m own c n DL) (jn : Nat) (q : Q none T.heap locs) (hd : DL[jn]? = some (pc, .return_, 1) := by rfl) (hc : cells ≤ ce := by decide) (hs : slots ≤ sl := by decide) : Go p.tables e below Pf (T.setTop (mkF m pc Ls [])) := hP ▸ Go.retV' X J.1 hret hlk (jd J jn hd) hc hs q
end OwnRet
section OwnUp2
variable {p : Program} {l : Launch} {e : Env} {R rm : Room} {s Z : State} {m : MethodId} {args a0 : Array Value} {below : List Frame} {meth : Method} {c : Code} {T : State} {locs : List Loc} {cells slots : Nat} {h0 h : Heap} {n0 n pc : Nat} {y z : MethodName} {bytes : ByteArray} {ml : Nat} {rt : Option FieldType} {argsL rest stk : List Value} {Q : Option Value → Heap → List Loc → Prop} {P : State → Prop} {own C : String} {index : Nat} {Ls : Array Slot} {b a : Addr} {v : Value} {DL : List (Nat × Instr × Nat)}
theorem own_lm (X : Stand p l e R s m args below meth c T locs cells slots) (J : Jn p Z a0 s m own c n DL) (jn iw : Nat) (M : Mir Z C a) (eT : T.heap = h) (k : ∀ T', Stand p l e R s m args below meth c T' locs cells slots → T'.heap = h → Go p.tables e below P (T'.setTop (mkF m (pc + 2) Ls (.ref a :: stk))))
    (hw : tables_1[iw]? = some (Cond.classLink own index C) := by rfl) (hd : DL[jn]? = some (pc, .ldc index, 2) := by rfl) : Go p.tables e below P (T.setTop (mkF m pc Ls stk)) :=
  own_st (own_ldcM X J.1 J.2.1 J.2.2.1 (ww J.2.2.2.1 iw hw) M eT (g := mkF m pc Ls stk) rfl (jd J jn hd)) k
theorem own_gr {O nm d : String} (X : Stand p l e R s m args below meth c T locs cells slots) (J : Jn p Z a0 s m own c n DL) (jn iw : Nat) (eT : T.heap = h) (F : Fld Z h b O nm d v) (k : ∀ T', Stand p l e R s m args below meth c T' locs cells slots → T'.heap = h → Go p.tables e below P (T'.setTop (mkF m (pc + 3) Ls (v :: rest))))
    (hw : tables_1[iw]? = some (Cond.fieldRef own index O nm d) := by rfl) (hd : DL[jn]? = some (pc, .getfield index, 3) := by rfl) : Go p.tables e below P (T.setTop (mkF m pc Ls (.ref b :: rest))) := by
  obtain ⟨cell, cf, kf, i, f, h1, h2, h3, h4, -, -, h7⟩ := F
  have hT : Z.Warmed39 T.vm := wtrans J.2.1 X.warmed
  have wT := Cond.fieldRef_warmed39 (args := a0) hT (ww J.2.2.2.1 iw hw)
  obtain ⟨c', k', i', f', q1, q2⟩ := Cond.fieldRef_spec (s := Z.setVm T.vm) (cur := m.cls) (by show T.vm.findClass own = _; rw [X.warmed.alike.findClass]; exact J.2.2.1) wT
  obtain ⟨k2, hi, -⟩ := State.fieldFound?_setVm (s := Z) hT.alike h2
  cases q1.symm.trans hi
  exact Go.by' (fun t z => (X.getfieldR J.1 (g := mkF m pc Ls (.ref b :: rest)) rfl q2 h3 rfl (by rw [eT]; exact h1) h4 h7 (jd J jn hd) (Steps.refl _)).trans z) (k T X eT)
theorem own_gc {xi : MethodName} {mir : Addr} {cnt : Nat} (X : Stand p l e R s m args below meth c T locs cells slots) (J : Jn p Z a0 s m own c n DL) (jn : Nat) (w1 : (Cond.methodLink own index xi).before a0 Z = true) (w2 : (Cond.declares Jvm.Stand.gcN).before a0 Z = true) (w3 : (Cond.interfaceMethod xi.cls S_2 xi.name xi.desc).before a0 Z = true) (w4 : (Cond.selects C xi Jvm.Stand.gcN).before a0 Z = true) (w5 : (Cond.instanceMethod Jvm.Stand.gcN).before a0 Z = true)
    (w6 : (Cond.publicMethod Jvm.Stand.gcN).before a0 Z = true) (w7 : (Cond.unhidden C xi.name xi.desc).before a0 Z = true) (w8 : (Cond.castable C xi.cls).before a0 Z = true) (w9 : (Cond.native Jvm.Stand.gcN).before a0 Z = true) (eT : T.heap = h) (E : Exa Z h b C) (M : Mir Z C mir) (W : Nat) (k : ∀ T', Stand p l e R s m args below meth c T' locs cells slots → T'.heap = h → Go p.tables e below P (T'.setTop (mkF m (pc + 5) Ls (.ref mir :: rest))))
    (hd : DL[jn]? = some (pc, .invokeinterface index cnt, 5) := by rfl) (hn : Ls.size = n := by rfl) (hW : (rest.map fun v => v.category).sum = W := by rfl) (hxx : ok xi := by decide) (hxo : xi.cls ≠ S_2 := by decide) (hnm : xi.name = "getClass" := by rfl) (hds : xi.desc = "()Ljava/lang/Class;" := by rfl) (hf : 1 ≤ R.frames := by decide) (hl : W + (nativeFrameWords S_2 "getClass" 1 + 11) ≤ R.locals := by decide) : Go p.tables e below P (T.setTop (mkF m pc Ls (.ref b :: rest))) :=
  own_st (own_getC X J.1 J.2.1 J.2.2.1 w1 w2 w3 w4 w5 w6 w7 w8 w9 hxx hxo hnm hds eT E M (g := mkF m pc Ls (.ref b :: rest)) rfl (hn.trans J.2.2.2.2.1.symm) rfl (jd J jn hd) hf (mr0 hW) hl) k
theorem own_sto {ty : FieldType} {kb : ClassId} {z : Int32} {vs : List Value} {d : Value} {u : Addr} (B : Arv Z h b kb ty z vs d) (O : Ovr Z kb C) (I : Ins Z h u C true) : Sto Z h b (.ref u) := by
  obtain ⟨cl, A, q, -⟩ := B
  exact Sto.ofV A q O I
theorem own_ar {ty : FieldType} {ka kb : ClassId} {za zb nn : Int32} {vs vd : List Value} {d : Value} (X : Stand p l e R s m args below meth c T locs cells slots) (J : Jn p Z a0 s m own c n DL) (jn iw1 iw2 iw3 iw4 : Nat) (eT : T.heap = h) (A : Arv Z h a ka ty za vs d) (B : Arv Z h b kb ty zb vd d) (us : List Value) (S : StoL Z h b us) (N : Fr n0 locs) (g : n0 ≤ b) (W : Nat)
    (k : ∀ (T' : State) (h' : Heap) (lc : List Loc), Stand p l e R s m args below meth c T' lc cells slots → T'.heap = h' → Keep h h' [b] → Arv Z h' b kb ty zb us d → Fr n0 lc → Go p.tables e below P (T'.setTop (mkF m (pc + 3) Ls rest)))
    (hd : DL[jn]? = some (pc, .invokestatic index, 3) := by rfl) (hw1 : tables_1[iw1]? = some (Cond.methodLink own index Jvm.Stand.acN) := by rfl) (hw2 : tables_1[iw2]? = some (Cond.native Jvm.Stand.acN) := by rfl) (hw3 : tables_1[iw3]? = some (Cond.static Jvm.Stand.acN) := by rfl) (hw4 : tables_1[iw4]? = some (Cond.initialized "java/lang/System") := by rfl)
    (hr : refKind ty = true := by rfl) (h3 : ¬ nn < 0 := by decide) (h4 : (0 : Int32).toNatClampNeg + nn.toNatClampNeg ≤ za.toNatClampNeg := by decide) (h5 : (0 : Int32).toNatClampNeg + nn.toNatClampNeg ≤ zb.toNatClampNeg := by decide) (hus : us = (List.range nn.toNatClampNeg).map (fun i => vs.getD ((0 : Int32).toNatClampNeg + i) d) := by rfl) (hl : (0 : Int32).toNatClampNeg + nn.toNatClampNeg ≤ vd.length := by decide) (hres : vd.take (0 : Int32).toNatClampNeg ++ us ++ vd.drop ((0 : Int32).toNatClampNeg + nn.toNatClampNeg) = us := by rfl)
    (hn : Ls.size = n := by rfl) (hW : (rest.map fun v => v.category).sum = W := by rfl) (hf : 1 ≤ R.frames := by decide) (hlo : W + (nativeFrameWords "java/lang/System" "arraycopy" 5 + 11) ≤ R.locals := by decide) : Go p.tables e below P (T.setTop (mkF m pc Ls (.int nn :: .int 0 :: .ref b :: .int 0 :: .ref a :: rest))) := by
  obtain ⟨T', h', L, X', e', N', K', V', st⟩ := cpA X J.1 J.2.1 J.2.2.1 (ww J.2.2.2.1 iw1 hw1) (ww J.2.2.2.1 iw2 hw2) (ww J.2.2.2.1 iw3 hw3) (ww J.2.2.2.1 iw4 hw4) eT A B (Or.inr ⟨hr, hr, S⟩) (by decide) (by decide) h3 h4 h5 hus hl N g (g := mkF m pc Ls (.int nn :: .int 0 :: .ref b :: .int 0 :: .ref a :: rest)) rfl (hn.trans J.2.2.2.2.1.symm) rfl (jd J jn hd) hf (mr0 hW) hlo
  rw [hres] at V'
  exact Go.by' st (k T' h' L X' e' K' V' N')
theorem own_cu {J' : String} (K : MM l Z z bytes ml rt [] rm (Value.ref b :: argsL).toArray h0 Q) (X : Stand p l e R s m args below meth c T locs cells slots) (J : Jn p Z a0 s m own c n DL) (jn : Nat) (iw1 : Nat) (iw2 : Nat) (iw7 : Nat) (iw5 : Nat) (iw6 : Nat) (iw8 : Nat) (iw9 : Nat) (iwc : Nat) (iw3 : Nat) (iw4 : Nat)
    (eT : T.heap = h0) (E : Exa Z h0 b C) (W : Nat) {ps : List FieldType} {pr : Option FieldType} (hlen : parseMethodDescriptor y.desc = some ⟨ps, pr⟩) {cnt : Nat}
    (k : ∀ (T' : State) (L : List Loc) (v : Option Value), Stand p l e R s m args below meth c T' (locs ++ L) (cells + rm.cells) (slots + rm.slots) → Q v T'.heap L → Go p.tables e below P (T'.setTop (mkF m (pc + 5) Ls (v.toList ++ rest))))
    (hs : stk = argsL.reverse ++ .ref b :: rest := by rfl) (hn : Ls.size = n := by rfl) (hW : (rest.map fun v => v.category).sum = W := by rfl) (hf : rm.frames + 1 ≤ R.frames := by decide) (hl : W + (ml + 11) + rm.locals ≤ R.locals := by decide) (hc : cells + rm.cells ≤ R.cells := by decide) (hsl : slots + rm.slots ≤ R.slots := by decide) (hy : ok y := by decide) (hxo : y.cls ≠ J' := by decide) (hcn : y.name ≠ "clone" := by decide) (hw1 : tables_1[iw1]? = some (Cond.methodLink own index y) := by rfl) (hw2 : tables_1[iw2]? = some (Cond.declares ⟨J', y.name, y.desc⟩) := by rfl) (hw7 : tables_1[iw7]? = some (Cond.interfaceMethod y.cls J' y.name y.desc) := by rfl) (hw5 : tables_1[iw5]? = some (Cond.selects C y z) := by rfl) (hw6 : tables_1[iw6]? = some (Cond.instanceMethod z) := by rfl) (hw8 : tables_1[iw8]? = some (Cond.publicMethod z) := by rfl) (hw9 : tables_1[iw9]? = some (Cond.unhidden C y.name y.desc) := by rfl) (hwc : tables_1[iwc]? = some (Cond.castable C y.cls) := by rfl) (hw3 : tables_1[iw3]? = some (Cond.initialized z.cls) := by rfl) (hw4 : tables_1[iw4]? = some (Cond.code z bytes ml rt) := by rfl) (hle : argsL.length = ps.length := by rfl) (hd : DL[jn]? = some (pc, .invokeinterface index cnt, 5) := by rfl) : Go p.tables e below P (T.setTop (mkF m pc Ls stk)) := by
  subst hs
  obtain ⟨cB, kB, q1, q2, q3⟩ := isOf J.2.1 eT E
  exact own_nr (own_ifUp X J.1 (J := J') (xi := y) (y := z) J.2.2.1 (mvT J.2.1 (ww J.2.2.2.1 iw1 hw1)) (mvT J.2.1 (ww J.2.2.2.1 iw2 hw2)) (Jvm.Free.ULB.iface_rides J.2.1.alike (ww J.2.2.2.1 iw7 hw7)) hxo hcn (mvT J.2.1 (ww J.2.2.2.1 iw5 hw5)) (mvT J.2.1 (ww J.2.2.2.1 iw6 hw6)) (mvT J.2.1 (ww J.2.2.2.1 iw8 hw8)) (mvT J.2.1 (ww J.2.2.2.1 iw9 hw9)) (mvT J.2.1 (ww J.2.2.2.1 iwc hwc)) hy (backOf (W := W) K J.2.1 (ww J.2.2.2.1 iw4 hw4) (ww J.2.2.2.1 iw3 hw3) hf hl) q1 q2 q3 (g := mkF m pc Ls (argsL.reverse ++ .ref b :: rest)) rfl (hn.trans J.2.2.2.2.1.symm) (Steps.refl _) (argsL := argsL) (rest := rest) (lenOf hlen hle) rfl (mr0 hW) (jd J jn hd) (fun _ _ => ⟨rfl, eT, hc, hsl⟩)) k
end OwnUp2
variable {l : Launch} {Z : State} {a0 : Array Value} {ws : List Jvm.Cond} {vcs : Int32} {wI : Addr} {wA : Addr} {cA : Cell} {vF : Value} {wP : Addr} {wD : Addr} {kD : ClassId} {wE : Addr} {kE : ClassId} {mT : Addr} {mU : Addr} {mL : Addr} {mO : Addr}
theorem pn_44 : plainName S_23 = true := by first | (simp [plainName, overriddenIn]; done) | decide +kernel
def L44 : List (Nat × Instr × Nat) := [(0, i_1), (1, .i2c, 1), (2, .istore_n 2, 1), (3, .getstatic 1, 3), (6, i_2), (7, .iaload, 1), (8, .istore_n 3, 1), (9, i_3), (10, .ireturn, 1)]
theorem d44 : ∀ q ∈ L44, decode jdk_116_method_1_code q.1 = .ok q.2 := by decide +kernel
def QrmGP (iy : Int32) (v : Option Value) : Prop := (v = some (.int (tv iy)))
abbrev own_y0 : MethodName := ⟨S_23, "getProperties", "(I)I"⟩
theorem rmGP (hw : HW a0 Z) (G : Gh Z vcs wI wA cA vF wP wD kD wE kE mT mU mL mO) (iy : Int32) (h0 : Heap) (n0 : Nat) (O0 : Old Z n0 h0) (hlo : ¬ (iy < (0 : Int32))) (hhi : ¬ ((255 : Int32) < iy)) :
    MM l Z own_y0 jdk_116_method_1_code 4 (some .int) ws (Rm 0 0 0 0) #[(.ref wI), (.int iy)] h0 (QP h0 (QrmGP iy)) := by
  refine own_go hw (plainFor_of_name pn_44) #[vr wI, vi iy, .unset, .unset] (fun p e s m below meth c s₁ Pf hx hby hlk hown hnm hret hml hZ hh X0 e0 hPf Jf => ?_)
  have J := Jf d44
  refine gy (fun t k => iN X0 J 0 rfl rfl k) ?_
  refine Go.by' (fun t k => XS.i2c X0.here hx rfl (jd J 1 rfl) rfl k) ?_
  show G_ 2 #[vr wI, vi iy, .unset, .unset] [(.int (iy.toUInt32.toUInt16.toUInt32.toInt32))]
  refine Go.castF (a := (iy.toUInt32.toUInt16.toUInt32.toInt32)) (b := iy) (fun z' : Int32 => mkF m 2 #[vr wI, vi iy, .unset, .unset] [(.int z')]) (own_i2c hlo hhi) ?_
  show G_ 2 #[vr wI, vi iy, .unset, .unset] [(.int iy)]
  refine gy (fun t k => sIN X0 J 2 rfl #[vr wI, vi iy, vi iy, .unset] k) ?_
  refine own_gs X0 J 3 298 Via.refl e0 (G.2.2.2.2.1.ext O0.2) (fun T1 X1 e1 => ?_)
  refine gy (fun t k => iN X1 J 4 rfl rfl k) ?_
  have hin2 : ¬ (iy < 0 ∨ cA.slots.size ≤ iy.toNatClampNeg) := inb_of (z := 256) G.2.2.2.2.2.1.2.1 (own_tvr hlo hhi)
  have at2 : cA.slots[iy.toNatClampNeg]? = some (.int (tv iy)) := G.2.2.2.2.2.1.2.2 _ (by have := hin2; rw [G.2.2.2.2.2.1.2.1] at this; exact Nat.lt_of_not_le fun z => this (Or.inr z))
  refine Go.by' (fun t k => X1.iaload hx (j := iy) (v := (.int (tv iy))) (by rw [e1]; exact (G.2.2.2.2.2.1.1.ext O0.2).1) (State.isArrayOf_alike hZ.alike G.2.2.2.2.2.1.1.2.1) G.2.2.2.2.2.1.1.2.2 hin2 at2 (g := (mkF m 7 #[vr wI, vi iy, vi iy, .unset] [(.int iy), (.ref wA)])) rfl rfl (jd J 5 rfl) t k) ?_
  show G_ 8 #[vr wI, vi iy, vi iy, .unset] [(.int (tv iy))]
  refine gy (fun t k => sIN X1 J 6 rfl #[vr wI, vi iy, vi iy, vi (tv iy)] (iN X1 J 7 rfl rfl k)) ?_
  exact rI X1 hret hlk hPf J 8 ⟨rfl, rfl, e1⟩
theorem pd_0 : parseMethodDescriptor "(I)I" = some ⟨[.int], some .int⟩ := by decide +kernel
def L43 : List (Nat × Instr × Nat) := [(0, a_0), (1, i_1), (2, .invokevirtual 15, 3), (5, .istore_n 2, 1), (6, i_2), (7, .sipush 28672, 3), (10, .iand, 1), (11, .sipush 16384, 3), (14, .if_icmp .ne 7, 3), (17, .iconst 1, 1), (18, .goto 4, 3), (21, .iconst 0, 1), (22, .ireturn, 1)]
theorem d43 : ∀ q ∈ L43, decode jdk_116_method_26_code q.1 = .ok q.2 := by decide +kernel
def QrmIW (iy : Int32) (v : Option Value) : Prop := ∃ (r : Int32), (v = some (.int r)) ∧ ((Ws iy ∧ r = (1 : Int32)) ∨ (¬ Ws iy ∧ r = (0 : Int32)))
abbrev own_y1 : MethodName := ⟨S_23, "isWhitespace", "(I)Z"⟩
theorem rmIW (hw : HW a0 Z) (G : Gh Z vcs wI wA cA vF wP wD kD wE kE mT mU mL mO) (iy : Int32) (h0 : Heap) (n0 : Nat) (O0 : Old Z n0 h0) (hlo : ¬ (iy < (0 : Int32))) (hhi : ¬ ((255 : Int32) < iy)) :
    MM l Z own_y1 jdk_116_method_26_code 3 (some .boolean) ws (Rm 1 0 0 15) #[(.ref wI), (.int iy)] h0 (QP h0 (QrmIW iy)) := by
  refine own_go hw (plainFor_of_name pn_44) #[vr wI, vi iy, .unset] (fun p e s m below meth c s₁ Pf hx hby hlk hown hnm hret hml hZ hh X0 e0 hPf Jf => ?_)
  have J := Jf d43
  refine gy (fun t k => aN X0 J 0 rfl rfl (iN X0 J 1 rfl rfl k)) ?_
  refine own_cv (rmGP hw G iy _ _ O0 hlo hhi) X0 J 2 293 294 296 295 287 297 e0 (G.2.2.2.1.ext O0.2) 0 pd_0 (kP fun T3 v3 X3 e3 q3 => ?_)
  obtain rfl := q3
  show G_ 5 _ [(.int (tv iy))]
  refine gy (fun t k => sIN X3 J 3 rfl #[vr wI, vi iy, vi (tv iy)] (iN X3 J 4 rfl rfl k)) ?_
  refine Go.by' (fun t k => XS.sipush X3.here hx rfl (jd J 5 rfl) k) ?_
  show G_ 10 #[vr wI, vi iy, vi (tv iy)] [(.int 28672), (.int (tv iy))]
  refine gy (fun t k => oD X3 J 6 rfl ((tv iy) &&& (28672 : Int32)) k) ?_
  refine Go.by' (fun t k => XS.sipush X3.here hx rfl (jd J 7 rfl) k) ?_
  show G_ 14 #[vr wI, vi iy, vi (tv iy)] [(.int 16384), (.int ((tv iy) &&& (28672 : Int32)))]
  have jn5 : ∀ (T' : State) (w5_0 : Int32), Like X3 T' → T'.heap = h0 → ((((tv iy) &&& (28672 : Int32)) = (16384 : Int32) ∧ w5_0 = (1 : Int32)) ∨ (¬ (((tv iy) &&& (28672 : Int32)) = (16384 : Int32)) ∧ w5_0 = (0 : Int32))) → Go p.tables e below Pf (T'.setTop (mkF m 22 #[vr wI, vi iy, vi (tv iy)] [(.int w5_0)])) := by
    intro T5 w5_0 X5 e5 hm5
    unfold Like at X5
    have bw5_0 : w5_0 = 0 ∨ w5_0 = 1 := by rcases hm5 with ⟨_, h⟩ | ⟨_, h⟩ <;> first | exact Or.inl h | exact Or.inr h
    exact rI X5 hret hlk hPf J 12 ⟨⟨w5_0, rfl, (hm5.elim (fun q => Or.inl ⟨(own_ws hlo hhi).mp q.1, q.2⟩) (fun q => Or.inr ⟨fun z => q.1 ((own_ws hlo hhi).mpr z), q.2⟩))⟩, rfl, e5⟩ (hn := (own_nb bw5_0))
  by_cases hc6 : ((tv iy) &&& (28672 : Int32)) = (16384 : Int32)
  · refine gy (fun t k => cN X3 J 8 rfl (teq hc6).2 (cI X3 J 9 rfl 1 (jG X3 J 10 rfl 22 k))) ?_
    exact jn5 T3 ((1 : Int32)) X3 e3  (Or.inl ⟨hc6, rfl⟩)
  · refine gy (fun t k => cY X3 J 8 rfl (feq hc6).2 21 (cI X3 J 11 rfl 0 k)) ?_
    exact jn5 T3 ((0 : Int32)) X3 e3  (Or.inr ⟨hc6, rfl⟩)
theorem pn_3 : plainName S_26 = true := by first | (simp [plainName, overriddenIn]; done) | decide +kernel
def L3 : List (Nat × Instr × Nat) := [(0, i_0), (1, .bipush 32, 2), (3, .if_icmp .eq 27, 3), (30, .iconst 1, 1), (31, .goto 4, 3), (35, .ireturn, 1), (6, i_0), (7, .bipush 9, 2), (9, .if_icmp .lt 9, 3), (18, i_0), (19, .bipush 28, 2), (21, .if_icmp .lt 13, 3), (34, .iconst 0, 1), (24, i_0), (25, .bipush 31, 2), (27, .if_icmp .gt 7, 3), (12, i_0), (13, .bipush 13, 2), (15, .if_icmp .le 15, 3)]
theorem d3 : ∀ q ∈ L3, decode method_3_code q.1 = .ok q.2 := by decide +kernel
def QrmWs (iy : Int32) (v : Option Value) : Prop := ∃ (r : Int32), (v = some (.int r)) ∧ ((Ws iy ∧ r = (1 : Int32)) ∨ (¬ Ws iy ∧ r = (0 : Int32)))
abbrev own_y2 : MethodName := ⟨S_26, "ws", "(I)Z"⟩
theorem rmWs (hw : HW a0 Z) (G : Gh Z vcs wI wA cA vF wP wD kD wE kE mT mU mL mO) (iy : Int32) (h0 : Heap) (n0 : Nat) (O0 : Old Z n0 h0) :
    MM l Z own_y2 method_3_code 1 (some .boolean) ws (Rm 0 0 0 0) #[(.int iy)] h0 (QP h0 (QrmWs iy)) := by
  refine own_go hw (plainFor_of_name pn_3) #[vi iy] (fun p e s m below meth c s₁ Pf hx hby hlk hown hnm hret hml hZ hh X0 e0 hPf Jf => ?_)
  have J := Jf d3
  refine gy (fun t k => iN X0 J 0 rfl rfl (cB X0 J 1 rfl 32 k)) ?_
  by_cases hc7 : iy = (32 : Int32)
  · refine gy (fun t k => cY X0 J 2 rfl (teq hc7).1 30 (cI X0 J 3 rfl 1 (jG X0 J 4 rfl 35 k))) ?_
    exact rI X0 hret hlk hPf J 5 ⟨⟨(1 : Int32), rfl, (by unfold Ws; simp [hc7])⟩, rfl, e0⟩
  · refine gy (fun t k => cN X0 J 2 rfl (feq hc7).1 (iN X0 J 6 rfl rfl (cB X0 J 7 rfl 9 k))) ?_
    by_cases hc8 : iy < (9 : Int32)
    · refine gy (fun t k => cY X0 J 8 rfl (tlt hc8).1 18 (iN X0 J 9 rfl rfl (cB X0 J 10 rfl 28 k))) ?_
      by_cases hc9 : iy < (28 : Int32)
      · refine gy (fun t k => cY X0 J 11 rfl (tlt hc9).1 34 (cI X0 J 12 rfl 0 k)) ?_
        exact rI X0 hret hlk hPf J 5 ⟨⟨(0 : Int32), rfl, (by unfold Ws; simp [hc7, hc8, hc9])⟩, rfl, e0⟩
      · refine gy (fun t k => cN X0 J 11 rfl (flt hc9).1 (iN X0 J 13 rfl rfl (cB X0 J 14 rfl 31 k))) ?_
        by_cases hc10 : (31 : Int32) < iy
        · refine gy (fun t k => cY X0 J 15 rfl (tlt hc10).2.2.1 34 (cI X0 J 12 rfl 0 k)) ?_
          exact rI X0 hret hlk hPf J 5 ⟨⟨(0 : Int32), rfl, (by unfold Ws; simp [hc7, hc8, hc9, hc10])⟩, rfl, e0⟩
        · refine gy (fun t k => cN X0 J 15 rfl (flt hc10).2.2.1 (cI X0 J 3 rfl 1 (jG X0 J 4 rfl 35 k))) ?_
          exact rI X0 hret hlk hPf J 5 ⟨⟨(1 : Int32), rfl, (by unfold Ws; simp [hc7, hc8, hc9, hc10])⟩, rfl, e0⟩
    · refine gy (fun t k => cN X0 J 8 rfl (flt hc8).1 (iN X0 J 16 rfl rfl (cB X0 J 17 rfl 13 k))) ?_
      by_cases hc11 : (13 : Int32) < iy
      · refine gy (fun t k => cN X0 J 18 rfl (tlt hc11).2.2.2 (iN X0 J 9 rfl rfl (cB X0 J 10 rfl 28 k))) ?_
        by_cases hc12 : iy < (28 : Int32)
        · refine gy (fun t k => cY X0 J 11 rfl (tlt hc12).1 34 (cI X0 J 12 rfl 0 k)) ?_
          exact rI X0 hret hlk hPf J 5 ⟨⟨(0 : Int32), rfl, (by unfold Ws; simp [hc7, hc8, hc11, hc12])⟩, rfl, e0⟩
        · refine gy (fun t k => cN X0 J 11 rfl (flt hc12).1 (iN X0 J 13 rfl rfl (cB X0 J 14 rfl 31 k))) ?_
          by_cases hc13 : (31 : Int32) < iy
          · refine gy (fun t k => cY X0 J 15 rfl (tlt hc13).2.2.1 34 (cI X0 J 12 rfl 0 k)) ?_
            exact rI X0 hret hlk hPf J 5 ⟨⟨(0 : Int32), rfl, (by unfold Ws; simp [hc7, hc8, hc11, hc12, hc13])⟩, rfl, e0⟩
          · refine gy (fun t k => cN X0 J 15 rfl (flt hc13).2.2.1 (cI X0 J 3 rfl 1 (jG X0 J 4 rfl 35 k))) ?_
            exact rI X0 hret hlk hPf J 5 ⟨⟨(1 : Int32), rfl, (by unfold Ws; simp [hc7, hc8, hc11, hc12, hc13])⟩, rfl, e0⟩
      · refine gy (fun t k => cY X0 J 18 rfl (flt hc11).2.2.2 30 (cI X0 J 3 rfl 1 (jG X0 J 4 rfl 35 k))) ?_
        exact rI X0 hret hlk hPf J 5 ⟨⟨(1 : Int32), rfl, (by unfold Ws; simp [hc7, hc8, hc11])⟩, rfl, e0⟩
theorem pn_42 : plainName S_18 = true := by first | (simp [plainName, overriddenIn]; done) | decide +kernel
def L42 : List (Nat × Instr × Nat) := [(0, a_0), (1, i_1), (2, .baload, 1), (3, .sipush 255, 3), (6, .iand, 1), (7, .i2c, 1), (8, .ireturn, 1)]
theorem d42 : ∀ q ∈ L42, decode jdk_43_method_44_code q.1 = .ok q.2 := by decide +kernel
def QrmGC (xe : Int32) (v : Option Value) : Prop := (v = some (.int (xe &&& (255 : Int32))))
abbrev own_y3 : MethodName := ⟨S_18, "getChar", "([BI)C"⟩
theorem rmGC (hw : HW a0 Z) (G : Gh Z vcs wI wA cA vF wP wD kD wE kE mT mU mL mO) (va : Addr) (ix : Int32) (ka : ClassId) (zn : Int32) (vsx : (List Value)) (xe : Int32) (h0 : Heap) (n0 : Nat) (O0 : Old Z n0 h0) (VA : Arv Z h0 va ka .byte zn vsx (.int 0)) (hi0 : ¬ (ix < (0 : Int32))) (hi1 : ix < zn) (hel : vsx.getD ix.toNatClampNeg (Value.int 0) = Value.int xe) :
    MM l Z own_y3 jdk_43_method_44_code 2 (some .char) ws (Rm 0 0 0 0) #[(.ref va), (.int ix)] h0 (QP h0 (QrmGC xe)) := by
  refine own_go hw (plainFor_of_name pn_42) #[vr va, vi ix] (fun p e s m below meth c s₁ Pf hx hby hlk hown hnm hret hml hZ hh X0 e0 hPf Jf => ?_)
  have J := Jf d42
  refine gy (fun t k => aN X0 J 0 rfl rfl (iN X0 J 1 rfl rfl k)) ?_
  refine Go.by' (fun t k => own_bal X0 hx hZ e0 VA (j := ix) (v := (.int xe)) ⟨hi0, hi1⟩ hel rfl rfl (jd J 2 rfl) k) ?_
  refine Go.by' (fun t k => XS.sipush X0.here hx rfl (jd J 3 rfl) k) ?_
  show G_ 6 #[vr va, vi ix] [(.int 255), (.int xe)]
  refine gy (fun t k => oD X0 J 4 rfl (xe &&& (255 : Int32)) k) ?_
  refine Go.by' (fun t k => XS.i2c X0.here hx rfl (jd J 5 rfl) rfl k) ?_
  show G_ 8 #[vr va, vi ix] [(.int ((xe &&& (255 : Int32)).toUInt32.toUInt16.toUInt32.toInt32))]
  refine Go.castF (a := ((xe &&& (255 : Int32)).toUInt32.toUInt16.toUInt32.toInt32)) (b := (xe &&& (255 : Int32))) (fun z' : Int32 => mkF m 8 #[vr va, vi ix] [(.int z')]) (i2c_mask _) ?_
  show G_ 8 #[vr va, vi ix] [(.int (xe &&& (255 : Int32)))]
  exact rI X0 hret hlk hPf J 6 ⟨rfl, rfl, e0⟩ (hn := (congrArg Value.int (i2c_mask _)))
theorem own_bk {x k : Int32} (h0 : ¬ x < (0 : Int32)) (h1 : ¬ (255 : Int32) < x) (k0 : ¬ k < (0 : Int32)) (k1 : ¬ (255 : Int32) < k) (hk : (k.toInt8.toInt32) = k) : ((x.toInt8.toInt32) = k) ↔ x = k := by
  have h := own_b8 h0 h1 k0 k1
  rw [hk] at h
  exact h
def G0 (c : Int32) : Prop := ¬ c < (0 : Int32) ∧ ¬ (255 : Int32) < c ∧ ¬ Ws c ∧ ¬ c = (44 : Int32) ∧ ¬ c = (33 : Int32)
def G1 (c : Int32) : Prop := ¬ c < (0 : Int32) ∧ ¬ (255 : Int32) < c ∧ ¬ Ws c ∧ ¬ c = (44 : Int32)
instance (c : Int32) : Decidable (G0 c) := by unfold G0; infer_instance
instance (c : Int32) : Decidable (G1 c) := by unfold G1; infer_instance
theorem G0.g1 {c : Int32} (h : G0 c) : G1 c := ⟨h.1, h.2.1, h.2.2.1, h.2.2.2.1⟩
abbrev b8 (c : Int32) : Int32 := c.toInt8.toInt32
/-- the bytes of a name of one or two chars, and its key -/
def Kn (z : Int32) (vs : List Value) (ky : Int) : Prop := (∃ c, G0 c ∧ z = (1 : Int32) ∧ vs = [.int (c.toInt8.toInt32)] ∧ ky = 257 * c.toInt) ∨ (∃ c d, G0 c ∧ G1 d ∧ z = (2 : Int32) ∧ vs = [.int (c.toInt8.toInt32), .int (d.toInt8.toInt32)] ∧ ky = 257 * c.toInt + 1 + d.toInt)
def CR (r : Int32) (a b : Int) : Prop := (r < (0 : Int32) ↔ a < b) ∧ (r = (0 : Int32) ↔ a = b)
theorem own_bd {c : Int32} (h0 : ¬ c < (0 : Int32)) (h1 : ¬ (255 : Int32) < c) : 0 ≤ c.toInt ∧ c.toInt ≤ 255 := by
  have z0 : (0 : Int32).toInt = 0 := rfl
  have z1 : (255 : Int32).toInt = 255 := rfl
  rw [Int32.lt_iff_toInt_lt] at h0 h1
  omega
theorem own_dif {c d : Int32} (hc : 0 ≤ c.toInt ∧ c.toInt ≤ 255) (hd : 0 ≤ d.toInt ∧ d.toInt ≤ 255) : (c - d).toInt = c.toInt - d.toInt := by
  have := c_isub c d
  have := rng32 (c - d)
  omega
theorem own_cr {r : Int32} {a b : Int} (h : (r.toInt < 0 ↔ a < b) ∧ (r.toInt = 0 ↔ a = b)) : CR r a b := by
  have z0 : (0 : Int32).toInt = 0 := rfl
  refine ⟨?_, ?_⟩
  · rw [Int32.lt_iff_toInt_lt, z0]; exact h.1
  · rw [← Int32.toInt_inj, z0]; exact h.2
theorem own_ne8 {c d : Int32} (h : ¬ c = d) : ¬ c.toInt = d.toInt := fun q => h (Int32.toInt_inj.mp q)
/-- first chars that differ -/
theorem own_cr0 {c d : Int32} {a b x y : Int} (hc : 0 ≤ c.toInt ∧ c.toInt ≤ 255) (hd : 0 ≤ d.toInt ∧ d.toInt ≤ 255) (ha : a = 257 * c.toInt + x) (hb : b = 257 * d.toInt + y) (hx : 0 ≤ x ∧ x ≤ 256) (hy : 0 ≤ y ∧ y ≤ 256) (h : ¬ c = d) : CR (c - d) a b := by
  have := own_ne8 h
  refine own_cr ?_
  rw [own_dif hc hd]
  constructor <;> omega
theorem own_cr1 {c d : Int32} {a b k : Int} (hc : 0 ≤ c.toInt ∧ c.toInt ≤ 255) (hd : 0 ≤ d.toInt ∧ d.toInt ≤ 255) (ha : a = k + c.toInt) (hb : b = k + d.toInt) : CR (c - d) a b := by
  refine own_cr ?_
  rw [own_dif hc hd]
  constructor <;> omega
theorem own_crl {a b : Int} (h : a < b) : CR (-1 : Int32) a b := by
  refine ⟨⟨fun _ => h, fun _ => by decide⟩, ⟨fun q => absurd q (by decide), fun q => by omega⟩⟩
theorem own_crg {a b : Int} (h : b < a) : CR (1 : Int32) a b := by
  refine ⟨⟨fun q => absurd q (by decide), fun q => by omega⟩, ⟨fun q => absurd q (by decide), fun q => by omega⟩⟩
theorem own_cre {a b : Int} (h : a = b) : CR (0 : Int32) a b := ⟨⟨fun q => absurd q (by decide), fun q => by omega⟩, ⟨fun _ => h, fun _ => rfl⟩⟩
theorem CR.gt {r : Int32} {a b : Int} (h : CR r a b) (h0 : ¬ r < (0 : Int32)) (h1 : ¬ r = (0 : Int32)) : b < a := by
  rw [h.1] at h0; rw [h.2] at h1; omega
theorem own_gz {r : Int32} (h : (0 : Int32) < r) : ¬ r < (0 : Int32) ∧ ¬ r = (0 : Int32) := by
  have z0 : (0 : Int32).toInt = 0 := rfl
  rw [Int32.lt_iff_toInt_lt] at h
  rw [Int32.lt_iff_toInt_lt, ← Int32.toInt_inj]; omega
theorem own_ngz {r : Int32} (h0 : ¬ r < (0 : Int32)) (h : ¬ (0 : Int32) < r) : r = (0 : Int32) := by
  have z0 : (0 : Int32).toInt = 0 := rfl
  rw [Int32.lt_iff_toInt_lt] at h0 h
  rw [← Int32.toInt_inj]; omega
/-- what the walk of isName asks of such bytes -/
theorem own_kn {z : Int32} {vs : List Value} {ky : Int} (h : Kn z vs ky) : (¬ z = (0 : Int32) ∧ (0 : Int32) < z ∧ ¬ (z - (1 : Int32)) < (0 : Int32) ∧ (z - (1 : Int32)) < z ∧ ¬ z < (1 : Int32)) ∧ ∃ xf xl : Int32, vs.getD ((0 : Int32).toNatClampNeg) (Value.int 0) = Value.int xf ∧ vs.getD ((z - (1 : Int32)).toNatClampNeg) (Value.int 0) = Value.int xl ∧ ¬ Ws (xf &&& (255 : Int32)) ∧ ¬ Ws (xl &&& (255 : Int32)) ∧ ¬ xf = (33 : Int32) := by
  rcases h with ⟨c, hc, rfl, rfl, -⟩ | ⟨c, d, hc, hd, rfl, rfl, -⟩
  · refine ⟨by decide, _, _, rfl, rfl, ?_, ?_, ?_⟩
    · rw [own_u8 hc.1 hc.2.1]; exact hc.2.2.1
    · rw [own_u8 hc.1 hc.2.1]; exact hc.2.2.1
    · exact fun q => hc.2.2.2.2 ((own_bk hc.1 hc.2.1 (by decide) (by decide) (by decide)).mp q)
  · refine ⟨by decide, _, _, rfl, rfl, ?_, ?_, ?_⟩
    · rw [own_u8 hc.1 hc.2.1]; exact hc.2.2.1
    · rw [own_u8 hd.1 hd.2.1]; exact hd.2.2.1
    · exact fun q => hc.2.2.2.2 ((own_bk hc.1 hc.2.1 (by decide) (by decide) (by decide)).mp q)
theorem own_kinj {z z' : Int32} {vs : List Value} {a b : Int} (h : Kn z vs a) (h' : Kn z' vs b) : a = b := by
  rcases h with ⟨c, hc, rfl, rfl, rfl⟩ | ⟨c, d, hc, hd, rfl, rfl, rfl⟩ <;> rcases h' with ⟨c', hc', rfl, q, rfl⟩ | ⟨c', d', hc', hd', rfl, q, rfl⟩
  · have := (own_b8 hc.1 hc.2.1 hc'.1 hc'.2.1).mp (by simpa using q)
    rw [this]
  · simp at q
  · simp at q
  · have q' : c.toInt8.toInt32 = c'.toInt8.toInt32 ∧ d.toInt8.toInt32 = d'.toInt8.toInt32 := by simpa using q
    rw [(own_b8 hc.1 hc.2.1 hc'.1 hc'.2.1).mp q'.1, (own_b8 hd.1 hd.2.1 hd'.1 hd'.2.1).mp q'.2]
theorem own_ab (x : Int32) : ((97 : Int32) + (x &&& (1 : Int32))) = (97 : Int32) ∨ ((97 : Int32) + (x &&& (1 : Int32))) = (98 : Int32) := by
  have h := c_mask x 1 1 (by decide) (by decide)
  have l0 : (0 : Int32).toInt = 0 := rfl
  have l1 : (1 : Int32).toInt = 1 := rfl
  have : (x &&& (1 : Int32)) = (0 : Int32) ∨ (x &&& (1 : Int32)) = (1 : Int32) := by simp only [← Int32.toInt_inj]; omega
  rcases this with q | q <;> rw [q]
  · exact Or.inl (by decide)
  · exact Or.inr (by decide)
theorem own_abg (x : Int32) : G0 ((97 : Int32) + (x &&& (1 : Int32))) := by rcases own_ab x with q | q <;> rw [q] <;> decide
/-! the heap's facts in bundles -/
section OwnBundles
variable {Z : State} {h h' : Heap} {a0 : Array Value} {a x u tm e f : Addr} {sl n : Nat} {v : Value} {ws : List Addr} {C : String} {k : ClassId} {z : Int32} {vs : List Value} {d : Value} {ty : FieldType}
def SK (Z : State) (h : Heap) (u : Addr) (ky : Int) : Prop := ∃ (v : Addr) (k : ClassId) (z : Int32) (vs : List Value), Exa Z h u S_3 ∧ Fld Z h u S_3 "value" "[B" (.ref v) ∧ Fld Z h u S_3 "coder" "B" (.int 0) ∧ Arv Z h v k .byte z vs (.int 0) ∧ Kn z vs ky
theorem SK.lt {ky : Int} (s : SK Z h u ky) : u < h.size := by obtain ⟨_, _, _, _, E, -⟩ := s; exact E.lt
theorem SK.exa {ky : Int} (s : SK Z h u ky) : Exa Z h u S_3 := by obtain ⟨_, _, _, _, E, -⟩ := s; exact E
theorem SK.inj {ka kb : Int} (s : SK Z h u ka) (t : SK Z h u kb) : ka = kb := by
  obtain ⟨v1, k1, z1, vs1, -, F1, -, A1, K1⟩ := s
  obtain ⟨v2, k2, z2, vs2, -, F2, -, A2, K2⟩ := t
  obtain rfl : v1 = v2 := Classical.byContradiction fun q => F1.ne F2 (fun z => q (Value.ref.inj z)) rfl
  obtain ⟨c1, B1, -, S1, -, H1, -⟩ := A1
  obtain ⟨c2, B2, -, S2, -, H2, -⟩ := A2
  cases B1.1.symm.trans B2.1
  have hz : z1.toNatClampNeg = z2.toNatClampNeg := S1.symm.trans S2
  have h0 : ∀ i, i < z1.toNatClampNeg → vs1.getD i (.int 0) = vs2.getD i (.int 0) := fun i hi => Option.some.inj ((H1 i (by rw [S1]; exact hi)).symm.trans (H2 i (by rw [S1]; exact hi)))
  rcases K1 with ⟨c, hc, rfl, rfl, rfl⟩ | ⟨c, d, hc, hd, rfl, rfl, rfl⟩ <;> rcases K2 with ⟨c', hc', rfl, rfl, rfl⟩ | ⟨c', d', hc', hd', rfl, rfl, rfl⟩
  · rw [(own_b8 hc.1 hc.2.1 hc'.1 hc'.2.1).mp (by simpa using h0 0 (by decide))]
  · exact absurd hz (by decide)
  · exact absurd hz (by decide)
  · rw [(own_b8 hc.1 hc.2.1 hc'.1 hc'.2.1).mp (by simpa using h0 0 (by decide)), (own_b8 hd.1 hd.2.1 hd'.1 hd'.2.1).mp (by simpa using h0 1 (by decide))]
/-- no String, no byte[] -/
def NS (Z : State) (h : Heap) (x : Addr) : Prop := ¬ Exa Z h x S_3 ∧ ∀ (k : ClassId) (z : Int32) (vs : List Value) (d : Value), ¬ Arv Z h x k .byte z vs d
theorem NS.exa (E : Exa Z h x C) (hC : C ≠ S_3) (w : (Cond.instantiable C n).before a0 Z = true) : NS Z h x := ⟨fun q => Exa.ne E q hC rfl, fun _ _ _ _ q => Exa.neArv E q w rfl⟩
theorem NS.arv (A : Arv Z h x k ty z vs d) (ht : ty ≠ .byte) (w : (Cond.instantiable S_3 n).before a0 Z = true) : NS Z h x := ⟨fun q => Exa.neArv q A w rfl, fun k' z' vs' d' B => by
  obtain ⟨c1, ⟨e1, ⟨-, kk, hk, comp, hkind⟩, -⟩, -⟩ := A
  obtain ⟨c2, ⟨e2, ⟨-, kk', hk', comp', hkind'⟩, -⟩, -⟩ := B
  cases e1.symm.trans e2
  cases hk.symm.trans hk'
  rw [hkind] at hkind'
  cases hkind'
  exact ht rfl⟩
/-- what was a name stays one -/
def SP (Z : State) (h h' : Heap) : Prop := ∀ ⦃u : Addr⦄ ⦃ky : Int⦄, SK Z h u ky → SK Z h' u ky
theorem SP.refl (Z : State) (h : Heap) : SP Z h h := fun _ _ s => s
theorem SP.trans {h2 : Heap} (p : SP Z h h') (q : SP Z h' h2) : SP Z h h2 := fun _ _ s => q (p s)
theorem SP.keep (K : Keep h h' ws) (hn : ∀ x ∈ ws, NS Z h x) : SP Z h h' := fun u ky s => by
  obtain ⟨v, k, z, vs, E, F, G, A, kn⟩ := s
  have n1 : u ∉ ws := fun q => (hn _ q).1 E
  have n2 : v ∉ ws := fun q => (hn _ q).2 _ _ _ _ A
  exact ⟨v, k, z, vs, E.keep K, F.keep K n1, G.keep K n1, A.keep K n2, kn⟩
theorem SP.keep0 (K : Keep h h' []) : SP Z h h' := SP.keep K (fun _ q => nomatch q)
theorem SP.wr (W : Wr h h' a sl v) (hn : NS Z h a) : SP Z h h' := SP.keep (Keep.of_wr W) (fun x q => by cases List.mem_singleton.mp q; exact hn)
theorem SP.ext (E : Ext h h') : SP Z h h' := fun u ky s => by
  obtain ⟨v, k, z, vs, A, F, G, B, kn⟩ := s
  exact ⟨v, k, z, vs, A.ext E, F.ext E, G.ext E, B.ext E, kn⟩
def SKs (Z : State) (h : Heap) : List Addr → List Int → Prop
  | [], [] => True
  | u :: L, q :: Q => SK Z h u q ∧ SKs Z h L Q
  | _, _ => False
theorem SKs.sp (p : SP Z h h') : ∀ {L : List Addr} {Q : List Int}, SKs Z h L Q → SKs Z h' L Q
  | [], [], _ => trivial
  | _ :: _, _ :: _, s => ⟨p s.1, SKs.sp p s.2⟩
  | [], _ :: _, s => s.elim
  | _ :: _, [], s => s.elim
theorem SKs.len : ∀ {L : List Addr} {Q : List Int}, SKs Z h L Q → L.length = Q.length
  | [], [], _ => rfl
  | _ :: _, _ :: _, s => congrArg (· + 1) (SKs.len s.2)
  | [], _ :: _, s => s.elim
  | _ :: _, [], s => s.elim
theorem SKs.c {L : List Addr} {q : Int} {Q : List Int} (s : SKs Z h L (q :: Q)) : ∃ u L', L = u :: L' ∧ SK Z h u q ∧ SKs Z h L' Q := by
  cases L with
  | nil => exact s.elim
  | cons u L => exact ⟨u, L, rfl, s.1, s.2⟩
theorem SKs.nl {L : List Addr} (s : SKs Z h L []) : L = [] := by
  cases L with
  | nil => rfl
  | cons u L => exact s.elim
theorem SKs.q {L : List Addr} {u : Addr} {Q : List Int} (s : SKs Z h (u :: L) Q) : ∃ q Q', Q = q :: Q' ∧ SK Z h u q ∧ SKs Z h L Q' := by
  cases Q with
  | nil => exact s.elim
  | cons q Q => exact ⟨q, Q, rfl, s.1, s.2⟩
theorem SKs.el {Q : List Int} (s : SKs Z h [] Q) : Q = [] := by
  cases Q with
  | nil => rfl
  | cons u L => exact s.elim
def ins (k : Int) : List Int → List Int
  | [] => [k]
  | a :: l => if k < a then k :: a :: l else if k = a then a :: l else a :: ins k l
theorem ins_lt {k a : Int} {l : List Int} (h : k < a) : ins k (a :: l) = k :: a :: l := by simp [ins, h]
theorem ins_eq {k a : Int} {l : List Int} (h : k = a) : ins k (a :: l) = a :: l := by simp [ins, h]
theorem ins_gt {k a : Int} {l : List Int} (h : a < k) : ins k (a :: l) = a :: ins k l := by
  have h1 : ¬ k < a := by omega
  have h2 : ¬ k = a := by omega
  simp [ins, h1, h2]
theorem ins_comm (a b : Int) : ∀ l : List Int, ins a (ins b l) = ins b (ins a l)
  | [] => by
    rcases Int.lt_trichotomy a b with q | q | q
    · rw [show ins b [] = [b] from rfl, show ins a [] = [a] from rfl, ins_lt q, ins_gt q]; rfl
    · subst q; rfl
    · rw [show ins b [] = [b] from rfl, show ins a [] = [a] from rfl, ins_lt q, ins_gt q]; rfl
  | c :: l => by
    have ih := ins_comm a b l
    rcases Int.lt_trichotomy a c with p | p | p <;> rcases Int.lt_trichotomy b c with q | q | q <;> rcases Int.lt_trichotomy a b with r | r | r <;> first
      | omega
      | (subst r; rfl)
      | (simp only [ins_lt, ins_gt, ins_eq, p, q, r, ih]; done)
      | (subst p; simp only [ins_lt, ins_gt, ins_eq, q, r, ih]; done)
      | (subst q; simp only [ins_lt, ins_gt, ins_eq, p, r, ih]; done)
abbrev EN : String := S_1
abbrev ED : String := S_5
abbrev MN : String := S_6
abbrev OD : String := S_11
def Ent (Z : State) (h : Heap) (w e u : Addr) (p l r : Value) (c : Int32) : Prop := Exa Z h e S_1 ∧ Fld Z h e S_1 "key" S_11 (.ref u) ∧ Fld Z h e S_1 "value" S_11 (.ref w) ∧ Fld Z h e S_1 "parent" S_5 p ∧ Fld Z h e S_1 "left" S_5 l ∧ Fld Z h e S_1 "right" S_5 r ∧ Fld Z h e S_1 "color" "Z" (.int c)
def Mp (Z : State) (h : Heap) (tm : Addr) (rt : Value) (sz mc : Int32) (nk : Value) : Prop := Exa Z h tm S_6 ∧ Fld Z h tm S_6 "comparator" S_29 .null ∧ Fld Z h tm S_6 "size" "I" (.int sz) ∧ Fld Z h tm S_6 "modCount" "I" (.int mc) ∧ Fld Z h tm S_6 "root" S_5 rt ∧ Fld Z h tm S_6 "navigableKeySet" S_27 nk
/-- where the fields lie -/
def Lay (Z : State) : Prop := ∃ a0, Laid Z a0 EN EN "key" OD ∧ Laid Z a0 EN EN "value" OD ∧ Laid Z a0 EN EN "parent" ED ∧ Laid Z a0 EN EN "left" ED ∧ Laid Z a0 EN EN "right" ED ∧ Laid Z a0 EN EN "color" "Z" ∧ Laid Z a0 MN MN "comparator" S_29 ∧ Laid Z a0 MN MN "size" "I" ∧ Laid Z a0 MN MN "modCount" "I" ∧ Laid Z a0 MN MN "root" ED ∧ Laid Z a0 MN MN "navigableKeySet" S_27
variable {w u' : Addr} {p l r p' nk : Value} {c c' sz mc : Int32}
theorem Ent.lt (N : Ent Z h w e u p l r c) : e < h.size := N.1.lt
theorem Mp.lt (N : Mp Z h tm p sz mc nk) : tm < h.size := N.1.lt
theorem Ent.ext (N : Ent Z h w e u p l r c) (E : Ext h h') : Ent Z h' w e u p l r c := ⟨N.1.ext E, N.2.1.ext E, N.2.2.1.ext E, N.2.2.2.1.ext E, N.2.2.2.2.1.ext E, N.2.2.2.2.2.1.ext E, N.2.2.2.2.2.2.ext E⟩
theorem Ent.keep (N : Ent Z h w e u p l r c) (K : Keep h h' ws) (q : e ∉ ws) : Ent Z h' w e u p l r c := ⟨N.1.keep K, N.2.1.keep K q, N.2.2.1.keep K q, N.2.2.2.1.keep K q, N.2.2.2.2.1.keep K q, N.2.2.2.2.2.1.keep K q, N.2.2.2.2.2.2.keep K q⟩
theorem Ent.other (N : Ent Z h w e u p l r c) (W : Wr h h' a sl v) (q : e ≠ a) : Ent Z h' w e u p l r c := N.keep (Keep.of_wr W) (ninS q nin0)
theorem Mp.ext (N : Mp Z h tm p sz mc nk) (E : Ext h h') : Mp Z h' tm p sz mc nk := ⟨N.1.ext E, N.2.1.ext E, N.2.2.1.ext E, N.2.2.2.1.ext E, N.2.2.2.2.1.ext E, N.2.2.2.2.2.ext E⟩
theorem Mp.keep (N : Mp Z h tm p sz mc nk) (K : Keep h h' ws) (q : tm ∉ ws) : Mp Z h' tm p sz mc nk := ⟨N.1.keep K, N.2.1.keep K q, N.2.2.1.keep K q, N.2.2.2.1.keep K q, N.2.2.2.2.1.keep K q, N.2.2.2.2.2.keep K q⟩
theorem Mp.other (N : Mp Z h tm p sz mc nk) (W : Wr h h' a sl v) (q : tm ≠ a) : Mp Z h' tm p sz mc nk := N.keep (Keep.of_wr W) (ninS q nin0)
theorem Ent.s_value (Y : Lay Z) (N : Ent Z h w e u p l r c) (W : Wr h h' e (Jvm.RoadKit.slotOf Z S_1 "value" S_11) (.ref x)) : Ent Z h' x e u p l r c := by
  obtain ⟨a0, L⟩ := Y
  exact ⟨N.1.wr W, N.2.1.other W (Or.inr (slot_ne L.1 L.2.1 (by decide) (t := (.object S_2)) (t' := (.object S_2)) (by decide) (by decide))), N.2.2.1.same W, N.2.2.2.1.other W (Or.inr (slot_ne L.2.2.1 L.2.1 (by decide) (t := (.object S_1)) (t' := (.object S_2)) (by decide) (by decide))), N.2.2.2.2.1.other W (Or.inr (slot_ne L.2.2.2.1 L.2.1 (by decide) (t := (.object S_1)) (t' := (.object S_2)) (by decide) (by decide))), N.2.2.2.2.2.1.other W (Or.inr (slot_ne L.2.2.2.2.1 L.2.1 (by decide) (t := (.object S_1)) (t' := (.object S_2)) (by decide) (by decide))), N.2.2.2.2.2.2.other W (Or.inr (slot_ne L.2.2.2.2.2.1 L.2.1 (by decide) (t := .boolean) (t' := (.object S_2)) (by decide) (by decide)))⟩
theorem Ent.s_parent (Y : Lay Z) (N : Ent Z h w e u p l r c) (W : Wr h h' e (Jvm.RoadKit.slotOf Z S_1 "parent" S_5) v) : Ent Z h' w e u v l r c := by
  obtain ⟨a0, L⟩ := Y
  exact ⟨N.1.wr W, N.2.1.other W (Or.inr (slot_ne L.1 L.2.2.1 (by decide) (t := (.object S_2)) (t' := (.object S_1)) (by decide) (by decide))), N.2.2.1.other W (Or.inr (slot_ne L.2.1 L.2.2.1 (by decide) (t := (.object S_2)) (t' := (.object S_1)) (by decide) (by decide))), N.2.2.2.1.same W, N.2.2.2.2.1.other W (Or.inr (slot_ne L.2.2.2.1 L.2.2.1 (by decide) (t := (.object S_1)) (t' := (.object S_1)) (by decide) (by decide))), N.2.2.2.2.2.1.other W (Or.inr (slot_ne L.2.2.2.2.1 L.2.2.1 (by decide) (t := (.object S_1)) (t' := (.object S_1)) (by decide) (by decide))), N.2.2.2.2.2.2.other W (Or.inr (slot_ne L.2.2.2.2.2.1 L.2.2.1 (by decide) (t := .boolean) (t' := (.object S_1)) (by decide) (by decide)))⟩
theorem Ent.s_left (Y : Lay Z) (N : Ent Z h w e u p l r c) (W : Wr h h' e (Jvm.RoadKit.slotOf Z S_1 "left" S_5) v) : Ent Z h' w e u p v r c := by
  obtain ⟨a0, L⟩ := Y
  exact ⟨N.1.wr W, N.2.1.other W (Or.inr (slot_ne L.1 L.2.2.2.1 (by decide) (t := (.object S_2)) (t' := (.object S_1)) (by decide) (by decide))), N.2.2.1.other W (Or.inr (slot_ne L.2.1 L.2.2.2.1 (by decide) (t := (.object S_2)) (t' := (.object S_1)) (by decide) (by decide))), N.2.2.2.1.other W (Or.inr (slot_ne L.2.2.1 L.2.2.2.1 (by decide) (t := (.object S_1)) (t' := (.object S_1)) (by decide) (by decide))), N.2.2.2.2.1.same W, N.2.2.2.2.2.1.other W (Or.inr (slot_ne L.2.2.2.2.1 L.2.2.2.1 (by decide) (t := (.object S_1)) (t' := (.object S_1)) (by decide) (by decide))), N.2.2.2.2.2.2.other W (Or.inr (slot_ne L.2.2.2.2.2.1 L.2.2.2.1 (by decide) (t := .boolean) (t' := (.object S_1)) (by decide) (by decide)))⟩
theorem Ent.s_right (Y : Lay Z) (N : Ent Z h w e u p l r c) (W : Wr h h' e (Jvm.RoadKit.slotOf Z S_1 "right" S_5) v) : Ent Z h' w e u p l v c := by
  obtain ⟨a0, L⟩ := Y
  exact ⟨N.1.wr W, N.2.1.other W (Or.inr (slot_ne L.1 L.2.2.2.2.1 (by decide) (t := (.object S_2)) (t' := (.object S_1)) (by decide) (by decide))), N.2.2.1.other W (Or.inr (slot_ne L.2.1 L.2.2.2.2.1 (by decide) (t := (.object S_2)) (t' := (.object S_1)) (by decide) (by decide))), N.2.2.2.1.other W (Or.inr (slot_ne L.2.2.1 L.2.2.2.2.1 (by decide) (t := (.object S_1)) (t' := (.object S_1)) (by decide) (by decide))), N.2.2.2.2.1.other W (Or.inr (slot_ne L.2.2.2.1 L.2.2.2.2.1 (by decide) (t := (.object S_1)) (t' := (.object S_1)) (by decide) (by decide))), N.2.2.2.2.2.1.same W, N.2.2.2.2.2.2.other W (Or.inr (slot_ne L.2.2.2.2.2.1 L.2.2.2.2.1 (by decide) (t := .boolean) (t' := (.object S_1)) (by decide) (by decide)))⟩
theorem Ent.s_color (Y : Lay Z) (N : Ent Z h w e u p l r c) (W : Wr h h' e (Jvm.RoadKit.slotOf Z S_1 "color" "Z") (.int c')) : Ent Z h' w e u p l r c' := by
  obtain ⟨a0, L⟩ := Y
  exact ⟨N.1.wr W, N.2.1.other W (Or.inr (slot_ne L.1 L.2.2.2.2.2.1 (by decide) (t := (.object S_2)) (t' := .boolean) (by decide) (by decide))), N.2.2.1.other W (Or.inr (slot_ne L.2.1 L.2.2.2.2.2.1 (by decide) (t := (.object S_2)) (t' := .boolean) (by decide) (by decide))), N.2.2.2.1.other W (Or.inr (slot_ne L.2.2.1 L.2.2.2.2.2.1 (by decide) (t := (.object S_1)) (t' := .boolean) (by decide) (by decide))), N.2.2.2.2.1.other W (Or.inr (slot_ne L.2.2.2.1 L.2.2.2.2.2.1 (by decide) (t := (.object S_1)) (t' := .boolean) (by decide) (by decide))), N.2.2.2.2.2.1.other W (Or.inr (slot_ne L.2.2.2.2.1 L.2.2.2.2.2.1 (by decide) (t := (.object S_1)) (t' := .boolean) (by decide) (by decide))), N.2.2.2.2.2.2.same W⟩
theorem Mp.s_size (Y : Lay Z) (N : Mp Z h tm p sz mc nk) (W : Wr h h' tm (Jvm.RoadKit.slotOf Z S_6 "size" "I") (.int c')) : Mp Z h' tm p c' mc nk := by
  obtain ⟨a0, L⟩ := Y
  exact ⟨N.1.wr W, N.2.1.other W (Or.inr (slot_ne L.2.2.2.2.2.2.1 L.2.2.2.2.2.2.2.1 (by decide) (t := (.object S_20)) (t' := .int) (by decide) (by decide))), N.2.2.1.same W, N.2.2.2.1.other W (Or.inr (slot_ne L.2.2.2.2.2.2.2.2.1 L.2.2.2.2.2.2.2.1 (by decide) (t := .int) (t' := .int) (by decide) (by decide))), N.2.2.2.2.1.other W (Or.inr (slot_ne L.2.2.2.2.2.2.2.2.2.1 L.2.2.2.2.2.2.2.1 (by decide) (t := (.object S_1)) (t' := .int) (by decide) (by decide))), N.2.2.2.2.2.other W (Or.inr (slot_ne L.2.2.2.2.2.2.2.2.2.2 L.2.2.2.2.2.2.2.1 (by decide) (t := (.object S_12)) (t' := .int) (by decide) (by decide)))⟩
theorem Mp.s_modCount (Y : Lay Z) (N : Mp Z h tm p sz mc nk) (W : Wr h h' tm (Jvm.RoadKit.slotOf Z S_6 "modCount" "I") (.int c')) : Mp Z h' tm p sz c' nk := by
  obtain ⟨a0, L⟩ := Y
  exact ⟨N.1.wr W, N.2.1.other W (Or.inr (slot_ne L.2.2.2.2.2.2.1 L.2.2.2.2.2.2.2.2.1 (by decide) (t := (.object S_20)) (t' := .int) (by decide) (by decide))), N.2.2.1.other W (Or.inr (slot_ne L.2.2.2.2.2.2.2.1 L.2.2.2.2.2.2.2.2.1 (by decide) (t := .int) (t' := .int) (by decide) (by decide))), N.2.2.2.1.same W, N.2.2.2.2.1.other W (Or.inr (slot_ne L.2.2.2.2.2.2.2.2.2.1 L.2.2.2.2.2.2.2.2.1 (by decide) (t := (.object S_1)) (t' := .int) (by decide) (by decide))), N.2.2.2.2.2.other W (Or.inr (slot_ne L.2.2.2.2.2.2.2.2.2.2 L.2.2.2.2.2.2.2.2.1 (by decide) (t := (.object S_12)) (t' := .int) (by decide) (by decide)))⟩
theorem Mp.s_root (Y : Lay Z) (N : Mp Z h tm p sz mc nk) (W : Wr h h' tm (Jvm.RoadKit.slotOf Z S_6 "root" S_5) v) : Mp Z h' tm v sz mc nk := by
  obtain ⟨a0, L⟩ := Y
  exact ⟨N.1.wr W, N.2.1.other W (Or.inr (slot_ne L.2.2.2.2.2.2.1 L.2.2.2.2.2.2.2.2.2.1 (by decide) (t := (.object S_20)) (t' := (.object S_1)) (by decide) (by decide))), N.2.2.1.other W (Or.inr (slot_ne L.2.2.2.2.2.2.2.1 L.2.2.2.2.2.2.2.2.2.1 (by decide) (t := .int) (t' := (.object S_1)) (by decide) (by decide))), N.2.2.2.1.other W (Or.inr (slot_ne L.2.2.2.2.2.2.2.2.1 L.2.2.2.2.2.2.2.2.2.1 (by decide) (t := .int) (t' := (.object S_1)) (by decide) (by decide))), N.2.2.2.2.1.same W, N.2.2.2.2.2.other W (Or.inr (slot_ne L.2.2.2.2.2.2.2.2.2.2 L.2.2.2.2.2.2.2.2.2.1 (by decide) (t := (.object S_12)) (t' := (.object S_1)) (by decide) (by decide)))⟩
theorem Mp.s_navigableKeySet (Y : Lay Z) (N : Mp Z h tm p sz mc nk) (W : Wr h h' tm (Jvm.RoadKit.slotOf Z S_6 "navigableKeySet" S_27) v) : Mp Z h' tm p sz mc v := by
  obtain ⟨a0, L⟩ := Y
  exact ⟨N.1.wr W, N.2.1.other W (Or.inr (slot_ne L.2.2.2.2.2.2.1 L.2.2.2.2.2.2.2.2.2.2 (by decide) (t := (.object S_20)) (t' := (.object S_12)) (by decide) (by decide))), N.2.2.1.other W (Or.inr (slot_ne L.2.2.2.2.2.2.2.1 L.2.2.2.2.2.2.2.2.2.2 (by decide) (t := .int) (t' := (.object S_12)) (by decide) (by decide))), N.2.2.2.1.other W (Or.inr (slot_ne L.2.2.2.2.2.2.2.2.1 L.2.2.2.2.2.2.2.2.2.2 (by decide) (t := .int) (t' := (.object S_12)) (by decide) (by decide))), N.2.2.2.2.1.other W (Or.inr (slot_ne L.2.2.2.2.2.2.2.2.2.1 L.2.2.2.2.2.2.2.2.2.2 (by decide) (t := (.object S_1)) (t' := (.object S_12)) (by decide) (by decide))), N.2.2.2.2.2.same W⟩
/-- the tree of the map tm: its nodes not below b, its keys in order -/
def TreeP (Z : State) (h : Heap) (b : Nat) (w tm : Addr) (L : List Addr) (mc : Int32) (nk : Value) : Prop := b ≤ tm ∧ (
    (L = [] ∧ Mp Z h tm .null (0 : Int32) mc nk)
  ∨ (∃ e u : Addr, L = [u] ∧ b ≤ e ∧ Mp Z h tm (.ref e) (1 : Int32) mc nk ∧ Ent Z h w e u .null .null .null (1 : Int32))
  ∨ (∃ e f u v : Addr, L = [u, v] ∧ b ≤ e ∧ b ≤ f ∧ e ≠ f ∧ Mp Z h tm (.ref e) (2 : Int32) mc nk ∧ Ent Z h w e u .null .null (.ref f) (1 : Int32) ∧ Ent Z h w f v (.ref e) .null .null (0 : Int32))
  ∨ (∃ e f u v : Addr, L = [u, v] ∧ b ≤ e ∧ b ≤ f ∧ e ≠ f ∧ Mp Z h tm (.ref f) (2 : Int32) mc nk ∧ Ent Z h w f v .null (.ref e) .null (1 : Int32) ∧ Ent Z h w e u (.ref f) .null .null (0 : Int32))
  ∨ (∃ e f g u v x : Addr, L = [u, v, x] ∧ b ≤ e ∧ b ≤ f ∧ b ≤ g ∧ e ≠ f ∧ e ≠ g ∧ f ≠ g ∧ Mp Z h tm (.ref f) (3 : Int32) mc nk ∧ Ent Z h w f v .null (.ref e) (.ref g) (1 : Int32) ∧ Ent Z h w e u (.ref f) .null .null (0 : Int32) ∧ Ent Z h w g x (.ref f) .null .null (0 : Int32)))
theorem TreeP.keep0 {b : Nat} {L : List Addr} (t : TreeP Z h b w tm L mc nk) (K : Keep h h' []) : TreeP Z h' b w tm L mc nk := by
  obtain ⟨hb, ⟨rfl, M⟩ | ⟨e, u, rfl, q1, M, N⟩ | ⟨e, f, u, v, rfl, q1, q2, q3, M, N1, N2⟩ | ⟨e, f, u, v, rfl, q1, q2, q3, M, N1, N2⟩ | ⟨e, f, g, u, v, x, rfl, q1, q2, q3, q4, q5, q6, M, N1, N2, N3⟩⟩ := t
  · exact ⟨hb, Or.inl ⟨rfl, M.keep K nin0⟩⟩
  · exact ⟨hb, Or.inr (Or.inl ⟨e, u, rfl, q1, M.keep K nin0, N.keep K nin0⟩)⟩
  · exact ⟨hb, Or.inr (Or.inr (Or.inl ⟨e, f, u, v, rfl, q1, q2, q3, M.keep K nin0, N1.keep K nin0, N2.keep K nin0⟩))⟩
  · exact ⟨hb, Or.inr (Or.inr (Or.inr (Or.inl ⟨e, f, u, v, rfl, q1, q2, q3, M.keep K nin0, N1.keep K nin0, N2.keep K nin0⟩)))⟩
  · exact ⟨hb, Or.inr (Or.inr (Or.inr (Or.inr ⟨e, f, g, u, v, x, rfl, q1, q2, q3, q4, q5, q6, M.keep K nin0, N1.keep K nin0, N2.keep K nin0, N3.keep K nin0⟩)))⟩
theorem own_k0 (E : Ext h h') : Keep h h' [] := (Keep.refl h []).ext E
theorem TreeP.mp {b : Nat} {L : List Addr} (t : TreeP Z h b w tm L mc nk) : ∃ rt, Mp Z h tm rt (Int32.ofNat L.length) mc nk ∧ L.length ≤ 3 := by
  obtain ⟨hb, ⟨rfl, M⟩ | ⟨e, u, rfl, q1, M, N⟩ | ⟨e, f, u, v, rfl, q1, q2, q3, M, N1, N2⟩ | ⟨e, f, u, v, rfl, q1, q2, q3, M, N1, N2⟩ | ⟨e, f, g, u, v, x, rfl, q1, q2, q3, q4, q5, q6, M, N1, N2, N3⟩⟩ := t
  · exact ⟨_, M, by simp⟩
  · exact ⟨_, M, by simp⟩
  · exact ⟨_, M, by simp⟩
  · exact ⟨_, M, by simp⟩
  · exact ⟨_, M, by simp⟩
/-- the entry behind e -/
def SU (Z : State) (h : Heap) (w e : Addr) (sv : Value) : Prop :=
    (∃ (u : Addr) (l : Value) (c : Int32), sv = .null ∧ Ent Z h w e u .null l .null c)
  ∨ (∃ (g u v : Addr) (p l p' r' : Value) (c c' : Int32), sv = .ref g ∧ Ent Z h w e u p l (.ref g) c ∧ Ent Z h w g v p' .null r' c')
  ∨ (∃ (g u v : Addr) (l p' l' r' : Value) (c c' : Int32), sv = .ref g ∧ r'.isRef = true ∧ ¬ (Value.ref e = r') ∧ Ent Z h w e u (.ref g) l .null c ∧ Ent Z h w g v p' l' r' c')
  ∨ (∃ (g u v : Addr) (l l' : Value) (c c' : Int32), sv = .null ∧ Ent Z h w e u (.ref g) l .null c ∧ Ent Z h w g v .null l' (.ref e) c')
theorem SU.isRef {sv : Value} (s : SU Z h w e sv) : sv.isRef = true := by
  rcases s with ⟨_, _, _, rfl, -⟩ | ⟨_, _, _, _, _, _, _, _, _, rfl, -⟩ | ⟨_, _, _, _, _, _, _, _, _, rfl, -⟩ | ⟨_, _, _, _, _, _, _, rfl, -⟩ <;> rfl
def EP (Z : State) (h h' : Heap) : Prop := ∀ ⦃w e u : Addr⦄ ⦃p l r : Value⦄ ⦃c : Int32⦄, Ent Z h w e u p l r c → Ent Z h' w e u p l r c
theorem EP.refl (Z : State) (h : Heap) : EP Z h h := fun _ _ _ _ _ _ _ s => s
theorem EP.ext (E : Ext h h') : EP Z h h' := fun _ _ _ _ _ _ _ s => s.ext E
theorem EP.keep (K : Keep h h' ws) (hn : ∀ x ∈ ws, ¬ Exa Z h x S_1) : EP Z h h' := fun _ _ _ _ _ _ _ s => s.keep K fun q => hn _ q s.1
theorem EP.wr (W : Wr h h' a sl v) (hn : ¬ Exa Z h a S_1) : EP Z h h' := fun _ _ _ _ _ _ _ s => s.other W fun q => hn (q ▸ s.1)
theorem NE.exa (E : Exa Z h x C) (hC : C ≠ S_1) : ¬ Exa Z h x S_1 := fun q => Exa.ne E q hC rfl
theorem NE.arv (A : Arv Z h x k ty z vs d) (w : (Cond.instantiable S_1 n).before a0 Z = true) : ¬ Exa Z h x S_1 := fun q => Exa.neArv q A w rfl
theorem SU.ep {sv : Value} (P : EP Z h h') (s : SU Z h w e sv) : SU Z h' w e sv := by
  rcases s with ⟨u, l, c, rfl, N⟩ | ⟨g, u, v, p, l, p', r', c, c', rfl, N, N'⟩ | ⟨g, u, v, l, p', l', r', c, c', rfl, q1, q2, N, N'⟩ | ⟨g, u, v, l, l', c, c', rfl, N, N'⟩
  · exact Or.inl ⟨u, l, c, rfl, P N⟩
  · exact Or.inr (Or.inl ⟨g, u, v, p, l, p', r', c, c', rfl, P N, P N'⟩)
  · exact Or.inr (Or.inr (Or.inl ⟨g, u, v, l, p', l', r', c, c', rfl, q1, q2, P N, P N'⟩))
  · exact Or.inr (Or.inr (Or.inr ⟨g, u, v, l, l', c, c', rfl, P N, P N'⟩))
/-- the keys of an entry and of those behind it -/
def It (Z : State) (h : Heap) (w : Addr) : Value → List Addr → Prop
  | v, [] => v = .null
  | v, u :: L => ∃ (e : Addr) (sv : Value), v = .ref e ∧ (∃ p l r c, Ent Z h w e u p l r c) ∧ SU Z h w e sv ∧ It Z h w sv L
theorem It.ep (P : EP Z h h') : ∀ {L : List Addr} {v : Value}, It Z h w v L → It Z h' w v L
  | [], _, s => s
  | _ :: _, _, s => by
    obtain ⟨e, sv, q, ⟨p, l, r, c, N⟩, S, I⟩ := s
    exact ⟨e, sv, q, ⟨p, l, r, c, P N⟩, S.ep P, It.ep P I⟩
theorem It.isRef : ∀ {L : List Addr} {v : Value}, It Z h w v L → v.isRef = true
  | [], v, s => by rw [show v = .null from s]; rfl
  | _ :: _, v, s => by
    obtain ⟨e, sv, q, -⟩ := s
    rw [q]; rfl
theorem own_it1 (N : Ent Z h w e u .null .null .null c) : It Z h w (.ref e) [u] := ⟨e, .null, rfl, ⟨_, _, _, _, N⟩, Or.inl ⟨_, _, _, rfl, N⟩, rfl⟩
theorem own_it2R {u2 : Addr} (N : Ent Z h w e u .null .null (.ref f) c) (M : Ent Z h w f u2 (.ref e) .null .null c') : It Z h w (.ref e) [u, u2] :=
  ⟨e, .ref f, rfl, ⟨_, _, _, _, N⟩, Or.inr (Or.inl ⟨_, _, _, _, _, _, _, _, _, rfl, N, M⟩), f, .null, rfl, ⟨_, _, _, _, M⟩, Or.inr (Or.inr (Or.inr ⟨_, _, _, _, _, _, _, rfl, M, N⟩)), rfl⟩
theorem own_it2L {u2 : Addr} (M : Ent Z h w f u2 .null (.ref e) .null c') (N : Ent Z h w e u (.ref f) .null .null c) : It Z h w (.ref e) [u, u2] :=
  ⟨e, .ref f, rfl, ⟨_, _, _, _, N⟩, Or.inr (Or.inr (Or.inl ⟨_, _, _, _, _, _, .null, _, _, rfl, rfl, nofun, N, M⟩)), f, .null, rfl, ⟨_, _, _, _, M⟩, Or.inl ⟨_, _, _, rfl, M⟩, rfl⟩
theorem own_it3 {g u2 u3 : Addr} {c2 c3 : Int32} (hn : e ≠ g) (M : Ent Z h w f u2 .null (.ref e) (.ref g) c2) (N : Ent Z h w e u (.ref f) .null .null c) (O : Ent Z h w g u3 (.ref f) .null .null c3) : It Z h w (.ref e) [u, u2, u3] :=
  ⟨e, .ref f, rfl, ⟨_, _, _, _, N⟩, Or.inr (Or.inr (Or.inl ⟨_, _, _, _, _, _, _, _, _, rfl, rfl, fun q => hn (Value.ref.inj q), N, M⟩)), f, .ref g, rfl, ⟨_, _, _, _, M⟩, Or.inr (Or.inl ⟨_, _, _, _, _, _, _, _, _, rfl, M, O⟩), g, .null, rfl, ⟨_, _, _, _, O⟩, Or.inr (Or.inr (Or.inr ⟨_, _, _, _, _, _, _, rfl, O, M⟩)), rfl⟩
/-- what putting may write: the map and its entries, none below b -/
def TW (Z : State) (h : Heap) (b : Nat) (x : Addr) : Prop := b ≤ x ∧ (Exa Z h x S_1 ∨ Exa Z h x S_6)
theorem TW.nin {b : Nat} (hw : ∀ y ∈ ws, TW Z h b y) (E : Exa Z h x C) (h1 : C ≠ S_1) (h2 : C ≠ S_6) : x ∉ ws := fun q => (hw x q).2.elim (fun z => Exa.ne E z h1 rfl) (fun z => Exa.ne E z h2 rfl)
theorem TW.ninA {b : Nat} {n' : Nat} (hw : ∀ y ∈ ws, TW Z h b y) (A : Arv Z h x k ty z vs d) (w1 : (Cond.instantiable S_1 n).before a0 Z = true) (w2 : (Cond.instantiable S_6 n').before a0 Z = true) : x ∉ ws := fun q => (hw x q).2.elim (fun z => Exa.neArv z A w1 rfl) (fun z => Exa.neArv z A w2 rfl)
theorem TW.sp {b n' : Nat} (K : Keep h h' ws) (hw : ∀ y ∈ ws, TW Z h b y) (w1 : (Cond.instantiable S_1 n).before a0 Z = true) (w2 : (Cond.instantiable S_6 n').before a0 Z = true) : SP Z h h' := SP.keep K fun x q => (hw x q).2.elim (fun z => NS.exa z (by decide) w1) (fun z => NS.exa z (by decide) w2)
end OwnBundles
section OwnMore
variable {Z : State} {h h' : Heap} {w tm : Addr} {b : Nat} {L : List Addr} {mc : Int32} {nk : Value} {u v x : Addr} {ka kb kc : Int} {ws : List Addr}
theorem TreeP.exa (t : TreeP Z h b w tm L mc nk) : Exa Z h tm S_6 := by obtain ⟨rt, M, -⟩ := t.mp; exact M.1
theorem sks0 : SKs Z h [] [] := trivial
theorem sks1 (s : SK Z h u ka) : SKs Z h [u] [ka] := ⟨s, trivial⟩
theorem sks2 (s : SK Z h u ka) (t : SK Z h v kb) : SKs Z h [u, v] [ka, kb] := ⟨s, t, trivial⟩
theorem sks3 (s : SK Z h u ka) (t : SK Z h v kb) (r : SK Z h x kc) : SKs Z h [u, v, x] [ka, kb, kc] := ⟨s, t, r, trivial⟩
theorem sks1c {Q : List Int} (s : SKs Z h [u] Q) : ∃ ka, Q = [ka] ∧ SK Z h u ka := by
  obtain ⟨ka, Q', rfl, s1, s2⟩ := s.q
  cases s2.el
  exact ⟨ka, rfl, s1⟩
theorem sks2c {Q : List Int} (s : SKs Z h [u, v] Q) : ∃ ka kb, Q = [ka, kb] ∧ SK Z h u ka ∧ SK Z h v kb := by
  obtain ⟨ka, Q', rfl, s1, s2⟩ := s.q
  obtain ⟨kb, rfl, s3⟩ := sks1c s2
  exact ⟨ka, kb, rfl, s1, s3⟩
def Srt (Q : List Int) : Prop := Q.length ≤ 2 ∧ ∀ a b, Q = [a, b] → a < b
theorem srt0 : Srt [] := ⟨Nat.zero_le _, fun a b q => by cases q⟩
theorem srt1 (a : Int) : Srt (ins a []) := ⟨by simp [ins], fun _ _ q => by simp [ins] at q⟩
theorem srt2 (a b : Int) : Srt (ins b (ins a [])) := by
  show Srt (ins b [a])
  rcases Int.lt_trichotomy b a with q | q | q
  · rw [ins_lt q]; exact ⟨by simp, fun x y e => by cases e; exact q⟩
  · rw [ins_eq q]; exact ⟨by simp, fun x y e => by cases e⟩
  · rw [ins_gt q]; exact ⟨by simp [ins], fun x y e => by cases e; exact q⟩
def SetP (Z : State) (h : Heap) (r ts : Addr) : Prop := r = ts ∨ (Exa Z h r S_15 ∧ Fld Z h r S_14 "c" S_17 (.ref ts))
theorem TW.safe {EL : List (String × Nat)} {vm : Vm} (hal : Z.vm.Alike vm) (hw : ∀ y ∈ ws, TW Z h b y) : ∀ x ∈ ws, Safe Z EL vm h x := fun x q => (hw x q).2.elim (fun z => Safe.exa hal z (by decide) (by decide)) (fun z => Safe.exa hal z (by decide) (by decide))
end OwnMore
section OwnIter
variable {Z : State} {h h' : Heap} {w tm : Addr} {b : Nat} {L : List Addr} {mc : Int32} {nk v : Value} {u1 u2 u3 : Addr}
theorem own_it0 : It Z h w .null [] := rfl
theorem own_l3 (hl : L.length ≤ 3) : L = [] ∨ (∃ u1, L = [u1]) ∨ (∃ u1 u2, L = [u1, u2]) ∨ (∃ u1 u2 u3, L = [u1, u2, u3]) := by
  match L, hl with
  | [], _ => exact Or.inl rfl
  | [a], _ => exact Or.inr (Or.inl ⟨a, rfl⟩)
  | [a, c], _ => exact Or.inr (Or.inr (Or.inl ⟨a, c, rfl⟩))
  | [a, c, d], _ => exact Or.inr (Or.inr (Or.inr ⟨a, c, d, rfl⟩))
  | _ :: _ :: _ :: _ :: _, q => simp at q
theorem sks3c {Q : List Int} (s : SKs Z h [u1, u2, u3] Q) : ∃ ka kb kc, Q = [ka, kb, kc] ∧ SK Z h u1 ka ∧ SK Z h u2 kb ∧ SK Z h u3 kc := by
  obtain ⟨ka, Q', rfl, s1, s2⟩ := s.q
  obtain ⟨kb, kc, rfl, s3, s4⟩ := sks2c s2
  exact ⟨ka, kb, kc, rfl, s1, s3, s4⟩
theorem TreeP.setnk (t : TreeP Z h b w tm L mc nk) (Y : Lay Z) (W : Wr h h' tm (Jvm.RoadKit.slotOf Z S_6 "navigableKeySet" S_27) v) : TreeP Z h' b w tm L mc v := by
  obtain ⟨hb, ⟨rfl, M⟩ | ⟨e, u, rfl, q1, M, N⟩ | ⟨e, f, u, v, rfl, q1, q2, q3, M, N1, N2⟩ | ⟨e, f, u, v, rfl, q1, q2, q3, M, N1, N2⟩ | ⟨e, f, g, u, v, x, rfl, q1, q2, q3, q4, q5, q6, M, N1, N2, N3⟩⟩ := t
  · exact ⟨hb, Or.inl ⟨rfl, M.s_navigableKeySet Y W⟩⟩
  · exact ⟨hb, Or.inr (Or.inl ⟨e, u, rfl, q1, M.s_navigableKeySet Y W, N.other W (ne_exa N.1 M.1 (by decide))⟩)⟩
  · exact ⟨hb, Or.inr (Or.inr (Or.inl ⟨e, f, u, v, rfl, q1, q2, q3, M.s_navigableKeySet Y W, N1.other W (ne_exa N1.1 M.1 (by decide)), N2.other W (ne_exa N2.1 M.1 (by decide))⟩))⟩
  · exact ⟨hb, Or.inr (Or.inr (Or.inr (Or.inl ⟨e, f, u, v, rfl, q1, q2, q3, M.s_navigableKeySet Y W, N1.other W (ne_exa N1.1 M.1 (by decide)), N2.other W (ne_exa N2.1 M.1 (by decide))⟩)))⟩
  · exact ⟨hb, Or.inr (Or.inr (Or.inr (Or.inr ⟨e, f, g, u, v, x, rfl, q1, q2, q3, q4, q5, q6, M.s_navigableKeySet Y W, N1.other W (ne_exa N1.1 M.1 (by decide)), N2.other W (ne_exa N2.1 M.1 (by decide)), N3.other W (ne_exa N3.1 M.1 (by decide))⟩)))⟩
theorem own_l0 (hl : L.length ≤ 3) (q : Int32.ofNat L.length = (0 : Int32)) : L = [] := by
  rcases own_l3 hl with rfl | ⟨u1, rfl⟩ | ⟨u1, u2, rfl⟩ | ⟨u1, u2, u3, rfl⟩
  · rfl
  · exact absurd q (show ¬ Int32.ofNat 1 = (0 : Int32) by decide)
  · exact absurd q (show ¬ Int32.ofNat 2 = (0 : Int32) by decide)
  · exact absurd q (show ¬ Int32.ofNat 3 = (0 : Int32) by decide)
end OwnIter
section OwnTree
variable {Z : State} {h h' : Heap} {a0 : Array Value} {w tm a x : Addr} {b sl n n' : Nat} {L ws : List Addr} {mc z : Int32} {nk v d : Value} {C : String} {k : ClassId} {ty : FieldType} {vs : List Value}
/-- no entry, no map -/
def NT (Z : State) (h : Heap) (x : Addr) : Prop := ¬ Exa Z h x S_1 ∧ ¬ Exa Z h x S_6
theorem NT.exa (E : Exa Z h x C) (h1 : C ≠ S_1) (h2 : C ≠ S_6) : NT Z h x := ⟨fun q => Exa.ne E q h1 rfl, fun q => Exa.ne E q h2 rfl⟩
theorem NT.arv (A : Arv Z h x k ty z vs d) (w1 : (Cond.instantiable S_1 n).before a0 Z = true) (w2 : (Cond.instantiable S_6 n').before a0 Z = true) : NT Z h x := ⟨fun q => Exa.neArv q A w1 rfl, fun q => Exa.neArv q A w2 rfl⟩
theorem TreeP.keepN (t : TreeP Z h b w tm L mc nk) (K : Keep h h' ws) (hn : ∀ x ∈ ws, NT Z h x) : TreeP Z h' b w tm L mc nk := by
  obtain ⟨hb, ⟨rfl, M⟩ | ⟨e, u, rfl, q1, M, N⟩ | ⟨e, f, u, v, rfl, q1, q2, q3, M, N1, N2⟩ | ⟨e, f, u, v, rfl, q1, q2, q3, M, N1, N2⟩ | ⟨e, f, g, u, v, x, rfl, q1, q2, q3, q4, q5, q6, M, N1, N2, N3⟩⟩ := t
  · exact ⟨hb, Or.inl ⟨rfl, M.keep K fun q => (hn _ q).2 M.1⟩⟩
  · exact ⟨hb, Or.inr (Or.inl ⟨e, u, rfl, q1, M.keep K fun q => (hn _ q).2 M.1, N.keep K fun q => (hn _ q).1 N.1⟩)⟩
  · exact ⟨hb, Or.inr (Or.inr (Or.inl ⟨e, f, u, v, rfl, q1, q2, q3, M.keep K fun q => (hn _ q).2 M.1, N1.keep K fun q => (hn _ q).1 N1.1, N2.keep K fun q => (hn _ q).1 N2.1⟩))⟩
  · exact ⟨hb, Or.inr (Or.inr (Or.inr (Or.inl ⟨e, f, u, v, rfl, q1, q2, q3, M.keep K fun q => (hn _ q).2 M.1, N1.keep K fun q => (hn _ q).1 N1.1, N2.keep K fun q => (hn _ q).1 N2.1⟩)))⟩
  · exact ⟨hb, Or.inr (Or.inr (Or.inr (Or.inr ⟨e, f, g, u, v, x, rfl, q1, q2, q3, q4, q5, q6, M.keep K fun q => (hn _ q).2 M.1, N1.keep K fun q => (hn _ q).1 N1.1, N2.keep K fun q => (hn _ q).1 N2.1, N3.keep K fun q => (hn _ q).1 N3.1⟩)))⟩
end OwnTree
theorem CR.ngt {r : Int32} {a b : Int} (h : CR r a b) (q : a ≤ b) : ¬ (0 : Int32) < r := fun z => by have := h.gt (own_gz z).1 (own_gz z).2; omega
theorem CR.le {r : Int32} {a b : Int} (h : CR r a b) (q : ¬ (0 : Int32) < r) : a ≤ b := by
  by_cases z : r < (0 : Int32)
  · have := h.1.mp z; omega
  · have := h.2.mp (own_ngz z q); omega
theorem CR.up {r : Int32} {a b : Int} (h : CR r a b) (q : (0 : Int32) < r) : b < a := h.gt (own_gz q).1 (own_gz q).2
theorem own_s2 {a b : Int} (h : a < b) : ins b (ins a []) = [a, b] := by rw [show ins a [] = [a] from rfl, ins_gt h]; rfl
theorem own_s2e {a b : Int} (h : b = a) : ins b (ins a []) = [a] := by rw [show ins a [] = [a] from rfl, ins_eq h]
theorem own_s3 {a b c : Int} (h : a < b) (k : b < c) : ins c (ins b (ins a [])) = [a, b, c] := by rw [own_s2 h, ins_gt (by omega), ins_gt k]; rfl
theorem own_s3a {a b c : Int} (h : b = a) (k : b < c) : ins c (ins b (ins a [])) = [a, c] := by rw [own_s2e h, ins_gt (by omega)]; rfl
theorem own_s3b {a b c : Int} (h : a < b) (k : c = b) : ins c (ins b (ins a [])) = [a, b] := by rw [own_s2 h, ins_gt (by omega), ins_eq k]
theorem own_s3c {a b c : Int} (h : b = a) (k : c = b) : ins c (ins b (ins a [])) = [a] := by rw [own_s2e h, ins_eq (by omega)]
theorem sl1 {Z : State} {h : Heap} {L : List Addr} {a : Int} (s : SKs Z h L [a]) : ∃ u, L = [u] ∧ SK Z h u a := by
  obtain ⟨u, L', rfl, s1, s2⟩ := s.c
  cases s2.nl
  exact ⟨u, rfl, s1⟩
theorem sl2 {Z : State} {h : Heap} {L : List Addr} {a b : Int} (s : SKs Z h L [a, b]) : ∃ u v, L = [u, v] ∧ SK Z h u a ∧ SK Z h v b := by
  obtain ⟨u, L', rfl, s1, s2⟩ := s.c
  obtain ⟨v, rfl, s3⟩ := sl1 s2
  exact ⟨u, v, rfl, s1, s3⟩
theorem sl3 {Z : State} {h : Heap} {L : List Addr} {a b c : Int} (s : SKs Z h L [a, b, c]) : ∃ u v w, L = [u, v, w] ∧ SK Z h u a ∧ SK Z h v b ∧ SK Z h w c := by
  obtain ⟨u, L', rfl, s1, s2⟩ := s.c
  obtain ⟨v, w, rfl, s3, s4⟩ := sl2 s2
  exact ⟨u, v, w, rfl, s1, s3, s4⟩
theorem nsx {Z : State} {a0 : Array Value} (hw : HW a0 Z) {h : Heap} {x : Addr} {C : String} {n : Nat} (i : Nat) (E : Exa Z h x C) (hC : C ≠ S_3 := by decide) (w : tables_1[i]? = some (Cond.instantiable C n) := by rfl) : NS Z h x := NS.exa E hC (ww hw i w)
theorem nsa {Z : State} {a0 : Array Value} (hw : HW a0 Z) {h : Heap} {x : Addr} {k : ClassId} {ty : FieldType} {z : Int32} {vs : List Value} {d : Value} (A : Arv Z h x k ty z vs d) (ht : ty ≠ .byte := by decide) : NS Z h x := NS.arv A ht (ww hw 20 rfl)
theorem own_lay {Z : State} {a0 : Array Value} (hw : ∀ d ∈ tables_1, d.before a0 Z = true) : Lay Z := ⟨a0, Or.inl (own_w hw 428 rfl), Or.inl (own_w hw 430 rfl), Or.inl (own_w hw 432 rfl), Or.inl (own_w hw 439 rfl), Or.inl (own_w hw 453 rfl), Or.inl (own_w hw 426 rfl), Or.inr (own_w hw 67 rfl), Or.inl (own_w hw 63 rfl), Or.inl (own_w hw 65 rfl), Or.inl (own_w hw 215 rfl), Or.inl (own_w hw 178 rfl)⟩
theorem pd_1 : parseMethodDescriptor "([BI)C" = some ⟨[(.array .byte), .int], some .char⟩ := by decide +kernel
theorem pd_2 : parseMethodDescriptor "(I)Z" = some ⟨[.int], some .boolean⟩ := by decide +kernel
def L41 : List (Nat × Instr × Nat) := [(0, a_0), (1, .arraylength, 1), (2, .istore_n 1, 1), (3, .iconst 0, 1), (4, .istore_n 2, 1), (5, i_2), (6, i_1), (7, .if_icmp .ge 40, 3), (10, a_0), (11, i_2), (12, .invokestatic 50, 3), (15, .istore_n 3, 1), (16, i_3), (17, .bipush 32, 2), (19, .if_icmp .eq 22, 3), (22, i_3), (23, .bipush 9, 2), (25, .if_icmp .eq 16, 3), (28, .getstatic 66, 3), (31, i_3), (32, .invokevirtual 211, 3), (35, .ifCond .ne 6, 3), (38, .goto 9, 3), (47, i_2), (48, .ireturn, 1)]
theorem d41 : ∀ q ∈ L41, decode jdk_43_method_37_code q.1 = .ok q.2 := by decide +kernel
def QrmNW (v : Option Value) : Prop := (v = some (.int 0))
abbrev own_y4 : MethodName := ⟨S_18, "indexOfNonWhitespace", "([B)I"⟩
theorem rmNW (hw : HW a0 Z) (G : Gh Z vcs wI wA cA vF wP wD kD wE kE mT mU mL mO) (va : Addr) (ka : ClassId) (zn : Int32) (vsx : (List Value)) (xe : Int32) (h0 : Heap) (n0 : Nat) (O0 : Old Z n0 h0) (VA : Arv Z h0 va ka .byte zn vsx (.int 0)) (hz0 : (0 : Int32) < zn) (hel : vsx.getD (0 : Int32).toNatClampNeg (Value.int 0) = Value.int xe) (hn0 : ¬ Ws (xe &&& (255 : Int32))) :
    MM l Z own_y4 jdk_43_method_37_code 4 (some .int) ws (Rm 2 0 0 29) #[(.ref va)] h0 (QP h0 QrmNW) := by
  refine own_go hw (plainFor_of_name pn_42) #[vr va, .unset, .unset, .unset] (fun p e s m below meth c s₁ Pf hx hby hlk hown hnm hret hml hZ hh X0 e0 hPf Jf => ?_)
  have J := Jf d41
  refine gy (fun t k => aN X0 J 0 rfl rfl k) ?_
  refine Go.by' (fun t k => own_alen X0 hx hZ e0 VA rfl rfl (jd J 1 rfl) k) ?_
  show G_ 2 #[vr va, .unset, .unset, .unset] [(.int zn)]
  refine gy (fun t k => sIN X0 J 2 rfl #[vr va, vi zn, .unset, .unset] (cI X0 J 3 rfl 0 (sIN X0 J 4 rfl #[vr va, vi zn, vi 0, .unset] (iN X0 J 5 rfl rfl (iN X0 J 6 rfl rfl (cN X0 J 7 rfl (tlt hz0).2.1 (aN X0 J 8 rfl rfl (iN X0 J 9 rfl rfl k)))))))) ?_
  refine own_cs (rmGC hw G _ ((0 : Int32)) _ _ _ xe _ _ O0 VA (by decide) hz0 hel) X0 J 10 283 284 17 285 e0 0 pd_1 (kP fun T16 v16 X16 e16 q16 => ?_)
  obtain rfl := q16
  show G_ 15 _ [(.int (xe &&& (255 : Int32)))]
  refine gy (fun t k => sIN X16 J 11 rfl #[vr va, vi zn, vi 0, vi (xe &&& (255 : Int32))] (iN X16 J 12 rfl rfl (cB X16 J 13 rfl 32 (cN X16 J 14 rfl (feq (fun q => hn0 (own_w32 q))).1 (iN X16 J 15 rfl rfl (cB X16 J 16 rfl 9 (cN X16 J 17 rfl (feq (fun q => hn0 (own_w9 q))).1 k))))))) ?_
  refine own_gs X16 J 18 286 Via.refl e16 (G.2.2.1.ext O0.2) (fun T17 X17 e17 => ?_)
  refine gy (fun t k => iN X17 J 19 rfl rfl k) ?_
  refine own_cv (rmIW hw G ((xe &&& (255 : Int32))) _ _ O0 (own_m _).1 (own_m _).2) X17 J 20 288 289 291 290 287 292 e17 (G.2.2.2.1.ext O0.2) 0 pd_2 (kP fun T18 v18 X18 e18 q18 => ?_)
  obtain ⟨r_18, rfl, r18_0⟩ := q18
  obtain rfl : r_18 = (0 : Int32) := r18_0.elim (fun q => absurd q.1 hn0) (fun q => q.2)
  show G_ 35 _ [(.int 0)]
  refine gy (fun t k => fN X18 J 21 rfl ((if0 _ _).trans (teq (by decide)).2) (jG X18 J 22 rfl 47 (iN X18 J 23 rfl rfl k))) ?_
  exact rI X18 hret hlk hPf J 24 ⟨rfl, rfl, e18⟩
def L45 : List (Nat × Instr × Nat) := [(0, a_0), (1, .arraylength, 1), (2, .istore_n 1, 1), (3, i_1), (4, .istore_n 2, 1), (5, .iconst 0, 1), (6, i_2), (7, .if_icmp .ge 42, 3), (10, a_0), (11, i_2), (12, .iconst 1, 1), (13, .isub, 1), (14, .invokestatic 50, 3), (17, .istore_n 3, 1), (18, i_3), (19, .bipush 32, 2), (21, .if_icmp .eq 22, 3), (24, i_3), (25, .bipush 9, 2), (27, .if_icmp .eq 16, 3), (30, .getstatic 66, 3), (33, i_3), (34, .invokevirtual 211, 3), (37, .ifCond .ne 6, 3), (40, .goto 9, 3), (49, i_2), (50, .ireturn, 1)]
theorem d45 : ∀ q ∈ L45, decode jdk_43_method_38_code q.1 = .ok q.2 := by decide +kernel
def QrmLW (zn : Int32) (v : Option Value) : Prop := (v = some (.int zn))
abbrev own_y5 : MethodName := ⟨S_18, "lastIndexOfNonWhitespace", "([B)I"⟩
theorem rmLW (hw : HW a0 Z) (G : Gh Z vcs wI wA cA vF wP wD kD wE kE mT mU mL mO) (va : Addr) (ka : ClassId) (zn : Int32) (vsx : (List Value)) (xe : Int32) (h0 : Heap) (n0 : Nat) (O0 : Old Z n0 h0) (VA : Arv Z h0 va ka .byte zn vsx (.int 0)) (hz0 : (0 : Int32) < zn) (hm0 : ¬ ((zn - (1 : Int32)) < (0 : Int32))) (hm1 : (zn - (1 : Int32)) < zn) (hel : vsx.getD (zn - (1 : Int32)).toNatClampNeg (Value.int 0) = Value.int xe) (hn0 : ¬ Ws (xe &&& (255 : Int32))) :
    MM l Z own_y5 jdk_43_method_38_code 4 (some .int) ws (Rm 2 0 0 29) #[(.ref va)] h0 (QP h0 (QrmLW zn)) := by
  refine own_go hw (plainFor_of_name pn_42) #[vr va, .unset, .unset, .unset] (fun p e s m below meth c s₁ Pf hx hby hlk hown hnm hret hml hZ hh X0 e0 hPf Jf => ?_)
  have J := Jf d45
  refine gy (fun t k => aN X0 J 0 rfl rfl k) ?_
  refine Go.by' (fun t k => own_alen X0 hx hZ e0 VA rfl rfl (jd J 1 rfl) k) ?_
  show G_ 2 #[vr va, .unset, .unset, .unset] [(.int zn)]
  refine gy (fun t k => sIN X0 J 2 rfl #[vr va, vi zn, .unset, .unset] (iN X0 J 3 rfl rfl (sIN X0 J 4 rfl #[vr va, vi zn, vi zn, .unset] (cI X0 J 5 rfl 0 (iN X0 J 6 rfl rfl (cN X0 J 7 rfl (tlt hz0).2.1 (aN X0 J 8 rfl rfl (iN X0 J 9 rfl rfl k)))))))) ?_
  refine gy (fun t k => cI X0 J 10 rfl 1 (oS X0 J 11 rfl (zn - (1 : Int32)) k)) ?_
  refine own_cs (rmGC hw G _ ((zn - (1 : Int32))) _ _ _ xe _ _ O0 VA hm0 hm1 hel) X0 J 12 283 284 17 285 e0 0 pd_1 (kP fun T20 v20 X20 e20 q20 => ?_)
  obtain rfl := q20
  show G_ 17 _ [(.int (xe &&& (255 : Int32)))]
  refine gy (fun t k => sIN X20 J 13 rfl #[vr va, vi zn, vi zn, vi (xe &&& (255 : Int32))] (iN X20 J 14 rfl rfl (cB X20 J 15 rfl 32 (cN X20 J 16 rfl (feq (fun q => hn0 (own_w32 q))).1 (iN X20 J 17 rfl rfl (cB X20 J 18 rfl 9 (cN X20 J 19 rfl (feq (fun q => hn0 (own_w9 q))).1 k))))))) ?_
  refine own_gs X20 J 20 286 Via.refl e20 (G.2.2.1.ext O0.2) (fun T21 X21 e21 => ?_)
  refine gy (fun t k => iN X21 J 21 rfl rfl k) ?_
  refine own_cv (rmIW hw G ((xe &&& (255 : Int32))) _ _ O0 (own_m _).1 (own_m _).2) X21 J 22 288 289 291 290 287 292 e21 (G.2.2.2.1.ext O0.2) 0 pd_2 (kP fun T22 v22 X22 e22 q22 => ?_)
  obtain ⟨r_22, rfl, r22_0⟩ := q22
  obtain rfl : r_22 = (0 : Int32) := r22_0.elim (fun q => absurd q.1 hn0) (fun q => q.2)
  show G_ 37 _ [(.int 0)]
  refine gy (fun t k => fN X22 J 23 rfl ((if0 _ _).trans (teq (by decide)).2) (jG X22 J 24 rfl 49 (iN X22 J 25 rfl rfl k))) ?_
  exact rI X22 hret hlk hPf J 26 ⟨rfl, rfl, e22⟩
theorem pd_3 : parseMethodDescriptor "([B)I" = some ⟨[(.array .byte)], some .int⟩ := by decide +kernel
def L40 : List (Nat × Instr × Nat) := [(0, a_0), (1, .invokestatic 214, 3), (4, .istore_n 1, 1), (5, i_1), (6, a_0), (7, .arraylength, 1), (8, .if_icmp .ne 6, 3), (14, a_0), (15, .invokestatic 217, 3), (18, .istore_n 2, 1), (19, i_1), (20, .ifCond .gt 9, 3), (23, i_2), (24, a_0), (25, .arraylength, 1), (26, .if_icmp .ge 7, 3), (33, .iconst 0, 1), (34, .istore_n 3, 1), (35, i_3), (36, .ifCond .eq 14, 3), (50, .aconst_null, 1), (51, .areturn, 1)]
theorem d40 : ∀ q ∈ L40, decode jdk_43_method_39_code q.1 = .ok q.2 := by decide +kernel
def QrmLS (v : Option Value) : Prop := (v = some .null)
abbrev own_y6 : MethodName := ⟨S_18, "strip", "([B)Ljava/lang/String;"⟩
theorem rmLS (hw : HW a0 Z) (G : Gh Z vcs wI wA cA vF wP wD kD wE kE mT mU mL mO) (va : Addr) (ka : ClassId) (zn : Int32) (vsx : (List Value)) (xf : Int32) (xl : Int32) (h0 : Heap) (n0 : Nat) (O0 : Old Z n0 h0) (VA : Arv Z h0 va ka .byte zn vsx (.int 0)) (hz0 : (0 : Int32) < zn) (hzz : ¬ (zn = (0 : Int32))) (hm0 : ¬ ((zn - (1 : Int32)) < (0 : Int32))) (hm1 : (zn - (1 : Int32)) < zn) (hf : vsx.getD (0 : Int32).toNatClampNeg (Value.int 0) = Value.int xf) (hl : vsx.getD (zn - (1 : Int32)).toNatClampNeg (Value.int 0) = Value.int xl) (hnf : ¬ Ws (xf &&& (255 : Int32))) (hnl : ¬ Ws (xl &&& (255 : Int32))) :
    MM l Z own_y6 jdk_43_method_39_code 4 (some (.object S_3)) ws (Rm 3 0 0 44) #[(.ref va)] h0 (QP h0 QrmLS) := by
  refine own_go hw (plainFor_of_name pn_42) #[vr va, .unset, .unset, .unset] (fun p e s m below meth c s₁ Pf hx hby hlk hown hnm hret hml hZ hh X0 e0 hPf Jf => ?_)
  have J := Jf d40
  refine gy (fun t k => aN X0 J 0 rfl rfl k) ?_
  refine own_cs (rmNW hw G _ _ _ _ xf _ _ O0 VA hz0 hf hnf) X0 J 1 280 281 17 282 e0 0 pd_3 (kP fun T23 v23 X23 e23 q23 => ?_)
  obtain rfl := q23
  show G_ 4 _ [(.int 0)]
  refine gy (fun t k => sIN X23 J 2 rfl #[vr va, vi 0, .unset, .unset] (iN X23 J 3 rfl rfl (aN X23 J 4 rfl rfl k))) ?_
  refine Go.by' (fun t k => own_alen X23 hx hZ e23 VA rfl rfl (jd J 5 rfl) k) ?_
  show G_ 8 #[vr va, vi 0, .unset, .unset] [(.int zn), (.int 0)]
  refine gy (fun t k => cY X23 J 6 rfl (feq (fun q => hzz q.symm)).2 14 (aN X23 J 7 rfl rfl k)) ?_
  refine own_cs (rmLW hw G _ _ _ _ xl _ _ O0 VA hz0 hm0 hm1 hl hnl) X23 J 8 299 300 17 301 e23 0 pd_3 (kP fun T25 v25 X25 e25 q25 => ?_)
  obtain rfl := q25
  show G_ 18 _ [(.int zn)]
  refine gy (fun t k => sIN X25 J 9 rfl #[vr va, vi 0, vi zn, .unset] (iN X25 J 10 rfl rfl (fN X25 J 11 rfl ((if0 _ _).trans (flt (by decide)).2.2.1) (iN X25 J 12 rfl rfl (aN X25 J 13 rfl rfl k))))) ?_
  refine Go.by' (fun t k => own_alen X25 hx hZ e25 VA rfl rfl (jd J 14 rfl) k) ?_
  show G_ 26 #[vr va, vi 0, vi zn, .unset] [(.int zn), (.int zn)]
  refine gy (fun t k => cY X25 J 15 rfl (flt Int32.lt_irrefl).2.1 33 (cI X25 J 16 rfl 0 (sIN X25 J 17 rfl #[vr va, vi 0, vi zn, vi 0] (iN X25 J 18 rfl rfl (fY X25 J 19 rfl ((if0 _ _).trans (teq (by decide)).1) 50 (cU X25 J 20 rfl k)))))) ?_
  exact rA X25 hret hlk hPf J 21 ⟨rfl, rfl, e25⟩
theorem pn_39 : plainName S_3 = true := by first | (simp [plainName, overriddenIn]; done) | decide +kernel
def L39 : List (Nat × Instr × Nat) := [(0, .getstatic 38, 3), (3, .ifCond .eq 14, 3), (6, a_0), (7, .getfield 15, 3), (10, .ifCond .ne 7, 3), (13, .iconst 1, 1), (14, .goto 4, 3), (18, .ireturn, 1)]
theorem d39 : ∀ q ∈ L39, decode jdk_42_method_154_code q.1 = .ok q.2 := by decide +kernel
def QrmSL (v : Option Value) : Prop := (v = some (.int 1))
abbrev own_y7 : MethodName := ⟨S_3, "isLatin1", "()Z"⟩
theorem rmSL (hw : HW a0 Z) (G : Gh Z vcs wI wA cA vF wP wD kD wE kE mT mU mL mO) (sa : Addr) (h0 : Heap) (n0 : Nat) (O0 : Old Z n0 h0) (CA : Fld Z h0 sa S_3 "coder" "B" (.int 0)) :
    MM l Z own_y7 jdk_42_method_154_code 1 (some .boolean) ws (Rm 0 0 0 0) #[(.ref sa)] h0 (QP h0 QrmSL) := by
  refine own_go hw (plainFor_of_name pn_39) #[vr sa] (fun p e s m below meth c s₁ Pf hx hby hlk hown hnm hret hml hZ hh X0 e0 hPf Jf => ?_)
  have J := Jf d39
  refine own_gs X0 J 0 14 Via.refl e0 (G.1.ext O0.2) (fun T27 X27 e27 => ?_)
  refine gy (fun t k => fN X27 J 1 rfl ((if0 _ _).trans (feq G.2.1).1) (aN X27 J 2 rfl rfl k)) ?_
  refine own_gf X27 J 3 34 Via.refl e27 CA (fun T28 X28 e28 => ?_)
  refine gy (fun t k => fN X28 J 4 rfl ((if0 _ _).trans (teq (by decide)).2) (cI X28 J 5 rfl 1 (jG X28 J 6 rfl 18 k))) ?_
  exact rI X28 hret hlk hPf J 7 ⟨rfl, rfl, e28⟩
def L50 : List (Nat × Instr × Nat) := [(0, .getstatic 38, 3), (3, .ifCond .eq 10, 3), (6, a_0), (7, .getfield 15, 3), (10, .goto 4, 3), (14, .ireturn, 1)]
theorem d50 : ∀ q ∈ L50, decode jdk_42_method_152_code q.1 = .ok q.2 := by decide +kernel
def QrmCo (v : Option Value) : Prop := (v = some (.int 0))
abbrev own_y8 : MethodName := ⟨S_3, "coder", "()B"⟩
theorem rmCo (hw : HW a0 Z) (G : Gh Z vcs wI wA cA vF wP wD kD wE kE mT mU mL mO) (sa : Addr) (h0 : Heap) (n0 : Nat) (O0 : Old Z n0 h0) (CA : Fld Z h0 sa S_3 "coder" "B" (.int 0)) :
    MM l Z own_y8 jdk_42_method_152_code 1 (some .byte) ws (Rm 0 0 0 0) #[(.ref sa)] h0 (QP h0 QrmCo) := by
  refine own_go hw (plainFor_of_name pn_39) #[vr sa] (fun p e s m below meth c s₁ Pf hx hby hlk hown hnm hret hml hZ hh X0 e0 hPf Jf => ?_)
  have J := Jf d50
  refine own_gs X0 J 0 14 Via.refl e0 (G.1.ext O0.2) (fun T29 X29 e29 => ?_)
  refine gy (fun t k => fN X29 J 1 rfl ((if0 _ _).trans (feq G.2.1).1) (aN X29 J 2 rfl rfl k)) ?_
  refine own_gf X29 J 3 34 Via.refl e29 CA (fun T30 X30 e30 => ?_)
  refine gy (fun t k => jG X30 J 4 rfl 14 k) ?_
  exact rI X30 hret hlk hPf J 5 ⟨rfl, rfl, e30⟩
theorem pd_4 : parseMethodDescriptor "()Z" = some ⟨[], some .boolean⟩ := by decide +kernel
theorem pd_5 : parseMethodDescriptor "([B)Ljava/lang/String;" = some ⟨[(.array .byte)], some (.object S_3)⟩ := by decide +kernel
def L38 : List (Nat × Instr × Nat) := [(0, a_0), (1, .invokevirtual 492, 3), (4, .ifCond .eq 13, 3), (7, a_0), (8, .getfield 9, 3), (11, .invokestatic 864, 3), (14, .goto 10, 3), (24, .astore_n 1, 1), (25, a_1), (26, .ifnonnull 7, 3), (29, a_0), (30, .goto 4, 3), (34, .areturn, 1)]
theorem d38 : ∀ q ∈ L38, decode jdk_42_method_114_code q.1 = .ok q.2 := by decide +kernel
def QrmST (sa : Addr) (v : Option Value) : Prop := (v = some (.ref sa))
abbrev own_y9 : MethodName := ⟨S_3, "strip", "()Ljava/lang/String;"⟩
theorem rmST (hw : HW a0 Z) (G : Gh Z vcs wI wA cA vF wP wD kD wE kE mT mU mL mO) (sa : Addr) (va : Addr) (ka : ClassId) (zn : Int32) (vsx : (List Value)) (xf : Int32) (xl : Int32) (h0 : Heap) (n0 : Nat) (O0 : Old Z n0 h0) (EA : Exa Z h0 sa S_3) (FA : Fld Z h0 sa S_3 "value" "[B" (.ref va)) (CA : Fld Z h0 sa S_3 "coder" "B" (.int 0)) (VA : Arv Z h0 va ka .byte zn vsx (.int 0)) (hz0 : (0 : Int32) < zn) (hzz : ¬ (zn = (0 : Int32))) (hm0 : ¬ ((zn - (1 : Int32)) < (0 : Int32))) (hm1 : (zn - (1 : Int32)) < zn) (hf : vsx.getD (0 : Int32).toNatClampNeg (Value.int 0) = Value.int xf) (hl : vsx.getD (zn - (1 : Int32)).toNatClampNeg (Value.int 0) = Value.int xl) (hnf : ¬ Ws (xf &&& (255 : Int32))) (hnl : ¬ Ws (xl &&& (255 : Int32))) :
    MM l Z own_y9 jdk_42_method_114_code 2 (some (.object S_3)) ws (Rm 4 0 0 59) #[(.ref sa)] h0 (QP h0 (QrmST sa)) := by
  refine own_go hw (plainFor_of_name pn_39) #[vr sa, .unset] (fun p e s m below meth c s₁ Pf hx hby hlk hown hnm hret hml hZ hh X0 e0 hPf Jf => ?_)
  have J := Jf d38
  refine gy (fun t k => aN X0 J 0 rfl rfl k) ?_
  refine own_cv (rmSL hw G _ _ _ O0 CA) X0 J 1 272 273 275 274 12 276 e0 EA 0 pd_4 (kP fun T31 v31 X31 e31 q31 => ?_)
  obtain rfl := q31
  show G_ 4 _ [(.int 1)]
  refine gy (fun t k => fN X31 J 2 rfl ((if0 _ _).trans (feq (by decide)).1) (aN X31 J 3 rfl rfl k)) ?_
  refine own_gf X31 J 4 32 Via.refl e31 FA (fun T32 X32 e32 => ?_)
  refine own_cs (rmLS hw G _ _ _ _ xf xl _ _ O0 VA hz0 hzz hm0 hm1 hf hl hnf hnl) X32 J 5 277 278 17 279 e32 0 pd_5 (kP fun T33 v33 X33 e33 q33 => ?_)
  obtain rfl := q33
  show G_ 14 _ [.null]
  refine gy (fun t k => jG X33 J 6 rfl 24 (sAN X33 J 7 rfl #[vr sa, .val .null] (aN X33 J 8 rfl rfl (wN X33 J 9 rfl (aN X33 J 10 rfl rfl (jG X33 J 11 rfl 34 k)))))) ?_
  exact rA X33 hret hlk hPf J 12 ⟨rfl, rfl, e33⟩
def L37 : List (Nat × Instr × Nat) := [(0, a_0), (1, .getfield 9, 3), (4, .arraylength, 1), (5, .ifCond .ne 7, 3), (12, .iconst 0, 1), (13, .ireturn, 1)]
theorem d37 : ∀ q ∈ L37, decode jdk_42_method_55_code q.1 = .ok q.2 := by decide +kernel
def QrmEm (v : Option Value) : Prop := (v = some (.int 0))
abbrev own_y10 : MethodName := ⟨S_3, "isEmpty", "()Z"⟩
theorem rmEm (hw : HW a0 Z) (G : Gh Z vcs wI wA cA vF wP wD kD wE kE mT mU mL mO) (sa : Addr) (va : Addr) (ka : ClassId) (zn : Int32) (vsx : (List Value)) (h0 : Heap) (n0 : Nat) (O0 : Old Z n0 h0) (EA : Exa Z h0 sa S_3) (FA : Fld Z h0 sa S_3 "value" "[B" (.ref va)) (CA : Fld Z h0 sa S_3 "coder" "B" (.int 0)) (VA : Arv Z h0 va ka .byte zn vsx (.int 0)) (hzz : ¬ (zn = (0 : Int32))) :
    MM l Z own_y10 jdk_42_method_55_code 1 (some .boolean) ws (Rm 0 0 0 0) #[(.ref sa)] h0 (QP h0 QrmEm) := by
  refine own_go hw (plainFor_of_name pn_39) #[vr sa] (fun p e s m below meth c s₁ Pf hx hby hlk hown hnm hret hml hZ hh X0 e0 hPf Jf => ?_)
  have J := Jf d37
  refine gy (fun t k => aN X0 J 0 rfl rfl k) ?_
  refine own_gf X0 J 1 32 Via.refl e0 FA (fun T34 X34 e34 => ?_)
  refine Go.by' (fun t k => own_alen X34 hx hZ e34 VA rfl rfl (jd J 2 rfl) k) ?_
  show G_ 5 #[vr sa] [(.int zn)]
  refine gy (fun t k => fY X34 J 3 rfl ((if0 _ _).trans (feq hzz).2) 12 (cI X34 J 4 rfl 0 k)) ?_
  exact rI X34 hret hlk hPf J 5 ⟨rfl, rfl, e34⟩
def L48 : List (Nat × Instr × Nat) := [(0, a_0), (1, .areturn, 1)]
theorem d48 : ∀ q ∈ L48, decode jdk_42_method_126_code q.1 = .ok q.2 := by decide +kernel
def QrmTo (sa : Addr) (v : Option Value) : Prop := (v = some (.ref sa))
abbrev own_y11 : MethodName := ⟨S_3, "toString", "()Ljava/lang/String;"⟩
theorem rmTo (hw : HW a0 Z) (G : Gh Z vcs wI wA cA vF wP wD kD wE kE mT mU mL mO) (sa : Addr) (h0 : Heap) (n0 : Nat) (O0 : Old Z n0 h0) :
    MM l Z own_y11 jdk_42_method_126_code 1 (some (.object S_3)) ws (Rm 0 0 0 0) #[(.ref sa)] h0 (QP h0 (QrmTo sa)) := by
  refine own_go hw (plainFor_of_name pn_39) #[vr sa] (fun p e s m below meth c s₁ Pf hx hby hlk hown hnm hret hml hZ hh X0 e0 hPf Jf => ?_)
  have J := Jf d48
  refine gy (fun t k => aN X0 J 0 rfl rfl k) ?_
  exact rA X0 hret hlk hPf J 1 ⟨rfl, rfl, e0⟩
theorem pd_6 : parseMethodDescriptor "()B" = some ⟨[], some .byte⟩ := by decide +kernel
def L55 : List (Nat × Instr × Nat) := [(0, a_0), (1, .getfield 9, 3), (4, .arraylength, 1), (5, a_0), (6, .invokevirtual 335, 3), (9, .ishr, 1), (10, .ireturn, 1)]
theorem d55 : ∀ q ∈ L55, decode jdk_42_method_54_code q.1 = .ok q.2 := by decide +kernel
def QrmLn (zn : Int32) (v : Option Value) : Prop := (v = some (.int zn))
abbrev own_y12 : MethodName := ⟨S_3, "length", "()I"⟩
theorem rmLn (hw : HW a0 Z) (G : Gh Z vcs wI wA cA vF wP wD kD wE kE mT mU mL mO) (sa : Addr) (va : Addr) (ka : ClassId) (zn : Int32) (vsx : (List Value)) (h0 : Heap) (n0 : Nat) (O0 : Old Z n0 h0) (EA : Exa Z h0 sa S_3) (FA : Fld Z h0 sa S_3 "value" "[B" (.ref va)) (CA : Fld Z h0 sa S_3 "coder" "B" (.int 0)) (VA : Arv Z h0 va ka .byte zn vsx (.int 0)) :
    MM l Z own_y12 jdk_42_method_54_code 1 (some .int) ws (Rm 1 0 0 13) #[(.ref sa)] h0 (QP h0 (QrmLn zn)) := by
  refine own_go hw (plainFor_of_name pn_39) #[vr sa] (fun p e s m below meth c s₁ Pf hx hby hlk hown hnm hret hml hZ hh X0 e0 hPf Jf => ?_)
  have J := Jf d55
  refine gy (fun t k => aN X0 J 0 rfl rfl k) ?_
  refine own_gf X0 J 1 32 Via.refl e0 FA (fun T36 X36 e36 => ?_)
  refine Go.by' (fun t k => own_alen X36 hx hZ e36 VA rfl rfl (jd J 2 rfl) k) ?_
  show G_ 5 #[vr sa] [(.int zn)]
  refine gy (fun t k => aN X36 J 3 rfl rfl k) ?_
  refine own_cv (rmCo hw G _ _ _ O0 CA) X36 J 4 329 330 332 331 12 333 e36 EA 1 pd_6 (kP fun T38 v38 X38 e38 q38 => ?_)
  obtain rfl := q38
  refine Go.by' (fun t k => XS.ishr X38.here hx rfl (jd J 5 rfl) rfl k) ?_
  show G_ 10 #[vr sa] [(.int (zn >>> ((0 : Int32) &&& 31)))]
  refine Go.castF (a := (zn >>> ((0 : Int32) &&& 31))) (b := zn) (fun z' : Int32 => mkF m 10 #[vr sa] [(.int z')]) (own_shr0 _) ?_
  show G_ 10 #[vr sa] [(.int zn)]
  exact rI X38 hret hlk hPf J 6 ⟨rfl, rfl, e38⟩
def L52 : List (Nat × Instr × Nat) := [(0, a_2), (1, .iconst 0, 1), (2, .baload, 1), (3, .istore 5, 2), (5, i_1), (6, i_3), (7, .isub, 1), (8, .istore 6, 2), (10, .iload 4, 2), (12, .istore 7, 2), (14, .iload 7, 2), (16, .iload 6, 2), (18, .if_icmp .gt 101, 3), (21, a_0), (22, .iload 7, 2), (24, .baload, 1), (25, .iload 5, 2), (27, .if_icmp .eq 25, 3), (30, .iinc 7 1, 3), (33, .iload 7, 2), (35, .iload 6, 2), (37, .if_icmp .gt 15, 3), (52, .iload 7, 2), (54, .iload 6, 2), (56, .if_icmp .gt 57, 3), (113, .iinc 7 1, 3), (116, .goto (-102), 3), (119, .iconst (-1), 1), (120, .ireturn, 1), (40, a_0), (41, .iload 7, 2), (43, .baload, 1), (44, .iload 5, 2), (46, .if_icmp .eq 6, 3), (49, .goto (-19), 3)]
theorem d52 : ∀ q ∈ L52, decode jdk_43_method_25_code q.1 = .ok q.2 := by decide +kernel
def QrmI5 (v : Option Value) : Prop := (v = some (.int (-1 : Int32)))
abbrev own_y13 : MethodName := ⟨S_18, "indexOf", "([BI[BII)I"⟩
theorem rmI5 (hw : HW a0 Z) (G : Gh Z vcs wI wA cA vF wP wD kD wE kE mT mU mL mO) (va : Addr) (zn : Int32) (vb : Addr) (ka : ClassId) (vsx : (List Value)) (kb : ClassId) (ky : Int) (h0 : Heap) (n0 : Nat) (O0 : Old Z n0 h0) (VA : Arv Z h0 va ka .byte zn vsx (.int 0)) (VB : Arv Z h0 vb kb .byte (1 : Int32) [(.int 44)] (.int 0)) (hKn : Kn zn vsx ky) :
    MM l Z own_y13 jdk_43_method_25_code 11 (some .int) ws (Rm 0 0 0 0) #[(.ref va), (.int zn), (.ref vb), (.int 1), (.int 0)] h0 (QP h0 QrmI5) := by
  refine own_go hw (plainFor_of_name pn_42) #[vr va, vi zn, vr vb, vi 1, vi 0, .unset, .unset, .unset, .unset, .unset, .unset] (fun p e s m below meth c s₁ Pf hx hby hlk hown hnm hret hml hZ hh X0 e0 hPf Jf => ?_)
  have J := Jf d52
  rcases hKn with ⟨c0, gc0, rfl, rfl, ec0⟩ | ⟨c0, c1, gc0, gc1, rfl, rfl, ec0⟩
  · have bc0 : ¬ ((c0.toInt8.toInt32) = (44 : Int32)) := fun q => gc0.2.2.2.1 ((own_bk gc0.1 gc0.2.1 (by decide) (by decide) (by decide)).mp q)
    refine gy (fun t k => aN X0 J 0 rfl rfl (cI X0 J 1 rfl 0 k)) ?_
    refine Go.by' (fun t k => own_bal X0 hx hZ e0 VB (j := (0 : Int32)) (v := (.int 44)) ⟨by decide, by decide⟩ rfl rfl rfl (jd J 2 rfl) k) ?_
    show G_ 3 #[vr va, vi 1, vr vb, vi 1, vi 0, .unset, .unset, .unset, .unset, .unset, .unset] [(.int 44)]
    refine gy (fun t k => sI X0 J 3 rfl #[vr va, vi 1, vr vb, vi 1, vi 0, vi 44, .unset, .unset, .unset, .unset, .unset] (iN X0 J 4 rfl rfl (iN X0 J 5 rfl rfl (oS X0 J 6 rfl (0 : Int32) (sI X0 J 7 rfl #[vr va, vi 1, vr vb, vi 1, vi 0, vi 44, vi 0, .unset, .unset, .unset, .unset] (iL X0 J 8 rfl rfl (sI X0 J 9 rfl #[vr va, vi 1, vr vb, vi 1, vi 0, vi 44, vi 0, vi 0, .unset, .unset, .unset] (iL X0 J 10 rfl rfl k)))))))) ?_
    refine gy (fun t k => iL X0 J 11 rfl rfl (cN X0 J 12 rfl (flt (by decide)).2.2.1 (aN X0 J 13 rfl rfl (iL X0 J 14 rfl rfl k)))) ?_
    refine Go.by' (fun t k => own_bal X0 hx hZ e0 VA (j := (0 : Int32)) (v := (.int (c0.toInt8.toInt32))) ⟨by decide, by decide⟩ rfl rfl rfl (jd J 15 rfl) k) ?_
    show G_ 25 #[vr va, vi 1, vr vb, vi 1, vi 0, vi 44, vi 0, vi 0, .unset, .unset, .unset] [(.int (c0.toInt8.toInt32))]
    refine gy (fun t k => iL X0 J 16 rfl rfl (cN X0 J 17 rfl (feq bc0).1 (xI X0 J 18 rfl rfl #[vr va, vi 1, vr vb, vi 1, vi 0, vi 44, vi 0, vi 1, .unset, .unset, .unset] (iL X0 J 19 rfl rfl (iL X0 J 20 rfl rfl (cY X0 J 21 rfl (tlt (by decide)).2.2.1 52 (iL X0 J 22 rfl rfl (iL X0 J 23 rfl rfl k)))))))) ?_
    refine gy (fun t k => cY X0 J 24 rfl (tlt (by decide)).2.2.1 113 (xI X0 J 25 rfl rfl #[vr va, vi 1, vr vb, vi 1, vi 0, vi 44, vi 0, vi 2, .unset, .unset, .unset] (jG X0 J 26 rfl 14 (iL X0 J 10 rfl rfl (iL X0 J 11 rfl rfl (cY X0 J 12 rfl (tlt (by decide)).2.2.1 119 (cI X0 J 27 rfl (-1) k))))))) ?_
    exact rI X0 hret hlk hPf J 28 ⟨rfl, rfl, e0⟩
  · have bc0 : ¬ ((c0.toInt8.toInt32) = (44 : Int32)) := fun q => gc0.2.2.2.1 ((own_bk gc0.1 gc0.2.1 (by decide) (by decide) (by decide)).mp q)
    have bc1 : ¬ ((c1.toInt8.toInt32) = (44 : Int32)) := fun q => gc1.2.2.2 ((own_bk gc1.1 gc1.2.1 (by decide) (by decide) (by decide)).mp q)
    refine gy (fun t k => aN X0 J 0 rfl rfl (cI X0 J 1 rfl 0 k)) ?_
    refine Go.by' (fun t k => own_bal X0 hx hZ e0 VB (j := (0 : Int32)) (v := (.int 44)) ⟨by decide, by decide⟩ rfl rfl rfl (jd J 2 rfl) k) ?_
    show G_ 3 #[vr va, vi 2, vr vb, vi 1, vi 0, .unset, .unset, .unset, .unset, .unset, .unset] [(.int 44)]
    refine gy (fun t k => sI X0 J 3 rfl #[vr va, vi 2, vr vb, vi 1, vi 0, vi 44, .unset, .unset, .unset, .unset, .unset] (iN X0 J 4 rfl rfl (iN X0 J 5 rfl rfl (oS X0 J 6 rfl (1 : Int32) (sI X0 J 7 rfl #[vr va, vi 2, vr vb, vi 1, vi 0, vi 44, vi 1, .unset, .unset, .unset, .unset] (iL X0 J 8 rfl rfl (sI X0 J 9 rfl #[vr va, vi 2, vr vb, vi 1, vi 0, vi 44, vi 1, vi 0, .unset, .unset, .unset] (iL X0 J 10 rfl rfl k)))))))) ?_
    refine gy (fun t k => iL X0 J 11 rfl rfl (cN X0 J 12 rfl (flt (by decide)).2.2.1 (aN X0 J 13 rfl rfl (iL X0 J 14 rfl rfl k)))) ?_
    refine Go.by' (fun t k => own_bal X0 hx hZ e0 VA (j := (0 : Int32)) (v := (.int (c0.toInt8.toInt32))) ⟨by decide, by decide⟩ rfl rfl rfl (jd J 15 rfl) k) ?_
    show G_ 25 #[vr va, vi 2, vr vb, vi 1, vi 0, vi 44, vi 1, vi 0, .unset, .unset, .unset] [(.int (c0.toInt8.toInt32))]
    refine gy (fun t k => iL X0 J 16 rfl rfl (cN X0 J 17 rfl (feq bc0).1 (xI X0 J 18 rfl rfl #[vr va, vi 2, vr vb, vi 1, vi 0, vi 44, vi 1, vi 1, .unset, .unset, .unset] (iL X0 J 19 rfl rfl (iL X0 J 20 rfl rfl (cN X0 J 21 rfl (flt (by decide)).2.2.1 (aN X0 J 29 rfl rfl (iL X0 J 30 rfl rfl k)))))))) ?_
    refine Go.by' (fun t k => own_bal X0 hx hZ e0 VA (j := (1 : Int32)) (v := (.int (c1.toInt8.toInt32))) ⟨by decide, by decide⟩ rfl rfl rfl (jd J 31 rfl) k) ?_
    show G_ 44 #[vr va, vi 2, vr vb, vi 1, vi 0, vi 44, vi 1, vi 1, .unset, .unset, .unset] [(.int (c1.toInt8.toInt32))]
    refine gy (fun t k => iL X0 J 32 rfl rfl (cN X0 J 33 rfl (feq bc1).1 (jG X0 J 34 rfl 30 (xI X0 J 18 rfl rfl #[vr va, vi 2, vr vb, vi 1, vi 0, vi 44, vi 1, vi 2, .unset, .unset, .unset] (iL X0 J 19 rfl rfl (iL X0 J 20 rfl rfl (cY X0 J 21 rfl (tlt (by decide)).2.2.1 52 (iL X0 J 22 rfl rfl k)))))))) ?_
    refine gy (fun t k => iL X0 J 23 rfl rfl (cY X0 J 24 rfl (tlt (by decide)).2.2.1 113 (xI X0 J 25 rfl rfl #[vr va, vi 2, vr vb, vi 1, vi 0, vi 44, vi 1, vi 3, .unset, .unset, .unset] (jG X0 J 26 rfl 14 (iL X0 J 10 rfl rfl (iL X0 J 11 rfl rfl (cY X0 J 12 rfl (tlt (by decide)).2.2.1 119 (cI X0 J 27 rfl (-1) k)))))))) ?_
    exact rI X0 hret hlk hPf J 28 ⟨rfl, rfl, e0⟩
theorem pd_7 : parseMethodDescriptor "([BI[BII)I" = some ⟨[(.array .byte), .int, (.array .byte), .int, .int], some .int⟩ := by decide +kernel
def L51 : List (Nat × Instr × Nat) := [(0, a_1), (1, .arraylength, 1), (2, .ifCond .ne 5, 3), (7, a_0), (8, .arraylength, 1), (9, .ifCond .ne 5, 3), (14, a_0), (15, a_0), (16, .arraylength, 1), (17, a_1), (18, a_1), (19, .arraylength, 1), (20, .iconst 0, 1), (21, .invokestatic 99, 3), (24, .ireturn, 1)]
theorem d51 : ∀ q ∈ L51, decode jdk_43_method_24_code q.1 = .ok q.2 := by decide +kernel
def QrmI2 (v : Option Value) : Prop := (v = some (.int (-1 : Int32)))
abbrev own_y14 : MethodName := ⟨S_18, "indexOf", "([B[B)I"⟩
theorem rmI2 (hw : HW a0 Z) (G : Gh Z vcs wI wA cA vF wP wD kD wE kE mT mU mL mO) (va : Addr) (vb : Addr) (ka : ClassId) (zn : Int32) (vsx : (List Value)) (kb : ClassId) (ky : Int) (h0 : Heap) (n0 : Nat) (O0 : Old Z n0 h0) (VA : Arv Z h0 va ka .byte zn vsx (.int 0)) (VB : Arv Z h0 vb kb .byte (1 : Int32) [(.int 44)] (.int 0)) (hKn : Kn zn vsx ky) (hzz : ¬ (zn = (0 : Int32))) :
    MM l Z own_y14 jdk_43_method_24_code 2 (some .int) ws (Rm 1 0 0 22) #[(.ref va), (.ref vb)] h0 (QP h0 QrmI2) := by
  refine own_go hw (plainFor_of_name pn_42) #[vr va, vr vb] (fun p e s m below meth c s₁ Pf hx hby hlk hown hnm hret hml hZ hh X0 e0 hPf Jf => ?_)
  have J := Jf d51
  refine gy (fun t k => aN X0 J 0 rfl rfl k) ?_
  refine Go.by' (fun t k => own_alen X0 hx hZ e0 VB rfl rfl (jd J 1 rfl) k) ?_
  show G_ 2 #[vr va, vr vb] [(.int 1)]
  refine gy (fun t k => fY X0 J 2 rfl ((if0 _ _).trans (feq (by decide)).2) 7 (aN X0 J 3 rfl rfl k)) ?_
  refine Go.by' (fun t k => own_alen X0 hx hZ e0 VA rfl rfl (jd J 4 rfl) k) ?_
  show G_ 9 #[vr va, vr vb] [(.int zn)]
  refine gy (fun t k => fY X0 J 5 rfl ((if0 _ _).trans (feq hzz).2) 14 (aN X0 J 6 rfl rfl (aN X0 J 7 rfl rfl k))) ?_
  refine Go.by' (fun t k => own_alen X0 hx hZ e0 VA rfl rfl (jd J 8 rfl) k) ?_
  show G_ 17 #[vr va, vr vb] [(.int zn), (.ref va)]
  refine gy (fun t k => aN X0 J 9 rfl rfl (aN X0 J 10 rfl rfl k)) ?_
  refine Go.by' (fun t k => own_alen X0 hx hZ e0 VB rfl rfl (jd J 11 rfl) k) ?_
  show G_ 20 #[vr va, vr vb] [(.int 1), (.ref vb), (.int zn), (.ref va)]
  refine gy (fun t k => cI X0 J 12 rfl 0 k) ?_
  refine own_cs (rmI5 hw G _ _ _ _ _ _ ky _ _ O0 VA VB hKn) X0 J 13 337 338 17 339 e0 0 pd_7 (kP fun T48 v48 X48 e48 q48 => ?_)
  obtain rfl := q48
  show G_ 24 _ [(.int (-1 : Int32))]
  exact rI X48 hret hlk hPf J 14 ⟨rfl, rfl, e48⟩
theorem pd_8 : parseMethodDescriptor "([B[B)I" = some ⟨[(.array .byte), (.array .byte)], some .int⟩ := by decide +kernel
def L49 : List (Nat × Instr × Nat) := [(0, a_0), (1, .invokevirtual 335, 3), (4, .istore_n 2, 1), (5, i_2), (6, a_1), (7, .invokevirtual 335, 3), (10, .if_icmp .ne 36, 3), (13, a_0), (14, .invokevirtual 492, 3), (17, .ifCond .eq 17, 3), (20, a_0), (21, .getfield 9, 3), (24, a_1), (25, .getfield 9, 3), (28, .invokestatic 647, 3), (31, .goto 14, 3), (45, .ireturn, 1)]
theorem d49 : ∀ q ∈ L49, decode jdk_42_method_84_code q.1 = .ok q.2 := by decide +kernel
def QrmI1 (v : Option Value) : Prop := (v = some (.int (-1 : Int32)))
abbrev own_y15 : MethodName := ⟨S_3, "indexOf", "(Ljava/lang/String;)I"⟩
theorem rmI1 (hw : HW a0 Z) (G : Gh Z vcs wI wA cA vF wP wD kD wE kE mT mU mL mO) (sa : Addr) (sb : Addr) (va : Addr) (ka : ClassId) (zn : Int32) (vsx : (List Value)) (vb : Addr) (kb : ClassId) (ky : Int) (h0 : Heap) (n0 : Nat) (O0 : Old Z n0 h0) (EA : Exa Z h0 sa S_3) (FA : Fld Z h0 sa S_3 "value" "[B" (.ref va)) (CA : Fld Z h0 sa S_3 "coder" "B" (.int 0)) (VA : Arv Z h0 va ka .byte zn vsx (.int 0)) (EB : Exa Z h0 sb S_3) (FB : Fld Z h0 sb S_3 "value" "[B" (.ref vb)) (CB : Fld Z h0 sb S_3 "coder" "B" (.int 0)) (VB : Arv Z h0 vb kb .byte (1 : Int32) [(.int 44)] (.int 0)) (hKn : Kn zn vsx ky) (hzz : ¬ (zn = (0 : Int32))) :
    MM l Z own_y15 jdk_42_method_84_code 3 (some .int) ws (Rm 2 0 0 35) #[(.ref sa), (.ref sb)] h0 (QP h0 QrmI1) := by
  refine own_go hw (plainFor_of_name pn_39) #[vr sa, vr sb, .unset] (fun p e s m below meth c s₁ Pf hx hby hlk hown hnm hret hml hZ hh X0 e0 hPf Jf => ?_)
  have J := Jf d49
  refine gy (fun t k => aN X0 J 0 rfl rfl k) ?_
  refine own_cv (rmCo hw G _ _ _ O0 CA) X0 J 1 329 330 332 331 12 333 e0 EA 0 pd_6 (kP fun T49 v49 X49 e49 q49 => ?_)
  obtain rfl := q49
  show G_ 4 _ [(.int 0)]
  refine gy (fun t k => sIN X49 J 2 rfl #[vr sa, vr sb, vi 0] (iN X49 J 3 rfl rfl (aN X49 J 4 rfl rfl k))) ?_
  refine own_cv (rmCo hw G _ _ _ O0 CB) X49 J 5 329 330 332 331 12 333 e49 EB 1 pd_6 (kP fun T50 v50 X50 e50 q50 => ?_)
  obtain rfl := q50
  show G_ 10 _ [(.int 0), (.int 0)]
  refine gy (fun t k => cN X50 J 6 rfl (teq (by decide)).2 (aN X50 J 7 rfl rfl k)) ?_
  refine own_cv (rmSL hw G _ _ _ O0 CA) X50 J 8 272 273 275 274 12 276 e50 EA 0 pd_4 (kP fun T51 v51 X51 e51 q51 => ?_)
  obtain rfl := q51
  show G_ 17 _ [(.int 1)]
  refine gy (fun t k => fN X51 J 9 rfl ((if0 _ _).trans (feq (by decide)).1) (aN X51 J 10 rfl rfl k)) ?_
  refine own_gf X51 J 11 32 Via.refl e51 FA (fun T52 X52 e52 => ?_)
  refine gy (fun t k => aN X52 J 12 rfl rfl k) ?_
  refine own_gf X52 J 13 32 Via.refl e52 FB (fun T53 X53 e53 => ?_)
  refine own_cs (rmI2 hw G _ _ _ _ _ _ ky _ _ O0 VA VB hKn hzz) X53 J 14 334 335 17 336 e53 0 pd_8 (kP fun T54 v54 X54 e54 q54 => ?_)
  obtain rfl := q54
  show G_ 31 _ [(.int (-1 : Int32))]
  refine gy (fun t k => jG X54 J 15 rfl 45 k) ?_
  exact rI X54 hret hlk hPf J 16 ⟨rfl, rfl, e54⟩
theorem pd_9 : parseMethodDescriptor "()Ljava/lang/String;" = some ⟨[], some (.object S_3)⟩ := by decide +kernel
abbrev own_y16 : MethodName := ⟨"java/lang/CharSequence", "toString", "()Ljava/lang/String;"⟩
theorem pd_10 : parseMethodDescriptor "(Ljava/lang/String;)I" = some ⟨[(.object S_3)], some .int⟩ := by decide +kernel
def L47 : List (Nat × Instr × Nat) := [(0, a_0), (1, a_1), (2, .invokeinterface 710 1, 5), (7, .invokevirtual 711, 3), (10, .ifCond .lt 7, 3), (17, .iconst 0, 1), (18, .ireturn, 1)]
theorem d47 : ∀ q ∈ L47, decode jdk_42_method_97_code q.1 = .ok q.2 := by decide +kernel
def QrmCn (v : Option Value) : Prop := (v = some (.int 0))
abbrev own_y17 : MethodName := ⟨S_3, "contains", "(Ljava/lang/CharSequence;)Z"⟩
theorem rmCn (hw : HW a0 Z) (G : Gh Z vcs wI wA cA vF wP wD kD wE kE mT mU mL mO) (sa : Addr) (sb : Addr) (va : Addr) (ka : ClassId) (zn : Int32) (vsx : (List Value)) (vb : Addr) (kb : ClassId) (ky : Int) (h0 : Heap) (n0 : Nat) (O0 : Old Z n0 h0) (EA : Exa Z h0 sa S_3) (FA : Fld Z h0 sa S_3 "value" "[B" (.ref va)) (CA : Fld Z h0 sa S_3 "coder" "B" (.int 0)) (VA : Arv Z h0 va ka .byte zn vsx (.int 0)) (EB : Exa Z h0 sb S_3) (FB : Fld Z h0 sb S_3 "value" "[B" (.ref vb)) (CB : Fld Z h0 sb S_3 "coder" "B" (.int 0)) (VB : Arv Z h0 vb kb .byte (1 : Int32) [(.int 44)] (.int 0)) (hKn : Kn zn vsx ky) (hzz : ¬ (zn = (0 : Int32))) :
    MM l Z own_y17 jdk_42_method_97_code 2 (some .boolean) ws (Rm 3 0 0 49) #[(.ref sa), (.ref sb)] h0 (QP h0 QrmCn) := by
  refine own_go hw (plainFor_of_name pn_39) #[vr sa, vr sb] (fun p e s m below meth c s₁ Pf hx hby hlk hown hnm hret hml hZ hh X0 e0 hPf Jf => ?_)
  have J := Jf d47
  refine gy (fun t k => aN X0 J 0 rfl rfl (aN X0 J 1 rfl rfl k)) ?_
  refine own_cf (y := own_y16) (rmTo hw G sb _ _ O0 ) X0 J 2 315 316 317 318 319 320 321 322 12 323 e0 EB 1 pd_9 (kP fun T55 v55 X55 e55 q55 => ?_)
  obtain rfl := q55
  show G_ 7 _ [(.ref sb), (.ref sa)]
  refine own_cv (rmI1 hw G _ _ _ _ _ _ _ _ ky _ _ O0 EA FA CA VA EB FB CB VB hKn hzz) X55 J 3 324 325 327 326 12 328 e55 EA 0 pd_10 (kP fun T56 v56 X56 e56 q56 => ?_)
  obtain rfl := q56
  show G_ 10 _ [(.int (-1 : Int32))]
  refine gy (fun t k => fY X56 J 4 rfl ((if0 _ _).trans (tlt (by decide)).1) 17 (cI X56 J 5 rfl 0 k)) ?_
  exact rI X56 hret hlk hPf J 6 ⟨rfl, rfl, e56⟩
theorem pn_56 : plainName "jdk/internal/util/ArraysSupport" = true := by first | (simp [plainName, overriddenIn]; done) | decide +kernel
def L56 : List (Nat × Instr × Nat) := [(0, .iconst 0, 1), (1, .istore 5, 2), (3, .iload 4, 2), (5, .bipush 7, 2), (7, .if_icmp .le 63, 3), (70, .iload 5, 2), (72, .iload 4, 2), (74, .if_icmp .ge 27, 3), (77, a_0), (78, i_1), (79, .iload 5, 2), (81, .iadd, 1), (82, .baload, 1), (83, a_2), (84, i_3), (85, .iload 5, 2), (87, .iadd, 1), (88, .baload, 1), (89, .if_icmp .eq 6, 3), (92, .iload 5, 2), (94, .ireturn, 1)]
theorem d56 : ∀ q ∈ L56, decode jdk_48_method_14_code q.1 = .ok q.2 := by decide +kernel
def QrmMm (v : Option Value) : Prop := (v = some (.int 0))
abbrev own_y18 : MethodName := ⟨"jdk/internal/util/ArraysSupport", "mismatch", "([BI[BII)I"⟩
theorem rmMm (hw : HW a0 Z) (G : Gh Z vcs wI wA cA vF wP wD kD wE kE mT mU mL mO) (va : Addr) (vb : Addr) (ka : ClassId) (zn : Int32) (vsx : (List Value)) (kb : ClassId) (xf : Int32) (h0 : Heap) (n0 : Nat) (O0 : Old Z n0 h0) (VA : Arv Z h0 va ka .byte zn vsx (.int 0)) (VB : Arv Z h0 vb kb .byte (1 : Int32) [(.int 33)] (.int 0)) (hz0 : (0 : Int32) < zn) (hf : vsx.getD (0 : Int32).toNatClampNeg (Value.int 0) = Value.int xf) (h33 : ¬ (xf = (33 : Int32))) :
    MM l Z own_y18 jdk_48_method_14_code 8 (some .int) ws (Rm 0 0 0 0) #[(.ref va), (.int 0), (.ref vb), (.int 0), (.int 1)] h0 (QP h0 QrmMm) := by
  refine own_go hw (plainFor_of_name pn_56) #[vr va, vi 0, vr vb, vi 0, vi 1, .unset, .unset, .unset] (fun p e s m below meth c s₁ Pf hx hby hlk hown hnm hret hml hZ hh X0 e0 hPf Jf => ?_)
  have J := Jf d56
  refine gy (fun t k => cI X0 J 0 rfl 0 (sI X0 J 1 rfl #[vr va, vi 0, vr vb, vi 0, vi 1, vi 0, .unset, .unset] (iL X0 J 2 rfl rfl (cB X0 J 3 rfl 7 (cY X0 J 4 rfl (flt (by decide)).2.2.2 70 (iL X0 J 5 rfl rfl (iL X0 J 6 rfl rfl (cN X0 J 7 rfl (tlt (by decide)).2.1 k)))))))) ?_
  refine gy (fun t k => aN X0 J 8 rfl rfl (iN X0 J 9 rfl rfl (iL X0 J 10 rfl rfl (oA X0 J 11 rfl (0 : Int32) k)))) ?_
  refine Go.by' (fun t k => own_bal X0 hx hZ e0 VA (j := (0 : Int32)) (v := (.int xf)) ⟨by decide, hz0⟩ hf rfl rfl (jd J 12 rfl) k) ?_
  show G_ 83 #[vr va, vi 0, vr vb, vi 0, vi 1, vi 0, .unset, .unset] [(.int xf)]
  refine gy (fun t k => aN X0 J 13 rfl rfl (iN X0 J 14 rfl rfl (iL X0 J 15 rfl rfl (oA X0 J 16 rfl (0 : Int32) k)))) ?_
  refine Go.by' (fun t k => own_bal X0 hx hZ e0 VB (j := (0 : Int32)) (v := (.int 33)) ⟨by decide, by decide⟩ rfl rfl rfl (jd J 17 rfl) k) ?_
  show G_ 89 #[vr va, vi 0, vr vb, vi 0, vi 1, vi 0, .unset, .unset] [(.int 33), (.int xf)]
  refine gy (fun t k => cN X0 J 18 rfl (feq h33).1 (iL X0 J 19 rfl rfl k)) ?_
  exact rI X0 hret hlk hPf J 20 ⟨rfl, rfl, e0⟩
theorem pd_11 : parseMethodDescriptor "()I" = some ⟨[], some .int⟩ := by decide +kernel
def L54 : List (Nat × Instr × Nat) := [(0, i_2), (1, .ifCond .lt 16, 3), (4, i_2), (5, a_0), (6, .invokevirtual 505, 3), (9, a_1), (10, .invokevirtual 505, 3), (13, .isub, 1), (14, .if_icmp .le 5, 3), (17, .iconst 0, 1), (18, .ireturn, 1), (19, a_0), (20, .getfield 9, 3), (23, .astore_n 3, 1), (24, a_1), (25, .getfield 9, 3), (28, .astore 4, 2), (30, .iconst 0, 1), (31, .istore 5, 2), (33, .aload 4, 2), (35, .arraylength, 1), (36, .istore 6, 2), (38, a_0), (39, .invokevirtual 335, 3), (42, .istore 7, 2), (44, .iload 7, 2), (46, a_1), (47, .invokevirtual 335, 3), (50, .if_icmp .ne 32, 3), (53, .iload 7, 2), (55, .iconst 1, 1), (56, .if_icmp .ne 7, 3), (63, a_3), (64, i_2), (65, .aload 4, 2), (67, .iconst 0, 1), (68, .iload 6, 2), (70, .invokestatic 607, 3), (73, .ifCond .ge 7, 3), (80, .iconst 0, 1), (81, .ireturn, 1)]
theorem d54 : ∀ q ∈ L54, decode jdk_42_method_75_code q.1 = .ok q.2 := by decide +kernel
def QrmS2 (v : Option Value) : Prop := (v = some (.int 0))
abbrev own_y19 : MethodName := ⟨S_3, "startsWith", "(Ljava/lang/String;I)Z"⟩
theorem rmS2 (hw : HW a0 Z) (G : Gh Z vcs wI wA cA vF wP wD kD wE kE mT mU mL mO) (sa : Addr) (sb : Addr) (va : Addr) (ka : ClassId) (zn : Int32) (vsx : (List Value)) (vb : Addr) (kb : ClassId) (xf : Int32) (h0 : Heap) (n0 : Nat) (O0 : Old Z n0 h0) (EA : Exa Z h0 sa S_3) (FA : Fld Z h0 sa S_3 "value" "[B" (.ref va)) (CA : Fld Z h0 sa S_3 "coder" "B" (.int 0)) (VA : Arv Z h0 va ka .byte zn vsx (.int 0)) (EB : Exa Z h0 sb S_3) (FB : Fld Z h0 sb S_3 "value" "[B" (.ref vb)) (CB : Fld Z h0 sb S_3 "coder" "B" (.int 0)) (VB : Arv Z h0 vb kb .byte (1 : Int32) [(.int 33)] (.int 0)) (hz0 : (0 : Int32) < zn) (hm0 : ¬ ((zn - (1 : Int32)) < (0 : Int32))) (hf : vsx.getD (0 : Int32).toNatClampNeg (Value.int 0) = Value.int xf) (h33 : ¬ (xf = (33 : Int32))) :
    MM l Z own_y19 jdk_42_method_75_code 8 (some .boolean) ws (Rm 2 0 0 27) #[(.ref sa), (.ref sb), (.int 0)] h0 (QP h0 QrmS2) := by
  refine own_go hw (plainFor_of_name pn_39) #[vr sa, vr sb, vi 0, .unset, .unset, .unset, .unset, .unset] (fun p e s m below meth c s₁ Pf hx hby hlk hown hnm hret hml hZ hh X0 e0 hPf Jf => ?_)
  have J := Jf d54
  refine gy (fun t k => iN X0 J 0 rfl rfl (fN X0 J 1 rfl ((if0 _ _).trans (flt (by decide)).1) (iN X0 J 2 rfl rfl (aN X0 J 3 rfl rfl k)))) ?_
  refine own_cv (rmLn hw G _ _ _ _ _ _ _ O0 EA FA CA VA) X0 J 4 351 352 354 353 12 355 e0 EA 1 pd_11 (kP fun T59 v59 X59 e59 q59 => ?_)
  obtain rfl := q59
  show G_ 9 _ [(.int zn), (.int 0)]
  refine gy (fun t k => aN X59 J 5 rfl rfl k) ?_
  refine own_cv (rmLn hw G _ _ _ _ _ _ _ O0 EB FB CB VB) X59 J 6 351 352 354 353 12 355 e59 EB 2 pd_11 (kP fun T60 v60 X60 e60 q60 => ?_)
  obtain rfl := q60
  show G_ 13 _ [(.int 1), (.int zn), (.int 0)]
  refine gy (fun t k => oS X60 J 7 rfl (zn - (1 : Int32)) k) ?_
  by_cases hc61 : (zn - (1 : Int32)) < (0 : Int32)
  · refine gy (fun t k => cN X60 J 8 rfl (tlt hc61).2.2.2 (cI X60 J 9 rfl 0 k)) ?_
    exact rI X60 hret hlk hPf J 10 ⟨rfl, rfl, e60⟩
  · refine gy (fun t k => cY X60 J 8 rfl (flt hc61).2.2.2 19 (aN X60 J 11 rfl rfl k)) ?_
    refine own_gf X60 J 12 32 Via.refl e60 FA (fun T62 X62 e62 => ?_)
    refine gy (fun t k => sAN X62 J 13 rfl #[vr sa, vr sb, vi 0, vr va, .unset, .unset, .unset, .unset] (aN X62 J 14 rfl rfl k)) ?_
    refine own_gf X62 J 15 32 Via.refl e62 FB (fun T63 X63 e63 => ?_)
    refine gy (fun t k => sA X63 J 16 rfl #[vr sa, vr sb, vi 0, vr va, vr vb, .unset, .unset, .unset] (cI X63 J 17 rfl 0 (sI X63 J 18 rfl #[vr sa, vr sb, vi 0, vr va, vr vb, vi 0, .unset, .unset] (aL X63 J 19 rfl rfl k)))) ?_
    refine Go.by' (fun t k => own_alen X63 hx hZ e63 VB rfl rfl (jd J 20 rfl) k) ?_
    show G_ 36 #[vr sa, vr sb, vi 0, vr va, vr vb, vi 0, .unset, .unset] [(.int 1)]
    refine gy (fun t k => sI X63 J 21 rfl #[vr sa, vr sb, vi 0, vr va, vr vb, vi 0, vi 1, .unset] (aN X63 J 22 rfl rfl k)) ?_
    refine own_cv (rmCo hw G _ _ _ O0 CA) X63 J 23 329 330 332 331 12 333 e63 EA 0 pd_6 (kP fun T65 v65 X65 e65 q65 => ?_)
    obtain rfl := q65
    show G_ 42 _ [(.int 0)]
    refine gy (fun t k => sI X65 J 24 rfl #[vr sa, vr sb, vi 0, vr va, vr vb, vi 0, vi 1, vi 0] (iL X65 J 25 rfl rfl (aN X65 J 26 rfl rfl k))) ?_
    refine own_cv (rmCo hw G _ _ _ O0 CB) X65 J 27 329 330 332 331 12 333 e65 EB 1 pd_6 (kP fun T66 v66 X66 e66 q66 => ?_)
    obtain rfl := q66
    show G_ 50 _ [(.int 0), (.int 0)]
    refine gy (fun t k => cN X66 J 28 rfl (teq (by decide)).2 (iL X66 J 29 rfl rfl (cI X66 J 30 rfl 1 (cY X66 J 31 rfl (feq (by decide)).2 63 (aN X66 J 32 rfl rfl (iN X66 J 33 rfl rfl (aL X66 J 34 rfl rfl (cI X66 J 35 rfl 0 k)))))))) ?_
    refine gy (fun t k => iL X66 J 36 rfl rfl k) ?_
    refine own_cs (rmMm hw G _ _ _ _ _ _ xf _ _ O0 VA VB hz0 hf h33) X66 J 37 356 357 358 359 e66 0 pd_7 (kP fun T67 v67 X67 e67 q67 => ?_)
    obtain rfl := q67
    show G_ 73 _ [(.int 0)]
    refine gy (fun t k => fY X67 J 38 rfl ((if0 _ _).trans (flt (by decide)).2.1) 80 (cI X67 J 39 rfl 0 k)) ?_
    exact rI X67 hret hlk hPf J 40 ⟨rfl, rfl, e67⟩
theorem pd_12 : parseMethodDescriptor "(Ljava/lang/String;I)Z" = some ⟨[(.object S_3), .int], some .boolean⟩ := by decide +kernel
def L53 : List (Nat × Instr × Nat) := [(0, a_0), (1, a_1), (2, .iconst 0, 1), (3, .invokevirtual 624, 3), (6, .ireturn, 1)]
theorem d53 : ∀ q ∈ L53, decode jdk_42_method_76_code q.1 = .ok q.2 := by decide +kernel
def QrmS1s (v : Option Value) : Prop := (v = some (.int 0))
abbrev own_y20 : MethodName := ⟨S_3, "startsWith", "(Ljava/lang/String;)Z"⟩
theorem rmS1s (hw : HW a0 Z) (G : Gh Z vcs wI wA cA vF wP wD kD wE kE mT mU mL mO) (sa : Addr) (sb : Addr) (va : Addr) (ka : ClassId) (zn : Int32) (vsx : (List Value)) (vb : Addr) (kb : ClassId) (xf : Int32) (h0 : Heap) (n0 : Nat) (O0 : Old Z n0 h0) (EA : Exa Z h0 sa S_3) (FA : Fld Z h0 sa S_3 "value" "[B" (.ref va)) (CA : Fld Z h0 sa S_3 "coder" "B" (.int 0)) (VA : Arv Z h0 va ka .byte zn vsx (.int 0)) (EB : Exa Z h0 sb S_3) (FB : Fld Z h0 sb S_3 "value" "[B" (.ref vb)) (CB : Fld Z h0 sb S_3 "coder" "B" (.int 0)) (VB : Arv Z h0 vb kb .byte (1 : Int32) [(.int 33)] (.int 0)) (hz0 : (0 : Int32) < zn) (hm0 : ¬ ((zn - (1 : Int32)) < (0 : Int32))) (hf : vsx.getD (0 : Int32).toNatClampNeg (Value.int 0) = Value.int xf) (h33 : ¬ (xf = (33 : Int32))) :
    MM l Z own_y20 jdk_42_method_76_code 2 (some .boolean) ws (Rm 3 0 0 46) #[(.ref sa), (.ref sb)] h0 (QP h0 QrmS1s) := by
  refine own_go hw (plainFor_of_name pn_39) #[vr sa, vr sb] (fun p e s m below meth c s₁ Pf hx hby hlk hown hnm hret hml hZ hh X0 e0 hPf Jf => ?_)
  have J := Jf d53
  refine gy (fun t k => aN X0 J 0 rfl rfl (aN X0 J 1 rfl rfl (cI X0 J 2 rfl 0 k))) ?_
  refine own_cv (rmS2 hw G _ _ _ _ _ _ _ _ xf _ _ O0 EA FA CA VA EB FB CB VB hz0 hm0 hf h33) X0 J 3 346 347 349 348 12 350 e0 EA 0 pd_12 (kP fun T68 v68 X68 e68 q68 => ?_)
  obtain rfl := q68
  show G_ 6 _ [(.int 0)]
  exact rI X68 hret hlk hPf J 4 ⟨rfl, rfl, e68⟩
def L46 : List (Nat × Instr × Nat) := [(0, a_0), (1, a_1), (2, .if_acmp .ne 5, 3), (5, .iconst 1, 1), (6, .ireturn, 1)]
theorem d46 : ∀ q ∈ L46, decode jdk_42_method_66_code q.1 = .ok q.2 := by decide +kernel
def QrmEI (v : Option Value) : Prop := (v = some (.int 1))
abbrev own_y21 : MethodName := ⟨S_3, "equals", "(Ljava/lang/Object;)Z"⟩
theorem rmEI (hw : HW a0 Z) (G : Gh Z vcs wI wA cA vF wP wD kD wE kE mT mU mL mO) (sa : Addr) (h0 : Heap) (n0 : Nat) (O0 : Old Z n0 h0) :
    MM l Z own_y21 jdk_42_method_66_code 3 (some .boolean) ws (Rm 0 0 0 0) #[(.ref sa), (.ref sa)] h0 (QP h0 QrmEI) := by
  refine own_go hw (plainFor_of_name pn_39) #[vr sa, vr sa, .unset] (fun p e s m below meth c s₁ Pf hx hby hlk hown hnm hret hml hZ hh X0 e0 hPf Jf => ?_)
  have J := Jf d46
  refine gy (fun t k => aN X0 J 0 rfl rfl (aN X0 J 1 rfl rfl (jQ X0 J 2 rfl true (decide_eq_true rfl) 5 (cI X0 J 3 rfl 1 k)))) ?_
  exact rI X0 hret hlk hPf J 4 ⟨rfl, rfl, e0⟩
theorem pd_13 : parseMethodDescriptor "(Ljava/lang/Object;)Z" = some ⟨[(.object S_2)], some .boolean⟩ := by decide +kernel
theorem pd_14 : parseMethodDescriptor "(Ljava/lang/CharSequence;)Z" = some ⟨[(.object "java/lang/CharSequence")], some .boolean⟩ := by decide +kernel
theorem pd_15 : parseMethodDescriptor "(Ljava/lang/String;)Z" = some ⟨[(.object S_3)], some .boolean⟩ := by decide +kernel
theorem pn_36 : plainName "com/example/usher/usher/Profiles" = true := by first | (simp [plainName, overriddenIn]; done) | decide +kernel
theorem ef_rmNm (m : MethodId) {sa : Addr} : entryFrame m #[(.ref sa)] 1 = mkF m 0 #[vr sa] [] := by first | (simp [entryFrame, mkF, argsToLocals, Value.category]; done) | rfl
abbrev own_y22 : MethodName := ⟨"com/example/usher/usher/Profiles", "isName", "(Ljava/lang/String;)Z"⟩
def L36 : List (Nat × Instr × Nat) := [(0, a_0), (1, .invokevirtual 22, 3), (4, .ifCond .ne 36, 3), (7, a_0), (8, .invokevirtual 18, 3), (11, a_0), (12, .invokevirtual 65, 3), (15, .ifCond .eq 25, 3), (18, a_0), (19, .ldc 10, 2), (21, .invokevirtual 68, 3), (24, .ifCond .ne 16, 3), (27, a_0), (28, .ldc 72, 2), (30, .invokevirtual 74, 3), (33, .ifCond .ne 7, 3), (36, .iconst 1, 1), (37, .goto 4, 3), (41, .ireturn, 1)]
theorem d36 : ∀ q ∈ L36, decode prog_19_method_4_code q.1 = .ok q.2 := by decide +kernel
def QrmNm (Z : State) (vcs : Int32) (wI : Addr) (wA : Addr) (cA : Cell) (vF : Value) (wP : Addr) (wD : Addr) (kD : ClassId) (wE : Addr) (kE : ClassId) (mT : Addr) (mU : Addr) (mL : Addr) (mO : Addr) (sa : Addr) (ky : Int) (h0 : Heap) (n0 : Nat) (v : Option Value) (h : Heap) (vm : Vm) (L : List Loc) : Prop := (v = some (.int 1)) ∧ (Fr n0 L) ∧ (Keep h0 h [])
theorem rmNm (l : Launch) (Z : State) (a0 : Array Value) (hw : ∀ d ∈ tables_1, d.before a0 Z = true) (ws : List Jvm.Cond) (vcs : Int32) (wI : Addr) (wA : Addr) (cA : Cell) (vF : Value) (wP : Addr) (wD : Addr) (kD : ClassId) (wE : Addr) (kE : ClassId) (mT : Addr) (mU : Addr) (mL : Addr) (mO : Addr) (G : Gh Z vcs wI wA cA vF wP wD kD wE kE mT mU mL mO) (sa : Addr) (ky : Int) (h0 : Heap) (n0 : Nat) (O0 : Old Z n0 h0) (SKa : SK Z h0 sa ky) :
    MetFree l own_y22 (head1 (Jvm.Cond.code own_y22 prog_19_method_4_code 1 (some .boolean) :: ws) ({ frames := 5, cells := 4, slots := 16, locals := 72 } : Room)) (fun aa' UU' => aa' = #[(.ref sa)] ∧ Z.Warmed39 UU'.vm ∧ UU'.heap = h0 ∧ CHv Z consts_1 UU'.vm h0 ∧ ∀ x ∈ ([] : List Addr), Safe Z consts_1 UU'.vm h0 x) (fun _ _ _ _ _ => True) (fun _ UU' oo' VV' => ∃ v' L', oo' = .returned v' ∧ QrmNm Z vcs wI wA cA vF wP wD kD wE kE mT mU mL mO sa ky h0 n0 v' VV'.heap VV'.vm L' ∧ CHr Z consts_1 UU'.vm UU'.heap VV'.vm VV'.heap ∧ ReturnedEndW UU' oo' VV' L' ({ frames := 5, cells := 4, slots := 16, locals := 72 } : Room).cells ({ frames := 5, cells := 4, slots := 16, locals := 72 } : Room).slots) := by
  refine MetFree.of_bodySF (plainFor_of_name pn_36) hisR ?_
  intro p e s m args below meth c s₁ Bd hml0 hP hK
  obtain ⟨rfl, hZ, hh, hCH, hSf⟩ := hP
  have hml : c.maxLocals = 1 := hml0
  obtain ⟨hx, hby, hlk, hown, hnm, hret, X0, e0⟩ := own_hd Bd hh
  replace X0 : Stand p l e ({ frames := 5, cells := 4, slots := 16, locals := 72 } : Room) (s.setVm s.vm) m _ below meth c s₁ [] 0 0 := X0
  have N0 := Fr.nil n0
  have KC0 : Keep h0 h0 [] := Keep.refl _ _
  have Sb0 := Sb.start hZ hown hCH
  have hEL := own_EW hw
  have hSA := own_SA hw
  refine Go.bodyS ?_
  obtain ⟨Pf, hPf⟩ : ∃ P, P = FinS Z consts_1 s below ({ frames := 5, cells := 4, slots := 16, locals := 72 } : Room).cells ({ frames := 5, cells := 4, slots := 16, locals := 72 } : Room).slots (QrmNm Z vcs wI wA cA vF wP wD kD wE kE mT mU mL mO sa ky h0 n0) := ⟨_, rfl⟩
  rw [← hPf]
  refine Go.cast (ef_rmNm m) ?_
  have J : Jn p Z a0 (s.setVm s.vm) m _ c 1 L36 := ⟨hx, hZ, hown, hw, hml, fun i q e => od hby d36 i e⟩
  obtain ⟨va, ka, zn, vsx, EA, FA, CA, VA, hKn⟩ := (id SKa)
  obtain ⟨⟨hzz, hz0, hm0, hm1, -⟩, xf, xl, hf, hl, hnf, hnl, h33⟩ := own_kn hKn
  refine gy (fun t k => aN X0 J 0 rfl rfl k) ?_
  refine own_cv (rmEm hw G _ _ _ _ _ _ _ O0 SKa.exa FA CA VA hzz) X0 J 1 262 263 265 264 12 266 e0 SKa.exa 0 pd_4 (kP fun T69 v69 X69 e69 q69 => ?_)
  obtain rfl := q69
  show G_ 4 _ [(.int 0)]
  refine gy (fun t k => fN X69 J 2 rfl ((if0 _ _).trans (teq (by decide)).2) (aN X69 J 3 rfl rfl k)) ?_
  refine own_cv (rmST hw G _ _ _ _ _ xf xl _ _ O0 SKa.exa FA CA VA hz0 hzz hm0 hm1 hf hl hnf hnl) X69 J 4 267 268 270 269 12 271 e69 SKa.exa 0 pd_9 (kP fun T70 v70 X70 e70 q70 => ?_)
  obtain rfl := q70
  show G_ 11 _ [(.ref sa)]
  refine gy (fun t k => aN X70 J 5 rfl rfl k) ?_
  refine own_cv (rmEI hw G sa _ _ O0 ) X70 J 6 302 303 305 304 12 306 e70 SKa.exa 0 pd_13 (kP fun T71 v71 X71 e71 q71 => ?_)
  obtain rfl := q71
  show G_ 15 _ [(.int 1)]
  refine gy (fun t k => fN X71 J 7 rfl ((if0 _ _).trans (feq (by decide)).1) (aN X71 J 8 rfl rfl k)) ?_
  obtain ⟨T72, h72, a72, bb72, kb72, X72, e72, E72, Sb72, A72, Ex72, Fc72, Fv72, Vb72, Ne72, st72⟩ := own_ldc X71 hx Sb0 (ww hw 307 rfl) hSA e71 hEL (List.mem_of_getElem? (i := 0) rfl) (vs := [(.int 44)]) (z := (1 : Int32)) (by decide +kernel) (by decide) rfl (g := (mkF m 19 #[vr sa] [(.ref sa)])) rfl (jd J 9 rfl) (n := 4) (by decide +kernel) (by decide) (by decide) (by decide)
  refine Go.by' st72 ?_
  have O72 := O0.ext E72
  have KC72 := KC0.ext E72
  have hZ72 := Sb72.hZ
  have hO72 := Sb72.hO
  have J72 := J.up hZ72 hO72
  have c74 := ((SP.ext E72) SKa)
  show G_ 21 #[vr sa] [(.ref a72), (.ref sa)]
  refine own_cv (rmCn hw G _ _ _ _ _ _ _ _ ky _ _ O72 c74.exa (FA.ext E72) (CA.ext E72) (VA.ext E72) Ex72 Fv72 Fc72 Vb72 hKn hzz) X72 J72 10 310 311 313 312 12 314 e72 c74.exa 0 pd_14 (kP fun T73 v73 X73 e73 q73 => ?_)
  obtain rfl := q73
  show G_ 24 _ [(.int 0)]
  refine gy (fun t k => fN X73 J72 11 rfl ((if0 _ _).trans (teq (by decide)).2) (aN X73 J72 12 rfl rfl k)) ?_
  obtain ⟨T75, h75, a75, bb75, kb75, X75, e75, E75, Sb75, A75, Ex75, Fc75, Fv75, Vb75, Ne75, st75⟩ := own_ldc X73 hx Sb72 (ww hw 340 rfl) hSA e73 hEL (List.mem_of_getElem? (i := 1) rfl) (vs := [(.int 33)]) (z := (1 : Int32)) (by decide +kernel) (by decide) rfl (g := (mkF m 28 #[vr sa] [(.ref sa)])) rfl (jd J72 13 rfl) (n := 4) (by decide +kernel) (by decide) (by decide) (by decide)
  refine Go.by' st75 ?_
  have O75 := O72.ext E75
  have KC75 := KC72.ext E75
  have hZ75 := Sb75.hZ
  have hO75 := Sb75.hO
  have J75 := J.up hZ75 hO75
  have c77 := ((VA.ext E72).ext E75)
  have c78 := ((SP.ext E75) c74)
  have c79 := ((FA.ext E72).ext E75)
  have c80 := ((CA.ext E72).ext E75)
  show G_ 30 #[vr sa] [(.ref a75), (.ref sa)]
  refine own_cv (rmS1s hw G _ _ _ _ _ _ _ _ xf _ _ O75 c78.exa c79 c80 c77 Ex75 Fv75 Fc75 Vb75 hz0 hm0 hf h33) X75 J75 14 341 342 344 343 12 345 e75 c78.exa 0 pd_15 (kP fun T76 v76 X76 e76 q76 => ?_)
  obtain rfl := q76
  show G_ 33 _ [(.int 0)]
  refine gy (fun t k => fN X76 J75 15 rfl ((if0 _ _).trans (teq (by decide)).2) (cI X76 J75 16 rfl 1 (jG X76 J75 17 rfl 41 k))) ?_
  rw [hPf]
  exact Go.retIS X76 hx hEL Sb75 e76 hh hret hlk (by simp) rfl (jd J75 18 rfl) (by decide) (by decide) ⟨rfl, N0, (by rw [e76]; exact KC75)⟩
theorem own_e11 {c d : Int32} {a b : Int} (gc : G0 c) (gd : G0 d) (ea : a = 257 * c.toInt) (eb : b = 257 * d.toInt) : a = b ↔ c.toInt8.toInt32 = d.toInt8.toInt32 := by
  rw [own_b8 gc.1 gc.2.1 gd.1 gd.2.1, ← Int32.toInt_inj]; omega
theorem own_e12 {c d f : Int32} {a b : Int} (gf : G1 f) (ea : a = 257 * c.toInt) (eb : b = 257 * d.toInt + 1 + f.toInt) : ¬ a = b := by
  have := own_bd gf.1 gf.2.1
  omega
theorem own_e22 {c d e f : Int32} {a b : Int} (gc : G0 c) (gd : G0 d) (ge : G1 e) (gf : G1 f) (ea : a = 257 * c.toInt + 1 + e.toInt) (eb : b = 257 * d.toInt + 1 + f.toInt) : a = b ↔ c.toInt8.toInt32 = d.toInt8.toInt32 ∧ e.toInt8.toInt32 = f.toInt8.toInt32 := by
  rw [own_b8 gc.1 gc.2.1 gd.1 gd.2.1, own_b8 ge.1 ge.2.1 gf.1 gf.2.1, ← Int32.toInt_inj, ← Int32.toInt_inj]
  have := own_bd ge.1 ge.2.1
  have := own_bd gf.1 gf.2.1
  omega
def L93 : List (Nat × Instr × Nat) := [(0, a_0), (1, .arraylength, 1), (2, a_1), (3, .arraylength, 1), (4, .if_icmp .ne 30, 3), (7, .iconst 0, 1), (8, .istore_n 2, 1), (9, i_2), (10, a_0), (11, .arraylength, 1), (12, .if_icmp .ge 20, 3), (15, a_0), (16, i_2), (17, .baload, 1), (18, a_1), (19, i_2), (20, .baload, 1), (21, .if_icmp .eq 5, 3), (26, .iinc 2 1, 3), (29, .goto (-20), 3), (32, .iconst 1, 1), (33, .ireturn, 1), (24, .iconst 0, 1), (25, .ireturn, 1), (34, .iconst 0, 1), (35, .ireturn, 1)]
theorem d93 : ∀ q ∈ L93, decode jdk_43_method_13_code q.1 = .ok q.2 := by decide +kernel
def QrmLE (kya : Int) (kyb : Int) (v : Option Value) : Prop := ∃ (r : Int32), (v = some (.int r)) ∧ ((kya = kyb ∧ r = (1 : Int32)) ∨ (¬ (kya = kyb) ∧ r = (0 : Int32)))
abbrev own_y23 : MethodName := ⟨S_18, "equals", "([B[B)Z"⟩
theorem rmLE (hw : HW a0 Z) (G : Gh Z vcs wI wA cA vF wP wD kD wE kE mT mU mL mO) (va : Addr) (vb : Addr) (ka : ClassId) (zn : Int32) (vsx : (List Value)) (kb : ClassId) (znb : Int32) (vsb : (List Value)) (kya : Int) (kyb : Int) (h0 : Heap) (n0 : Nat) (O0 : Old Z n0 h0) (VA : Arv Z h0 va ka .byte zn vsx (.int 0)) (VB : Arv Z h0 vb kb .byte znb vsb (.int 0)) (hKn : Kn zn vsx kya) (hKb : Kn znb vsb kyb) :
    MM l Z own_y23 jdk_43_method_13_code 3 (some .boolean) ws (Rm 0 0 0 0) #[(.ref va), (.ref vb)] h0 (QP h0 (QrmLE kya kyb)) := by
  refine own_go hw (plainFor_of_name pn_42) #[vr va, vr vb, .unset] (fun p e s m below meth c s₁ Pf hx hby hlk hown hnm hret hml hZ hh X0 e0 hPf Jf => ?_)
  have J := Jf d93
  rcases hKn with ⟨c0, gc0, rfl, rfl, ec0⟩ | ⟨c0, c1, gc0, gc1, rfl, rfl, ec0⟩
  · rcases hKb with ⟨d0, gd0, rfl, rfl, ed0⟩ | ⟨d0, d1, gd0, gd1, rfl, rfl, ed0⟩
    · have oc0 := own_bd gc0.1 gc0.2.1
      have od0 := own_bd gd0.1 gd0.2.1
      refine gy (fun t k => aN X0 J 0 rfl rfl k) ?_
      refine Go.by' (fun t k => own_alen X0 hx hZ e0 VA rfl rfl (jd J 1 rfl) k) ?_
      show G_ 2 #[vr va, vr vb, .unset] [(.int 1)]
      refine gy (fun t k => aN X0 J 2 rfl rfl k) ?_
      refine Go.by' (fun t k => own_alen X0 hx hZ e0 VB rfl rfl (jd J 3 rfl) k) ?_
      show G_ 4 #[vr va, vr vb, .unset] [(.int 1), (.int 1)]
      refine gy (fun t k => cN X0 J 4 rfl (teq (by decide)).2 (cI X0 J 5 rfl 0 (sIN X0 J 6 rfl #[vr va, vr vb, vi 0] (iN X0 J 7 rfl rfl (aN X0 J 8 rfl rfl k))))) ?_
      refine Go.by' (fun t k => own_alen X0 hx hZ e0 VA rfl rfl (jd J 9 rfl) k) ?_
      show G_ 12 #[vr va, vr vb, vi 0] [(.int 1), (.int 0)]
      refine gy (fun t k => cN X0 J 10 rfl (tlt (by decide)).2.1 (aN X0 J 11 rfl rfl (iN X0 J 12 rfl rfl k))) ?_
      refine Go.by' (fun t k => own_bal X0 hx hZ e0 VA (j := (0 : Int32)) (v := (.int (c0.toInt8.toInt32))) ⟨by decide, by decide⟩ rfl rfl rfl (jd J 13 rfl) k) ?_
      show G_ 18 #[vr va, vr vb, vi 0] [(.int (c0.toInt8.toInt32))]
      refine gy (fun t k => aN X0 J 14 rfl rfl (iN X0 J 15 rfl rfl k)) ?_
      refine Go.by' (fun t k => own_bal X0 hx hZ e0 VB (j := (0 : Int32)) (v := (.int (d0.toInt8.toInt32))) ⟨by decide, by decide⟩ rfl rfl rfl (jd J 16 rfl) k) ?_
      show G_ 21 #[vr va, vr vb, vi 0] [(.int (d0.toInt8.toInt32)), (.int (c0.toInt8.toInt32))]
      by_cases hc86 : (c0.toInt8.toInt32) = (d0.toInt8.toInt32)
      · refine gy (fun t k => cY X0 J 17 rfl (teq hc86).1 26 (xI X0 J 18 rfl rfl #[vr va, vr vb, vi 1] (jG X0 J 19 rfl 9 (iN X0 J 7 rfl rfl (aN X0 J 8 rfl rfl k))))) ?_
        refine Go.by' (fun t k => own_alen X0 hx hZ e0 VA rfl rfl (jd J 9 rfl) k) ?_
        show G_ 12 #[vr va, vr vb, vi 1] [(.int 1), (.int 1)]
        refine gy (fun t k => cY X0 J 10 rfl (flt (by decide)).2.1 32 (cI X0 J 20 rfl 1 k)) ?_
        exact rI X0 hret hlk hPf J 21 ⟨⟨(1 : Int32), rfl, (Or.inl ⟨(own_e11 gc0 gd0 ec0 ed0).mpr hc86, rfl⟩)⟩, rfl, e0⟩
      · refine gy (fun t k => cN X0 J 17 rfl (feq hc86).1 (cI X0 J 22 rfl 0 k)) ?_
        exact rI X0 hret hlk hPf J 23 ⟨⟨(0 : Int32), rfl, (Or.inr ⟨fun q => hc86 ((own_e11 gc0 gd0 ec0 ed0).mp q), rfl⟩)⟩, rfl, e0⟩
    · have oc0 := own_bd gc0.1 gc0.2.1
      have od0 := own_bd gd0.1 gd0.2.1
      have od1 := own_bd gd1.1 gd1.2.1
      refine gy (fun t k => aN X0 J 0 rfl rfl k) ?_
      refine Go.by' (fun t k => own_alen X0 hx hZ e0 VA rfl rfl (jd J 1 rfl) k) ?_
      show G_ 2 #[vr va, vr vb, .unset] [(.int 1)]
      refine gy (fun t k => aN X0 J 2 rfl rfl k) ?_
      refine Go.by' (fun t k => own_alen X0 hx hZ e0 VB rfl rfl (jd J 3 rfl) k) ?_
      show G_ 4 #[vr va, vr vb, .unset] [(.int 2), (.int 1)]
      refine gy (fun t k => cY X0 J 4 rfl (feq (by decide)).2 34 (cI X0 J 24 rfl 0 k)) ?_
      exact rI X0 hret hlk hPf J 25 ⟨⟨(0 : Int32), rfl, (Or.inr ⟨own_e12 gd1 ec0 ed0, rfl⟩)⟩, rfl, e0⟩
  · rcases hKb with ⟨d0, gd0, rfl, rfl, ed0⟩ | ⟨d0, d1, gd0, gd1, rfl, rfl, ed0⟩
    · have oc0 := own_bd gc0.1 gc0.2.1
      have oc1 := own_bd gc1.1 gc1.2.1
      have od0 := own_bd gd0.1 gd0.2.1
      refine gy (fun t k => aN X0 J 0 rfl rfl k) ?_
      refine Go.by' (fun t k => own_alen X0 hx hZ e0 VA rfl rfl (jd J 1 rfl) k) ?_
      show G_ 2 #[vr va, vr vb, .unset] [(.int 2)]
      refine gy (fun t k => aN X0 J 2 rfl rfl k) ?_
      refine Go.by' (fun t k => own_alen X0 hx hZ e0 VB rfl rfl (jd J 3 rfl) k) ?_
      show G_ 4 #[vr va, vr vb, .unset] [(.int 1), (.int 2)]
      refine gy (fun t k => cY X0 J 4 rfl (feq (by decide)).2 34 (cI X0 J 24 rfl 0 k)) ?_
      exact rI X0 hret hlk hPf J 25 ⟨⟨(0 : Int32), rfl, (Or.inr ⟨fun q => own_e12 gc1 ed0 ec0 q.symm, rfl⟩)⟩, rfl, e0⟩
    · have oc0 := own_bd gc0.1 gc0.2.1
      have oc1 := own_bd gc1.1 gc1.2.1
      have od0 := own_bd gd0.1 gd0.2.1
      have od1 := own_bd gd1.1 gd1.2.1
      refine gy (fun t k => aN X0 J 0 rfl rfl k) ?_
      refine Go.by' (fun t k => own_alen X0 hx hZ e0 VA rfl rfl (jd J 1 rfl) k) ?_
      show G_ 2 #[vr va, vr vb, .unset] [(.int 2)]
      refine gy (fun t k => aN X0 J 2 rfl rfl k) ?_
      refine Go.by' (fun t k => own_alen X0 hx hZ e0 VB rfl rfl (jd J 3 rfl) k) ?_
      show G_ 4 #[vr va, vr vb, .unset] [(.int 2), (.int 2)]
      refine gy (fun t k => cN X0 J 4 rfl (teq (by decide)).2 (cI X0 J 5 rfl 0 (sIN X0 J 6 rfl #[vr va, vr vb, vi 0] (iN X0 J 7 rfl rfl (aN X0 J 8 rfl rfl k))))) ?_
      refine Go.by' (fun t k => own_alen X0 hx hZ e0 VA rfl rfl (jd J 9 rfl) k) ?_
      show G_ 12 #[vr va, vr vb, vi 0] [(.int 2), (.int 0)]
      refine gy (fun t k => cN X0 J 10 rfl (tlt (by decide)).2.1 (aN X0 J 11 rfl rfl (iN X0 J 12 rfl rfl k))) ?_
      refine Go.by' (fun t k => own_bal X0 hx hZ e0 VA (j := (0 : Int32)) (v := (.int (c0.toInt8.toInt32))) ⟨by decide, by decide⟩ rfl rfl rfl (jd J 13 rfl) k) ?_
      show G_ 18 #[vr va, vr vb, vi 0] [(.int (c0.toInt8.toInt32))]
      refine gy (fun t k => aN X0 J 14 rfl rfl (iN X0 J 15 rfl rfl k)) ?_
      refine Go.by' (fun t k => own_bal X0 hx hZ e0 VB (j := (0 : Int32)) (v := (.int (d0.toInt8.toInt32))) ⟨by decide, by decide⟩ rfl rfl rfl (jd J 16 rfl) k) ?_
      show G_ 21 #[vr va, vr vb, vi 0] [(.int (d0.toInt8.toInt32)), (.int (c0.toInt8.toInt32))]
      by_cases hc97 : (c0.toInt8.toInt32) = (d0.toInt8.toInt32)
      · refine gy (fun t k => cY X0 J 17 rfl (teq hc97).1 26 (xI X0 J 18 rfl rfl #[vr va, vr vb, vi 1] (jG X0 J 19 rfl 9 (iN X0 J 7 rfl rfl (aN X0 J 8 rfl rfl k))))) ?_
        refine Go.by' (fun t k => own_alen X0 hx hZ e0 VA rfl rfl (jd J 9 rfl) k) ?_
        show G_ 12 #[vr va, vr vb, vi 1] [(.int 2), (.int 1)]
        refine gy (fun t k => cN X0 J 10 rfl (tlt (by decide)).2.1 (aN X0 J 11 rfl rfl (iN X0 J 12 rfl rfl k))) ?_
        refine Go.by' (fun t k => own_bal X0 hx hZ e0 VA (j := (1 : Int32)) (v := (.int (c1.toInt8.toInt32))) ⟨by decide, by decide⟩ rfl rfl rfl (jd J 13 rfl) k) ?_
        show G_ 18 #[vr va, vr vb, vi 1] [(.int (c1.toInt8.toInt32))]
        refine gy (fun t k => aN X0 J 14 rfl rfl (iN X0 J 15 rfl rfl k)) ?_
        refine Go.by' (fun t k => own_bal X0 hx hZ e0 VB (j := (1 : Int32)) (v := (.int (d1.toInt8.toInt32))) ⟨by decide, by decide⟩ rfl rfl rfl (jd J 16 rfl) k) ?_
        show G_ 21 #[vr va, vr vb, vi 1] [(.int (d1.toInt8.toInt32)), (.int (c1.toInt8.toInt32))]
        by_cases hc101 : (c1.toInt8.toInt32) = (d1.toInt8.toInt32)
        · refine gy (fun t k => cY X0 J 17 rfl (teq hc101).1 26 (xI X0 J 18 rfl rfl #[vr va, vr vb, vi 2] (jG X0 J 19 rfl 9 (iN X0 J 7 rfl rfl (aN X0 J 8 rfl rfl k))))) ?_
          refine Go.by' (fun t k => own_alen X0 hx hZ e0 VA rfl rfl (jd J 9 rfl) k) ?_
          show G_ 12 #[vr va, vr vb, vi 2] [(.int 2), (.int 2)]
          refine gy (fun t k => cY X0 J 10 rfl (flt (by decide)).2.1 32 (cI X0 J 20 rfl 1 k)) ?_
          exact rI X0 hret hlk hPf J 21 ⟨⟨(1 : Int32), rfl, (Or.inl ⟨(own_e22 gc0 gd0 gc1 gd1 ec0 ed0).mpr ⟨hc97, hc101⟩, rfl⟩)⟩, rfl, e0⟩
        · refine gy (fun t k => cN X0 J 17 rfl (feq hc101).1 (cI X0 J 22 rfl 0 k)) ?_
          exact rI X0 hret hlk hPf J 23 ⟨⟨(0 : Int32), rfl, (Or.inr ⟨fun q => hc101 ((own_e22 gc0 gd0 gc1 gd1 ec0 ed0).mp q).2, rfl⟩)⟩, rfl, e0⟩
      · refine gy (fun t k => cN X0 J 17 rfl (feq hc97).1 (cI X0 J 22 rfl 0 k)) ?_
        exact rI X0 hret hlk hPf J 23 ⟨⟨(0 : Int32), rfl, (Or.inr ⟨fun q => hc97 ((own_e22 gc0 gd0 gc1 gd1 ec0 ed0).mp q).1, rfl⟩)⟩, rfl, e0⟩
theorem pd_16 : parseMethodDescriptor "([B[B)Z" = some ⟨[(.array .byte), (.array .byte)], some .boolean⟩ := by decide +kernel
def L46' : List (Nat × Instr × Nat) := [(7, a_1), (8, .instanceof 10, 3), (11, .ifCond .eq 43, 3), (14, a_1), (15, .checkcast 10, 3), (18, .astore_n 2, 1), (19, .getstatic 38, 3), (22, .ifCond .eq 14, 3), (25, a_0), (26, .getfield 15, 3), (29, a_2), (30, .getfield 15, 3), (33, .if_icmp .ne 21, 3), (36, a_0), (37, .getfield 9, 3), (40, a_2), (41, .getfield 9, 3), (44, .invokestatic 541, 3), (47, .ifCond .eq 7, 3), (50, .iconst 1, 1), (51, .goto 4, 3), (55, .ireturn, 1), (54, .iconst 0, 1)]
theorem d46' : ∀ q ∈ L46', decode jdk_42_method_66_code q.1 = .ok q.2 := by decide +kernel
def QrmSE (kya : Int) (kyb : Int) (v : Option Value) : Prop := ∃ (r : Int32), (v = some (.int r)) ∧ ((kya = kyb ∧ r = (1 : Int32)) ∨ (¬ (kya = kyb) ∧ r = (0 : Int32)))
theorem rmSE (hw : HW a0 Z) (G : Gh Z vcs wI wA cA vF wP wD kD wE kE mT mU mL mO) (sa : Addr) (sb : Addr) (kya : Int) (kyb : Int) (h0 : Heap) (n0 : Nat) (O0 : Old Z n0 h0) (SKa : SK Z h0 sa kya) (SKb : SK Z h0 sb kyb) :
    MM l Z own_y21 jdk_42_method_66_code 3 (some .boolean) ws (Rm 1 0 0 14) #[(.ref sa), (.ref sb)] h0 (QP h0 (QrmSE kya kyb)) := by
  refine own_go hw (plainFor_of_name pn_39) #[vr sa, vr sb, .unset] (fun p e s m below meth c s₁ Pf hx hby hlk hown hnm hret hml hZ hh X0 e0 hPf Jf => ?_)
  have J := Jf d46
  have J' := Jf d46'
  obtain ⟨va, ka, zn, vsx, EA, FA, CA, VA, hKn⟩ := (id SKa)
  obtain ⟨vb, kb, znb, vsb, EB, FB, CB, VB, hKb⟩ := (id SKb)
  refine gy (fun t k => aN X0 J 0 rfl rfl (aN X0 J 1 rfl rfl k)) ?_
  by_cases hc103 : (Value.ref sa) = (Value.ref sb)
  · refine gy (fun t k => jQ X0 J 2 rfl true (decide_eq_true hc103) 5 (cI X0 J 3 rfl 1 k)) ?_
    exact rI X0 hret hlk hPf J 4 ⟨⟨(1 : Int32), rfl, (Or.inl ⟨(SK.inj (Value.ref.inj hc103 ▸ SKa) SKb), rfl⟩)⟩, rfl, e0⟩
  · refine gy (fun t k => jQ X0 J 2 rfl false (decide_eq_false hc103) 7 (aN X0 J' 0 rfl rfl k)) ?_
    refine own_io X0 J' 1 19 e0 (Ins.self SKb.exa) (fun T104 X104 e104 => ?_)
    refine gy (fun t k => fN X104 J' 2 rfl ((if0 _ _).trans (feq (by decide)).1) (aN X104 J' 3 rfl rfl k)) ?_
    refine own_cc X104 J' 4 19 e104 (Ins.self SKb.exa) (fun T105 X105 e105 => ?_)
    refine gy (fun t k => sAN X105 J' 5 rfl #[vr sa, vr sb, vr sb] k) ?_
    refine own_gs X105 J' 6 14 Via.refl e105 (G.1.ext O0.2) (fun T106 X106 e106 => ?_)
    refine gy (fun t k => fN X106 J' 7 rfl ((if0 _ _).trans (feq G.2.1).1) (aN X106 J' 8 rfl rfl k)) ?_
    refine own_gf X106 J' 9 34 Via.refl e106 CA (fun T107 X107 e107 => ?_)
    refine gy (fun t k => aN X107 J' 10 rfl rfl k) ?_
    refine own_gf X107 J' 11 34 Via.refl e107 CB (fun T108 X108 e108 => ?_)
    refine gy (fun t k => cN X108 J' 12 rfl (teq (by decide)).2 (aN X108 J' 13 rfl rfl k)) ?_
    refine own_gf X108 J' 14 32 Via.refl e108 FA (fun T109 X109 e109 => ?_)
    refine gy (fun t k => aN X109 J' 15 rfl rfl k) ?_
    refine own_gf X109 J' 16 32 Via.refl e109 FB (fun T110 X110 e110 => ?_)
    refine own_cs (rmLE hw G _ _ _ _ _ _ _ _ kya kyb _ _ O0 VA VB hKn hKb) X110 J' 17 563 564 17 565 e110 0 pd_16 (kP fun T111 v111 X111 e111 q111 => ?_)
    obtain ⟨r_111, rfl, r111_0⟩ := q111
    rcases r111_0 with ⟨hE111, hz111⟩ | ⟨hE111, hz111⟩
    · subst hz111
      show G_ 47 _ [(.int 1)]
      refine gy (fun t k => fN X111 J' 18 rfl ((if0 _ _).trans (feq (by decide)).1) (cI X111 J' 19 rfl 1 (jG X111 J' 20 rfl 55 k))) ?_
      exact rI X111 hret hlk hPf J' 21 ⟨⟨(1 : Int32), rfl, (Or.inl ⟨hE111, rfl⟩)⟩, rfl, e111⟩
    · subst hz111
      show G_ 47 _ [(.int 0)]
      refine gy (fun t k => fY X111 J' 18 rfl ((if0 _ _).trans (teq (by decide)).1) 54 (cI X111 J' 22 rfl 0 k)) ?_
      exact rI X111 hret hlk hPf J' 21 ⟨⟨(0 : Int32), rfl, (Or.inr ⟨hE111, rfl⟩)⟩, rfl, e111⟩
def L66 : List (Nat × Instr × Nat) := [(0, i_0), (1, i_1), (2, .if_icmp .gt 7, 3), (9, i_1), (10, .ireturn, 1), (5, i_0), (6, .goto 4, 3)]
theorem d66 : ∀ q ∈ L66, decode jdk_29_method_69_code q.1 = .ok q.2 := by decide +kernel
def QrmMi (ia : Int32) (ib : Int32) (v : Option Value) : Prop := ∃ (r : Int32), (v = some (.int r)) ∧ ((ib < ia ∧ r = ib) ∨ (¬ (ib < ia) ∧ r = ia))
abbrev own_y24 : MethodName := ⟨"java/lang/Math", "min", "(II)I"⟩
theorem rmMi (hw : HW a0 Z) (G : Gh Z vcs wI wA cA vF wP wD kD wE kE mT mU mL mO) (ia : Int32) (ib : Int32) (h0 : Heap) (n0 : Nat) (O0 : Old Z n0 h0) :
    MM l Z own_y24 jdk_29_method_69_code 2 (some .int) ws (Rm 0 0 0 0) #[(.int ia), (.int ib)] h0 (QP h0 (QrmMi ia ib)) := by
  refine own_go hw (Jvm.Free.JP.mathPlain rfl (by decide +kernel)) #[vi ia, vi ib] (fun p e s m below meth c s₁ Pf hx hby hlk hown hnm hret hml hZ hh X0 e0 hPf Jf => ?_)
  have J := Jf d66
  refine gy (fun t k => iN X0 J 0 rfl rfl (iN X0 J 1 rfl rfl k)) ?_
  by_cases hc112 : ib < ia
  · refine gy (fun t k => cY X0 J 2 rfl (tlt hc112).2.2.1 9 (iN X0 J 3 rfl rfl k)) ?_
    exact rI X0 hret hlk hPf J 4 ⟨⟨ib, rfl, (Or.inl ⟨hc112, rfl⟩)⟩, rfl, e0⟩
  · refine gy (fun t k => cN X0 J 2 rfl (flt hc112).2.2.1 (iN X0 J 5 rfl rfl (jG X0 J 6 rfl 10 k))) ?_
    exact rI X0 hret hlk hPf J 4 ⟨⟨ia, rfl, (Or.inr ⟨hc112, rfl⟩)⟩, rfl, e0⟩
def L67 : List (Nat × Instr × Nat) := [(0, .iconst 0, 1), (1, .istore_n 3, 1), (2, i_2), (3, .bipush 7, 2), (5, .if_icmp .le 44, 3), (49, i_3), (50, i_2), (51, .if_icmp .ge 20, 3), (54, a_0), (55, i_3), (56, .baload, 1), (57, a_1), (58, i_3), (59, .baload, 1), (60, .if_icmp .eq 5, 3), (65, .iinc 3 1, 3), (68, .goto (-19), 3), (71, .iconst (-1), 1), (72, .ireturn, 1), (63, i_3), (64, .ireturn, 1)]
theorem d67 : ∀ q ∈ L67, decode jdk_48_method_13_code q.1 = .ok q.2 := by decide +kernel
def QrmMs_1 (xa0 : Int32) (xb0 : Int32) (v : Option Value) : Prop := ∃ (r : Int32), (v = some (.int r)) ∧ ((xa0 = xb0 ∧ r = (-1 : Int32)) ∨ (¬ (xa0 = xb0) ∧ r = (0 : Int32)))
abbrev own_y25 : MethodName := ⟨"jdk/internal/util/ArraysSupport", "mismatch", "([B[BI)I"⟩
theorem rmMs_1 (hw : HW a0 Z) (G : Gh Z vcs wI wA cA vF wP wD kD wE kE mT mU mL mO) (va : Addr) (vb : Addr) (ka : ClassId) (zn : Int32) (vsx : (List Value)) (kb : ClassId) (znb : Int32) (vsb : (List Value)) (xa0 : Int32) (xb0 : Int32) (h0 : Heap) (n0 : Nat) (O0 : Old Z n0 h0) (VA : Arv Z h0 va ka .byte zn vsx (.int 0)) (VB : Arv Z h0 vb kb .byte znb vsb (.int 0)) (hna : (0 : Int32) < zn) (hnb : (0 : Int32) < znb) (ha0 : vsx.getD (0 : Int32).toNatClampNeg (Value.int 0) = Value.int xa0) (hb0 : vsb.getD (0 : Int32).toNatClampNeg (Value.int 0) = Value.int xb0) :
    MM l Z own_y25 jdk_48_method_13_code 4 (some .int) ws (Rm 0 0 0 0) #[(.ref va), (.ref vb), (.int 1)] h0 (QP h0 (QrmMs_1 xa0 xb0)) := by
  refine own_go hw (plainFor_of_name pn_56) #[vr va, vr vb, vi 1, .unset] (fun p e s m below meth c s₁ Pf hx hby hlk hown hnm hret hml hZ hh X0 e0 hPf Jf => ?_)
  have J := Jf d67
  refine gy (fun t k => cI X0 J 0 rfl 0 (sIN X0 J 1 rfl #[vr va, vr vb, vi 1, vi 0] (iN X0 J 2 rfl rfl (cB X0 J 3 rfl 7 (cY X0 J 4 rfl (flt (by decide)).2.2.2 49 (iN X0 J 5 rfl rfl (iN X0 J 6 rfl rfl (cN X0 J 7 rfl (tlt (by decide)).2.1 k)))))))) ?_
  refine gy (fun t k => aN X0 J 8 rfl rfl (iN X0 J 9 rfl rfl k)) ?_
  refine Go.by' (fun t k => own_bal X0 hx hZ e0 VA (j := (0 : Int32)) (v := (.int xa0)) ⟨by decide, hna⟩ ha0 rfl rfl (jd J 10 rfl) k) ?_
  show G_ 57 #[vr va, vr vb, vi 1, vi 0] [(.int xa0)]
  refine gy (fun t k => aN X0 J 11 rfl rfl (iN X0 J 12 rfl rfl k)) ?_
  refine Go.by' (fun t k => own_bal X0 hx hZ e0 VB (j := (0 : Int32)) (v := (.int xb0)) ⟨by decide, hnb⟩ hb0 rfl rfl (jd J 13 rfl) k) ?_
  show G_ 60 #[vr va, vr vb, vi 1, vi 0] [(.int xb0), (.int xa0)]
  by_cases hc115 : xa0 = xb0
  · refine gy (fun t k => cY X0 J 14 rfl (teq hc115).1 65 (xI X0 J 15 rfl rfl #[vr va, vr vb, vi 1, vi 1] (jG X0 J 16 rfl 49 (iN X0 J 5 rfl rfl (iN X0 J 6 rfl rfl (cY X0 J 7 rfl (flt (by decide)).2.1 71 (cI X0 J 17 rfl (-1) k))))))) ?_
    exact rI X0 hret hlk hPf J 18 ⟨⟨(-1 : Int32), rfl, (Or.inl ⟨hc115, rfl⟩)⟩, rfl, e0⟩
  · refine gy (fun t k => cN X0 J 14 rfl (feq hc115).1 (iN X0 J 19 rfl rfl k)) ?_
    exact rI X0 hret hlk hPf J 20 ⟨⟨(0 : Int32), rfl, (Or.inr ⟨hc115, rfl⟩)⟩, rfl, e0⟩
def QrmMs_2 (xa0 : Int32) (xa1 : Int32) (xb0 : Int32) (xb1 : Int32) (v : Option Value) : Prop := ∃ (r : Int32), (v = some (.int r)) ∧ ((xa0 = xb0 ∧ xa1 = xb1 ∧ r = (-1 : Int32)) ∨ (¬ (xa0 = xb0) ∧ r = (0 : Int32)) ∨ (xa0 = xb0 ∧ ¬ (xa1 = xb1) ∧ r = (1 : Int32)))
theorem rmMs_2 (hw : HW a0 Z) (G : Gh Z vcs wI wA cA vF wP wD kD wE kE mT mU mL mO) (va : Addr) (vb : Addr) (ka : ClassId) (zn : Int32) (vsx : (List Value)) (kb : ClassId) (znb : Int32) (vsb : (List Value)) (xa0 : Int32) (xa1 : Int32) (xb0 : Int32) (xb1 : Int32) (h0 : Heap) (n0 : Nat) (O0 : Old Z n0 h0) (VA : Arv Z h0 va ka .byte zn vsx (.int 0)) (VB : Arv Z h0 vb kb .byte znb vsb (.int 0)) (hna : (1 : Int32) < zn) (hnb : (1 : Int32) < znb) (hnx0 : (0 : Int32) < zn) (hny0 : (0 : Int32) < znb) (ha0 : vsx.getD (0 : Int32).toNatClampNeg (Value.int 0) = Value.int xa0) (ha1 : vsx.getD (1 : Int32).toNatClampNeg (Value.int 0) = Value.int xa1) (hb0 : vsb.getD (0 : Int32).toNatClampNeg (Value.int 0) = Value.int xb0) (hb1 : vsb.getD (1 : Int32).toNatClampNeg (Value.int 0) = Value.int xb1) :
    MM l Z own_y25 jdk_48_method_13_code 4 (some .int) ws (Rm 0 0 0 0) #[(.ref va), (.ref vb), (.int 2)] h0 (QP h0 (QrmMs_2 xa0 xa1 xb0 xb1)) := by
  refine own_go hw (plainFor_of_name pn_56) #[vr va, vr vb, vi 2, .unset] (fun p e s m below meth c s₁ Pf hx hby hlk hown hnm hret hml hZ hh X0 e0 hPf Jf => ?_)
  have J := Jf d67
  refine gy (fun t k => cI X0 J 0 rfl 0 (sIN X0 J 1 rfl #[vr va, vr vb, vi 2, vi 0] (iN X0 J 2 rfl rfl (cB X0 J 3 rfl 7 (cY X0 J 4 rfl (flt (by decide)).2.2.2 49 (iN X0 J 5 rfl rfl (iN X0 J 6 rfl rfl (cN X0 J 7 rfl (tlt (by decide)).2.1 k)))))))) ?_
  refine gy (fun t k => aN X0 J 8 rfl rfl (iN X0 J 9 rfl rfl k)) ?_
  refine Go.by' (fun t k => own_bal X0 hx hZ e0 VA (j := (0 : Int32)) (v := (.int xa0)) ⟨by decide, hnx0⟩ ha0 rfl rfl (jd J 10 rfl) k) ?_
  show G_ 57 #[vr va, vr vb, vi 2, vi 0] [(.int xa0)]
  refine gy (fun t k => aN X0 J 11 rfl rfl (iN X0 J 12 rfl rfl k)) ?_
  refine Go.by' (fun t k => own_bal X0 hx hZ e0 VB (j := (0 : Int32)) (v := (.int xb0)) ⟨by decide, hny0⟩ hb0 rfl rfl (jd J 13 rfl) k) ?_
  show G_ 60 #[vr va, vr vb, vi 2, vi 0] [(.int xb0), (.int xa0)]
  by_cases hc118 : xa0 = xb0
  · refine gy (fun t k => cY X0 J 14 rfl (teq hc118).1 65 (xI X0 J 15 rfl rfl #[vr va, vr vb, vi 2, vi 1] (jG X0 J 16 rfl 49 (iN X0 J 5 rfl rfl (iN X0 J 6 rfl rfl (cN X0 J 7 rfl (tlt (by decide)).2.1 (aN X0 J 8 rfl rfl (iN X0 J 9 rfl rfl k)))))))) ?_
    refine Go.by' (fun t k => own_bal X0 hx hZ e0 VA (j := (1 : Int32)) (v := (.int xa1)) ⟨by decide, hna⟩ ha1 rfl rfl (jd J 10 rfl) k) ?_
    show G_ 57 #[vr va, vr vb, vi 2, vi 1] [(.int xa1)]
    refine gy (fun t k => aN X0 J 11 rfl rfl (iN X0 J 12 rfl rfl k)) ?_
    refine Go.by' (fun t k => own_bal X0 hx hZ e0 VB (j := (1 : Int32)) (v := (.int xb1)) ⟨by decide, hnb⟩ hb1 rfl rfl (jd J 13 rfl) k) ?_
    show G_ 60 #[vr va, vr vb, vi 2, vi 1] [(.int xb1), (.int xa1)]
    by_cases hc121 : xa1 = xb1
    · refine gy (fun t k => cY X0 J 14 rfl (teq hc121).1 65 (xI X0 J 15 rfl rfl #[vr va, vr vb, vi 2, vi 2] (jG X0 J 16 rfl 49 (iN X0 J 5 rfl rfl (iN X0 J 6 rfl rfl (cY X0 J 7 rfl (flt (by decide)).2.1 71 (cI X0 J 17 rfl (-1) k))))))) ?_
      exact rI X0 hret hlk hPf J 18 ⟨⟨(-1 : Int32), rfl, (Or.inl ⟨hc118, hc121, rfl⟩)⟩, rfl, e0⟩
    · refine gy (fun t k => cN X0 J 14 rfl (feq hc121).1 (iN X0 J 19 rfl rfl k)) ?_
      exact rI X0 hret hlk hPf J 20 ⟨⟨(1 : Int32), rfl, (Or.inr (Or.inr ⟨hc118, hc121, rfl⟩))⟩, rfl, e0⟩
  · refine gy (fun t k => cN X0 J 14 rfl (feq hc118).1 (iN X0 J 19 rfl rfl k)) ?_
    exact rI X0 hret hlk hPf J 20 ⟨⟨(0 : Int32), rfl, (Or.inr (Or.inl ⟨hc118, rfl⟩))⟩, rfl, e0⟩
theorem pd_17 : parseMethodDescriptor "(II)I" = some ⟨[.int, .int], some .int⟩ := by decide +kernel
theorem pd_18 : parseMethodDescriptor "([B[BI)I" = some ⟨[(.array .byte), (.array .byte), .int], some .int⟩ := by decide +kernel
def L65 : List (Nat × Instr × Nat) := [(0, i_2), (1, i_3), (2, .invokestatic 38, 3), (5, .istore 4, 2), (7, a_0), (8, a_1), (9, .iload 4, 2), (11, .invokestatic 44, 3), (14, .istore 5, 2), (16, .iload 5, 2), (18, .ifCond .ge 9, 3), (21, i_2), (22, i_3), (23, .isub, 1), (24, .goto 16, 3), (40, .ireturn, 1), (27, a_0), (28, .iload 5, 2), (30, .invokestatic 50, 3), (33, a_1), (34, .iload 5, 2), (36, .invokestatic 50, 3), (39, .isub, 1)]
theorem d65 : ∀ q ∈ L65, decode jdk_43_method_15_code q.1 = .ok q.2 := by decide +kernel
def QrmC4 (kya : Int) (kyb : Int) (v : Option Value) : Prop := ∃ (r : Int32), (v = some (.int r)) ∧ (CR r kya kyb)
abbrev own_y26 : MethodName := ⟨S_18, "compareTo", "([B[BII)I"⟩
theorem rmC4 (hw : HW a0 Z) (G : Gh Z vcs wI wA cA vF wP wD kD wE kE mT mU mL mO) (va : Addr) (vb : Addr) (zn : Int32) (znb : Int32) (ka : ClassId) (vsx : (List Value)) (kb : ClassId) (vsb : (List Value)) (kya : Int) (kyb : Int) (h0 : Heap) (n0 : Nat) (O0 : Old Z n0 h0) (VA : Arv Z h0 va ka .byte zn vsx (.int 0)) (VB : Arv Z h0 vb kb .byte znb vsb (.int 0)) (hKn : Kn zn vsx kya) (hKb : Kn znb vsb kyb) :
    MM l Z own_y26 jdk_43_method_15_code 6 (some .int) ws (Rm 1 0 0 15) #[(.ref va), (.ref vb), (.int zn), (.int znb)] h0 (QP h0 (QrmC4 kya kyb)) := by
  refine own_go hw (plainFor_of_name pn_42) #[vr va, vr vb, vi zn, vi znb, .unset, .unset] (fun p e s m below meth c s₁ Pf hx hby hlk hown hnm hret hml hZ hh X0 e0 hPf Jf => ?_)
  have J := Jf d65
  rcases hKn with ⟨c0, gc0, rfl, rfl, ec0⟩ | ⟨c0, c1, gc0, gc1, rfl, rfl, ec0⟩
  · rcases hKb with ⟨d0, gd0, rfl, rfl, ed0⟩ | ⟨d0, d1, gd0, gd1, rfl, rfl, ed0⟩
    · have oc0 := own_bd gc0.1 gc0.2.1
      have od0 := own_bd gd0.1 gd0.2.1
      refine gy (fun t k => iN X0 J 0 rfl rfl (iN X0 J 1 rfl rfl k)) ?_
      refine own_cs (rmMi hw G ((1 : Int32)) ((1 : Int32)) _ _ O0 ) X0 J 2 410 411 412 413 e0 0 pd_17 (kP fun T122 v122 X122 e122 q122 => ?_)
      obtain ⟨r_122, rfl, r122_0⟩ := q122
      obtain rfl : r_122 = (1 : Int32) := by rcases r122_0 with ⟨h1, h2⟩ | ⟨h1, h2⟩ <;> first | exact h2 | exact absurd h1 (by decide)
      show G_ 5 _ [(.int 1)]
      refine gy (fun t k => sI X122 J 3 rfl #[vr va, vr vb, vi 1, vi 1, vi 1, .unset] (aN X122 J 4 rfl rfl (aN X122 J 5 rfl rfl (iL X122 J 6 rfl rfl k)))) ?_
      refine own_cs (rmMs_1 hw G _ _ _ _ _ _ _ _ ((c0.toInt8.toInt32)) ((d0.toInt8.toInt32)) _ _ O0 VA VB (by decide) (by decide) rfl rfl) X122 J 7 414 415 358 416 e122 0 pd_18 (kP fun T123 v123 X123 e123 q123 => ?_)
      obtain ⟨r_123, rfl, r123_0⟩ := q123
      rcases r123_0 with ⟨hE0, hz123⟩ | ⟨hE0, hz123⟩
      · subst hz123
        show G_ 14 _ [(.int (-1 : Int32))]
        refine gy (fun t k => sI X123 J 8 rfl #[vr va, vr vb, vi 1, vi 1, vi 1, vi (-1 : Int32)] (iL X123 J 9 rfl rfl (fN X123 J 10 rfl ((if0 _ _).trans (tlt (by decide)).2.1) (iN X123 J 11 rfl rfl (iN X123 J 12 rfl rfl (oS X123 J 13 rfl (0 : Int32) (jG X123 J 14 rfl 40 k))))))) ?_
        exact rI X123 hret hlk hPf J 15 ⟨⟨(0 : Int32), rfl, (by have z := (own_b8 gc0.1 gc0.2.1 gd0.1 gd0.2.1).mp hE0; subst z; exact own_cre (by omega))⟩, rfl, e123⟩
      · subst hz123
        show G_ 14 _ [(.int 0)]
        refine gy (fun t k => sI X123 J 8 rfl #[vr va, vr vb, vi 1, vi 1, vi 1, vi 0] (iL X123 J 9 rfl rfl (fY X123 J 10 rfl ((if0 _ _).trans (flt (by decide)).2.1) 27 (aN X123 J 16 rfl rfl (iL X123 J 17 rfl rfl k))))) ?_
        refine own_cs (rmGC hw G _ ((0 : Int32)) _ _ _ ((c0.toInt8.toInt32)) _ _ O0 VA (by decide) (by decide) rfl) X123 J 18 283 284 17 285 e123 0 pd_1 (kP fun T124 v124 X124 e124 q124 => ?_)
        obtain rfl := q124
        show G_ 33 _ [(.int ((c0.toInt8.toInt32) &&& (255 : Int32)))]
        refine gy (fun t k => aN X124 J 19 rfl rfl (iL X124 J 20 rfl rfl k)) ?_
        refine own_cs (rmGC hw G _ ((0 : Int32)) _ _ _ ((d0.toInt8.toInt32)) _ _ O0 VB (by decide) (by decide) rfl) X124 J 21 283 284 17 285 e124 1 pd_1 (kP fun T125 v125 X125 e125 q125 => ?_)
        obtain rfl := q125
        show G_ 39 _ [(.int ((d0.toInt8.toInt32) &&& (255 : Int32))), (.int ((c0.toInt8.toInt32) &&& (255 : Int32)))]
        refine gy (fun t k => oS X125 J 22 rfl (((c0.toInt8.toInt32) &&& (255 : Int32)) - ((d0.toInt8.toInt32) &&& (255 : Int32))) k) ?_
        exact rI X125 hret hlk hPf J 15 ⟨⟨(((c0.toInt8.toInt32) &&& (255 : Int32)) - ((d0.toInt8.toInt32) &&& (255 : Int32))), rfl, (by rw [own_u8 gc0.1 gc0.2.1, own_u8 gd0.1 gd0.2.1]; exact own_cr0 (x := 0) (y := 0) oc0 od0 (by omega) (by omega) (by omega) (by omega) (fun q => hE0 ((own_b8 gc0.1 gc0.2.1 gd0.1 gd0.2.1).mpr q)))⟩, rfl, e125⟩
    · have oc0 := own_bd gc0.1 gc0.2.1
      have od0 := own_bd gd0.1 gd0.2.1
      have od1 := own_bd gd1.1 gd1.2.1
      refine gy (fun t k => iN X0 J 0 rfl rfl (iN X0 J 1 rfl rfl k)) ?_
      refine own_cs (rmMi hw G ((1 : Int32)) ((2 : Int32)) _ _ O0 ) X0 J 2 410 411 412 413 e0 0 pd_17 (kP fun T126 v126 X126 e126 q126 => ?_)
      obtain ⟨r_126, rfl, r126_0⟩ := q126
      obtain rfl : r_126 = (1 : Int32) := by rcases r126_0 with ⟨h1, h2⟩ | ⟨h1, h2⟩ <;> first | exact h2 | exact absurd h1 (by decide)
      show G_ 5 _ [(.int 1)]
      refine gy (fun t k => sI X126 J 3 rfl #[vr va, vr vb, vi 1, vi 2, vi 1, .unset] (aN X126 J 4 rfl rfl (aN X126 J 5 rfl rfl (iL X126 J 6 rfl rfl k)))) ?_
      refine own_cs (rmMs_1 hw G _ _ _ _ _ _ _ _ ((c0.toInt8.toInt32)) ((d0.toInt8.toInt32)) _ _ O0 VA VB (by decide) (by decide) rfl rfl) X126 J 7 414 415 358 416 e126 0 pd_18 (kP fun T127 v127 X127 e127 q127 => ?_)
      obtain ⟨r_127, rfl, r127_0⟩ := q127
      rcases r127_0 with ⟨hE0, hz127⟩ | ⟨hE0, hz127⟩
      · subst hz127
        show G_ 14 _ [(.int (-1 : Int32))]
        refine gy (fun t k => sI X127 J 8 rfl #[vr va, vr vb, vi 1, vi 2, vi 1, vi (-1 : Int32)] (iL X127 J 9 rfl rfl (fN X127 J 10 rfl ((if0 _ _).trans (tlt (by decide)).2.1) (iN X127 J 11 rfl rfl (iN X127 J 12 rfl rfl (oS X127 J 13 rfl (-1 : Int32) (jG X127 J 14 rfl 40 k))))))) ?_
        exact rI X127 hret hlk hPf J 15 ⟨⟨(-1 : Int32), rfl, (by have z := (own_b8 gc0.1 gc0.2.1 gd0.1 gd0.2.1).mp hE0; subst z; exact own_crl (by omega))⟩, rfl, e127⟩
      · subst hz127
        show G_ 14 _ [(.int 0)]
        refine gy (fun t k => sI X127 J 8 rfl #[vr va, vr vb, vi 1, vi 2, vi 1, vi 0] (iL X127 J 9 rfl rfl (fY X127 J 10 rfl ((if0 _ _).trans (flt (by decide)).2.1) 27 (aN X127 J 16 rfl rfl (iL X127 J 17 rfl rfl k))))) ?_
        refine own_cs (rmGC hw G _ ((0 : Int32)) _ _ _ ((c0.toInt8.toInt32)) _ _ O0 VA (by decide) (by decide) rfl) X127 J 18 283 284 17 285 e127 0 pd_1 (kP fun T128 v128 X128 e128 q128 => ?_)
        obtain rfl := q128
        show G_ 33 _ [(.int ((c0.toInt8.toInt32) &&& (255 : Int32)))]
        refine gy (fun t k => aN X128 J 19 rfl rfl (iL X128 J 20 rfl rfl k)) ?_
        refine own_cs (rmGC hw G _ ((0 : Int32)) _ _ _ ((d0.toInt8.toInt32)) _ _ O0 VB (by decide) (by decide) rfl) X128 J 21 283 284 17 285 e128 1 pd_1 (kP fun T129 v129 X129 e129 q129 => ?_)
        obtain rfl := q129
        show G_ 39 _ [(.int ((d0.toInt8.toInt32) &&& (255 : Int32))), (.int ((c0.toInt8.toInt32) &&& (255 : Int32)))]
        refine gy (fun t k => oS X129 J 22 rfl (((c0.toInt8.toInt32) &&& (255 : Int32)) - ((d0.toInt8.toInt32) &&& (255 : Int32))) k) ?_
        exact rI X129 hret hlk hPf J 15 ⟨⟨(((c0.toInt8.toInt32) &&& (255 : Int32)) - ((d0.toInt8.toInt32) &&& (255 : Int32))), rfl, (by rw [own_u8 gc0.1 gc0.2.1, own_u8 gd0.1 gd0.2.1]; exact own_cr0 (x := 0) (y := 1 + d1.toInt) oc0 od0 (by omega) (by omega) (by omega) (by omega) (fun q => hE0 ((own_b8 gc0.1 gc0.2.1 gd0.1 gd0.2.1).mpr q)))⟩, rfl, e129⟩
  · rcases hKb with ⟨d0, gd0, rfl, rfl, ed0⟩ | ⟨d0, d1, gd0, gd1, rfl, rfl, ed0⟩
    · have oc0 := own_bd gc0.1 gc0.2.1
      have oc1 := own_bd gc1.1 gc1.2.1
      have od0 := own_bd gd0.1 gd0.2.1
      refine gy (fun t k => iN X0 J 0 rfl rfl (iN X0 J 1 rfl rfl k)) ?_
      refine own_cs (rmMi hw G ((2 : Int32)) ((1 : Int32)) _ _ O0 ) X0 J 2 410 411 412 413 e0 0 pd_17 (kP fun T130 v130 X130 e130 q130 => ?_)
      obtain ⟨r_130, rfl, r130_0⟩ := q130
      obtain rfl : r_130 = (1 : Int32) := by rcases r130_0 with ⟨h1, h2⟩ | ⟨h1, h2⟩ <;> first | exact h2 | exact absurd h1 (by decide)
      show G_ 5 _ [(.int 1)]
      refine gy (fun t k => sI X130 J 3 rfl #[vr va, vr vb, vi 2, vi 1, vi 1, .unset] (aN X130 J 4 rfl rfl (aN X130 J 5 rfl rfl (iL X130 J 6 rfl rfl k)))) ?_
      refine own_cs (rmMs_1 hw G _ _ _ _ _ _ _ _ ((c0.toInt8.toInt32)) ((d0.toInt8.toInt32)) _ _ O0 VA VB (by decide) (by decide) rfl rfl) X130 J 7 414 415 358 416 e130 0 pd_18 (kP fun T131 v131 X131 e131 q131 => ?_)
      obtain ⟨r_131, rfl, r131_0⟩ := q131
      rcases r131_0 with ⟨hE0, hz131⟩ | ⟨hE0, hz131⟩
      · subst hz131
        show G_ 14 _ [(.int (-1 : Int32))]
        refine gy (fun t k => sI X131 J 8 rfl #[vr va, vr vb, vi 2, vi 1, vi 1, vi (-1 : Int32)] (iL X131 J 9 rfl rfl (fN X131 J 10 rfl ((if0 _ _).trans (tlt (by decide)).2.1) (iN X131 J 11 rfl rfl (iN X131 J 12 rfl rfl (oS X131 J 13 rfl (1 : Int32) (jG X131 J 14 rfl 40 k))))))) ?_
        exact rI X131 hret hlk hPf J 15 ⟨⟨(1 : Int32), rfl, (by have z := (own_b8 gc0.1 gc0.2.1 gd0.1 gd0.2.1).mp hE0; subst z; exact own_crg (by omega))⟩, rfl, e131⟩
      · subst hz131
        show G_ 14 _ [(.int 0)]
        refine gy (fun t k => sI X131 J 8 rfl #[vr va, vr vb, vi 2, vi 1, vi 1, vi 0] (iL X131 J 9 rfl rfl (fY X131 J 10 rfl ((if0 _ _).trans (flt (by decide)).2.1) 27 (aN X131 J 16 rfl rfl (iL X131 J 17 rfl rfl k))))) ?_
        refine own_cs (rmGC hw G _ ((0 : Int32)) _ _ _ ((c0.toInt8.toInt32)) _ _ O0 VA (by decide) (by decide) rfl) X131 J 18 283 284 17 285 e131 0 pd_1 (kP fun T132 v132 X132 e132 q132 => ?_)
        obtain rfl := q132
        show G_ 33 _ [(.int ((c0.toInt8.toInt32) &&& (255 : Int32)))]
        refine gy (fun t k => aN X132 J 19 rfl rfl (iL X132 J 20 rfl rfl k)) ?_
        refine own_cs (rmGC hw G _ ((0 : Int32)) _ _ _ ((d0.toInt8.toInt32)) _ _ O0 VB (by decide) (by decide) rfl) X132 J 21 283 284 17 285 e132 1 pd_1 (kP fun T133 v133 X133 e133 q133 => ?_)
        obtain rfl := q133
        show G_ 39 _ [(.int ((d0.toInt8.toInt32) &&& (255 : Int32))), (.int ((c0.toInt8.toInt32) &&& (255 : Int32)))]
        refine gy (fun t k => oS X133 J 22 rfl (((c0.toInt8.toInt32) &&& (255 : Int32)) - ((d0.toInt8.toInt32) &&& (255 : Int32))) k) ?_
        exact rI X133 hret hlk hPf J 15 ⟨⟨(((c0.toInt8.toInt32) &&& (255 : Int32)) - ((d0.toInt8.toInt32) &&& (255 : Int32))), rfl, (by rw [own_u8 gc0.1 gc0.2.1, own_u8 gd0.1 gd0.2.1]; exact own_cr0 (x := 1 + c1.toInt) (y := 0) oc0 od0 (by omega) (by omega) (by omega) (by omega) (fun q => hE0 ((own_b8 gc0.1 gc0.2.1 gd0.1 gd0.2.1).mpr q)))⟩, rfl, e133⟩
    · have oc0 := own_bd gc0.1 gc0.2.1
      have oc1 := own_bd gc1.1 gc1.2.1
      have od0 := own_bd gd0.1 gd0.2.1
      have od1 := own_bd gd1.1 gd1.2.1
      refine gy (fun t k => iN X0 J 0 rfl rfl (iN X0 J 1 rfl rfl k)) ?_
      refine own_cs (rmMi hw G ((2 : Int32)) ((2 : Int32)) _ _ O0 ) X0 J 2 410 411 412 413 e0 0 pd_17 (kP fun T134 v134 X134 e134 q134 => ?_)
      obtain ⟨r_134, rfl, r134_0⟩ := q134
      obtain rfl : r_134 = (2 : Int32) := by rcases r134_0 with ⟨h1, h2⟩ | ⟨h1, h2⟩ <;> first | exact h2 | exact absurd h1 (by decide)
      show G_ 5 _ [(.int 2)]
      refine gy (fun t k => sI X134 J 3 rfl #[vr va, vr vb, vi 2, vi 2, vi 2, .unset] (aN X134 J 4 rfl rfl (aN X134 J 5 rfl rfl (iL X134 J 6 rfl rfl k)))) ?_
      refine own_cs (rmMs_2 hw G _ _ _ _ _ _ _ _ ((c0.toInt8.toInt32)) ((c1.toInt8.toInt32)) ((d0.toInt8.toInt32)) ((d1.toInt8.toInt32)) _ _ O0 VA VB (by decide) (by decide) (by decide) (by decide) rfl rfl rfl rfl) X134 J 7 414 415 358 416 e134 0 pd_18 (kP fun T135 v135 X135 e135 q135 => ?_)
      obtain ⟨r_135, rfl, r135_0⟩ := q135
      rcases r135_0 with ⟨hE0, hE1, hz135⟩ | ⟨hE0, hz135⟩ | ⟨hE0, hE1, hz135⟩
      · subst hz135
        show G_ 14 _ [(.int (-1 : Int32))]
        refine gy (fun t k => sI X135 J 8 rfl #[vr va, vr vb, vi 2, vi 2, vi 2, vi (-1 : Int32)] (iL X135 J 9 rfl rfl (fN X135 J 10 rfl ((if0 _ _).trans (tlt (by decide)).2.1) (iN X135 J 11 rfl rfl (iN X135 J 12 rfl rfl (oS X135 J 13 rfl (0 : Int32) (jG X135 J 14 rfl 40 k))))))) ?_
        exact rI X135 hret hlk hPf J 15 ⟨⟨(0 : Int32), rfl, (by have z := (own_b8 gc0.1 gc0.2.1 gd0.1 gd0.2.1).mp hE0; subst z; have z := (own_b8 gc1.1 gc1.2.1 gd1.1 gd1.2.1).mp hE1; subst z; exact own_cre (by omega))⟩, rfl, e135⟩
      · subst hz135
        show G_ 14 _ [(.int 0)]
        refine gy (fun t k => sI X135 J 8 rfl #[vr va, vr vb, vi 2, vi 2, vi 2, vi 0] (iL X135 J 9 rfl rfl (fY X135 J 10 rfl ((if0 _ _).trans (flt (by decide)).2.1) 27 (aN X135 J 16 rfl rfl (iL X135 J 17 rfl rfl k))))) ?_
        refine own_cs (rmGC hw G _ ((0 : Int32)) _ _ _ ((c0.toInt8.toInt32)) _ _ O0 VA (by decide) (by decide) rfl) X135 J 18 283 284 17 285 e135 0 pd_1 (kP fun T136 v136 X136 e136 q136 => ?_)
        obtain rfl := q136
        show G_ 33 _ [(.int ((c0.toInt8.toInt32) &&& (255 : Int32)))]
        refine gy (fun t k => aN X136 J 19 rfl rfl (iL X136 J 20 rfl rfl k)) ?_
        refine own_cs (rmGC hw G _ ((0 : Int32)) _ _ _ ((d0.toInt8.toInt32)) _ _ O0 VB (by decide) (by decide) rfl) X136 J 21 283 284 17 285 e136 1 pd_1 (kP fun T137 v137 X137 e137 q137 => ?_)
        obtain rfl := q137
        show G_ 39 _ [(.int ((d0.toInt8.toInt32) &&& (255 : Int32))), (.int ((c0.toInt8.toInt32) &&& (255 : Int32)))]
        refine gy (fun t k => oS X137 J 22 rfl (((c0.toInt8.toInt32) &&& (255 : Int32)) - ((d0.toInt8.toInt32) &&& (255 : Int32))) k) ?_
        exact rI X137 hret hlk hPf J 15 ⟨⟨(((c0.toInt8.toInt32) &&& (255 : Int32)) - ((d0.toInt8.toInt32) &&& (255 : Int32))), rfl, (by rw [own_u8 gc0.1 gc0.2.1, own_u8 gd0.1 gd0.2.1]; exact own_cr0 (x := 1 + c1.toInt) (y := 1 + d1.toInt) oc0 od0 (by omega) (by omega) (by omega) (by omega) (fun q => hE0 ((own_b8 gc0.1 gc0.2.1 gd0.1 gd0.2.1).mpr q)))⟩, rfl, e137⟩
      · subst hz135
        show G_ 14 _ [(.int 1)]
        refine gy (fun t k => sI X135 J 8 rfl #[vr va, vr vb, vi 2, vi 2, vi 2, vi 1] (iL X135 J 9 rfl rfl (fY X135 J 10 rfl ((if0 _ _).trans (flt (by decide)).2.1) 27 (aN X135 J 16 rfl rfl (iL X135 J 17 rfl rfl k))))) ?_
        refine own_cs (rmGC hw G _ ((1 : Int32)) _ _ _ ((c1.toInt8.toInt32)) _ _ O0 VA (by decide) (by decide) rfl) X135 J 18 283 284 17 285 e135 0 pd_1 (kP fun T138 v138 X138 e138 q138 => ?_)
        obtain rfl := q138
        show G_ 33 _ [(.int ((c1.toInt8.toInt32) &&& (255 : Int32)))]
        refine gy (fun t k => aN X138 J 19 rfl rfl (iL X138 J 20 rfl rfl k)) ?_
        refine own_cs (rmGC hw G _ ((1 : Int32)) _ _ _ ((d1.toInt8.toInt32)) _ _ O0 VB (by decide) (by decide) rfl) X138 J 21 283 284 17 285 e138 1 pd_1 (kP fun T139 v139 X139 e139 q139 => ?_)
        obtain rfl := q139
        show G_ 39 _ [(.int ((d1.toInt8.toInt32) &&& (255 : Int32))), (.int ((c1.toInt8.toInt32) &&& (255 : Int32)))]
        refine gy (fun t k => oS X139 J 22 rfl (((c1.toInt8.toInt32) &&& (255 : Int32)) - ((d1.toInt8.toInt32) &&& (255 : Int32))) k) ?_
        exact rI X139 hret hlk hPf J 15 ⟨⟨(((c1.toInt8.toInt32) &&& (255 : Int32)) - ((d1.toInt8.toInt32) &&& (255 : Int32))), rfl, (by rw [own_u8 gc1.1 gc1.2.1, own_u8 gd1.1 gd1.2.1]; have z := (own_b8 gc0.1 gc0.2.1 gd0.1 gd0.2.1).mp hE0; subst z; exact own_cr1 (k := 257 * c0.toInt + 1) oc1 od1 (by omega) (by omega))⟩, rfl, e139⟩
theorem pd_19 : parseMethodDescriptor "([B[BII)I" = some ⟨[(.array .byte), (.array .byte), .int, .int], some .int⟩ := by decide +kernel
def L64 : List (Nat × Instr × Nat) := [(0, a_0), (1, .arraylength, 1), (2, .istore_n 2, 1), (3, a_1), (4, .arraylength, 1), (5, .istore_n 3, 1), (6, a_0), (7, a_1), (8, i_2), (9, i_3), (10, .invokestatic 34, 3), (13, .ireturn, 1)]
theorem d64 : ∀ q ∈ L64, decode jdk_43_method_14_code q.1 = .ok q.2 := by decide +kernel
def QrmC2 (kya : Int) (kyb : Int) (v : Option Value) : Prop := ∃ (r : Int32), (v = some (.int r)) ∧ (CR r kya kyb)
abbrev own_y27 : MethodName := ⟨S_18, "compareTo", "([B[B)I"⟩
theorem rmC2 (hw : HW a0 Z) (G : Gh Z vcs wI wA cA vF wP wD kD wE kE mT mU mL mO) (va : Addr) (vb : Addr) (ka : ClassId) (zn : Int32) (vsx : (List Value)) (kb : ClassId) (znb : Int32) (vsb : (List Value)) (kya : Int) (kyb : Int) (h0 : Heap) (n0 : Nat) (O0 : Old Z n0 h0) (VA : Arv Z h0 va ka .byte zn vsx (.int 0)) (VB : Arv Z h0 vb kb .byte znb vsb (.int 0)) (hKn : Kn zn vsx kya) (hKb : Kn znb vsb kyb) :
    MM l Z own_y27 jdk_43_method_14_code 4 (some .int) ws (Rm 2 0 0 32) #[(.ref va), (.ref vb)] h0 (QP h0 (QrmC2 kya kyb)) := by
  refine own_go hw (plainFor_of_name pn_42) #[vr va, vr vb, .unset, .unset] (fun p e s m below meth c s₁ Pf hx hby hlk hown hnm hret hml hZ hh X0 e0 hPf Jf => ?_)
  have J := Jf d64
  refine gy (fun t k => aN X0 J 0 rfl rfl k) ?_
  refine Go.by' (fun t k => own_alen X0 hx hZ e0 VA rfl rfl (jd J 1 rfl) k) ?_
  show G_ 2 #[vr va, vr vb, .unset, .unset] [(.int zn)]
  refine gy (fun t k => sIN X0 J 2 rfl #[vr va, vr vb, vi zn, .unset] (aN X0 J 3 rfl rfl k)) ?_
  refine Go.by' (fun t k => own_alen X0 hx hZ e0 VB rfl rfl (jd J 4 rfl) k) ?_
  show G_ 5 #[vr va, vr vb, vi zn, .unset] [(.int znb)]
  refine gy (fun t k => sIN X0 J 5 rfl #[vr va, vr vb, vi zn, vi znb] (aN X0 J 6 rfl rfl (aN X0 J 7 rfl rfl (iN X0 J 8 rfl rfl (iN X0 J 9 rfl rfl k))))) ?_
  refine own_cs (rmC4 hw G _ _ _ _ _ _ _ _ kya kyb _ _ O0 VA VB hKn hKb) X0 J 10 407 408 17 409 e0 0 pd_19 (kP fun T142 v142 X142 e142 q142 => ?_)
  obtain ⟨r_142, rfl, r142_0⟩ := q142
  show G_ 13 _ [(.int r_142)]
  exact rI X142 hret hlk hPf J 11 ⟨⟨r_142, rfl, r142_0⟩, rfl, e142⟩
def L63 : List (Nat × Instr × Nat) := [(0, a_0), (1, .getfield 9, 3), (4, .astore_n 2, 1), (5, a_1), (6, .getfield 9, 3), (9, .astore_n 3, 1), (10, a_0), (11, .invokevirtual 335, 3), (14, .istore 4, 2), (16, .iload 4, 2), (18, a_1), (19, .invokevirtual 335, 3), (22, .if_icmp .ne 22, 3), (25, .iload 4, 2), (27, .ifCond .ne 11, 3), (30, a_2), (31, a_3), (32, .invokestatic 586, 3), (35, .goto 8, 3), (43, .ireturn, 1)]
theorem d63 : ∀ q ∈ L63, decode jdk_42_method_71_code q.1 = .ok q.2 := by decide +kernel
def QrmCs (kya : Int) (kyb : Int) (v : Option Value) : Prop := ∃ (r : Int32), (v = some (.int r)) ∧ (CR r kya kyb)
abbrev own_y28 : MethodName := ⟨S_3, "compareTo", "(Ljava/lang/String;)I"⟩
theorem rmCs (hw : HW a0 Z) (G : Gh Z vcs wI wA cA vF wP wD kD wE kE mT mU mL mO) (sa : Addr) (sb : Addr) (kya : Int) (kyb : Int) (h0 : Heap) (n0 : Nat) (O0 : Old Z n0 h0) (SKa : SK Z h0 sa kya) (SKb : SK Z h0 sb kyb) :
    MM l Z own_y28 jdk_42_method_71_code 5 (some .int) ws (Rm 3 0 0 47) #[(.ref sa), (.ref sb)] h0 (QP h0 (QrmCs kya kyb)) := by
  refine own_go hw (plainFor_of_name pn_39) #[vr sa, vr sb, .unset, .unset, .unset] (fun p e s m below meth c s₁ Pf hx hby hlk hown hnm hret hml hZ hh X0 e0 hPf Jf => ?_)
  have J := Jf d63
  obtain ⟨va, ka, zn, vsx, EA, FA, CA, VA, hKn⟩ := (id SKa)
  obtain ⟨vb, kb, znb, vsb, EB, FB, CB, VB, hKb⟩ := (id SKb)
  refine gy (fun t k => aN X0 J 0 rfl rfl k) ?_
  refine own_gf X0 J 1 32 Via.refl e0 FA (fun T143 X143 e143 => ?_)
  refine gy (fun t k => sAN X143 J 2 rfl #[vr sa, vr sb, vr va, .unset, .unset] (aN X143 J 3 rfl rfl k)) ?_
  refine own_gf X143 J 4 32 Via.refl e143 FB (fun T144 X144 e144 => ?_)
  refine gy (fun t k => sAN X144 J 5 rfl #[vr sa, vr sb, vr va, vr vb, .unset] (aN X144 J 6 rfl rfl k)) ?_
  refine own_cv (rmCo hw G _ _ _ O0 CA) X144 J 7 329 330 332 331 12 333 e144 SKa.exa 0 pd_6 (kP fun T145 v145 X145 e145 q145 => ?_)
  obtain rfl := q145
  show G_ 14 _ [(.int 0)]
  refine gy (fun t k => sI X145 J 8 rfl #[vr sa, vr sb, vr va, vr vb, vi 0] (iL X145 J 9 rfl rfl (aN X145 J 10 rfl rfl k))) ?_
  refine own_cv (rmCo hw G _ _ _ O0 CB) X145 J 11 329 330 332 331 12 333 e145 SKb.exa 1 pd_6 (kP fun T146 v146 X146 e146 q146 => ?_)
  obtain rfl := q146
  show G_ 22 _ [(.int 0), (.int 0)]
  refine gy (fun t k => cN X146 J 12 rfl (teq (by decide)).2 (iL X146 J 13 rfl rfl (fN X146 J 14 rfl ((if0 _ _).trans (teq (by decide)).2) (aN X146 J 15 rfl rfl (aN X146 J 16 rfl rfl k))))) ?_
  refine own_cs (rmC2 hw G _ _ _ _ _ _ _ _ kya kyb _ _ O0 VA VB hKn hKb) X146 J 17 404 405 17 406 e146 0 pd_8 (kP fun T147 v147 X147 e147 q147 => ?_)
  obtain ⟨r_147, rfl, r147_0⟩ := q147
  show G_ 35 _ [(.int r_147)]
  refine gy (fun t k => jG X147 J 18 rfl 43 k) ?_
  exact rI X147 hret hlk hPf J 19 ⟨⟨r_147, rfl, r147_0⟩, rfl, e147⟩
def L62 : List (Nat × Instr × Nat) := [(0, a_0), (1, a_1), (2, .checkcast 10, 3), (5, .invokevirtual 1084, 3), (8, .ireturn, 1)]
theorem d62 : ∀ q ∈ L62, decode jdk_42_method_162_code q.1 = .ok q.2 := by decide +kernel
def QrmCb (kya : Int) (kyb : Int) (v : Option Value) : Prop := ∃ (r : Int32), (v = some (.int r)) ∧ (CR r kya kyb)
abbrev own_y29 : MethodName := ⟨S_3, "compareTo", "(Ljava/lang/Object;)I"⟩
theorem rmCb (hw : HW a0 Z) (G : Gh Z vcs wI wA cA vF wP wD kD wE kE mT mU mL mO) (sa : Addr) (sb : Addr) (kya : Int) (kyb : Int) (h0 : Heap) (n0 : Nat) (O0 : Old Z n0 h0) (SKa : SK Z h0 sa kya) (SKb : SK Z h0 sb kyb) :
    MM l Z own_y29 jdk_42_method_162_code 2 (some .int) ws (Rm 4 0 0 63) #[(.ref sa), (.ref sb)] h0 (QP h0 (QrmCb kya kyb)) := by
  refine own_go hw (plainFor_of_name pn_39) #[vr sa, vr sb] (fun p e s m below meth c s₁ Pf hx hby hlk hown hnm hret hml hZ hh X0 e0 hPf Jf => ?_)
  have J := Jf d62
  refine gy (fun t k => aN X0 J 0 rfl rfl (aN X0 J 1 rfl rfl k)) ?_
  refine own_cc X0 J 2 19 e0 (Ins.self SKb.exa) (fun T148 X148 e148 => ?_)
  refine own_cv (rmCs hw G _ _ _ _ _ _ O0 SKa SKb) X148 J 3 399 400 402 401 12 403 e148 SKa.exa 0 pd_10 (kP fun T149 v149 X149 e149 q149 => ?_)
  obtain ⟨r_149, rfl, r149_0⟩ := q149
  show G_ 8 _ [(.int r_149)]
  exact rI X149 hret hlk hPf J 4 ⟨⟨r_149, rfl, r149_0⟩, rfl, e149⟩
theorem pn_87 : plainName "jdk/internal/util/Preconditions" = true := by first | (simp [plainName, overriddenIn]; done) | decide +kernel
def L87 : List (Nat × Instr × Nat) := [(0, i_0), (1, .ifCond .lt 8, 3), (4, i_0), (5, i_1), (6, .if_icmp .lt 10, 3), (16, i_0), (17, .ireturn, 1)]
theorem d87 : ∀ q ∈ L87, decode jdk_41_method_11_code q.1 = .ok q.2 := by decide +kernel
def QrmPC (ix : Int32) (v : Option Value) : Prop := (v = some (.int ix))
abbrev own_y30 : MethodName := ⟨"jdk/internal/util/Preconditions", "checkIndex", "(IILjava/util/function/BiFunction;)I"⟩
theorem rmPC (hw : HW a0 Z) (G : Gh Z vcs wI wA cA vF wP wD kD wE kE mT mU mL mO) (ix : Int32) (zn : Int32) (fm : Value) (h0 : Heap) (n0 : Nat) (O0 : Old Z n0 h0) (hU_fm : fm.isRef = true) (hi0 : ¬ (ix < (0 : Int32))) (hi1 : ix < zn) :
    MM l Z own_y30 jdk_41_method_11_code 3 (some .int) ws (Rm 0 0 0 0) #[(.int ix), (.int zn), fm] h0 (QP h0 (QrmPC ix)) := by
  refine own_go hw (plainFor_of_name pn_87) #[vi ix, vi zn, .val fm] (fun p e s m below meth c s₁ Pf hx hby hlk hown hnm hret hml hZ hh X0 e0 hPf Jf => ?_) (by intro m; rcases ref_cases hU_fm with rfl | ⟨_, rfl⟩ <;> first | (simp [entryFrame, mkF, argsToLocals, Value.category]; done) | rfl)
  have J := Jf d87
  refine gy (fun t k => iN X0 J 0 rfl rfl (fN X0 J 1 rfl ((if0 _ _).trans (flt hi0).1) (iN X0 J 2 rfl rfl (iN X0 J 3 rfl rfl (cY X0 J 4 rfl (tlt hi1).1 16 (iN X0 J 5 rfl rfl k)))))) ?_
  exact rI X0 hret hlk hPf J 6 ⟨rfl, rfl, e0⟩
theorem pd_20 : parseMethodDescriptor "(IILjava/util/function/BiFunction;)I" = some ⟨[.int, .int, (.object "java/util/function/BiFunction")], some .int⟩ := by decide +kernel
def L86 : List (Nat × Instr × Nat) := [(0, i_0), (1, i_1), (2, .getstatic 1053, 3), (5, .invokestatic 1059, 3), (8, .pop, 1), (9, .return_, 1)]
theorem d86 : ∀ q ∈ L86, decode jdk_42_method_155_code q.1 = .ok q.2 := by decide +kernel
def QrmCI (v : Option Value) : Prop := (v = none)
abbrev own_y31 : MethodName := ⟨S_3, "checkIndex", "(II)V"⟩
theorem rmCI (hw : HW a0 Z) (G : Gh Z vcs wI wA cA vF wP wD kD wE kE mT mU mL mO) (ix : Int32) (zn : Int32) (h0 : Heap) (n0 : Nat) (O0 : Old Z n0 h0) (hi0 : ¬ (ix < (0 : Int32))) (hi1 : ix < zn) :
    MM l Z own_y31 jdk_42_method_155_code 2 none ws (Rm 1 0 0 14) #[(.int ix), (.int zn)] h0 (QP h0 QrmCI) := by
  refine own_go hw (plainFor_of_name pn_39) #[vi ix, vi zn] (fun p e s m below meth c s₁ Pf hx hby hlk hown hnm hret hml hZ hh X0 e0 hPf Jf => ?_)
  have J := Jf d86
  refine gy (fun t k => iN X0 J 0 rfl rfl (iN X0 J 1 rfl rfl k)) ?_
  refine own_gs X0 J 2 531 Via.refl e0 (G.2.2.2.2.2.2.1.ext O0.2) (fun T150 X150 e150 => ?_)
  refine own_cs (rmPC hw G ix zn vF _ _ O0 G.2.2.2.2.2.2.2.1 hi0 hi1) X150 J 3 533 534 532 535 e150 0 pd_20 (kP fun T151 v151 X151 e151 q151 => ?_)
  obtain rfl := q151
  show G_ 8 _ [(.int ix)]
  refine gy (fun t k => oQ X151 J 4 rfl k) ?_
  exact rV X151 hret hlk hPf J 5 ⟨rfl, rfl, e151⟩
theorem pd_21 : parseMethodDescriptor "(II)V" = some ⟨[.int, .int], none⟩ := by decide +kernel
def L85 : List (Nat × Instr × Nat) := [(0, i_1), (1, a_0), (2, .arraylength, 1), (3, .invokestatic 9, 3), (6, a_0), (7, i_1), (8, .baload, 1), (9, .sipush 255, 3), (12, .iand, 1), (13, .i2c, 1), (14, .ireturn, 1)]
theorem d85 : ∀ q ∈ L85, decode jdk_43_method_2_code q.1 = .ok q.2 := by decide +kernel
def QrmLC (xe : Int32) (v : Option Value) : Prop := (v = some (.int (xe &&& (255 : Int32))))
abbrev own_y32 : MethodName := ⟨S_18, "charAt", "([BI)C"⟩
theorem rmLC (hw : HW a0 Z) (G : Gh Z vcs wI wA cA vF wP wD kD wE kE mT mU mL mO) (va : Addr) (ix : Int32) (ka : ClassId) (zn : Int32) (vsx : (List Value)) (xe : Int32) (h0 : Heap) (n0 : Nat) (O0 : Old Z n0 h0) (VA : Arv Z h0 va ka .byte zn vsx (.int 0)) (hi0 : ¬ (ix < (0 : Int32))) (hi1 : ix < zn) (hel : vsx.getD ix.toNatClampNeg (Value.int 0) = Value.int xe) :
    MM l Z own_y32 jdk_43_method_2_code 2 (some .char) ws (Rm 2 0 0 27) #[(.ref va), (.int ix)] h0 (QP h0 (QrmLC xe)) := by
  refine own_go hw (plainFor_of_name pn_42) #[vr va, vi ix] (fun p e s m below meth c s₁ Pf hx hby hlk hown hnm hret hml hZ hh X0 e0 hPf Jf => ?_)
  have J := Jf d85
  refine gy (fun t k => iN X0 J 0 rfl rfl (aN X0 J 1 rfl rfl k)) ?_
  refine Go.by' (fun t k => own_alen X0 hx hZ e0 VA rfl rfl (jd J 2 rfl) k) ?_
  show G_ 3 #[vr va, vi ix] [(.int zn), (.int ix)]
  refine own_cs (rmCI hw G ix zn _ _ O0 hi0 hi1) X0 J 3 528 529 12 530 e0 0 pd_21 (kP fun T153 v153 X153 e153 q153 => ?_)
  obtain rfl := q153
  show G_ 6 _ []
  refine gy (fun t k => aN X153 J 4 rfl rfl (iN X153 J 5 rfl rfl k)) ?_
  refine Go.by' (fun t k => own_bal X153 hx hZ e153 VA (j := ix) (v := (.int xe)) ⟨hi0, hi1⟩ hel rfl rfl (jd J 6 rfl) k) ?_
  refine Go.by' (fun t k => XS.sipush X153.here hx rfl (jd J 7 rfl) k) ?_
  show G_ 12 #[vr va, vi ix] [(.int 255), (.int xe)]
  refine gy (fun t k => oD X153 J 8 rfl (xe &&& (255 : Int32)) k) ?_
  refine Go.by' (fun t k => XS.i2c X153.here hx rfl (jd J 9 rfl) rfl k) ?_
  show G_ 14 #[vr va, vi ix] [(.int ((xe &&& (255 : Int32)).toUInt32.toUInt16.toUInt32.toInt32))]
  refine Go.castF (a := ((xe &&& (255 : Int32)).toUInt32.toUInt16.toUInt32.toInt32)) (b := (xe &&& (255 : Int32))) (fun z' : Int32 => mkF m 14 #[vr va, vi ix] [(.int z')]) (i2c_mask _) ?_
  show G_ 14 #[vr va, vi ix] [(.int (xe &&& (255 : Int32)))]
  exact rI X153 hret hlk hPf J 10 ⟨rfl, rfl, e153⟩ (hn := (congrArg Value.int (i2c_mask _)))
def L84 : List (Nat × Instr × Nat) := [(0, a_0), (1, .invokevirtual 492, 3), (4, .ifCond .eq 12, 3), (7, a_0), (8, .getfield 9, 3), (11, i_1), (12, .invokestatic 495, 3), (15, .ireturn, 1)]
theorem d84 : ∀ q ∈ L84, decode jdk_42_method_56_code q.1 = .ok q.2 := by decide +kernel
def QrmSC (xe : Int32) (v : Option Value) : Prop := (v = some (.int (xe &&& (255 : Int32))))
abbrev own_y33 : MethodName := ⟨S_3, "charAt", "(I)C"⟩
theorem rmSC (hw : HW a0 Z) (G : Gh Z vcs wI wA cA vF wP wD kD wE kE mT mU mL mO) (sa : Addr) (ix : Int32) (va : Addr) (ka : ClassId) (zn : Int32) (vsx : (List Value)) (xe : Int32) (h0 : Heap) (n0 : Nat) (O0 : Old Z n0 h0) (EA : Exa Z h0 sa S_3) (FA : Fld Z h0 sa S_3 "value" "[B" (.ref va)) (CA : Fld Z h0 sa S_3 "coder" "B" (.int 0)) (VA : Arv Z h0 va ka .byte zn vsx (.int 0)) (hi0 : ¬ (ix < (0 : Int32))) (hi1 : ix < zn) (hel : vsx.getD ix.toNatClampNeg (Value.int 0) = Value.int xe) :
    MM l Z own_y33 jdk_42_method_56_code 2 (some .char) ws (Rm 3 0 0 40) #[(.ref sa), (.int ix)] h0 (QP h0 (QrmSC xe)) := by
  refine own_go hw (plainFor_of_name pn_39) #[vr sa, vi ix] (fun p e s m below meth c s₁ Pf hx hby hlk hown hnm hret hml hZ hh X0 e0 hPf Jf => ?_)
  have J := Jf d84
  refine gy (fun t k => aN X0 J 0 rfl rfl k) ?_
  refine own_cv (rmSL hw G _ _ _ O0 CA) X0 J 1 272 273 275 274 12 276 e0 EA 0 pd_4 (kP fun T155 v155 X155 e155 q155 => ?_)
  obtain rfl := q155
  show G_ 4 _ [(.int 1)]
  refine gy (fun t k => fN X155 J 2 rfl ((if0 _ _).trans (feq (by decide)).1) (aN X155 J 3 rfl rfl k)) ?_
  refine own_gf X155 J 4 32 Via.refl e155 FA (fun T156 X156 e156 => ?_)
  refine gy (fun t k => iN X156 J 5 rfl rfl k) ?_
  refine own_cs (rmLC hw G _ ix _ _ _ xe _ _ O0 VA hi0 hi1 hel) X156 J 6 525 526 17 527 e156 0 pd_1 (kP fun T157 v157 X157 e157 q157 => ?_)
  obtain rfl := q157
  show G_ 15 _ [(.int (xe &&& (255 : Int32)))]
  exact rI X157 hret hlk hPf J 7 ⟨rfl, rfl, e157⟩ (hn := (congrArg Value.int (i2c_mask _)))
theorem own_kh {z : Int32} {vs : List Value} {ky : Int} (h : Kn z vs ky) : ∃ c d : Int32, G0 c ∧ (0 : Int32) < z ∧ vs.getD ((0 : Int32).toNatClampNeg) (Value.int 0) = Value.int (c.toInt8.toInt32) ∧ ((z = (1 : Int32) ∧ ky = 257 * c.toInt) ∨ (z = (2 : Int32) ∧ G1 d ∧ vs.getD ((1 : Int32).toNatClampNeg) (Value.int 0) = Value.int (d.toInt8.toInt32) ∧ ky = 257 * c.toInt + 1 + d.toInt)) := by
  rcases h with ⟨c, hc, rfl, rfl, e⟩ | ⟨c, d, hc, hd, rfl, rfl, e⟩
  · exact ⟨c, c, hc, by decide, rfl, Or.inl ⟨rfl, e⟩⟩
  · exact ⟨c, d, hc, by decide, rfl, Or.inr ⟨rfl, hd, rfl, e⟩⟩
theorem own_krng {c d : Int32} {z : Int32} {ky : Int} {P : Prop} (h : (z = (1 : Int32) ∧ ky = 257 * c.toInt) ∨ (z = (2 : Int32) ∧ G1 d ∧ P ∧ ky = 257 * c.toInt + 1 + d.toInt)) : ∃ x, ky = 257 * c.toInt + x ∧ 0 ≤ x ∧ x ≤ 256 := by
  rcases h with ⟨-, e⟩ | ⟨-, g, -, e⟩
  · exact ⟨0, by omega, by omega, by omega⟩
  · have := own_bd g.1 g.2.1
    exact ⟨1 + d.toInt, by omega, by omega, by omega⟩
theorem pd_22 : parseMethodDescriptor "(I)C" = some ⟨[.int], some .char⟩ := by decide +kernel
def L83 : List (Nat × Instr × Nat) := [(0, a_0), (1, .iconst 0, 1), (2, .invokevirtual 64, 3), (5, a_1), (6, .iconst 0, 1), (7, .invokevirtual 64, 3), (10, .isub, 1), (11, .istore_n 2, 1), (12, i_2), (13, .ifCond .eq 5, 3), (18, a_0), (19, .invokevirtual 67, 3), (22, .iconst 1, 1), (23, .if_icmp .ne 13, 3), (26, a_1), (27, .invokevirtual 67, 3), (30, .iconst 1, 1), (31, .if_icmp .ne 5, 3), (34, .iconst 0, 1), (35, .ireturn, 1), (36, a_0), (37, .invokevirtual 67, 3), (40, .iconst 1, 1), (41, .if_icmp .ne 5, 3), (44, .iconst (-1), 1), (45, .ireturn, 1), (46, a_1), (47, .invokevirtual 67, 3), (50, .iconst 1, 1), (51, .if_icmp .ne 5, 3), (54, .iconst 1, 1), (55, .ireturn, 1), (56, a_0), (57, .iconst 1, 1), (58, .invokevirtual 64, 3), (61, a_1), (62, .iconst 1, 1), (63, .invokevirtual 64, 3), (66, .isub, 1), (67, .ireturn, 1), (16, i_2), (17, .ireturn, 1)]
theorem d83 : ∀ q ∈ L83, decode method_7_code q.1 = .ok q.2 := by decide +kernel
def QrmCm (kya : Int) (kyb : Int) (v : Option Value) : Prop := ∃ (r : Int32), (v = some (.int r)) ∧ (CR r kya kyb)
abbrev own_y34 : MethodName := ⟨S_26, "cmp", "(Ljava/lang/String;Ljava/lang/String;)I"⟩
theorem rmCm (hw : HW a0 Z) (G : Gh Z vcs wI wA cA vF wP wD kD wE kE mT mU mL mO) (sa : Addr) (sb : Addr) (kya : Int) (kyb : Int) (h0 : Heap) (n0 : Nat) (O0 : Old Z n0 h0) (SKa : SK Z h0 sa kya) (SKb : SK Z h0 sb kyb) :
    MM l Z own_y34 method_7_code 3 (some .int) ws (Rm 4 0 0 54) #[(.ref sa), (.ref sb)] h0 (QP h0 (QrmCm kya kyb)) := by
  refine own_go hw (plainFor_of_name pn_3) #[vr sa, vr sb, .unset] (fun p e s m below meth c s₁ Pf hx hby hlk hown hnm hret hml hZ hh X0 e0 hPf Jf => ?_)
  have J := Jf d83
  obtain ⟨va, ka, zn, vsx, EA, FA, CA, VA, hKn⟩ := (id SKa)
  obtain ⟨vb, kb, znb, vsb, EB, FB, CB, VB, hKb⟩ := (id SKb)
  obtain ⟨c0, c1, gc0, hza, ha0, hA⟩ := own_kh hKn
  obtain ⟨d0, d1, gd0, hzb, hb0, hB⟩ := own_kh hKb
  have oc0 := own_bd gc0.1 gc0.2.1
  have od0 := own_bd gd0.1 gd0.2.1
  refine gy (fun t k => aN X0 J 0 rfl rfl (cI X0 J 1 rfl 0 k)) ?_
  refine own_cv (rmSC hw G _ ((0 : Int32)) _ _ _ _ ((c0.toInt8.toInt32)) _ _ O0 SKa.exa FA CA VA (by decide) hza ha0) X0 J 2 520 521 523 522 12 524 e0 SKa.exa 0 pd_22 (kP fun T158 v158 X158 e158 q158 => ?_)
  obtain rfl := q158
  refine Go.castF (a := ((c0.toInt8.toInt32) &&& (255 : Int32))) (b := c0) (fun z' : Int32 => mkF m 5 #[vr sa, vr sb, .unset] [(.int z')]) (own_u8 gc0.1 gc0.2.1) ?_
  show G_ 5 #[vr sa, vr sb, .unset] [(.int c0)]
  refine gy (fun t k => aN X158 J 3 rfl rfl (cI X158 J 4 rfl 0 k)) ?_
  refine own_cv (rmSC hw G _ ((0 : Int32)) _ _ _ _ ((d0.toInt8.toInt32)) _ _ O0 SKb.exa FB CB VB (by decide) hzb hb0) X158 J 5 520 521 523 522 12 524 e158 SKb.exa 1 pd_22 (kP fun T159 v159 X159 e159 q159 => ?_)
  obtain rfl := q159
  refine Go.castF (a := ((d0.toInt8.toInt32) &&& (255 : Int32))) (b := d0) (fun z' : Int32 => mkF m 10 #[vr sa, vr sb, .unset] [(.int z'), (.int c0)]) (own_u8 gd0.1 gd0.2.1) ?_
  show G_ 10 #[vr sa, vr sb, .unset] [(.int d0), (.int c0)]
  refine gy (fun t k => oS X159 J 6 rfl (c0 - d0) (sIN X159 J 7 rfl #[vr sa, vr sb, vi (c0 - d0)] (iN X159 J 8 rfl rfl k))) ?_
  by_cases hc160 : (c0 - d0) = (0 : Int32)
  · refine gy (fun t k => fY X159 J 9 rfl ((if0 _ _).trans (teq hc160).1) 18 k) ?_
    have hcd : c0 = d0 := by have := own_dif oc0 od0; rw [hc160] at this; have z0 : (0 : Int32).toInt = 0 := rfl; exact Int32.toInt_inj.mp (by omega)
    rcases hA with ⟨rfl, ec0⟩ | ⟨rfl, gc1, ha1, ec0⟩
    · rcases hB with ⟨rfl, ed0⟩ | ⟨rfl, gd1, hb1, ed0⟩
      · refine gy (fun t k => aN X159 J 10 rfl rfl k) ?_
        refine own_cv (rmLn hw G _ _ _ _ _ _ _ O0 SKa.exa FA CA VA) X159 J 11 600 352 354 353 12 355 e159 SKa.exa 0 pd_11 (kP fun T161 v161 X161 e161 q161 => ?_)
        obtain rfl := q161
        show G_ 22 _ [(.int 1)]
        refine gy (fun t k => cI X161 J 12 rfl 1 (cN X161 J 13 rfl (teq (by decide)).2 (aN X161 J 14 rfl rfl k))) ?_
        refine own_cv (rmLn hw G _ _ _ _ _ _ _ O0 SKb.exa FB CB VB) X161 J 15 600 352 354 353 12 355 e161 SKb.exa 0 pd_11 (kP fun T162 v162 X162 e162 q162 => ?_)
        obtain rfl := q162
        show G_ 30 _ [(.int 1)]
        refine gy (fun t k => cI X162 J 16 rfl 1 (cN X162 J 17 rfl (teq (by decide)).2 (cI X162 J 18 rfl 0 k))) ?_
        exact rI X162 hret hlk hPf J 19 ⟨⟨(0 : Int32), rfl, (by subst hcd; exact own_cre (by omega))⟩, rfl, e162⟩
      · have od1 := own_bd gd1.1 gd1.2.1
        refine gy (fun t k => aN X159 J 10 rfl rfl k) ?_
        refine own_cv (rmLn hw G _ _ _ _ _ _ _ O0 SKa.exa FA CA VA) X159 J 11 600 352 354 353 12 355 e159 SKa.exa 0 pd_11 (kP fun T163 v163 X163 e163 q163 => ?_)
        obtain rfl := q163
        show G_ 22 _ [(.int 1)]
        refine gy (fun t k => cI X163 J 12 rfl 1 (cN X163 J 13 rfl (teq (by decide)).2 (aN X163 J 14 rfl rfl k))) ?_
        refine own_cv (rmLn hw G _ _ _ _ _ _ _ O0 SKb.exa FB CB VB) X163 J 15 600 352 354 353 12 355 e163 SKb.exa 0 pd_11 (kP fun T164 v164 X164 e164 q164 => ?_)
        obtain rfl := q164
        show G_ 30 _ [(.int 2)]
        refine gy (fun t k => cI X164 J 16 rfl 1 (cY X164 J 17 rfl (feq (by decide)).2 36 (aN X164 J 20 rfl rfl k))) ?_
        refine own_cv (rmLn hw G _ _ _ _ _ _ _ O0 SKa.exa FA CA VA) X164 J 21 600 352 354 353 12 355 e164 SKa.exa 0 pd_11 (kP fun T165 v165 X165 e165 q165 => ?_)
        obtain rfl := q165
        show G_ 40 _ [(.int 1)]
        refine gy (fun t k => cI X165 J 22 rfl 1 (cN X165 J 23 rfl (teq (by decide)).2 (cI X165 J 24 rfl (-1) k))) ?_
        exact rI X165 hret hlk hPf J 25 ⟨⟨(-1 : Int32), rfl, (by subst hcd; exact own_crl (by omega))⟩, rfl, e165⟩
    · rcases hB with ⟨rfl, ed0⟩ | ⟨rfl, gd1, hb1, ed0⟩
      · have oc1 := own_bd gc1.1 gc1.2.1
        refine gy (fun t k => aN X159 J 10 rfl rfl k) ?_
        refine own_cv (rmLn hw G _ _ _ _ _ _ _ O0 SKa.exa FA CA VA) X159 J 11 600 352 354 353 12 355 e159 SKa.exa 0 pd_11 (kP fun T166 v166 X166 e166 q166 => ?_)
        obtain rfl := q166
        show G_ 22 _ [(.int 2)]
        refine gy (fun t k => cI X166 J 12 rfl 1 (cY X166 J 13 rfl (feq (by decide)).2 36 (aN X166 J 20 rfl rfl k))) ?_
        refine own_cv (rmLn hw G _ _ _ _ _ _ _ O0 SKa.exa FA CA VA) X166 J 21 600 352 354 353 12 355 e166 SKa.exa 0 pd_11 (kP fun T167 v167 X167 e167 q167 => ?_)
        obtain rfl := q167
        show G_ 40 _ [(.int 2)]
        refine gy (fun t k => cI X167 J 22 rfl 1 (cY X167 J 23 rfl (feq (by decide)).2 46 (aN X167 J 26 rfl rfl k))) ?_
        refine own_cv (rmLn hw G _ _ _ _ _ _ _ O0 SKb.exa FB CB VB) X167 J 27 600 352 354 353 12 355 e167 SKb.exa 0 pd_11 (kP fun T168 v168 X168 e168 q168 => ?_)
        obtain rfl := q168
        show G_ 50 _ [(.int 1)]
        refine gy (fun t k => cI X168 J 28 rfl 1 (cN X168 J 29 rfl (teq (by decide)).2 (cI X168 J 30 rfl 1 k))) ?_
        exact rI X168 hret hlk hPf J 31 ⟨⟨(1 : Int32), rfl, (by subst hcd; exact own_crg (by omega))⟩, rfl, e168⟩
      · have oc1 := own_bd gc1.1 gc1.2.1
        have od1 := own_bd gd1.1 gd1.2.1
        refine gy (fun t k => aN X159 J 10 rfl rfl k) ?_
        refine own_cv (rmLn hw G _ _ _ _ _ _ _ O0 SKa.exa FA CA VA) X159 J 11 600 352 354 353 12 355 e159 SKa.exa 0 pd_11 (kP fun T169 v169 X169 e169 q169 => ?_)
        obtain rfl := q169
        show G_ 22 _ [(.int 2)]
        refine gy (fun t k => cI X169 J 12 rfl 1 (cY X169 J 13 rfl (feq (by decide)).2 36 (aN X169 J 20 rfl rfl k))) ?_
        refine own_cv (rmLn hw G _ _ _ _ _ _ _ O0 SKa.exa FA CA VA) X169 J 21 600 352 354 353 12 355 e169 SKa.exa 0 pd_11 (kP fun T170 v170 X170 e170 q170 => ?_)
        obtain rfl := q170
        show G_ 40 _ [(.int 2)]
        refine gy (fun t k => cI X170 J 22 rfl 1 (cY X170 J 23 rfl (feq (by decide)).2 46 (aN X170 J 26 rfl rfl k))) ?_
        refine own_cv (rmLn hw G _ _ _ _ _ _ _ O0 SKb.exa FB CB VB) X170 J 27 600 352 354 353 12 355 e170 SKb.exa 0 pd_11 (kP fun T171 v171 X171 e171 q171 => ?_)
        obtain rfl := q171
        show G_ 50 _ [(.int 2)]
        refine gy (fun t k => cI X171 J 28 rfl 1 (cY X171 J 29 rfl (feq (by decide)).2 56 (aN X171 J 32 rfl rfl (cI X171 J 33 rfl 1 k)))) ?_
        refine own_cv (rmSC hw G _ ((1 : Int32)) _ _ _ _ ((c1.toInt8.toInt32)) _ _ O0 SKa.exa FA CA VA (by decide) (by decide) ha1) X171 J 34 520 521 523 522 12 524 e171 SKa.exa 0 pd_22 (kP fun T172 v172 X172 e172 q172 => ?_)
        obtain rfl := q172
        refine Go.castF (a := ((c1.toInt8.toInt32) &&& (255 : Int32))) (b := c1) (fun z' : Int32 => mkF m 61 #[vr sa, vr sb, vi (c0 - d0)] [(.int z')]) (own_u8 gc1.1 gc1.2.1) ?_
        show G_ 61 #[vr sa, vr sb, vi (c0 - d0)] [(.int c1)]
        refine gy (fun t k => aN X172 J 35 rfl rfl (cI X172 J 36 rfl 1 k)) ?_
        refine own_cv (rmSC hw G _ ((1 : Int32)) _ _ _ _ ((d1.toInt8.toInt32)) _ _ O0 SKb.exa FB CB VB (by decide) (by decide) hb1) X172 J 37 520 521 523 522 12 524 e172 SKb.exa 1 pd_22 (kP fun T173 v173 X173 e173 q173 => ?_)
        obtain rfl := q173
        refine Go.castF (a := ((d1.toInt8.toInt32) &&& (255 : Int32))) (b := d1) (fun z' : Int32 => mkF m 66 #[vr sa, vr sb, vi (c0 - d0)] [(.int z'), (.int c1)]) (own_u8 gd1.1 gd1.2.1) ?_
        show G_ 66 #[vr sa, vr sb, vi (c0 - d0)] [(.int d1), (.int c1)]
        refine gy (fun t k => oS X173 J 38 rfl (c1 - d1) k) ?_
        exact rI X173 hret hlk hPf J 39 ⟨⟨(c1 - d1), rfl, (by subst hcd; exact own_cr1 (k := 257 * c0.toInt + 1) oc1 od1 (by omega) (by omega))⟩, rfl, e173⟩
  · refine gy (fun t k => fN X159 J 9 rfl ((if0 _ _).trans (feq hc160).1) (iN X159 J 40 rfl rfl k)) ?_
    exact rI X159 hret hlk hPf J 41 ⟨⟨(c0 - d0), rfl, (by obtain ⟨x, e1, x1, x2⟩ := own_krng hA; obtain ⟨y, e2, y1, y2⟩ := own_krng hB; exact own_cr0 oc0 od0 e1 e2 ⟨x1, x2⟩ ⟨y1, y2⟩ (fun q => hc160 (by rw [q, Int32.sub_self])))⟩, rfl, e159⟩
theorem pn_68 : plainName S_1 = true := by first | (simp [plainName, overriddenIn]; done) | decide +kernel
def L68 : List (Nat × Instr × Nat) := [(0, a_0), (1, .invokespecial 3, 3), (4, a_0), (5, .iconst 1, 1), (6, .putfield 9, 3), (9, a_0), (10, a_1), (11, .putfield 15, 3), (14, a_0), (15, a_2), (16, .putfield 19, 3), (19, a_0), (20, a_3), (21, .putfield 22, 3), (24, .return_, 1)]
theorem d68 : ∀ q ∈ L68, decode jdk_2736_method_1_code q.1 = .ok q.2 := by decide +kernel
def QrmEnn (Z : State) (wP : Addr) (ea : Addr) (u : Addr) (h0 : Heap) (v : Option Value) (h : Heap) : Prop := (v = none) ∧ (Keep h0 h [ea]) ∧ (Ent Z h wP ea u .null .null .null (1 : Int32))
abbrev own_y35 : MethodName := ⟨S_1, "<init>", "(Ljava/lang/Object;Ljava/lang/Object;Ljava/util/TreeMap$Entry;)V"⟩
theorem rmEnn (hw : HW a0 Z) (G : Gh Z vcs wI wA cA vF wP wD kD wE kE mT mU mL mO) (ea : Addr) (u : Addr) (h0 : Heap) (n0 : Nat) (O0 : Old Z n0 h0) (EX : Exa Z h0 ea S_1) (F_key : Fld Z h0 ea S_1 "key" S_11 .null) (F_value : Fld Z h0 ea S_1 "value" S_11 .null) (F_parent : Fld Z h0 ea S_1 "parent" S_5 .null) (F_left : Fld Z h0 ea S_1 "left" S_5 .null) (F_right : Fld Z h0 ea S_1 "right" S_5 .null) (F_color : Fld Z h0 ea S_1 "color" "Z" (.int 0)) (g_ea : n0 ≤ ea) :
    MM l Z own_y35 jdk_2736_method_1_code 4 none ws (Rm 1 0 0 12) #[(.ref ea), (.ref u), (.ref wP), .null] h0 (QF n0 (QrmEnn Z wP ea u h0)) := by
  refine own_go hw (plainFor_of_name pn_68) #[vr ea, vr u, vr wP, .val .null] (fun p e s m below meth c s₁ Pf hx hby hlk hown hnm hret hml hZ hh X0 e0 hPf Jf => ?_)
  have N0 := Fr.nil n0
  have KC0 := Keep.refl h0 [ea]
  have J := Jf d68
  refine gy (fun t k => aN X0 J 0 rfl rfl k) ?_
  refine own_oi X0 J 1 424 30 31 e0 0 (fun T175 X175 e175 => ?_)
  refine gy (fun t k => aN X175 J 2 rfl rfl (cI X175 J 3 rfl 1 k)) ?_
  refine own_pf (ty := .boolean) (v' := (.int 1)) X175 J 4 425 Via.refl e175 F_color EX (Or.inl (ww hw 426 rfl)) 418 rfl rfl N0 g_ea (fun T176 h176 _ X176 e176 W176 N176 => ?_)
  have Fw176 : Fld Z h176 ea S_1 "color" "Z" (Value.int 1) := F_color.same W176
  have O176 := O0.wr W176 g_ea
  have KC176 := KC0.wr W176 (il 0)
  refine gy (fun t k => aN X176 J 5 rfl rfl (aN X176 J 6 rfl rfl k)) ?_
  refine own_pf (ty := (.object S_2)) (v' := (.ref u)) X176 J 7 427 Via.refl e176 (F_key.other W176 (Or.inr (slot_ne (Or.inl (ww hw 428 rfl)) (Or.inl (ww hw 426 rfl)) (by decide) (t := (.object S_2)) (t' := .boolean) (by decide) (by decide)))) (EX.wr W176) (Or.inl (ww hw 428 rfl)) 418 rfl rfl N176 g_ea (fun T177 h177 _ X177 e177 W177 N177 => ?_)
  have Fw177 : Fld Z h177 ea S_1 "key" S_11 (Value.ref u) := (F_key.other W176 (Or.inr (slot_ne (Or.inl (ww hw 428 rfl)) (Or.inl (ww hw 426 rfl)) (by decide) (t := (.object S_2)) (t' := .boolean) (by decide) (by decide)))).same W177
  have O177 := O176.wr W177 g_ea
  have KC177 := KC176.wr W177 (il 0)
  refine gy (fun t k => aN X177 J 8 rfl rfl (aN X177 J 9 rfl rfl k)) ?_
  have c178 := ((EX.wr W176).wr W177)
  have c179 := ((F_value.other W176 (Or.inr (slot_ne (Or.inl (ww hw 430 rfl)) (Or.inl (ww hw 426 rfl)) (by decide) (t := (.object S_2)) (t' := .boolean) (by decide) (by decide)))).other W177 (Or.inr (slot_ne (Or.inl (ww hw 430 rfl)) (Or.inl (ww hw 428 rfl)) (by decide) (t := (.object S_2)) (t' := (.object S_2)) (by decide) (by decide))))
  refine own_pf (ty := (.object S_2)) (v' := (.ref wP)) X177 J 10 429 Via.refl e177 c179 c178 (Or.inl (ww hw 430 rfl)) 418 rfl rfl N177 g_ea (fun T180 h180 _ X180 e180 W180 N180 => ?_)
  have Fw180 : Fld Z h180 ea S_1 "value" S_11 (Value.ref wP) := c179.same W180
  have O180 := O177.wr W180 g_ea
  have KC180 := KC177.wr W180 (il 0)
  refine gy (fun t k => aN X180 J 11 rfl rfl (aN X180 J 12 rfl rfl k)) ?_
  have c181 := (((F_parent.other W176 (Or.inr (slot_ne (Or.inl (ww hw 432 rfl)) (Or.inl (ww hw 426 rfl)) (by decide) (t := (.object S_1)) (t' := .boolean) (by decide) (by decide)))).other W177 (Or.inr (slot_ne (Or.inl (ww hw 432 rfl)) (Or.inl (ww hw 428 rfl)) (by decide) (t := (.object S_1)) (t' := (.object S_2)) (by decide) (by decide)))).other W180 (Or.inr (slot_ne (Or.inl (ww hw 432 rfl)) (Or.inl (ww hw 430 rfl)) (by decide) (t := (.object S_1)) (t' := (.object S_2)) (by decide) (by decide))))
  refine own_pf (ty := (.object S_1)) (v' := .null) X180 J 13 431 Via.refl e180 c181 (c178.wr W180) (Or.inl (ww hw 432 rfl)) 418 rfl rfl N180 g_ea (fun T182 h182 _ X182 e182 W182 N182 => ?_)
  have Fw182 : Fld Z h182 ea S_1 "parent" S_5 Value.null := c181.same W182
  have O182 := O180.wr W182 g_ea
  have KC182 := KC180.wr W182 (il 0)
  have c183 := ((c178.wr W180).wr W182)
  have c184 := ((Fw177.other W180 (Or.inr (slot_ne (Or.inl (ww hw 428 rfl)) (Or.inl (ww hw 430 rfl)) (by decide) (t := (.object S_2)) (t' := (.object S_2)) (by decide) (by decide)))).other W182 (Or.inr (slot_ne (Or.inl (ww hw 428 rfl)) (Or.inl (ww hw 432 rfl)) (by decide) (t := (.object S_2)) (t' := (.object S_1)) (by decide) (by decide))))
  have c185 := ((((F_left.other W176 (Or.inr (slot_ne (Or.inl (ww hw 439 rfl)) (Or.inl (ww hw 426 rfl)) (by decide) (t := (.object S_1)) (t' := .boolean) (by decide) (by decide)))).other W177 (Or.inr (slot_ne (Or.inl (ww hw 439 rfl)) (Or.inl (ww hw 428 rfl)) (by decide) (t := (.object S_1)) (t' := (.object S_2)) (by decide) (by decide)))).other W180 (Or.inr (slot_ne (Or.inl (ww hw 439 rfl)) (Or.inl (ww hw 430 rfl)) (by decide) (t := (.object S_1)) (t' := (.object S_2)) (by decide) (by decide)))).other W182 (Or.inr (slot_ne (Or.inl (ww hw 439 rfl)) (Or.inl (ww hw 432 rfl)) (by decide) (t := (.object S_1)) (t' := (.object S_1)) (by decide) (by decide))))
  have c186 := ((((F_right.other W176 (Or.inr (slot_ne (Or.inl (ww hw 453 rfl)) (Or.inl (ww hw 426 rfl)) (by decide) (t := (.object S_1)) (t' := .boolean) (by decide) (by decide)))).other W177 (Or.inr (slot_ne (Or.inl (ww hw 453 rfl)) (Or.inl (ww hw 428 rfl)) (by decide) (t := (.object S_1)) (t' := (.object S_2)) (by decide) (by decide)))).other W180 (Or.inr (slot_ne (Or.inl (ww hw 453 rfl)) (Or.inl (ww hw 430 rfl)) (by decide) (t := (.object S_1)) (t' := (.object S_2)) (by decide) (by decide)))).other W182 (Or.inr (slot_ne (Or.inl (ww hw 453 rfl)) (Or.inl (ww hw 432 rfl)) (by decide) (t := (.object S_1)) (t' := (.object S_1)) (by decide) (by decide))))
  have c187 := (((Fw176.other W177 (Or.inr (slot_ne (Or.inl (ww hw 426 rfl)) (Or.inl (ww hw 428 rfl)) (by decide) (t := .boolean) (t' := (.object S_2)) (by decide) (by decide)))).other W180 (Or.inr (slot_ne (Or.inl (ww hw 426 rfl)) (Or.inl (ww hw 430 rfl)) (by decide) (t := .boolean) (t' := (.object S_2)) (by decide) (by decide)))).other W182 (Or.inr (slot_ne (Or.inl (ww hw 426 rfl)) (Or.inl (ww hw 432 rfl)) (by decide) (t := .boolean) (t' := (.object S_1)) (by decide) (by decide))))
  exact rV X182 hret hlk hPf J 14 ⟨⟨rfl, (by rw [e182]; exact KC182), (by rw [e182]; exact ⟨c183, c184, (Fw180.other W182 (Or.inr (slot_ne (Or.inl (ww hw 430 rfl)) (Or.inl (ww hw 432 rfl)) (by decide) (t := (.object S_2)) (t' := (.object S_1)) (by decide) (by decide)))), Fw182, c185, c186, c187⟩)⟩, N182⟩
def QrmEnr (Z : State) (wP : Addr) (ea : Addr) (u : Addr) (pe : Addr) (h0 : Heap) (v : Option Value) (h : Heap) : Prop := (v = none) ∧ (Keep h0 h [ea]) ∧ (Ent Z h wP ea u (.ref pe) .null .null (1 : Int32))
theorem rmEnr (hw : HW a0 Z) (G : Gh Z vcs wI wA cA vF wP wD kD wE kE mT mU mL mO) (ea : Addr) (u : Addr) (pe : Addr) (h0 : Heap) (n0 : Nat) (O0 : Old Z n0 h0) (EX : Exa Z h0 ea S_1) (F_key : Fld Z h0 ea S_1 "key" S_11 .null) (F_value : Fld Z h0 ea S_1 "value" S_11 .null) (F_parent : Fld Z h0 ea S_1 "parent" S_5 .null) (F_left : Fld Z h0 ea S_1 "left" S_5 .null) (F_right : Fld Z h0 ea S_1 "right" S_5 .null) (F_color : Fld Z h0 ea S_1 "color" "Z" (.int 0)) (g_ea : n0 ≤ ea) :
    MM l Z own_y35 jdk_2736_method_1_code 4 none ws (Rm 1 0 0 12) #[(.ref ea), (.ref u), (.ref wP), (.ref pe)] h0 (QF n0 (QrmEnr Z wP ea u pe h0)) := by
  refine own_go hw (plainFor_of_name pn_68) #[vr ea, vr u, vr wP, vr pe] (fun p e s m below meth c s₁ Pf hx hby hlk hown hnm hret hml hZ hh X0 e0 hPf Jf => ?_)
  have N0 := Fr.nil n0
  have KC0 := Keep.refl h0 [ea]
  have J := Jf d68
  refine gy (fun t k => aN X0 J 0 rfl rfl k) ?_
  refine own_oi X0 J 1 424 30 31 e0 0 (fun T189 X189 e189 => ?_)
  refine gy (fun t k => aN X189 J 2 rfl rfl (cI X189 J 3 rfl 1 k)) ?_
  refine own_pf (ty := .boolean) (v' := (.int 1)) X189 J 4 425 Via.refl e189 F_color EX (Or.inl (ww hw 426 rfl)) 418 rfl rfl N0 g_ea (fun T190 h190 _ X190 e190 W190 N190 => ?_)
  have Fw190 : Fld Z h190 ea S_1 "color" "Z" (Value.int 1) := F_color.same W190
  have O190 := O0.wr W190 g_ea
  have KC190 := KC0.wr W190 (il 0)
  refine gy (fun t k => aN X190 J 5 rfl rfl (aN X190 J 6 rfl rfl k)) ?_
  refine own_pf (ty := (.object S_2)) (v' := (.ref u)) X190 J 7 427 Via.refl e190 (F_key.other W190 (Or.inr (slot_ne (Or.inl (ww hw 428 rfl)) (Or.inl (ww hw 426 rfl)) (by decide) (t := (.object S_2)) (t' := .boolean) (by decide) (by decide)))) (EX.wr W190) (Or.inl (ww hw 428 rfl)) 418 rfl rfl N190 g_ea (fun T191 h191 _ X191 e191 W191 N191 => ?_)
  have Fw191 : Fld Z h191 ea S_1 "key" S_11 (Value.ref u) := (F_key.other W190 (Or.inr (slot_ne (Or.inl (ww hw 428 rfl)) (Or.inl (ww hw 426 rfl)) (by decide) (t := (.object S_2)) (t' := .boolean) (by decide) (by decide)))).same W191
  have O191 := O190.wr W191 g_ea
  have KC191 := KC190.wr W191 (il 0)
  refine gy (fun t k => aN X191 J 8 rfl rfl (aN X191 J 9 rfl rfl k)) ?_
  have c192 := ((EX.wr W190).wr W191)
  have c193 := ((F_value.other W190 (Or.inr (slot_ne (Or.inl (ww hw 430 rfl)) (Or.inl (ww hw 426 rfl)) (by decide) (t := (.object S_2)) (t' := .boolean) (by decide) (by decide)))).other W191 (Or.inr (slot_ne (Or.inl (ww hw 430 rfl)) (Or.inl (ww hw 428 rfl)) (by decide) (t := (.object S_2)) (t' := (.object S_2)) (by decide) (by decide))))
  refine own_pf (ty := (.object S_2)) (v' := (.ref wP)) X191 J 10 429 Via.refl e191 c193 c192 (Or.inl (ww hw 430 rfl)) 418 rfl rfl N191 g_ea (fun T194 h194 _ X194 e194 W194 N194 => ?_)
  have Fw194 : Fld Z h194 ea S_1 "value" S_11 (Value.ref wP) := c193.same W194
  have O194 := O191.wr W194 g_ea
  have KC194 := KC191.wr W194 (il 0)
  refine gy (fun t k => aN X194 J 11 rfl rfl (aN X194 J 12 rfl rfl k)) ?_
  have c195 := (((F_parent.other W190 (Or.inr (slot_ne (Or.inl (ww hw 432 rfl)) (Or.inl (ww hw 426 rfl)) (by decide) (t := (.object S_1)) (t' := .boolean) (by decide) (by decide)))).other W191 (Or.inr (slot_ne (Or.inl (ww hw 432 rfl)) (Or.inl (ww hw 428 rfl)) (by decide) (t := (.object S_1)) (t' := (.object S_2)) (by decide) (by decide)))).other W194 (Or.inr (slot_ne (Or.inl (ww hw 432 rfl)) (Or.inl (ww hw 430 rfl)) (by decide) (t := (.object S_1)) (t' := (.object S_2)) (by decide) (by decide))))
  refine own_pf (ty := (.object S_1)) (v' := (.ref pe)) X194 J 13 431 Via.refl e194 c195 (c192.wr W194) (Or.inl (ww hw 432 rfl)) 418 rfl rfl N194 g_ea (fun T196 h196 _ X196 e196 W196 N196 => ?_)
  have Fw196 : Fld Z h196 ea S_1 "parent" S_5 (Value.ref pe) := c195.same W196
  have O196 := O194.wr W196 g_ea
  have KC196 := KC194.wr W196 (il 0)
  have c197 := ((c192.wr W194).wr W196)
  have c198 := ((Fw191.other W194 (Or.inr (slot_ne (Or.inl (ww hw 428 rfl)) (Or.inl (ww hw 430 rfl)) (by decide) (t := (.object S_2)) (t' := (.object S_2)) (by decide) (by decide)))).other W196 (Or.inr (slot_ne (Or.inl (ww hw 428 rfl)) (Or.inl (ww hw 432 rfl)) (by decide) (t := (.object S_2)) (t' := (.object S_1)) (by decide) (by decide))))
  have c199 := ((((F_left.other W190 (Or.inr (slot_ne (Or.inl (ww hw 439 rfl)) (Or.inl (ww hw 426 rfl)) (by decide) (t := (.object S_1)) (t' := .boolean) (by decide) (by decide)))).other W191 (Or.inr (slot_ne (Or.inl (ww hw 439 rfl)) (Or.inl (ww hw 428 rfl)) (by decide) (t := (.object S_1)) (t' := (.object S_2)) (by decide) (by decide)))).other W194 (Or.inr (slot_ne (Or.inl (ww hw 439 rfl)) (Or.inl (ww hw 430 rfl)) (by decide) (t := (.object S_1)) (t' := (.object S_2)) (by decide) (by decide)))).other W196 (Or.inr (slot_ne (Or.inl (ww hw 439 rfl)) (Or.inl (ww hw 432 rfl)) (by decide) (t := (.object S_1)) (t' := (.object S_1)) (by decide) (by decide))))
  have c200 := ((((F_right.other W190 (Or.inr (slot_ne (Or.inl (ww hw 453 rfl)) (Or.inl (ww hw 426 rfl)) (by decide) (t := (.object S_1)) (t' := .boolean) (by decide) (by decide)))).other W191 (Or.inr (slot_ne (Or.inl (ww hw 453 rfl)) (Or.inl (ww hw 428 rfl)) (by decide) (t := (.object S_1)) (t' := (.object S_2)) (by decide) (by decide)))).other W194 (Or.inr (slot_ne (Or.inl (ww hw 453 rfl)) (Or.inl (ww hw 430 rfl)) (by decide) (t := (.object S_1)) (t' := (.object S_2)) (by decide) (by decide)))).other W196 (Or.inr (slot_ne (Or.inl (ww hw 453 rfl)) (Or.inl (ww hw 432 rfl)) (by decide) (t := (.object S_1)) (t' := (.object S_1)) (by decide) (by decide))))
  have c201 := (((Fw190.other W191 (Or.inr (slot_ne (Or.inl (ww hw 426 rfl)) (Or.inl (ww hw 428 rfl)) (by decide) (t := .boolean) (t' := (.object S_2)) (by decide) (by decide)))).other W194 (Or.inr (slot_ne (Or.inl (ww hw 426 rfl)) (Or.inl (ww hw 430 rfl)) (by decide) (t := .boolean) (t' := (.object S_2)) (by decide) (by decide)))).other W196 (Or.inr (slot_ne (Or.inl (ww hw 426 rfl)) (Or.inl (ww hw 432 rfl)) (by decide) (t := .boolean) (t' := (.object S_1)) (by decide) (by decide))))
  exact rV X196 hret hlk hPf J 14 ⟨⟨rfl, (by rw [e196]; exact KC196), (by rw [e196]; exact ⟨c197, c198, (Fw194.other W196 (Or.inr (slot_ne (Or.inl (ww hw 430 rfl)) (Or.inl (ww hw 432 rfl)) (by decide) (t := (.object S_2)) (t' := (.object S_1)) (by decide) (by decide)))), Fw196, c199, c200, c201⟩)⟩, N196⟩
theorem pn_72 : plainName S_6 = true := by first | (simp [plainName, overriddenIn]; done) | decide +kernel
def L72 : List (Nat × Instr × Nat) := [(0, a_0), (1, .ifnonnull 7, 3), (8, a_0), (9, .getfield 124, 3), (12, .areturn, 1)]
theorem d72 : ∀ q ∈ L72, decode jdk_2729_method_77_code q.1 = .ok q.2 := by decide +kernel
def Qrm_parentOf (pv : Value) (v : Option Value) : Prop := (v = some pv)
abbrev own_y36 : MethodName := ⟨S_6, "parentOf", "(Ljava/util/TreeMap$Entry;)Ljava/util/TreeMap$Entry;"⟩
theorem rm_parentOf (hw : HW a0 Z) (G : Gh Z vcs wI wA cA vF wP wD kD wE kE mT mU mL mO) (ea : Addr) (u : Addr) (pv : Value) (lv : Value) (rv : Value) (ic : Int32) (h0 : Heap) (n0 : Nat) (O0 : Old Z n0 h0) (Ne : Ent Z h0 wP ea u pv lv rv ic) (hr : pv.isRef = true) :
    MM l Z own_y36 jdk_2729_method_77_code 1 (some (.object S_1)) ws (Rm 0 0 0 0) #[(.ref ea)] h0 (QP h0 (Qrm_parentOf pv)) := by
  refine own_go hw (plainFor_of_name pn_72) #[vr ea] (fun p e s m below meth c s₁ Pf hx hby hlk hown hnm hret hml hZ hh X0 e0 hPf Jf => ?_)
  have J := Jf d72
  refine gy (fun t k => aN X0 J 0 rfl rfl (wY X0 J 1 rfl 8 (aN X0 J 2 rfl rfl k))) ?_
  refine own_gf X0 J 3 451 Via.refl e0 Ne.2.2.2.1 (fun T202 X202 e202 => ?_)
  exact rA X202 hret hlk hPf J 4 ⟨rfl, rfl, e202⟩ (hw := hr)
def L73 : List (Nat × Instr × Nat) := [(0, a_0), (1, .ifnonnull 7, 3), (8, a_0), (9, .getfield 111, 3), (12, .areturn, 1)]
theorem d73 : ∀ q ∈ L73, decode jdk_2729_method_79_code q.1 = .ok q.2 := by decide +kernel
def Qrm_leftOf (lv : Value) (v : Option Value) : Prop := (v = some lv)
abbrev own_y37 : MethodName := ⟨S_6, "leftOf", "(Ljava/util/TreeMap$Entry;)Ljava/util/TreeMap$Entry;"⟩
theorem rm_leftOf (hw : HW a0 Z) (G : Gh Z vcs wI wA cA vF wP wD kD wE kE mT mU mL mO) (ea : Addr) (u : Addr) (pv : Value) (lv : Value) (rv : Value) (ic : Int32) (h0 : Heap) (n0 : Nat) (O0 : Old Z n0 h0) (Ne : Ent Z h0 wP ea u pv lv rv ic) (hr : lv.isRef = true) :
    MM l Z own_y37 jdk_2729_method_79_code 1 (some (.object S_1)) ws (Rm 0 0 0 0) #[(.ref ea)] h0 (QP h0 (Qrm_leftOf lv)) := by
  refine own_go hw (plainFor_of_name pn_72) #[vr ea] (fun p e s m below meth c s₁ Pf hx hby hlk hown hnm hret hml hZ hh X0 e0 hPf Jf => ?_)
  have J := Jf d73
  refine gy (fun t k => aN X0 J 0 rfl rfl (wY X0 J 1 rfl 8 (aN X0 J 2 rfl rfl k))) ?_
  refine own_gf X0 J 3 438 Via.refl e0 Ne.2.2.2.2.1 (fun T203 X203 e203 => ?_)
  exact rA X203 hret hlk hPf J 4 ⟨rfl, rfl, e203⟩ (hw := hr)
def L74 : List (Nat × Instr × Nat) := [(0, a_0), (1, .ifnonnull 7, 3), (8, a_0), (9, .getfield 114, 3), (12, .areturn, 1)]
theorem d74 : ∀ q ∈ L74, decode jdk_2729_method_80_code q.1 = .ok q.2 := by decide +kernel
def Qrm_rightOf (rv : Value) (v : Option Value) : Prop := (v = some rv)
abbrev own_y38 : MethodName := ⟨S_6, "rightOf", "(Ljava/util/TreeMap$Entry;)Ljava/util/TreeMap$Entry;"⟩
theorem rm_rightOf (hw : HW a0 Z) (G : Gh Z vcs wI wA cA vF wP wD kD wE kE mT mU mL mO) (ea : Addr) (u : Addr) (pv : Value) (lv : Value) (rv : Value) (ic : Int32) (h0 : Heap) (n0 : Nat) (O0 : Old Z n0 h0) (Ne : Ent Z h0 wP ea u pv lv rv ic) (hr : rv.isRef = true) :
    MM l Z own_y38 jdk_2729_method_80_code 1 (some (.object S_1)) ws (Rm 0 0 0 0) #[(.ref ea)] h0 (QP h0 (Qrm_rightOf rv)) := by
  refine own_go hw (plainFor_of_name pn_72) #[vr ea] (fun p e s m below meth c s₁ Pf hx hby hlk hown hnm hret hml hZ hh X0 e0 hPf Jf => ?_)
  have J := Jf d74
  refine gy (fun t k => aN X0 J 0 rfl rfl (wY X0 J 1 rfl 8 (aN X0 J 2 rfl rfl k))) ?_
  refine own_gf X0 J 3 452 Via.refl e0 Ne.2.2.2.2.2.1 (fun T204 X204 e204 => ?_)
  exact rA X204 hret hlk hPf J 4 ⟨rfl, rfl, e204⟩ (hw := hr)
def L75 : List (Nat × Instr × Nat) := [(0, a_0), (1, .ifnonnull 7, 3), (4, .iconst 1, 1), (5, .goto 7, 3), (12, .ireturn, 1)]
theorem d75 : ∀ q ∈ L75, decode jdk_2729_method_76_code q.1 = .ok q.2 := by decide +kernel
def QrmCoN (v : Option Value) : Prop := (v = some (.int 1))
abbrev own_y39 : MethodName := ⟨S_6, "colorOf", "(Ljava/util/TreeMap$Entry;)Z"⟩
theorem rmCoN (hw : HW a0 Z) (G : Gh Z vcs wI wA cA vF wP wD kD wE kE mT mU mL mO) (h0 : Heap) (n0 : Nat) (O0 : Old Z n0 h0) :
    MM l Z own_y39 jdk_2729_method_76_code 1 (some .boolean) ws (Rm 0 0 0 0) #[.null] h0 (QP h0 QrmCoN) := by
  refine own_go hw (plainFor_of_name pn_72) #[.val .null] (fun p e s m below meth c s₁ Pf hx hby hlk hown hnm hret hml hZ hh X0 e0 hPf Jf => ?_)
  have J := Jf d75
  refine gy (fun t k => aN X0 J 0 rfl rfl (wN X0 J 1 rfl (cI X0 J 2 rfl 1 (jG X0 J 3 rfl 12 k)))) ?_
  exact rI X0 hret hlk hPf J 4 ⟨rfl, rfl, e0⟩
def L77 : List (Nat × Instr × Nat) := [(0, a_0), (1, .ifnull 8, 3), (4, a_0), (5, i_1), (6, .putfield 290, 3), (9, .return_, 1)]
theorem d77 : ∀ q ∈ L77, decode jdk_2729_method_78_code q.1 = .ok q.2 := by decide +kernel
def QrmSc0 (Z : State) (wP : Addr) (ea : Addr) (u : Addr) (pv : Value) (lv : Value) (rv : Value) (h0 : Heap) (v : Option Value) (h : Heap) : Prop := (v = none) ∧ (Keep h0 h [ea]) ∧ (Ent Z h wP ea u pv lv rv (0 : Int32))
abbrev own_y40 : MethodName := ⟨S_6, "setColor", "(Ljava/util/TreeMap$Entry;Z)V"⟩
theorem rmSc0 (hw : HW a0 Z) (G : Gh Z vcs wI wA cA vF wP wD kD wE kE mT mU mL mO) (ea : Addr) (u : Addr) (pv : Value) (lv : Value) (rv : Value) (ic : Int32) (h0 : Heap) (n0 : Nat) (O0 : Old Z n0 h0) (Ne : Ent Z h0 wP ea u pv lv rv ic) (g_ea : n0 ≤ ea) :
    MM l Z own_y40 jdk_2729_method_78_code 2 none ws (Rm 0 0 0 0) #[(.ref ea), (.int 0)] h0 (QF n0 (QrmSc0 Z wP ea u pv lv rv h0)) := by
  refine own_go hw (plainFor_of_name pn_72) #[vr ea, vi 0] (fun p e s m below meth c s₁ Pf hx hby hlk hown hnm hret hml hZ hh X0 e0 hPf Jf => ?_)
  have N0 := Fr.nil n0
  have KC0 := Keep.refl h0 [ea]
  have J := Jf d77
  refine gy (fun t k => aN X0 J 0 rfl rfl (uN X0 J 1 rfl (aN X0 J 2 rfl rfl (iN X0 J 3 rfl rfl k)))) ?_
  refine own_pf (ty := .boolean) (v' := (.int 0)) X0 J 4 450 Via.refl e0 Ne.2.2.2.2.2.2 Ne.1 (Or.inl (ww hw 426 rfl)) 418 rfl rfl N0 g_ea (fun T205 h205 _ X205 e205 W205 N205 => ?_)
  have M205 := Ne.s_color (own_lay hw) W205
  have O205 := O0.wr W205 g_ea
  have KC205 := KC0.wr W205 (il 0)
  exact rV X205 hret hlk hPf J 5 ⟨⟨rfl, (by rw [e205]; exact KC205), (by rw [e205]; exact M205)⟩, N205⟩
def QrmSc1 (Z : State) (wP : Addr) (ea : Addr) (u : Addr) (pv : Value) (lv : Value) (rv : Value) (h0 : Heap) (v : Option Value) (h : Heap) : Prop := (v = none) ∧ (Keep h0 h [ea]) ∧ (Ent Z h wP ea u pv lv rv (1 : Int32))
theorem rmSc1 (hw : HW a0 Z) (G : Gh Z vcs wI wA cA vF wP wD kD wE kE mT mU mL mO) (ea : Addr) (u : Addr) (pv : Value) (lv : Value) (rv : Value) (ic : Int32) (h0 : Heap) (n0 : Nat) (O0 : Old Z n0 h0) (Ne : Ent Z h0 wP ea u pv lv rv ic) (g_ea : n0 ≤ ea) :
    MM l Z own_y40 jdk_2729_method_78_code 2 none ws (Rm 0 0 0 0) #[(.ref ea), (.int 1)] h0 (QF n0 (QrmSc1 Z wP ea u pv lv rv h0)) := by
  refine own_go hw (plainFor_of_name pn_72) #[vr ea, vi 1] (fun p e s m below meth c s₁ Pf hx hby hlk hown hnm hret hml hZ hh X0 e0 hPf Jf => ?_)
  have N0 := Fr.nil n0
  have KC0 := Keep.refl h0 [ea]
  have J := Jf d77
  refine gy (fun t k => aN X0 J 0 rfl rfl (uN X0 J 1 rfl (aN X0 J 2 rfl rfl (iN X0 J 3 rfl rfl k)))) ?_
  refine own_pf (ty := .boolean) (v' := (.int 1)) X0 J 4 450 Via.refl e0 Ne.2.2.2.2.2.2 Ne.1 (Or.inl (ww hw 426 rfl)) 418 rfl rfl N0 g_ea (fun T206 h206 _ X206 e206 W206 N206 => ?_)
  have M206 := Ne.s_color (own_lay hw) W206
  have O206 := O0.wr W206 g_ea
  have KC206 := KC0.wr W206 (il 0)
  exact rV X206 hret hlk hPf J 5 ⟨⟨rfl, (by rw [e206]; exact KC206), (by rw [e206]; exact M206)⟩, N206⟩
def L76 : List (Nat × Instr × Nat) := [(0, a_1), (1, .ifnull 94, 3), (4, a_1), (5, .getfield 114, 3), (8, .astore_n 2, 1), (9, a_1), (10, a_2), (11, .getfield 111, 3), (14, .putfield 114, 3), (17, a_2), (18, .getfield 111, 3), (21, .ifnull 11, 3), (32, a_2), (33, a_1), (34, .getfield 124, 3), (37, .putfield 124, 3), (40, a_1), (41, .getfield 124, 3), (44, .ifnonnull 11, 3), (47, a_0), (48, a_2), (49, .putfield 101, 3), (52, .goto 33, 3), (85, a_2), (86, a_1), (87, .putfield 111, 3), (90, a_1), (91, a_2), (92, .putfield 124, 3), (95, .return_, 1)]
theorem d76 : ∀ q ∈ L76, decode jdk_2729_method_81_code q.1 = .ok q.2 := by decide +kernel
def QrmRLr (Z : State) (wP : Addr) (tm : Addr) (ea : Addr) (fa : Addr) (ue : Addr) (uf : Addr) (xe_ : Value) (xf_ : Value) (ice : Int32) (icf : Int32) (sz : Int32) (mc : Int32) (nk : Value) (h0 : Heap) (v : Option Value) (h : Heap) : Prop := (v = none) ∧ (Keep h0 h [tm, ea, fa]) ∧ (Mp Z h tm (.ref fa) sz mc nk) ∧ (Ent Z h wP fa uf .null (.ref ea) xf_ icf) ∧ (Ent Z h wP ea ue (.ref fa) xe_ .null ice)
abbrev own_y41 : MethodName := ⟨S_6, "rotateLeft", "(Ljava/util/TreeMap$Entry;)V"⟩
theorem rmRLr (hw : HW a0 Z) (G : Gh Z vcs wI wA cA vF wP wD kD wE kE mT mU mL mO) (tm : Addr) (ea : Addr) (fa : Addr) (ue : Addr) (uf : Addr) (xe_ : Value) (xf_ : Value) (ice : Int32) (icf : Int32) (sz : Int32) (mc : Int32) (nk : Value) (h0 : Heap) (n0 : Nat) (O0 : Old Z n0 h0) (Mt : Mp Z h0 tm (.ref ea) sz mc nk) (Ne : Ent Z h0 wP ea ue .null xe_ (.ref fa) ice) (Nf : Ent Z h0 wP fa uf (.ref ea) .null xf_ icf) (hef : ea ≠ fa) (g_tm : n0 ≤ tm) (g_ea : n0 ≤ ea) (g_fa : n0 ≤ fa) :
    MM l Z own_y41 jdk_2729_method_81_code 3 none ws (Rm 0 0 0 0) #[(.ref tm), (.ref ea)] h0 (QF n0 (QrmRLr Z wP tm ea fa ue uf xe_ xf_ ice icf sz mc nk h0)) := by
  refine own_go hw (plainFor_of_name pn_72) #[vr tm, vr ea, .unset] (fun p e s m below meth c s₁ Pf hx hby hlk hown hnm hret hml hZ hh X0 e0 hPf Jf => ?_)
  have N0 := Fr.nil n0
  have KC0 := Keep.refl h0 [tm, ea, fa]
  have J := Jf d76
  refine gy (fun t k => aN X0 J 0 rfl rfl (uN X0 J 1 rfl (aN X0 J 2 rfl rfl k))) ?_
  refine own_gf X0 J 3 452 Via.refl e0 Ne.2.2.2.2.2.1 (fun T207 X207 e207 => ?_)
  refine gy (fun t k => sAN X207 J 4 rfl #[vr tm, vr ea, vr fa] (aN X207 J 5 rfl rfl (aN X207 J 6 rfl rfl k))) ?_
  refine own_gf X207 J 7 438 Via.refl e207 Nf.2.2.2.2.1 (fun T208 X208 e208 => ?_)
  refine own_pf (ty := (.object S_1)) (v' := .null) X208 J 8 452 Via.refl e208 Ne.2.2.2.2.2.1 Ne.1 (Or.inl (ww hw 453 rfl)) 418 rfl rfl N0 g_ea (fun T209 h209 _ X209 e209 W209 N209 => ?_)
  have M209 := Ne.s_right (own_lay hw) W209
  have O209 := O0.wr W209 g_ea
  have KC209 := KC0.wr W209 (il 1)
  refine gy (fun t k => aN X209 J 9 rfl rfl k) ?_
  refine own_gf X209 J 10 438 Via.refl e209 (Nf.other W209 hef.symm).2.2.2.2.1 (fun T210 X210 e210 => ?_)
  refine gy (fun t k => uY X210 J 11 rfl 32 (aN X210 J 12 rfl rfl (aN X210 J 13 rfl rfl k))) ?_
  refine own_gf X210 J 14 451 Via.refl e210 M209.2.2.2.1 (fun T211 X211 e211 => ?_)
  refine own_pf (ty := (.object S_1)) (v' := .null) X211 J 15 451 Via.refl e211 (Nf.other W209 hef.symm).2.2.2.1 (Nf.other W209 hef.symm).1 (Or.inl (ww hw 432 rfl)) 418 rfl rfl N209 g_fa (fun T212 h212 _ X212 e212 W212 N212 => ?_)
  have M212 := (Nf.other W209 hef.symm).s_parent (own_lay hw) W212
  have O212 := O209.wr W212 g_fa
  have KC212 := KC209.wr W212 (il 2)
  refine gy (fun t k => aN X212 J 16 rfl rfl k) ?_
  refine own_gf X212 J 17 451 Via.refl e212 (M209.other W212 hef).2.2.2.1 (fun T213 X213 e213 => ?_)
  refine gy (fun t k => wN X213 J 18 rfl (aN X213 J 19 rfl rfl (aN X213 J 20 rfl rfl k))) ?_
  have c214 := ((Mt.other W209 (ne_exa Mt.1 Ne.1 (by decide))).other W212 (ne_exa Mt.1 Nf.1 (by decide)))
  refine own_pf (ty := (.object S_1)) (v' := (.ref fa)) X213 J 21 214 Via.refl e213 c214.2.2.2.2.1 c214.1 (Or.inl (ww hw 215 rfl)) 49 rfl rfl N212 g_tm (fun T215 h215 _ X215 e215 W215 N215 => ?_)
  have M215 := c214.s_root (own_lay hw) W215
  have O215 := O212.wr W215 g_tm
  have KC215 := KC212.wr W215 (il 0)
  refine gy (fun t k => jG X215 J 22 rfl 85 (aN X215 J 23 rfl rfl (aN X215 J 24 rfl rfl k))) ?_
  refine own_pf (ty := (.object S_1)) (v' := (.ref ea)) X215 J 25 438 Via.refl e215 (M212.other W215 (ne_exa Nf.1 Mt.1 (by decide))).2.2.2.2.1 (M212.other W215 (ne_exa Nf.1 Mt.1 (by decide))).1 (Or.inl (ww hw 439 rfl)) 418 rfl rfl N215 g_fa (fun T216 h216 _ X216 e216 W216 N216 => ?_)
  have M216 := (M212.other W215 (ne_exa Nf.1 Mt.1 (by decide))).s_left (own_lay hw) W216
  have O216 := O215.wr W216 g_fa
  have KC216 := KC215.wr W216 (il 2)
  refine gy (fun t k => aN X216 J 26 rfl rfl (aN X216 J 27 rfl rfl k)) ?_
  have c217 := (((M209.other W212 hef).other W215 (ne_exa Ne.1 Mt.1 (by decide))).other W216 hef)
  refine own_pf (ty := (.object S_1)) (v' := (.ref fa)) X216 J 28 451 Via.refl e216 c217.2.2.2.1 c217.1 (Or.inl (ww hw 432 rfl)) 418 rfl rfl N216 g_ea (fun T218 h218 _ X218 e218 W218 N218 => ?_)
  have M218 := c217.s_parent (own_lay hw) W218
  have O218 := O216.wr W218 g_ea
  have KC218 := KC216.wr W218 (il 1)
  have c219 := ((M215.other W216 (ne_exa Mt.1 Nf.1 (by decide))).other W218 (ne_exa Mt.1 Ne.1 (by decide)))
  exact rV X218 hret hlk hPf J 29 ⟨⟨rfl, (by rw [e218]; exact KC218), (by rw [e218]; exact c219), (by rw [e218]; exact (M216.other W218 hef.symm)), (by rw [e218]; exact M218)⟩, N218⟩
def L78 : List (Nat × Instr × Nat) := [(0, a_1), (1, .ifnull 94, 3), (4, a_1), (5, .getfield 111, 3), (8, .astore_n 2, 1), (9, a_1), (10, a_2), (11, .getfield 114, 3), (14, .putfield 111, 3), (17, a_2), (18, .getfield 114, 3), (21, .ifnull 11, 3), (32, a_2), (33, a_1), (34, .getfield 124, 3), (37, .putfield 124, 3), (40, a_1), (41, .getfield 124, 3), (44, .ifnonnull 11, 3), (47, a_0), (48, a_2), (49, .putfield 101, 3), (52, .goto 33, 3), (85, a_2), (86, a_1), (87, .putfield 114, 3), (90, a_1), (91, a_2), (92, .putfield 124, 3), (95, .return_, 1)]
theorem d78 : ∀ q ∈ L78, decode jdk_2729_method_82_code q.1 = .ok q.2 := by decide +kernel
def QrmRRr (Z : State) (wP : Addr) (tm : Addr) (ea : Addr) (fa : Addr) (ue : Addr) (uf : Addr) (xe_ : Value) (xf_ : Value) (ice : Int32) (icf : Int32) (sz : Int32) (mc : Int32) (nk : Value) (h0 : Heap) (v : Option Value) (h : Heap) : Prop := (v = none) ∧ (Keep h0 h [tm, ea, fa]) ∧ (Mp Z h tm (.ref fa) sz mc nk) ∧ (Ent Z h wP fa uf .null xf_ (.ref ea) icf) ∧ (Ent Z h wP ea ue (.ref fa) .null xe_ ice)
abbrev own_y42 : MethodName := ⟨S_6, "rotateRight", "(Ljava/util/TreeMap$Entry;)V"⟩
theorem rmRRr (hw : HW a0 Z) (G : Gh Z vcs wI wA cA vF wP wD kD wE kE mT mU mL mO) (tm : Addr) (ea : Addr) (fa : Addr) (ue : Addr) (uf : Addr) (xe_ : Value) (xf_ : Value) (ice : Int32) (icf : Int32) (sz : Int32) (mc : Int32) (nk : Value) (h0 : Heap) (n0 : Nat) (O0 : Old Z n0 h0) (Mt : Mp Z h0 tm (.ref ea) sz mc nk) (Ne : Ent Z h0 wP ea ue .null (.ref fa) xe_ ice) (Nf : Ent Z h0 wP fa uf (.ref ea) xf_ .null icf) (hef : ea ≠ fa) (g_tm : n0 ≤ tm) (g_ea : n0 ≤ ea) (g_fa : n0 ≤ fa) :
    MM l Z own_y42 jdk_2729_method_82_code 3 none ws (Rm 0 0 0 0) #[(.ref tm), (.ref ea)] h0 (QF n0 (QrmRRr Z wP tm ea fa ue uf xe_ xf_ ice icf sz mc nk h0)) := by
  refine own_go hw (plainFor_of_name pn_72) #[vr tm, vr ea, .unset] (fun p e s m below meth c s₁ Pf hx hby hlk hown hnm hret hml hZ hh X0 e0 hPf Jf => ?_)
  have N0 := Fr.nil n0
  have KC0 := Keep.refl h0 [tm, ea, fa]
  have J := Jf d78
  refine gy (fun t k => aN X0 J 0 rfl rfl (uN X0 J 1 rfl (aN X0 J 2 rfl rfl k))) ?_
  refine own_gf X0 J 3 438 Via.refl e0 Ne.2.2.2.2.1 (fun T220 X220 e220 => ?_)
  refine gy (fun t k => sAN X220 J 4 rfl #[vr tm, vr ea, vr fa] (aN X220 J 5 rfl rfl (aN X220 J 6 rfl rfl k))) ?_
  refine own_gf X220 J 7 452 Via.refl e220 Nf.2.2.2.2.2.1 (fun T221 X221 e221 => ?_)
  refine own_pf (ty := (.object S_1)) (v' := .null) X221 J 8 438 Via.refl e221 Ne.2.2.2.2.1 Ne.1 (Or.inl (ww hw 439 rfl)) 418 rfl rfl N0 g_ea (fun T222 h222 _ X222 e222 W222 N222 => ?_)
  have M222 := Ne.s_left (own_lay hw) W222
  have O222 := O0.wr W222 g_ea
  have KC222 := KC0.wr W222 (il 1)
  refine gy (fun t k => aN X222 J 9 rfl rfl k) ?_
  refine own_gf X222 J 10 452 Via.refl e222 (Nf.other W222 hef.symm).2.2.2.2.2.1 (fun T223 X223 e223 => ?_)
  refine gy (fun t k => uY X223 J 11 rfl 32 (aN X223 J 12 rfl rfl (aN X223 J 13 rfl rfl k))) ?_
  refine own_gf X223 J 14 451 Via.refl e223 M222.2.2.2.1 (fun T224 X224 e224 => ?_)
  refine own_pf (ty := (.object S_1)) (v' := .null) X224 J 15 451 Via.refl e224 (Nf.other W222 hef.symm).2.2.2.1 (Nf.other W222 hef.symm).1 (Or.inl (ww hw 432 rfl)) 418 rfl rfl N222 g_fa (fun T225 h225 _ X225 e225 W225 N225 => ?_)
  have M225 := (Nf.other W222 hef.symm).s_parent (own_lay hw) W225
  have O225 := O222.wr W225 g_fa
  have KC225 := KC222.wr W225 (il 2)
  refine gy (fun t k => aN X225 J 16 rfl rfl k) ?_
  refine own_gf X225 J 17 451 Via.refl e225 (M222.other W225 hef).2.2.2.1 (fun T226 X226 e226 => ?_)
  refine gy (fun t k => wN X226 J 18 rfl (aN X226 J 19 rfl rfl (aN X226 J 20 rfl rfl k))) ?_
  have c227 := ((Mt.other W222 (ne_exa Mt.1 Ne.1 (by decide))).other W225 (ne_exa Mt.1 Nf.1 (by decide)))
  refine own_pf (ty := (.object S_1)) (v' := (.ref fa)) X226 J 21 214 Via.refl e226 c227.2.2.2.2.1 c227.1 (Or.inl (ww hw 215 rfl)) 49 rfl rfl N225 g_tm (fun T228 h228 _ X228 e228 W228 N228 => ?_)
  have M228 := c227.s_root (own_lay hw) W228
  have O228 := O225.wr W228 g_tm
  have KC228 := KC225.wr W228 (il 0)
  refine gy (fun t k => jG X228 J 22 rfl 85 (aN X228 J 23 rfl rfl (aN X228 J 24 rfl rfl k))) ?_
  refine own_pf (ty := (.object S_1)) (v' := (.ref ea)) X228 J 25 452 Via.refl e228 (M225.other W228 (ne_exa Nf.1 Mt.1 (by decide))).2.2.2.2.2.1 (M225.other W228 (ne_exa Nf.1 Mt.1 (by decide))).1 (Or.inl (ww hw 453 rfl)) 418 rfl rfl N228 g_fa (fun T229 h229 _ X229 e229 W229 N229 => ?_)
  have M229 := (M225.other W228 (ne_exa Nf.1 Mt.1 (by decide))).s_right (own_lay hw) W229
  have O229 := O228.wr W229 g_fa
  have KC229 := KC228.wr W229 (il 2)
  refine gy (fun t k => aN X229 J 26 rfl rfl (aN X229 J 27 rfl rfl k)) ?_
  have c230 := (((M222.other W225 hef).other W228 (ne_exa Ne.1 Mt.1 (by decide))).other W229 hef)
  refine own_pf (ty := (.object S_1)) (v' := (.ref fa)) X229 J 28 451 Via.refl e229 c230.2.2.2.1 c230.1 (Or.inl (ww hw 432 rfl)) 418 rfl rfl N229 g_ea (fun T231 h231 _ X231 e231 W231 N231 => ?_)
  have M231 := c230.s_parent (own_lay hw) W231
  have O231 := O229.wr W231 g_ea
  have KC231 := KC229.wr W231 (il 1)
  have c232 := ((M228.other W229 (ne_exa Mt.1 Nf.1 (by decide))).other W231 (ne_exa Mt.1 Ne.1 (by decide)))
  exact rV X231 hret hlk hPf J 29 ⟨⟨rfl, (by rw [e231]; exact KC231), (by rw [e231]; exact c232), (by rw [e231]; exact (M229.other W231 hef.symm)), (by rw [e231]; exact M231)⟩, N231⟩
def L76' : List (Nat × Instr × Nat) := [(55, a_1), (56, .getfield 124, 3), (59, .getfield 111, 3), (62, a_1), (63, .if_acmp .ne 14, 3), (66, a_1), (67, .getfield 124, 3), (70, a_2), (71, .putfield 111, 3), (74, .goto 11, 3)]
theorem d76' : ∀ q ∈ L76', decode jdk_2729_method_81_code q.1 = .ok q.2 := by decide +kernel
def QrmRLn (Z : State) (wP : Addr) (ea : Addr) (da : Addr) (ud : Addr) (pd_ : Value) (xd_ : Value) (icd : Int32) (fa : Addr) (ue : Addr) (uf : Addr) (xe_ : Value) (xf_ : Value) (ice : Int32) (icf : Int32) (h0 : Heap) (v : Option Value) (h : Heap) : Prop := (v = none) ∧ (Keep h0 h [da, ea, fa]) ∧ (Ent Z h wP da ud pd_ (.ref fa) xd_ icd) ∧ (Ent Z h wP fa uf (.ref da) (.ref ea) xf_ icf) ∧ (Ent Z h wP ea ue (.ref fa) xe_ .null ice)
theorem rmRLn (hw : HW a0 Z) (G : Gh Z vcs wI wA cA vF wP wD kD wE kE mT mU mL mO) (tm : Addr) (ea : Addr) (da : Addr) (ud : Addr) (pd_ : Value) (xd_ : Value) (icd : Int32) (fa : Addr) (ue : Addr) (uf : Addr) (xe_ : Value) (xf_ : Value) (ice : Int32) (icf : Int32) (h0 : Heap) (n0 : Nat) (O0 : Old Z n0 h0) (Nd : Ent Z h0 wP da ud pd_ (.ref ea) xd_ icd) (Ne : Ent Z h0 wP ea ue (.ref da) xe_ (.ref fa) ice) (Nf : Ent Z h0 wP fa uf (.ref ea) .null xf_ icf) (hef : ea ≠ fa) (hde : da ≠ ea) (hdf : da ≠ fa) (g_da : n0 ≤ da) (g_ea : n0 ≤ ea) (g_fa : n0 ≤ fa) :
    MM l Z own_y41 jdk_2729_method_81_code 3 none ws (Rm 0 0 0 0) #[(.ref tm), (.ref ea)] h0 (QF n0 (QrmRLn Z wP ea da ud pd_ xd_ icd fa ue uf xe_ xf_ ice icf h0)) := by
  refine own_go hw (plainFor_of_name pn_72) #[vr tm, vr ea, .unset] (fun p e s m below meth c s₁ Pf hx hby hlk hown hnm hret hml hZ hh X0 e0 hPf Jf => ?_)
  have N0 := Fr.nil n0
  have KC0 := Keep.refl h0 [da, ea, fa]
  have J := Jf d76
  have J' := Jf d76'
  refine gy (fun t k => aN X0 J 0 rfl rfl (uN X0 J 1 rfl (aN X0 J 2 rfl rfl k))) ?_
  refine own_gf X0 J 3 452 Via.refl e0 Ne.2.2.2.2.2.1 (fun T233 X233 e233 => ?_)
  refine gy (fun t k => sAN X233 J 4 rfl #[vr tm, vr ea, vr fa] (aN X233 J 5 rfl rfl (aN X233 J 6 rfl rfl k))) ?_
  refine own_gf X233 J 7 438 Via.refl e233 Nf.2.2.2.2.1 (fun T234 X234 e234 => ?_)
  refine own_pf (ty := (.object S_1)) (v' := .null) X234 J 8 452 Via.refl e234 Ne.2.2.2.2.2.1 Ne.1 (Or.inl (ww hw 453 rfl)) 418 rfl rfl N0 g_ea (fun T235 h235 _ X235 e235 W235 N235 => ?_)
  have M235 := Ne.s_right (own_lay hw) W235
  have O235 := O0.wr W235 g_ea
  have KC235 := KC0.wr W235 (il 1)
  refine gy (fun t k => aN X235 J 9 rfl rfl k) ?_
  refine own_gf X235 J 10 438 Via.refl e235 (Nf.other W235 hef.symm).2.2.2.2.1 (fun T236 X236 e236 => ?_)
  refine gy (fun t k => uY X236 J 11 rfl 32 (aN X236 J 12 rfl rfl (aN X236 J 13 rfl rfl k))) ?_
  refine own_gf X236 J 14 451 Via.refl e236 M235.2.2.2.1 (fun T237 X237 e237 => ?_)
  refine own_pf (ty := (.object S_1)) (v' := (.ref da)) X237 J 15 451 Via.refl e237 (Nf.other W235 hef.symm).2.2.2.1 (Nf.other W235 hef.symm).1 (Or.inl (ww hw 432 rfl)) 418 rfl rfl N235 g_fa (fun T238 h238 _ X238 e238 W238 N238 => ?_)
  have M238 := (Nf.other W235 hef.symm).s_parent (own_lay hw) W238
  have O238 := O235.wr W238 g_fa
  have KC238 := KC235.wr W238 (il 2)
  refine gy (fun t k => aN X238 J 16 rfl rfl k) ?_
  refine own_gf X238 J 17 451 Via.refl e238 (M235.other W238 hef).2.2.2.1 (fun T239 X239 e239 => ?_)
  refine gy (fun t k => wY X239 J 18 rfl 55 (aN X239 J' 0 rfl rfl k)) ?_
  refine own_gf X239 J' 1 451 Via.refl e239 (M235.other W238 hef).2.2.2.1 (fun T240 X240 e240 => ?_)
  have c241 := ((Nd.other W235 hde).other W238 hdf)
  refine own_gf X240 J' 2 438 Via.refl e240 c241.2.2.2.2.1 (fun T242 X242 e242 => ?_)
  refine gy (fun t k => aN X242 J' 3 rfl rfl (jQ X242 J' 4 rfl true (decide_eq_true rfl) 66 (aN X242 J' 5 rfl rfl k))) ?_
  refine own_gf X242 J' 6 451 Via.refl e242 (M235.other W238 hef).2.2.2.1 (fun T243 X243 e243 => ?_)
  refine gy (fun t k => aN X243 J' 7 rfl rfl k) ?_
  refine own_pf (ty := (.object S_1)) (v' := (.ref fa)) X243 J' 8 438 Via.refl e243 c241.2.2.2.2.1 c241.1 (Or.inl (ww hw 439 rfl)) 418 rfl rfl N238 g_da (fun T244 h244 _ X244 e244 W244 N244 => ?_)
  have M244 := c241.s_left (own_lay hw) W244
  have O244 := O238.wr W244 g_da
  have KC244 := KC238.wr W244 (il 0)
  refine gy (fun t k => jG X244 J' 9 rfl 85 (aN X244 J 23 rfl rfl (aN X244 J 24 rfl rfl k))) ?_
  refine own_pf (ty := (.object S_1)) (v' := (.ref ea)) X244 J 25 438 Via.refl e244 (M238.other W244 hdf.symm).2.2.2.2.1 (M238.other W244 hdf.symm).1 (Or.inl (ww hw 439 rfl)) 418 rfl rfl N244 g_fa (fun T245 h245 _ X245 e245 W245 N245 => ?_)
  have M245 := (M238.other W244 hdf.symm).s_left (own_lay hw) W245
  have O245 := O244.wr W245 g_fa
  have KC245 := KC244.wr W245 (il 2)
  refine gy (fun t k => aN X245 J 26 rfl rfl (aN X245 J 27 rfl rfl k)) ?_
  have c246 := (((M235.other W238 hef).other W244 hde.symm).other W245 hef)
  refine own_pf (ty := (.object S_1)) (v' := (.ref fa)) X245 J 28 451 Via.refl e245 c246.2.2.2.1 c246.1 (Or.inl (ww hw 432 rfl)) 418 rfl rfl N245 g_ea (fun T247 h247 _ X247 e247 W247 N247 => ?_)
  have M247 := c246.s_parent (own_lay hw) W247
  have O247 := O245.wr W247 g_ea
  have KC247 := KC245.wr W247 (il 1)
  have c248 := ((M244.other W245 hdf).other W247 hde)
  exact rV X247 hret hlk hPf J 29 ⟨⟨rfl, (by rw [e247]; exact KC247), (by rw [e247]; exact c248), (by rw [e247]; exact (M245.other W247 hef.symm)), (by rw [e247]; exact M247)⟩, N247⟩
def L78' : List (Nat × Instr × Nat) := [(55, a_1), (56, .getfield 124, 3), (59, .getfield 114, 3), (62, a_1), (63, .if_acmp .ne 14, 3), (66, a_1), (67, .getfield 124, 3), (70, a_2), (71, .putfield 114, 3), (74, .goto 11, 3)]
theorem d78' : ∀ q ∈ L78', decode jdk_2729_method_82_code q.1 = .ok q.2 := by decide +kernel
def QrmRRn (Z : State) (wP : Addr) (ea : Addr) (da : Addr) (ud : Addr) (pd_ : Value) (xd_ : Value) (icd : Int32) (fa : Addr) (ue : Addr) (uf : Addr) (xe_ : Value) (xf_ : Value) (ice : Int32) (icf : Int32) (h0 : Heap) (v : Option Value) (h : Heap) : Prop := (v = none) ∧ (Keep h0 h [da, ea, fa]) ∧ (Ent Z h wP da ud pd_ xd_ (.ref fa) icd) ∧ (Ent Z h wP fa uf (.ref da) xf_ (.ref ea) icf) ∧ (Ent Z h wP ea ue (.ref fa) .null xe_ ice)
theorem rmRRn (hw : HW a0 Z) (G : Gh Z vcs wI wA cA vF wP wD kD wE kE mT mU mL mO) (tm : Addr) (ea : Addr) (da : Addr) (ud : Addr) (pd_ : Value) (xd_ : Value) (icd : Int32) (fa : Addr) (ue : Addr) (uf : Addr) (xe_ : Value) (xf_ : Value) (ice : Int32) (icf : Int32) (h0 : Heap) (n0 : Nat) (O0 : Old Z n0 h0) (Nd : Ent Z h0 wP da ud pd_ xd_ (.ref ea) icd) (Ne : Ent Z h0 wP ea ue (.ref da) (.ref fa) xe_ ice) (Nf : Ent Z h0 wP fa uf (.ref ea) xf_ .null icf) (hef : ea ≠ fa) (hde : da ≠ ea) (hdf : da ≠ fa) (g_da : n0 ≤ da) (g_ea : n0 ≤ ea) (g_fa : n0 ≤ fa) :
    MM l Z own_y42 jdk_2729_method_82_code 3 none ws (Rm 0 0 0 0) #[(.ref tm), (.ref ea)] h0 (QF n0 (QrmRRn Z wP ea da ud pd_ xd_ icd fa ue uf xe_ xf_ ice icf h0)) := by
  refine own_go hw (plainFor_of_name pn_72) #[vr tm, vr ea, .unset] (fun p e s m below meth c s₁ Pf hx hby hlk hown hnm hret hml hZ hh X0 e0 hPf Jf => ?_)
  have N0 := Fr.nil n0
  have KC0 := Keep.refl h0 [da, ea, fa]
  have J := Jf d78
  have J' := Jf d78'
  refine gy (fun t k => aN X0 J 0 rfl rfl (uN X0 J 1 rfl (aN X0 J 2 rfl rfl k))) ?_
  refine own_gf X0 J 3 438 Via.refl e0 Ne.2.2.2.2.1 (fun T249 X249 e249 => ?_)
  refine gy (fun t k => sAN X249 J 4 rfl #[vr tm, vr ea, vr fa] (aN X249 J 5 rfl rfl (aN X249 J 6 rfl rfl k))) ?_
  refine own_gf X249 J 7 452 Via.refl e249 Nf.2.2.2.2.2.1 (fun T250 X250 e250 => ?_)
  refine own_pf (ty := (.object S_1)) (v' := .null) X250 J 8 438 Via.refl e250 Ne.2.2.2.2.1 Ne.1 (Or.inl (ww hw 439 rfl)) 418 rfl rfl N0 g_ea (fun T251 h251 _ X251 e251 W251 N251 => ?_)
  have M251 := Ne.s_left (own_lay hw) W251
  have O251 := O0.wr W251 g_ea
  have KC251 := KC0.wr W251 (il 1)
  refine gy (fun t k => aN X251 J 9 rfl rfl k) ?_
  refine own_gf X251 J 10 452 Via.refl e251 (Nf.other W251 hef.symm).2.2.2.2.2.1 (fun T252 X252 e252 => ?_)
  refine gy (fun t k => uY X252 J 11 rfl 32 (aN X252 J 12 rfl rfl (aN X252 J 13 rfl rfl k))) ?_
  refine own_gf X252 J 14 451 Via.refl e252 M251.2.2.2.1 (fun T253 X253 e253 => ?_)
  refine own_pf (ty := (.object S_1)) (v' := (.ref da)) X253 J 15 451 Via.refl e253 (Nf.other W251 hef.symm).2.2.2.1 (Nf.other W251 hef.symm).1 (Or.inl (ww hw 432 rfl)) 418 rfl rfl N251 g_fa (fun T254 h254 _ X254 e254 W254 N254 => ?_)
  have M254 := (Nf.other W251 hef.symm).s_parent (own_lay hw) W254
  have O254 := O251.wr W254 g_fa
  have KC254 := KC251.wr W254 (il 2)
  refine gy (fun t k => aN X254 J 16 rfl rfl k) ?_
  refine own_gf X254 J 17 451 Via.refl e254 (M251.other W254 hef).2.2.2.1 (fun T255 X255 e255 => ?_)
  refine gy (fun t k => wY X255 J 18 rfl 55 (aN X255 J' 0 rfl rfl k)) ?_
  refine own_gf X255 J' 1 451 Via.refl e255 (M251.other W254 hef).2.2.2.1 (fun T256 X256 e256 => ?_)
  have c257 := ((Nd.other W251 hde).other W254 hdf)
  refine own_gf X256 J' 2 452 Via.refl e256 c257.2.2.2.2.2.1 (fun T258 X258 e258 => ?_)
  refine gy (fun t k => aN X258 J' 3 rfl rfl (jQ X258 J' 4 rfl true (decide_eq_true rfl) 66 (aN X258 J' 5 rfl rfl k))) ?_
  refine own_gf X258 J' 6 451 Via.refl e258 (M251.other W254 hef).2.2.2.1 (fun T259 X259 e259 => ?_)
  refine gy (fun t k => aN X259 J' 7 rfl rfl k) ?_
  refine own_pf (ty := (.object S_1)) (v' := (.ref fa)) X259 J' 8 452 Via.refl e259 c257.2.2.2.2.2.1 c257.1 (Or.inl (ww hw 453 rfl)) 418 rfl rfl N254 g_da (fun T260 h260 _ X260 e260 W260 N260 => ?_)
  have M260 := c257.s_right (own_lay hw) W260
  have O260 := O254.wr W260 g_da
  have KC260 := KC254.wr W260 (il 0)
  refine gy (fun t k => jG X260 J' 9 rfl 85 (aN X260 J 23 rfl rfl (aN X260 J 24 rfl rfl k))) ?_
  refine own_pf (ty := (.object S_1)) (v' := (.ref ea)) X260 J 25 452 Via.refl e260 (M254.other W260 hdf.symm).2.2.2.2.2.1 (M254.other W260 hdf.symm).1 (Or.inl (ww hw 453 rfl)) 418 rfl rfl N260 g_fa (fun T261 h261 _ X261 e261 W261 N261 => ?_)
  have M261 := (M254.other W260 hdf.symm).s_right (own_lay hw) W261
  have O261 := O260.wr W261 g_fa
  have KC261 := KC260.wr W261 (il 2)
  refine gy (fun t k => aN X261 J 26 rfl rfl (aN X261 J 27 rfl rfl k)) ?_
  have c262 := (((M251.other W254 hef).other W260 hde.symm).other W261 hef)
  refine own_pf (ty := (.object S_1)) (v' := (.ref fa)) X261 J 28 451 Via.refl e261 c262.2.2.2.1 c262.1 (Or.inl (ww hw 432 rfl)) 418 rfl rfl N261 g_ea (fun T263 h263 _ X263 e263 W263 N263 => ?_)
  have M263 := c262.s_parent (own_lay hw) W263
  have O263 := O261.wr W263 g_ea
  have KC263 := KC261.wr W263 (il 1)
  have c264 := ((M260.other W261 hdf).other W263 hde)
  exact rV X263 hret hlk hPf J 29 ⟨⟨rfl, (by rw [e263]; exact KC263), (by rw [e263]; exact c264), (by rw [e263]; exact (M261.other W263 hef.symm)), (by rw [e263]; exact M263)⟩, N263⟩
def L71 : List (Nat × Instr × Nat) := [(0, a_1), (1, .iconst 0, 1), (2, .putfield 290, 3), (5, a_1), (6, .ifnull 252, 3), (9, a_1), (10, a_0), (11, .getfield 101, 3), (14, .if_acmp .eq 244, 3), (17, a_1), (18, .getfield 124, 3), (21, .getfield 290, 3), (24, .ifCond .ne 234, 3), (258, a_0), (259, .getfield 101, 3), (262, .iconst 1, 1), (263, .putfield 290, 3), (266, .return_, 1)]
theorem d71 : ∀ q ∈ L71, decode jdk_2729_method_83_code q.1 = .ok q.2 := by decide +kernel
def QrmFa (Z : State) (wP : Addr) (tm : Addr) (xa : Addr) (ea : Addr) (uxa : Addr) (ue : Addr) (lx : Value) (rx : Value) (le_ : Value) (re_ : Value) (sz : Int32) (mc : Int32) (nk : Value) (h0 : Heap) (v : Option Value) (h : Heap) : Prop := (v = none) ∧ (Keep h0 h [xa, ea]) ∧ (Mp Z h tm (.ref ea) sz mc nk) ∧ (Ent Z h wP xa uxa (.ref ea) lx rx (0 : Int32)) ∧ (Ent Z h wP ea ue .null le_ re_ (1 : Int32))
abbrev own_y43 : MethodName := ⟨S_6, "fixAfterInsertion", "(Ljava/util/TreeMap$Entry;)V"⟩
theorem rmFa (hw : HW a0 Z) (G : Gh Z vcs wI wA cA vF wP wD kD wE kE mT mU mL mO) (tm : Addr) (xa : Addr) (ea : Addr) (uxa : Addr) (ue : Addr) (lx : Value) (rx : Value) (le_ : Value) (re_ : Value) (icx : Int32) (sz : Int32) (mc : Int32) (nk : Value) (h0 : Heap) (n0 : Nat) (O0 : Old Z n0 h0) (Mt : Mp Z h0 tm (.ref ea) sz mc nk) (Nx : Ent Z h0 wP xa uxa (.ref ea) lx rx icx) (Ne : Ent Z h0 wP ea ue .null le_ re_ (1 : Int32)) (hxe : xa ≠ ea) (g_xa : n0 ≤ xa) (g_ea : n0 ≤ ea) :
    MM l Z own_y43 jdk_2729_method_83_code 3 none ws (Rm 0 0 0 0) #[(.ref tm), (.ref xa)] h0 (QF n0 (QrmFa Z wP tm xa ea uxa ue lx rx le_ re_ sz mc nk h0)) := by
  refine own_go hw (plainFor_of_name pn_72) #[vr tm, vr xa, .unset] (fun p e s m below meth c s₁ Pf hx hby hlk hown hnm hret hml hZ hh X0 e0 hPf Jf => ?_)
  have N0 := Fr.nil n0
  have KC0 := Keep.refl h0 [xa, ea]
  have J := Jf d71
  refine gy (fun t k => aN X0 J 0 rfl rfl (cI X0 J 1 rfl 0 k)) ?_
  refine own_pf (ty := .boolean) (v' := (.int 0)) X0 J 2 450 Via.refl e0 Nx.2.2.2.2.2.2 Nx.1 (Or.inl (ww hw 426 rfl)) 418 rfl rfl N0 g_xa (fun T265 h265 _ X265 e265 W265 N265 => ?_)
  have M265 := Nx.s_color (own_lay hw) W265
  have O265 := O0.wr W265 g_xa
  have KC265 := KC0.wr W265 (il 0)
  refine gy (fun t k => aN X265 J 3 rfl rfl (uN X265 J 4 rfl (aN X265 J 5 rfl rfl (aN X265 J 6 rfl rfl k)))) ?_
  refine own_gf X265 J 7 214 Via.refl e265 (Mt.other W265 (ne_exa Mt.1 Nx.1 (by decide))).2.2.2.2.1 (fun T266 X266 e266 => ?_)
  refine gy (fun t k => jQ X266 J 8 rfl false (decide_eq_false (fun q => hxe (Value.ref.inj q))) 17 (aN X266 J 9 rfl rfl k)) ?_
  refine own_gf X266 J 10 451 Via.refl e266 M265.2.2.2.1 (fun T267 X267 e267 => ?_)
  refine own_gf X267 J 11 450 Via.refl e267 (Ne.other W265 hxe.symm).2.2.2.2.2.2 (fun T268 X268 e268 => ?_)
  refine gy (fun t k => fY X268 J 12 rfl ((if0 _ _).trans (feq (by decide)).2) 258 (aN X268 J 13 rfl rfl k)) ?_
  refine own_gf X268 J 14 214 Via.refl e268 (Mt.other W265 (ne_exa Mt.1 Nx.1 (by decide))).2.2.2.2.1 (fun T269 X269 e269 => ?_)
  refine gy (fun t k => cI X269 J 15 rfl 1 k) ?_
  refine own_pf (ty := .boolean) (v' := (.int 1)) X269 J 16 450 Via.refl e269 (Ne.other W265 hxe.symm).2.2.2.2.2.2 (Ne.other W265 hxe.symm).1 (Or.inl (ww hw 426 rfl)) 418 rfl rfl N265 g_ea (fun T270 h270 _ X270 e270 W270 N270 => ?_)
  have M270 := (Ne.other W265 hxe.symm).s_color (own_lay hw) W270
  have O270 := O265.wr W270 g_ea
  have KC270 := KC265.wr W270 (il 1)
  have c271 := ((Mt.other W265 (ne_exa Mt.1 Nx.1 (by decide))).other W270 (ne_exa Mt.1 Ne.1 (by decide)))
  exact rV X270 hret hlk hPf J 17 ⟨⟨rfl, (by rw [e270]; exact KC270), (by rw [e270]; exact c271), (by rw [e270]; exact (M265.other W270 hxe)), (by rw [e270]; exact M270)⟩, N270⟩
theorem pd_23 : parseMethodDescriptor "(Ljava/util/TreeMap$Entry;)Ljava/util/TreeMap$Entry;" = some ⟨[(.object S_1)], some (.object S_1)⟩ := by decide +kernel
theorem pd_24 : parseMethodDescriptor "(Ljava/util/TreeMap$Entry;)Z" = some ⟨[(.object S_1)], some .boolean⟩ := by decide +kernel
theorem pd_25 : parseMethodDescriptor "(Ljava/util/TreeMap$Entry;Z)V" = some ⟨[(.object S_1), .boolean], none⟩ := by decide +kernel
theorem pd_26 : parseMethodDescriptor "(Ljava/util/TreeMap$Entry;)V" = some ⟨[(.object S_1)], none⟩ := by decide +kernel
def L71' : List (Nat × Instr × Nat) := [(27, a_1), (28, .invokestatic 294, 3), (31, a_1), (32, .invokestatic 294, 3), (35, .invokestatic 294, 3), (38, .invokestatic 297, 3), (41, .if_acmp .ne 110, 3), (44, a_1), (45, .invokestatic 294, 3), (48, .invokestatic 294, 3), (51, .invokestatic 300, 3), (54, .astore_n 2, 1), (55, a_2), (56, .invokestatic 303, 3), (59, .ifCond .ne 38, 3), (97, a_1), (98, a_1), (99, .invokestatic 294, 3), (102, .invokestatic 300, 3), (105, .if_acmp .ne 13, 3), (118, a_1), (119, .invokestatic 294, 3), (122, .iconst 1, 1), (123, .invokestatic 307, 3), (126, a_1), (127, .invokestatic 294, 3), (130, .invokestatic 294, 3), (133, .iconst 0, 1), (134, .invokestatic 307, 3), (137, a_0), (138, a_1), (139, .invokestatic 294, 3), (142, .invokestatic 294, 3), (145, .invokevirtual 314, 3), (148, .goto (-143), 3)]
theorem d71' : ∀ q ∈ L71', decode jdk_2729_method_83_code q.1 = .ok q.2 := by decide +kernel
def QrmFLL (Z : State) (wP : Addr) (tm : Addr) (xa : Addr) (pa : Addr) (qa : Addr) (uxa : Addr) (upa : Addr) (uq : Addr) (sz : Int32) (mc : Int32) (nk : Value) (h0 : Heap) (v : Option Value) (h : Heap) : Prop := (v = none) ∧ (Keep h0 h [tm, xa, pa, qa]) ∧ (Mp Z h tm (.ref pa) sz mc nk) ∧ (Ent Z h wP pa upa .null (.ref xa) (.ref qa) (1 : Int32)) ∧ (Ent Z h wP xa uxa (.ref pa) .null .null (0 : Int32)) ∧ (Ent Z h wP qa uq (.ref pa) .null .null (0 : Int32))
theorem rmFLL (hw : HW a0 Z) (G : Gh Z vcs wI wA cA vF wP wD kD wE kE mT mU mL mO) (tm : Addr) (xa : Addr) (pa : Addr) (qa : Addr) (uxa : Addr) (upa : Addr) (uq : Addr) (sz : Int32) (mc : Int32) (nk : Value) (h0 : Heap) (n0 : Nat) (O0 : Old Z n0 h0) (Mt : Mp Z h0 tm (.ref qa) sz mc nk) (Nx : Ent Z h0 wP xa uxa (.ref pa) .null .null (1 : Int32)) (Np : Ent Z h0 wP pa upa (.ref qa) (.ref xa) .null (0 : Int32)) (Nq : Ent Z h0 wP qa uq .null (.ref pa) .null (1 : Int32)) (hxp : xa ≠ pa) (hxq : xa ≠ qa) (hpq : pa ≠ qa) (g_tm : n0 ≤ tm) (g_xa : n0 ≤ xa) (g_pa : n0 ≤ pa) (g_qa : n0 ≤ qa) :
    MM l Z own_y43 jdk_2729_method_83_code 3 none ws (Rm 1 0 0 14) #[(.ref tm), (.ref xa)] h0 (QF n0 (QrmFLL Z wP tm xa pa qa uxa upa uq sz mc nk h0)) := by
  refine own_go hw (plainFor_of_name pn_72) #[vr tm, vr xa, .unset] (fun p e s m below meth c s₁ Pf hx hby hlk hown hnm hret hml hZ hh X0 e0 hPf Jf => ?_)
  have N0 := Fr.nil n0
  have KC0 := Keep.refl h0 [tm, xa, pa, qa]
  have J := Jf d71
  have J' := Jf d71'
  refine gy (fun t k => aN X0 J 0 rfl rfl (cI X0 J 1 rfl 0 k)) ?_
  refine own_pf (ty := .boolean) (v' := (.int 0)) X0 J 2 450 Via.refl e0 Nx.2.2.2.2.2.2 Nx.1 (Or.inl (ww hw 426 rfl)) 418 rfl rfl N0 g_xa (fun T272 h272 _ X272 e272 W272 N272 => ?_)
  have M272 := Nx.s_color (own_lay hw) W272
  have O272 := O0.wr W272 g_xa
  have KC272 := KC0.wr W272 (il 1)
  refine gy (fun t k => aN X272 J 3 rfl rfl (uN X272 J 4 rfl (aN X272 J 5 rfl rfl (aN X272 J 6 rfl rfl k)))) ?_
  refine own_gf X272 J 7 214 Via.refl e272 (Mt.other W272 (ne_exa Mt.1 Nx.1 (by decide))).2.2.2.2.1 (fun T273 X273 e273 => ?_)
  refine gy (fun t k => jQ X273 J 8 rfl false (decide_eq_false (fun q => hxq (Value.ref.inj q))) 17 (aN X273 J 9 rfl rfl k)) ?_
  refine own_gf X273 J 10 451 Via.refl e273 M272.2.2.2.1 (fun T274 X274 e274 => ?_)
  refine own_gf X274 J 11 450 Via.refl e274 (Np.other W272 hxp.symm).2.2.2.2.2.2 (fun T275 X275 e275 => ?_)
  refine gy (fun t k => fN X275 J 12 rfl ((if0 _ _).trans (teq (by decide)).2) (aN X275 J' 0 rfl rfl k)) ?_
  refine own_cs (rm_parentOf hw G _ _ _ _ _ _ _ _ O272 M272 rfl) X275 J' 1 454 455 50 456 e275 0 pd_23 (kP fun T276 v276 X276 e276 q276 => ?_)
  obtain rfl := q276
  show G_ 31 _ [(.ref pa)]
  refine gy (fun t k => aN X276 J' 2 rfl rfl k) ?_
  refine own_cs (rm_parentOf hw G _ _ _ _ _ _ _ _ O272 M272 rfl) X276 J' 3 454 455 50 456 e276 1 pd_23 (kP fun T277 v277 X277 e277 q277 => ?_)
  obtain rfl := q277
  show G_ 35 _ [(.ref pa), (.ref pa)]
  refine own_cs (rm_parentOf hw G _ _ _ _ _ _ _ _ O272 (Np.other W272 hxp.symm) rfl) X277 J' 4 454 455 50 456 e277 1 pd_23 (kP fun T278 v278 X278 e278 q278 => ?_)
  obtain rfl := q278
  show G_ 38 _ [(.ref qa), (.ref pa)]
  refine own_cs (rm_leftOf hw G _ _ _ _ _ _ _ _ O272 (Nq.other W272 hxq.symm) rfl) X278 J' 5 457 458 50 459 e278 1 pd_23 (kP fun T279 v279 X279 e279 q279 => ?_)
  obtain rfl := q279
  show G_ 41 _ [(.ref pa), (.ref pa)]
  refine gy (fun t k => jQ X279 J' 6 rfl true (decide_eq_true rfl) 44 (aN X279 J' 7 rfl rfl k)) ?_
  refine own_cs (rm_parentOf hw G _ _ _ _ _ _ _ _ O272 M272 rfl) X279 J' 8 454 455 50 456 e279 0 pd_23 (kP fun T280 v280 X280 e280 q280 => ?_)
  obtain rfl := q280
  show G_ 48 _ [(.ref pa)]
  refine own_cs (rm_parentOf hw G _ _ _ _ _ _ _ _ O272 (Np.other W272 hxp.symm) rfl) X280 J' 9 454 455 50 456 e280 0 pd_23 (kP fun T281 v281 X281 e281 q281 => ?_)
  obtain rfl := q281
  show G_ 51 _ [(.ref qa)]
  refine own_cs (rm_rightOf hw G _ _ _ _ _ _ _ _ O272 (Nq.other W272 hxq.symm) rfl) X281 J' 10 460 461 50 462 e281 0 pd_23 (kP fun T282 v282 X282 e282 q282 => ?_)
  obtain rfl := q282
  show G_ 54 _ [.null]
  refine gy (fun t k => sAN X282 J' 11 rfl #[vr tm, vr xa, .val .null] (aN X282 J' 12 rfl rfl k)) ?_
  refine own_cs (rmCoN hw G _ _ O272 ) X282 J' 13 463 464 50 465 e282 0 pd_24 (kP fun T283 v283 X283 e283 q283 => ?_)
  obtain rfl := q283
  show G_ 59 _ [(.int 1)]
  refine gy (fun t k => fY X283 J' 14 rfl ((if0 _ _).trans (feq (by decide)).2) 97 (aN X283 J' 15 rfl rfl (aN X283 J' 16 rfl rfl k))) ?_
  refine own_cs (rm_parentOf hw G _ _ _ _ _ _ _ _ O272 M272 rfl) X283 J' 17 454 455 50 456 e283 1 pd_23 (kP fun T284 v284 X284 e284 q284 => ?_)
  obtain rfl := q284
  show G_ 102 _ [(.ref pa), (.ref xa)]
  refine own_cs (rm_rightOf hw G _ _ _ _ _ _ _ _ O272 (Np.other W272 hxp.symm) rfl) X284 J' 18 460 461 50 462 e284 1 pd_23 (kP fun T285 v285 X285 e285 q285 => ?_)
  obtain rfl := q285
  show G_ 105 _ [.null, (.ref xa)]
  refine gy (fun t k => jQ X285 J' 19 rfl false (decide_eq_false nofun) 118 (aN X285 J' 20 rfl rfl k)) ?_
  refine own_cs (rm_parentOf hw G _ _ _ _ _ _ _ _ O272 M272 rfl) X285 J' 21 454 455 50 456 e285 0 pd_23 (kP fun T286 v286 X286 e286 q286 => ?_)
  obtain rfl := q286
  show G_ 122 _ [(.ref pa)]
  refine gy (fun t k => cI X286 J' 22 rfl 1 k) ?_
  refine own_cs (rmSc1 hw G _ _ _ _ _ _ _ _ O272 (Np.other W272 hxp.symm) g_pa) X286 J' 23 471 472 50 473 e286 0 pd_25 (kF N272 fun _ T287 v287 X287 N287 q287 => ?_)
  obtain ⟨rfl, K287, f287_0⟩ := q287
  have O287 := O272.keep K287 (allS g_pa all0)
  have KC287 := KC272.trans K287 (allS (il 2) all0)
  show G_ 126 _ []
  refine gy (fun t k => aN X287 J' 24 rfl rfl k) ?_
  refine own_cs (rm_parentOf hw G _ _ _ _ _ _ _ _ O287 (M272.keep K287 (ninS hxp nin0)) rfl) X287 J' 25 454 455 50 456 rfl 0 pd_23 (kP fun T288 v288 X288 e288 q288 => ?_)
  obtain rfl := q288
  show G_ 130 _ [(.ref pa)]
  refine own_cs (rm_parentOf hw G _ _ _ _ _ _ _ _ O287 f287_0 rfl) X288 J' 26 454 455 50 456 e288 0 pd_23 (kP fun T289 v289 X289 e289 q289 => ?_)
  obtain rfl := q289
  show G_ 133 _ [(.ref qa)]
  refine gy (fun t k => cI X289 J' 27 rfl 0 k) ?_
  have c291 := ((Nq.other W272 hxq.symm).keep K287 (ninS hpq.symm nin0))
  refine own_cs (rmSc0 hw G _ _ _ _ _ _ _ _ O287 c291 g_qa) X289 J' 28 471 472 50 473 e289 0 pd_25 (kF N287 fun _ T290 v290 X290 N290 q290 => ?_)
  obtain ⟨rfl, K290, f290_0⟩ := q290
  have O290 := O287.keep K290 (allS g_qa all0)
  have KC290 := KC287.trans K290 (allS (il 3) all0)
  show G_ 137 _ []
  refine gy (fun t k => aN X290 J' 29 rfl rfl (aN X290 J' 30 rfl rfl k)) ?_
  have c293 := ((M272.keep K287 (ninS hxp nin0)).keep K290 (ninS hxq nin0))
  refine own_cs (rm_parentOf hw G _ _ _ _ _ _ _ _ O290 c293 rfl) X290 J' 31 454 455 50 456 rfl 1 pd_23 (kP fun T292 v292 X292 e292 q292 => ?_)
  obtain rfl := q292
  show G_ 142 _ [(.ref pa), (.ref tm)]
  refine own_cs (rm_parentOf hw G _ _ _ _ _ _ _ _ O290 (f287_0.keep K290 (ninS hpq nin0)) rfl) X292 J' 32 454 455 50 456 e292 1 pd_23 (kP fun T294 v294 X294 e294 q294 => ?_)
  obtain rfl := q294
  have c296 := (((Mt.other W272 (ne_exa Mt.1 Nx.1 (by decide))).keep K287 (ninS (ne_exa Mt.1 Np.1 (by decide)) nin0)).keep K290 (ninS (ne_exa Mt.1 Nq.1 (by decide)) nin0))
  show G_ 145 _ [(.ref qa), (.ref tm)]
  refine own_cp (rmRRr hw G _ _ _ _ _ _ _ _ _ _ _ _ _ _ O290 c296 f290_0 (f287_0.keep K290 (ninS hpq nin0)) hpq.symm g_tm g_qa g_pa) X294 J' 33 474 476 477 475 50 478 e294 c296.1 0 pd_26 (kF N290 fun _ T295 v295 X295 N295 q295 => ?_)
  obtain ⟨rfl, K295, f295_0, f295_1, f295_2⟩ := q295
  have O295 := O290.keep K295 (allS g_tm (allS g_qa (allS g_pa all0)))
  have KC295 := KC290.trans K295 (allS (il 0) (allS (il 3) (allS (il 2) all0)))
  show G_ 148 _ []
  refine gy (fun t k => jG X295 J' 34 rfl 5 (aN X295 J 3 rfl rfl (uN X295 J 4 rfl (aN X295 J 5 rfl rfl (aN X295 J 6 rfl rfl k))))) ?_
  refine own_gf X295 J 7 214 Via.refl rfl f295_0.2.2.2.2.1 (fun T297 X297 e297 => ?_)
  refine gy (fun t k => jQ X297 J 8 rfl false (decide_eq_false (fun q => hxp (Value.ref.inj q))) 17 (aN X297 J 9 rfl rfl k)) ?_
  refine own_gf X297 J 10 451 Via.refl e297 (c293.keep K295 (ninS (ne_exa Nx.1 Mt.1 (by decide)) (ninS hxq (ninS hxp nin0)))).2.2.2.1 (fun T298 X298 e298 => ?_)
  refine own_gf X298 J 11 450 Via.refl e298 f295_1.2.2.2.2.2.2 (fun T299 X299 e299 => ?_)
  refine gy (fun t k => fY X299 J 12 rfl ((if0 _ _).trans (feq (by decide)).2) 258 (aN X299 J 13 rfl rfl k)) ?_
  refine own_gf X299 J 14 214 Via.refl e299 f295_0.2.2.2.2.1 (fun T300 X300 e300 => ?_)
  refine gy (fun t k => cI X300 J 15 rfl 1 k) ?_
  refine own_pf (ty := .boolean) (v' := (.int 1)) X300 J 16 450 Via.refl e300 f295_1.2.2.2.2.2.2 f295_1.1 (Or.inl (ww hw 426 rfl)) 418 rfl rfl N295 g_pa (fun T301 h301 _ X301 e301 W301 N301 => ?_)
  have M301 := f295_1.s_color (own_lay hw) W301
  have O301 := O295.wr W301 g_pa
  have KC301 := KC295.wr W301 (il 2)
  have c302 := ((c293.keep K295 (ninS (ne_exa Nx.1 Mt.1 (by decide)) (ninS hxq (ninS hxp nin0)))).other W301 hxp)
  exact rV X301 hret hlk hPf J 17 ⟨⟨rfl, (by rw [e301]; exact KC301), (by rw [e301]; exact (f295_0.other W301 (ne_exa Mt.1 Np.1 (by decide)))), (by rw [e301]; exact M301), (by rw [e301]; exact c302), (by rw [e301]; exact (f295_2.other W301 hpq.symm))⟩, N301⟩
def L71'' : List (Nat × Instr × Nat) := [(108, a_1), (109, .invokestatic 294, 3), (112, .astore_n 1, 1), (113, a_0), (114, a_1), (115, .invokevirtual 311, 3)]
theorem d71'' : ∀ q ∈ L71'', decode jdk_2729_method_83_code q.1 = .ok q.2 := by decide +kernel
def QrmFLR (Z : State) (wP : Addr) (tm : Addr) (xa : Addr) (pa : Addr) (qa : Addr) (uxa : Addr) (upa : Addr) (uq : Addr) (sz : Int32) (mc : Int32) (nk : Value) (h0 : Heap) (v : Option Value) (h : Heap) : Prop := (v = none) ∧ (Keep h0 h [tm, xa, pa, qa]) ∧ (Mp Z h tm (.ref xa) sz mc nk) ∧ (Ent Z h wP xa uxa .null (.ref pa) (.ref qa) (1 : Int32)) ∧ (Ent Z h wP pa upa (.ref xa) .null .null (0 : Int32)) ∧ (Ent Z h wP qa uq (.ref xa) .null .null (0 : Int32))
theorem rmFLR (hw : HW a0 Z) (G : Gh Z vcs wI wA cA vF wP wD kD wE kE mT mU mL mO) (tm : Addr) (xa : Addr) (pa : Addr) (qa : Addr) (uxa : Addr) (upa : Addr) (uq : Addr) (sz : Int32) (mc : Int32) (nk : Value) (h0 : Heap) (n0 : Nat) (O0 : Old Z n0 h0) (Mt : Mp Z h0 tm (.ref qa) sz mc nk) (Nx : Ent Z h0 wP xa uxa (.ref pa) .null .null (1 : Int32)) (Np : Ent Z h0 wP pa upa (.ref qa) .null (.ref xa) (0 : Int32)) (Nq : Ent Z h0 wP qa uq .null (.ref pa) .null (1 : Int32)) (hxp : xa ≠ pa) (hxq : xa ≠ qa) (hpq : pa ≠ qa) (g_tm : n0 ≤ tm) (g_xa : n0 ≤ xa) (g_pa : n0 ≤ pa) (g_qa : n0 ≤ qa) :
    MM l Z own_y43 jdk_2729_method_83_code 3 none ws (Rm 1 0 0 14) #[(.ref tm), (.ref xa)] h0 (QF n0 (QrmFLR Z wP tm xa pa qa uxa upa uq sz mc nk h0)) := by
  refine own_go hw (plainFor_of_name pn_72) #[vr tm, vr xa, .unset] (fun p e s m below meth c s₁ Pf hx hby hlk hown hnm hret hml hZ hh X0 e0 hPf Jf => ?_)
  have N0 := Fr.nil n0
  have KC0 := Keep.refl h0 [tm, xa, pa, qa]
  have J := Jf d71
  have J' := Jf d71'
  have J'' := Jf d71''
  refine gy (fun t k => aN X0 J 0 rfl rfl (cI X0 J 1 rfl 0 k)) ?_
  refine own_pf (ty := .boolean) (v' := (.int 0)) X0 J 2 450 Via.refl e0 Nx.2.2.2.2.2.2 Nx.1 (Or.inl (ww hw 426 rfl)) 418 rfl rfl N0 g_xa (fun T303 h303 _ X303 e303 W303 N303 => ?_)
  have M303 := Nx.s_color (own_lay hw) W303
  have O303 := O0.wr W303 g_xa
  have KC303 := KC0.wr W303 (il 1)
  refine gy (fun t k => aN X303 J 3 rfl rfl (uN X303 J 4 rfl (aN X303 J 5 rfl rfl (aN X303 J 6 rfl rfl k)))) ?_
  refine own_gf X303 J 7 214 Via.refl e303 (Mt.other W303 (ne_exa Mt.1 Nx.1 (by decide))).2.2.2.2.1 (fun T304 X304 e304 => ?_)
  refine gy (fun t k => jQ X304 J 8 rfl false (decide_eq_false (fun q => hxq (Value.ref.inj q))) 17 (aN X304 J 9 rfl rfl k)) ?_
  refine own_gf X304 J 10 451 Via.refl e304 M303.2.2.2.1 (fun T305 X305 e305 => ?_)
  refine own_gf X305 J 11 450 Via.refl e305 (Np.other W303 hxp.symm).2.2.2.2.2.2 (fun T306 X306 e306 => ?_)
  refine gy (fun t k => fN X306 J 12 rfl ((if0 _ _).trans (teq (by decide)).2) (aN X306 J' 0 rfl rfl k)) ?_
  refine own_cs (rm_parentOf hw G _ _ _ _ _ _ _ _ O303 M303 rfl) X306 J' 1 454 455 50 456 e306 0 pd_23 (kP fun T307 v307 X307 e307 q307 => ?_)
  obtain rfl := q307
  show G_ 31 _ [(.ref pa)]
  refine gy (fun t k => aN X307 J' 2 rfl rfl k) ?_
  refine own_cs (rm_parentOf hw G _ _ _ _ _ _ _ _ O303 M303 rfl) X307 J' 3 454 455 50 456 e307 1 pd_23 (kP fun T308 v308 X308 e308 q308 => ?_)
  obtain rfl := q308
  show G_ 35 _ [(.ref pa), (.ref pa)]
  refine own_cs (rm_parentOf hw G _ _ _ _ _ _ _ _ O303 (Np.other W303 hxp.symm) rfl) X308 J' 4 454 455 50 456 e308 1 pd_23 (kP fun T309 v309 X309 e309 q309 => ?_)
  obtain rfl := q309
  show G_ 38 _ [(.ref qa), (.ref pa)]
  refine own_cs (rm_leftOf hw G _ _ _ _ _ _ _ _ O303 (Nq.other W303 hxq.symm) rfl) X309 J' 5 457 458 50 459 e309 1 pd_23 (kP fun T310 v310 X310 e310 q310 => ?_)
  obtain rfl := q310
  show G_ 41 _ [(.ref pa), (.ref pa)]
  refine gy (fun t k => jQ X310 J' 6 rfl true (decide_eq_true rfl) 44 (aN X310 J' 7 rfl rfl k)) ?_
  refine own_cs (rm_parentOf hw G _ _ _ _ _ _ _ _ O303 M303 rfl) X310 J' 8 454 455 50 456 e310 0 pd_23 (kP fun T311 v311 X311 e311 q311 => ?_)
  obtain rfl := q311
  show G_ 48 _ [(.ref pa)]
  refine own_cs (rm_parentOf hw G _ _ _ _ _ _ _ _ O303 (Np.other W303 hxp.symm) rfl) X311 J' 9 454 455 50 456 e311 0 pd_23 (kP fun T312 v312 X312 e312 q312 => ?_)
  obtain rfl := q312
  show G_ 51 _ [(.ref qa)]
  refine own_cs (rm_rightOf hw G _ _ _ _ _ _ _ _ O303 (Nq.other W303 hxq.symm) rfl) X312 J' 10 460 461 50 462 e312 0 pd_23 (kP fun T313 v313 X313 e313 q313 => ?_)
  obtain rfl := q313
  show G_ 54 _ [.null]
  refine gy (fun t k => sAN X313 J' 11 rfl #[vr tm, vr xa, .val .null] (aN X313 J' 12 rfl rfl k)) ?_
  refine own_cs (rmCoN hw G _ _ O303 ) X313 J' 13 463 464 50 465 e313 0 pd_24 (kP fun T314 v314 X314 e314 q314 => ?_)
  obtain rfl := q314
  show G_ 59 _ [(.int 1)]
  refine gy (fun t k => fY X314 J' 14 rfl ((if0 _ _).trans (feq (by decide)).2) 97 (aN X314 J' 15 rfl rfl (aN X314 J' 16 rfl rfl k))) ?_
  refine own_cs (rm_parentOf hw G _ _ _ _ _ _ _ _ O303 M303 rfl) X314 J' 17 454 455 50 456 e314 1 pd_23 (kP fun T315 v315 X315 e315 q315 => ?_)
  obtain rfl := q315
  show G_ 102 _ [(.ref pa), (.ref xa)]
  refine own_cs (rm_rightOf hw G _ _ _ _ _ _ _ _ O303 (Np.other W303 hxp.symm) rfl) X315 J' 18 460 461 50 462 e315 1 pd_23 (kP fun T316 v316 X316 e316 q316 => ?_)
  obtain rfl := q316
  show G_ 105 _ [(.ref xa), (.ref xa)]
  refine gy (fun t k => jQ X316 J' 19 rfl true (decide_eq_true rfl) 108 (aN X316 J'' 0 rfl rfl k)) ?_
  refine own_cs (rm_parentOf hw G _ _ _ _ _ _ _ _ O303 M303 rfl) X316 J'' 1 454 455 50 456 e316 0 pd_23 (kP fun T317 v317 X317 e317 q317 => ?_)
  obtain rfl := q317
  show G_ 112 _ [(.ref pa)]
  refine gy (fun t k => sAN X317 J'' 2 rfl #[vr tm, vr pa, .val .null] (aN X317 J'' 3 rfl rfl (aN X317 J'' 4 rfl rfl k))) ?_
  refine own_cp (rmRLn hw G tm _ _ _ _ _ _ _ _ _ _ _ _ _ _ _ O303 (Nq.other W303 hxq.symm) (Np.other W303 hxp.symm) M303 hxp.symm hpq.symm hxq.symm g_qa g_pa g_xa) X317 J'' 5 466 468 469 467 50 470 e317 (Mt.other W303 (ne_exa Mt.1 Nx.1 (by decide))).1 0 pd_26 (kF N303 fun _ T318 v318 X318 N318 q318 => ?_)
  obtain ⟨rfl, K318, f318_0, f318_1, f318_2⟩ := q318
  have O318 := O303.keep K318 (allS g_qa (allS g_pa (allS g_xa all0)))
  have KC318 := KC303.trans K318 (allS (il 3) (allS (il 2) (allS (il 1) all0)))
  show G_ 118 _ []
  refine gy (fun t k => aN X318 J' 20 rfl rfl k) ?_
  refine own_cs (rm_parentOf hw G _ _ _ _ _ _ _ _ O318 f318_2 rfl) X318 J' 21 454 455 50 456 rfl 0 pd_23 (kP fun T319 v319 X319 e319 q319 => ?_)
  obtain rfl := q319
  show G_ 122 _ [(.ref xa)]
  refine gy (fun t k => cI X319 J' 22 rfl 1 k) ?_
  refine own_cs (rmSc1 hw G _ _ _ _ _ _ _ _ O318 f318_1 g_xa) X319 J' 23 471 472 50 473 e319 0 pd_25 (kF N318 fun _ T320 v320 X320 N320 q320 => ?_)
  obtain ⟨rfl, K320, f320_0⟩ := q320
  have O320 := O318.keep K320 (allS g_xa all0)
  have KC320 := KC318.trans K320 (allS (il 1) all0)
  show G_ 126 _ []
  refine gy (fun t k => aN X320 J' 24 rfl rfl k) ?_
  refine own_cs (rm_parentOf hw G _ _ _ _ _ _ _ _ O320 (f318_2.keep K320 (ninS hxp.symm nin0)) rfl) X320 J' 25 454 455 50 456 rfl 0 pd_23 (kP fun T321 v321 X321 e321 q321 => ?_)
  obtain rfl := q321
  show G_ 130 _ [(.ref xa)]
  refine own_cs (rm_parentOf hw G _ _ _ _ _ _ _ _ O320 f320_0 rfl) X321 J' 26 454 455 50 456 e321 0 pd_23 (kP fun T322 v322 X322 e322 q322 => ?_)
  obtain rfl := q322
  show G_ 133 _ [(.ref qa)]
  refine gy (fun t k => cI X322 J' 27 rfl 0 k) ?_
  refine own_cs (rmSc0 hw G _ _ _ _ _ _ _ _ O320 (f318_0.keep K320 (ninS hxq.symm nin0)) g_qa) X322 J' 28 471 472 50 473 e322 0 pd_25 (kF N320 fun _ T323 v323 X323 N323 q323 => ?_)
  obtain ⟨rfl, K323, f323_0⟩ := q323
  have O323 := O320.keep K323 (allS g_qa all0)
  have KC323 := KC320.trans K323 (allS (il 3) all0)
  show G_ 137 _ []
  refine gy (fun t k => aN X323 J' 29 rfl rfl (aN X323 J' 30 rfl rfl k)) ?_
  have c325 := ((f318_2.keep K320 (ninS hxp.symm nin0)).keep K323 (ninS hpq nin0))
  refine own_cs (rm_parentOf hw G _ _ _ _ _ _ _ _ O323 c325 rfl) X323 J' 31 454 455 50 456 rfl 1 pd_23 (kP fun T324 v324 X324 e324 q324 => ?_)
  obtain rfl := q324
  show G_ 142 _ [(.ref xa), (.ref tm)]
  refine own_cs (rm_parentOf hw G _ _ _ _ _ _ _ _ O323 (f320_0.keep K323 (ninS hxq nin0)) rfl) X324 J' 32 454 455 50 456 e324 1 pd_23 (kP fun T326 v326 X326 e326 q326 => ?_)
  obtain rfl := q326
  have c328 := ((((Mt.other W303 (ne_exa Mt.1 Nx.1 (by decide))).keep K318 (ninS (ne_exa Mt.1 Nq.1 (by decide)) (ninS (ne_exa Mt.1 Np.1 (by decide)) (ninS (ne_exa Mt.1 Nx.1 (by decide)) nin0)))).keep K320 (ninS (ne_exa Mt.1 Nx.1 (by decide)) nin0)).keep K323 (ninS (ne_exa Mt.1 Nq.1 (by decide)) nin0))
  show G_ 145 _ [(.ref qa), (.ref tm)]
  refine own_cp (rmRRr hw G _ _ _ _ _ _ _ _ _ _ _ _ _ _ O323 c328 f323_0 (f320_0.keep K323 (ninS hxq nin0)) hxq.symm g_tm g_qa g_xa) X326 J' 33 474 476 477 475 50 478 e326 c328.1 0 pd_26 (kF N323 fun _ T327 v327 X327 N327 q327 => ?_)
  obtain ⟨rfl, K327, f327_0, f327_1, f327_2⟩ := q327
  have O327 := O323.keep K327 (allS g_tm (allS g_qa (allS g_xa all0)))
  have KC327 := KC323.trans K327 (allS (il 0) (allS (il 3) (allS (il 1) all0)))
  show G_ 148 _ []
  refine gy (fun t k => jG X327 J' 34 rfl 5 (aN X327 J 3 rfl rfl (uN X327 J 4 rfl (aN X327 J 5 rfl rfl (aN X327 J 6 rfl rfl k))))) ?_
  refine own_gf X327 J 7 214 Via.refl rfl f327_0.2.2.2.2.1 (fun T329 X329 e329 => ?_)
  refine gy (fun t k => jQ X329 J 8 rfl false (decide_eq_false (fun q => hxp.symm (Value.ref.inj q))) 17 (aN X329 J 9 rfl rfl k)) ?_
  refine own_gf X329 J 10 451 Via.refl e329 (c325.keep K327 (ninS (ne_exa Np.1 Mt.1 (by decide)) (ninS hpq (ninS hxp.symm nin0)))).2.2.2.1 (fun T330 X330 e330 => ?_)
  refine own_gf X330 J 11 450 Via.refl e330 f327_1.2.2.2.2.2.2 (fun T331 X331 e331 => ?_)
  refine gy (fun t k => fY X331 J 12 rfl ((if0 _ _).trans (feq (by decide)).2) 258 (aN X331 J 13 rfl rfl k)) ?_
  refine own_gf X331 J 14 214 Via.refl e331 f327_0.2.2.2.2.1 (fun T332 X332 e332 => ?_)
  refine gy (fun t k => cI X332 J 15 rfl 1 k) ?_
  refine own_pf (ty := .boolean) (v' := (.int 1)) X332 J 16 450 Via.refl e332 f327_1.2.2.2.2.2.2 f327_1.1 (Or.inl (ww hw 426 rfl)) 418 rfl rfl N327 g_xa (fun T333 h333 _ X333 e333 W333 N333 => ?_)
  have M333 := f327_1.s_color (own_lay hw) W333
  have O333 := O327.wr W333 g_xa
  have KC333 := KC327.wr W333 (il 1)
  have c334 := ((c325.keep K327 (ninS (ne_exa Np.1 Mt.1 (by decide)) (ninS hpq (ninS hxp.symm nin0)))).other W333 hxp.symm)
  exact rV X333 hret hlk hPf J 17 ⟨⟨rfl, (by rw [e333]; exact KC333), (by rw [e333]; exact (f327_0.other W333 (ne_exa Mt.1 Nx.1 (by decide)))), (by rw [e333]; exact M333), (by rw [e333]; exact c334), (by rw [e333]; exact (f327_2.other W333 hxq.symm))⟩, N333⟩
def L71''' : List (Nat × Instr × Nat) := [(151, a_1), (152, .invokestatic 294, 3), (155, .invokestatic 294, 3), (158, .invokestatic 297, 3), (161, .astore_n 2, 1), (162, a_2), (163, .invokestatic 303, 3), (166, .ifCond .ne 38, 3), (204, a_1), (205, a_1), (206, .invokestatic 294, 3), (209, .invokestatic 297, 3), (212, .if_acmp .ne 13, 3), (215, a_1), (216, .invokestatic 294, 3), (219, .astore_n 1, 1), (220, a_0), (221, a_1), (222, .invokevirtual 314, 3), (225, a_1), (226, .invokestatic 294, 3), (229, .iconst 1, 1), (230, .invokestatic 307, 3), (233, a_1), (234, .invokestatic 294, 3), (237, .invokestatic 294, 3), (240, .iconst 0, 1), (241, .invokestatic 307, 3), (244, a_0), (245, a_1), (246, .invokestatic 294, 3), (249, .invokestatic 294, 3), (252, .invokevirtual 311, 3), (255, .goto (-250), 3)]
theorem d71''' : ∀ q ∈ L71''', decode jdk_2729_method_83_code q.1 = .ok q.2 := by decide +kernel
def QrmFRL (Z : State) (wP : Addr) (tm : Addr) (xa : Addr) (pa : Addr) (qa : Addr) (uxa : Addr) (upa : Addr) (uq : Addr) (sz : Int32) (mc : Int32) (nk : Value) (h0 : Heap) (v : Option Value) (h : Heap) : Prop := (v = none) ∧ (Keep h0 h [tm, xa, pa, qa]) ∧ (Mp Z h tm (.ref xa) sz mc nk) ∧ (Ent Z h wP xa uxa .null (.ref qa) (.ref pa) (1 : Int32)) ∧ (Ent Z h wP pa upa (.ref xa) .null .null (0 : Int32)) ∧ (Ent Z h wP qa uq (.ref xa) .null .null (0 : Int32))
theorem rmFRL (hw : HW a0 Z) (G : Gh Z vcs wI wA cA vF wP wD kD wE kE mT mU mL mO) (tm : Addr) (xa : Addr) (pa : Addr) (qa : Addr) (uxa : Addr) (upa : Addr) (uq : Addr) (sz : Int32) (mc : Int32) (nk : Value) (h0 : Heap) (n0 : Nat) (O0 : Old Z n0 h0) (Mt : Mp Z h0 tm (.ref qa) sz mc nk) (Nx : Ent Z h0 wP xa uxa (.ref pa) .null .null (1 : Int32)) (Np : Ent Z h0 wP pa upa (.ref qa) (.ref xa) .null (0 : Int32)) (Nq : Ent Z h0 wP qa uq .null .null (.ref pa) (1 : Int32)) (hxp : xa ≠ pa) (hxq : xa ≠ qa) (hpq : pa ≠ qa) (g_tm : n0 ≤ tm) (g_xa : n0 ≤ xa) (g_pa : n0 ≤ pa) (g_qa : n0 ≤ qa) :
    MM l Z own_y43 jdk_2729_method_83_code 3 none ws (Rm 1 0 0 14) #[(.ref tm), (.ref xa)] h0 (QF n0 (QrmFRL Z wP tm xa pa qa uxa upa uq sz mc nk h0)) := by
  refine own_go hw (plainFor_of_name pn_72) #[vr tm, vr xa, .unset] (fun p e s m below meth c s₁ Pf hx hby hlk hown hnm hret hml hZ hh X0 e0 hPf Jf => ?_)
  have N0 := Fr.nil n0
  have KC0 := Keep.refl h0 [tm, xa, pa, qa]
  have J := Jf d71
  have J' := Jf d71'
  have J''' := Jf d71'''
  refine gy (fun t k => aN X0 J 0 rfl rfl (cI X0 J 1 rfl 0 k)) ?_
  refine own_pf (ty := .boolean) (v' := (.int 0)) X0 J 2 450 Via.refl e0 Nx.2.2.2.2.2.2 Nx.1 (Or.inl (ww hw 426 rfl)) 418 rfl rfl N0 g_xa (fun T335 h335 _ X335 e335 W335 N335 => ?_)
  have M335 := Nx.s_color (own_lay hw) W335
  have O335 := O0.wr W335 g_xa
  have KC335 := KC0.wr W335 (il 1)
  refine gy (fun t k => aN X335 J 3 rfl rfl (uN X335 J 4 rfl (aN X335 J 5 rfl rfl (aN X335 J 6 rfl rfl k)))) ?_
  refine own_gf X335 J 7 214 Via.refl e335 (Mt.other W335 (ne_exa Mt.1 Nx.1 (by decide))).2.2.2.2.1 (fun T336 X336 e336 => ?_)
  refine gy (fun t k => jQ X336 J 8 rfl false (decide_eq_false (fun q => hxq (Value.ref.inj q))) 17 (aN X336 J 9 rfl rfl k)) ?_
  refine own_gf X336 J 10 451 Via.refl e336 M335.2.2.2.1 (fun T337 X337 e337 => ?_)
  refine own_gf X337 J 11 450 Via.refl e337 (Np.other W335 hxp.symm).2.2.2.2.2.2 (fun T338 X338 e338 => ?_)
  refine gy (fun t k => fN X338 J 12 rfl ((if0 _ _).trans (teq (by decide)).2) (aN X338 J' 0 rfl rfl k)) ?_
  refine own_cs (rm_parentOf hw G _ _ _ _ _ _ _ _ O335 M335 rfl) X338 J' 1 454 455 50 456 e338 0 pd_23 (kP fun T339 v339 X339 e339 q339 => ?_)
  obtain rfl := q339
  show G_ 31 _ [(.ref pa)]
  refine gy (fun t k => aN X339 J' 2 rfl rfl k) ?_
  refine own_cs (rm_parentOf hw G _ _ _ _ _ _ _ _ O335 M335 rfl) X339 J' 3 454 455 50 456 e339 1 pd_23 (kP fun T340 v340 X340 e340 q340 => ?_)
  obtain rfl := q340
  show G_ 35 _ [(.ref pa), (.ref pa)]
  refine own_cs (rm_parentOf hw G _ _ _ _ _ _ _ _ O335 (Np.other W335 hxp.symm) rfl) X340 J' 4 454 455 50 456 e340 1 pd_23 (kP fun T341 v341 X341 e341 q341 => ?_)
  obtain rfl := q341
  show G_ 38 _ [(.ref qa), (.ref pa)]
  refine own_cs (rm_leftOf hw G _ _ _ _ _ _ _ _ O335 (Nq.other W335 hxq.symm) rfl) X341 J' 5 457 458 50 459 e341 1 pd_23 (kP fun T342 v342 X342 e342 q342 => ?_)
  obtain rfl := q342
  show G_ 41 _ [.null, (.ref pa)]
  refine gy (fun t k => jQ X342 J' 6 rfl false (decide_eq_false nofun) 151 (aN X342 J''' 0 rfl rfl k)) ?_
  refine own_cs (rm_parentOf hw G _ _ _ _ _ _ _ _ O335 M335 rfl) X342 J''' 1 454 455 50 456 e342 0 pd_23 (kP fun T343 v343 X343 e343 q343 => ?_)
  obtain rfl := q343
  show G_ 155 _ [(.ref pa)]
  refine own_cs (rm_parentOf hw G _ _ _ _ _ _ _ _ O335 (Np.other W335 hxp.symm) rfl) X343 J''' 2 454 455 50 456 e343 0 pd_23 (kP fun T344 v344 X344 e344 q344 => ?_)
  obtain rfl := q344
  show G_ 158 _ [(.ref qa)]
  refine own_cs (rm_leftOf hw G _ _ _ _ _ _ _ _ O335 (Nq.other W335 hxq.symm) rfl) X344 J''' 3 457 458 50 459 e344 0 pd_23 (kP fun T345 v345 X345 e345 q345 => ?_)
  obtain rfl := q345
  show G_ 161 _ [.null]
  refine gy (fun t k => sAN X345 J''' 4 rfl #[vr tm, vr xa, .val .null] (aN X345 J''' 5 rfl rfl k)) ?_
  refine own_cs (rmCoN hw G _ _ O335 ) X345 J''' 6 463 464 50 465 e345 0 pd_24 (kP fun T346 v346 X346 e346 q346 => ?_)
  obtain rfl := q346
  show G_ 166 _ [(.int 1)]
  refine gy (fun t k => fY X346 J''' 7 rfl ((if0 _ _).trans (feq (by decide)).2) 204 (aN X346 J''' 8 rfl rfl (aN X346 J''' 9 rfl rfl k))) ?_
  refine own_cs (rm_parentOf hw G _ _ _ _ _ _ _ _ O335 M335 rfl) X346 J''' 10 454 455 50 456 e346 1 pd_23 (kP fun T347 v347 X347 e347 q347 => ?_)
  obtain rfl := q347
  show G_ 209 _ [(.ref pa), (.ref xa)]
  refine own_cs (rm_leftOf hw G _ _ _ _ _ _ _ _ O335 (Np.other W335 hxp.symm) rfl) X347 J''' 11 457 458 50 459 e347 1 pd_23 (kP fun T348 v348 X348 e348 q348 => ?_)
  obtain rfl := q348
  show G_ 212 _ [(.ref xa), (.ref xa)]
  refine gy (fun t k => jQ X348 J''' 12 rfl true (decide_eq_true rfl) 215 (aN X348 J''' 13 rfl rfl k)) ?_
  refine own_cs (rm_parentOf hw G _ _ _ _ _ _ _ _ O335 M335 rfl) X348 J''' 14 454 455 50 456 e348 0 pd_23 (kP fun T349 v349 X349 e349 q349 => ?_)
  obtain rfl := q349
  show G_ 219 _ [(.ref pa)]
  refine gy (fun t k => sAN X349 J''' 15 rfl #[vr tm, vr pa, .val .null] (aN X349 J''' 16 rfl rfl (aN X349 J''' 17 rfl rfl k))) ?_
  refine own_cp (rmRRn hw G tm _ _ _ _ _ _ _ _ _ _ _ _ _ _ _ O335 (Nq.other W335 hxq.symm) (Np.other W335 hxp.symm) M335 hxp.symm hpq.symm hxq.symm g_qa g_pa g_xa) X349 J''' 18 474 476 477 475 50 478 e349 (Mt.other W335 (ne_exa Mt.1 Nx.1 (by decide))).1 0 pd_26 (kF N335 fun _ T350 v350 X350 N350 q350 => ?_)
  obtain ⟨rfl, K350, f350_0, f350_1, f350_2⟩ := q350
  have O350 := O335.keep K350 (allS g_qa (allS g_pa (allS g_xa all0)))
  have KC350 := KC335.trans K350 (allS (il 3) (allS (il 2) (allS (il 1) all0)))
  show G_ 225 _ []
  refine gy (fun t k => aN X350 J''' 19 rfl rfl k) ?_
  refine own_cs (rm_parentOf hw G _ _ _ _ _ _ _ _ O350 f350_2 rfl) X350 J''' 20 454 455 50 456 rfl 0 pd_23 (kP fun T351 v351 X351 e351 q351 => ?_)
  obtain rfl := q351
  show G_ 229 _ [(.ref xa)]
  refine gy (fun t k => cI X351 J''' 21 rfl 1 k) ?_
  refine own_cs (rmSc1 hw G _ _ _ _ _ _ _ _ O350 f350_1 g_xa) X351 J''' 22 471 472 50 473 e351 0 pd_25 (kF N350 fun _ T352 v352 X352 N352 q352 => ?_)
  obtain ⟨rfl, K352, f352_0⟩ := q352
  have O352 := O350.keep K352 (allS g_xa all0)
  have KC352 := KC350.trans K352 (allS (il 1) all0)
  show G_ 233 _ []
  refine gy (fun t k => aN X352 J''' 23 rfl rfl k) ?_
  refine own_cs (rm_parentOf hw G _ _ _ _ _ _ _ _ O352 (f350_2.keep K352 (ninS hxp.symm nin0)) rfl) X352 J''' 24 454 455 50 456 rfl 0 pd_23 (kP fun T353 v353 X353 e353 q353 => ?_)
  obtain rfl := q353
  show G_ 237 _ [(.ref xa)]
  refine own_cs (rm_parentOf hw G _ _ _ _ _ _ _ _ O352 f352_0 rfl) X353 J''' 25 454 455 50 456 e353 0 pd_23 (kP fun T354 v354 X354 e354 q354 => ?_)
  obtain rfl := q354
  show G_ 240 _ [(.ref qa)]
  refine gy (fun t k => cI X354 J''' 26 rfl 0 k) ?_
  refine own_cs (rmSc0 hw G _ _ _ _ _ _ _ _ O352 (f350_0.keep K352 (ninS hxq.symm nin0)) g_qa) X354 J''' 27 471 472 50 473 e354 0 pd_25 (kF N352 fun _ T355 v355 X355 N355 q355 => ?_)
  obtain ⟨rfl, K355, f355_0⟩ := q355
  have O355 := O352.keep K355 (allS g_qa all0)
  have KC355 := KC352.trans K355 (allS (il 3) all0)
  show G_ 244 _ []
  refine gy (fun t k => aN X355 J''' 28 rfl rfl (aN X355 J''' 29 rfl rfl k)) ?_
  have c357 := ((f350_2.keep K352 (ninS hxp.symm nin0)).keep K355 (ninS hpq nin0))
  refine own_cs (rm_parentOf hw G _ _ _ _ _ _ _ _ O355 c357 rfl) X355 J''' 30 454 455 50 456 rfl 1 pd_23 (kP fun T356 v356 X356 e356 q356 => ?_)
  obtain rfl := q356
  show G_ 249 _ [(.ref xa), (.ref tm)]
  refine own_cs (rm_parentOf hw G _ _ _ _ _ _ _ _ O355 (f352_0.keep K355 (ninS hxq nin0)) rfl) X356 J''' 31 454 455 50 456 e356 1 pd_23 (kP fun T358 v358 X358 e358 q358 => ?_)
  obtain rfl := q358
  have c360 := ((((Mt.other W335 (ne_exa Mt.1 Nx.1 (by decide))).keep K350 (ninS (ne_exa Mt.1 Nq.1 (by decide)) (ninS (ne_exa Mt.1 Np.1 (by decide)) (ninS (ne_exa Mt.1 Nx.1 (by decide)) nin0)))).keep K352 (ninS (ne_exa Mt.1 Nx.1 (by decide)) nin0)).keep K355 (ninS (ne_exa Mt.1 Nq.1 (by decide)) nin0))
  show G_ 252 _ [(.ref qa), (.ref tm)]
  refine own_cp (rmRLr hw G _ _ _ _ _ _ _ _ _ _ _ _ _ _ O355 c360 f355_0 (f352_0.keep K355 (ninS hxq nin0)) hxq.symm g_tm g_qa g_xa) X358 J''' 32 466 468 469 467 50 470 e358 c360.1 0 pd_26 (kF N355 fun _ T359 v359 X359 N359 q359 => ?_)
  obtain ⟨rfl, K359, f359_0, f359_1, f359_2⟩ := q359
  have O359 := O355.keep K359 (allS g_tm (allS g_qa (allS g_xa all0)))
  have KC359 := KC355.trans K359 (allS (il 0) (allS (il 3) (allS (il 1) all0)))
  show G_ 255 _ []
  refine gy (fun t k => jG X359 J''' 33 rfl 5 (aN X359 J 3 rfl rfl (uN X359 J 4 rfl (aN X359 J 5 rfl rfl (aN X359 J 6 rfl rfl k))))) ?_
  refine own_gf X359 J 7 214 Via.refl rfl f359_0.2.2.2.2.1 (fun T361 X361 e361 => ?_)
  refine gy (fun t k => jQ X361 J 8 rfl false (decide_eq_false (fun q => hxp.symm (Value.ref.inj q))) 17 (aN X361 J 9 rfl rfl k)) ?_
  refine own_gf X361 J 10 451 Via.refl e361 (c357.keep K359 (ninS (ne_exa Np.1 Mt.1 (by decide)) (ninS hpq (ninS hxp.symm nin0)))).2.2.2.1 (fun T362 X362 e362 => ?_)
  refine own_gf X362 J 11 450 Via.refl e362 f359_1.2.2.2.2.2.2 (fun T363 X363 e363 => ?_)
  refine gy (fun t k => fY X363 J 12 rfl ((if0 _ _).trans (feq (by decide)).2) 258 (aN X363 J 13 rfl rfl k)) ?_
  refine own_gf X363 J 14 214 Via.refl e363 f359_0.2.2.2.2.1 (fun T364 X364 e364 => ?_)
  refine gy (fun t k => cI X364 J 15 rfl 1 k) ?_
  refine own_pf (ty := .boolean) (v' := (.int 1)) X364 J 16 450 Via.refl e364 f359_1.2.2.2.2.2.2 f359_1.1 (Or.inl (ww hw 426 rfl)) 418 rfl rfl N359 g_xa (fun T365 h365 _ X365 e365 W365 N365 => ?_)
  have M365 := f359_1.s_color (own_lay hw) W365
  have O365 := O359.wr W365 g_xa
  have KC365 := KC359.wr W365 (il 1)
  have c366 := ((c357.keep K359 (ninS (ne_exa Np.1 Mt.1 (by decide)) (ninS hpq (ninS hxp.symm nin0)))).other W365 hxp.symm)
  exact rV X365 hret hlk hPf J 17 ⟨⟨rfl, (by rw [e365]; exact KC365), (by rw [e365]; exact (f359_0.other W365 (ne_exa Mt.1 Nx.1 (by decide)))), (by rw [e365]; exact M365), (by rw [e365]; exact c366), (by rw [e365]; exact (f359_2.other W365 hxq.symm))⟩, N365⟩
def QrmFRR (Z : State) (wP : Addr) (tm : Addr) (xa : Addr) (pa : Addr) (qa : Addr) (uxa : Addr) (upa : Addr) (uq : Addr) (sz : Int32) (mc : Int32) (nk : Value) (h0 : Heap) (v : Option Value) (h : Heap) : Prop := (v = none) ∧ (Keep h0 h [tm, xa, pa, qa]) ∧ (Mp Z h tm (.ref pa) sz mc nk) ∧ (Ent Z h wP pa upa .null (.ref qa) (.ref xa) (1 : Int32)) ∧ (Ent Z h wP xa uxa (.ref pa) .null .null (0 : Int32)) ∧ (Ent Z h wP qa uq (.ref pa) .null .null (0 : Int32))
theorem rmFRR (hw : HW a0 Z) (G : Gh Z vcs wI wA cA vF wP wD kD wE kE mT mU mL mO) (tm : Addr) (xa : Addr) (pa : Addr) (qa : Addr) (uxa : Addr) (upa : Addr) (uq : Addr) (sz : Int32) (mc : Int32) (nk : Value) (h0 : Heap) (n0 : Nat) (O0 : Old Z n0 h0) (Mt : Mp Z h0 tm (.ref qa) sz mc nk) (Nx : Ent Z h0 wP xa uxa (.ref pa) .null .null (1 : Int32)) (Np : Ent Z h0 wP pa upa (.ref qa) .null (.ref xa) (0 : Int32)) (Nq : Ent Z h0 wP qa uq .null .null (.ref pa) (1 : Int32)) (hxp : xa ≠ pa) (hxq : xa ≠ qa) (hpq : pa ≠ qa) (g_tm : n0 ≤ tm) (g_xa : n0 ≤ xa) (g_pa : n0 ≤ pa) (g_qa : n0 ≤ qa) :
    MM l Z own_y43 jdk_2729_method_83_code 3 none ws (Rm 1 0 0 14) #[(.ref tm), (.ref xa)] h0 (QF n0 (QrmFRR Z wP tm xa pa qa uxa upa uq sz mc nk h0)) := by
  refine own_go hw (plainFor_of_name pn_72) #[vr tm, vr xa, .unset] (fun p e s m below meth c s₁ Pf hx hby hlk hown hnm hret hml hZ hh X0 e0 hPf Jf => ?_)
  have N0 := Fr.nil n0
  have KC0 := Keep.refl h0 [tm, xa, pa, qa]
  have J := Jf d71
  have J' := Jf d71'
  have J''' := Jf d71'''
  refine gy (fun t k => aN X0 J 0 rfl rfl (cI X0 J 1 rfl 0 k)) ?_
  refine own_pf (ty := .boolean) (v' := (.int 0)) X0 J 2 450 Via.refl e0 Nx.2.2.2.2.2.2 Nx.1 (Or.inl (ww hw 426 rfl)) 418 rfl rfl N0 g_xa (fun T367 h367 _ X367 e367 W367 N367 => ?_)
  have M367 := Nx.s_color (own_lay hw) W367
  have O367 := O0.wr W367 g_xa
  have KC367 := KC0.wr W367 (il 1)
  refine gy (fun t k => aN X367 J 3 rfl rfl (uN X367 J 4 rfl (aN X367 J 5 rfl rfl (aN X367 J 6 rfl rfl k)))) ?_
  refine own_gf X367 J 7 214 Via.refl e367 (Mt.other W367 (ne_exa Mt.1 Nx.1 (by decide))).2.2.2.2.1 (fun T368 X368 e368 => ?_)
  refine gy (fun t k => jQ X368 J 8 rfl false (decide_eq_false (fun q => hxq (Value.ref.inj q))) 17 (aN X368 J 9 rfl rfl k)) ?_
  refine own_gf X368 J 10 451 Via.refl e368 M367.2.2.2.1 (fun T369 X369 e369 => ?_)
  refine own_gf X369 J 11 450 Via.refl e369 (Np.other W367 hxp.symm).2.2.2.2.2.2 (fun T370 X370 e370 => ?_)
  refine gy (fun t k => fN X370 J 12 rfl ((if0 _ _).trans (teq (by decide)).2) (aN X370 J' 0 rfl rfl k)) ?_
  refine own_cs (rm_parentOf hw G _ _ _ _ _ _ _ _ O367 M367 rfl) X370 J' 1 454 455 50 456 e370 0 pd_23 (kP fun T371 v371 X371 e371 q371 => ?_)
  obtain rfl := q371
  show G_ 31 _ [(.ref pa)]
  refine gy (fun t k => aN X371 J' 2 rfl rfl k) ?_
  refine own_cs (rm_parentOf hw G _ _ _ _ _ _ _ _ O367 M367 rfl) X371 J' 3 454 455 50 456 e371 1 pd_23 (kP fun T372 v372 X372 e372 q372 => ?_)
  obtain rfl := q372
  show G_ 35 _ [(.ref pa), (.ref pa)]
  refine own_cs (rm_parentOf hw G _ _ _ _ _ _ _ _ O367 (Np.other W367 hxp.symm) rfl) X372 J' 4 454 455 50 456 e372 1 pd_23 (kP fun T373 v373 X373 e373 q373 => ?_)
  obtain rfl := q373
  show G_ 38 _ [(.ref qa), (.ref pa)]
  refine own_cs (rm_leftOf hw G _ _ _ _ _ _ _ _ O367 (Nq.other W367 hxq.symm) rfl) X373 J' 5 457 458 50 459 e373 1 pd_23 (kP fun T374 v374 X374 e374 q374 => ?_)
  obtain rfl := q374
  show G_ 41 _ [.null, (.ref pa)]
  refine gy (fun t k => jQ X374 J' 6 rfl false (decide_eq_false nofun) 151 (aN X374 J''' 0 rfl rfl k)) ?_
  refine own_cs (rm_parentOf hw G _ _ _ _ _ _ _ _ O367 M367 rfl) X374 J''' 1 454 455 50 456 e374 0 pd_23 (kP fun T375 v375 X375 e375 q375 => ?_)
  obtain rfl := q375
  show G_ 155 _ [(.ref pa)]
  refine own_cs (rm_parentOf hw G _ _ _ _ _ _ _ _ O367 (Np.other W367 hxp.symm) rfl) X375 J''' 2 454 455 50 456 e375 0 pd_23 (kP fun T376 v376 X376 e376 q376 => ?_)
  obtain rfl := q376
  show G_ 158 _ [(.ref qa)]
  refine own_cs (rm_leftOf hw G _ _ _ _ _ _ _ _ O367 (Nq.other W367 hxq.symm) rfl) X376 J''' 3 457 458 50 459 e376 0 pd_23 (kP fun T377 v377 X377 e377 q377 => ?_)
  obtain rfl := q377
  show G_ 161 _ [.null]
  refine gy (fun t k => sAN X377 J''' 4 rfl #[vr tm, vr xa, .val .null] (aN X377 J''' 5 rfl rfl k)) ?_
  refine own_cs (rmCoN hw G _ _ O367 ) X377 J''' 6 463 464 50 465 e377 0 pd_24 (kP fun T378 v378 X378 e378 q378 => ?_)
  obtain rfl := q378
  show G_ 166 _ [(.int 1)]
  refine gy (fun t k => fY X378 J''' 7 rfl ((if0 _ _).trans (feq (by decide)).2) 204 (aN X378 J''' 8 rfl rfl (aN X378 J''' 9 rfl rfl k))) ?_
  refine own_cs (rm_parentOf hw G _ _ _ _ _ _ _ _ O367 M367 rfl) X378 J''' 10 454 455 50 456 e378 1 pd_23 (kP fun T379 v379 X379 e379 q379 => ?_)
  obtain rfl := q379
  show G_ 209 _ [(.ref pa), (.ref xa)]
  refine own_cs (rm_leftOf hw G _ _ _ _ _ _ _ _ O367 (Np.other W367 hxp.symm) rfl) X379 J''' 11 457 458 50 459 e379 1 pd_23 (kP fun T380 v380 X380 e380 q380 => ?_)
  obtain rfl := q380
  show G_ 212 _ [.null, (.ref xa)]
  refine gy (fun t k => jQ X380 J''' 12 rfl false (decide_eq_false nofun) 225 (aN X380 J''' 19 rfl rfl k)) ?_
  refine own_cs (rm_parentOf hw G _ _ _ _ _ _ _ _ O367 M367 rfl) X380 J''' 20 454 455 50 456 e380 0 pd_23 (kP fun T381 v381 X381 e381 q381 => ?_)
  obtain rfl := q381
  show G_ 229 _ [(.ref pa)]
  refine gy (fun t k => cI X381 J''' 21 rfl 1 k) ?_
  refine own_cs (rmSc1 hw G _ _ _ _ _ _ _ _ O367 (Np.other W367 hxp.symm) g_pa) X381 J''' 22 471 472 50 473 e381 0 pd_25 (kF N367 fun _ T382 v382 X382 N382 q382 => ?_)
  obtain ⟨rfl, K382, f382_0⟩ := q382
  have O382 := O367.keep K382 (allS g_pa all0)
  have KC382 := KC367.trans K382 (allS (il 2) all0)
  show G_ 233 _ []
  refine gy (fun t k => aN X382 J''' 23 rfl rfl k) ?_
  refine own_cs (rm_parentOf hw G _ _ _ _ _ _ _ _ O382 (M367.keep K382 (ninS hxp nin0)) rfl) X382 J''' 24 454 455 50 456 rfl 0 pd_23 (kP fun T383 v383 X383 e383 q383 => ?_)
  obtain rfl := q383
  show G_ 237 _ [(.ref pa)]
  refine own_cs (rm_parentOf hw G _ _ _ _ _ _ _ _ O382 f382_0 rfl) X383 J''' 25 454 455 50 456 e383 0 pd_23 (kP fun T384 v384 X384 e384 q384 => ?_)
  obtain rfl := q384
  show G_ 240 _ [(.ref qa)]
  refine gy (fun t k => cI X384 J''' 26 rfl 0 k) ?_
  have c386 := ((Nq.other W367 hxq.symm).keep K382 (ninS hpq.symm nin0))
  refine own_cs (rmSc0 hw G _ _ _ _ _ _ _ _ O382 c386 g_qa) X384 J''' 27 471 472 50 473 e384 0 pd_25 (kF N382 fun _ T385 v385 X385 N385 q385 => ?_)
  obtain ⟨rfl, K385, f385_0⟩ := q385
  have O385 := O382.keep K385 (allS g_qa all0)
  have KC385 := KC382.trans K385 (allS (il 3) all0)
  show G_ 244 _ []
  refine gy (fun t k => aN X385 J''' 28 rfl rfl (aN X385 J''' 29 rfl rfl k)) ?_
  have c388 := ((M367.keep K382 (ninS hxp nin0)).keep K385 (ninS hxq nin0))
  refine own_cs (rm_parentOf hw G _ _ _ _ _ _ _ _ O385 c388 rfl) X385 J''' 30 454 455 50 456 rfl 1 pd_23 (kP fun T387 v387 X387 e387 q387 => ?_)
  obtain rfl := q387
  show G_ 249 _ [(.ref pa), (.ref tm)]
  refine own_cs (rm_parentOf hw G _ _ _ _ _ _ _ _ O385 (f382_0.keep K385 (ninS hpq nin0)) rfl) X387 J''' 31 454 455 50 456 e387 1 pd_23 (kP fun T389 v389 X389 e389 q389 => ?_)
  obtain rfl := q389
  have c391 := (((Mt.other W367 (ne_exa Mt.1 Nx.1 (by decide))).keep K382 (ninS (ne_exa Mt.1 Np.1 (by decide)) nin0)).keep K385 (ninS (ne_exa Mt.1 Nq.1 (by decide)) nin0))
  show G_ 252 _ [(.ref qa), (.ref tm)]
  refine own_cp (rmRLr hw G _ _ _ _ _ _ _ _ _ _ _ _ _ _ O385 c391 f385_0 (f382_0.keep K385 (ninS hpq nin0)) hpq.symm g_tm g_qa g_pa) X389 J''' 32 466 468 469 467 50 470 e389 c391.1 0 pd_26 (kF N385 fun _ T390 v390 X390 N390 q390 => ?_)
  obtain ⟨rfl, K390, f390_0, f390_1, f390_2⟩ := q390
  have O390 := O385.keep K390 (allS g_tm (allS g_qa (allS g_pa all0)))
  have KC390 := KC385.trans K390 (allS (il 0) (allS (il 3) (allS (il 2) all0)))
  show G_ 255 _ []
  refine gy (fun t k => jG X390 J''' 33 rfl 5 (aN X390 J 3 rfl rfl (uN X390 J 4 rfl (aN X390 J 5 rfl rfl (aN X390 J 6 rfl rfl k))))) ?_
  refine own_gf X390 J 7 214 Via.refl rfl f390_0.2.2.2.2.1 (fun T392 X392 e392 => ?_)
  refine gy (fun t k => jQ X392 J 8 rfl false (decide_eq_false (fun q => hxp (Value.ref.inj q))) 17 (aN X392 J 9 rfl rfl k)) ?_
  refine own_gf X392 J 10 451 Via.refl e392 (c388.keep K390 (ninS (ne_exa Nx.1 Mt.1 (by decide)) (ninS hxq (ninS hxp nin0)))).2.2.2.1 (fun T393 X393 e393 => ?_)
  refine own_gf X393 J 11 450 Via.refl e393 f390_1.2.2.2.2.2.2 (fun T394 X394 e394 => ?_)
  refine gy (fun t k => fY X394 J 12 rfl ((if0 _ _).trans (feq (by decide)).2) 258 (aN X394 J 13 rfl rfl k)) ?_
  refine own_gf X394 J 14 214 Via.refl e394 f390_0.2.2.2.2.1 (fun T395 X395 e395 => ?_)
  refine gy (fun t k => cI X395 J 15 rfl 1 k) ?_
  refine own_pf (ty := .boolean) (v' := (.int 1)) X395 J 16 450 Via.refl e395 f390_1.2.2.2.2.2.2 f390_1.1 (Or.inl (ww hw 426 rfl)) 418 rfl rfl N390 g_pa (fun T396 h396 _ X396 e396 W396 N396 => ?_)
  have M396 := f390_1.s_color (own_lay hw) W396
  have O396 := O390.wr W396 g_pa
  have KC396 := KC390.wr W396 (il 2)
  have c397 := ((c388.keep K390 (ninS (ne_exa Nx.1 Mt.1 (by decide)) (ninS hxq (ninS hxp nin0)))).other W396 hxp)
  exact rV X396 hret hlk hPf J 17 ⟨⟨rfl, (by rw [e396]; exact KC396), (by rw [e396]; exact (f390_0.other W396 (ne_exa Mt.1 Np.1 (by decide)))), (by rw [e396]; exact M396), (by rw [e396]; exact c397), (by rw [e396]; exact (f390_2.other W396 hpq.symm))⟩, N396⟩
theorem pd_27 : parseMethodDescriptor "(Ljava/lang/Object;Ljava/lang/Object;Ljava/util/TreeMap$Entry;)V" = some ⟨[(.object S_2), (.object S_2), (.object S_1)], none⟩ := by decide +kernel
def L70 : List (Nat × Instr × Nat) := [(0, .new 59, 3), (3, .dup, 1), (4, a_1), (5, a_2), (6, a_3), (7, .invokespecial 167, 3), (10, .astore 5, 2), (12, .iload 4, 2), (14, .ifCond .eq 12, 3), (17, a_3), (18, .aload 5, 2), (20, .putfield 111, 3), (23, .goto 9, 3), (32, a_0), (33, .aload 5, 2), (35, .invokevirtual 170, 3), (38, a_0), (39, .dup, 1), (40, .getfield 7, 3), (43, .iconst 1, 1), (44, .iadd, 1), (45, .putfield 7, 3), (48, a_0), (49, .dup, 1), (50, .getfield 13, 3), (53, .iconst 1, 1), (54, .iadd, 1), (55, .putfield 13, 3), (58, .return_, 1)]
theorem d70 : ∀ q ∈ L70, decode jdk_2729_method_29_code q.1 = .ok q.2 := by decide +kernel
def QrmAaL (Z : State) (wP : Addr) (tm : Addr) (u : Addr) (ea : Addr) (ue : Addr) (ov : Value) (sz : Int32) (mc : Int32) (nk : Value) (h0 : Heap) (v : Option Value) (h : Heap) : Prop := ∃ (xa : Addr), (v = none) ∧ (Keep h0 h [tm, ea]) ∧ (Mp Z h tm (.ref ea) (sz + (1 : Int32)) (mc + (1 : Int32)) nk) ∧ (Ent Z h wP ea ue .null (.ref xa) ov (1 : Int32)) ∧ (Ent Z h wP xa u (.ref ea) .null .null (0 : Int32)) ∧ (h0.size ≤ xa)
abbrev own_y44 : MethodName := ⟨S_6, "addEntry", "(Ljava/lang/Object;Ljava/lang/Object;Ljava/util/TreeMap$Entry;Z)V"⟩
theorem rmAaL (hw : HW a0 Z) (G : Gh Z vcs wI wA cA vF wP wD kD wE kE mT mU mL mO) (tm : Addr) (u : Addr) (ea : Addr) (ue : Addr) (ov : Value) (sz : Int32) (mc : Int32) (nk : Value) (h0 : Heap) (n0 : Nat) (O0 : Old Z n0 h0) (Mt : Mp Z h0 tm (.ref ea) sz mc nk) (Ne : Ent Z h0 wP ea ue .null .null ov (1 : Int32)) (g_tm : n0 ≤ tm) (g_ea : n0 ≤ ea) :
    MM l Z own_y44 jdk_2729_method_29_code 6 none ws (Rm 2 1 6 28) #[(.ref tm), (.ref u), (.ref wP), (.ref ea), (.int 1)] h0 (QF n0 (QrmAaL Z wP tm u ea ue ov sz mc nk h0)) := by
  refine own_go hw (plainFor_of_name pn_72) #[vr tm, vr u, vr wP, vr ea, vi 1, .unset] (fun p e s m below meth c s₁ Pf hx hby hlk hown hnm hret hml hZ hh X0 e0 hPf Jf => ?_)
  have N0 := Fr.nil n0
  have KC0 := Keep.refl h0 [tm, ea]
  have J := Jf d70
  obtain ⟨T398, h398, X398, e398, E398, A398, D398, -, st398⟩ := newO X0 hx hZ hown (ww hw 417 rfl) (ww hw 418 rfl) (ww hw 419 rfl) e0 (g := (mkF m 0 #[vr tm, vr u, vr wP, vr ea, vi 1, .unset] [])) rfl (jd J 0 rfl) (by decide) (by decide)
  obtain ⟨b398, g398⟩ : ∃ z, z = h0.size := ⟨_, rfl⟩
  rw [← g398] at A398 D398 st398
  refine Go.by' st398 ?_
  have g_b398 : n0 ≤ b398 := Nat.le_trans (own_le O0) (Nat.le_of_eq g398.symm)
  have sz_b398 : h0.size ≤ b398 := Nat.le_trans KC0.1 (Nat.le_of_eq g398.symm)
  have O398 := O0.ext E398
  have KC398 := KC0.ext E398
  have Fn398_426 : Fld Z h398 b398 S_1 "color" "Z" (Value.int 0) := D398 (Or.inl (ww hw 426 rfl)) (ty := .boolean) (by decide)
  have Fn398_428 : Fld Z h398 b398 S_1 "key" S_11 Value.null := D398 (Or.inl (ww hw 428 rfl)) (ty := (.object S_2)) (by decide)
  have Fn398_430 : Fld Z h398 b398 S_1 "value" S_11 Value.null := D398 (Or.inl (ww hw 430 rfl)) (ty := (.object S_2)) (by decide)
  have Fn398_432 : Fld Z h398 b398 S_1 "parent" S_5 Value.null := D398 (Or.inl (ww hw 432 rfl)) (ty := (.object S_1)) (by decide)
  have Fn398_439 : Fld Z h398 b398 S_1 "left" S_5 Value.null := D398 (Or.inl (ww hw 439 rfl)) (ty := (.object S_1)) (by decide)
  have Fn398_453 : Fld Z h398 b398 S_1 "right" S_5 Value.null := D398 (Or.inl (ww hw 453 rfl)) (ty := (.object S_1)) (by decide)
  show G_ 3 #[vr tm, vr u, vr wP, vr ea, vi 1, .unset] [(.ref b398)]
  refine gy (fun t k => oP X398 J 1 rfl (aN X398 J 2 rfl rfl (aN X398 J 3 rfl rfl (aN X398 J 4 rfl rfl k)))) ?_
  refine own_ci (rmEnr hw G _ u ea _ _ O398 A398 Fn398_428 Fn398_430 Fn398_432 Fn398_439 Fn398_453 Fn398_426 g_b398) X398 J 5 420 421 419 423 e398 1 pd_27 (kF N0 fun _ T399 v399 X399 N399 q399 => ?_)
  obtain ⟨rfl, K399, f399_0⟩ := q399
  have O399 := O398.keep K399 (allS g_b398 all0)
  have KC399 := KC398.trans K399 (allS (Or.inr sz_b398) all0)
  show G_ 10 _ [(.ref b398)]
  refine gy (fun t k => sA X399 J 6 rfl #[vr tm, vr u, vr wP, vr ea, vi 1, vr b398] (iL X399 J 7 rfl rfl (fN X399 J 8 rfl ((if0 _ _).trans (feq (by decide)).1) (aN X399 J 9 rfl rfl (aL X399 J 10 rfl rfl k))))) ?_
  have c400 := ((Ne.ext E398).keep K399 (ninS (Nat.ne_of_lt (Nat.lt_of_lt_of_le Ne.lt (Nat.le_of_eq g398.symm))) nin0))
  refine own_pf (ty := (.object S_1)) (v' := (.ref b398)) X399 J 11 438 Via.refl rfl c400.2.2.2.2.1 c400.1 (Or.inl (ww hw 439 rfl)) 418 rfl rfl N399 g_ea (fun T401 h401 _ X401 e401 W401 N401 => ?_)
  have M401 := c400.s_left (own_lay hw) W401
  have O401 := O399.wr W401 g_ea
  have KC401 := KC399.wr W401 (il 1)
  refine gy (fun t k => jG X401 J 12 rfl 32 (aN X401 J 13 rfl rfl (aL X401 J 14 rfl rfl k))) ?_
  have c403 := (((Mt.ext E398).keep K399 (ninS (Nat.ne_of_lt (Nat.lt_of_lt_of_le Mt.lt (Nat.le_of_eq g398.symm))) nin0)).other W401 (ne_exa Mt.1 Ne.1 (by decide)))
  refine own_cp (rmFa hw G _ _ _ _ _ _ _ _ _ _ _ _ _ _ _ O401 c403 (f399_0.other W401 (Nat.ne_of_gt (Nat.lt_of_lt_of_le Ne.lt (Nat.le_of_eq g398.symm)))) M401 (Nat.ne_of_gt (Nat.lt_of_lt_of_le Ne.lt (Nat.le_of_eq g398.symm))) g_b398 g_ea) X401 J 15 445 447 448 446 50 449 e401 c403.1 0 pd_26 (kF N401 fun _ T402 v402 X402 N402 q402 => ?_)
  obtain ⟨rfl, K402, f402_0, f402_1, f402_2⟩ := q402
  have O402 := O401.keep K402 (allS g_b398 (allS g_ea all0))
  have KC402 := KC401.trans K402 (allS (Or.inr sz_b398) (allS (il 1) all0))
  show G_ 38 _ []
  refine gy (fun t k => aN X402 J 16 rfl rfl (oP X402 J 17 rfl k)) ?_
  refine own_gf X402 J 18 62 Via.refl rfl f402_0.2.2.1 (fun T404 X404 e404 => ?_)
  refine gy (fun t k => cI X404 J 19 rfl 1 (oA X404 J 20 rfl (sz + (1 : Int32)) k)) ?_
  refine own_pf (ty := .int) (v' := (.int (sz + (1 : Int32)))) X404 J 21 62 Via.refl e404 f402_0.2.2.1 f402_0.1 (Or.inl (ww hw 63 rfl)) 49 rfl rfl N402 g_tm (fun T405 h405 _ X405 e405 W405 N405 => ?_)
  have M405 := f402_0.s_size (own_lay hw) W405
  have O405 := O402.wr W405 g_tm
  have KC405 := KC402.wr W405 (il 0)
  refine gy (fun t k => aN X405 J 22 rfl rfl (oP X405 J 23 rfl k)) ?_
  refine own_gf X405 J 24 64 Via.refl e405 M405.2.2.2.1 (fun T406 X406 e406 => ?_)
  refine gy (fun t k => cI X406 J 25 rfl 1 (oA X406 J 26 rfl (mc + (1 : Int32)) k)) ?_
  refine own_pf (ty := .int) (v' := (.int (mc + (1 : Int32)))) X406 J 27 64 Via.refl e406 M405.2.2.2.1 M405.1 (Or.inl (ww hw 65 rfl)) 49 rfl rfl N405 g_tm (fun T407 h407 _ X407 e407 W407 N407 => ?_)
  have M407 := M405.s_modCount (own_lay hw) W407
  have O407 := O405.wr W407 g_tm
  have KC407 := KC405.wr W407 (il 0)
  have c408 := ((f402_2.other W405 (ne_exa Ne.1 Mt.1 (by decide))).other W407 (ne_exa Ne.1 Mt.1 (by decide)))
  have c409 := ((f402_1.other W405 (Nat.ne_of_gt (Nat.lt_of_lt_of_le Mt.lt (Nat.le_of_eq g398.symm)))).other W407 (Nat.ne_of_gt (Nat.lt_of_lt_of_le Mt.lt (Nat.le_of_eq g398.symm))))
  exact rV X407 hret hlk hPf J 28 ⟨⟨b398, rfl, (by rw [e407]; exact KC407), (by rw [e407]; exact M407), (by rw [e407]; exact c408), (by rw [e407]; exact c409), sz_b398⟩, N407⟩
def L70' : List (Nat × Instr × Nat) := [(26, a_3), (27, .aload 5, 2), (29, .putfield 114, 3)]
theorem d70' : ∀ q ∈ L70', decode jdk_2729_method_29_code q.1 = .ok q.2 := by decide +kernel
def QrmAaR (Z : State) (wP : Addr) (tm : Addr) (u : Addr) (ea : Addr) (ue : Addr) (ov : Value) (sz : Int32) (mc : Int32) (nk : Value) (h0 : Heap) (v : Option Value) (h : Heap) : Prop := ∃ (xa : Addr), (v = none) ∧ (Keep h0 h [tm, ea]) ∧ (Mp Z h tm (.ref ea) (sz + (1 : Int32)) (mc + (1 : Int32)) nk) ∧ (Ent Z h wP ea ue .null ov (.ref xa) (1 : Int32)) ∧ (Ent Z h wP xa u (.ref ea) .null .null (0 : Int32)) ∧ (h0.size ≤ xa)
theorem rmAaR (hw : HW a0 Z) (G : Gh Z vcs wI wA cA vF wP wD kD wE kE mT mU mL mO) (tm : Addr) (u : Addr) (ea : Addr) (ue : Addr) (ov : Value) (sz : Int32) (mc : Int32) (nk : Value) (h0 : Heap) (n0 : Nat) (O0 : Old Z n0 h0) (Mt : Mp Z h0 tm (.ref ea) sz mc nk) (Ne : Ent Z h0 wP ea ue .null ov .null (1 : Int32)) (g_tm : n0 ≤ tm) (g_ea : n0 ≤ ea) :
    MM l Z own_y44 jdk_2729_method_29_code 6 none ws (Rm 2 1 6 28) #[(.ref tm), (.ref u), (.ref wP), (.ref ea), (.int 0)] h0 (QF n0 (QrmAaR Z wP tm u ea ue ov sz mc nk h0)) := by
  refine own_go hw (plainFor_of_name pn_72) #[vr tm, vr u, vr wP, vr ea, vi 0, .unset] (fun p e s m below meth c s₁ Pf hx hby hlk hown hnm hret hml hZ hh X0 e0 hPf Jf => ?_)
  have N0 := Fr.nil n0
  have KC0 := Keep.refl h0 [tm, ea]
  have J := Jf d70
  have J' := Jf d70'
  obtain ⟨T410, h410, X410, e410, E410, A410, D410, -, st410⟩ := newO X0 hx hZ hown (ww hw 417 rfl) (ww hw 418 rfl) (ww hw 419 rfl) e0 (g := (mkF m 0 #[vr tm, vr u, vr wP, vr ea, vi 0, .unset] [])) rfl (jd J 0 rfl) (by decide) (by decide)
  obtain ⟨b410, g410⟩ : ∃ z, z = h0.size := ⟨_, rfl⟩
  rw [← g410] at A410 D410 st410
  refine Go.by' st410 ?_
  have g_b410 : n0 ≤ b410 := Nat.le_trans (own_le O0) (Nat.le_of_eq g410.symm)
  have sz_b410 : h0.size ≤ b410 := Nat.le_trans KC0.1 (Nat.le_of_eq g410.symm)
  have O410 := O0.ext E410
  have KC410 := KC0.ext E410
  have Fn410_426 : Fld Z h410 b410 S_1 "color" "Z" (Value.int 0) := D410 (Or.inl (ww hw 426 rfl)) (ty := .boolean) (by decide)
  have Fn410_428 : Fld Z h410 b410 S_1 "key" S_11 Value.null := D410 (Or.inl (ww hw 428 rfl)) (ty := (.object S_2)) (by decide)
  have Fn410_430 : Fld Z h410 b410 S_1 "value" S_11 Value.null := D410 (Or.inl (ww hw 430 rfl)) (ty := (.object S_2)) (by decide)
  have Fn410_432 : Fld Z h410 b410 S_1 "parent" S_5 Value.null := D410 (Or.inl (ww hw 432 rfl)) (ty := (.object S_1)) (by decide)
  have Fn410_439 : Fld Z h410 b410 S_1 "left" S_5 Value.null := D410 (Or.inl (ww hw 439 rfl)) (ty := (.object S_1)) (by decide)
  have Fn410_453 : Fld Z h410 b410 S_1 "right" S_5 Value.null := D410 (Or.inl (ww hw 453 rfl)) (ty := (.object S_1)) (by decide)
  show G_ 3 #[vr tm, vr u, vr wP, vr ea, vi 0, .unset] [(.ref b410)]
  refine gy (fun t k => oP X410 J 1 rfl (aN X410 J 2 rfl rfl (aN X410 J 3 rfl rfl (aN X410 J 4 rfl rfl k)))) ?_
  refine own_ci (rmEnr hw G _ u ea _ _ O410 A410 Fn410_428 Fn410_430 Fn410_432 Fn410_439 Fn410_453 Fn410_426 g_b410) X410 J 5 420 421 419 423 e410 1 pd_27 (kF N0 fun _ T411 v411 X411 N411 q411 => ?_)
  obtain ⟨rfl, K411, f411_0⟩ := q411
  have O411 := O410.keep K411 (allS g_b410 all0)
  have KC411 := KC410.trans K411 (allS (Or.inr sz_b410) all0)
  show G_ 10 _ [(.ref b410)]
  refine gy (fun t k => sA X411 J 6 rfl #[vr tm, vr u, vr wP, vr ea, vi 0, vr b410] (iL X411 J 7 rfl rfl (fY X411 J 8 rfl ((if0 _ _).trans (teq (by decide)).1) 26 (aN X411 J' 0 rfl rfl (aL X411 J' 1 rfl rfl k))))) ?_
  have c412 := ((Ne.ext E410).keep K411 (ninS (Nat.ne_of_lt (Nat.lt_of_lt_of_le Ne.lt (Nat.le_of_eq g410.symm))) nin0))
  refine own_pf (ty := (.object S_1)) (v' := (.ref b410)) X411 J' 2 452 Via.refl rfl c412.2.2.2.2.2.1 c412.1 (Or.inl (ww hw 453 rfl)) 418 rfl rfl N411 g_ea (fun T413 h413 _ X413 e413 W413 N413 => ?_)
  have M413 := c412.s_right (own_lay hw) W413
  have O413 := O411.wr W413 g_ea
  have KC413 := KC411.wr W413 (il 1)
  refine gy (fun t k => aN X413 J 13 rfl rfl (aL X413 J 14 rfl rfl k)) ?_
  have c415 := (((Mt.ext E410).keep K411 (ninS (Nat.ne_of_lt (Nat.lt_of_lt_of_le Mt.lt (Nat.le_of_eq g410.symm))) nin0)).other W413 (ne_exa Mt.1 Ne.1 (by decide)))
  refine own_cp (rmFa hw G _ _ _ _ _ _ _ _ _ _ _ _ _ _ _ O413 c415 (f411_0.other W413 (Nat.ne_of_gt (Nat.lt_of_lt_of_le Ne.lt (Nat.le_of_eq g410.symm)))) M413 (Nat.ne_of_gt (Nat.lt_of_lt_of_le Ne.lt (Nat.le_of_eq g410.symm))) g_b410 g_ea) X413 J 15 445 447 448 446 50 449 e413 c415.1 0 pd_26 (kF N413 fun _ T414 v414 X414 N414 q414 => ?_)
  obtain ⟨rfl, K414, f414_0, f414_1, f414_2⟩ := q414
  have O414 := O413.keep K414 (allS g_b410 (allS g_ea all0))
  have KC414 := KC413.trans K414 (allS (Or.inr sz_b410) (allS (il 1) all0))
  show G_ 38 _ []
  refine gy (fun t k => aN X414 J 16 rfl rfl (oP X414 J 17 rfl k)) ?_
  refine own_gf X414 J 18 62 Via.refl rfl f414_0.2.2.1 (fun T416 X416 e416 => ?_)
  refine gy (fun t k => cI X416 J 19 rfl 1 (oA X416 J 20 rfl (sz + (1 : Int32)) k)) ?_
  refine own_pf (ty := .int) (v' := (.int (sz + (1 : Int32)))) X416 J 21 62 Via.refl e416 f414_0.2.2.1 f414_0.1 (Or.inl (ww hw 63 rfl)) 49 rfl rfl N414 g_tm (fun T417 h417 _ X417 e417 W417 N417 => ?_)
  have M417 := f414_0.s_size (own_lay hw) W417
  have O417 := O414.wr W417 g_tm
  have KC417 := KC414.wr W417 (il 0)
  refine gy (fun t k => aN X417 J 22 rfl rfl (oP X417 J 23 rfl k)) ?_
  refine own_gf X417 J 24 64 Via.refl e417 M417.2.2.2.1 (fun T418 X418 e418 => ?_)
  refine gy (fun t k => cI X418 J 25 rfl 1 (oA X418 J 26 rfl (mc + (1 : Int32)) k)) ?_
  refine own_pf (ty := .int) (v' := (.int (mc + (1 : Int32)))) X418 J 27 64 Via.refl e418 M417.2.2.2.1 M417.1 (Or.inl (ww hw 65 rfl)) 49 rfl rfl N417 g_tm (fun T419 h419 _ X419 e419 W419 N419 => ?_)
  have M419 := M417.s_modCount (own_lay hw) W419
  have O419 := O417.wr W419 g_tm
  have KC419 := KC417.wr W419 (il 0)
  have c420 := ((f414_2.other W417 (ne_exa Ne.1 Mt.1 (by decide))).other W419 (ne_exa Ne.1 Mt.1 (by decide)))
  have c421 := ((f414_1.other W417 (Nat.ne_of_gt (Nat.lt_of_lt_of_le Mt.lt (Nat.le_of_eq g410.symm)))).other W419 (Nat.ne_of_gt (Nat.lt_of_lt_of_le Mt.lt (Nat.le_of_eq g410.symm))))
  exact rV X419 hret hlk hPf J 28 ⟨⟨b410, rfl, (by rw [e419]; exact KC419), (by rw [e419]; exact M419), (by rw [e419]; exact c420), (by rw [e419]; exact c421), sz_b410⟩, N419⟩
def QrmALL (Z : State) (wP : Addr) (tm : Addr) (u : Addr) (pa : Addr) (qa : Addr) (upa : Addr) (uq : Addr) (sz : Int32) (mc : Int32) (nk : Value) (h0 : Heap) (v : Option Value) (h : Heap) : Prop := ∃ (xa : Addr), (v = none) ∧ (Keep h0 h [tm, pa, qa]) ∧ (Mp Z h tm (.ref pa) (sz + (1 : Int32)) (mc + (1 : Int32)) nk) ∧ (Ent Z h wP pa upa .null (.ref xa) (.ref qa) (1 : Int32)) ∧ (Ent Z h wP xa u (.ref pa) .null .null (0 : Int32)) ∧ (Ent Z h wP qa uq (.ref pa) .null .null (0 : Int32)) ∧ (h0.size ≤ xa)
theorem rmALL (hw : HW a0 Z) (G : Gh Z vcs wI wA cA vF wP wD kD wE kE mT mU mL mO) (tm : Addr) (u : Addr) (pa : Addr) (qa : Addr) (upa : Addr) (uq : Addr) (sz : Int32) (mc : Int32) (nk : Value) (h0 : Heap) (n0 : Nat) (O0 : Old Z n0 h0) (Mt : Mp Z h0 tm (.ref qa) sz mc nk) (Np : Ent Z h0 wP pa upa (.ref qa) .null .null (0 : Int32)) (Nq : Ent Z h0 wP qa uq .null (.ref pa) .null (1 : Int32)) (hpq : pa ≠ qa) (g_tm : n0 ≤ tm) (g_pa : n0 ≤ pa) (g_qa : n0 ≤ qa) :
    MM l Z own_y44 jdk_2729_method_29_code 6 none ws (Rm 2 1 6 28) #[(.ref tm), (.ref u), (.ref wP), (.ref pa), (.int 1)] h0 (QF n0 (QrmALL Z wP tm u pa qa upa uq sz mc nk h0)) := by
  refine own_go hw (plainFor_of_name pn_72) #[vr tm, vr u, vr wP, vr pa, vi 1, .unset] (fun p e s m below meth c s₁ Pf hx hby hlk hown hnm hret hml hZ hh X0 e0 hPf Jf => ?_)
  have N0 := Fr.nil n0
  have KC0 := Keep.refl h0 [tm, pa, qa]
  have J := Jf d70
  obtain ⟨T422, h422, X422, e422, E422, A422, D422, -, st422⟩ := newO X0 hx hZ hown (ww hw 417 rfl) (ww hw 418 rfl) (ww hw 419 rfl) e0 (g := (mkF m 0 #[vr tm, vr u, vr wP, vr pa, vi 1, .unset] [])) rfl (jd J 0 rfl) (by decide) (by decide)
  obtain ⟨b422, g422⟩ : ∃ z, z = h0.size := ⟨_, rfl⟩
  rw [← g422] at A422 D422 st422
  refine Go.by' st422 ?_
  have g_b422 : n0 ≤ b422 := Nat.le_trans (own_le O0) (Nat.le_of_eq g422.symm)
  have sz_b422 : h0.size ≤ b422 := Nat.le_trans KC0.1 (Nat.le_of_eq g422.symm)
  have O422 := O0.ext E422
  have KC422 := KC0.ext E422
  have Fn422_426 : Fld Z h422 b422 S_1 "color" "Z" (Value.int 0) := D422 (Or.inl (ww hw 426 rfl)) (ty := .boolean) (by decide)
  have Fn422_428 : Fld Z h422 b422 S_1 "key" S_11 Value.null := D422 (Or.inl (ww hw 428 rfl)) (ty := (.object S_2)) (by decide)
  have Fn422_430 : Fld Z h422 b422 S_1 "value" S_11 Value.null := D422 (Or.inl (ww hw 430 rfl)) (ty := (.object S_2)) (by decide)
  have Fn422_432 : Fld Z h422 b422 S_1 "parent" S_5 Value.null := D422 (Or.inl (ww hw 432 rfl)) (ty := (.object S_1)) (by decide)
  have Fn422_439 : Fld Z h422 b422 S_1 "left" S_5 Value.null := D422 (Or.inl (ww hw 439 rfl)) (ty := (.object S_1)) (by decide)
  have Fn422_453 : Fld Z h422 b422 S_1 "right" S_5 Value.null := D422 (Or.inl (ww hw 453 rfl)) (ty := (.object S_1)) (by decide)
  show G_ 3 #[vr tm, vr u, vr wP, vr pa, vi 1, .unset] [(.ref b422)]
  refine gy (fun t k => oP X422 J 1 rfl (aN X422 J 2 rfl rfl (aN X422 J 3 rfl rfl (aN X422 J 4 rfl rfl k)))) ?_
  refine own_ci (rmEnr hw G _ u pa _ _ O422 A422 Fn422_428 Fn422_430 Fn422_432 Fn422_439 Fn422_453 Fn422_426 g_b422) X422 J 5 420 421 419 423 e422 1 pd_27 (kF N0 fun _ T423 v423 X423 N423 q423 => ?_)
  obtain ⟨rfl, K423, f423_0⟩ := q423
  have O423 := O422.keep K423 (allS g_b422 all0)
  have KC423 := KC422.trans K423 (allS (Or.inr sz_b422) all0)
  show G_ 10 _ [(.ref b422)]
  refine gy (fun t k => sA X423 J 6 rfl #[vr tm, vr u, vr wP, vr pa, vi 1, vr b422] (iL X423 J 7 rfl rfl (fN X423 J 8 rfl ((if0 _ _).trans (feq (by decide)).1) (aN X423 J 9 rfl rfl (aL X423 J 10 rfl rfl k))))) ?_
  have c424 := ((Np.ext E422).keep K423 (ninS (Nat.ne_of_lt (Nat.lt_of_lt_of_le Np.lt (Nat.le_of_eq g422.symm))) nin0))
  refine own_pf (ty := (.object S_1)) (v' := (.ref b422)) X423 J 11 438 Via.refl rfl c424.2.2.2.2.1 c424.1 (Or.inl (ww hw 439 rfl)) 418 rfl rfl N423 g_pa (fun T425 h425 _ X425 e425 W425 N425 => ?_)
  have M425 := c424.s_left (own_lay hw) W425
  have O425 := O423.wr W425 g_pa
  have KC425 := KC423.wr W425 (il 1)
  refine gy (fun t k => jG X425 J 12 rfl 32 (aN X425 J 13 rfl rfl (aL X425 J 14 rfl rfl k))) ?_
  have c427 := (((Mt.ext E422).keep K423 (ninS (Nat.ne_of_lt (Nat.lt_of_lt_of_le Mt.lt (Nat.le_of_eq g422.symm))) nin0)).other W425 (ne_exa Mt.1 Np.1 (by decide)))
  have c428 := (((Nq.ext E422).keep K423 (ninS (Nat.ne_of_lt (Nat.lt_of_lt_of_le Nq.lt (Nat.le_of_eq g422.symm))) nin0)).other W425 hpq.symm)
  refine own_cp (rmFLL hw G _ _ _ _ _ _ _ _ _ _ _ _ O425 c427 (f423_0.other W425 (Nat.ne_of_gt (Nat.lt_of_lt_of_le Np.lt (Nat.le_of_eq g422.symm)))) M425 c428 (Nat.ne_of_gt (Nat.lt_of_lt_of_le Np.lt (Nat.le_of_eq g422.symm))) (Nat.ne_of_gt (Nat.lt_of_lt_of_le Nq.lt (Nat.le_of_eq g422.symm))) hpq g_tm g_b422 g_pa g_qa) X425 J 15 445 447 448 446 50 449 e425 c427.1 0 pd_26 (kF N425 fun _ T426 v426 X426 N426 q426 => ?_)
  obtain ⟨rfl, K426, f426_0, f426_1, f426_2, f426_3⟩ := q426
  have O426 := O425.keep K426 (allS g_tm (allS g_b422 (allS g_pa (allS g_qa all0))))
  have KC426 := KC425.trans K426 (allS (il 0) (allS (Or.inr sz_b422) (allS (il 1) (allS (il 2) all0))))
  show G_ 38 _ []
  refine gy (fun t k => aN X426 J 16 rfl rfl (oP X426 J 17 rfl k)) ?_
  refine own_gf X426 J 18 62 Via.refl rfl f426_0.2.2.1 (fun T429 X429 e429 => ?_)
  refine gy (fun t k => cI X429 J 19 rfl 1 (oA X429 J 20 rfl (sz + (1 : Int32)) k)) ?_
  refine own_pf (ty := .int) (v' := (.int (sz + (1 : Int32)))) X429 J 21 62 Via.refl e429 f426_0.2.2.1 f426_0.1 (Or.inl (ww hw 63 rfl)) 49 rfl rfl N426 g_tm (fun T430 h430 _ X430 e430 W430 N430 => ?_)
  have M430 := f426_0.s_size (own_lay hw) W430
  have O430 := O426.wr W430 g_tm
  have KC430 := KC426.wr W430 (il 0)
  refine gy (fun t k => aN X430 J 22 rfl rfl (oP X430 J 23 rfl k)) ?_
  refine own_gf X430 J 24 64 Via.refl e430 M430.2.2.2.1 (fun T431 X431 e431 => ?_)
  refine gy (fun t k => cI X431 J 25 rfl 1 (oA X431 J 26 rfl (mc + (1 : Int32)) k)) ?_
  refine own_pf (ty := .int) (v' := (.int (mc + (1 : Int32)))) X431 J 27 64 Via.refl e431 M430.2.2.2.1 M430.1 (Or.inl (ww hw 65 rfl)) 49 rfl rfl N430 g_tm (fun T432 h432 _ X432 e432 W432 N432 => ?_)
  have M432 := M430.s_modCount (own_lay hw) W432
  have O432 := O430.wr W432 g_tm
  have KC432 := KC430.wr W432 (il 0)
  have c433 := ((f426_1.other W430 (ne_exa Np.1 Mt.1 (by decide))).other W432 (ne_exa Np.1 Mt.1 (by decide)))
  have c434 := ((f426_2.other W430 (Nat.ne_of_gt (Nat.lt_of_lt_of_le Mt.lt (Nat.le_of_eq g422.symm)))).other W432 (Nat.ne_of_gt (Nat.lt_of_lt_of_le Mt.lt (Nat.le_of_eq g422.symm))))
  have c435 := ((f426_3.other W430 (ne_exa Nq.1 Mt.1 (by decide))).other W432 (ne_exa Nq.1 Mt.1 (by decide)))
  exact rV X432 hret hlk hPf J 28 ⟨⟨b422, rfl, (by rw [e432]; exact KC432), (by rw [e432]; exact M432), (by rw [e432]; exact c433), (by rw [e432]; exact c434), (by rw [e432]; exact c435), sz_b422⟩, N432⟩
def QrmALR (Z : State) (wP : Addr) (tm : Addr) (u : Addr) (pa : Addr) (qa : Addr) (upa : Addr) (uq : Addr) (sz : Int32) (mc : Int32) (nk : Value) (h0 : Heap) (v : Option Value) (h : Heap) : Prop := ∃ (xa : Addr), (v = none) ∧ (Keep h0 h [tm, pa, qa]) ∧ (Mp Z h tm (.ref xa) (sz + (1 : Int32)) (mc + (1 : Int32)) nk) ∧ (Ent Z h wP xa u .null (.ref pa) (.ref qa) (1 : Int32)) ∧ (Ent Z h wP pa upa (.ref xa) .null .null (0 : Int32)) ∧ (Ent Z h wP qa uq (.ref xa) .null .null (0 : Int32)) ∧ (h0.size ≤ xa)
theorem rmALR (hw : HW a0 Z) (G : Gh Z vcs wI wA cA vF wP wD kD wE kE mT mU mL mO) (tm : Addr) (u : Addr) (pa : Addr) (qa : Addr) (upa : Addr) (uq : Addr) (sz : Int32) (mc : Int32) (nk : Value) (h0 : Heap) (n0 : Nat) (O0 : Old Z n0 h0) (Mt : Mp Z h0 tm (.ref qa) sz mc nk) (Np : Ent Z h0 wP pa upa (.ref qa) .null .null (0 : Int32)) (Nq : Ent Z h0 wP qa uq .null (.ref pa) .null (1 : Int32)) (hpq : pa ≠ qa) (g_tm : n0 ≤ tm) (g_pa : n0 ≤ pa) (g_qa : n0 ≤ qa) :
    MM l Z own_y44 jdk_2729_method_29_code 6 none ws (Rm 2 1 6 28) #[(.ref tm), (.ref u), (.ref wP), (.ref pa), (.int 0)] h0 (QF n0 (QrmALR Z wP tm u pa qa upa uq sz mc nk h0)) := by
  refine own_go hw (plainFor_of_name pn_72) #[vr tm, vr u, vr wP, vr pa, vi 0, .unset] (fun p e s m below meth c s₁ Pf hx hby hlk hown hnm hret hml hZ hh X0 e0 hPf Jf => ?_)
  have N0 := Fr.nil n0
  have KC0 := Keep.refl h0 [tm, pa, qa]
  have J := Jf d70
  have J' := Jf d70'
  obtain ⟨T436, h436, X436, e436, E436, A436, D436, -, st436⟩ := newO X0 hx hZ hown (ww hw 417 rfl) (ww hw 418 rfl) (ww hw 419 rfl) e0 (g := (mkF m 0 #[vr tm, vr u, vr wP, vr pa, vi 0, .unset] [])) rfl (jd J 0 rfl) (by decide) (by decide)
  obtain ⟨b436, g436⟩ : ∃ z, z = h0.size := ⟨_, rfl⟩
  rw [← g436] at A436 D436 st436
  refine Go.by' st436 ?_
  have g_b436 : n0 ≤ b436 := Nat.le_trans (own_le O0) (Nat.le_of_eq g436.symm)
  have sz_b436 : h0.size ≤ b436 := Nat.le_trans KC0.1 (Nat.le_of_eq g436.symm)
  have O436 := O0.ext E436
  have KC436 := KC0.ext E436
  have Fn436_426 : Fld Z h436 b436 S_1 "color" "Z" (Value.int 0) := D436 (Or.inl (ww hw 426 rfl)) (ty := .boolean) (by decide)
  have Fn436_428 : Fld Z h436 b436 S_1 "key" S_11 Value.null := D436 (Or.inl (ww hw 428 rfl)) (ty := (.object S_2)) (by decide)
  have Fn436_430 : Fld Z h436 b436 S_1 "value" S_11 Value.null := D436 (Or.inl (ww hw 430 rfl)) (ty := (.object S_2)) (by decide)
  have Fn436_432 : Fld Z h436 b436 S_1 "parent" S_5 Value.null := D436 (Or.inl (ww hw 432 rfl)) (ty := (.object S_1)) (by decide)
  have Fn436_439 : Fld Z h436 b436 S_1 "left" S_5 Value.null := D436 (Or.inl (ww hw 439 rfl)) (ty := (.object S_1)) (by decide)
  have Fn436_453 : Fld Z h436 b436 S_1 "right" S_5 Value.null := D436 (Or.inl (ww hw 453 rfl)) (ty := (.object S_1)) (by decide)
  show G_ 3 #[vr tm, vr u, vr wP, vr pa, vi 0, .unset] [(.ref b436)]
  refine gy (fun t k => oP X436 J 1 rfl (aN X436 J 2 rfl rfl (aN X436 J 3 rfl rfl (aN X436 J 4 rfl rfl k)))) ?_
  refine own_ci (rmEnr hw G _ u pa _ _ O436 A436 Fn436_428 Fn436_430 Fn436_432 Fn436_439 Fn436_453 Fn436_426 g_b436) X436 J 5 420 421 419 423 e436 1 pd_27 (kF N0 fun _ T437 v437 X437 N437 q437 => ?_)
  obtain ⟨rfl, K437, f437_0⟩ := q437
  have O437 := O436.keep K437 (allS g_b436 all0)
  have KC437 := KC436.trans K437 (allS (Or.inr sz_b436) all0)
  show G_ 10 _ [(.ref b436)]
  refine gy (fun t k => sA X437 J 6 rfl #[vr tm, vr u, vr wP, vr pa, vi 0, vr b436] (iL X437 J 7 rfl rfl (fY X437 J 8 rfl ((if0 _ _).trans (teq (by decide)).1) 26 (aN X437 J' 0 rfl rfl (aL X437 J' 1 rfl rfl k))))) ?_
  have c438 := ((Np.ext E436).keep K437 (ninS (Nat.ne_of_lt (Nat.lt_of_lt_of_le Np.lt (Nat.le_of_eq g436.symm))) nin0))
  refine own_pf (ty := (.object S_1)) (v' := (.ref b436)) X437 J' 2 452 Via.refl rfl c438.2.2.2.2.2.1 c438.1 (Or.inl (ww hw 453 rfl)) 418 rfl rfl N437 g_pa (fun T439 h439 _ X439 e439 W439 N439 => ?_)
  have M439 := c438.s_right (own_lay hw) W439
  have O439 := O437.wr W439 g_pa
  have KC439 := KC437.wr W439 (il 1)
  refine gy (fun t k => aN X439 J 13 rfl rfl (aL X439 J 14 rfl rfl k)) ?_
  have c441 := (((Mt.ext E436).keep K437 (ninS (Nat.ne_of_lt (Nat.lt_of_lt_of_le Mt.lt (Nat.le_of_eq g436.symm))) nin0)).other W439 (ne_exa Mt.1 Np.1 (by decide)))
  have c442 := (((Nq.ext E436).keep K437 (ninS (Nat.ne_of_lt (Nat.lt_of_lt_of_le Nq.lt (Nat.le_of_eq g436.symm))) nin0)).other W439 hpq.symm)
  refine own_cp (rmFLR hw G _ _ _ _ _ _ _ _ _ _ _ _ O439 c441 (f437_0.other W439 (Nat.ne_of_gt (Nat.lt_of_lt_of_le Np.lt (Nat.le_of_eq g436.symm)))) M439 c442 (Nat.ne_of_gt (Nat.lt_of_lt_of_le Np.lt (Nat.le_of_eq g436.symm))) (Nat.ne_of_gt (Nat.lt_of_lt_of_le Nq.lt (Nat.le_of_eq g436.symm))) hpq g_tm g_b436 g_pa g_qa) X439 J 15 445 447 448 446 50 449 e439 c441.1 0 pd_26 (kF N439 fun _ T440 v440 X440 N440 q440 => ?_)
  obtain ⟨rfl, K440, f440_0, f440_1, f440_2, f440_3⟩ := q440
  have O440 := O439.keep K440 (allS g_tm (allS g_b436 (allS g_pa (allS g_qa all0))))
  have KC440 := KC439.trans K440 (allS (il 0) (allS (Or.inr sz_b436) (allS (il 1) (allS (il 2) all0))))
  show G_ 38 _ []
  refine gy (fun t k => aN X440 J 16 rfl rfl (oP X440 J 17 rfl k)) ?_
  refine own_gf X440 J 18 62 Via.refl rfl f440_0.2.2.1 (fun T443 X443 e443 => ?_)
  refine gy (fun t k => cI X443 J 19 rfl 1 (oA X443 J 20 rfl (sz + (1 : Int32)) k)) ?_
  refine own_pf (ty := .int) (v' := (.int (sz + (1 : Int32)))) X443 J 21 62 Via.refl e443 f440_0.2.2.1 f440_0.1 (Or.inl (ww hw 63 rfl)) 49 rfl rfl N440 g_tm (fun T444 h444 _ X444 e444 W444 N444 => ?_)
  have M444 := f440_0.s_size (own_lay hw) W444
  have O444 := O440.wr W444 g_tm
  have KC444 := KC440.wr W444 (il 0)
  refine gy (fun t k => aN X444 J 22 rfl rfl (oP X444 J 23 rfl k)) ?_
  refine own_gf X444 J 24 64 Via.refl e444 M444.2.2.2.1 (fun T445 X445 e445 => ?_)
  refine gy (fun t k => cI X445 J 25 rfl 1 (oA X445 J 26 rfl (mc + (1 : Int32)) k)) ?_
  refine own_pf (ty := .int) (v' := (.int (mc + (1 : Int32)))) X445 J 27 64 Via.refl e445 M444.2.2.2.1 M444.1 (Or.inl (ww hw 65 rfl)) 49 rfl rfl N444 g_tm (fun T446 h446 _ X446 e446 W446 N446 => ?_)
  have M446 := M444.s_modCount (own_lay hw) W446
  have O446 := O444.wr W446 g_tm
  have KC446 := KC444.wr W446 (il 0)
  have c447 := ((f440_1.other W444 (Nat.ne_of_gt (Nat.lt_of_lt_of_le Mt.lt (Nat.le_of_eq g436.symm)))).other W446 (Nat.ne_of_gt (Nat.lt_of_lt_of_le Mt.lt (Nat.le_of_eq g436.symm))))
  have c448 := ((f440_2.other W444 (ne_exa Np.1 Mt.1 (by decide))).other W446 (ne_exa Np.1 Mt.1 (by decide)))
  have c449 := ((f440_3.other W444 (ne_exa Nq.1 Mt.1 (by decide))).other W446 (ne_exa Nq.1 Mt.1 (by decide)))
  exact rV X446 hret hlk hPf J 28 ⟨⟨b436, rfl, (by rw [e446]; exact KC446), (by rw [e446]; exact M446), (by rw [e446]; exact c447), (by rw [e446]; exact c448), (by rw [e446]; exact c449), sz_b436⟩, N446⟩
def QrmARL (Z : State) (wP : Addr) (tm : Addr) (u : Addr) (pa : Addr) (qa : Addr) (upa : Addr) (uq : Addr) (sz : Int32) (mc : Int32) (nk : Value) (h0 : Heap) (v : Option Value) (h : Heap) : Prop := ∃ (xa : Addr), (v = none) ∧ (Keep h0 h [tm, pa, qa]) ∧ (Mp Z h tm (.ref xa) (sz + (1 : Int32)) (mc + (1 : Int32)) nk) ∧ (Ent Z h wP xa u .null (.ref qa) (.ref pa) (1 : Int32)) ∧ (Ent Z h wP pa upa (.ref xa) .null .null (0 : Int32)) ∧ (Ent Z h wP qa uq (.ref xa) .null .null (0 : Int32)) ∧ (h0.size ≤ xa)
theorem rmARL (hw : HW a0 Z) (G : Gh Z vcs wI wA cA vF wP wD kD wE kE mT mU mL mO) (tm : Addr) (u : Addr) (pa : Addr) (qa : Addr) (upa : Addr) (uq : Addr) (sz : Int32) (mc : Int32) (nk : Value) (h0 : Heap) (n0 : Nat) (O0 : Old Z n0 h0) (Mt : Mp Z h0 tm (.ref qa) sz mc nk) (Np : Ent Z h0 wP pa upa (.ref qa) .null .null (0 : Int32)) (Nq : Ent Z h0 wP qa uq .null .null (.ref pa) (1 : Int32)) (hpq : pa ≠ qa) (g_tm : n0 ≤ tm) (g_pa : n0 ≤ pa) (g_qa : n0 ≤ qa) :
    MM l Z own_y44 jdk_2729_method_29_code 6 none ws (Rm 2 1 6 28) #[(.ref tm), (.ref u), (.ref wP), (.ref pa), (.int 1)] h0 (QF n0 (QrmARL Z wP tm u pa qa upa uq sz mc nk h0)) := by
  refine own_go hw (plainFor_of_name pn_72) #[vr tm, vr u, vr wP, vr pa, vi 1, .unset] (fun p e s m below meth c s₁ Pf hx hby hlk hown hnm hret hml hZ hh X0 e0 hPf Jf => ?_)
  have N0 := Fr.nil n0
  have KC0 := Keep.refl h0 [tm, pa, qa]
  have J := Jf d70
  obtain ⟨T450, h450, X450, e450, E450, A450, D450, -, st450⟩ := newO X0 hx hZ hown (ww hw 417 rfl) (ww hw 418 rfl) (ww hw 419 rfl) e0 (g := (mkF m 0 #[vr tm, vr u, vr wP, vr pa, vi 1, .unset] [])) rfl (jd J 0 rfl) (by decide) (by decide)
  obtain ⟨b450, g450⟩ : ∃ z, z = h0.size := ⟨_, rfl⟩
  rw [← g450] at A450 D450 st450
  refine Go.by' st450 ?_
  have g_b450 : n0 ≤ b450 := Nat.le_trans (own_le O0) (Nat.le_of_eq g450.symm)
  have sz_b450 : h0.size ≤ b450 := Nat.le_trans KC0.1 (Nat.le_of_eq g450.symm)
  have O450 := O0.ext E450
  have KC450 := KC0.ext E450
  have Fn450_426 : Fld Z h450 b450 S_1 "color" "Z" (Value.int 0) := D450 (Or.inl (ww hw 426 rfl)) (ty := .boolean) (by decide)
  have Fn450_428 : Fld Z h450 b450 S_1 "key" S_11 Value.null := D450 (Or.inl (ww hw 428 rfl)) (ty := (.object S_2)) (by decide)
  have Fn450_430 : Fld Z h450 b450 S_1 "value" S_11 Value.null := D450 (Or.inl (ww hw 430 rfl)) (ty := (.object S_2)) (by decide)
  have Fn450_432 : Fld Z h450 b450 S_1 "parent" S_5 Value.null := D450 (Or.inl (ww hw 432 rfl)) (ty := (.object S_1)) (by decide)
  have Fn450_439 : Fld Z h450 b450 S_1 "left" S_5 Value.null := D450 (Or.inl (ww hw 439 rfl)) (ty := (.object S_1)) (by decide)
  have Fn450_453 : Fld Z h450 b450 S_1 "right" S_5 Value.null := D450 (Or.inl (ww hw 453 rfl)) (ty := (.object S_1)) (by decide)
  show G_ 3 #[vr tm, vr u, vr wP, vr pa, vi 1, .unset] [(.ref b450)]
  refine gy (fun t k => oP X450 J 1 rfl (aN X450 J 2 rfl rfl (aN X450 J 3 rfl rfl (aN X450 J 4 rfl rfl k)))) ?_
  refine own_ci (rmEnr hw G _ u pa _ _ O450 A450 Fn450_428 Fn450_430 Fn450_432 Fn450_439 Fn450_453 Fn450_426 g_b450) X450 J 5 420 421 419 423 e450 1 pd_27 (kF N0 fun _ T451 v451 X451 N451 q451 => ?_)
  obtain ⟨rfl, K451, f451_0⟩ := q451
  have O451 := O450.keep K451 (allS g_b450 all0)
  have KC451 := KC450.trans K451 (allS (Or.inr sz_b450) all0)
  show G_ 10 _ [(.ref b450)]
  refine gy (fun t k => sA X451 J 6 rfl #[vr tm, vr u, vr wP, vr pa, vi 1, vr b450] (iL X451 J 7 rfl rfl (fN X451 J 8 rfl ((if0 _ _).trans (feq (by decide)).1) (aN X451 J 9 rfl rfl (aL X451 J 10 rfl rfl k))))) ?_
  have c452 := ((Np.ext E450).keep K451 (ninS (Nat.ne_of_lt (Nat.lt_of_lt_of_le Np.lt (Nat.le_of_eq g450.symm))) nin0))
  refine own_pf (ty := (.object S_1)) (v' := (.ref b450)) X451 J 11 438 Via.refl rfl c452.2.2.2.2.1 c452.1 (Or.inl (ww hw 439 rfl)) 418 rfl rfl N451 g_pa (fun T453 h453 _ X453 e453 W453 N453 => ?_)
  have M453 := c452.s_left (own_lay hw) W453
  have O453 := O451.wr W453 g_pa
  have KC453 := KC451.wr W453 (il 1)
  refine gy (fun t k => jG X453 J 12 rfl 32 (aN X453 J 13 rfl rfl (aL X453 J 14 rfl rfl k))) ?_
  have c455 := (((Mt.ext E450).keep K451 (ninS (Nat.ne_of_lt (Nat.lt_of_lt_of_le Mt.lt (Nat.le_of_eq g450.symm))) nin0)).other W453 (ne_exa Mt.1 Np.1 (by decide)))
  have c456 := (((Nq.ext E450).keep K451 (ninS (Nat.ne_of_lt (Nat.lt_of_lt_of_le Nq.lt (Nat.le_of_eq g450.symm))) nin0)).other W453 hpq.symm)
  refine own_cp (rmFRL hw G _ _ _ _ _ _ _ _ _ _ _ _ O453 c455 (f451_0.other W453 (Nat.ne_of_gt (Nat.lt_of_lt_of_le Np.lt (Nat.le_of_eq g450.symm)))) M453 c456 (Nat.ne_of_gt (Nat.lt_of_lt_of_le Np.lt (Nat.le_of_eq g450.symm))) (Nat.ne_of_gt (Nat.lt_of_lt_of_le Nq.lt (Nat.le_of_eq g450.symm))) hpq g_tm g_b450 g_pa g_qa) X453 J 15 445 447 448 446 50 449 e453 c455.1 0 pd_26 (kF N453 fun _ T454 v454 X454 N454 q454 => ?_)
  obtain ⟨rfl, K454, f454_0, f454_1, f454_2, f454_3⟩ := q454
  have O454 := O453.keep K454 (allS g_tm (allS g_b450 (allS g_pa (allS g_qa all0))))
  have KC454 := KC453.trans K454 (allS (il 0) (allS (Or.inr sz_b450) (allS (il 1) (allS (il 2) all0))))
  show G_ 38 _ []
  refine gy (fun t k => aN X454 J 16 rfl rfl (oP X454 J 17 rfl k)) ?_
  refine own_gf X454 J 18 62 Via.refl rfl f454_0.2.2.1 (fun T457 X457 e457 => ?_)
  refine gy (fun t k => cI X457 J 19 rfl 1 (oA X457 J 20 rfl (sz + (1 : Int32)) k)) ?_
  refine own_pf (ty := .int) (v' := (.int (sz + (1 : Int32)))) X457 J 21 62 Via.refl e457 f454_0.2.2.1 f454_0.1 (Or.inl (ww hw 63 rfl)) 49 rfl rfl N454 g_tm (fun T458 h458 _ X458 e458 W458 N458 => ?_)
  have M458 := f454_0.s_size (own_lay hw) W458
  have O458 := O454.wr W458 g_tm
  have KC458 := KC454.wr W458 (il 0)
  refine gy (fun t k => aN X458 J 22 rfl rfl (oP X458 J 23 rfl k)) ?_
  refine own_gf X458 J 24 64 Via.refl e458 M458.2.2.2.1 (fun T459 X459 e459 => ?_)
  refine gy (fun t k => cI X459 J 25 rfl 1 (oA X459 J 26 rfl (mc + (1 : Int32)) k)) ?_
  refine own_pf (ty := .int) (v' := (.int (mc + (1 : Int32)))) X459 J 27 64 Via.refl e459 M458.2.2.2.1 M458.1 (Or.inl (ww hw 65 rfl)) 49 rfl rfl N458 g_tm (fun T460 h460 _ X460 e460 W460 N460 => ?_)
  have M460 := M458.s_modCount (own_lay hw) W460
  have O460 := O458.wr W460 g_tm
  have KC460 := KC458.wr W460 (il 0)
  have c461 := ((f454_1.other W458 (Nat.ne_of_gt (Nat.lt_of_lt_of_le Mt.lt (Nat.le_of_eq g450.symm)))).other W460 (Nat.ne_of_gt (Nat.lt_of_lt_of_le Mt.lt (Nat.le_of_eq g450.symm))))
  have c462 := ((f454_2.other W458 (ne_exa Np.1 Mt.1 (by decide))).other W460 (ne_exa Np.1 Mt.1 (by decide)))
  have c463 := ((f454_3.other W458 (ne_exa Nq.1 Mt.1 (by decide))).other W460 (ne_exa Nq.1 Mt.1 (by decide)))
  exact rV X460 hret hlk hPf J 28 ⟨⟨b450, rfl, (by rw [e460]; exact KC460), (by rw [e460]; exact M460), (by rw [e460]; exact c461), (by rw [e460]; exact c462), (by rw [e460]; exact c463), sz_b450⟩, N460⟩
def QrmARR (Z : State) (wP : Addr) (tm : Addr) (u : Addr) (pa : Addr) (qa : Addr) (upa : Addr) (uq : Addr) (sz : Int32) (mc : Int32) (nk : Value) (h0 : Heap) (v : Option Value) (h : Heap) : Prop := ∃ (xa : Addr), (v = none) ∧ (Keep h0 h [tm, pa, qa]) ∧ (Mp Z h tm (.ref pa) (sz + (1 : Int32)) (mc + (1 : Int32)) nk) ∧ (Ent Z h wP pa upa .null (.ref qa) (.ref xa) (1 : Int32)) ∧ (Ent Z h wP xa u (.ref pa) .null .null (0 : Int32)) ∧ (Ent Z h wP qa uq (.ref pa) .null .null (0 : Int32)) ∧ (h0.size ≤ xa)
theorem rmARR (hw : HW a0 Z) (G : Gh Z vcs wI wA cA vF wP wD kD wE kE mT mU mL mO) (tm : Addr) (u : Addr) (pa : Addr) (qa : Addr) (upa : Addr) (uq : Addr) (sz : Int32) (mc : Int32) (nk : Value) (h0 : Heap) (n0 : Nat) (O0 : Old Z n0 h0) (Mt : Mp Z h0 tm (.ref qa) sz mc nk) (Np : Ent Z h0 wP pa upa (.ref qa) .null .null (0 : Int32)) (Nq : Ent Z h0 wP qa uq .null .null (.ref pa) (1 : Int32)) (hpq : pa ≠ qa) (g_tm : n0 ≤ tm) (g_pa : n0 ≤ pa) (g_qa : n0 ≤ qa) :
    MM l Z own_y44 jdk_2729_method_29_code 6 none ws (Rm 2 1 6 28) #[(.ref tm), (.ref u), (.ref wP), (.ref pa), (.int 0)] h0 (QF n0 (QrmARR Z wP tm u pa qa upa uq sz mc nk h0)) := by
  refine own_go hw (plainFor_of_name pn_72) #[vr tm, vr u, vr wP, vr pa, vi 0, .unset] (fun p e s m below meth c s₁ Pf hx hby hlk hown hnm hret hml hZ hh X0 e0 hPf Jf => ?_)
  have N0 := Fr.nil n0
  have KC0 := Keep.refl h0 [tm, pa, qa]
  have J := Jf d70
  have J' := Jf d70'
  obtain ⟨T464, h464, X464, e464, E464, A464, D464, -, st464⟩ := newO X0 hx hZ hown (ww hw 417 rfl) (ww hw 418 rfl) (ww hw 419 rfl) e0 (g := (mkF m 0 #[vr tm, vr u, vr wP, vr pa, vi 0, .unset] [])) rfl (jd J 0 rfl) (by decide) (by decide)
  obtain ⟨b464, g464⟩ : ∃ z, z = h0.size := ⟨_, rfl⟩
  rw [← g464] at A464 D464 st464
  refine Go.by' st464 ?_
  have g_b464 : n0 ≤ b464 := Nat.le_trans (own_le O0) (Nat.le_of_eq g464.symm)
  have sz_b464 : h0.size ≤ b464 := Nat.le_trans KC0.1 (Nat.le_of_eq g464.symm)
  have O464 := O0.ext E464
  have KC464 := KC0.ext E464
  have Fn464_426 : Fld Z h464 b464 S_1 "color" "Z" (Value.int 0) := D464 (Or.inl (ww hw 426 rfl)) (ty := .boolean) (by decide)
  have Fn464_428 : Fld Z h464 b464 S_1 "key" S_11 Value.null := D464 (Or.inl (ww hw 428 rfl)) (ty := (.object S_2)) (by decide)
  have Fn464_430 : Fld Z h464 b464 S_1 "value" S_11 Value.null := D464 (Or.inl (ww hw 430 rfl)) (ty := (.object S_2)) (by decide)
  have Fn464_432 : Fld Z h464 b464 S_1 "parent" S_5 Value.null := D464 (Or.inl (ww hw 432 rfl)) (ty := (.object S_1)) (by decide)
  have Fn464_439 : Fld Z h464 b464 S_1 "left" S_5 Value.null := D464 (Or.inl (ww hw 439 rfl)) (ty := (.object S_1)) (by decide)
  have Fn464_453 : Fld Z h464 b464 S_1 "right" S_5 Value.null := D464 (Or.inl (ww hw 453 rfl)) (ty := (.object S_1)) (by decide)
  show G_ 3 #[vr tm, vr u, vr wP, vr pa, vi 0, .unset] [(.ref b464)]
  refine gy (fun t k => oP X464 J 1 rfl (aN X464 J 2 rfl rfl (aN X464 J 3 rfl rfl (aN X464 J 4 rfl rfl k)))) ?_
  refine own_ci (rmEnr hw G _ u pa _ _ O464 A464 Fn464_428 Fn464_430 Fn464_432 Fn464_439 Fn464_453 Fn464_426 g_b464) X464 J 5 420 421 419 423 e464 1 pd_27 (kF N0 fun _ T465 v465 X465 N465 q465 => ?_)
  obtain ⟨rfl, K465, f465_0⟩ := q465
  have O465 := O464.keep K465 (allS g_b464 all0)
  have KC465 := KC464.trans K465 (allS (Or.inr sz_b464) all0)
  show G_ 10 _ [(.ref b464)]
  refine gy (fun t k => sA X465 J 6 rfl #[vr tm, vr u, vr wP, vr pa, vi 0, vr b464] (iL X465 J 7 rfl rfl (fY X465 J 8 rfl ((if0 _ _).trans (teq (by decide)).1) 26 (aN X465 J' 0 rfl rfl (aL X465 J' 1 rfl rfl k))))) ?_
  have c466 := ((Np.ext E464).keep K465 (ninS (Nat.ne_of_lt (Nat.lt_of_lt_of_le Np.lt (Nat.le_of_eq g464.symm))) nin0))
  refine own_pf (ty := (.object S_1)) (v' := (.ref b464)) X465 J' 2 452 Via.refl rfl c466.2.2.2.2.2.1 c466.1 (Or.inl (ww hw 453 rfl)) 418 rfl rfl N465 g_pa (fun T467 h467 _ X467 e467 W467 N467 => ?_)
  have M467 := c466.s_right (own_lay hw) W467
  have O467 := O465.wr W467 g_pa
  have KC467 := KC465.wr W467 (il 1)
  refine gy (fun t k => aN X467 J 13 rfl rfl (aL X467 J 14 rfl rfl k)) ?_
  have c469 := (((Mt.ext E464).keep K465 (ninS (Nat.ne_of_lt (Nat.lt_of_lt_of_le Mt.lt (Nat.le_of_eq g464.symm))) nin0)).other W467 (ne_exa Mt.1 Np.1 (by decide)))
  have c470 := (((Nq.ext E464).keep K465 (ninS (Nat.ne_of_lt (Nat.lt_of_lt_of_le Nq.lt (Nat.le_of_eq g464.symm))) nin0)).other W467 hpq.symm)
  refine own_cp (rmFRR hw G _ _ _ _ _ _ _ _ _ _ _ _ O467 c469 (f465_0.other W467 (Nat.ne_of_gt (Nat.lt_of_lt_of_le Np.lt (Nat.le_of_eq g464.symm)))) M467 c470 (Nat.ne_of_gt (Nat.lt_of_lt_of_le Np.lt (Nat.le_of_eq g464.symm))) (Nat.ne_of_gt (Nat.lt_of_lt_of_le Nq.lt (Nat.le_of_eq g464.symm))) hpq g_tm g_b464 g_pa g_qa) X467 J 15 445 447 448 446 50 449 e467 c469.1 0 pd_26 (kF N467 fun _ T468 v468 X468 N468 q468 => ?_)
  obtain ⟨rfl, K468, f468_0, f468_1, f468_2, f468_3⟩ := q468
  have O468 := O467.keep K468 (allS g_tm (allS g_b464 (allS g_pa (allS g_qa all0))))
  have KC468 := KC467.trans K468 (allS (il 0) (allS (Or.inr sz_b464) (allS (il 1) (allS (il 2) all0))))
  show G_ 38 _ []
  refine gy (fun t k => aN X468 J 16 rfl rfl (oP X468 J 17 rfl k)) ?_
  refine own_gf X468 J 18 62 Via.refl rfl f468_0.2.2.1 (fun T471 X471 e471 => ?_)
  refine gy (fun t k => cI X471 J 19 rfl 1 (oA X471 J 20 rfl (sz + (1 : Int32)) k)) ?_
  refine own_pf (ty := .int) (v' := (.int (sz + (1 : Int32)))) X471 J 21 62 Via.refl e471 f468_0.2.2.1 f468_0.1 (Or.inl (ww hw 63 rfl)) 49 rfl rfl N468 g_tm (fun T472 h472 _ X472 e472 W472 N472 => ?_)
  have M472 := f468_0.s_size (own_lay hw) W472
  have O472 := O468.wr W472 g_tm
  have KC472 := KC468.wr W472 (il 0)
  refine gy (fun t k => aN X472 J 22 rfl rfl (oP X472 J 23 rfl k)) ?_
  refine own_gf X472 J 24 64 Via.refl e472 M472.2.2.2.1 (fun T473 X473 e473 => ?_)
  refine gy (fun t k => cI X473 J 25 rfl 1 (oA X473 J 26 rfl (mc + (1 : Int32)) k)) ?_
  refine own_pf (ty := .int) (v' := (.int (mc + (1 : Int32)))) X473 J 27 64 Via.refl e473 M472.2.2.2.1 M472.1 (Or.inl (ww hw 65 rfl)) 49 rfl rfl N472 g_tm (fun T474 h474 _ X474 e474 W474 N474 => ?_)
  have M474 := M472.s_modCount (own_lay hw) W474
  have O474 := O472.wr W474 g_tm
  have KC474 := KC472.wr W474 (il 0)
  have c475 := ((f468_1.other W472 (ne_exa Np.1 Mt.1 (by decide))).other W474 (ne_exa Np.1 Mt.1 (by decide)))
  have c476 := ((f468_2.other W472 (Nat.ne_of_gt (Nat.lt_of_lt_of_le Mt.lt (Nat.le_of_eq g464.symm)))).other W474 (Nat.ne_of_gt (Nat.lt_of_lt_of_le Mt.lt (Nat.le_of_eq g464.symm))))
  have c477 := ((f468_3.other W472 (ne_exa Nq.1 Mt.1 (by decide))).other W474 (ne_exa Nq.1 Mt.1 (by decide)))
  exact rV X474 hret hlk hPf J 28 ⟨⟨b464, rfl, (by rw [e474]; exact KC474), (by rw [e474]; exact M474), (by rw [e474]; exact c475), (by rw [e474]; exact c476), (by rw [e474]; exact c477), sz_b464⟩, N474⟩
theorem pd_28 : parseMethodDescriptor "(Ljava/lang/Object;)I" = some ⟨[(.object S_2)], some .int⟩ := by decide +kernel
abbrev own_y45 : MethodName := ⟨"java/lang/Comparable", "compareTo", "(Ljava/lang/Object;)I"⟩
def L61 : List (Nat × Instr × Nat) := [(0, a_0), (1, .getfield 16, 3), (4, .ifnonnull 16, 3), (7, a_1), (8, .checkcast 99, 3), (11, a_2), (12, .invokeinterface 107 2, 5), (17, .goto 14, 3), (31, .ireturn, 1)]
theorem d61 : ∀ q ∈ L61, decode jdk_2729_method_67_code q.1 = .ok q.2 := by decide +kernel
def QrmCp (v : Option Value) : Prop := ∃ (r : Int32), (v = some (.int r))
abbrev own_y46 : MethodName := ⟨S_6, "compare", "(Ljava/lang/Object;Ljava/lang/Object;)I"⟩
theorem rmCp (hw : HW a0 Z) (G : Gh Z vcs wI wA cA vF wP wD kD wE kE mT mU mL mO) (tm : Addr) (u : Addr) (ky : Int) (rt : Value) (sz : Int32) (mc : Int32) (nk : Value) (h0 : Heap) (n0 : Nat) (O0 : Old Z n0 h0) (Mt : Mp Z h0 tm rt sz mc nk) (SKu : SK Z h0 u ky) :
    MM l Z own_y46 jdk_2729_method_67_code 3 (some .int) ws (Rm 5 0 0 76) #[(.ref tm), (.ref u), (.ref u)] h0 (QP h0 QrmCp) := by
  refine own_go hw (plainFor_of_name pn_72) #[vr tm, vr u, vr u] (fun p e s m below meth c s₁ Pf hx hby hlk hown hnm hret hml hZ hh X0 e0 hPf Jf => ?_)
  have J := Jf d61
  refine gy (fun t k => aN X0 J 0 rfl rfl k) ?_
  refine own_gf X0 J 1 66 Via.refl e0 Mt.2.1 (fun T478 X478 e478 => ?_)
  refine gy (fun t k => wN X478 J 2 rfl (aN X478 J 3 rfl rfl k)) ?_
  refine own_cc X478 J 4 389 e478 (Ins.of_exa SKu.exa (ww hw 390 rfl)) (fun T479 X479 e479 => ?_)
  refine gy (fun t k => aN X479 J 5 rfl rfl k) ?_
  refine own_cf (y := own_y45) (rmCb hw G _ _ _ _ _ _ O0 SKu SKu) X479 J 6 391 392 393 394 395 396 397 390 12 398 e479 SKu.exa 0 pd_28 (kP fun T480 v480 X480 e480 q480 => ?_)
  obtain ⟨r_480, rfl, r480_0⟩ := q480
  show G_ 17 _ [(.int r_480)]
  refine gy (fun t k => jG X480 J 7 rfl 31 k) ?_
  exact rI X480 hret hlk hPf J 8 ⟨⟨r_480, rfl⟩, rfl, e480⟩
theorem pd_29 : parseMethodDescriptor "(Ljava/lang/Object;Ljava/lang/Object;)I" = some ⟨[(.object S_2), (.object S_2)], some .int⟩ := by decide +kernel
def L60 : List (Nat × Instr × Nat) := [(0, a_0), (1, a_1), (2, a_1), (3, .invokevirtual 123, 3), (6, .pop, 1), (7, a_0), (8, .new 59, 3), (11, .dup, 1), (12, a_1), (13, a_2), (14, .aconst_null, 1), (15, .invokespecial 167, 3), (18, .putfield 101, 3), (21, a_0), (22, .iconst 1, 1), (23, .putfield 7, 3), (26, a_0), (27, .dup, 1), (28, .getfield 13, 3), (31, .iconst 1, 1), (32, .iadd, 1), (33, .putfield 13, 3), (36, .return_, 1)]
theorem d60 : ∀ q ∈ L60, decode jdk_2729_method_30_code q.1 = .ok q.2 := by decide +kernel
def QrmAm (Z : State) (wP : Addr) (tm : Addr) (u : Addr) (mc : Int32) (nk : Value) (h0 : Heap) (v : Option Value) (h : Heap) : Prop := ∃ (xa : Addr), (v = none) ∧ (Keep h0 h [tm]) ∧ (Mp Z h tm (.ref xa) (1 : Int32) (mc + (1 : Int32)) nk) ∧ (Ent Z h wP xa u .null .null .null (1 : Int32)) ∧ (h0.size ≤ xa)
abbrev own_y47 : MethodName := ⟨S_6, "addEntryToEmptyMap", "(Ljava/lang/Object;Ljava/lang/Object;)V"⟩
theorem rmAm (hw : HW a0 Z) (G : Gh Z vcs wI wA cA vF wP wD kD wE kE mT mU mL mO) (tm : Addr) (u : Addr) (ky : Int) (mc : Int32) (nk : Value) (h0 : Heap) (n0 : Nat) (O0 : Old Z n0 h0) (Mt : Mp Z h0 tm .null (0 : Int32) mc nk) (SKu : SK Z h0 u ky) (g_tm : n0 ≤ tm) :
    MM l Z own_y47 jdk_2729_method_30_code 3 none ws (Rm 6 1 6 90) #[(.ref tm), (.ref u), (.ref wP)] h0 (QF n0 (QrmAm Z wP tm u mc nk h0)) := by
  refine own_go hw (plainFor_of_name pn_72) #[vr tm, vr u, vr wP] (fun p e s m below meth c s₁ Pf hx hby hlk hown hnm hret hml hZ hh X0 e0 hPf Jf => ?_)
  have N0 := Fr.nil n0
  have KC0 := Keep.refl h0 [tm]
  have J := Jf d60
  refine gy (fun t k => aN X0 J 0 rfl rfl (aN X0 J 1 rfl rfl (aN X0 J 2 rfl rfl k))) ?_
  refine own_cv (rmCp hw G _ _ _ _ _ _ _ _ _ O0 Mt SKu) X0 J 3 384 385 387 386 50 388 e0 Mt.1 0 pd_29 (kP fun T481 v481 X481 e481 q481 => ?_)
  obtain ⟨r_481, rfl⟩ := q481
  show G_ 6 _ [(.int r_481)]
  refine gy (fun t k => oQ X481 J 4 rfl (aN X481 J 5 rfl rfl k)) ?_
  obtain ⟨T482, h482, X482, e482, E482, A482, D482, -, st482⟩ := newO X481 hx hZ hown (ww hw 417 rfl) (ww hw 418 rfl) (ww hw 419 rfl) e481 (g := (mkF m 8 #[vr tm, vr u, vr wP] [(.ref tm)])) rfl (jd J 6 rfl) (by decide) (by decide)
  obtain ⟨b482, g482⟩ : ∃ z, z = h0.size := ⟨_, rfl⟩
  rw [← g482] at A482 D482 st482
  refine Go.by' st482 ?_
  have g_b482 : n0 ≤ b482 := Nat.le_trans (own_le O0) (Nat.le_of_eq g482.symm)
  have sz_b482 : h0.size ≤ b482 := Nat.le_trans KC0.1 (Nat.le_of_eq g482.symm)
  have O482 := O0.ext E482
  have KC482 := KC0.ext E482
  have Fn482_426 : Fld Z h482 b482 S_1 "color" "Z" (Value.int 0) := D482 (Or.inl (ww hw 426 rfl)) (ty := .boolean) (by decide)
  have Fn482_428 : Fld Z h482 b482 S_1 "key" S_11 Value.null := D482 (Or.inl (ww hw 428 rfl)) (ty := (.object S_2)) (by decide)
  have Fn482_430 : Fld Z h482 b482 S_1 "value" S_11 Value.null := D482 (Or.inl (ww hw 430 rfl)) (ty := (.object S_2)) (by decide)
  have Fn482_432 : Fld Z h482 b482 S_1 "parent" S_5 Value.null := D482 (Or.inl (ww hw 432 rfl)) (ty := (.object S_1)) (by decide)
  have Fn482_439 : Fld Z h482 b482 S_1 "left" S_5 Value.null := D482 (Or.inl (ww hw 439 rfl)) (ty := (.object S_1)) (by decide)
  have Fn482_453 : Fld Z h482 b482 S_1 "right" S_5 Value.null := D482 (Or.inl (ww hw 453 rfl)) (ty := (.object S_1)) (by decide)
  show G_ 11 #[vr tm, vr u, vr wP] [(.ref b482), (.ref tm)]
  refine gy (fun t k => oP X482 J 7 rfl (aN X482 J 8 rfl rfl (aN X482 J 9 rfl rfl (cU X482 J 10 rfl k)))) ?_
  refine own_ci (rmEnn hw G _ u _ _ O482 A482 Fn482_428 Fn482_430 Fn482_432 Fn482_439 Fn482_453 Fn482_426 g_b482) X482 J 11 420 421 419 423 e482 2 pd_27 (kF N0 fun _ T483 v483 X483 N483 q483 => ?_)
  obtain ⟨rfl, K483, f483_0⟩ := q483
  have O483 := O482.keep K483 (allS g_b482 all0)
  have KC483 := KC482.trans K483 (allS (Or.inr sz_b482) all0)
  have c484 := ((Mt.ext E482).keep K483 (ninS (Nat.ne_of_lt (Nat.lt_of_lt_of_le Mt.lt (Nat.le_of_eq g482.symm))) nin0))
  show G_ 18 _ [(.ref b482), (.ref tm)]
  refine own_pf (ty := (.object S_1)) (v' := (.ref b482)) X483 J 12 214 Via.refl rfl c484.2.2.2.2.1 c484.1 (Or.inl (ww hw 215 rfl)) 49 rfl rfl N483 g_tm (fun T485 h485 _ X485 e485 W485 N485 => ?_)
  have M485 := c484.s_root (own_lay hw) W485
  have O485 := O483.wr W485 g_tm
  have KC485 := KC483.wr W485 (il 0)
  refine gy (fun t k => aN X485 J 13 rfl rfl (cI X485 J 14 rfl 1 k)) ?_
  refine own_pf (ty := .int) (v' := (.int 1)) X485 J 15 62 Via.refl e485 M485.2.2.1 M485.1 (Or.inl (ww hw 63 rfl)) 49 rfl rfl N485 g_tm (fun T486 h486 _ X486 e486 W486 N486 => ?_)
  have M486 := M485.s_size (own_lay hw) W486
  have O486 := O485.wr W486 g_tm
  have KC486 := KC485.wr W486 (il 0)
  refine gy (fun t k => aN X486 J 16 rfl rfl (oP X486 J 17 rfl k)) ?_
  refine own_gf X486 J 18 64 Via.refl e486 M486.2.2.2.1 (fun T487 X487 e487 => ?_)
  refine gy (fun t k => cI X487 J 19 rfl 1 (oA X487 J 20 rfl (mc + (1 : Int32)) k)) ?_
  refine own_pf (ty := .int) (v' := (.int (mc + (1 : Int32)))) X487 J 21 64 Via.refl e487 M486.2.2.2.1 M486.1 (Or.inl (ww hw 65 rfl)) 49 rfl rfl N486 g_tm (fun T488 h488 _ X488 e488 W488 N488 => ?_)
  have M488 := M486.s_modCount (own_lay hw) W488
  have O488 := O486.wr W488 g_tm
  have KC488 := KC486.wr W488 (il 0)
  have c489 := (((f483_0.other W485 (Nat.ne_of_gt (Nat.lt_of_lt_of_le Mt.lt (Nat.le_of_eq g482.symm)))).other W486 (Nat.ne_of_gt (Nat.lt_of_lt_of_le Mt.lt (Nat.le_of_eq g482.symm)))).other W488 (Nat.ne_of_gt (Nat.lt_of_lt_of_le Mt.lt (Nat.le_of_eq g482.symm))))
  exact rV X488 hret hlk hPf J 22 ⟨⟨b482, rfl, (by rw [e488]; exact KC488), (by rw [e488]; exact M488), (by rw [e488]; exact c489), sz_b482⟩, N488⟩
theorem pn_69 : plainName "java/util/Objects" = true := by first | (simp [plainName, overriddenIn]; done) | decide +kernel
def L69 : List (Nat × Instr × Nat) := [(0, a_0), (1, .ifnonnull 11, 3), (12, a_0), (13, .areturn, 1)]
theorem d69 : ∀ q ∈ L69, decode jdk_31_method_10_code q.1 = .ok q.2 := by decide +kernel
def QrmRq (u : Addr) (v : Option Value) : Prop := (v = some (.ref u))
abbrev own_y48 : MethodName := ⟨"java/util/Objects", "requireNonNull", "(Ljava/lang/Object;)Ljava/lang/Object;"⟩
theorem rmRq (hw : HW a0 Z) (G : Gh Z vcs wI wA cA vF wP wD kD wE kE mT mU mL mO) (u : Addr) (h0 : Heap) (n0 : Nat) (O0 : Old Z n0 h0) :
    MM l Z own_y48 jdk_31_method_10_code 1 (some (.object S_2)) ws (Rm 0 0 0 0) #[(.ref u)] h0 (QP h0 (QrmRq u)) := by
  refine own_go hw (plainFor_of_name pn_69) #[vr u] (fun p e s m below meth c s₁ Pf hx hby hlk hown hnm hret hml hZ hh X0 e0 hPf Jf => ?_)
  have J := Jf d69
  refine gy (fun t k => aN X0 J 0 rfl rfl (wY X0 J 1 rfl 12 (aN X0 J 2 rfl rfl k))) ?_
  exact rA X0 hret hlk hPf J 3 ⟨rfl, rfl, e0⟩
theorem pd_30 : parseMethodDescriptor "(Ljava/lang/Object;Ljava/lang/Object;)V" = some ⟨[(.object S_2), (.object S_2)], none⟩ := by decide +kernel
theorem pd_31 : parseMethodDescriptor "(Ljava/lang/Object;)Ljava/lang/Object;" = some ⟨[(.object S_2)], some (.object S_2)⟩ := by decide +kernel
theorem pd_32 : parseMethodDescriptor "(Ljava/lang/Object;Ljava/lang/Object;Ljava/util/TreeMap$Entry;Z)V" = some ⟨[(.object S_2), (.object S_2), (.object S_1), .boolean], none⟩ := by decide +kernel
def L59 : List (Nat × Instr × Nat) := [(0, a_0), (1, .getfield 101, 3), (4, .astore 4, 2), (6, .aload 4, 2), (8, .ifnonnull 11, 3), (11, a_0), (12, a_1), (13, a_2), (14, .invokevirtual 135, 3), (17, .aconst_null, 1), (18, .areturn, 1), (19, a_0), (20, .getfield 16, 3), (23, .astore 7, 2), (25, .aload 7, 2), (27, .ifnull 85, 3), (112, a_1), (113, .invokestatic 95, 3), (116, .pop, 1), (117, a_1), (118, .checkcast 99, 3), (121, .astore 8, 2), (123, .aload 4, 2), (125, .astore 6, 2), (127, .aload 8, 2), (129, .aload 4, 2), (131, .getfield 105, 3), (134, .invokeinterface 107 2, 5), (139, .istore 5, 2), (141, .iload 5, 2), (143, .ifCond .ge 13, 3), (146, .aload 4, 2), (148, .getfield 111, 3), (151, .astore 4, 2), (153, .goto 43, 3), (196, .aload 4, 2), (198, .ifnonnull (-75), 3), (201, a_0), (202, a_1), (203, a_2), (204, .aload 6, 2), (206, .iload 5, 2), (208, .ifCond .ge 7, 3), (211, .iconst 1, 1), (212, .goto 4, 3), (216, .invokevirtual 139, 3), (219, .aconst_null, 1), (220, .areturn, 1), (156, .iload 5, 2), (158, .ifCond .le 13, 3), (161, .aload 4, 2), (163, .getfield 114, 3), (166, .astore 4, 2), (168, .goto 28, 3), (215, .iconst 0, 1), (171, .aload 4, 2), (173, .getfield 58, 3), (176, .astore 9, 2), (178, i_3), (179, .ifCond .ne 8, 3), (187, .aload 4, 2), (189, a_2), (190, .putfield 58, 3), (193, .aload 9, 2), (195, .areturn, 1)]
theorem d59 : ∀ q ∈ L59, decode jdk_2729_method_31_code q.1 = .ok q.2 := by decide +kernel
def QrmP3 (Z : State) (wP : Addr) (tm : Addr) (ky : Int) (b : Nat) (Ks : (List Int)) (nk : Value) (h0 : Heap) (v : Option Value) (h : Heap) : Prop := ∃ (rv : Value) (Lr : (List Addr)) (mr : Int32) (wl : (List Addr)), (v = some rv) ∧ (Keep h0 h wl) ∧ (TreeP Z h b wP tm Lr mr nk) ∧ (SKs Z h Lr (ins ky Ks)) ∧ (∀ x ∈ wl, TW Z h0 b x) ∧ (rv = Value.null ∨ rv = Value.ref wP)
abbrev own_y49 : MethodName := ⟨S_6, "put", "(Ljava/lang/Object;Ljava/lang/Object;Z)Ljava/lang/Object;"⟩
theorem rmP3 (hw : HW a0 Z) (G : Gh Z vcs wI wA cA vF wP wD kD wE kE mT mU mL mO) (tm : Addr) (u : Addr) (ky : Int) (b : Nat) (L : (List Addr)) (Ks : (List Int)) (mc : Int32) (nk : Value) (h0 : Heap) (n0 : Nat) (O0 : Old Z n0 h0) (Tp : TreeP Z h0 b wP tm L mc nk) (SKu : SK Z h0 u ky) (SKL : SKs Z h0 L Ks) (hSr : Srt Ks) (hnb : n0 ≤ b) :
    MM l Z own_y49 jdk_2729_method_31_code 10 (some (.object S_2)) ws (Rm 7 1 6 104) #[(.ref tm), (.ref u), (.ref wP), (.int 1)] h0 (QF n0 (QrmP3 Z wP tm ky b Ks nk h0)) := by
  refine own_go hw (plainFor_of_name pn_72) #[vr tm, vr u, vr wP, vi 1, .unset, .unset, .unset, .unset, .unset, .unset] (fun p e s m below meth c s₁ Pf hx hby hlk hown hnm hret hml hZ hh X0 e0 hPf Jf => ?_)
  have N0 := Fr.nil n0
  have J := Jf d59
  obtain ⟨hbt, ⟨rfl, M0⟩ | ⟨ea, u1, rfl, be, M0, Ne⟩ | ⟨ea, fa, u1, u2, rfl, be, bf, hef, M0, Ne, Nf⟩ | ⟨ea, fa, u1, u2, rfl, be, bf, hef, M0, Nf, Ne⟩ | ⟨ea, fa, ga, u1, u2, u3, rfl, be, bf, bg, hef, heg, hfg, M0, Nf, Ne, Ng⟩⟩ := (id Tp)
  · obtain rfl := SKL.el
    have KC0 := Keep.refl h0 [tm]
    have hbs : b ≤ h0.size := Nat.le_of_lt (Nat.lt_of_le_of_lt hbt M0.lt)
    refine gy (fun t k => aN X0 J 0 rfl rfl k) ?_
    refine own_gf X0 J 1 214 Via.refl e0 M0.2.2.2.2.1 (fun T490 X490 e490 => ?_)
    refine gy (fun t k => sA X490 J 2 rfl #[vr tm, vr u, vr wP, vi 1, .val .null, .unset, .unset, .unset, .unset, .unset] (aL X490 J 3 rfl rfl (wN X490 J 4 rfl (aN X490 J 5 rfl rfl (aN X490 J 6 rfl rfl (aN X490 J 7 rfl rfl k)))))) ?_
    refine own_cp (rmAm hw G _ _ _ _ _ _ _ O0 M0 SKu (Nat.le_trans hnb hbt)) X490 J 8 379 381 382 380 50 383 e490 M0.1 0 pd_30 (kF N0 fun _ T491 v491 X491 N491 q491 => ?_)
    obtain ⟨xa_491, rfl, K491, f491_0, f491_1, f491_2⟩ := q491
    have g_xa_491 : n0 ≤ xa_491 := Nat.le_trans (own_le O0) f491_2
    have sz_xa_491 : h0.size ≤ xa_491 := Nat.le_trans KC0.1 f491_2
    have O491 := O0.keep K491 (allS (Nat.le_trans hnb hbt) all0)
    have KC491 := KC0.trans K491 (allS (il 0) all0)
    show G_ 17 _ []
    refine gy (fun t k => cU X491 J 9 rfl k) ?_
    have c492 := ((SP.keep K491 (allS (nsx hw 49 (TreeP.exa Tp)) all0)) SKu)
    exact rA X491 hret hlk hPf J 10 ⟨⟨Value.null, [u], (mc + (1 : Int32)), [tm], rfl, KC491, ⟨hbt, Or.inr (Or.inl ⟨xa_491, _, rfl, (Nat.le_trans hbs sz_xa_491), f491_0, f491_1⟩)⟩, (by exact (sks1 c492)), (allS ⟨hbt, Or.inr (TreeP.exa Tp)⟩ all0), (Or.inl rfl)⟩, N491⟩
  · obtain ⟨ka, rfl, S1⟩ := sks1c SKL
    have KC0 := Keep.refl h0 [tm, ea]
    have hbs : b ≤ h0.size := Nat.le_of_lt (Nat.lt_of_le_of_lt hbt M0.lt)
    refine gy (fun t k => aN X0 J 0 rfl rfl k) ?_
    refine own_gf X0 J 1 214 Via.refl e0 M0.2.2.2.2.1 (fun T493 X493 e493 => ?_)
    refine gy (fun t k => sA X493 J 2 rfl #[vr tm, vr u, vr wP, vi 1, vr ea, .unset, .unset, .unset, .unset, .unset] (aL X493 J 3 rfl rfl (wY X493 J 4 rfl 19 (aN X493 J 11 rfl rfl k)))) ?_
    refine own_gf X493 J 12 66 Via.refl e493 M0.2.1 (fun T494 X494 e494 => ?_)
    refine gy (fun t k => sA X494 J 13 rfl #[vr tm, vr u, vr wP, vi 1, vr ea, .unset, .unset, .val .null, .unset, .unset] (aL X494 J 14 rfl rfl (uY X494 J 15 rfl 112 (aN X494 J 16 rfl rfl k)))) ?_
    refine own_cs (rmRq hw G u _ _ O0 ) X494 J 17 433 434 435 436 e494 0 pd_31 (kP fun T495 v495 X495 e495 q495 => ?_)
    obtain rfl := q495
    show G_ 116 _ [(.ref u)]
    refine gy (fun t k => oQ X495 J 18 rfl (aN X495 J 19 rfl rfl k)) ?_
    refine own_cc X495 J 20 389 e495 (Ins.of_exa SKu.exa (ww hw 390 rfl)) (fun T496 X496 e496 => ?_)
    refine gy (fun t k => sA X496 J 21 rfl #[vr tm, vr u, vr wP, vi 1, vr ea, .unset, .unset, .val .null, vr u, .unset] (aL X496 J 22 rfl rfl (sA X496 J 23 rfl #[vr tm, vr u, vr wP, vi 1, vr ea, .unset, vr ea, .val .null, vr u, .unset] (aL X496 J 24 rfl rfl (aL X496 J 25 rfl rfl k))))) ?_
    refine own_gf X496 J 26 437 Via.refl e496 Ne.2.1 (fun T497 X497 e497 => ?_)
    refine own_cf (y := own_y45) (rmCb hw G _ _ _ _ _ _ O0 SKu S1) X497 J 27 391 392 393 394 395 396 397 390 12 398 e497 SKu.exa 0 pd_28 (kP fun T498 v498 X498 e498 q498 => ?_)
    obtain ⟨r_498, rfl, r498_0⟩ := q498
    show G_ 139 _ [(.int r_498)]
    refine gy (fun t k => sI X498 J 28 rfl #[vr tm, vr u, vr wP, vi 1, vr ea, vi r_498, vr ea, .val .null, vr u, .unset] (iL X498 J 29 rfl rfl k)) ?_
    by_cases hc499 : r_498 < (0 : Int32)
    · refine gy (fun t k => fN X498 J 30 rfl ((if0 _ _).trans (tlt hc499).2.1) (aL X498 J 31 rfl rfl k)) ?_
      refine own_gf X498 J 32 438 Via.refl e498 Ne.2.2.2.2.1 (fun T500 X500 e500 => ?_)
      refine gy (fun t k => sA X500 J 33 rfl #[vr tm, vr u, vr wP, vi 1, .val .null, vi r_498, vr ea, .val .null, vr u, .unset] (jG X500 J 34 rfl 196 (aL X500 J 35 rfl rfl (wN X500 J 36 rfl (aN X500 J 37 rfl rfl (aN X500 J 38 rfl rfl (aN X500 J 39 rfl rfl (aL X500 J 40 rfl rfl k)))))))) ?_
      refine gy (fun t k => iL X500 J 41 rfl rfl (fN X500 J 42 rfl ((if0 _ _).trans (tlt hc499).2.1) (cI X500 J 43 rfl 1 (jG X500 J 44 rfl 216 k)))) ?_
      refine own_cp (rmAaL hw G _ u _ _ _ _ _ _ _ _ O0 M0 Ne (Nat.le_trans hnb hbt) (Nat.le_trans hnb be)) X500 J 45 440 442 443 441 50 444 e500 M0.1 0 pd_32 (kF N0 fun _ T501 v501 X501 N501 q501 => ?_)
      obtain ⟨xa_501, rfl, K501, f501_0, f501_1, f501_2, f501_3⟩ := q501
      have g_xa_501 : n0 ≤ xa_501 := Nat.le_trans (own_le O0) f501_3
      have sz_xa_501 : h0.size ≤ xa_501 := Nat.le_trans KC0.1 f501_3
      have O501 := O0.keep K501 (allS (Nat.le_trans hnb hbt) (allS (Nat.le_trans hnb be) all0))
      have KC501 := KC0.trans K501 (allS (il 0) (allS (il 1) all0))
      show G_ 219 _ []
      refine gy (fun t k => cU X501 J 46 rfl k) ?_
      have c502 := ((SP.keep K501 (allS (nsx hw 49 (TreeP.exa Tp)) (allS (nsx hw 418 Ne.1) all0))) SKu)
      have c503 := ((SP.keep K501 (allS (nsx hw 49 (TreeP.exa Tp)) (allS (nsx hw 418 Ne.1) all0))) S1)
      exact rA X501 hret hlk hPf J 47 ⟨⟨Value.null, [u, u1], (mc + (1 : Int32)), [tm, ea], rfl, KC501, ⟨hbt, Or.inr (Or.inr (Or.inr (Or.inl ⟨xa_501, ea, _, _, rfl, (Nat.le_trans hbs sz_xa_501), be, (Nat.ne_of_gt (Nat.lt_of_lt_of_le Ne.lt f501_3)), f501_0, f501_1, f501_2⟩)))⟩, (by rw [ins_lt (r498_0.1.mp hc499)]; exact (sks2 c502 c503)), (allS ⟨hbt, Or.inr (TreeP.exa Tp)⟩ (allS ⟨be, Or.inl Ne.1⟩ all0)), (Or.inl rfl)⟩, N501⟩
    · refine gy (fun t k => fY X498 J 30 rfl ((if0 _ _).trans (flt hc499).2.1) 156 (iL X498 J 48 rfl rfl k)) ?_
      by_cases hc504 : (0 : Int32) < r_498
      · refine gy (fun t k => fN X498 J 49 rfl ((if0 _ _).trans (tlt hc504).2.2.2) (aL X498 J 50 rfl rfl k)) ?_
        refine own_gf X498 J 51 452 Via.refl e498 Ne.2.2.2.2.2.1 (fun T505 X505 e505 => ?_)
        refine gy (fun t k => sA X505 J 52 rfl #[vr tm, vr u, vr wP, vi 1, .val .null, vi r_498, vr ea, .val .null, vr u, .unset] (jG X505 J 53 rfl 196 (aL X505 J 35 rfl rfl (wN X505 J 36 rfl (aN X505 J 37 rfl rfl (aN X505 J 38 rfl rfl (aN X505 J 39 rfl rfl (aL X505 J 40 rfl rfl k)))))))) ?_
        refine gy (fun t k => iL X505 J 41 rfl rfl (fY X505 J 42 rfl ((if0 _ _).trans (flt hc499).2.1) 215 (cI X505 J 54 rfl 0 k))) ?_
        refine own_cp (rmAaR hw G _ u _ _ _ _ _ _ _ _ O0 M0 Ne (Nat.le_trans hnb hbt) (Nat.le_trans hnb be)) X505 J 45 440 442 443 441 50 444 e505 M0.1 0 pd_32 (kF N0 fun _ T506 v506 X506 N506 q506 => ?_)
        obtain ⟨xa_506, rfl, K506, f506_0, f506_1, f506_2, f506_3⟩ := q506
        have g_xa_506 : n0 ≤ xa_506 := Nat.le_trans (own_le O0) f506_3
        have sz_xa_506 : h0.size ≤ xa_506 := Nat.le_trans KC0.1 f506_3
        have O506 := O0.keep K506 (allS (Nat.le_trans hnb hbt) (allS (Nat.le_trans hnb be) all0))
        have KC506 := KC0.trans K506 (allS (il 0) (allS (il 1) all0))
        show G_ 219 _ []
        refine gy (fun t k => cU X506 J 46 rfl k) ?_
        have c507 := ((SP.keep K506 (allS (nsx hw 49 (TreeP.exa Tp)) (allS (nsx hw 418 Ne.1) all0))) S1)
        have c508 := ((SP.keep K506 (allS (nsx hw 49 (TreeP.exa Tp)) (allS (nsx hw 418 Ne.1) all0))) SKu)
        exact rA X506 hret hlk hPf J 47 ⟨⟨Value.null, [u1, u], (mc + (1 : Int32)), [tm, ea], rfl, KC506, ⟨hbt, Or.inr (Or.inr (Or.inl ⟨ea, xa_506, _, _, rfl, be, (Nat.le_trans hbs sz_xa_506), (Nat.ne_of_lt (Nat.lt_of_lt_of_le Ne.lt f506_3)), f506_0, f506_1, f506_2⟩))⟩, (by rw [ins_gt (r498_0.gt (own_gz hc504).1 (own_gz hc504).2)]; exact (sks2 c507 c508)), (allS ⟨hbt, Or.inr (TreeP.exa Tp)⟩ (allS ⟨be, Or.inl Ne.1⟩ all0)), (Or.inl rfl)⟩, N506⟩
      · refine gy (fun t k => fY X498 J 49 rfl ((if0 _ _).trans (flt hc504).2.2.2) 171 (aL X498 J 55 rfl rfl k)) ?_
        refine own_gf X498 J 56 601 Via.refl e498 Ne.2.2.1 (fun T509 X509 e509 => ?_)
        refine gy (fun t k => sA X509 J 57 rfl #[vr tm, vr u, vr wP, vi 1, vr ea, vi r_498, vr ea, .val .null, vr u, vr wP] (iN X509 J 58 rfl rfl (fY X509 J 59 rfl ((if0 _ _).trans (feq (by decide)).2) 187 (aL X509 J 60 rfl rfl (aN X509 J 61 rfl rfl k))))) ?_
        refine own_pf (ty := (.object S_2)) (v' := (.ref wP)) X509 J 62 601 Via.refl e509 Ne.2.2.1 Ne.1 (Or.inl (ww hw 430 rfl)) 418 rfl rfl N0 (Nat.le_trans hnb be) (fun T510 h510 _ X510 e510 W510 N510 => ?_)
        have M510 := Ne.s_value (own_lay hw) W510
        have O510 := O0.wr W510 (Nat.le_trans hnb be)
        have KC510 := KC0.wr W510 (il 1)
        refine gy (fun t k => aL X510 J 63 rfl rfl k) ?_
        have c511 := ((SP.wr W510 (nsx hw 418 Ne.1)) S1)
        exact rA X510 hret hlk hPf J 64 ⟨⟨(Value.ref wP), [u1], mc, [tm, ea], rfl, (by rw [e510]; exact KC510), (by rw [e510]; exact ⟨hbt, Or.inr (Or.inl ⟨ea, _, rfl, be, (M0.other W510 (ne_exa (TreeP.exa Tp) Ne.1 (by decide))), M510⟩)⟩), (by rw [e510]; exact (by rw [ins_eq (r498_0.2.mp (own_ngz hc499 hc504))]; exact (sks1 c511))), (allS ⟨hbt, Or.inr (TreeP.exa Tp)⟩ (allS ⟨be, Or.inl Ne.1⟩ all0)), (Or.inr rfl)⟩, N510⟩
  · obtain ⟨ka, kb, rfl, S1, S2⟩ := sks2c SKL
    have hab := hSr.2 _ _ rfl
    have KC0 := Keep.refl h0 [tm, ea, fa]
    have hbs : b ≤ h0.size := Nat.le_of_lt (Nat.lt_of_le_of_lt hbt M0.lt)
    refine gy (fun t k => aN X0 J 0 rfl rfl k) ?_
    refine own_gf X0 J 1 214 Via.refl e0 M0.2.2.2.2.1 (fun T512 X512 e512 => ?_)
    refine gy (fun t k => sA X512 J 2 rfl #[vr tm, vr u, vr wP, vi 1, vr ea, .unset, .unset, .unset, .unset, .unset] (aL X512 J 3 rfl rfl (wY X512 J 4 rfl 19 (aN X512 J 11 rfl rfl k)))) ?_
    refine own_gf X512 J 12 66 Via.refl e512 M0.2.1 (fun T513 X513 e513 => ?_)
    refine gy (fun t k => sA X513 J 13 rfl #[vr tm, vr u, vr wP, vi 1, vr ea, .unset, .unset, .val .null, .unset, .unset] (aL X513 J 14 rfl rfl (uY X513 J 15 rfl 112 (aN X513 J 16 rfl rfl k)))) ?_
    refine own_cs (rmRq hw G u _ _ O0 ) X513 J 17 433 434 435 436 e513 0 pd_31 (kP fun T514 v514 X514 e514 q514 => ?_)
    obtain rfl := q514
    show G_ 116 _ [(.ref u)]
    refine gy (fun t k => oQ X514 J 18 rfl (aN X514 J 19 rfl rfl k)) ?_
    refine own_cc X514 J 20 389 e514 (Ins.of_exa SKu.exa (ww hw 390 rfl)) (fun T515 X515 e515 => ?_)
    refine gy (fun t k => sA X515 J 21 rfl #[vr tm, vr u, vr wP, vi 1, vr ea, .unset, .unset, .val .null, vr u, .unset] (aL X515 J 22 rfl rfl (sA X515 J 23 rfl #[vr tm, vr u, vr wP, vi 1, vr ea, .unset, vr ea, .val .null, vr u, .unset] (aL X515 J 24 rfl rfl (aL X515 J 25 rfl rfl k))))) ?_
    refine own_gf X515 J 26 437 Via.refl e515 Ne.2.1 (fun T516 X516 e516 => ?_)
    refine own_cf (y := own_y45) (rmCb hw G _ _ _ _ _ _ O0 SKu S1) X516 J 27 391 392 393 394 395 396 397 390 12 398 e516 SKu.exa 0 pd_28 (kP fun T517 v517 X517 e517 q517 => ?_)
    obtain ⟨r_517, rfl, r517_0⟩ := q517
    show G_ 139 _ [(.int r_517)]
    refine gy (fun t k => sI X517 J 28 rfl #[vr tm, vr u, vr wP, vi 1, vr ea, vi r_517, vr ea, .val .null, vr u, .unset] (iL X517 J 29 rfl rfl k)) ?_
    by_cases hc518 : r_517 < (0 : Int32)
    · refine gy (fun t k => fN X517 J 30 rfl ((if0 _ _).trans (tlt hc518).2.1) (aL X517 J 31 rfl rfl k)) ?_
      refine own_gf X517 J 32 438 Via.refl e517 Ne.2.2.2.2.1 (fun T519 X519 e519 => ?_)
      refine gy (fun t k => sA X519 J 33 rfl #[vr tm, vr u, vr wP, vi 1, .val .null, vi r_517, vr ea, .val .null, vr u, .unset] (jG X519 J 34 rfl 196 (aL X519 J 35 rfl rfl (wN X519 J 36 rfl (aN X519 J 37 rfl rfl (aN X519 J 38 rfl rfl (aN X519 J 39 rfl rfl (aL X519 J 40 rfl rfl k)))))))) ?_
      refine gy (fun t k => iL X519 J 41 rfl rfl (fN X519 J 42 rfl ((if0 _ _).trans (tlt hc518).2.1) (cI X519 J 43 rfl 1 (jG X519 J 44 rfl 216 k)))) ?_
      refine own_cp (rmAaL hw G _ u _ _ _ _ _ _ _ _ O0 M0 Ne (Nat.le_trans hnb hbt) (Nat.le_trans hnb be)) X519 J 45 440 442 443 441 50 444 e519 M0.1 0 pd_32 (kF N0 fun _ T520 v520 X520 N520 q520 => ?_)
      obtain ⟨xa_520, rfl, K520, f520_0, f520_1, f520_2, f520_3⟩ := q520
      have g_xa_520 : n0 ≤ xa_520 := Nat.le_trans (own_le O0) f520_3
      have sz_xa_520 : h0.size ≤ xa_520 := Nat.le_trans KC0.1 f520_3
      have O520 := O0.keep K520 (allS (Nat.le_trans hnb hbt) (allS (Nat.le_trans hnb be) all0))
      have KC520 := KC0.trans K520 (allS (il 0) (allS (il 1) all0))
      show G_ 219 _ []
      refine gy (fun t k => cU X520 J 46 rfl k) ?_
      have c521 := ((SP.keep K520 (allS (nsx hw 49 (TreeP.exa Tp)) (allS (nsx hw 418 Ne.1) all0))) SKu)
      have c522 := ((SP.keep K520 (allS (nsx hw 49 (TreeP.exa Tp)) (allS (nsx hw 418 Ne.1) all0))) S1)
      have c523 := ((SP.keep K520 (allS (nsx hw 49 (TreeP.exa Tp)) (allS (nsx hw 418 Ne.1) all0))) S2)
      exact rA X520 hret hlk hPf J 47 ⟨⟨Value.null, [u, u1, u2], (mc + (1 : Int32)), [tm, ea, fa], rfl, KC520, ⟨hbt, Or.inr (Or.inr (Or.inr (Or.inr ⟨xa_520, ea, fa, _, _, _, rfl, (Nat.le_trans hbs sz_xa_520), be, bf, (Nat.ne_of_gt (Nat.lt_of_lt_of_le Ne.lt f520_3)), (Nat.ne_of_gt (Nat.lt_of_lt_of_le Nf.lt f520_3)), hef, f520_0, f520_1, f520_2, (Nf.keep K520 (ninS (ne_exa Nf.1 (TreeP.exa Tp) (by decide)) (ninS hef.symm nin0)))⟩)))⟩, (by rw [ins_lt (r517_0.1.mp hc518)]; exact (sks3 c521 c522 c523)), (allS ⟨hbt, Or.inr (TreeP.exa Tp)⟩ (allS ⟨be, Or.inl Ne.1⟩ (allS ⟨bf, Or.inl Nf.1⟩ all0))), (Or.inl rfl)⟩, N520⟩
    · refine gy (fun t k => fY X517 J 30 rfl ((if0 _ _).trans (flt hc518).2.1) 156 (iL X517 J 48 rfl rfl k)) ?_
      by_cases hc524 : (0 : Int32) < r_517
      · refine gy (fun t k => fN X517 J 49 rfl ((if0 _ _).trans (tlt hc524).2.2.2) (aL X517 J 50 rfl rfl k)) ?_
        refine own_gf X517 J 51 452 Via.refl e517 Ne.2.2.2.2.2.1 (fun T525 X525 e525 => ?_)
        refine gy (fun t k => sA X525 J 52 rfl #[vr tm, vr u, vr wP, vi 1, vr fa, vi r_517, vr ea, .val .null, vr u, .unset] (jG X525 J 53 rfl 196 (aL X525 J 35 rfl rfl (wY X525 J 36 rfl 123 (aL X525 J 22 rfl rfl (sA X525 J 23 rfl #[vr tm, vr u, vr wP, vi 1, vr fa, vi r_517, vr fa, .val .null, vr u, .unset] (aL X525 J 24 rfl rfl (aL X525 J 25 rfl rfl k)))))))) ?_
        refine own_gf X525 J 26 437 Via.refl e525 Nf.2.1 (fun T526 X526 e526 => ?_)
        refine own_cf (y := own_y45) (rmCb hw G _ _ _ _ _ _ O0 SKu S2) X526 J 27 391 392 393 394 395 396 397 390 12 398 e526 SKu.exa 0 pd_28 (kP fun T527 v527 X527 e527 q527 => ?_)
        obtain ⟨r_527, rfl, r527_0⟩ := q527
        show G_ 139 _ [(.int r_527)]
        refine gy (fun t k => sI X527 J 28 rfl #[vr tm, vr u, vr wP, vi 1, vr fa, vi r_527, vr fa, .val .null, vr u, .unset] (iL X527 J 29 rfl rfl k)) ?_
        by_cases hc528 : r_527 < (0 : Int32)
        · refine gy (fun t k => fN X527 J 30 rfl ((if0 _ _).trans (tlt hc528).2.1) (aL X527 J 31 rfl rfl k)) ?_
          refine own_gf X527 J 32 438 Via.refl e527 Nf.2.2.2.2.1 (fun T529 X529 e529 => ?_)
          refine gy (fun t k => sA X529 J 33 rfl #[vr tm, vr u, vr wP, vi 1, .val .null, vi r_527, vr fa, .val .null, vr u, .unset] (jG X529 J 34 rfl 196 (aL X529 J 35 rfl rfl (wN X529 J 36 rfl (aN X529 J 37 rfl rfl (aN X529 J 38 rfl rfl (aN X529 J 39 rfl rfl (aL X529 J 40 rfl rfl k)))))))) ?_
          refine gy (fun t k => iL X529 J 41 rfl rfl (fN X529 J 42 rfl ((if0 _ _).trans (tlt hc528).2.1) (cI X529 J 43 rfl 1 (jG X529 J 44 rfl 216 k)))) ?_
          refine own_cp (rmARL hw G _ u _ _ _ _ _ _ _ _ _ O0 M0 Nf Ne hef.symm (Nat.le_trans hnb hbt) (Nat.le_trans hnb bf) (Nat.le_trans hnb be)) X529 J 45 440 442 443 441 50 444 e529 M0.1 0 pd_32 (kF N0 fun _ T530 v530 X530 N530 q530 => ?_)
          obtain ⟨xa_530, rfl, K530, f530_0, f530_1, f530_2, f530_3, f530_4⟩ := q530
          have g_xa_530 : n0 ≤ xa_530 := Nat.le_trans (own_le O0) f530_4
          have sz_xa_530 : h0.size ≤ xa_530 := Nat.le_trans KC0.1 f530_4
          have O530 := O0.keep K530 (allS (Nat.le_trans hnb hbt) (allS (Nat.le_trans hnb bf) (allS (Nat.le_trans hnb be) all0)))
          have KC530 := KC0.trans K530 (allS (il 0) (allS (il 2) (allS (il 1) all0)))
          show G_ 219 _ []
          refine gy (fun t k => cU X530 J 46 rfl k) ?_
          have c531 := ((SP.keep K530 (allS (nsx hw 49 (TreeP.exa Tp)) (allS (nsx hw 418 Nf.1) (allS (nsx hw 418 Ne.1) all0)))) S1)
          have c532 := ((SP.keep K530 (allS (nsx hw 49 (TreeP.exa Tp)) (allS (nsx hw 418 Nf.1) (allS (nsx hw 418 Ne.1) all0)))) SKu)
          have c533 := ((SP.keep K530 (allS (nsx hw 49 (TreeP.exa Tp)) (allS (nsx hw 418 Nf.1) (allS (nsx hw 418 Ne.1) all0)))) S2)
          exact rA X530 hret hlk hPf J 47 ⟨⟨Value.null, [u1, u, u2], (mc + (1 : Int32)), [tm, ea, fa], rfl, KC530, ⟨hbt, Or.inr (Or.inr (Or.inr (Or.inr ⟨ea, xa_530, fa, _, _, _, rfl, be, (Nat.le_trans hbs sz_xa_530), bf, (Nat.ne_of_lt (Nat.lt_of_lt_of_le Ne.lt f530_4)), hef, (Nat.ne_of_gt (Nat.lt_of_lt_of_le Nf.lt f530_4)), f530_0, f530_1, f530_3, f530_2⟩)))⟩, (by rw [ins_gt (r517_0.gt (own_gz hc524).1 (own_gz hc524).2), ins_lt (r527_0.1.mp hc528)]; exact (sks3 c531 c532 c533)), (allS ⟨hbt, Or.inr (TreeP.exa Tp)⟩ (allS ⟨be, Or.inl Ne.1⟩ (allS ⟨bf, Or.inl Nf.1⟩ all0))), (Or.inl rfl)⟩, N530⟩
        · refine gy (fun t k => fY X527 J 30 rfl ((if0 _ _).trans (flt hc528).2.1) 156 (iL X527 J 48 rfl rfl k)) ?_
          by_cases hc534 : (0 : Int32) < r_527
          · refine gy (fun t k => fN X527 J 49 rfl ((if0 _ _).trans (tlt hc534).2.2.2) (aL X527 J 50 rfl rfl k)) ?_
            refine own_gf X527 J 51 452 Via.refl e527 Nf.2.2.2.2.2.1 (fun T535 X535 e535 => ?_)
            refine gy (fun t k => sA X535 J 52 rfl #[vr tm, vr u, vr wP, vi 1, .val .null, vi r_527, vr fa, .val .null, vr u, .unset] (jG X535 J 53 rfl 196 (aL X535 J 35 rfl rfl (wN X535 J 36 rfl (aN X535 J 37 rfl rfl (aN X535 J 38 rfl rfl (aN X535 J 39 rfl rfl (aL X535 J 40 rfl rfl k)))))))) ?_
            refine gy (fun t k => iL X535 J 41 rfl rfl (fY X535 J 42 rfl ((if0 _ _).trans (flt hc528).2.1) 215 (cI X535 J 54 rfl 0 k))) ?_
            refine own_cp (rmARR hw G _ u _ _ _ _ _ _ _ _ _ O0 M0 Nf Ne hef.symm (Nat.le_trans hnb hbt) (Nat.le_trans hnb bf) (Nat.le_trans hnb be)) X535 J 45 440 442 443 441 50 444 e535 M0.1 0 pd_32 (kF N0 fun _ T536 v536 X536 N536 q536 => ?_)
            obtain ⟨xa_536, rfl, K536, f536_0, f536_1, f536_2, f536_3, f536_4⟩ := q536
            have g_xa_536 : n0 ≤ xa_536 := Nat.le_trans (own_le O0) f536_4
            have sz_xa_536 : h0.size ≤ xa_536 := Nat.le_trans KC0.1 f536_4
            have O536 := O0.keep K536 (allS (Nat.le_trans hnb hbt) (allS (Nat.le_trans hnb bf) (allS (Nat.le_trans hnb be) all0)))
            have KC536 := KC0.trans K536 (allS (il 0) (allS (il 2) (allS (il 1) all0)))
            show G_ 219 _ []
            refine gy (fun t k => cU X536 J 46 rfl k) ?_
            have c537 := ((SP.keep K536 (allS (nsx hw 49 (TreeP.exa Tp)) (allS (nsx hw 418 Nf.1) (allS (nsx hw 418 Ne.1) all0)))) S1)
            have c538 := ((SP.keep K536 (allS (nsx hw 49 (TreeP.exa Tp)) (allS (nsx hw 418 Nf.1) (allS (nsx hw 418 Ne.1) all0)))) S2)
            have c539 := ((SP.keep K536 (allS (nsx hw 49 (TreeP.exa Tp)) (allS (nsx hw 418 Nf.1) (allS (nsx hw 418 Ne.1) all0)))) SKu)
            exact rA X536 hret hlk hPf J 47 ⟨⟨Value.null, [u1, u2, u], (mc + (1 : Int32)), [tm, ea, fa], rfl, KC536, ⟨hbt, Or.inr (Or.inr (Or.inr (Or.inr ⟨ea, fa, xa_536, _, _, _, rfl, be, bf, (Nat.le_trans hbs sz_xa_536), hef, (Nat.ne_of_lt (Nat.lt_of_lt_of_le Ne.lt f536_4)), (Nat.ne_of_lt (Nat.lt_of_lt_of_le Nf.lt f536_4)), f536_0, f536_1, f536_3, f536_2⟩)))⟩, (by rw [ins_gt (r517_0.gt (own_gz hc524).1 (own_gz hc524).2), ins_gt (r527_0.gt (own_gz hc534).1 (own_gz hc534).2)]; exact (sks3 c537 c538 c539)), (allS ⟨hbt, Or.inr (TreeP.exa Tp)⟩ (allS ⟨be, Or.inl Ne.1⟩ (allS ⟨bf, Or.inl Nf.1⟩ all0))), (Or.inl rfl)⟩, N536⟩
          · refine gy (fun t k => fY X527 J 49 rfl ((if0 _ _).trans (flt hc534).2.2.2) 171 (aL X527 J 55 rfl rfl k)) ?_
            refine own_gf X527 J 56 601 Via.refl e527 Nf.2.2.1 (fun T540 X540 e540 => ?_)
            refine gy (fun t k => sA X540 J 57 rfl #[vr tm, vr u, vr wP, vi 1, vr fa, vi r_527, vr fa, .val .null, vr u, vr wP] (iN X540 J 58 rfl rfl (fY X540 J 59 rfl ((if0 _ _).trans (feq (by decide)).2) 187 (aL X540 J 60 rfl rfl (aN X540 J 61 rfl rfl k))))) ?_
            refine own_pf (ty := (.object S_2)) (v' := (.ref wP)) X540 J 62 601 Via.refl e540 Nf.2.2.1 Nf.1 (Or.inl (ww hw 430 rfl)) 418 rfl rfl N0 (Nat.le_trans hnb bf) (fun T541 h541 _ X541 e541 W541 N541 => ?_)
            have M541 := Nf.s_value (own_lay hw) W541
            have O541 := O0.wr W541 (Nat.le_trans hnb bf)
            have KC541 := KC0.wr W541 (il 2)
            refine gy (fun t k => aL X541 J 63 rfl rfl k) ?_
            have c542 := ((SP.wr W541 (nsx hw 418 Nf.1)) S1)
            have c543 := ((SP.wr W541 (nsx hw 418 Nf.1)) S2)
            exact rA X541 hret hlk hPf J 64 ⟨⟨(Value.ref wP), [u1, u2], mc, [tm, ea, fa], rfl, (by rw [e541]; exact KC541), (by rw [e541]; exact ⟨hbt, Or.inr (Or.inr (Or.inl ⟨ea, fa, _, _, rfl, be, bf, hef, (M0.other W541 (ne_exa (TreeP.exa Tp) Nf.1 (by decide))), (Ne.other W541 hef), M541⟩))⟩), (by rw [e541]; exact (by rw [ins_gt (r517_0.gt (own_gz hc524).1 (own_gz hc524).2), ins_eq (r527_0.2.mp (own_ngz hc528 hc534))]; exact (sks2 c542 c543))), (allS ⟨hbt, Or.inr (TreeP.exa Tp)⟩ (allS ⟨be, Or.inl Ne.1⟩ (allS ⟨bf, Or.inl Nf.1⟩ all0))), (Or.inr rfl)⟩, N541⟩
      · refine gy (fun t k => fY X517 J 49 rfl ((if0 _ _).trans (flt hc524).2.2.2) 171 (aL X517 J 55 rfl rfl k)) ?_
        refine own_gf X517 J 56 601 Via.refl e517 Ne.2.2.1 (fun T544 X544 e544 => ?_)
        refine gy (fun t k => sA X544 J 57 rfl #[vr tm, vr u, vr wP, vi 1, vr ea, vi r_517, vr ea, .val .null, vr u, vr wP] (iN X544 J 58 rfl rfl (fY X544 J 59 rfl ((if0 _ _).trans (feq (by decide)).2) 187 (aL X544 J 60 rfl rfl (aN X544 J 61 rfl rfl k))))) ?_
        refine own_pf (ty := (.object S_2)) (v' := (.ref wP)) X544 J 62 601 Via.refl e544 Ne.2.2.1 Ne.1 (Or.inl (ww hw 430 rfl)) 418 rfl rfl N0 (Nat.le_trans hnb be) (fun T545 h545 _ X545 e545 W545 N545 => ?_)
        have M545 := Ne.s_value (own_lay hw) W545
        have O545 := O0.wr W545 (Nat.le_trans hnb be)
        have KC545 := KC0.wr W545 (il 1)
        refine gy (fun t k => aL X545 J 63 rfl rfl k) ?_
        have c546 := ((SP.wr W545 (nsx hw 418 Ne.1)) S1)
        have c547 := ((SP.wr W545 (nsx hw 418 Ne.1)) S2)
        exact rA X545 hret hlk hPf J 64 ⟨⟨(Value.ref wP), [u1, u2], mc, [tm, ea, fa], rfl, (by rw [e545]; exact KC545), (by rw [e545]; exact ⟨hbt, Or.inr (Or.inr (Or.inl ⟨ea, fa, _, _, rfl, be, bf, hef, (M0.other W545 (ne_exa (TreeP.exa Tp) Ne.1 (by decide))), M545, (Nf.other W545 hef.symm)⟩))⟩), (by rw [e545]; exact (by rw [ins_eq (r517_0.2.mp (own_ngz hc518 hc524))]; exact (sks2 c546 c547))), (allS ⟨hbt, Or.inr (TreeP.exa Tp)⟩ (allS ⟨be, Or.inl Ne.1⟩ (allS ⟨bf, Or.inl Nf.1⟩ all0))), (Or.inr rfl)⟩, N545⟩
  · obtain ⟨ka, kb, rfl, S1, S2⟩ := sks2c SKL
    have hab := hSr.2 _ _ rfl
    have KC0 := Keep.refl h0 [tm, ea, fa]
    have hbs : b ≤ h0.size := Nat.le_of_lt (Nat.lt_of_le_of_lt hbt M0.lt)
    refine gy (fun t k => aN X0 J 0 rfl rfl k) ?_
    refine own_gf X0 J 1 214 Via.refl e0 M0.2.2.2.2.1 (fun T548 X548 e548 => ?_)
    refine gy (fun t k => sA X548 J 2 rfl #[vr tm, vr u, vr wP, vi 1, vr fa, .unset, .unset, .unset, .unset, .unset] (aL X548 J 3 rfl rfl (wY X548 J 4 rfl 19 (aN X548 J 11 rfl rfl k)))) ?_
    refine own_gf X548 J 12 66 Via.refl e548 M0.2.1 (fun T549 X549 e549 => ?_)
    refine gy (fun t k => sA X549 J 13 rfl #[vr tm, vr u, vr wP, vi 1, vr fa, .unset, .unset, .val .null, .unset, .unset] (aL X549 J 14 rfl rfl (uY X549 J 15 rfl 112 (aN X549 J 16 rfl rfl k)))) ?_
    refine own_cs (rmRq hw G u _ _ O0 ) X549 J 17 433 434 435 436 e549 0 pd_31 (kP fun T550 v550 X550 e550 q550 => ?_)
    obtain rfl := q550
    show G_ 116 _ [(.ref u)]
    refine gy (fun t k => oQ X550 J 18 rfl (aN X550 J 19 rfl rfl k)) ?_
    refine own_cc X550 J 20 389 e550 (Ins.of_exa SKu.exa (ww hw 390 rfl)) (fun T551 X551 e551 => ?_)
    refine gy (fun t k => sA X551 J 21 rfl #[vr tm, vr u, vr wP, vi 1, vr fa, .unset, .unset, .val .null, vr u, .unset] (aL X551 J 22 rfl rfl (sA X551 J 23 rfl #[vr tm, vr u, vr wP, vi 1, vr fa, .unset, vr fa, .val .null, vr u, .unset] (aL X551 J 24 rfl rfl (aL X551 J 25 rfl rfl k))))) ?_
    refine own_gf X551 J 26 437 Via.refl e551 Nf.2.1 (fun T552 X552 e552 => ?_)
    refine own_cf (y := own_y45) (rmCb hw G _ _ _ _ _ _ O0 SKu S2) X552 J 27 391 392 393 394 395 396 397 390 12 398 e552 SKu.exa 0 pd_28 (kP fun T553 v553 X553 e553 q553 => ?_)
    obtain ⟨r_553, rfl, r553_0⟩ := q553
    show G_ 139 _ [(.int r_553)]
    refine gy (fun t k => sI X553 J 28 rfl #[vr tm, vr u, vr wP, vi 1, vr fa, vi r_553, vr fa, .val .null, vr u, .unset] (iL X553 J 29 rfl rfl k)) ?_
    by_cases hc554 : r_553 < (0 : Int32)
    · refine gy (fun t k => fN X553 J 30 rfl ((if0 _ _).trans (tlt hc554).2.1) (aL X553 J 31 rfl rfl k)) ?_
      refine own_gf X553 J 32 438 Via.refl e553 Nf.2.2.2.2.1 (fun T555 X555 e555 => ?_)
      refine gy (fun t k => sA X555 J 33 rfl #[vr tm, vr u, vr wP, vi 1, vr ea, vi r_553, vr fa, .val .null, vr u, .unset] (jG X555 J 34 rfl 196 (aL X555 J 35 rfl rfl (wY X555 J 36 rfl 123 (aL X555 J 22 rfl rfl (sA X555 J 23 rfl #[vr tm, vr u, vr wP, vi 1, vr ea, vi r_553, vr ea, .val .null, vr u, .unset] (aL X555 J 24 rfl rfl (aL X555 J 25 rfl rfl k)))))))) ?_
      refine own_gf X555 J 26 437 Via.refl e555 Ne.2.1 (fun T556 X556 e556 => ?_)
      refine own_cf (y := own_y45) (rmCb hw G _ _ _ _ _ _ O0 SKu S1) X556 J 27 391 392 393 394 395 396 397 390 12 398 e556 SKu.exa 0 pd_28 (kP fun T557 v557 X557 e557 q557 => ?_)
      obtain ⟨r_557, rfl, r557_0⟩ := q557
      show G_ 139 _ [(.int r_557)]
      refine gy (fun t k => sI X557 J 28 rfl #[vr tm, vr u, vr wP, vi 1, vr ea, vi r_557, vr ea, .val .null, vr u, .unset] (iL X557 J 29 rfl rfl k)) ?_
      by_cases hc558 : r_557 < (0 : Int32)
      · refine gy (fun t k => fN X557 J 30 rfl ((if0 _ _).trans (tlt hc558).2.1) (aL X557 J 31 rfl rfl k)) ?_
        refine own_gf X557 J 32 438 Via.refl e557 Ne.2.2.2.2.1 (fun T559 X559 e559 => ?_)
        refine gy (fun t k => sA X559 J 33 rfl #[vr tm, vr u, vr wP, vi 1, .val .null, vi r_557, vr ea, .val .null, vr u, .unset] (jG X559 J 34 rfl 196 (aL X559 J 35 rfl rfl (wN X559 J 36 rfl (aN X559 J 37 rfl rfl (aN X559 J 38 rfl rfl (aN X559 J 39 rfl rfl (aL X559 J 40 rfl rfl k)))))))) ?_
        refine gy (fun t k => iL X559 J 41 rfl rfl (fN X559 J 42 rfl ((if0 _ _).trans (tlt hc558).2.1) (cI X559 J 43 rfl 1 (jG X559 J 44 rfl 216 k)))) ?_
        refine own_cp (rmALL hw G _ u _ _ _ _ _ _ _ _ _ O0 M0 Ne Nf hef (Nat.le_trans hnb hbt) (Nat.le_trans hnb be) (Nat.le_trans hnb bf)) X559 J 45 440 442 443 441 50 444 e559 M0.1 0 pd_32 (kF N0 fun _ T560 v560 X560 N560 q560 => ?_)
        obtain ⟨xa_560, rfl, K560, f560_0, f560_1, f560_2, f560_3, f560_4⟩ := q560
        have g_xa_560 : n0 ≤ xa_560 := Nat.le_trans (own_le O0) f560_4
        have sz_xa_560 : h0.size ≤ xa_560 := Nat.le_trans KC0.1 f560_4
        have O560 := O0.keep K560 (allS (Nat.le_trans hnb hbt) (allS (Nat.le_trans hnb be) (allS (Nat.le_trans hnb bf) all0)))
        have KC560 := KC0.trans K560 (allS (il 0) (allS (il 1) (allS (il 2) all0)))
        show G_ 219 _ []
        refine gy (fun t k => cU X560 J 46 rfl k) ?_
        have c561 := ((SP.keep K560 (allS (nsx hw 49 (TreeP.exa Tp)) (allS (nsx hw 418 Ne.1) (allS (nsx hw 418 Nf.1) all0)))) SKu)
        have c562 := ((SP.keep K560 (allS (nsx hw 49 (TreeP.exa Tp)) (allS (nsx hw 418 Ne.1) (allS (nsx hw 418 Nf.1) all0)))) S1)
        have c563 := ((SP.keep K560 (allS (nsx hw 49 (TreeP.exa Tp)) (allS (nsx hw 418 Ne.1) (allS (nsx hw 418 Nf.1) all0)))) S2)
        exact rA X560 hret hlk hPf J 47 ⟨⟨Value.null, [u, u1, u2], (mc + (1 : Int32)), [tm, ea, fa], rfl, KC560, ⟨hbt, Or.inr (Or.inr (Or.inr (Or.inr ⟨xa_560, ea, fa, _, _, _, rfl, (Nat.le_trans hbs sz_xa_560), be, bf, (Nat.ne_of_gt (Nat.lt_of_lt_of_le Ne.lt f560_4)), (Nat.ne_of_gt (Nat.lt_of_lt_of_le Nf.lt f560_4)), hef, f560_0, f560_1, f560_2, f560_3⟩)))⟩, (by rw [ins_lt (r557_0.1.mp hc558)]; exact (sks3 c561 c562 c563)), (allS ⟨hbt, Or.inr (TreeP.exa Tp)⟩ (allS ⟨be, Or.inl Ne.1⟩ (allS ⟨bf, Or.inl Nf.1⟩ all0))), (Or.inl rfl)⟩, N560⟩
      · refine gy (fun t k => fY X557 J 30 rfl ((if0 _ _).trans (flt hc558).2.1) 156 (iL X557 J 48 rfl rfl k)) ?_
        by_cases hc564 : (0 : Int32) < r_557
        · refine gy (fun t k => fN X557 J 49 rfl ((if0 _ _).trans (tlt hc564).2.2.2) (aL X557 J 50 rfl rfl k)) ?_
          refine own_gf X557 J 51 452 Via.refl e557 Ne.2.2.2.2.2.1 (fun T565 X565 e565 => ?_)
          refine gy (fun t k => sA X565 J 52 rfl #[vr tm, vr u, vr wP, vi 1, .val .null, vi r_557, vr ea, .val .null, vr u, .unset] (jG X565 J 53 rfl 196 (aL X565 J 35 rfl rfl (wN X565 J 36 rfl (aN X565 J 37 rfl rfl (aN X565 J 38 rfl rfl (aN X565 J 39 rfl rfl (aL X565 J 40 rfl rfl k)))))))) ?_
          refine gy (fun t k => iL X565 J 41 rfl rfl (fY X565 J 42 rfl ((if0 _ _).trans (flt hc558).2.1) 215 (cI X565 J 54 rfl 0 k))) ?_
          refine own_cp (rmALR hw G _ u _ _ _ _ _ _ _ _ _ O0 M0 Ne Nf hef (Nat.le_trans hnb hbt) (Nat.le_trans hnb be) (Nat.le_trans hnb bf)) X565 J 45 440 442 443 441 50 444 e565 M0.1 0 pd_32 (kF N0 fun _ T566 v566 X566 N566 q566 => ?_)
          obtain ⟨xa_566, rfl, K566, f566_0, f566_1, f566_2, f566_3, f566_4⟩ := q566
          have g_xa_566 : n0 ≤ xa_566 := Nat.le_trans (own_le O0) f566_4
          have sz_xa_566 : h0.size ≤ xa_566 := Nat.le_trans KC0.1 f566_4
          have O566 := O0.keep K566 (allS (Nat.le_trans hnb hbt) (allS (Nat.le_trans hnb be) (allS (Nat.le_trans hnb bf) all0)))
          have KC566 := KC0.trans K566 (allS (il 0) (allS (il 1) (allS (il 2) all0)))
          show G_ 219 _ []
          refine gy (fun t k => cU X566 J 46 rfl k) ?_
          have c567 := ((SP.keep K566 (allS (nsx hw 49 (TreeP.exa Tp)) (allS (nsx hw 418 Ne.1) (allS (nsx hw 418 Nf.1) all0)))) S1)
          have c568 := ((SP.keep K566 (allS (nsx hw 49 (TreeP.exa Tp)) (allS (nsx hw 418 Ne.1) (allS (nsx hw 418 Nf.1) all0)))) SKu)
          have c569 := ((SP.keep K566 (allS (nsx hw 49 (TreeP.exa Tp)) (allS (nsx hw 418 Ne.1) (allS (nsx hw 418 Nf.1) all0)))) S2)
          exact rA X566 hret hlk hPf J 47 ⟨⟨Value.null, [u1, u, u2], (mc + (1 : Int32)), [tm, ea, fa], rfl, KC566, ⟨hbt, Or.inr (Or.inr (Or.inr (Or.inr ⟨ea, xa_566, fa, _, _, _, rfl, be, (Nat.le_trans hbs sz_xa_566), bf, (Nat.ne_of_lt (Nat.lt_of_lt_of_le Ne.lt f566_4)), hef, (Nat.ne_of_gt (Nat.lt_of_lt_of_le Nf.lt f566_4)), f566_0, f566_1, f566_2, f566_3⟩)))⟩, (by rw [ins_gt (r557_0.gt (own_gz hc564).1 (own_gz hc564).2), ins_lt (r553_0.1.mp hc554)]; exact (sks3 c567 c568 c569)), (allS ⟨hbt, Or.inr (TreeP.exa Tp)⟩ (allS ⟨be, Or.inl Ne.1⟩ (allS ⟨bf, Or.inl Nf.1⟩ all0))), (Or.inl rfl)⟩, N566⟩
        · refine gy (fun t k => fY X557 J 49 rfl ((if0 _ _).trans (flt hc564).2.2.2) 171 (aL X557 J 55 rfl rfl k)) ?_
          refine own_gf X557 J 56 601 Via.refl e557 Ne.2.2.1 (fun T570 X570 e570 => ?_)
          refine gy (fun t k => sA X570 J 57 rfl #[vr tm, vr u, vr wP, vi 1, vr ea, vi r_557, vr ea, .val .null, vr u, vr wP] (iN X570 J 58 rfl rfl (fY X570 J 59 rfl ((if0 _ _).trans (feq (by decide)).2) 187 (aL X570 J 60 rfl rfl (aN X570 J 61 rfl rfl k))))) ?_
          refine own_pf (ty := (.object S_2)) (v' := (.ref wP)) X570 J 62 601 Via.refl e570 Ne.2.2.1 Ne.1 (Or.inl (ww hw 430 rfl)) 418 rfl rfl N0 (Nat.le_trans hnb be) (fun T571 h571 _ X571 e571 W571 N571 => ?_)
          have M571 := Ne.s_value (own_lay hw) W571
          have O571 := O0.wr W571 (Nat.le_trans hnb be)
          have KC571 := KC0.wr W571 (il 1)
          refine gy (fun t k => aL X571 J 63 rfl rfl k) ?_
          have c572 := ((SP.wr W571 (nsx hw 418 Ne.1)) S1)
          have c573 := ((SP.wr W571 (nsx hw 418 Ne.1)) S2)
          exact rA X571 hret hlk hPf J 64 ⟨⟨(Value.ref wP), [u1, u2], mc, [tm, ea, fa], rfl, (by rw [e571]; exact KC571), (by rw [e571]; exact ⟨hbt, Or.inr (Or.inr (Or.inr (Or.inl ⟨ea, fa, _, _, rfl, be, bf, hef, (M0.other W571 (ne_exa (TreeP.exa Tp) Ne.1 (by decide))), (Nf.other W571 hef.symm), M571⟩)))⟩), (by rw [e571]; exact (by rw [ins_eq (r557_0.2.mp (own_ngz hc558 hc564))]; exact (sks2 c572 c573))), (allS ⟨hbt, Or.inr (TreeP.exa Tp)⟩ (allS ⟨be, Or.inl Ne.1⟩ (allS ⟨bf, Or.inl Nf.1⟩ all0))), (Or.inr rfl)⟩, N571⟩
    · refine gy (fun t k => fY X553 J 30 rfl ((if0 _ _).trans (flt hc554).2.1) 156 (iL X553 J 48 rfl rfl k)) ?_
      by_cases hc574 : (0 : Int32) < r_553
      · refine gy (fun t k => fN X553 J 49 rfl ((if0 _ _).trans (tlt hc574).2.2.2) (aL X553 J 50 rfl rfl k)) ?_
        refine own_gf X553 J 51 452 Via.refl e553 Nf.2.2.2.2.2.1 (fun T575 X575 e575 => ?_)
        refine gy (fun t k => sA X575 J 52 rfl #[vr tm, vr u, vr wP, vi 1, .val .null, vi r_553, vr fa, .val .null, vr u, .unset] (jG X575 J 53 rfl 196 (aL X575 J 35 rfl rfl (wN X575 J 36 rfl (aN X575 J 37 rfl rfl (aN X575 J 38 rfl rfl (aN X575 J 39 rfl rfl (aL X575 J 40 rfl rfl k)))))))) ?_
        refine gy (fun t k => iL X575 J 41 rfl rfl (fY X575 J 42 rfl ((if0 _ _).trans (flt hc554).2.1) 215 (cI X575 J 54 rfl 0 k))) ?_
        refine own_cp (rmAaR hw G _ u _ _ _ _ _ _ _ _ O0 M0 Nf (Nat.le_trans hnb hbt) (Nat.le_trans hnb bf)) X575 J 45 440 442 443 441 50 444 e575 M0.1 0 pd_32 (kF N0 fun _ T576 v576 X576 N576 q576 => ?_)
        obtain ⟨xa_576, rfl, K576, f576_0, f576_1, f576_2, f576_3⟩ := q576
        have g_xa_576 : n0 ≤ xa_576 := Nat.le_trans (own_le O0) f576_3
        have sz_xa_576 : h0.size ≤ xa_576 := Nat.le_trans KC0.1 f576_3
        have O576 := O0.keep K576 (allS (Nat.le_trans hnb hbt) (allS (Nat.le_trans hnb bf) all0))
        have KC576 := KC0.trans K576 (allS (il 0) (allS (il 2) all0))
        show G_ 219 _ []
        refine gy (fun t k => cU X576 J 46 rfl k) ?_
        have c577 := ((SP.keep K576 (allS (nsx hw 49 (TreeP.exa Tp)) (allS (nsx hw 418 Nf.1) all0))) S1)
        have c578 := ((SP.keep K576 (allS (nsx hw 49 (TreeP.exa Tp)) (allS (nsx hw 418 Nf.1) all0))) S2)
        have c579 := ((SP.keep K576 (allS (nsx hw 49 (TreeP.exa Tp)) (allS (nsx hw 418 Nf.1) all0))) SKu)
        exact rA X576 hret hlk hPf J 47 ⟨⟨Value.null, [u1, u2, u], (mc + (1 : Int32)), [tm, ea, fa], rfl, KC576, ⟨hbt, Or.inr (Or.inr (Or.inr (Or.inr ⟨ea, fa, xa_576, _, _, _, rfl, be, bf, (Nat.le_trans hbs sz_xa_576), hef, (Nat.ne_of_lt (Nat.lt_of_lt_of_le Ne.lt f576_3)), (Nat.ne_of_lt (Nat.lt_of_lt_of_le Nf.lt f576_3)), f576_0, f576_1, (Ne.keep K576 (ninS (ne_exa Ne.1 (TreeP.exa Tp) (by decide)) (ninS hef nin0))), f576_2⟩)))⟩, (by rw [ins_gt (Int.lt_trans hab (r553_0.gt (own_gz hc574).1 (own_gz hc574).2)), ins_gt (r553_0.gt (own_gz hc574).1 (own_gz hc574).2)]; exact (sks3 c577 c578 c579)), (allS ⟨hbt, Or.inr (TreeP.exa Tp)⟩ (allS ⟨be, Or.inl Ne.1⟩ (allS ⟨bf, Or.inl Nf.1⟩ all0))), (Or.inl rfl)⟩, N576⟩
      · refine gy (fun t k => fY X553 J 49 rfl ((if0 _ _).trans (flt hc574).2.2.2) 171 (aL X553 J 55 rfl rfl k)) ?_
        refine own_gf X553 J 56 601 Via.refl e553 Nf.2.2.1 (fun T580 X580 e580 => ?_)
        refine gy (fun t k => sA X580 J 57 rfl #[vr tm, vr u, vr wP, vi 1, vr fa, vi r_553, vr fa, .val .null, vr u, vr wP] (iN X580 J 58 rfl rfl (fY X580 J 59 rfl ((if0 _ _).trans (feq (by decide)).2) 187 (aL X580 J 60 rfl rfl (aN X580 J 61 rfl rfl k))))) ?_
        refine own_pf (ty := (.object S_2)) (v' := (.ref wP)) X580 J 62 601 Via.refl e580 Nf.2.2.1 Nf.1 (Or.inl (ww hw 430 rfl)) 418 rfl rfl N0 (Nat.le_trans hnb bf) (fun T581 h581 _ X581 e581 W581 N581 => ?_)
        have M581 := Nf.s_value (own_lay hw) W581
        have O581 := O0.wr W581 (Nat.le_trans hnb bf)
        have KC581 := KC0.wr W581 (il 2)
        refine gy (fun t k => aL X581 J 63 rfl rfl k) ?_
        have c582 := ((SP.wr W581 (nsx hw 418 Nf.1)) S1)
        have c583 := ((SP.wr W581 (nsx hw 418 Nf.1)) S2)
        exact rA X581 hret hlk hPf J 64 ⟨⟨(Value.ref wP), [u1, u2], mc, [tm, ea, fa], rfl, (by rw [e581]; exact KC581), (by rw [e581]; exact ⟨hbt, Or.inr (Or.inr (Or.inr (Or.inl ⟨ea, fa, _, _, rfl, be, bf, hef, (M0.other W581 (ne_exa (TreeP.exa Tp) Nf.1 (by decide))), M581, (Ne.other W581 hef)⟩)))⟩), (by rw [e581]; exact (by rw [ins_gt (Eq.symm (r553_0.2.mp (own_ngz hc554 hc574)) ▸ hab), ins_eq (r553_0.2.mp (own_ngz hc554 hc574))]; exact (sks2 c582 c583))), (allS ⟨hbt, Or.inr (TreeP.exa Tp)⟩ (allS ⟨be, Or.inl Ne.1⟩ (allS ⟨bf, Or.inl Nf.1⟩ all0))), (Or.inr rfl)⟩, N581⟩
  · exact absurd (SKs.len SKL ▸ hSr.1) (by simp)
theorem pd_33 : parseMethodDescriptor "(Ljava/lang/Object;Ljava/lang/Object;Z)Ljava/lang/Object;" = some ⟨[(.object S_2), (.object S_2), .boolean], some (.object S_2)⟩ := by decide +kernel
def L58 : List (Nat × Instr × Nat) := [(0, a_0), (1, a_1), (2, a_2), (3, .iconst 1, 1), (4, .invokevirtual 127, 3), (7, .areturn, 1)]
theorem d58 : ∀ q ∈ L58, decode jdk_2729_method_21_code q.1 = .ok q.2 := by decide +kernel
def QrmP2 (Z : State) (wP : Addr) (tm : Addr) (ky : Int) (b : Nat) (Ks : (List Int)) (nk : Value) (h0 : Heap) (v : Option Value) (h : Heap) : Prop := ∃ (rv : Value) (Lr : (List Addr)) (mr : Int32) (wl : (List Addr)), (v = some rv) ∧ (Keep h0 h wl) ∧ (TreeP Z h b wP tm Lr mr nk) ∧ (SKs Z h Lr (ins ky Ks)) ∧ (∀ x ∈ wl, TW Z h0 b x) ∧ (rv = Value.null ∨ rv = Value.ref wP)
abbrev own_y50 : MethodName := ⟨S_6, "put", "(Ljava/lang/Object;Ljava/lang/Object;)Ljava/lang/Object;"⟩
theorem rmP2 (hw : HW a0 Z) (G : Gh Z vcs wI wA cA vF wP wD kD wE kE mT mU mL mO) (tm : Addr) (u : Addr) (ky : Int) (b : Nat) (L : (List Addr)) (Ks : (List Int)) (mc : Int32) (nk : Value) (h0 : Heap) (n0 : Nat) (O0 : Old Z n0 h0) (Tp : TreeP Z h0 b wP tm L mc nk) (SKu : SK Z h0 u ky) (SKL : SKs Z h0 L Ks) (hSr : Srt Ks) (hnb : n0 ≤ b) :
    MM l Z own_y50 jdk_2729_method_21_code 3 (some (.object S_2)) ws (Rm 8 1 6 125) #[(.ref tm), (.ref u), (.ref wP)] h0 (QF n0 (QrmP2 Z wP tm ky b Ks nk h0)) := by
  refine own_go hw (plainFor_of_name pn_72) #[vr tm, vr u, vr wP] (fun p e s m below meth c s₁ Pf hx hby hlk hown hnm hret hml hZ hh X0 e0 hPf Jf => ?_)
  have N0 := Fr.nil n0
  have J := Jf d58
  refine gy (fun t k => aN X0 J 0 rfl rfl (aN X0 J 1 rfl rfl (aN X0 J 2 rfl rfl (cI X0 J 3 rfl 1 k)))) ?_
  refine own_cp (rmP3 hw G _ _ _ _ _ _ _ _ _ _ O0 Tp SKu SKL hSr hnb) X0 J 4 374 376 377 375 50 378 e0 (TreeP.exa Tp) 0 pd_33 (kF N0 fun _ T584 v584 X584 N584 q584 => ?_)
  obtain ⟨rv_584, Lr_584, mr_584, wl_584, rfl, K584, f584_0, f584_1, r584_0, r584_1⟩ := q584
  have O584 := O0.keep K584 (fun x q => Nat.le_trans hnb (r584_0 x q).1)
  have hR584 : rv_584.isRef = true := by rcases r584_1 with q | q <;> rw [q] <;> rfl
  show G_ 7 _ [rv_584]
  exact rA X584 hret hlk hPf J 5 ⟨⟨rv_584, Lr_584, mr_584, wl_584, rfl, K584, f584_0, f584_1, r584_0, r584_1⟩, N584⟩ (hw := hR584)
theorem pd_34 : parseMethodDescriptor "(Ljava/lang/Object;Ljava/lang/Object;)Ljava/lang/Object;" = some ⟨[(.object S_2), (.object S_2)], some (.object S_2)⟩ := by decide +kernel
abbrev own_y51 : MethodName := ⟨S_21, "put", "(Ljava/lang/Object;Ljava/lang/Object;)Ljava/lang/Object;"⟩
theorem pn_57 : plainName S_8 = true := by first | (simp [plainName, overriddenIn]; done) | decide +kernel
def L57 : List (Nat × Instr × Nat) := [(0, a_0), (1, .getfield 7, 3), (4, a_1), (5, .getstatic 65, 3), (8, .invokeinterface 69 3, 5), (13, .ifnonnull 7, 3), (16, .iconst 1, 1), (17, .goto 4, 3), (21, .ireturn, 1), (20, .iconst 0, 1)]
theorem d57 : ∀ q ∈ L57, decode jdk_2756_method_12_code q.1 = .ok q.2 := by decide +kernel
def QrmAd (Z : State) (wP : Addr) (tm : Addr) (ky : Int) (b : Nat) (Ks : (List Int)) (nk : Value) (h0 : Heap) (v : Option Value) (h : Heap) : Prop := ∃ (r : Int32) (Lr : (List Addr)) (mr : Int32) (wl : (List Addr)), (v = some (.int r)) ∧ (Keep h0 h wl) ∧ (TreeP Z h b wP tm Lr mr nk) ∧ (SKs Z h Lr (ins ky Ks)) ∧ (∀ x ∈ wl, TW Z h0 b x)
abbrev own_y52 : MethodName := ⟨S_8, "add", "(Ljava/lang/Object;)Z"⟩
theorem rmAd (hw : HW a0 Z) (G : Gh Z vcs wI wA cA vF wP wD kD wE kE mT mU mL mO) (ts : Addr) (u : Addr) (tm : Addr) (ky : Int) (b : Nat) (L : (List Addr)) (Ks : (List Int)) (mc : Int32) (nk : Value) (h0 : Heap) (n0 : Nat) (O0 : Old Z n0 h0) (Ets : Exa Z h0 ts S_8) (Fts : Fld Z h0 ts S_8 "m" S_13 (.ref tm)) (Tp : TreeP Z h0 b wP tm L mc nk) (SKu : SK Z h0 u ky) (SKL : SKs Z h0 L Ks) (hSr : Srt Ks) (hnb : n0 ≤ b) :
    MM l Z own_y52 jdk_2756_method_12_code 2 (some .boolean) ws (Rm 9 1 6 139) #[(.ref ts), (.ref u)] h0 (QF n0 (QrmAd Z wP tm ky b Ks nk h0)) := by
  refine own_go hw (plainFor_of_name pn_57) #[vr ts, vr u] (fun p e s m below meth c s₁ Pf hx hby hlk hown hnm hret hml hZ hh X0 e0 hPf Jf => ?_)
  have N0 := Fr.nil n0
  have J := Jf d57
  refine gy (fun t k => aN X0 J 0 rfl rfl k) ?_
  refine own_gf X0 J 1 85 Via.refl e0 Fts (fun T585 X585 e585 => ?_)
  refine gy (fun t k => aN X585 J 2 rfl rfl k) ?_
  refine own_gs X585 J 3 365 Via.refl e585 (G.2.2.2.2.2.2.2.2.1.ext O0.2) (fun T586 X586 e586 => ?_)
  refine own_cu (y := own_y51) (J' := "java/util/Map") (rmP2 hw G _ _ _ _ _ _ _ _ _ _ O0 Tp SKu SKL hSr hnb) X586 J 4 366 367 368 369 370 371 372 160 50 373 e586 (TreeP.exa Tp) 0 pd_34 (kF N0 fun _ T587 v587 X587 N587 q587 => ?_)
  obtain ⟨rv_587, Lr_587, mr_587, wl_587, rfl, K587, f587_0, f587_1, r587_0, r587_1⟩ := q587
  have O587 := O0.keep K587 (fun x q => Nat.le_trans hnb (r587_0 x q).1)
  have hR587 : rv_587.isRef = true := by rcases r587_1 with q | q <;> rw [q] <;> rfl
  show G_ 13 _ [rv_587]
  rcases r587_1 with rfl | rfl
  · refine gy (fun t k => wN X587 J 5 rfl (cI X587 J 6 rfl 1 (jG X587 J 7 rfl 21 k))) ?_
    exact rI X587 hret hlk hPf J 8 ⟨⟨(1 : Int32), Lr_587, mr_587, wl_587, rfl, K587, f587_0, f587_1, r587_0⟩, N587⟩
  · refine gy (fun t k => wY X587 J 5 rfl 20 (cI X587 J 9 rfl 0 k)) ?_
    exact rI X587 hret hlk hPf J 8 ⟨⟨(0 : Int32), Lr_587, mr_587, wl_587, rfl, K587, f587_0, f587_1, r587_0⟩, N587⟩
theorem pn_12 : plainName "java/util/AbstractMap" = true := by first | (simp [plainName, overriddenIn]; done) | decide +kernel
def L12 : List (Nat × Instr × Nat) := [(0, a_0), (1, .invokespecial 1, 3), (4, .return_, 1)]
theorem d12 : ∀ q ∈ L12, decode jdk_71_method_1_code q.1 = .ok q.2 := by decide +kernel
def QrmAMi (v : Option Value) : Prop := (v = none)
abbrev own_y53 : MethodName := ⟨"java/util/AbstractMap", "<init>", "()V"⟩
theorem rmAMi (hw : HW a0 Z) (G : Gh Z vcs wI wA cA vF wP wD kD wE kE mT mU mL mO) (tm : Addr) (h0 : Heap) (n0 : Nat) (O0 : Old Z n0 h0) :
    MM l Z own_y53 jdk_71_method_1_code 1 none ws (Rm 1 0 0 12) #[(.ref tm)] h0 (QP h0 QrmAMi) := by
  refine own_go hw (plainFor_of_name pn_12) #[vr tm] (fun p e s m below meth c s₁ Pf hx hby hlk hown hnm hret hml hZ hh X0 e0 hPf Jf => ?_)
  have J := Jf d12
  refine gy (fun t k => aN X0 J 0 rfl rfl k) ?_
  refine own_oi X0 J 1 61 30 31 e0 0 (fun T589 X589 e589 => ?_)
  exact rV X589 hret hlk hPf J 2 ⟨rfl, rfl, e589⟩
theorem pn_15 : plainName S_30 = true := by first | (simp [plainName, overriddenIn]; done) | decide +kernel
def L15 : List (Nat × Instr × Nat) := [(0, a_0), (1, .invokespecial 1, 3), (4, .return_, 1)]
theorem d15 : ∀ q ∈ L15, decode jdk_22_method_1_code q.1 = .ok q.2 := by decide +kernel
def QrmACi (v : Option Value) : Prop := (v = none)
abbrev own_y54 : MethodName := ⟨S_30, "<init>", "()V"⟩
theorem rmACi (hw : HW a0 Z) (G : Gh Z vcs wI wA cA vF wP wD kD wE kE mT mU mL mO) (al : Addr) (h0 : Heap) (n0 : Nat) (O0 : Old Z n0 h0) :
    MM l Z own_y54 jdk_22_method_1_code 1 none ws (Rm 1 0 0 12) #[(.ref al)] h0 (QP h0 QrmACi) := by
  refine own_go hw (plainFor_of_name pn_15) #[vr al] (fun p e s m below meth c s₁ Pf hx hby hlk hown hnm hret hml hZ hh X0 e0 hPf Jf => ?_)
  have J := Jf d15
  refine gy (fun t k => aN X0 J 0 rfl rfl k) ?_
  refine own_oi X0 J 1 84 30 31 e0 0 (fun T591 X591 e591 => ?_)
  exact rV X591 hret hlk hPf J 2 ⟨rfl, rfl, e591⟩
theorem pd_35 : parseMethodDescriptor "()V" = some ⟨[], none⟩ := by decide +kernel
theorem pn_14 : plainName "java/util/AbstractSet" = true := by first | (simp [plainName, overriddenIn]; done) | decide +kernel
def L14 : List (Nat × Instr × Nat) := [(0, a_0), (1, .invokespecial 1, 3), (4, .return_, 1)]
theorem d14 : ∀ q ∈ L14, decode jdk_91_method_1_code q.1 = .ok q.2 := by decide +kernel
def QrmAS (v : Option Value) : Prop := (v = none)
abbrev own_y55 : MethodName := ⟨"java/util/AbstractSet", "<init>", "()V"⟩
theorem rmAS (hw : HW a0 Z) (G : Gh Z vcs wI wA cA vF wP wD kD wE kE mT mU mL mO) (al : Addr) (h0 : Heap) (n0 : Nat) (O0 : Old Z n0 h0) :
    MM l Z own_y55 jdk_91_method_1_code 1 none ws (Rm 2 0 0 24) #[(.ref al)] h0 (QP h0 QrmAS) := by
  refine own_go hw (plainFor_of_name pn_14) #[vr al] (fun p e s m below meth c s₁ Pf hx hby hlk hown hnm hret hml hZ hh X0 e0 hPf Jf => ?_)
  have J := Jf d14
  refine gy (fun t k => aN X0 J 0 rfl rfl k) ?_
  refine own_ci (rmACi hw G al _ _ O0 ) X0 J 1 78 79 82 83 e0 0 pd_35 (kP fun T592 v592 X592 e592 q592 => ?_)
  obtain rfl := q592
  show G_ 4 _ []
  exact rV X592 hret hlk hPf J 2 ⟨rfl, rfl, e592⟩
def L11 : List (Nat × Instr × Nat) := [(0, a_0), (1, .invokespecial 1, 3), (4, a_0), (5, .iconst 0, 1), (6, .putfield 7, 3), (9, a_0), (10, .iconst 0, 1), (11, .putfield 13, 3), (14, a_0), (15, .aconst_null, 1), (16, .putfield 16, 3), (19, .return_, 1)]
theorem d11 : ∀ q ∈ L11, decode jdk_2729_method_1_code q.1 = .ok q.2 := by decide +kernel
def QrmTM (Z : State) (tm : Addr) (h0 : Heap) (v : Option Value) (h : Heap) : Prop := (v = none) ∧ (Keep h0 h [tm]) ∧ (Mp Z h tm .null (0 : Int32) (0 : Int32) .null)
abbrev own_y56 : MethodName := ⟨S_6, "<init>", "()V"⟩
theorem rmTM (hw : HW a0 Z) (G : Gh Z vcs wI wA cA vF wP wD kD wE kE mT mU mL mO) (tm : Addr) (h0 : Heap) (n0 : Nat) (O0 : Old Z n0 h0) (EX : Exa Z h0 tm S_6) (F_comparator : Fld Z h0 tm S_6 "comparator" S_29 .null) (F_size : Fld Z h0 tm S_6 "size" "I" (.int 0)) (F_modCount : Fld Z h0 tm S_6 "modCount" "I" (.int 0)) (F_root : Fld Z h0 tm S_6 "root" S_5 .null) (F_navigableKeySet : Fld Z h0 tm S_6 "navigableKeySet" S_27 .null) (g_tm : n0 ≤ tm) :
    MM l Z own_y56 jdk_2729_method_1_code 1 none ws (Rm 2 0 0 24) #[(.ref tm)] h0 (QF n0 (QrmTM Z tm h0)) := by
  refine own_go hw (plainFor_of_name pn_72) #[vr tm] (fun p e s m below meth c s₁ Pf hx hby hlk hown hnm hret hml hZ hh X0 e0 hPf Jf => ?_)
  have N0 := Fr.nil n0
  have KC0 := Keep.refl h0 [tm]
  have J := Jf d11
  refine gy (fun t k => aN X0 J 0 rfl rfl k) ?_
  refine own_ci (rmAMi hw G tm _ _ O0 ) X0 J 1 55 56 59 60 e0 0 pd_35 (kP fun T593 v593 X593 e593 q593 => ?_)
  obtain rfl := q593
  show G_ 4 _ []
  refine gy (fun t k => aN X593 J 2 rfl rfl (cI X593 J 3 rfl 0 k)) ?_
  refine own_pf (ty := .int) (v' := (.int 0)) X593 J 4 62 Via.refl e593 F_size EX (Or.inl (ww hw 63 rfl)) 49 rfl rfl N0 g_tm (fun T594 h594 _ X594 e594 W594 N594 => ?_)
  have Fw594 : Fld Z h594 tm S_6 "size" "I" (Value.int 0) := F_size.same W594
  have O594 := O0.wr W594 g_tm
  have KC594 := KC0.wr W594 (il 0)
  refine gy (fun t k => aN X594 J 5 rfl rfl (cI X594 J 6 rfl 0 k)) ?_
  refine own_pf (ty := .int) (v' := (.int 0)) X594 J 7 64 Via.refl e594 (F_modCount.other W594 (Or.inr (slot_ne (Or.inl (ww hw 65 rfl)) (Or.inl (ww hw 63 rfl)) (by decide) (t := .int) (t' := .int) (by decide) (by decide)))) (EX.wr W594) (Or.inl (ww hw 65 rfl)) 49 rfl rfl N594 g_tm (fun T595 h595 _ X595 e595 W595 N595 => ?_)
  have Fw595 : Fld Z h595 tm S_6 "modCount" "I" (Value.int 0) := (F_modCount.other W594 (Or.inr (slot_ne (Or.inl (ww hw 65 rfl)) (Or.inl (ww hw 63 rfl)) (by decide) (t := .int) (t' := .int) (by decide) (by decide)))).same W595
  have O595 := O594.wr W595 g_tm
  have KC595 := KC594.wr W595 (il 0)
  refine gy (fun t k => aN X595 J 8 rfl rfl (cU X595 J 9 rfl k)) ?_
  have c596 := ((EX.wr W594).wr W595)
  have c597 := ((F_comparator.other W594 (Or.inr (slot_ne (Or.inr (ww hw 67 rfl)) (Or.inl (ww hw 63 rfl)) (by decide) (t := (.object S_20)) (t' := .int) (by decide) (by decide)))).other W595 (Or.inr (slot_ne (Or.inr (ww hw 67 rfl)) (Or.inl (ww hw 65 rfl)) (by decide) (t := (.object S_20)) (t' := .int) (by decide) (by decide))))
  refine own_pf (ty := (.object S_20)) (v' := .null) X595 J 10 66 Via.refl e595 c597 c596 (Or.inr ⟨(ww hw 67 rfl), rfl, hnm⟩) 49 rfl rfl N595 g_tm (fun T598 h598 _ X598 e598 W598 N598 => ?_)
  have Fw598 : Fld Z h598 tm S_6 "comparator" S_29 Value.null := c597.same W598
  have O598 := O595.wr W598 g_tm
  have KC598 := KC595.wr W598 (il 0)
  have c599 := ((Fw594.other W595 (Or.inr (slot_ne (Or.inl (ww hw 63 rfl)) (Or.inl (ww hw 65 rfl)) (by decide) (t := .int) (t' := .int) (by decide) (by decide)))).other W598 (Or.inr (slot_ne (Or.inl (ww hw 63 rfl)) (Or.inr (ww hw 67 rfl)) (by decide) (t := .int) (t' := (.object S_20)) (by decide) (by decide))))
  have c600 := (((F_root.other W594 (Or.inr (slot_ne (Or.inl (ww hw 215 rfl)) (Or.inl (ww hw 63 rfl)) (by decide) (t := (.object S_1)) (t' := .int) (by decide) (by decide)))).other W595 (Or.inr (slot_ne (Or.inl (ww hw 215 rfl)) (Or.inl (ww hw 65 rfl)) (by decide) (t := (.object S_1)) (t' := .int) (by decide) (by decide)))).other W598 (Or.inr (slot_ne (Or.inl (ww hw 215 rfl)) (Or.inr (ww hw 67 rfl)) (by decide) (t := (.object S_1)) (t' := (.object S_20)) (by decide) (by decide))))
  have c601 := (((F_navigableKeySet.other W594 (Or.inr (slot_ne (Or.inl (ww hw 178 rfl)) (Or.inl (ww hw 63 rfl)) (by decide) (t := (.object S_12)) (t' := .int) (by decide) (by decide)))).other W595 (Or.inr (slot_ne (Or.inl (ww hw 178 rfl)) (Or.inl (ww hw 65 rfl)) (by decide) (t := (.object S_12)) (t' := .int) (by decide) (by decide)))).other W598 (Or.inr (slot_ne (Or.inl (ww hw 178 rfl)) (Or.inr (ww hw 67 rfl)) (by decide) (t := (.object S_12)) (t' := (.object S_20)) (by decide) (by decide))))
  exact rV X598 hret hlk hPf J 11 ⟨⟨rfl, (by rw [e598]; exact KC598), (by rw [e598]; exact ⟨(c596.wr W598), Fw598, c599, (Fw595.other W598 (Or.inr (slot_ne (Or.inl (ww hw 65 rfl)) (Or.inr (ww hw 67 rfl)) (by decide) (t := .int) (t' := (.object S_20)) (by decide) (by decide)))), c600, c601⟩)⟩, N598⟩
def L13 : List (Nat × Instr × Nat) := [(0, a_0), (1, .invokespecial 1, 3), (4, a_0), (5, a_1), (6, .putfield 7, 3), (9, .return_, 1)]
theorem d13 : ∀ q ∈ L13, decode jdk_2756_method_1_code q.1 = .ok q.2 := by decide +kernel
def QrmT1 (Z : State) (ts : Addr) (tm : Addr) (h0 : Heap) (v : Option Value) (h : Heap) : Prop := (v = none) ∧ (Keep h0 h [ts]) ∧ (Exa Z h ts S_8) ∧ (Fld Z h ts S_8 "m" S_13 (.ref tm))
abbrev own_y57 : MethodName := ⟨S_8, "<init>", "(Ljava/util/NavigableMap;)V"⟩
theorem rmT1 (hw : HW a0 Z) (G : Gh Z vcs wI wA cA vF wP wD kD wE kE mT mU mL mO) (ts : Addr) (tm : Addr) (h0 : Heap) (n0 : Nat) (O0 : Old Z n0 h0) (EX : Exa Z h0 ts S_8) (FM : Fld Z h0 ts S_8 "m" S_13 .null) (g_ts : n0 ≤ ts) :
    MM l Z own_y57 jdk_2756_method_1_code 2 none ws (Rm 3 0 0 36) #[(.ref ts), (.ref tm)] h0 (QF n0 (QrmT1 Z ts tm h0)) := by
  refine own_go hw (plainFor_of_name pn_57) #[vr ts, vr tm] (fun p e s m below meth c s₁ Pf hx hby hlk hown hnm hret hml hZ hh X0 e0 hPf Jf => ?_)
  have N0 := Fr.nil n0
  have KC0 := Keep.refl h0 [ts]
  have J := Jf d13
  refine gy (fun t k => aN X0 J 0 rfl rfl k) ?_
  refine own_ci (rmAS hw G ts _ _ O0 ) X0 J 1 72 73 76 77 e0 0 pd_35 (kP fun T602 v602 X602 e602 q602 => ?_)
  obtain rfl := q602
  show G_ 4 _ []
  refine gy (fun t k => aN X602 J 2 rfl rfl (aN X602 J 3 rfl rfl k)) ?_
  refine own_pf (ty := (.object S_21)) (v' := (.ref tm)) X602 J 4 85 Via.refl e602 FM EX (Or.inl (ww hw 86 rfl)) 43 rfl rfl N0 g_ts (fun T603 h603 _ X603 e603 W603 N603 => ?_)
  have Fw603 : Fld Z h603 ts S_8 "m" S_13 (Value.ref tm) := FM.same W603
  have O603 := O0.wr W603 g_ts
  have KC603 := KC0.wr W603 (il 0)
  exact rV X603 hret hlk hPf J 5 ⟨⟨rfl, (by rw [e603]; exact KC603), (by rw [e603]; exact (EX.wr W603)), (by rw [e603]; exact Fw603)⟩, N603⟩
theorem pd_36 : parseMethodDescriptor "(Ljava/util/NavigableMap;)V" = some ⟨[(.object S_21)], none⟩ := by decide +kernel
def L10 : List (Nat × Instr × Nat) := [(0, a_0), (1, .new 13, 3), (4, .dup, 1), (5, .invokespecial 15, 3), (8, .invokespecial 16, 3), (11, .return_, 1)]
theorem d10 : ∀ q ∈ L10, decode jdk_2756_method_2_code q.1 = .ok q.2 := by decide +kernel
def QrmT0 (Z : State) (ts : Addr) (h0 : Heap) (v : Option Value) (h : Heap) : Prop := ∃ (tm : Addr), (v = none) ∧ (Keep h0 h [ts]) ∧ (Exa Z h ts S_8) ∧ (Fld Z h ts S_8 "m" S_13 (.ref tm)) ∧ (Mp Z h tm .null (0 : Int32) (0 : Int32) .null) ∧ (h0.size ≤ tm)
abbrev own_y58 : MethodName := ⟨S_8, "<init>", "()V"⟩
theorem rmT0 (hw : HW a0 Z) (G : Gh Z vcs wI wA cA vF wP wD kD wE kE mT mU mL mO) (ts : Addr) (h0 : Heap) (n0 : Nat) (O0 : Old Z n0 h0) (EX : Exa Z h0 ts S_8) (FM : Fld Z h0 ts S_8 "m" S_13 .null) (g_ts : n0 ≤ ts) :
    MM l Z own_y58 jdk_2756_method_2_code 1 none ws (Rm 4 1 9 49) #[(.ref ts)] h0 (QF n0 (QrmT0 Z ts h0)) := by
  refine own_go hw (plainFor_of_name pn_57) #[vr ts] (fun p e s m below meth c s₁ Pf hx hby hlk hown hnm hret hml hZ hh X0 e0 hPf Jf => ?_)
  have N0 := Fr.nil n0
  have KC0 := Keep.refl h0 [ts]
  have J := Jf d10
  refine gy (fun t k => aN X0 J 0 rfl rfl k) ?_
  obtain ⟨T604, h604, X604, e604, E604, A604, D604, -, st604⟩ := newO X0 hx hZ hown (ww hw 48 rfl) (ww hw 49 rfl) (ww hw 50 rfl) e0 (g := (mkF m 1 #[vr ts] [(.ref ts)])) rfl (jd J 1 rfl) (by decide) (by decide)
  obtain ⟨b604, g604⟩ : ∃ z, z = h0.size := ⟨_, rfl⟩
  rw [← g604] at A604 D604 st604
  refine Go.by' st604 ?_
  have g_b604 : n0 ≤ b604 := Nat.le_trans (own_le O0) (Nat.le_of_eq g604.symm)
  have sz_b604 : h0.size ≤ b604 := Nat.le_trans KC0.1 (Nat.le_of_eq g604.symm)
  have O604 := O0.ext E604
  have KC604 := KC0.ext E604
  have Fn604_63 : Fld Z h604 b604 S_6 "size" "I" (Value.int 0) := D604 (Or.inl (ww hw 63 rfl)) (ty := .int) (by decide)
  have Fn604_65 : Fld Z h604 b604 S_6 "modCount" "I" (Value.int 0) := D604 (Or.inl (ww hw 65 rfl)) (ty := .int) (by decide)
  have Fn604_67 : Fld Z h604 b604 S_6 "comparator" S_29 Value.null := D604 (Or.inr (ww hw 67 rfl)) (ty := (.object S_20)) (by decide)
  have Fn604_178 : Fld Z h604 b604 S_6 "navigableKeySet" S_27 Value.null := D604 (Or.inl (ww hw 178 rfl)) (ty := (.object S_12)) (by decide)
  have Fn604_215 : Fld Z h604 b604 S_6 "root" S_5 Value.null := D604 (Or.inl (ww hw 215 rfl)) (ty := (.object S_1)) (by decide)
  show G_ 4 #[vr ts] [(.ref b604), (.ref ts)]
  refine gy (fun t k => oP X604 J 2 rfl k) ?_
  refine own_ci (rmTM hw G _ _ _ O604 A604 Fn604_67 Fn604_63 Fn604_65 Fn604_215 Fn604_178 g_b604) X604 J 3 51 52 50 54 e604 2 pd_35 (kF N0 fun _ T605 v605 X605 N605 q605 => ?_)
  obtain ⟨rfl, K605, f605_0⟩ := q605
  have O605 := O604.keep K605 (allS g_b604 all0)
  have KC605 := KC604.trans K605 (allS (Or.inr sz_b604) all0)
  have c607 := ((EX.ext E604).keep K605)
  have c608 := ((FM.ext E604).keep K605 (ninS (Nat.ne_of_lt (Nat.lt_of_lt_of_le EX.lt (Nat.le_of_eq g604.symm))) nin0))
  show G_ 8 _ [(.ref b604), (.ref ts)]
  refine own_ci (rmT1 hw G _ b604 _ _ O605 c607 c608 g_ts) X605 J 4 68 69 44 71 rfl 0 pd_36 (kF N605 fun _ T606 v606 X606 N606 q606 => ?_)
  obtain ⟨rfl, K606, f606_0, f606_1⟩ := q606
  have O606 := O605.keep K606 (allS g_ts all0)
  have KC606 := KC605.trans K606 (allS (il 0) all0)
  show G_ 11 _ []
  exact rV X606 hret hlk hPf J 5 ⟨⟨b604, rfl, KC606, f606_0, f606_1, (f605_0.keep K606 (ninS (Nat.ne_of_gt (Nat.lt_of_lt_of_le EX.lt (Nat.le_of_eq g604.symm))) nin0)), sz_b604⟩, N606⟩
theorem pn_18 : plainName S_14 = true := by first | (simp [plainName, overriddenIn]; done) | decide +kernel
def L18 : List (Nat × Instr × Nat) := [(0, a_0), (1, .invokespecial 1, 3), (4, a_1), (5, .ifnonnull 11, 3), (16, a_0), (17, a_1), (18, .putfield 10, 3), (21, .return_, 1)]
theorem d18 : ∀ q ∈ L18, decode jdk_119_method_1_code q.1 = .ok q.2 := by decide +kernel
def QrmUC (Z : State) (us : Addr) (ts : Addr) (h0 : Heap) (v : Option Value) (h : Heap) : Prop := (v = none) ∧ (Keep h0 h [us]) ∧ (Exa Z h us S_15) ∧ (Fld Z h us S_14 "c" S_17 (.ref ts))
abbrev own_y59 : MethodName := ⟨S_14, "<init>", "(Ljava/util/Collection;)V"⟩
theorem rmUC (hw : HW a0 Z) (G : Gh Z vcs wI wA cA vF wP wD kD wE kE mT mU mL mO) (us : Addr) (ts : Addr) (h0 : Heap) (n0 : Nat) (O0 : Old Z n0 h0) (EX : Exa Z h0 us S_15) (FC : Fld Z h0 us S_14 "c" S_17 .null) (g_us : n0 ≤ us) :
    MM l Z own_y59 jdk_119_method_1_code 2 none ws (Rm 1 0 0 12) #[(.ref us), (.ref ts)] h0 (QF n0 (QrmUC Z us ts h0)) := by
  refine own_go hw (plainFor_of_name pn_18) #[vr us, vr ts] (fun p e s m below meth c s₁ Pf hx hby hlk hown hnm hret hml hZ hh X0 e0 hPf Jf => ?_)
  have N0 := Fr.nil n0
  have KC0 := Keep.refl h0 [us]
  have J := Jf d18
  refine gy (fun t k => aN X0 J 0 rfl rfl k) ?_
  refine own_oi X0 J 1 113 30 31 e0 0 (fun T610 X610 e610 => ?_)
  refine gy (fun t k => aN X610 J 2 rfl rfl (wY X610 J 3 rfl 16 (aN X610 J 4 rfl rfl (aN X610 J 5 rfl rfl k)))) ?_
  refine own_pf (ty := (.object S_31)) (v' := (.ref ts)) X610 J 6 114 Via.refl e610 FC EX (Or.inr ⟨(ww hw 115 rfl), rfl, hnm⟩) 102 rfl rfl N0 g_us (fun T611 h611 _ X611 e611 W611 N611 => ?_)
  have Fw611 : Fld Z h611 us S_14 "c" S_17 (Value.ref ts) := FC.same W611
  have O611 := O0.wr W611 g_us
  have KC611 := KC0.wr W611 (il 0)
  exact rV X611 hret hlk hPf J 7 ⟨⟨rfl, (by rw [e611]; exact KC611), (by rw [e611]; exact (EX.wr W611)), (by rw [e611]; exact Fw611)⟩, N611⟩
theorem pd_37 : parseMethodDescriptor "(Ljava/util/Collection;)V" = some ⟨[(.object S_31)], none⟩ := by decide +kernel
theorem pn_17 : plainName S_15 = true := by first | (simp [plainName, overriddenIn]; done) | decide +kernel
def L17 : List (Nat × Instr × Nat) := [(0, a_0), (1, a_1), (2, .invokespecial 1, 3), (5, .return_, 1)]
theorem d17 : ∀ q ∈ L17, decode jdk_122_method_1_code q.1 = .ok q.2 := by decide +kernel
def QrmUS (Z : State) (us : Addr) (ts : Addr) (h0 : Heap) (v : Option Value) (h : Heap) : Prop := (v = none) ∧ (Keep h0 h [us]) ∧ (Exa Z h us S_15) ∧ (Fld Z h us S_14 "c" S_17 (.ref ts))
abbrev own_y60 : MethodName := ⟨S_15, "<init>", "(Ljava/util/Set;)V"⟩
theorem rmUS (hw : HW a0 Z) (G : Gh Z vcs wI wA cA vF wP wD kD wE kE mT mU mL mO) (us : Addr) (ts : Addr) (h0 : Heap) (n0 : Nat) (O0 : Old Z n0 h0) (EX : Exa Z h0 us S_15) (FC : Fld Z h0 us S_14 "c" S_17 .null) (g_us : n0 ≤ us) :
    MM l Z own_y60 jdk_122_method_1_code 2 none ws (Rm 2 0 0 25) #[(.ref us), (.ref ts)] h0 (QF n0 (QrmUS Z us ts h0)) := by
  refine own_go hw (plainFor_of_name pn_17) #[vr us, vr ts] (fun p e s m below meth c s₁ Pf hx hby hlk hown hnm hret hml hZ hh X0 e0 hPf Jf => ?_)
  have N0 := Fr.nil n0
  have KC0 := Keep.refl h0 [us]
  have J := Jf d17
  refine gy (fun t k => aN X0 J 0 rfl rfl (aN X0 J 1 rfl rfl k)) ?_
  refine own_ci (rmUC hw G _ ts _ _ O0 EX FC g_us) X0 J 2 107 108 111 112 e0 0 pd_37 (kF N0 fun _ T612 v612 X612 N612 q612 => ?_)
  obtain ⟨rfl, K612, f612_0, f612_1⟩ := q612
  have O612 := O0.keep K612 (allS g_us all0)
  have KC612 := KC0.trans K612 (allS (il 0) all0)
  show G_ 5 _ []
  exact rV X612 hret hlk hPf J 3 ⟨⟨rfl, KC612, f612_0, f612_1⟩, N612⟩
abbrev own_y61 : MethodName := ⟨S_22, "getClass", "()Ljava/lang/Class;"⟩
theorem pd_38 : parseMethodDescriptor "(Ljava/util/Set;)V" = some ⟨[(.object S_22)], none⟩ := by decide +kernel
theorem pn_16 : plainName "java/util/Collections" = true := by first | (simp [plainName, overriddenIn]; done) | decide +kernel
def L16 : List (Nat × Instr × Nat) := [(0, a_0), (1, .invokeinterface 179 1, 5), (6, .ldc 182, 2), (8, .if_acmp .ne 5, 3), (13, .new 182, 3), (16, .dup, 1), (17, a_0), (18, .invokespecial 184, 3), (21, .areturn, 1)]
theorem d16 : ∀ q ∈ L16, decode jdk_79_method_31_code q.1 = .ok q.2 := by decide +kernel
def QrmUm (Z : State) (ts : Addr) (h0 : Heap) (v : Option Value) (h : Heap) : Prop := ∃ (r : Addr), (v = some (.ref r)) ∧ (Keep h0 h []) ∧ (Exa Z h r S_15) ∧ (Fld Z h r S_14 "c" S_17 (.ref ts)) ∧ (h0.size ≤ r)
abbrev own_y62 : MethodName := ⟨"java/util/Collections", "unmodifiableSet", "(Ljava/util/Set;)Ljava/util/Set;"⟩
theorem rmUm (hw : HW a0 Z) (G : Gh Z vcs wI wA cA vF wP wD kD wE kE mT mU mL mO) (ts : Addr) (h0 : Heap) (n0 : Nat) (O0 : Old Z n0 h0) (Ets : Exa Z h0 ts S_8) :
    MM l Z own_y62 jdk_79_method_31_code 1 (some (.object S_22)) ws (Rm 3 1 1 60) #[(.ref ts)] h0 (QF n0 (QrmUm Z ts h0)) := by
  refine own_go hw (plainFor_of_name pn_16) #[vr ts] (fun p e s m below meth c s₁ Pf hx hby hlk hown hnm hret hml hZ hh X0 e0 hPf Jf => ?_)
  have N0 := Fr.nil n0
  have KC0 := Keep.refl h0 []
  have J := Jf d16
  refine gy (fun t k => aN X0 J 0 rfl rfl k) ?_
  refine own_gc (xi := own_y61) X0 J 1 (ww hw 91 rfl) (ww hw 92 rfl) (ww hw 93 rfl) (ww hw 94 rfl) (ww hw 95 rfl) (ww hw 96 rfl) (ww hw 97 rfl) (ww hw 98 rfl) (ww hw 99 rfl) e0 Ets G.2.2.2.2.2.2.2.2.2.2.2.2.2.2.2.2.1 0 (fun T613 X613 e613 => ?_)
  refine own_lm X613 J 2 100 G.2.2.2.2.2.2.2.2.2.2.2.2.2.2.2.2.2.1 e613 (fun T614 X614 e614 => ?_)
  refine gy (fun t k => jQ X614 J 3 rfl false (decide_eq_false (fun q => G.2.2.2.2.2.2.2.2.2.2.2.2.2.2.2.2.2.2.2.2.1 (Value.ref.inj q))) 13 k) ?_
  obtain ⟨T615, h615, X615, e615, E615, A615, D615, -, st615⟩ := newO X614 hx hZ hown (ww hw 100 rfl) (ww hw 102 rfl) (ww hw 103 rfl) e614 (g := (mkF m 13 #[vr ts] [])) rfl (jd J 4 rfl) (by decide) (by decide)
  obtain ⟨b615, g615⟩ : ∃ z, z = h0.size := ⟨_, rfl⟩
  rw [← g615] at A615 D615 st615
  refine Go.by' st615 ?_
  have g_b615 : n0 ≤ b615 := Nat.le_trans (own_le O0) (Nat.le_of_eq g615.symm)
  have sz_b615 : h0.size ≤ b615 := Nat.le_trans KC0.1 (Nat.le_of_eq g615.symm)
  have O615 := O0.ext E615
  have KC615 := KC0.ext E615
  have Fn615_115 : Fld Z h615 b615 S_14 "c" S_17 Value.null := D615 (Or.inr (ww hw 115 rfl)) (ty := (.object S_31)) (by decide)
  show G_ 16 #[vr ts] [(.ref b615)]
  refine gy (fun t k => oP X615 J 5 rfl (aN X615 J 6 rfl rfl k)) ?_
  refine own_ci (rmUS hw G _ ts _ _ O615 A615 Fn615_115 g_b615) X615 J 7 104 105 103 106 e615 1 pd_38 (kF N0 fun _ T616 v616 X616 N616 q616 => ?_)
  obtain ⟨rfl, K616, f616_0, f616_1⟩ := q616
  have O616 := O615.keep K616 (allS g_b615 all0)
  have KC616 := KC615.trans K616 (allS (Or.inr sz_b615) all0)
  show G_ 21 _ [(.ref b615)]
  exact rA X616 hret hlk hPf J 8 ⟨⟨b615, rfl, KC616, f616_0, f616_1, sz_b615⟩, N616⟩
def L30 : List (Nat × Instr × Nat) := [(0, a_0), (1, .getfield 101, 3), (4, .astore_n 1, 1), (5, a_1), (6, .ifnull 18, 3), (24, a_1), (25, .areturn, 1), (9, a_1), (10, .getfield 111, 3), (13, .ifnull 11, 3), (16, a_1), (17, .getfield 111, 3), (20, .astore_n 1, 1), (21, .goto (-12), 3)]
theorem d30 : ∀ q ∈ L30, decode jdk_2729_method_72_code q.1 = .ok q.2 := by decide +kernel
def QrmGf (Z : State) (wP : Addr) (L : (List Addr)) (h0 : Heap) (v : Option Value) : Prop := ∃ (fv : Value), (v = some fv) ∧ (It Z h0 wP fv L)
abbrev own_y63 : MethodName := ⟨S_6, "getFirstEntry", "()Ljava/util/TreeMap$Entry;"⟩
theorem rmGf (hw : HW a0 Z) (G : Gh Z vcs wI wA cA vF wP wD kD wE kE mT mU mL mO) (tm : Addr) (b : Nat) (L : (List Addr)) (mc : Int32) (nk : Value) (h0 : Heap) (n0 : Nat) (O0 : Old Z n0 h0) (Tp : TreeP Z h0 b wP tm L mc nk) :
    MM l Z own_y63 jdk_2729_method_72_code 2 (some (.object S_1)) ws (Rm 0 0 0 0) #[(.ref tm)] h0 (QP h0 (QrmGf Z wP L h0)) := by
  refine own_go hw (plainFor_of_name pn_72) #[vr tm, .unset] (fun p e s m below meth c s₁ Pf hx hby hlk hown hnm hret hml hZ hh X0 e0 hPf Jf => ?_)
  have J := Jf d30
  obtain ⟨hbt, ⟨rfl, M0⟩ | ⟨ea, u1, rfl, be, M0, Ne⟩ | ⟨ea, fa, u1, u2, rfl, be, bf, hef, M0, Ne, Nf⟩ | ⟨ea, fa, u1, u2, rfl, be, bf, hef, M0, Nf, Ne⟩ | ⟨ea, fa, ga, u1, u2, u3, rfl, be, bf, bg, hef, heg, hfg, M0, Nf, Ne, Ng⟩⟩ := Tp
  · refine gy (fun t k => aN X0 J 0 rfl rfl k) ?_
    refine own_gf X0 J 1 214 Via.refl e0 M0.2.2.2.2.1 (fun T617 X617 e617 => ?_)
    refine gy (fun t k => sAN X617 J 2 rfl #[vr tm, .val .null] (aN X617 J 3 rfl rfl (uY X617 J 4 rfl 24 (aN X617 J 5 rfl rfl k)))) ?_
    exact rA X617 hret hlk hPf J 6 ⟨⟨Value.null, rfl, own_it0⟩, rfl, e617⟩
  · refine gy (fun t k => aN X0 J 0 rfl rfl k) ?_
    refine own_gf X0 J 1 214 Via.refl e0 M0.2.2.2.2.1 (fun T618 X618 e618 => ?_)
    refine gy (fun t k => sAN X618 J 2 rfl #[vr tm, vr ea] (aN X618 J 3 rfl rfl (uN X618 J 4 rfl (aN X618 J 7 rfl rfl k)))) ?_
    refine own_gf X618 J 8 438 Via.refl e618 Ne.2.2.2.2.1 (fun T619 X619 e619 => ?_)
    refine gy (fun t k => uY X619 J 9 rfl 24 (aN X619 J 5 rfl rfl k)) ?_
    exact rA X619 hret hlk hPf J 6 ⟨⟨(Value.ref ea), rfl, (own_it1 Ne)⟩, rfl, e619⟩
  · refine gy (fun t k => aN X0 J 0 rfl rfl k) ?_
    refine own_gf X0 J 1 214 Via.refl e0 M0.2.2.2.2.1 (fun T620 X620 e620 => ?_)
    refine gy (fun t k => sAN X620 J 2 rfl #[vr tm, vr ea] (aN X620 J 3 rfl rfl (uN X620 J 4 rfl (aN X620 J 7 rfl rfl k)))) ?_
    refine own_gf X620 J 8 438 Via.refl e620 Ne.2.2.2.2.1 (fun T621 X621 e621 => ?_)
    refine gy (fun t k => uY X621 J 9 rfl 24 (aN X621 J 5 rfl rfl k)) ?_
    exact rA X621 hret hlk hPf J 6 ⟨⟨(Value.ref ea), rfl, (own_it2R Ne Nf)⟩, rfl, e621⟩
  · refine gy (fun t k => aN X0 J 0 rfl rfl k) ?_
    refine own_gf X0 J 1 214 Via.refl e0 M0.2.2.2.2.1 (fun T622 X622 e622 => ?_)
    refine gy (fun t k => sAN X622 J 2 rfl #[vr tm, vr fa] (aN X622 J 3 rfl rfl (uN X622 J 4 rfl (aN X622 J 7 rfl rfl k)))) ?_
    refine own_gf X622 J 8 438 Via.refl e622 Nf.2.2.2.2.1 (fun T623 X623 e623 => ?_)
    refine gy (fun t k => uN X623 J 9 rfl (aN X623 J 10 rfl rfl k)) ?_
    refine own_gf X623 J 11 438 Via.refl e623 Nf.2.2.2.2.1 (fun T624 X624 e624 => ?_)
    refine gy (fun t k => sAN X624 J 12 rfl #[vr tm, vr ea] (jG X624 J 13 rfl 9 (aN X624 J 7 rfl rfl k))) ?_
    refine own_gf X624 J 8 438 Via.refl e624 Ne.2.2.2.2.1 (fun T625 X625 e625 => ?_)
    refine gy (fun t k => uY X625 J 9 rfl 24 (aN X625 J 5 rfl rfl k)) ?_
    exact rA X625 hret hlk hPf J 6 ⟨⟨(Value.ref ea), rfl, (own_it2L Nf Ne)⟩, rfl, e625⟩
  · refine gy (fun t k => aN X0 J 0 rfl rfl k) ?_
    refine own_gf X0 J 1 214 Via.refl e0 M0.2.2.2.2.1 (fun T626 X626 e626 => ?_)
    refine gy (fun t k => sAN X626 J 2 rfl #[vr tm, vr fa] (aN X626 J 3 rfl rfl (uN X626 J 4 rfl (aN X626 J 7 rfl rfl k)))) ?_
    refine own_gf X626 J 8 438 Via.refl e626 Nf.2.2.2.2.1 (fun T627 X627 e627 => ?_)
    refine gy (fun t k => uN X627 J 9 rfl (aN X627 J 10 rfl rfl k)) ?_
    refine own_gf X627 J 11 438 Via.refl e627 Nf.2.2.2.2.1 (fun T628 X628 e628 => ?_)
    refine gy (fun t k => sAN X628 J 12 rfl #[vr tm, vr ea] (jG X628 J 13 rfl 9 (aN X628 J 7 rfl rfl k))) ?_
    refine own_gf X628 J 8 438 Via.refl e628 Ne.2.2.2.2.1 (fun T629 X629 e629 => ?_)
    refine gy (fun t k => uY X629 J 9 rfl 24 (aN X629 J 5 rfl rfl k)) ?_
    exact rA X629 hret hlk hPf J 6 ⟨⟨(Value.ref ea), rfl, (own_it3 heg Nf Ne Ng)⟩, rfl, e629⟩
def L81 : List (Nat × Instr × Nat) := [(0, a_0), (1, .ifnonnull 5, 3), (6, a_0), (7, .getfield 114, 3), (10, .ifnull 25, 3), (35, a_0), (36, .getfield 124, 3), (39, .astore_n 1, 1), (40, a_0), (41, .astore_n 2, 1), (42, a_1), (43, .ifnull 21, 3), (64, a_1), (65, .areturn, 1), (13, a_0), (14, .getfield 114, 3), (17, .astore_n 1, 1), (18, a_1), (19, .getfield 111, 3), (22, .ifnull 11, 3), (33, a_1), (34, .areturn, 1), (46, a_2), (47, a_1), (48, .getfield 114, 3), (51, .if_acmp .ne 13, 3), (54, a_1), (55, .astore_n 2, 1), (56, a_1), (57, .getfield 124, 3), (60, .astore_n 1, 1), (61, .goto (-19), 3)]
theorem d81 : ∀ q ∈ L81, decode jdk_2729_method_74_code q.1 = .ok q.2 := by decide +kernel
def QrmSu (sv : Value) (v : Option Value) : Prop := (v = some sv)
abbrev own_y64 : MethodName := ⟨S_6, "successor", "(Ljava/util/TreeMap$Entry;)Ljava/util/TreeMap$Entry;"⟩
theorem rmSu (hw : HW a0 Z) (G : Gh Z vcs wI wA cA vF wP wD kD wE kE mT mU mL mO) (ea : Addr) (sv : Value) (h0 : Heap) (n0 : Nat) (O0 : Old Z n0 h0) (Su : SU Z h0 wP ea sv) :
    MM l Z own_y64 jdk_2729_method_74_code 3 (some (.object S_1)) ws (Rm 0 0 0 0) #[(.ref ea)] h0 (QP h0 (QrmSu sv)) := by
  refine own_go hw (plainFor_of_name pn_72) #[vr ea, .unset, .unset] (fun p e s m below meth c s₁ Pf hx hby hlk hown hnm hret hml hZ hh X0 e0 hPf Jf => ?_)
  have J := Jf d81
  rcases Su with ⟨u, lv, ic, rfl, Ne⟩ | ⟨ga, u, v, pv, lv, p2, r2, ic, i2, rfl, Ne, Ng⟩ | ⟨ga, u, v, lv, p2, l2, r2, ic, i2, rfl, hr2, hn2, Ne, Ng⟩ | ⟨ga, u, v, lv, l2, ic, i2, rfl, Ne, Ng⟩
  · refine gy (fun t k => aN X0 J 0 rfl rfl (wY X0 J 1 rfl 6 (aN X0 J 2 rfl rfl k))) ?_
    refine own_gf X0 J 3 452 Via.refl e0 Ne.2.2.2.2.2.1 (fun T630 X630 e630 => ?_)
    refine gy (fun t k => uY X630 J 4 rfl 35 (aN X630 J 5 rfl rfl k)) ?_
    refine own_gf X630 J 6 451 Via.refl e630 Ne.2.2.2.1 (fun T631 X631 e631 => ?_)
    refine gy (fun t k => sAN X631 J 7 rfl #[vr ea, .val .null, .unset] (aN X631 J 8 rfl rfl (sAN X631 J 9 rfl #[vr ea, .val .null, vr ea] (aN X631 J 10 rfl rfl (uY X631 J 11 rfl 64 (aN X631 J 12 rfl rfl k)))))) ?_
    exact rA X631 hret hlk hPf J 13 ⟨rfl, rfl, e631⟩
  · refine gy (fun t k => aN X0 J 0 rfl rfl (wY X0 J 1 rfl 6 (aN X0 J 2 rfl rfl k))) ?_
    refine own_gf X0 J 3 452 Via.refl e0 Ne.2.2.2.2.2.1 (fun T632 X632 e632 => ?_)
    refine gy (fun t k => uN X632 J 4 rfl (aN X632 J 14 rfl rfl k)) ?_
    refine own_gf X632 J 15 452 Via.refl e632 Ne.2.2.2.2.2.1 (fun T633 X633 e633 => ?_)
    refine gy (fun t k => sAN X633 J 16 rfl #[vr ea, vr ga, .unset] (aN X633 J 17 rfl rfl k)) ?_
    refine own_gf X633 J 18 438 Via.refl e633 Ng.2.2.2.2.1 (fun T634 X634 e634 => ?_)
    refine gy (fun t k => uY X634 J 19 rfl 33 (aN X634 J 20 rfl rfl k)) ?_
    exact rA X634 hret hlk hPf J 21 ⟨rfl, rfl, e634⟩
  · refine gy (fun t k => aN X0 J 0 rfl rfl (wY X0 J 1 rfl 6 (aN X0 J 2 rfl rfl k))) ?_
    refine own_gf X0 J 3 452 Via.refl e0 Ne.2.2.2.2.2.1 (fun T635 X635 e635 => ?_)
    refine gy (fun t k => uY X635 J 4 rfl 35 (aN X635 J 5 rfl rfl k)) ?_
    refine own_gf X635 J 6 451 Via.refl e635 Ne.2.2.2.1 (fun T636 X636 e636 => ?_)
    refine gy (fun t k => sAN X636 J 7 rfl #[vr ea, vr ga, .unset] (aN X636 J 8 rfl rfl (sAN X636 J 9 rfl #[vr ea, vr ga, vr ea] (aN X636 J 10 rfl rfl (uN X636 J 11 rfl (aN X636 J 22 rfl rfl (aN X636 J 23 rfl rfl k))))))) ?_
    refine own_gf X636 J 24 452 Via.refl e636 Ng.2.2.2.2.2.1 (fun T637 X637 e637 => ?_)
    refine gy (fun t k => jQ X637 J 25 rfl false (decide_eq_false hn2) 64 (aN X637 J 12 rfl rfl k) (h2 := hr2)) ?_
    exact rA X637 hret hlk hPf J 13 ⟨rfl, rfl, e637⟩
  · refine gy (fun t k => aN X0 J 0 rfl rfl (wY X0 J 1 rfl 6 (aN X0 J 2 rfl rfl k))) ?_
    refine own_gf X0 J 3 452 Via.refl e0 Ne.2.2.2.2.2.1 (fun T638 X638 e638 => ?_)
    refine gy (fun t k => uY X638 J 4 rfl 35 (aN X638 J 5 rfl rfl k)) ?_
    refine own_gf X638 J 6 451 Via.refl e638 Ne.2.2.2.1 (fun T639 X639 e639 => ?_)
    refine gy (fun t k => sAN X639 J 7 rfl #[vr ea, vr ga, .unset] (aN X639 J 8 rfl rfl (sAN X639 J 9 rfl #[vr ea, vr ga, vr ea] (aN X639 J 10 rfl rfl (uN X639 J 11 rfl (aN X639 J 22 rfl rfl (aN X639 J 23 rfl rfl k))))))) ?_
    refine own_gf X639 J 24 452 Via.refl e639 Ng.2.2.2.2.2.1 (fun T640 X640 e640 => ?_)
    refine gy (fun t k => jQ X640 J 25 rfl true (decide_eq_true rfl) 54 (aN X640 J 26 rfl rfl (sAN X640 J 27 rfl #[vr ea, vr ga, vr ga] (aN X640 J 28 rfl rfl k)))) ?_
    refine own_gf X640 J 29 451 Via.refl e640 Ng.2.2.2.1 (fun T641 X641 e641 => ?_)
    refine gy (fun t k => sAN X641 J 30 rfl #[vr ea, .val .null, vr ga] (jG X641 J 31 rfl 42 (aN X641 J 10 rfl rfl (uY X641 J 11 rfl 64 (aN X641 J 12 rfl rfl k))))) ?_
    exact rA X641 hret hlk hPf J 13 ⟨rfl, rfl, e641⟩
theorem pn_32 : plainName S_7 = true := by first | (simp [plainName, overriddenIn]; done) | decide +kernel
def L32 : List (Nat × Instr × Nat) := [(0, a_0), (1, a_1), (2, .putfield 1, 3), (5, a_0), (6, .invokespecial 7, 3), (9, a_0), (10, a_1), (11, .getfield 13, 3), (14, .putfield 19, 3), (17, a_0), (18, .aconst_null, 1), (19, .putfield 22, 3), (22, a_0), (23, a_2), (24, .putfield 26, 3), (27, .return_, 1)]
theorem d32 : ∀ q ∈ L32, decode jdk_2750_method_1_code q.1 = .ok q.2 := by decide +kernel
def QrmPe (Z : State) (it : Addr) (tm : Addr) (fv : Value) (mc : Int32) (h0 : Heap) (v : Option Value) (h : Heap) : Prop := (v = none) ∧ (Keep h0 h [it]) ∧ (Exa Z h it S_16) ∧ (Fld Z h it S_7 "this$0" S_19 (.ref tm)) ∧ (Fld Z h it S_7 "expectedModCount" "I" (.int mc)) ∧ (Fld Z h it S_7 "lastReturned" S_5 .null) ∧ (Fld Z h it S_7 "next" S_5 fv)
abbrev own_y65 : MethodName := ⟨S_7, "<init>", "(Ljava/util/TreeMap;Ljava/util/TreeMap$Entry;)V"⟩
theorem rmPe (hw : HW a0 Z) (G : Gh Z vcs wI wA cA vF wP wD kD wE kE mT mU mL mO) (it : Addr) (tm : Addr) (fv : Value) (rt : Value) (sz : Int32) (mc : Int32) (nk : Value) (h0 : Heap) (n0 : Nat) (O0 : Old Z n0 h0) (EX : Exa Z h0 it S_16) (F_this0 : Fld Z h0 it S_7 "this$0" S_19 .null) (F_expectedModCount : Fld Z h0 it S_7 "expectedModCount" "I" (.int 0)) (F_lastReturned : Fld Z h0 it S_7 "lastReturned" S_5 .null) (F_next : Fld Z h0 it S_7 "next" S_5 .null) (g_it : n0 ≤ it) (Mt : Mp Z h0 tm rt sz mc nk) (hU_fv : fv.isRef = true) :
    MM l Z own_y65 jdk_2750_method_1_code 3 none ws (Rm 1 0 0 12) #[(.ref it), (.ref tm), fv] h0 (QF n0 (QrmPe Z it tm fv mc h0)) := by
  refine own_go hw (plainFor_of_name pn_32) #[vr it, vr tm, .val fv] (fun p e s m below meth c s₁ Pf hx hby hlk hown hnm hret hml hZ hh X0 e0 hPf Jf => ?_) (by intro m; rcases ref_cases hU_fv with rfl | ⟨_, rfl⟩ <;> first | (simp [entryFrame, mkF, argsToLocals, Value.category]; done) | rfl)
  have N0 := Fr.nil n0
  have KC0 := Keep.refl h0 [it]
  have J := Jf d32
  refine gy (fun t k => aN X0 J 0 rfl rfl (aN X0 J 1 rfl rfl k)) ?_
  refine own_pf (ty := (.object S_6)) (v' := (.ref tm)) X0 J 2 226 Via.refl e0 F_this0 EX (Or.inr ⟨(ww hw 227 rfl), rfl, hnm⟩) 207 rfl rfl N0 g_it (fun T642 h642 _ X642 e642 W642 N642 => ?_)
  have Fw642 : Fld Z h642 it S_7 "this$0" S_19 (Value.ref tm) := F_this0.same W642
  have O642 := O0.wr W642 g_it
  have KC642 := KC0.wr W642 (il 0)
  refine gy (fun t k => aN X642 J 3 rfl rfl k) ?_
  refine own_oi X642 J 4 228 30 31 e642 0 (fun T644 X644 e644 => ?_)
  refine gy (fun t k => aN X644 J 5 rfl rfl (aN X644 J 6 rfl rfl k)) ?_
  refine own_gr X644 J 7 229 e644 (Mt.other W642 (ne_exa Mt.1 EX (by decide))).2.2.2.1 (fun T645 X645 e645 => ?_)
  refine own_pf (ty := .int) (v' := (.int mc)) X645 J 8 230 Via.refl e645 (F_expectedModCount.other W642 (Or.inr (slot_ne (Or.inl (ww hw 231 rfl)) (Or.inr (ww hw 227 rfl)) (by decide) (t := .int) (t' := (.object S_6)) (by decide) (by decide)))) (EX.wr W642) (Or.inl (ww hw 231 rfl)) 207 rfl rfl N642 g_it (fun T646 h646 _ X646 e646 W646 N646 => ?_)
  have Fw646 : Fld Z h646 it S_7 "expectedModCount" "I" (Value.int mc) := (F_expectedModCount.other W642 (Or.inr (slot_ne (Or.inl (ww hw 231 rfl)) (Or.inr (ww hw 227 rfl)) (by decide) (t := .int) (t' := (.object S_6)) (by decide) (by decide)))).same W646
  have O646 := O642.wr W646 g_it
  have KC646 := KC642.wr W646 (il 0)
  refine gy (fun t k => aN X646 J 9 rfl rfl (cU X646 J 10 rfl k)) ?_
  have c647 := ((EX.wr W642).wr W646)
  have c648 := ((F_lastReturned.other W642 (Or.inr (slot_ne (Or.inl (ww hw 233 rfl)) (Or.inr (ww hw 227 rfl)) (by decide) (t := (.object S_1)) (t' := (.object S_6)) (by decide) (by decide)))).other W646 (Or.inr (slot_ne (Or.inl (ww hw 233 rfl)) (Or.inl (ww hw 231 rfl)) (by decide) (t := (.object S_1)) (t' := .int) (by decide) (by decide))))
  refine own_pf (ty := (.object S_1)) (v' := .null) X646 J 11 232 Via.refl e646 c648 c647 (Or.inl (ww hw 233 rfl)) 207 rfl rfl N646 g_it (fun T649 h649 _ X649 e649 W649 N649 => ?_)
  have Fw649 : Fld Z h649 it S_7 "lastReturned" S_5 Value.null := c648.same W649
  have O649 := O646.wr W649 g_it
  have KC649 := KC646.wr W649 (il 0)
  refine gy (fun t k => aN X649 J 12 rfl rfl (aN X649 J 13 rfl rfl k (hv := hU_fv))) ?_
  have c650 := (((F_next.other W642 (Or.inr (slot_ne (Or.inl (ww hw 235 rfl)) (Or.inr (ww hw 227 rfl)) (by decide) (t := (.object S_1)) (t' := (.object S_6)) (by decide) (by decide)))).other W646 (Or.inr (slot_ne (Or.inl (ww hw 235 rfl)) (Or.inl (ww hw 231 rfl)) (by decide) (t := (.object S_1)) (t' := .int) (by decide) (by decide)))).other W649 (Or.inr (slot_ne (Or.inl (ww hw 235 rfl)) (Or.inl (ww hw 233 rfl)) (by decide) (t := (.object S_1)) (t' := (.object S_1)) (by decide) (by decide))))
  refine own_pf (ty := (.object S_1)) (v' := fv) X649 J 14 234 Via.refl e649 c650 (c647.wr W649) (Or.inl (ww hw 235 rfl)) 207 rfl (own_ff hU_fv) N649 g_it (fun T651 h651 _ X651 e651 W651 N651 => ?_)
  have Fw651 : Fld Z h651 it S_7 "next" S_5 fv := c650.same W651
  have O651 := O649.wr W651 g_it
  have KC651 := KC649.wr W651 (il 0)
  have c652 := ((c647.wr W649).wr W651)
  have c653 := (((Fw642.other W646 (Or.inr (slot_ne (Or.inr (ww hw 227 rfl)) (Or.inl (ww hw 231 rfl)) (by decide) (t := (.object S_6)) (t' := .int) (by decide) (by decide)))).other W649 (Or.inr (slot_ne (Or.inr (ww hw 227 rfl)) (Or.inl (ww hw 233 rfl)) (by decide) (t := (.object S_6)) (t' := (.object S_1)) (by decide) (by decide)))).other W651 (Or.inr (slot_ne (Or.inr (ww hw 227 rfl)) (Or.inl (ww hw 235 rfl)) (by decide) (t := (.object S_6)) (t' := (.object S_1)) (by decide) (by decide))))
  have c654 := ((Fw646.other W649 (Or.inr (slot_ne (Or.inl (ww hw 231 rfl)) (Or.inl (ww hw 233 rfl)) (by decide) (t := .int) (t' := (.object S_1)) (by decide) (by decide)))).other W651 (Or.inr (slot_ne (Or.inl (ww hw 231 rfl)) (Or.inl (ww hw 235 rfl)) (by decide) (t := .int) (t' := (.object S_1)) (by decide) (by decide))))
  exact rV X651 hret hlk hPf J 15 ⟨⟨rfl, (by rw [e651]; exact KC651), (by rw [e651]; exact c652), (by rw [e651]; exact c653), (by rw [e651]; exact c654), (by rw [e651]; exact (Fw649.other W651 (Or.inr (slot_ne (Or.inl (ww hw 233 rfl)) (Or.inl (ww hw 235 rfl)) (by decide) (t := (.object S_1)) (t' := (.object S_1)) (by decide) (by decide))))), (by rw [e651]; exact Fw651)⟩, N651⟩
theorem pd_39 : parseMethodDescriptor "(Ljava/util/TreeMap;Ljava/util/TreeMap$Entry;)V" = some ⟨[(.object S_6), (.object S_1)], none⟩ := by decide +kernel
theorem pn_31 : plainName S_16 = true := by first | (simp [plainName, overriddenIn]; done) | decide +kernel
def L31 : List (Nat × Instr × Nat) := [(0, a_0), (1, a_1), (2, a_2), (3, .invokespecial 1, 3), (6, .return_, 1)]
theorem d31 : ∀ q ∈ L31, decode jdk_2740_method_1_code q.1 = .ok q.2 := by decide +kernel
def QrmKi (Z : State) (it : Addr) (tm : Addr) (fv : Value) (mc : Int32) (h0 : Heap) (v : Option Value) (h : Heap) : Prop := (v = none) ∧ (Keep h0 h [it]) ∧ (Exa Z h it S_16) ∧ (Fld Z h it S_7 "this$0" S_19 (.ref tm)) ∧ (Fld Z h it S_7 "expectedModCount" "I" (.int mc)) ∧ (Fld Z h it S_7 "lastReturned" S_5 .null) ∧ (Fld Z h it S_7 "next" S_5 fv)
abbrev own_y66 : MethodName := ⟨S_16, "<init>", "(Ljava/util/TreeMap;Ljava/util/TreeMap$Entry;)V"⟩
theorem rmKi (hw : HW a0 Z) (G : Gh Z vcs wI wA cA vF wP wD kD wE kE mT mU mL mO) (it : Addr) (tm : Addr) (fv : Value) (rt : Value) (sz : Int32) (mc : Int32) (nk : Value) (h0 : Heap) (n0 : Nat) (O0 : Old Z n0 h0) (EX : Exa Z h0 it S_16) (F_this0 : Fld Z h0 it S_7 "this$0" S_19 .null) (F_expectedModCount : Fld Z h0 it S_7 "expectedModCount" "I" (.int 0)) (F_lastReturned : Fld Z h0 it S_7 "lastReturned" S_5 .null) (F_next : Fld Z h0 it S_7 "next" S_5 .null) (g_it : n0 ≤ it) (Mt : Mp Z h0 tm rt sz mc nk) (hU_fv : fv.isRef = true) :
    MM l Z own_y66 jdk_2740_method_1_code 3 none ws (Rm 2 0 0 26) #[(.ref it), (.ref tm), fv] h0 (QF n0 (QrmKi Z it tm fv mc h0)) := by
  refine own_go hw (plainFor_of_name pn_31) #[vr it, vr tm, .val fv] (fun p e s m below meth c s₁ Pf hx hby hlk hown hnm hret hml hZ hh X0 e0 hPf Jf => ?_) (by intro m; rcases ref_cases hU_fv with rfl | ⟨_, rfl⟩ <;> first | (simp [entryFrame, mkF, argsToLocals, Value.category]; done) | rfl)
  have N0 := Fr.nil n0
  have KC0 := Keep.refl h0 [it]
  have J := Jf d31
  refine gy (fun t k => aN X0 J 0 rfl rfl (aN X0 J 1 rfl rfl (aN X0 J 2 rfl rfl k (hv := hU_fv)))) ?_
  refine own_ci (rmPe hw G _ _ fv _ _ _ _ _ _ O0 EX F_this0 F_expectedModCount F_lastReturned F_next g_it Mt hU_fv) X0 J 3 220 221 224 225 e0 0 pd_39 (kF N0 fun _ T655 v655 X655 N655 q655 => ?_)
  obtain ⟨rfl, K655, f655_0, f655_1, f655_2, f655_3, f655_4⟩ := q655
  have O655 := O0.keep K655 (allS g_it all0)
  have KC655 := KC0.trans K655 (allS (il 0) all0)
  show G_ 6 _ []
  exact rV X655 hret hlk hPf J 4 ⟨⟨rfl, KC655, f655_0, f655_1, f655_2, f655_3, f655_4⟩, N655⟩
theorem pd_40 : parseMethodDescriptor "()Ljava/util/TreeMap$Entry;" = some ⟨[], some (.object S_1)⟩ := by decide +kernel
def L29 : List (Nat × Instr × Nat) := [(0, .new 269, 3), (3, .dup, 1), (4, a_0), (5, a_0), (6, .invokevirtual 54, 3), (9, .invokespecial 271, 3), (12, .areturn, 1)]
theorem d29 : ∀ q ∈ L29, decode jdk_2729_method_65_code q.1 = .ok q.2 := by decide +kernel
def QrmKit (Z : State) (wP : Addr) (tm : Addr) (L : (List Addr)) (mc : Int32) (h0 : Heap) (v : Option Value) (h : Heap) : Prop := ∃ (it : Addr) (fv : Value), (v = some (.ref it)) ∧ (Keep h0 h []) ∧ (Exa Z h it S_16) ∧ (Fld Z h it S_7 "this$0" S_19 (.ref tm)) ∧ (Fld Z h it S_7 "expectedModCount" "I" (.int mc)) ∧ (Fld Z h it S_7 "lastReturned" S_5 .null) ∧ (Fld Z h it S_7 "next" S_5 fv) ∧ (It Z h wP fv L) ∧ (h0.size ≤ it)
abbrev own_y67 : MethodName := ⟨S_6, "keyIterator", "()Ljava/util/Iterator;"⟩
theorem rmKit (hw : HW a0 Z) (G : Gh Z vcs wI wA cA vF wP wD kD wE kE mT mU mL mO) (tm : Addr) (b : Nat) (L : (List Addr)) (mc : Int32) (nk : Value) (h0 : Heap) (n0 : Nat) (O0 : Old Z n0 h0) (Tp : TreeP Z h0 b wP tm L mc nk) :
    MM l Z own_y67 jdk_2729_method_65_code 1 (some (.object S_28)) ws (Rm 3 1 4 41) #[(.ref tm)] h0 (QF n0 (QrmKit Z wP tm L mc h0)) := by
  refine own_go hw (plainFor_of_name pn_72) #[vr tm] (fun p e s m below meth c s₁ Pf hx hby hlk hown hnm hret hml hZ hh X0 e0 hPf Jf => ?_)
  have N0 := Fr.nil n0
  have KC0 := Keep.refl h0 []
  have J := Jf d29
  obtain ⟨rt, Mt, hln⟩ := Tp.mp
  obtain ⟨T656, h656, X656, e656, E656, A656, D656, -, st656⟩ := newO X0 hx hZ hown (ww hw 206 rfl) (ww hw 207 rfl) (ww hw 208 rfl) e0 (g := (mkF m 0 #[vr tm] [])) rfl (jd J 0 rfl) (by decide) (by decide)
  obtain ⟨b656, g656⟩ : ∃ z, z = h0.size := ⟨_, rfl⟩
  rw [← g656] at A656 D656 st656
  refine Go.by' st656 ?_
  have g_b656 : n0 ≤ b656 := Nat.le_trans (own_le O0) (Nat.le_of_eq g656.symm)
  have sz_b656 : h0.size ≤ b656 := Nat.le_trans KC0.1 (Nat.le_of_eq g656.symm)
  have O656 := O0.ext E656
  have KC656 := KC0.ext E656
  have Fn656_227 : Fld Z h656 b656 S_7 "this$0" S_19 Value.null := D656 (Or.inr (ww hw 227 rfl)) (ty := (.object S_6)) (by decide)
  have Fn656_231 : Fld Z h656 b656 S_7 "expectedModCount" "I" (Value.int 0) := D656 (Or.inl (ww hw 231 rfl)) (ty := .int) (by decide)
  have Fn656_233 : Fld Z h656 b656 S_7 "lastReturned" S_5 Value.null := D656 (Or.inl (ww hw 233 rfl)) (ty := (.object S_1)) (by decide)
  have Fn656_235 : Fld Z h656 b656 S_7 "next" S_5 Value.null := D656 (Or.inl (ww hw 235 rfl)) (ty := (.object S_1)) (by decide)
  show G_ 3 #[vr tm] [(.ref b656)]
  refine gy (fun t k => oP X656 J 1 rfl (aN X656 J 2 rfl rfl (aN X656 J 3 rfl rfl k))) ?_
  refine own_cv (rmGf hw G _ _ _ _ _ _ _ O656 (Tp.keep0 (own_k0 E656))) X656 J 4 209 210 212 211 50 213 e656 (Mt.ext E656).1 3 pd_40 (kP fun T657 v657 X657 e657 q657 => ?_)
  obtain ⟨fv_657, rfl, r657_0⟩ := q657
  show G_ 9 _ [fv_657, (.ref tm), (.ref b656), (.ref b656)]
  refine own_ci (rmKi hw G _ _ fv_657 _ _ _ _ _ _ O656 A656 Fn656_227 Fn656_231 Fn656_233 Fn656_235 g_b656 (Mt.ext E656) r657_0.isRef) X657 J 5 216 217 208 219 e657 1 pd_39 (kF N0 fun _ T658 v658 X658 N658 q658 => ?_)
  obtain ⟨rfl, K658, f658_0, f658_1, f658_2, f658_3, f658_4⟩ := q658
  have O658 := O656.keep K658 (allS g_b656 all0)
  have KC658 := KC656.trans K658 (allS (Or.inr sz_b656) all0)
  have c659 := (It.ep (EP.keep K658 (allS (NE.exa A656 (by decide)) all0)) r657_0)
  show G_ 12 _ [(.ref b656)]
  exact rA X658 hret hlk hPf J 6 ⟨⟨b656, fv_657, rfl, KC658, f658_0, f658_1, f658_2, f658_3, f658_4, c659, sz_b656⟩, N658⟩
theorem pn_27 : plainName S_12 = true := by first | (simp [plainName, overriddenIn]; done) | decide +kernel
def L27 : List (Nat × Instr × Nat) := [(0, a_0), (1, .invokespecial 1, 3), (4, a_0), (5, a_1), (6, .putfield 7, 3), (9, .return_, 1)]
theorem d27 : ∀ q ∈ L27, decode jdk_2741_method_1_code q.1 = .ok q.2 := by decide +kernel
def QrmKs (Z : State) (ks : Addr) (tm : Addr) (h0 : Heap) (v : Option Value) (h : Heap) : Prop := (v = none) ∧ (Keep h0 h [ks]) ∧ (Exa Z h ks S_12) ∧ (Fld Z h ks S_12 "m" S_13 (.ref tm))
abbrev own_y68 : MethodName := ⟨S_12, "<init>", "(Ljava/util/NavigableMap;)V"⟩
theorem rmKs (hw : HW a0 Z) (G : Gh Z vcs wI wA cA vF wP wD kD wE kE mT mU mL mO) (ks : Addr) (tm : Addr) (h0 : Heap) (n0 : Nat) (O0 : Old Z n0 h0) (EX : Exa Z h0 ks S_12) (FM : Fld Z h0 ks S_12 "m" S_13 .null) (g_ks : n0 ≤ ks) :
    MM l Z own_y68 jdk_2741_method_1_code 2 none ws (Rm 3 0 0 36) #[(.ref ks), (.ref tm)] h0 (QF n0 (QrmKs Z ks tm h0)) := by
  refine own_go hw (plainFor_of_name pn_27) #[vr ks, vr tm] (fun p e s m below meth c s₁ Pf hx hby hlk hown hnm hret hml hZ hh X0 e0 hPf Jf => ?_)
  have N0 := Fr.nil n0
  have KC0 := Keep.refl h0 [ks]
  have J := Jf d27
  refine gy (fun t k => aN X0 J 0 rfl rfl k) ?_
  refine own_ci (rmAS hw G ks _ _ O0 ) X0 J 1 186 73 76 77 e0 0 pd_35 (kP fun T660 v660 X660 e660 q660 => ?_)
  obtain rfl := q660
  show G_ 4 _ []
  refine gy (fun t k => aN X660 J 2 rfl rfl (aN X660 J 3 rfl rfl k)) ?_
  refine own_pf (ty := (.object S_21)) (v' := (.ref tm)) X660 J 4 189 Via.refl e660 FM EX (Or.inr ⟨(ww hw 190 rfl), rfl, hnm⟩) 180 rfl rfl N0 g_ks (fun T661 h661 _ X661 e661 W661 N661 => ?_)
  have Fw661 : Fld Z h661 ks S_12 "m" S_13 (Value.ref tm) := FM.same W661
  have O661 := O0.wr W661 g_ks
  have KC661 := KC0.wr W661 (il 0)
  exact rV X661 hret hlk hPf J 5 ⟨⟨rfl, (by rw [e661]; exact KC661), (by rw [e661]; exact (EX.wr W661)), (by rw [e661]; exact Fw661)⟩, N661⟩
def L26 : List (Nat × Instr × Nat) := [(0, a_0), (1, .getfield 191, 3), (4, .astore_n 1, 1), (5, a_1), (6, .ifnull 7, 3), (13, a_0), (14, .new 222, 3), (17, .dup, 1), (18, a_0), (19, .invokespecial 224, 3), (22, .dup_x1, 1), (23, .putfield 191, 3), (26, .areturn, 1)]
theorem d26 : ∀ q ∈ L26, decode jdk_2729_method_50_code q.1 = .ok q.2 := by decide +kernel
def QrmNk (Z : State) (wP : Addr) (tm : Addr) (b : Nat) (L : (List Addr)) (mc : Int32) (h0 : Heap) (v : Option Value) (h : Heap) : Prop := ∃ (ks : Addr), (v = some (.ref ks)) ∧ (Keep h0 h [tm]) ∧ (Exa Z h ks S_12) ∧ (Fld Z h ks S_12 "m" S_13 (.ref tm)) ∧ (TreeP Z h b wP tm L mc (.ref ks)) ∧ (h0.size ≤ ks)
abbrev own_y69 : MethodName := ⟨S_6, "navigableKeySet", "()Ljava/util/NavigableSet;"⟩
theorem rmNk (hw : HW a0 Z) (G : Gh Z vcs wI wA cA vF wP wD kD wE kE mT mU mL mO) (tm : Addr) (b : Nat) (L : (List Addr)) (mc : Int32) (h0 : Heap) (n0 : Nat) (O0 : Old Z n0 h0) (Tp : TreeP Z h0 b wP tm L mc .null) (g_tm : n0 ≤ tm) :
    MM l Z own_y69 jdk_2729_method_50_code 2 (some (.object "java/util/NavigableSet")) ws (Rm 4 1 1 51) #[(.ref tm)] h0 (QF n0 (QrmNk Z wP tm b L mc h0)) := by
  refine own_go hw (plainFor_of_name pn_72) #[vr tm, .unset] (fun p e s m below meth c s₁ Pf hx hby hlk hown hnm hret hml hZ hh X0 e0 hPf Jf => ?_)
  have N0 := Fr.nil n0
  have KC0 := Keep.refl h0 [tm]
  have J := Jf d26
  obtain ⟨rt, Mt, hln⟩ := Tp.mp
  refine gy (fun t k => aN X0 J 0 rfl rfl k) ?_
  refine own_gf X0 J 1 177 Via.refl e0 Mt.2.2.2.2.2 (fun T662 X662 e662 => ?_)
  refine gy (fun t k => sAN X662 J 2 rfl #[vr tm, .val .null] (aN X662 J 3 rfl rfl (uY X662 J 4 rfl 13 (aN X662 J 5 rfl rfl k)))) ?_
  obtain ⟨T663, h663, X663, e663, E663, A663, D663, -, st663⟩ := newO X662 hx hZ hown (ww hw 179 rfl) (ww hw 180 rfl) (ww hw 181 rfl) e662 (g := (mkF m 14 #[vr tm, .val .null] [(.ref tm)])) rfl (jd J 6 rfl) (by decide) (by decide)
  obtain ⟨b663, g663⟩ : ∃ z, z = h0.size := ⟨_, rfl⟩
  rw [← g663] at A663 D663 st663
  refine Go.by' st663 ?_
  have g_b663 : n0 ≤ b663 := Nat.le_trans (own_le O0) (Nat.le_of_eq g663.symm)
  have sz_b663 : h0.size ≤ b663 := Nat.le_trans KC0.1 (Nat.le_of_eq g663.symm)
  have O663 := O0.ext E663
  have KC663 := KC0.ext E663
  have Fn663_190 : Fld Z h663 b663 S_12 "m" S_13 Value.null := D663 (Or.inr (ww hw 190 rfl)) (ty := (.object S_21)) (by decide)
  show G_ 17 #[vr tm, .val .null] [(.ref b663), (.ref tm)]
  refine gy (fun t k => oP X663 J 7 rfl (aN X663 J 8 rfl rfl k)) ?_
  refine own_ci (rmKs hw G _ tm _ _ O663 A663 Fn663_190 g_b663) X663 J 9 182 183 181 185 e663 2 pd_36 (kF N0 fun _ T664 v664 X664 N664 q664 => ?_)
  obtain ⟨rfl, K664, f664_0, f664_1⟩ := q664
  have O664 := O663.keep K664 (allS g_b663 all0)
  have KC664 := KC663.trans K664 (allS (Or.inr sz_b663) all0)
  refine Go.by' (fun t k => XS.dupX1 X664.here hx rfl (jd J 10 rfl) rfl rfl rfl k) ?_
  have c665 := ((Tp.keep0 (own_k0 E663)).keepN K664 (allS (NT.exa A663 (by decide) (by decide)) all0))
  have c666 := ((Mt.ext E663).keep K664 (ninS (Nat.ne_of_lt (Nat.lt_of_lt_of_le (TreeP.exa Tp).lt (Nat.le_of_eq g663.symm))) nin0))
  show G_ 23 #[vr tm, .val .null] [(.ref b663), (.ref tm), (.ref b663)]
  refine own_pf (ty := (.object S_12)) (v' := (.ref b663)) X664 J 11 177 Via.refl rfl c666.2.2.2.2.2 c666.1 (Or.inl (ww hw 178 rfl)) 49 rfl rfl N664 g_tm (fun T667 h667 _ X667 e667 W667 N667 => ?_)
  have M667 := c666.s_navigableKeySet (own_lay hw) W667
  have Tq667 := c665.setnk (own_lay hw) W667
  have O667 := O664.wr W667 g_tm
  have KC667 := KC664.wr W667 (il 0)
  exact rA X667 hret hlk hPf J 12 ⟨⟨b663, rfl, (by rw [e667]; exact KC667), (by rw [e667]; exact (f664_0.wr W667)), (by rw [e667]; exact (f664_1.other W667 (Or.inl (Nat.ne_of_gt (Nat.lt_of_lt_of_le (TreeP.exa Tp).lt (Nat.le_of_eq g663.symm)))))), (by rw [e667]; exact Tq667), sz_b663⟩, N667⟩
theorem pd_41 : parseMethodDescriptor "()Ljava/util/Iterator;" = some ⟨[], some (.object S_28)⟩ := by decide +kernel
def L28 : List (Nat × Instr × Nat) := [(0, a_0), (1, .getfield 7, 3), (4, .instanceof 13, 3), (7, .ifCond .eq 14, 3), (10, a_0), (11, .getfield 7, 3), (14, .checkcast 13, 3), (17, .invokevirtual 15, 3), (20, .areturn, 1)]
theorem d28 : ∀ q ∈ L28, decode jdk_2741_method_2_code q.1 = .ok q.2 := by decide +kernel
def QrmKsI (Z : State) (wP : Addr) (tm : Addr) (L : (List Addr)) (mc : Int32) (h0 : Heap) (v : Option Value) (h : Heap) : Prop := ∃ (it : Addr) (fv : Value), (v = some (.ref it)) ∧ (Keep h0 h []) ∧ (Exa Z h it S_16) ∧ (Fld Z h it S_7 "this$0" S_19 (.ref tm)) ∧ (Fld Z h it S_7 "expectedModCount" "I" (.int mc)) ∧ (Fld Z h it S_7 "lastReturned" S_5 .null) ∧ (Fld Z h it S_7 "next" S_5 fv) ∧ (It Z h wP fv L) ∧ (h0.size ≤ it)
abbrev own_y70 : MethodName := ⟨S_12, "iterator", "()Ljava/util/Iterator;"⟩
theorem rmKsI (hw : HW a0 Z) (G : Gh Z vcs wI wA cA vF wP wD kD wE kE mT mU mL mO) (ks : Addr) (tm : Addr) (b : Nat) (L : (List Addr)) (mc : Int32) (nk : Value) (h0 : Heap) (n0 : Nat) (O0 : Old Z n0 h0) (EX : Exa Z h0 ks S_12) (FM : Fld Z h0 ks S_12 "m" S_13 (.ref tm)) (Tp : TreeP Z h0 b wP tm L mc nk) :
    MM l Z own_y70 jdk_2741_method_2_code 1 (some (.object S_28)) ws (Rm 4 1 4 53) #[(.ref ks)] h0 (QF n0 (QrmKsI Z wP tm L mc h0)) := by
  refine own_go hw (plainFor_of_name pn_27) #[vr ks] (fun p e s m below meth c s₁ Pf hx hby hlk hown hnm hret hml hZ hh X0 e0 hPf Jf => ?_)
  have N0 := Fr.nil n0
  have KC0 := Keep.refl h0 []
  have J := Jf d28
  refine gy (fun t k => aN X0 J 0 rfl rfl k) ?_
  refine own_gf X0 J 1 189 Via.refl e0 FM (fun T668 X668 e668 => ?_)
  refine own_io X668 J 2 200 e668 (Ins.self (TreeP.exa Tp)) (fun T669 X669 e669 => ?_)
  refine gy (fun t k => fN X669 J 3 rfl ((if0 _ _).trans (feq (by decide)).1) (aN X669 J 4 rfl rfl k)) ?_
  refine own_gf X669 J 5 189 Via.refl e669 FM (fun T670 X670 e670 => ?_)
  refine own_cc X670 J 6 200 e670 (Ins.self (TreeP.exa Tp)) (fun T671 X671 e671 => ?_)
  refine own_cv (rmKit hw G _ _ _ _ _ _ _ O0 Tp) X671 J 7 201 202 204 203 50 205 e671 (TreeP.exa Tp) 0 pd_41 (kF N0 fun _ T672 v672 X672 N672 q672 => ?_)
  obtain ⟨it_672, fv_672, rfl, K672, f672_0, f672_1, f672_2, f672_3, f672_4, f672_5, f672_6⟩ := q672
  have g_it_672 : n0 ≤ it_672 := Nat.le_trans (own_le O0) f672_6
  have sz_it_672 : h0.size ≤ it_672 := Nat.le_trans KC0.1 f672_6
  have O672 := O0.keep K672 all0
  have KC672 := KC0.trans K672 all0
  show G_ 20 _ [(.ref it_672)]
  exact rA X672 hret hlk hPf J 8 ⟨⟨it_672, fv_672, rfl, KC672, f672_0, f672_1, f672_2, f672_3, f672_4, f672_5, sz_it_672⟩, N672⟩
theorem pd_42 : parseMethodDescriptor "()Ljava/util/NavigableSet;" = some ⟨[], some (.object "java/util/NavigableSet")⟩ := by decide +kernel
abbrev own_y71 : MethodName := ⟨S_21, "navigableKeySet", "()Ljava/util/NavigableSet;"⟩
abbrev own_y72 : MethodName := ⟨"java/util/NavigableSet", "iterator", "()Ljava/util/Iterator;"⟩
def L25 : List (Nat × Instr × Nat) := [(0, a_0), (1, .getfield 7, 3), (4, .invokeinterface 34 1, 5), (9, .invokeinterface 40 1, 5), (14, .areturn, 1)]
theorem d25 : ∀ q ∈ L25, decode jdk_2756_method_6_code q.1 = .ok q.2 := by decide +kernel
def QrmTi (Z : State) (wP : Addr) (tm : Addr) (b : Nat) (L : (List Addr)) (mc : Int32) (h0 : Heap) (v : Option Value) (h : Heap) : Prop := ∃ (it : Addr) (fv : Value) (ks : Addr), (v = some (.ref it)) ∧ (Keep h0 h [tm]) ∧ (Exa Z h it S_16) ∧ (Fld Z h it S_7 "this$0" S_19 (.ref tm)) ∧ (Fld Z h it S_7 "expectedModCount" "I" (.int mc)) ∧ (Fld Z h it S_7 "lastReturned" S_5 .null) ∧ (Fld Z h it S_7 "next" S_5 fv) ∧ (It Z h wP fv L) ∧ (h0.size ≤ it) ∧ (TreeP Z h b wP tm L mc (.ref ks))
abbrev own_y73 : MethodName := ⟨S_8, "iterator", "()Ljava/util/Iterator;"⟩
theorem rmTi (hw : HW a0 Z) (G : Gh Z vcs wI wA cA vF wP wD kD wE kE mT mU mL mO) (ts : Addr) (tm : Addr) (b : Nat) (L : (List Addr)) (mc : Int32) (h0 : Heap) (n0 : Nat) (O0 : Old Z n0 h0) (Ets : Exa Z h0 ts S_8) (Fts : Fld Z h0 ts S_8 "m" S_13 (.ref tm)) (Tp : TreeP Z h0 b wP tm L mc .null) (g_tm : n0 ≤ tm) :
    MM l Z own_y73 jdk_2756_method_6_code 1 (some (.object S_28)) ws (Rm 5 2 5 65) #[(.ref ts)] h0 (QF n0 (QrmTi Z wP tm b L mc h0)) := by
  refine own_go hw (plainFor_of_name pn_57) #[vr ts] (fun p e s m below meth c s₁ Pf hx hby hlk hown hnm hret hml hZ hh X0 e0 hPf Jf => ?_)
  have N0 := Fr.nil n0
  have KC0 := Keep.refl h0 [tm]
  have J := Jf d25
  refine gy (fun t k => aN X0 J 0 rfl rfl k) ?_
  refine own_gf X0 J 1 85 Via.refl e0 Fts (fun T673 X673 e673 => ?_)
  refine own_cf (y := own_y71) (rmNk hw G _ _ _ _ _ _ O0 Tp g_tm) X673 J 2 169 170 171 172 173 174 175 160 50 176 e673 (TreeP.exa Tp) 0 pd_42 (kF N0 fun _ T674 v674 X674 N674 q674 => ?_)
  obtain ⟨ks_674, rfl, K674, f674_0, f674_1, f674_2, f674_3⟩ := q674
  have g_ks_674 : n0 ≤ ks_674 := Nat.le_trans (own_le O0) f674_3
  have sz_ks_674 : h0.size ≤ ks_674 := Nat.le_trans KC0.1 f674_3
  have O674 := O0.keep K674 (allS g_tm all0)
  have KC674 := KC0.trans K674 (allS (il 0) all0)
  show G_ 9 _ [(.ref ks_674)]
  refine own_cf (y := own_y72) (rmKsI hw G _ _ _ _ _ _ _ _ O674 f674_0 f674_1 f674_2) X674 J 3 191 192 193 194 195 196 197 198 181 199 rfl f674_0 0 pd_41 (kF N674 fun _ T675 v675 X675 N675 q675 => ?_)
  obtain ⟨it_675, fv_675, rfl, K675, f675_0, f675_1, f675_2, f675_3, f675_4, f675_5, f675_6⟩ := q675
  have g_it_675 : n0 ≤ it_675 := Nat.le_trans (own_le O674) f675_6
  have sz_it_675 : h0.size ≤ it_675 := Nat.le_trans KC674.1 f675_6
  have O675 := O674.keep K675 all0
  have KC675 := KC674.trans K675 all0
  show G_ 14 _ [(.ref it_675)]
  exact rA X675 hret hlk hPf J 4 ⟨⟨it_675, fv_675, ks_674, rfl, KC675, f675_0, f675_1, f675_2, f675_3, f675_4, f675_5, sz_it_675, (f674_2.keep0 K675)⟩, N675⟩
def L24 : List (Nat × Instr × Nat) := [(0, a_0), (1, .getfield 7, 3), (4, .ireturn, 1)]
theorem d24 : ∀ q ∈ L24, decode jdk_2729_method_5_code q.1 = .ok q.2 := by decide +kernel
def QrmTms (sz : Int32) (v : Option Value) : Prop := (v = some (.int sz))
abbrev own_y74 : MethodName := ⟨S_6, "size", "()I"⟩
theorem rmTms (hw : HW a0 Z) (G : Gh Z vcs wI wA cA vF wP wD kD wE kE mT mU mL mO) (tm : Addr) (rt : Value) (sz : Int32) (mc : Int32) (nk : Value) (h0 : Heap) (n0 : Nat) (O0 : Old Z n0 h0) (Mt : Mp Z h0 tm rt sz mc nk) :
    MM l Z own_y74 jdk_2729_method_5_code 1 (some .int) ws (Rm 0 0 0 0) #[(.ref tm)] h0 (QP h0 (QrmTms sz)) := by
  refine own_go hw (plainFor_of_name pn_72) #[vr tm] (fun p e s m below meth c s₁ Pf hx hby hlk hown hnm hret hml hZ hh X0 e0 hPf Jf => ?_)
  have J := Jf d24
  refine gy (fun t k => aN X0 J 0 rfl rfl k) ?_
  refine own_gf X0 J 1 62 Via.refl e0 Mt.2.2.1 (fun T676 X676 e676 => ?_)
  exact rI X676 hret hlk hPf J 2 ⟨rfl, rfl, e676⟩
abbrev own_y75 : MethodName := ⟨S_21, "size", "()I"⟩
def L23 : List (Nat × Instr × Nat) := [(0, a_0), (1, .getfield 7, 3), (4, .invokeinterface 53 1, 5), (9, .ireturn, 1)]
theorem d23 : ∀ q ∈ L23, decode jdk_2756_method_9_code q.1 = .ok q.2 := by decide +kernel
def QrmTss (sz : Int32) (v : Option Value) : Prop := (v = some (.int sz))
abbrev own_y76 : MethodName := ⟨S_8, "size", "()I"⟩
theorem rmTss (hw : HW a0 Z) (G : Gh Z vcs wI wA cA vF wP wD kD wE kE mT mU mL mO) (ts : Addr) (tm : Addr) (rt : Value) (sz : Int32) (mc : Int32) (nk : Value) (h0 : Heap) (n0 : Nat) (O0 : Old Z n0 h0) (Ets : Exa Z h0 ts S_8) (Fts : Fld Z h0 ts S_8 "m" S_13 (.ref tm)) (Mt : Mp Z h0 tm rt sz mc nk) :
    MM l Z own_y76 jdk_2756_method_9_code 1 (some .int) ws (Rm 1 0 0 12) #[(.ref ts)] h0 (QP h0 (QrmTss sz)) := by
  refine own_go hw (plainFor_of_name pn_57) #[vr ts] (fun p e s m below meth c s₁ Pf hx hby hlk hown hnm hret hml hZ hh X0 e0 hPf Jf => ?_)
  have J := Jf d23
  refine gy (fun t k => aN X0 J 0 rfl rfl k) ?_
  refine own_gf X0 J 1 85 Via.refl e0 Fts (fun T677 X677 e677 => ?_)
  refine own_cu (y := own_y75) (J' := "java/util/Map") (rmTms hw G _ _ _ _ _ _ _ O0 Mt) X677 J 2 153 154 155 156 157 158 159 160 50 161 e677 Mt.1 0 pd_11 (kP fun T678 v678 X678 e678 q678 => ?_)
  obtain rfl := q678
  show G_ 9 _ [(.int sz)]
  exact rI X678 hret hlk hPf J 3 ⟨rfl, rfl, e678⟩
def L33 : List (Nat × Instr × Nat) := [(0, a_0), (1, .getfield 26, 3), (4, .ifnull 7, 3), (11, .iconst 0, 1), (12, .ireturn, 1)]
theorem d33 : ∀ q ∈ L33, decode jdk_2750_method_2_code q.1 = .ok q.2 := by decide +kernel
def QrmHn0 (v : Option Value) : Prop := (v = some (.int 0))
abbrev own_y77 : MethodName := ⟨S_7, "hasNext", "()Z"⟩
theorem rmHn0 (hw : HW a0 Z) (G : Gh Z vcs wI wA cA vF wP wD kD wE kE mT mU mL mO) (it : Addr) (h0 : Heap) (n0 : Nat) (O0 : Old Z n0 h0) (FN : Fld Z h0 it S_7 "next" S_5 .null) :
    MM l Z own_y77 jdk_2750_method_2_code 1 (some .boolean) ws (Rm 0 0 0 0) #[(.ref it)] h0 (QP h0 QrmHn0) := by
  refine own_go hw (plainFor_of_name pn_32) #[vr it] (fun p e s m below meth c s₁ Pf hx hby hlk hown hnm hret hml hZ hh X0 e0 hPf Jf => ?_)
  have J := Jf d33
  refine gy (fun t k => aN X0 J 0 rfl rfl k) ?_
  refine own_gf X0 J 1 234 Via.refl e0 FN (fun T679 X679 e679 => ?_)
  refine gy (fun t k => uY X679 J 2 rfl 11 (cI X679 J 3 rfl 0 k)) ?_
  exact rI X679 hret hlk hPf J 4 ⟨rfl, rfl, e679⟩
def L33' : List (Nat × Instr × Nat) := [(7, .iconst 1, 1), (8, .goto 4, 3)]
theorem d33' : ∀ q ∈ L33', decode jdk_2750_method_2_code q.1 = .ok q.2 := by decide +kernel
def QrmHn1 (v : Option Value) : Prop := (v = some (.int 1))
theorem rmHn1 (hw : HW a0 Z) (G : Gh Z vcs wI wA cA vF wP wD kD wE kE mT mU mL mO) (it : Addr) (ea : Addr) (h0 : Heap) (n0 : Nat) (O0 : Old Z n0 h0) (FN : Fld Z h0 it S_7 "next" S_5 (.ref ea)) :
    MM l Z own_y77 jdk_2750_method_2_code 1 (some .boolean) ws (Rm 0 0 0 0) #[(.ref it)] h0 (QP h0 QrmHn1) := by
  refine own_go hw (plainFor_of_name pn_32) #[vr it] (fun p e s m below meth c s₁ Pf hx hby hlk hown hnm hret hml hZ hh X0 e0 hPf Jf => ?_)
  have J := Jf d33
  have J' := Jf d33'
  refine gy (fun t k => aN X0 J 0 rfl rfl k) ?_
  refine own_gf X0 J 1 234 Via.refl e0 FN (fun T680 X680 e680 => ?_)
  refine gy (fun t k => uN X680 J 2 rfl (cI X680 J' 0 rfl 1 (jG X680 J' 1 rfl 12 k))) ?_
  exact rI X680 hret hlk hPf J 4 ⟨rfl, rfl, e680⟩
def L80 : List (Nat × Instr × Nat) := [(0, a_0), (1, .getfield 26, 3), (4, .astore_n 1, 1), (5, a_1), (6, .ifnonnull 11, 3), (17, a_0), (18, .getfield 1, 3), (21, .getfield 13, 3), (24, a_0), (25, .getfield 19, 3), (28, .if_icmp .eq 11, 3), (39, a_0), (40, a_1), (41, .invokestatic 35, 3), (44, .putfield 26, 3), (47, a_0), (48, a_1), (49, .putfield 22, 3), (52, a_1), (53, .areturn, 1)]
theorem d80 : ∀ q ∈ L80, decode jdk_2750_method_3_code q.1 = .ok q.2 := by decide +kernel
def QrmNe (Z : State) (it : Addr) (ea : Addr) (tm : Addr) (sv : Value) (mc : Int32) (h0 : Heap) (v : Option Value) (h : Heap) : Prop := (v = some (.ref ea)) ∧ (Keep h0 h [it]) ∧ (Exa Z h it S_16) ∧ (Fld Z h it S_7 "this$0" S_19 (.ref tm)) ∧ (Fld Z h it S_7 "expectedModCount" "I" (.int mc)) ∧ (Fld Z h it S_7 "lastReturned" S_5 (.ref ea)) ∧ (Fld Z h it S_7 "next" S_5 sv)
abbrev own_y78 : MethodName := ⟨S_7, "nextEntry", "()Ljava/util/TreeMap$Entry;"⟩
theorem rmNe (hw : HW a0 Z) (G : Gh Z vcs wI wA cA vF wP wD kD wE kE mT mU mL mO) (it : Addr) (ea : Addr) (tm : Addr) (lrv : Value) (sv : Value) (rt : Value) (sz : Int32) (mc : Int32) (nk : Value) (h0 : Heap) (n0 : Nat) (O0 : Old Z n0 h0) (EX : Exa Z h0 it S_16) (Fx : Fld Z h0 it S_7 "next" S_5 (.ref ea)) (Ft : Fld Z h0 it S_7 "this$0" S_19 (.ref tm)) (Fe : Fld Z h0 it S_7 "expectedModCount" "I" (.int mc)) (Fl : Fld Z h0 it S_7 "lastReturned" S_5 lrv) (Mt : Mp Z h0 tm rt sz mc nk) (Su : SU Z h0 wP ea sv) (g_it : n0 ≤ it) :
    MM l Z own_y78 jdk_2750_method_3_code 2 (some (.object S_1)) ws (Rm 1 0 0 15) #[(.ref it)] h0 (QF n0 (QrmNe Z it ea tm sv mc h0)) := by
  refine own_go hw (plainFor_of_name pn_32) #[vr it, .unset] (fun p e s m below meth c s₁ Pf hx hby hlk hown hnm hret hml hZ hh X0 e0 hPf Jf => ?_)
  have N0 := Fr.nil n0
  have KC0 := Keep.refl h0 [it]
  have J := Jf d80
  refine gy (fun t k => aN X0 J 0 rfl rfl k) ?_
  refine own_gf X0 J 1 234 Via.refl e0 Fx (fun T681 X681 e681 => ?_)
  refine gy (fun t k => sAN X681 J 2 rfl #[vr it, vr ea] (aN X681 J 3 rfl rfl (wY X681 J 4 rfl 17 (aN X681 J 5 rfl rfl k)))) ?_
  refine own_gf X681 J 6 226 Via.refl e681 Ft (fun T682 X682 e682 => ?_)
  refine own_gr X682 J 7 229 e682 Mt.2.2.2.1 (fun T683 X683 e683 => ?_)
  refine gy (fun t k => aN X683 J 8 rfl rfl k) ?_
  refine own_gf X683 J 9 230 Via.refl e683 Fe (fun T684 X684 e684 => ?_)
  refine gy (fun t k => cY X684 J 10 rfl (teq rfl).1 39 (aN X684 J 11 rfl rfl (aN X684 J 12 rfl rfl k))) ?_
  refine own_cs (rmSu hw G _ _ _ _ O0 Su) X684 J 13 493 494 50 495 e684 1 pd_23 (kP fun T685 v685 X685 e685 q685 => ?_)
  obtain rfl := q685
  show G_ 44 _ [sv, (.ref it)]
  refine own_pf (ty := (.object S_1)) (v' := sv) X685 J 14 234 Via.refl e685 Fx EX (Or.inl (ww hw 235 rfl)) 207 rfl (own_ff Su.isRef) N0 g_it (fun T686 h686 _ X686 e686 W686 N686 => ?_)
  have Fw686 : Fld Z h686 it S_7 "next" S_5 sv := Fx.same W686
  have O686 := O0.wr W686 g_it
  have KC686 := KC0.wr W686 (il 0)
  refine gy (fun t k => aN X686 J 15 rfl rfl (aN X686 J 16 rfl rfl k)) ?_
  refine own_pf (ty := (.object S_1)) (v' := (.ref ea)) X686 J 17 232 Via.refl e686 (Fl.other W686 (Or.inr (slot_ne (Or.inl (ww hw 233 rfl)) (Or.inl (ww hw 235 rfl)) (by decide) (t := (.object S_1)) (t' := (.object S_1)) (by decide) (by decide)))) (EX.wr W686) (Or.inl (ww hw 233 rfl)) 207 rfl rfl N686 g_it (fun T687 h687 _ X687 e687 W687 N687 => ?_)
  have Fw687 : Fld Z h687 it S_7 "lastReturned" S_5 (Value.ref ea) := (Fl.other W686 (Or.inr (slot_ne (Or.inl (ww hw 233 rfl)) (Or.inl (ww hw 235 rfl)) (by decide) (t := (.object S_1)) (t' := (.object S_1)) (by decide) (by decide)))).same W687
  have O687 := O686.wr W687 g_it
  have KC687 := KC686.wr W687 (il 0)
  refine gy (fun t k => aN X687 J 18 rfl rfl k) ?_
  have c688 := ((EX.wr W686).wr W687)
  have c689 := ((Ft.other W686 (Or.inr (slot_ne (Or.inr (ww hw 227 rfl)) (Or.inl (ww hw 235 rfl)) (by decide) (t := (.object S_6)) (t' := (.object S_1)) (by decide) (by decide)))).other W687 (Or.inr (slot_ne (Or.inr (ww hw 227 rfl)) (Or.inl (ww hw 233 rfl)) (by decide) (t := (.object S_6)) (t' := (.object S_1)) (by decide) (by decide))))
  have c690 := ((Fe.other W686 (Or.inr (slot_ne (Or.inl (ww hw 231 rfl)) (Or.inl (ww hw 235 rfl)) (by decide) (t := .int) (t' := (.object S_1)) (by decide) (by decide)))).other W687 (Or.inr (slot_ne (Or.inl (ww hw 231 rfl)) (Or.inl (ww hw 233 rfl)) (by decide) (t := .int) (t' := (.object S_1)) (by decide) (by decide))))
  exact rA X687 hret hlk hPf J 19 ⟨⟨rfl, (by rw [e687]; exact KC687), (by rw [e687]; exact c688), (by rw [e687]; exact c689), (by rw [e687]; exact c690), (by rw [e687]; exact Fw687), (by rw [e687]; exact (Fw686.other W687 (Or.inr (slot_ne (Or.inl (ww hw 235 rfl)) (Or.inl (ww hw 233 rfl)) (by decide) (t := (.object S_1)) (t' := (.object S_1)) (by decide) (by decide)))))⟩, N687⟩
abbrev own_y79 : MethodName := ⟨S_16, "nextEntry", "()Ljava/util/TreeMap$Entry;"⟩
def L79 : List (Nat × Instr × Nat) := [(0, a_0), (1, .invokevirtual 7, 3), (4, .getfield 13, 3), (7, .areturn, 1)]
theorem d79 : ∀ q ∈ L79, decode jdk_2740_method_2_code q.1 = .ok q.2 := by decide +kernel
def QrmNx (Z : State) (it : Addr) (ea : Addr) (tm : Addr) (sv : Value) (mc : Int32) (u : Addr) (h0 : Heap) (v : Option Value) (h : Heap) : Prop := (v = some (.ref u)) ∧ (Keep h0 h [it]) ∧ (Exa Z h it S_16) ∧ (Fld Z h it S_7 "this$0" S_19 (.ref tm)) ∧ (Fld Z h it S_7 "expectedModCount" "I" (.int mc)) ∧ (Fld Z h it S_7 "lastReturned" S_5 (.ref ea)) ∧ (Fld Z h it S_7 "next" S_5 sv)
abbrev own_y80 : MethodName := ⟨S_16, "next", "()Ljava/lang/Object;"⟩
theorem rmNx (hw : HW a0 Z) (G : Gh Z vcs wI wA cA vF wP wD kD wE kE mT mU mL mO) (it : Addr) (ea : Addr) (tm : Addr) (lrv : Value) (sv : Value) (rt : Value) (sz : Int32) (mc : Int32) (nk : Value) (u : Addr) (pv : Value) (lv : Value) (rv : Value) (ic : Int32) (h0 : Heap) (n0 : Nat) (O0 : Old Z n0 h0) (EX : Exa Z h0 it S_16) (Fx : Fld Z h0 it S_7 "next" S_5 (.ref ea)) (Ft : Fld Z h0 it S_7 "this$0" S_19 (.ref tm)) (Fe : Fld Z h0 it S_7 "expectedModCount" "I" (.int mc)) (Fl : Fld Z h0 it S_7 "lastReturned" S_5 lrv) (Mt : Mp Z h0 tm rt sz mc nk) (Su : SU Z h0 wP ea sv) (g_it : n0 ≤ it) (Ne : Ent Z h0 wP ea u pv lv rv ic) :
    MM l Z own_y80 jdk_2740_method_2_code 1 (some (.object S_2)) ws (Rm 2 0 0 28) #[(.ref it)] h0 (QF n0 (QrmNx Z it ea tm sv mc u h0)) := by
  refine own_go hw (plainFor_of_name pn_31) #[vr it] (fun p e s m below meth c s₁ Pf hx hby hlk hown hnm hret hml hZ hh X0 e0 hPf Jf => ?_)
  have N0 := Fr.nil n0
  have KC0 := Keep.refl h0 [it]
  have J := Jf d79
  refine gy (fun t k => aN X0 J 0 rfl rfl k) ?_
  refine own_cw (y := own_y79) (owner := S_7) (rmNe hw G _ _ _ _ _ _ _ _ _ _ _ O0 EX Fx Ft Fe Fl Mt Su g_it) X0 J 1 487 488 489 491 490 224 492 e0 EX 0 pd_40 (kF N0 fun _ T691 v691 X691 N691 q691 => ?_)
  obtain ⟨rfl, K691, f691_0, f691_1, f691_2, f691_3, f691_4⟩ := q691
  have O691 := O0.keep K691 (allS g_it all0)
  have KC691 := KC0.trans K691 (allS (il 0) all0)
  show G_ 4 _ [(.ref ea)]
  refine own_gf X691 J 2 496 Via.refl rfl (Ne.keep K691 (ninS (ne_exa Ne.1 EX (by decide)) nin0)).2.1 (fun T692 X692 e692 => ?_)
  exact rA X692 hret hlk hPf J 3 ⟨⟨rfl, (by rw [e692]; exact KC691), (by rw [e692]; exact f691_0), (by rw [e692]; exact f691_1), (by rw [e692]; exact f691_2), (by rw [e692]; exact f691_3), (by rw [e692]; exact f691_4)⟩, N691⟩
abbrev own_y81 : MethodName := ⟨S_30, "size", "()I"⟩
abbrev own_y82 : MethodName := ⟨S_30, "iterator", "()Ljava/util/Iterator;"⟩
abbrev own_y83 : MethodName := ⟨S_28, "hasNext", "()Z"⟩
theorem pd_43 : parseMethodDescriptor "()Ljava/lang/Object;" = some ⟨[], some (.object S_2)⟩ := by decide +kernel
abbrev own_y84 : MethodName := ⟨S_28, "next", "()Ljava/lang/Object;"⟩
def L22 : List (Nat × Instr × Nat) := [(0, a_0), (1, .invokevirtual 7, 3), (4, .anewarray 2, 3), (7, .astore_n 1, 1), (8, a_0), (9, .invokevirtual 13, 3), (12, .astore_n 2, 1), (13, .iconst 0, 1), (14, .istore_n 3, 1), (15, i_3), (16, a_1), (17, .arraylength, 1), (18, .if_icmp .ge 33, 3), (51, a_2), (52, .invokeinterface 17 1, 5), (57, .ifCond .eq 11, 3), (68, a_1), (69, .areturn, 1), (21, a_2), (22, .invokeinterface 17 1, 5), (27, .ifCond .ne 9, 3), (36, a_1), (37, i_3), (38, a_2), (39, .invokeinterface 23 1, 5), (44, .aastore, 1), (45, .iinc 3 1, 3), (48, .goto (-33), 3)]
theorem d22 : ∀ q ∈ L22, decode jdk_22_method_6_code q.1 = .ok q.2 := by decide +kernel
def QrmTa (Z : State) (tm : Addr) (L : (List Addr)) (h0 : Heap) (v : Option Value) (h : Heap) : Prop := ∃ (r : Addr) (kr : ClassId) (zr : Int32) (vsr : (List Value)), (v = some (.ref r)) ∧ (Keep h0 h [tm]) ∧ (Arv Z h r kr (.object S_2) zr vsr Value.null) ∧ (h0.size ≤ r) ∧ (zr = Int32.ofNat L.length) ∧ (vsr = L.map Value.ref)
abbrev own_y85 : MethodName := ⟨S_30, "toArray", "()[Ljava/lang/Object;"⟩
theorem rmTa (hw : HW a0 Z) (G : Gh Z vcs wI wA cA vF wP wD kD wE kE mT mU mL mO) (ts : Addr) (tm : Addr) (b : Nat) (L : (List Addr)) (mc : Int32) (Ks : (List Int)) (h0 : Heap) (n0 : Nat) (O0 : Old Z n0 h0) (Ets : Exa Z h0 ts S_8) (Fts : Fld Z h0 ts S_8 "m" S_13 (.ref tm)) (Tp : TreeP Z h0 b wP tm L mc .null) (SKL : SKs Z h0 L Ks) (g_tm : n0 ≤ tm) :
    MM l Z own_y85 jdk_22_method_6_code 4 (some (.array (.object S_2))) ws (Rm 6 3 8 77) #[(.ref ts)] h0 (QF n0 (QrmTa Z tm L h0)) := by
  refine own_go hw (plainFor_of_name pn_15) #[vr ts, .unset, .unset, .unset] (fun p e s m below meth c s₁ Pf hx hby hlk hown hnm hret hml hZ hh X0 e0 hPf Jf => ?_)
  have N0 := Fr.nil n0
  have KC0 := Keep.refl h0 [tm]
  have J := Jf d22
  obtain ⟨rt, Mt, hln⟩ := Tp.mp
  rcases own_l3 hln with rfl | ⟨u1, rfl⟩ | ⟨u1, u2, rfl⟩ | ⟨u1, u2, u3, rfl⟩
  · obtain rfl := SKs.el SKL
    replace Mt : Mp Z h0 tm rt (0 : Int32) mc .null := Mt
    refine gy (fun t k => aN X0 J 0 rfl rfl k) ?_
    refine own_cz (y := own_y81) (rmTss hw G _ _ _ _ _ _ _ _ O0 Ets Fts Mt) X0 J 1 (own_nfT (args := #[]) (mvT hZ (ww hw 142 rfl)) rfl) 148 149 150 151 44 152 e0 Ets 0 pd_11 (kP fun T693 v693 X693 e693 q693 => ?_)
    obtain rfl := q693
    obtain ⟨T694, h694, k694, X694, e694, E694, A694, Ov694, st694⟩ := newR X693 hx hZ hown (ww hw 162 rfl) (ww hw 163 rfl) e693 (g := (mkF m 4 #[vr ts, .unset, .unset, .unset] [(.int 0)])) rfl (jd J 2 rfl) rfl (by decide) (cap := 0) (by decide) (by decide) (by decide) (by decide)
    obtain ⟨b694, g694⟩ : ∃ z, z = h0.size := ⟨_, rfl⟩
    rw [← g694] at A694 st694
    refine Go.by' st694 ?_
    have g_b694 : n0 ≤ b694 := Nat.le_trans (own_le O0) (Nat.le_of_eq g694.symm)
    have sz_b694 : h0.size ≤ b694 := Nat.le_trans KC0.1 (Nat.le_of_eq g694.symm)
    have O694 := O0.ext E694
    have KC694 := KC0.ext E694
    have V694 : Arv Z h694 b694 k694 (.object S_2) (0 : Int32) [] Value.null := (Arv.new A694 (by decide)).pad (pad_rep [] Value.null 0)
    show G_ 7 #[vr ts, .unset, .unset, .unset] [(.ref b694)]
    refine gy (fun t k => sAN X694 J 3 rfl #[vr ts, vr b694, .unset, .unset] (aN X694 J 4 rfl rfl k)) ?_
    refine own_cz (y := own_y82) (rmTi hw G _ _ _ _ _ _ _ O694 (Ets.ext E694) (Fts.ext E694) (Tp.keep0 (own_k0 E694)) g_tm) X694 J 5 (own_nfT (args := #[]) (mvT hZ (ww hw 142 rfl)) rfl) 164 165 166 167 44 168 e694 (Ets.ext E694) 0 pd_41 (kF N0 fun _ T695 v695 X695 N695 q695 => ?_)
    obtain ⟨it_695, fv_695, ks_695, rfl, K695, f695_0, f695_1, f695_2, f695_3, f695_4, f695_5, f695_6, f695_7⟩ := q695
    have g_it_695 : n0 ≤ it_695 := Nat.le_trans (own_le O694) f695_6
    have sz_it_695 : h0.size ≤ it_695 := Nat.le_trans KC694.1 f695_6
    have O695 := O694.keep K695 (allS g_tm all0)
    have KC695 := KC694.trans K695 (allS (il 0) all0)
    obtain rfl : fv_695 = Value.null := f695_5
    obtain ⟨rt2, Mt2, -⟩ := f695_7.mp
    show G_ 12 _ [(.ref it_695)]
    refine gy (fun t k => sAN X695 J 6 rfl #[vr ts, vr b694, vr it_695, .unset] (cI X695 J 7 rfl 0 (sIN X695 J 8 rfl #[vr ts, vr b694, vr it_695, vi 0] (iN X695 J 9 rfl rfl (aN X695 J 10 rfl rfl k))))) ?_
    refine Go.by' (fun t k => own_alen X695 hx hZ rfl (V694.keep K695 (ninS (Nat.ne_of_gt (Nat.lt_of_lt_of_le (TreeP.exa Tp).lt (Nat.le_of_eq g694.symm))) nin0)) rfl rfl (jd J 11 rfl) k) ?_
    show G_ 18 #[vr ts, vr b694, vr it_695, vi 0] [(.int 0), (.int 0)]
    refine gy (fun t k => cY X695 J 12 rfl (flt (by decide)).2.1 51 (aN X695 J 13 rfl rfl k)) ?_
    refine own_cf (y := own_y83) (rmHn0 hw G _ _ _ O695 f695_4) X695 J 14 236 237 238 239 240 241 242 243 224 244 rfl f695_0 0 pd_4 (kP fun T697 v697 X697 e697 q697 => ?_)
    obtain rfl := q697
    show G_ 57 _ [(.int 0)]
    refine gy (fun t k => fY X697 J 15 rfl ((if0 _ _).trans (teq (by decide)).1) 68 (aN X697 J 16 rfl rfl k)) ?_
    exact rA X697 hret hlk hPf J 17 ⟨⟨b694, k694, (0 : Int32), [], rfl, (by rw [e697]; exact KC695), (by rw [e697]; exact (V694.keep K695 (ninS (Nat.ne_of_gt (Nat.lt_of_lt_of_le (TreeP.exa Tp).lt (Nat.le_of_eq g694.symm))) nin0))), sz_b694, rfl, rfl⟩, N695⟩
  · obtain ⟨ka, rfl, S1⟩ := sks1c SKL
    replace Mt : Mp Z h0 tm rt (1 : Int32) mc .null := Mt
    refine gy (fun t k => aN X0 J 0 rfl rfl k) ?_
    refine own_cz (y := own_y81) (rmTss hw G _ _ _ _ _ _ _ _ O0 Ets Fts Mt) X0 J 1 (own_nfT (args := #[]) (mvT hZ (ww hw 142 rfl)) rfl) 148 149 150 151 44 152 e0 Ets 0 pd_11 (kP fun T698 v698 X698 e698 q698 => ?_)
    obtain rfl := q698
    obtain ⟨T699, h699, k699, X699, e699, E699, A699, Ov699, st699⟩ := newR X698 hx hZ hown (ww hw 162 rfl) (ww hw 163 rfl) e698 (g := (mkF m 4 #[vr ts, .unset, .unset, .unset] [(.int 1)])) rfl (jd J 2 rfl) rfl (by decide) (cap := 1) (by decide) (by decide) (by decide) (by decide)
    obtain ⟨b699, g699⟩ : ∃ z, z = h0.size := ⟨_, rfl⟩
    rw [← g699] at A699 st699
    refine Go.by' st699 ?_
    have g_b699 : n0 ≤ b699 := Nat.le_trans (own_le O0) (Nat.le_of_eq g699.symm)
    have sz_b699 : h0.size ≤ b699 := Nat.le_trans KC0.1 (Nat.le_of_eq g699.symm)
    have O699 := O0.ext E699
    have KC699 := KC0.ext E699
    have V699 : Arv Z h699 b699 k699 (.object S_2) (1 : Int32) [.null] Value.null := (Arv.new A699 (by decide)).pad (pad_rep [] Value.null 1)
    show G_ 7 #[vr ts, .unset, .unset, .unset] [(.ref b699)]
    refine gy (fun t k => sAN X699 J 3 rfl #[vr ts, vr b699, .unset, .unset] (aN X699 J 4 rfl rfl k)) ?_
    refine own_cz (y := own_y82) (rmTi hw G _ _ _ _ _ _ _ O699 (Ets.ext E699) (Fts.ext E699) (Tp.keep0 (own_k0 E699)) g_tm) X699 J 5 (own_nfT (args := #[]) (mvT hZ (ww hw 142 rfl)) rfl) 164 165 166 167 44 168 e699 (Ets.ext E699) 0 pd_41 (kF N0 fun _ T700 v700 X700 N700 q700 => ?_)
    obtain ⟨it_700, fv_700, ks_700, rfl, K700, f700_0, f700_1, f700_2, f700_3, f700_4, f700_5, f700_6, f700_7⟩ := q700
    have g_it_700 : n0 ≤ it_700 := Nat.le_trans (own_le O699) f700_6
    have sz_it_700 : h0.size ≤ it_700 := Nat.le_trans KC699.1 f700_6
    have O700 := O699.keep K700 (allS g_tm all0)
    have KC700 := KC699.trans K700 (allS (il 0) all0)
    obtain ⟨ea700_0, sv700_0, rfl, ⟨pv700_0, lv700_0, rv700_0, ic700_0, Nk700_0⟩, Su700_0, It700_0⟩ := f700_5
    obtain rfl : sv700_0 = Value.null := It700_0
    obtain ⟨rt2, Mt2, -⟩ := f700_7.mp
    show G_ 12 _ [(.ref it_700)]
    refine gy (fun t k => sAN X700 J 6 rfl #[vr ts, vr b699, vr it_700, .unset] (cI X700 J 7 rfl 0 (sIN X700 J 8 rfl #[vr ts, vr b699, vr it_700, vi 0] (iN X700 J 9 rfl rfl (aN X700 J 10 rfl rfl k))))) ?_
    refine Go.by' (fun t k => own_alen X700 hx hZ rfl (V699.keep K700 (ninS (Nat.ne_of_gt (Nat.lt_of_lt_of_le (TreeP.exa Tp).lt (Nat.le_of_eq g699.symm))) nin0)) rfl rfl (jd J 11 rfl) k) ?_
    show G_ 18 #[vr ts, vr b699, vr it_700, vi 0] [(.int 1), (.int 0)]
    refine gy (fun t k => cN X700 J 12 rfl (tlt (by decide)).2.1 (aN X700 J 18 rfl rfl k)) ?_
    refine own_cf (y := own_y83) (rmHn1 hw G _ _ _ _ O700 f700_4) X700 J 19 236 237 238 239 240 241 242 243 224 244 rfl f700_0 0 pd_4 (kP fun T702 v702 X702 e702 q702 => ?_)
    obtain rfl := q702
    show G_ 27 _ [(.int 1)]
    refine gy (fun t k => fY X702 J 20 rfl ((if0 _ _).trans (feq (by decide)).2) 36 (aN X702 J 21 rfl rfl (iN X702 J 22 rfl rfl (aN X702 J 23 rfl rfl k)))) ?_
    refine own_cf (y := own_y84) (rmNx hw G _ _ _ _ _ _ _ _ _ _ _ _ _ _ _ _ O700 f700_0 f700_4 f700_1 f700_2 f700_3 Mt2 Su700_0 g_it_700 Nk700_0) X702 J 24 479 480 481 482 483 484 485 243 208 486 e702 f700_0 2 pd_43 (kF N700 fun _ T703 v703 X703 N703 q703 => ?_)
    obtain ⟨rfl, K703, f703_0, f703_1, f703_2, f703_3, f703_4⟩ := q703
    have O703 := O700.keep K703 (allS g_it_700 all0)
    have KC703 := KC700.trans K703 (allS (Or.inr sz_it_700) all0)
    have c704 := ((V699.keep K700 (ninS (Nat.ne_of_gt (Nat.lt_of_lt_of_le (TreeP.exa Tp).lt (Nat.le_of_eq g699.symm))) nin0)).keep K703 (ninS (Nat.ne_of_lt (Nat.lt_of_lt_of_le V699.lt f700_6)) nin0))
    obtain ⟨cl705, Ar705, q705, S705, P705, H705, G705⟩ := (id c704)
    have hin705 : ¬ ((0 : Int32) < 0 ∨ cl705.slots.size ≤ ((0 : Int32)).toNatClampNeg) := inb_of S705 ⟨by decide, by decide⟩
    have P706 := (SP.trans (SP.ext E699) (SP.trans (SP.keep K700 (allS (nsx hw 49 ((TreeP.exa Tp).ext E699)) all0)) (SP.keep K703 (allS (nsx hw 207 f700_0) all0))))
    have c707 := (P706 S1)
    obtain ⟨T708, h708, X708, e708, W708, st708⟩ := stR X703 hx hZ rfl Ar705 (j := (0 : Int32)) hin705 rfl (Sto.ofV Ar705 q705 Ov699 (Ins.of_exa c707.exa (ww hw 497 rfl))) (g := (mkF m 44 #[vr ts, vr b699, vr it_700, vi 0] [(.ref u1), (.int 0), (.ref b699)])) rfl rfl (jd J 25 rfl)
    refine Go.by' st708 ?_
    have V708 : Arv Z h708 b699 k699 (.object S_2) (1 : Int32) [(.ref u1)] Value.null := Arv.set Ar705 q705 S705 P705 H705 G705 rfl W708 0 rfl (Nat.le_of_ble_eq_true rfl)
    have N708 := Fr.snoc X708 N703 g_b699
    obtain ⟨lc708, X708, N708⟩ := own_pack X708 N708
    have O708 := O703.wr W708 g_b699
    have KC708 := KC703.wr W708 (Or.inr sz_b699)
    show G_ 45 #[vr ts, vr b699, vr it_700, vi 0] []
    refine gy (fun t k => xI X708 J 26 rfl rfl #[vr ts, vr b699, vr it_700, vi 1] (jG X708 J 27 rfl 15 (iN X708 J 9 rfl rfl (aN X708 J 10 rfl rfl k)))) ?_
    refine Go.by' (fun t k => own_alen X708 hx hZ e708 V708 rfl rfl (jd J 11 rfl) k) ?_
    show G_ 18 #[vr ts, vr b699, vr it_700, vi 1] [(.int 1), (.int 1)]
    refine gy (fun t k => cY X708 J 12 rfl (flt (by decide)).2.1 51 (aN X708 J 13 rfl rfl k)) ?_
    refine own_cf (y := own_y83) (rmHn0 hw G _ _ _ O708 (f703_4.other W708 (Or.inl (Nat.ne_of_gt (Nat.lt_of_lt_of_le V699.lt f700_6))))) X708 J 14 236 237 238 239 240 241 242 243 224 244 e708 (f703_0.wr W708) 0 pd_4 (kP fun T710 v710 X710 e710 q710 => ?_)
    obtain rfl := q710
    show G_ 57 _ [(.int 0)]
    refine gy (fun t k => fY X710 J 15 rfl ((if0 _ _).trans (teq (by decide)).1) 68 (aN X710 J 16 rfl rfl k)) ?_
    exact rA X710 hret hlk hPf J 17 ⟨⟨b699, k699, (1 : Int32), [(Value.ref u1)], rfl, (by rw [e710]; exact KC708), (by rw [e710]; exact V708), sz_b699, rfl, rfl⟩, N708⟩
  · obtain ⟨ka, kb, rfl, S1, S2⟩ := sks2c SKL
    replace Mt : Mp Z h0 tm rt (2 : Int32) mc .null := Mt
    refine gy (fun t k => aN X0 J 0 rfl rfl k) ?_
    refine own_cz (y := own_y81) (rmTss hw G _ _ _ _ _ _ _ _ O0 Ets Fts Mt) X0 J 1 (own_nfT (args := #[]) (mvT hZ (ww hw 142 rfl)) rfl) 148 149 150 151 44 152 e0 Ets 0 pd_11 (kP fun T711 v711 X711 e711 q711 => ?_)
    obtain rfl := q711
    obtain ⟨T712, h712, k712, X712, e712, E712, A712, Ov712, st712⟩ := newR X711 hx hZ hown (ww hw 162 rfl) (ww hw 163 rfl) e711 (g := (mkF m 4 #[vr ts, .unset, .unset, .unset] [(.int 2)])) rfl (jd J 2 rfl) rfl (by decide) (cap := 2) (by decide) (by decide) (by decide) (by decide)
    obtain ⟨b712, g712⟩ : ∃ z, z = h0.size := ⟨_, rfl⟩
    rw [← g712] at A712 st712
    refine Go.by' st712 ?_
    have g_b712 : n0 ≤ b712 := Nat.le_trans (own_le O0) (Nat.le_of_eq g712.symm)
    have sz_b712 : h0.size ≤ b712 := Nat.le_trans KC0.1 (Nat.le_of_eq g712.symm)
    have O712 := O0.ext E712
    have KC712 := KC0.ext E712
    have V712 : Arv Z h712 b712 k712 (.object S_2) (2 : Int32) [.null, .null] Value.null := (Arv.new A712 (by decide)).pad (pad_rep [] Value.null 2)
    show G_ 7 #[vr ts, .unset, .unset, .unset] [(.ref b712)]
    refine gy (fun t k => sAN X712 J 3 rfl #[vr ts, vr b712, .unset, .unset] (aN X712 J 4 rfl rfl k)) ?_
    refine own_cz (y := own_y82) (rmTi hw G _ _ _ _ _ _ _ O712 (Ets.ext E712) (Fts.ext E712) (Tp.keep0 (own_k0 E712)) g_tm) X712 J 5 (own_nfT (args := #[]) (mvT hZ (ww hw 142 rfl)) rfl) 164 165 166 167 44 168 e712 (Ets.ext E712) 0 pd_41 (kF N0 fun _ T713 v713 X713 N713 q713 => ?_)
    obtain ⟨it_713, fv_713, ks_713, rfl, K713, f713_0, f713_1, f713_2, f713_3, f713_4, f713_5, f713_6, f713_7⟩ := q713
    have g_it_713 : n0 ≤ it_713 := Nat.le_trans (own_le O712) f713_6
    have sz_it_713 : h0.size ≤ it_713 := Nat.le_trans KC712.1 f713_6
    have O713 := O712.keep K713 (allS g_tm all0)
    have KC713 := KC712.trans K713 (allS (il 0) all0)
    obtain ⟨ea713_0, sv713_0, rfl, ⟨pv713_0, lv713_0, rv713_0, ic713_0, Nk713_0⟩, Su713_0, It713_0⟩ := f713_5
    obtain ⟨ea713_1, sv713_1, rfl, ⟨pv713_1, lv713_1, rv713_1, ic713_1, Nk713_1⟩, Su713_1, It713_1⟩ := It713_0
    obtain rfl : sv713_1 = Value.null := It713_1
    obtain ⟨rt2, Mt2, -⟩ := f713_7.mp
    show G_ 12 _ [(.ref it_713)]
    refine gy (fun t k => sAN X713 J 6 rfl #[vr ts, vr b712, vr it_713, .unset] (cI X713 J 7 rfl 0 (sIN X713 J 8 rfl #[vr ts, vr b712, vr it_713, vi 0] (iN X713 J 9 rfl rfl (aN X713 J 10 rfl rfl k))))) ?_
    refine Go.by' (fun t k => own_alen X713 hx hZ rfl (V712.keep K713 (ninS (Nat.ne_of_gt (Nat.lt_of_lt_of_le (TreeP.exa Tp).lt (Nat.le_of_eq g712.symm))) nin0)) rfl rfl (jd J 11 rfl) k) ?_
    show G_ 18 #[vr ts, vr b712, vr it_713, vi 0] [(.int 2), (.int 0)]
    refine gy (fun t k => cN X713 J 12 rfl (tlt (by decide)).2.1 (aN X713 J 18 rfl rfl k)) ?_
    refine own_cf (y := own_y83) (rmHn1 hw G _ _ _ _ O713 f713_4) X713 J 19 236 237 238 239 240 241 242 243 224 244 rfl f713_0 0 pd_4 (kP fun T715 v715 X715 e715 q715 => ?_)
    obtain rfl := q715
    show G_ 27 _ [(.int 1)]
    refine gy (fun t k => fY X715 J 20 rfl ((if0 _ _).trans (feq (by decide)).2) 36 (aN X715 J 21 rfl rfl (iN X715 J 22 rfl rfl (aN X715 J 23 rfl rfl k)))) ?_
    refine own_cf (y := own_y84) (rmNx hw G _ _ _ _ _ _ _ _ _ _ _ _ _ _ _ _ O713 f713_0 f713_4 f713_1 f713_2 f713_3 Mt2 Su713_0 g_it_713 Nk713_0) X715 J 24 479 480 481 482 483 484 485 243 208 486 e715 f713_0 2 pd_43 (kF N713 fun _ T716 v716 X716 N716 q716 => ?_)
    obtain ⟨rfl, K716, f716_0, f716_1, f716_2, f716_3, f716_4⟩ := q716
    have O716 := O713.keep K716 (allS g_it_713 all0)
    have KC716 := KC713.trans K716 (allS (Or.inr sz_it_713) all0)
    have c717 := ((V712.keep K713 (ninS (Nat.ne_of_gt (Nat.lt_of_lt_of_le (TreeP.exa Tp).lt (Nat.le_of_eq g712.symm))) nin0)).keep K716 (ninS (Nat.ne_of_lt (Nat.lt_of_lt_of_le V712.lt f713_6)) nin0))
    obtain ⟨cl718, Ar718, q718, S718, P718, H718, G718⟩ := (id c717)
    have hin718 : ¬ ((0 : Int32) < 0 ∨ cl718.slots.size ≤ ((0 : Int32)).toNatClampNeg) := inb_of S718 ⟨by decide, by decide⟩
    have P719 := (SP.trans (SP.ext E712) (SP.trans (SP.keep K713 (allS (nsx hw 49 ((TreeP.exa Tp).ext E712)) all0)) (SP.keep K716 (allS (nsx hw 207 f713_0) all0))))
    have c720 := (P719 S1)
    obtain ⟨T721, h721, X721, e721, W721, st721⟩ := stR X716 hx hZ rfl Ar718 (j := (0 : Int32)) hin718 rfl (Sto.ofV Ar718 q718 Ov712 (Ins.of_exa c720.exa (ww hw 497 rfl))) (g := (mkF m 44 #[vr ts, vr b712, vr it_713, vi 0] [(.ref u1), (.int 0), (.ref b712)])) rfl rfl (jd J 25 rfl)
    refine Go.by' st721 ?_
    have V721 : Arv Z h721 b712 k712 (.object S_2) (2 : Int32) [(.ref u1), .null] Value.null := Arv.set Ar718 q718 S718 P718 H718 G718 rfl W721 0 rfl (Nat.le_of_ble_eq_true rfl)
    have N721 := Fr.snoc X721 N716 g_b712
    obtain ⟨lc721, X721, N721⟩ := own_pack X721 N721
    have O721 := O716.wr W721 g_b712
    have KC721 := KC716.wr W721 (Or.inr sz_b712)
    show G_ 45 #[vr ts, vr b712, vr it_713, vi 0] []
    refine gy (fun t k => xI X721 J 26 rfl rfl #[vr ts, vr b712, vr it_713, vi 1] (jG X721 J 27 rfl 15 (iN X721 J 9 rfl rfl (aN X721 J 10 rfl rfl k)))) ?_
    refine Go.by' (fun t k => own_alen X721 hx hZ e721 V721 rfl rfl (jd J 11 rfl) k) ?_
    show G_ 18 #[vr ts, vr b712, vr it_713, vi 1] [(.int 2), (.int 1)]
    refine gy (fun t k => cN X721 J 12 rfl (tlt (by decide)).2.1 (aN X721 J 18 rfl rfl k)) ?_
    refine own_cf (y := own_y83) (rmHn1 hw G _ _ _ _ O721 (f716_4.other W721 (Or.inl (Nat.ne_of_gt (Nat.lt_of_lt_of_le V712.lt f713_6))))) X721 J 19 236 237 238 239 240 241 242 243 224 244 e721 (f716_0.wr W721) 0 pd_4 (kP fun T723 v723 X723 e723 q723 => ?_)
    obtain rfl := q723
    show G_ 27 _ [(.int 1)]
    refine gy (fun t k => fY X723 J 20 rfl ((if0 _ _).trans (feq (by decide)).2) 36 (aN X723 J 21 rfl rfl (iN X723 J 22 rfl rfl (aN X723 J 23 rfl rfl k)))) ?_
    have c725 := ((Mt2.keep K716 (ninS (Nat.ne_of_lt (Nat.lt_of_lt_of_le (Nat.lt_of_lt_of_le (TreeP.exa Tp).lt E712.1) f713_6)) nin0)).other W721 (Nat.ne_of_lt (Nat.lt_of_lt_of_le (TreeP.exa Tp).lt (Nat.le_of_eq g712.symm))))
    have c726 := (SU.ep (EP.wr W721 (NE.arv c717 (ww hw 418 rfl))) (SU.ep (EP.keep K716 (allS (NE.exa f713_0 (by decide)) all0)) Su713_1))
    have c727 := ((Nk713_1.keep K716 (ninS (ne_exa Nk713_1.1 f713_0 (by decide)) nin0)).other W721 (Exa.neArv ((Nk713_1.1.keep K716).wr W721) V721 (ww hw 418 rfl)))
    refine own_cf (y := own_y84) (rmNx hw G _ _ _ _ _ _ _ _ _ _ _ _ _ _ _ _ O721 (f716_0.wr W721) (f716_4.other W721 (Or.inl (Nat.ne_of_gt (Nat.lt_of_lt_of_le V712.lt f713_6)))) (f716_1.other W721 (Or.inl (Nat.ne_of_gt (Nat.lt_of_lt_of_le V712.lt f713_6)))) (f716_2.other W721 (Or.inl (Nat.ne_of_gt (Nat.lt_of_lt_of_le V712.lt f713_6)))) (f716_3.other W721 (Or.inl (Nat.ne_of_gt (Nat.lt_of_lt_of_le V712.lt f713_6)))) c725 c726 g_it_713 c727) X723 J 24 479 480 481 482 483 484 485 243 208 486 e723 (f716_0.wr W721) 2 pd_43 (kF N721 fun _ T724 v724 X724 N724 q724 => ?_)
    obtain ⟨rfl, K724, f724_0, f724_1, f724_2, f724_3, f724_4⟩ := q724
    have O724 := O721.keep K724 (allS g_it_713 all0)
    have KC724 := KC721.trans K724 (allS (Or.inr sz_it_713) all0)
    obtain ⟨cl728, Ar728, q728, S728, P728, H728, G728⟩ := (id (V721.keep K724 (ninS (Nat.ne_of_lt (Nat.lt_of_lt_of_le V712.lt f713_6)) nin0)))
    have hin728 : ¬ ((1 : Int32) < 0 ∨ cl728.slots.size ≤ ((1 : Int32)).toNatClampNeg) := inb_of S728 ⟨by decide, by decide⟩
    have P729 := (SP.trans (SP.ext E712) (SP.trans (SP.keep K713 (allS (nsx hw 49 ((TreeP.exa Tp).ext E712)) all0)) (SP.trans (SP.keep K716 (allS (nsx hw 207 f713_0) all0)) (SP.trans (SP.wr W721 (nsa hw c717)) (SP.keep K724 (allS (nsx hw 207 ((f713_0.keep K716).wr W721)) all0))))))
    have c730 := (P729 S2)
    obtain ⟨T731, h731, X731, e731, W731, st731⟩ := stR X724 hx hZ rfl Ar728 (j := (1 : Int32)) hin728 rfl (Sto.ofV Ar728 q728 Ov712 (Ins.of_exa c730.exa (ww hw 497 rfl))) (g := (mkF m 44 #[vr ts, vr b712, vr it_713, vi 1] [(.ref u2), (.int 1), (.ref b712)])) rfl rfl (jd J 25 rfl)
    refine Go.by' st731 ?_
    have V731 : Arv Z h731 b712 k712 (.object S_2) (2 : Int32) [(.ref u1), (.ref u2)] Value.null := Arv.set Ar728 q728 S728 P728 H728 G728 rfl W731 1 rfl (Nat.le_of_ble_eq_true rfl)
    have N731 := Fr.snoc X731 N724 g_b712
    obtain ⟨lc731, X731, N731⟩ := own_pack X731 N731
    have O731 := O724.wr W731 g_b712
    have KC731 := KC724.wr W731 (Or.inr sz_b712)
    show G_ 45 #[vr ts, vr b712, vr it_713, vi 1] []
    refine gy (fun t k => xI X731 J 26 rfl rfl #[vr ts, vr b712, vr it_713, vi 2] (jG X731 J 27 rfl 15 (iN X731 J 9 rfl rfl (aN X731 J 10 rfl rfl k)))) ?_
    refine Go.by' (fun t k => own_alen X731 hx hZ e731 V731 rfl rfl (jd J 11 rfl) k) ?_
    show G_ 18 #[vr ts, vr b712, vr it_713, vi 2] [(.int 2), (.int 2)]
    refine gy (fun t k => cY X731 J 12 rfl (flt (by decide)).2.1 51 (aN X731 J 13 rfl rfl k)) ?_
    refine own_cf (y := own_y83) (rmHn0 hw G _ _ _ O731 (f724_4.other W731 (Or.inl (Nat.ne_of_gt (Nat.lt_of_lt_of_le V712.lt f713_6))))) X731 J 14 236 237 238 239 240 241 242 243 224 244 e731 (f724_0.wr W731) 0 pd_4 (kP fun T733 v733 X733 e733 q733 => ?_)
    obtain rfl := q733
    show G_ 57 _ [(.int 0)]
    refine gy (fun t k => fY X733 J 15 rfl ((if0 _ _).trans (teq (by decide)).1) 68 (aN X733 J 16 rfl rfl k)) ?_
    exact rA X733 hret hlk hPf J 17 ⟨⟨b712, k712, (2 : Int32), [(Value.ref u1), (Value.ref u2)], rfl, (by rw [e733]; exact KC731), (by rw [e733]; exact V731), sz_b712, rfl, rfl⟩, N731⟩
  · obtain ⟨ka, kb, kc, rfl, S1, S2, S3⟩ := sks3c SKL
    replace Mt : Mp Z h0 tm rt (3 : Int32) mc .null := Mt
    refine gy (fun t k => aN X0 J 0 rfl rfl k) ?_
    refine own_cz (y := own_y81) (rmTss hw G _ _ _ _ _ _ _ _ O0 Ets Fts Mt) X0 J 1 (own_nfT (args := #[]) (mvT hZ (ww hw 142 rfl)) rfl) 148 149 150 151 44 152 e0 Ets 0 pd_11 (kP fun T734 v734 X734 e734 q734 => ?_)
    obtain rfl := q734
    obtain ⟨T735, h735, k735, X735, e735, E735, A735, Ov735, st735⟩ := newR X734 hx hZ hown (ww hw 162 rfl) (ww hw 163 rfl) e734 (g := (mkF m 4 #[vr ts, .unset, .unset, .unset] [(.int 3)])) rfl (jd J 2 rfl) rfl (by decide) (cap := 3) (by decide) (by decide) (by decide) (by decide)
    obtain ⟨b735, g735⟩ : ∃ z, z = h0.size := ⟨_, rfl⟩
    rw [← g735] at A735 st735
    refine Go.by' st735 ?_
    have g_b735 : n0 ≤ b735 := Nat.le_trans (own_le O0) (Nat.le_of_eq g735.symm)
    have sz_b735 : h0.size ≤ b735 := Nat.le_trans KC0.1 (Nat.le_of_eq g735.symm)
    have O735 := O0.ext E735
    have KC735 := KC0.ext E735
    have V735 : Arv Z h735 b735 k735 (.object S_2) (3 : Int32) [.null, .null, .null] Value.null := (Arv.new A735 (by decide)).pad (pad_rep [] Value.null 3)
    show G_ 7 #[vr ts, .unset, .unset, .unset] [(.ref b735)]
    refine gy (fun t k => sAN X735 J 3 rfl #[vr ts, vr b735, .unset, .unset] (aN X735 J 4 rfl rfl k)) ?_
    refine own_cz (y := own_y82) (rmTi hw G _ _ _ _ _ _ _ O735 (Ets.ext E735) (Fts.ext E735) (Tp.keep0 (own_k0 E735)) g_tm) X735 J 5 (own_nfT (args := #[]) (mvT hZ (ww hw 142 rfl)) rfl) 164 165 166 167 44 168 e735 (Ets.ext E735) 0 pd_41 (kF N0 fun _ T736 v736 X736 N736 q736 => ?_)
    obtain ⟨it_736, fv_736, ks_736, rfl, K736, f736_0, f736_1, f736_2, f736_3, f736_4, f736_5, f736_6, f736_7⟩ := q736
    have g_it_736 : n0 ≤ it_736 := Nat.le_trans (own_le O735) f736_6
    have sz_it_736 : h0.size ≤ it_736 := Nat.le_trans KC735.1 f736_6
    have O736 := O735.keep K736 (allS g_tm all0)
    have KC736 := KC735.trans K736 (allS (il 0) all0)
    obtain ⟨ea736_0, sv736_0, rfl, ⟨pv736_0, lv736_0, rv736_0, ic736_0, Nk736_0⟩, Su736_0, It736_0⟩ := f736_5
    obtain ⟨ea736_1, sv736_1, rfl, ⟨pv736_1, lv736_1, rv736_1, ic736_1, Nk736_1⟩, Su736_1, It736_1⟩ := It736_0
    obtain ⟨ea736_2, sv736_2, rfl, ⟨pv736_2, lv736_2, rv736_2, ic736_2, Nk736_2⟩, Su736_2, It736_2⟩ := It736_1
    obtain rfl : sv736_2 = Value.null := It736_2
    obtain ⟨rt2, Mt2, -⟩ := f736_7.mp
    show G_ 12 _ [(.ref it_736)]
    refine gy (fun t k => sAN X736 J 6 rfl #[vr ts, vr b735, vr it_736, .unset] (cI X736 J 7 rfl 0 (sIN X736 J 8 rfl #[vr ts, vr b735, vr it_736, vi 0] (iN X736 J 9 rfl rfl (aN X736 J 10 rfl rfl k))))) ?_
    refine Go.by' (fun t k => own_alen X736 hx hZ rfl (V735.keep K736 (ninS (Nat.ne_of_gt (Nat.lt_of_lt_of_le (TreeP.exa Tp).lt (Nat.le_of_eq g735.symm))) nin0)) rfl rfl (jd J 11 rfl) k) ?_
    show G_ 18 #[vr ts, vr b735, vr it_736, vi 0] [(.int 3), (.int 0)]
    refine gy (fun t k => cN X736 J 12 rfl (tlt (by decide)).2.1 (aN X736 J 18 rfl rfl k)) ?_
    refine own_cf (y := own_y83) (rmHn1 hw G _ _ _ _ O736 f736_4) X736 J 19 236 237 238 239 240 241 242 243 224 244 rfl f736_0 0 pd_4 (kP fun T738 v738 X738 e738 q738 => ?_)
    obtain rfl := q738
    show G_ 27 _ [(.int 1)]
    refine gy (fun t k => fY X738 J 20 rfl ((if0 _ _).trans (feq (by decide)).2) 36 (aN X738 J 21 rfl rfl (iN X738 J 22 rfl rfl (aN X738 J 23 rfl rfl k)))) ?_
    refine own_cf (y := own_y84) (rmNx hw G _ _ _ _ _ _ _ _ _ _ _ _ _ _ _ _ O736 f736_0 f736_4 f736_1 f736_2 f736_3 Mt2 Su736_0 g_it_736 Nk736_0) X738 J 24 479 480 481 482 483 484 485 243 208 486 e738 f736_0 2 pd_43 (kF N736 fun _ T739 v739 X739 N739 q739 => ?_)
    obtain ⟨rfl, K739, f739_0, f739_1, f739_2, f739_3, f739_4⟩ := q739
    have O739 := O736.keep K739 (allS g_it_736 all0)
    have KC739 := KC736.trans K739 (allS (Or.inr sz_it_736) all0)
    have c740 := ((V735.keep K736 (ninS (Nat.ne_of_gt (Nat.lt_of_lt_of_le (TreeP.exa Tp).lt (Nat.le_of_eq g735.symm))) nin0)).keep K739 (ninS (Nat.ne_of_lt (Nat.lt_of_lt_of_le V735.lt f736_6)) nin0))
    obtain ⟨cl741, Ar741, q741, S741, P741, H741, G741⟩ := (id c740)
    have hin741 : ¬ ((0 : Int32) < 0 ∨ cl741.slots.size ≤ ((0 : Int32)).toNatClampNeg) := inb_of S741 ⟨by decide, by decide⟩
    have P742 := (SP.trans (SP.ext E735) (SP.trans (SP.keep K736 (allS (nsx hw 49 ((TreeP.exa Tp).ext E735)) all0)) (SP.keep K739 (allS (nsx hw 207 f736_0) all0))))
    have c743 := (P742 S1)
    obtain ⟨T744, h744, X744, e744, W744, st744⟩ := stR X739 hx hZ rfl Ar741 (j := (0 : Int32)) hin741 rfl (Sto.ofV Ar741 q741 Ov735 (Ins.of_exa c743.exa (ww hw 497 rfl))) (g := (mkF m 44 #[vr ts, vr b735, vr it_736, vi 0] [(.ref u1), (.int 0), (.ref b735)])) rfl rfl (jd J 25 rfl)
    refine Go.by' st744 ?_
    have V744 : Arv Z h744 b735 k735 (.object S_2) (3 : Int32) [(.ref u1), .null, .null] Value.null := Arv.set Ar741 q741 S741 P741 H741 G741 rfl W744 0 rfl (Nat.le_of_ble_eq_true rfl)
    have N744 := Fr.snoc X744 N739 g_b735
    obtain ⟨lc744, X744, N744⟩ := own_pack X744 N744
    have O744 := O739.wr W744 g_b735
    have KC744 := KC739.wr W744 (Or.inr sz_b735)
    show G_ 45 #[vr ts, vr b735, vr it_736, vi 0] []
    refine gy (fun t k => xI X744 J 26 rfl rfl #[vr ts, vr b735, vr it_736, vi 1] (jG X744 J 27 rfl 15 (iN X744 J 9 rfl rfl (aN X744 J 10 rfl rfl k)))) ?_
    refine Go.by' (fun t k => own_alen X744 hx hZ e744 V744 rfl rfl (jd J 11 rfl) k) ?_
    show G_ 18 #[vr ts, vr b735, vr it_736, vi 1] [(.int 3), (.int 1)]
    refine gy (fun t k => cN X744 J 12 rfl (tlt (by decide)).2.1 (aN X744 J 18 rfl rfl k)) ?_
    refine own_cf (y := own_y83) (rmHn1 hw G _ _ _ _ O744 (f739_4.other W744 (Or.inl (Nat.ne_of_gt (Nat.lt_of_lt_of_le V735.lt f736_6))))) X744 J 19 236 237 238 239 240 241 242 243 224 244 e744 (f739_0.wr W744) 0 pd_4 (kP fun T746 v746 X746 e746 q746 => ?_)
    obtain rfl := q746
    show G_ 27 _ [(.int 1)]
    refine gy (fun t k => fY X746 J 20 rfl ((if0 _ _).trans (feq (by decide)).2) 36 (aN X746 J 21 rfl rfl (iN X746 J 22 rfl rfl (aN X746 J 23 rfl rfl k)))) ?_
    have c748 := ((Mt2.keep K739 (ninS (Nat.ne_of_lt (Nat.lt_of_lt_of_le (Nat.lt_of_lt_of_le (TreeP.exa Tp).lt E735.1) f736_6)) nin0)).other W744 (Nat.ne_of_lt (Nat.lt_of_lt_of_le (TreeP.exa Tp).lt (Nat.le_of_eq g735.symm))))
    have c749 := (SU.ep (EP.wr W744 (NE.arv c740 (ww hw 418 rfl))) (SU.ep (EP.keep K739 (allS (NE.exa f736_0 (by decide)) all0)) Su736_1))
    have c750 := ((Nk736_1.keep K739 (ninS (ne_exa Nk736_1.1 f736_0 (by decide)) nin0)).other W744 (Exa.neArv ((Nk736_1.1.keep K739).wr W744) V744 (ww hw 418 rfl)))
    refine own_cf (y := own_y84) (rmNx hw G _ _ _ _ _ _ _ _ _ _ _ _ _ _ _ _ O744 (f739_0.wr W744) (f739_4.other W744 (Or.inl (Nat.ne_of_gt (Nat.lt_of_lt_of_le V735.lt f736_6)))) (f739_1.other W744 (Or.inl (Nat.ne_of_gt (Nat.lt_of_lt_of_le V735.lt f736_6)))) (f739_2.other W744 (Or.inl (Nat.ne_of_gt (Nat.lt_of_lt_of_le V735.lt f736_6)))) (f739_3.other W744 (Or.inl (Nat.ne_of_gt (Nat.lt_of_lt_of_le V735.lt f736_6)))) c748 c749 g_it_736 c750) X746 J 24 479 480 481 482 483 484 485 243 208 486 e746 (f739_0.wr W744) 2 pd_43 (kF N744 fun _ T747 v747 X747 N747 q747 => ?_)
    obtain ⟨rfl, K747, f747_0, f747_1, f747_2, f747_3, f747_4⟩ := q747
    have O747 := O744.keep K747 (allS g_it_736 all0)
    have KC747 := KC744.trans K747 (allS (Or.inr sz_it_736) all0)
    obtain ⟨cl751, Ar751, q751, S751, P751, H751, G751⟩ := (id (V744.keep K747 (ninS (Nat.ne_of_lt (Nat.lt_of_lt_of_le V735.lt f736_6)) nin0)))
    have hin751 : ¬ ((1 : Int32) < 0 ∨ cl751.slots.size ≤ ((1 : Int32)).toNatClampNeg) := inb_of S751 ⟨by decide, by decide⟩
    have P752 := (SP.trans (SP.ext E735) (SP.trans (SP.keep K736 (allS (nsx hw 49 ((TreeP.exa Tp).ext E735)) all0)) (SP.trans (SP.keep K739 (allS (nsx hw 207 f736_0) all0)) (SP.trans (SP.wr W744 (nsa hw c740)) (SP.keep K747 (allS (nsx hw 207 ((f736_0.keep K739).wr W744)) all0))))))
    have c753 := (P752 S2)
    obtain ⟨T754, h754, X754, e754, W754, st754⟩ := stR X747 hx hZ rfl Ar751 (j := (1 : Int32)) hin751 rfl (Sto.ofV Ar751 q751 Ov735 (Ins.of_exa c753.exa (ww hw 497 rfl))) (g := (mkF m 44 #[vr ts, vr b735, vr it_736, vi 1] [(.ref u2), (.int 1), (.ref b735)])) rfl rfl (jd J 25 rfl)
    refine Go.by' st754 ?_
    have V754 : Arv Z h754 b735 k735 (.object S_2) (3 : Int32) [(.ref u1), (.ref u2), .null] Value.null := Arv.set Ar751 q751 S751 P751 H751 G751 rfl W754 1 rfl (Nat.le_of_ble_eq_true rfl)
    have N754 := Fr.snoc X754 N747 g_b735
    obtain ⟨lc754, X754, N754⟩ := own_pack X754 N754
    have O754 := O747.wr W754 g_b735
    have KC754 := KC747.wr W754 (Or.inr sz_b735)
    show G_ 45 #[vr ts, vr b735, vr it_736, vi 1] []
    refine gy (fun t k => xI X754 J 26 rfl rfl #[vr ts, vr b735, vr it_736, vi 2] (jG X754 J 27 rfl 15 (iN X754 J 9 rfl rfl (aN X754 J 10 rfl rfl k)))) ?_
    refine Go.by' (fun t k => own_alen X754 hx hZ e754 V754 rfl rfl (jd J 11 rfl) k) ?_
    show G_ 18 #[vr ts, vr b735, vr it_736, vi 2] [(.int 3), (.int 2)]
    refine gy (fun t k => cN X754 J 12 rfl (tlt (by decide)).2.1 (aN X754 J 18 rfl rfl k)) ?_
    refine own_cf (y := own_y83) (rmHn1 hw G _ _ _ _ O754 (f747_4.other W754 (Or.inl (Nat.ne_of_gt (Nat.lt_of_lt_of_le V735.lt f736_6))))) X754 J 19 236 237 238 239 240 241 242 243 224 244 e754 (f747_0.wr W754) 0 pd_4 (kP fun T756 v756 X756 e756 q756 => ?_)
    obtain rfl := q756
    show G_ 27 _ [(.int 1)]
    refine gy (fun t k => fY X756 J 20 rfl ((if0 _ _).trans (feq (by decide)).2) 36 (aN X756 J 21 rfl rfl (iN X756 J 22 rfl rfl (aN X756 J 23 rfl rfl k)))) ?_
    have c758 := ((c748.keep K747 (ninS (Nat.ne_of_lt (Nat.lt_of_lt_of_le (Nat.lt_of_lt_of_le (TreeP.exa Tp).lt E735.1) f736_6)) nin0)).other W754 (Nat.ne_of_lt (Nat.lt_of_lt_of_le (TreeP.exa Tp).lt (Nat.le_of_eq g735.symm))))
    have c759 := (SU.ep (EP.wr W754 (NE.arv (V744.keep K747 (ninS (Nat.ne_of_lt (Nat.lt_of_lt_of_le V735.lt f736_6)) nin0)) (ww hw 418 rfl))) (SU.ep (EP.keep K747 (allS (NE.exa ((f736_0.keep K739).wr W744) (by decide)) all0)) (SU.ep (EP.wr W744 (NE.arv c740 (ww hw 418 rfl))) (SU.ep (EP.keep K739 (allS (NE.exa f736_0 (by decide)) all0)) Su736_2))))
    have c760 := ((((Nk736_2.keep K739 (ninS (ne_exa Nk736_2.1 f736_0 (by decide)) nin0)).other W744 (Exa.neArv ((((Nk736_2.1.keep K739).wr W744).keep K747).wr W754) V754 (ww hw 418 rfl))).keep K747 (ninS (ne_exa Nk736_2.1 f736_0 (by decide)) nin0)).other W754 (Exa.neArv ((((Nk736_2.1.keep K739).wr W744).keep K747).wr W754) V754 (ww hw 418 rfl)))
    refine own_cf (y := own_y84) (rmNx hw G _ _ _ _ _ _ _ _ _ _ _ _ _ _ _ _ O754 (f747_0.wr W754) (f747_4.other W754 (Or.inl (Nat.ne_of_gt (Nat.lt_of_lt_of_le V735.lt f736_6)))) (f747_1.other W754 (Or.inl (Nat.ne_of_gt (Nat.lt_of_lt_of_le V735.lt f736_6)))) (f747_2.other W754 (Or.inl (Nat.ne_of_gt (Nat.lt_of_lt_of_le V735.lt f736_6)))) (f747_3.other W754 (Or.inl (Nat.ne_of_gt (Nat.lt_of_lt_of_le V735.lt f736_6)))) c758 c759 g_it_736 c760) X756 J 24 479 480 481 482 483 484 485 243 208 486 e756 (f747_0.wr W754) 2 pd_43 (kF N754 fun _ T757 v757 X757 N757 q757 => ?_)
    obtain ⟨rfl, K757, f757_0, f757_1, f757_2, f757_3, f757_4⟩ := q757
    have O757 := O754.keep K757 (allS g_it_736 all0)
    have KC757 := KC754.trans K757 (allS (Or.inr sz_it_736) all0)
    obtain ⟨cl761, Ar761, q761, S761, P761, H761, G761⟩ := (id (V754.keep K757 (ninS (Nat.ne_of_lt (Nat.lt_of_lt_of_le V735.lt f736_6)) nin0)))
    have hin761 : ¬ ((2 : Int32) < 0 ∨ cl761.slots.size ≤ ((2 : Int32)).toNatClampNeg) := inb_of S761 ⟨by decide, by decide⟩
    have P762 := (SP.trans (SP.ext E735) (SP.trans (SP.keep K736 (allS (nsx hw 49 ((TreeP.exa Tp).ext E735)) all0)) (SP.trans (SP.keep K739 (allS (nsx hw 207 f736_0) all0)) (SP.trans (SP.wr W744 (nsa hw c740)) (SP.trans (SP.keep K747 (allS (nsx hw 207 ((f736_0.keep K739).wr W744)) all0)) (SP.trans (SP.wr W754 (nsa hw (V744.keep K747 (ninS (Nat.ne_of_lt (Nat.lt_of_lt_of_le V735.lt f736_6)) nin0)))) (SP.keep K757 (allS (nsx hw 207 ((((f736_0.keep K739).wr W744).keep K747).wr W754)) all0))))))))
    have c763 := (P762 S3)
    obtain ⟨T764, h764, X764, e764, W764, st764⟩ := stR X757 hx hZ rfl Ar761 (j := (2 : Int32)) hin761 rfl (Sto.ofV Ar761 q761 Ov735 (Ins.of_exa c763.exa (ww hw 497 rfl))) (g := (mkF m 44 #[vr ts, vr b735, vr it_736, vi 2] [(.ref u3), (.int 2), (.ref b735)])) rfl rfl (jd J 25 rfl)
    refine Go.by' st764 ?_
    have V764 : Arv Z h764 b735 k735 (.object S_2) (3 : Int32) [(.ref u1), (.ref u2), (.ref u3)] Value.null := Arv.set Ar761 q761 S761 P761 H761 G761 rfl W764 2 rfl (Nat.le_of_ble_eq_true rfl)
    have N764 := Fr.snoc X764 N757 g_b735
    obtain ⟨lc764, X764, N764⟩ := own_pack X764 N764
    have O764 := O757.wr W764 g_b735
    have KC764 := KC757.wr W764 (Or.inr sz_b735)
    show G_ 45 #[vr ts, vr b735, vr it_736, vi 2] []
    refine gy (fun t k => xI X764 J 26 rfl rfl #[vr ts, vr b735, vr it_736, vi 3] (jG X764 J 27 rfl 15 (iN X764 J 9 rfl rfl (aN X764 J 10 rfl rfl k)))) ?_
    refine Go.by' (fun t k => own_alen X764 hx hZ e764 V764 rfl rfl (jd J 11 rfl) k) ?_
    show G_ 18 #[vr ts, vr b735, vr it_736, vi 3] [(.int 3), (.int 3)]
    refine gy (fun t k => cY X764 J 12 rfl (flt (by decide)).2.1 51 (aN X764 J 13 rfl rfl k)) ?_
    refine own_cf (y := own_y83) (rmHn0 hw G _ _ _ O764 (f757_4.other W764 (Or.inl (Nat.ne_of_gt (Nat.lt_of_lt_of_le V735.lt f736_6))))) X764 J 14 236 237 238 239 240 241 242 243 224 244 e764 (f757_0.wr W764) 0 pd_4 (kP fun T766 v766 X766 e766 q766 => ?_)
    obtain rfl := q766
    show G_ 57 _ [(.int 0)]
    refine gy (fun t k => fY X766 J 15 rfl ((if0 _ _).trans (teq (by decide)).1) 68 (aN X766 J 16 rfl rfl k)) ?_
    exact rA X766 hret hlk hPf J 17 ⟨⟨b735, k735, (3 : Int32), [(Value.ref u1), (Value.ref u2), (Value.ref u3)], rfl, (by rw [e766]; exact KC764), (by rw [e766]; exact V764), sz_b735, rfl, rfl⟩, N764⟩
theorem pd_44 : parseMethodDescriptor "()[Ljava/lang/Object;" = some ⟨[], some (.array (.object S_2))⟩ := by decide +kernel
abbrev own_y86 : MethodName := ⟨S_31, "toArray", "()[Ljava/lang/Object;"⟩
def L21 : List (Nat × Instr × Nat) := [(0, a_0), (1, .getfield 10, 3), (4, .invokeinterface 30 1, 5), (9, .areturn, 1)]
theorem d21 : ∀ q ∈ L21, decode jdk_119_method_5_code q.1 = .ok q.2 := by decide +kernel
def QrmUt (Z : State) (tm : Addr) (L : (List Addr)) (h0 : Heap) (v : Option Value) (h : Heap) : Prop := ∃ (r : Addr) (kr : ClassId) (zr : Int32) (vsr : (List Value)), (v = some (.ref r)) ∧ (Keep h0 h [tm]) ∧ (Arv Z h r kr (.object S_2) zr vsr Value.null) ∧ (h0.size ≤ r) ∧ (zr = Int32.ofNat L.length) ∧ (vsr = L.map Value.ref)
abbrev own_y87 : MethodName := ⟨S_14, "toArray", "()[Ljava/lang/Object;"⟩
theorem rmUt (hw : HW a0 Z) (G : Gh Z vcs wI wA cA vF wP wD kD wE kE mT mU mL mO) (us : Addr) (ts : Addr) (tm : Addr) (b : Nat) (L : (List Addr)) (mc : Int32) (Ks : (List Int)) (h0 : Heap) (n0 : Nat) (O0 : Old Z n0 h0) (Eus : Exa Z h0 us S_15) (Fus : Fld Z h0 us S_14 "c" S_17 (.ref ts)) (Ets : Exa Z h0 ts S_8) (Fts : Fld Z h0 ts S_8 "m" S_13 (.ref tm)) (Tp : TreeP Z h0 b wP tm L mc .null) (SKL : SKs Z h0 L Ks) (g_tm : n0 ≤ tm) :
    MM l Z own_y87 jdk_119_method_5_code 1 (some (.array (.object S_2))) ws (Rm 7 3 8 92) #[(.ref us)] h0 (QF n0 (QrmUt Z tm L h0)) := by
  refine own_go hw (plainFor_of_name pn_18) #[vr us] (fun p e s m below meth c s₁ Pf hx hby hlk hown hnm hret hml hZ hh X0 e0 hPf Jf => ?_)
  have N0 := Fr.nil n0
  have KC0 := Keep.refl h0 [tm]
  have J := Jf d21
  refine gy (fun t k => aN X0 J 0 rfl rfl k) ?_
  refine own_gf X0 J 1 114 Via.refl e0 Fus (fun T767 X767 e767 => ?_)
  refine own_cf (y := own_y86) (rmTa hw G _ _ _ _ _ _ _ _ O0 Ets Fts Tp SKL g_tm) X767 J 2 141 133 134 142 143 144 145 146 82 147 e767 Ets 0 pd_44 (kF N0 fun _ T768 v768 X768 N768 q768 => ?_)
  obtain ⟨r_768, kr_768, zr_768, vsr_768, rfl, K768, f768_0, f768_1, r768_0, r768_1⟩ := q768
  have g_r_768 : n0 ≤ r_768 := Nat.le_trans (own_le O0) f768_1
  have sz_r_768 : h0.size ≤ r_768 := Nat.le_trans KC0.1 f768_1
  have O768 := O0.keep K768 (allS g_tm all0)
  have KC768 := KC0.trans K768 (allS (il 0) all0)
  show G_ 9 _ [(.ref r_768)]
  exact rA X768 hret hlk hPf J 3 ⟨⟨r_768, kr_768, zr_768, vsr_768, rfl, KC768, f768_0, sz_r_768, r768_0, r768_1⟩, N768⟩
theorem pn_82 : plainName "java/util/Arrays" = true := by first | (simp [plainName, overriddenIn]; done) | decide +kernel
def L82 : List (Nat × Instr × Nat) := [(0, a_2), (1, .ldc 110, 2), (3, .if_acmp .ne 10, 3), (6, i_1), (7, .anewarray 2, 3), (10, .goto 14, 3), (24, .astore_n 3, 1), (25, a_0), (26, .iconst 0, 1), (27, a_3), (28, .iconst 0, 1), (29, a_0), (30, .arraylength, 1), (31, i_1), (32, .invokestatic 304, 3), (35, .invokestatic 150, 3), (38, a_3), (39, .areturn, 1)]
theorem d82 : ∀ q ∈ L82, decode jdk_65_method_120_code q.1 = .ok q.2 := by decide +kernel
def QrmCO (Z : State) (zn : Int32) (vsx : (List Value)) (h0 : Heap) (v : Option Value) (h : Heap) : Prop := ∃ (r : Addr) (kr : ClassId) (zr : Int32) (vsr : (List Value)), (v = some (.ref r)) ∧ (Keep h0 h []) ∧ (Arv Z h r kr (.object S_2) zr vsr Value.null) ∧ (h0.size ≤ r) ∧ (zr = zn) ∧ (vsr = vsx)
abbrev own_y88 : MethodName := ⟨"java/util/Arrays", "copyOf", "([Ljava/lang/Object;ILjava/lang/Class;)[Ljava/lang/Object;"⟩
theorem rmCO (hw : HW a0 Z) (G : Gh Z vcs wI wA cA vF wP wD kD wE kE mT mU mL mO) (aa : Addr) (zn : Int32) (ka : ClassId) (vsx : (List Value)) (L : (List Addr)) (Ks : (List Int)) (h0 : Heap) (n0 : Nat) (O0 : Old Z n0 h0) (VA : Arv Z h0 aa ka (.object S_2) zn vsx Value.null) (SKL : SKs Z h0 L Ks) (hln : L.length ≤ 3) (hz : zn = Int32.ofNat L.length) (hv : vsx = L.map Value.ref) (hnz : ¬ (zn = (0 : Int32))) :
    MM l Z own_y88 jdk_65_method_120_code 4 (some (.array (.object S_2))) ws (Rm 1 1 3 60) #[(.ref aa), (.int zn), (.ref mO)] h0 (QF n0 (QrmCO Z zn vsx h0)) := by
  refine own_go hw (plainFor_of_name pn_82) #[vr aa, vi zn, vr mO, .unset] (fun p e s m below meth c s₁ Pf hx hby hlk hown hnm hret hml hZ hh X0 e0 hPf Jf => ?_)
  have N0 := Fr.nil n0
  have KC0 := Keep.refl h0 []
  have J := Jf d82
  rcases own_l3 hln with rfl | ⟨u1, rfl⟩ | ⟨u1, u2, rfl⟩ | ⟨u1, u2, u3, rfl⟩
  · exact absurd hz hnz
  · obtain ⟨ka, rfl, S1⟩ := sks1c SKL
    obtain rfl : zn = (1 : Int32) := hz
    obtain rfl : vsx = [.ref u1] := hv
    refine gy (fun t k => aN X0 J 0 rfl rfl k) ?_
    refine own_lm X0 J 1 510 G.2.2.2.2.2.2.2.2.2.2.2.2.2.2.2.2.2.2.2.1 e0 (fun T769 X769 e769 => ?_)
    refine gy (fun t k => jQ X769 J 2 rfl true (decide_eq_true rfl) 6 (iN X769 J 3 rfl rfl k)) ?_
    obtain ⟨T770, h770, k770, X770, e770, E770, A770, Ov770, st770⟩ := newR X769 hx hZ hown (ww hw 511 rfl) (ww hw 163 rfl) e769 (g := (mkF m 7 #[vr aa, vi 1, vr mO, .unset] [(.int 1)])) rfl (jd J 4 rfl) rfl (by decide) (cap := 1) (by decide) (by decide) (by decide) (by decide)
    obtain ⟨b770, g770⟩ : ∃ z, z = h0.size := ⟨_, rfl⟩
    rw [← g770] at A770 st770
    refine Go.by' st770 ?_
    have g_b770 : n0 ≤ b770 := Nat.le_trans (own_le O0) (Nat.le_of_eq g770.symm)
    have sz_b770 : h0.size ≤ b770 := Nat.le_trans KC0.1 (Nat.le_of_eq g770.symm)
    have O770 := O0.ext E770
    have KC770 := KC0.ext E770
    have V770 : Arv Z h770 b770 k770 (.object S_2) (1 : Int32) [.null] Value.null := (Arv.new A770 (by decide)).pad (pad_rep [] Value.null 1)
    show G_ 10 #[vr aa, vi 1, vr mO, .unset] [(.ref b770)]
    refine gy (fun t k => jG X770 J 5 rfl 24 (sAN X770 J 6 rfl #[vr aa, vi 1, vr mO, vr b770] (aN X770 J 7 rfl rfl (cI X770 J 8 rfl 0 (aN X770 J 9 rfl rfl (cI X770 J 10 rfl 0 (aN X770 J 11 rfl rfl k))))))) ?_
    refine Go.by' (fun t k => own_alen X770 hx hZ e770 (VA.ext E770) rfl rfl (jd J 12 rfl) k) ?_
    show G_ 31 #[vr aa, vi 1, vr mO, vr b770] [(.int 1), (.int 0), (.ref b770), (.int 0), (.ref aa)]
    refine gy (fun t k => iN X770 J 13 rfl rfl k) ?_
    refine own_cs (rmMi hw G ((1 : Int32)) ((1 : Int32)) _ _ O770 ) X770 J 14 512 411 412 413 e770 4 pd_17 (kP fun T772 v772 X772 e772 q772 => ?_)
    obtain ⟨r_772, rfl, r772_0⟩ := q772
    obtain rfl : r_772 = (1 : Int32) := by rcases r772_0 with ⟨h1, h2⟩ | ⟨h1, h2⟩ <;> first | exact h2 | exact absurd h1 (by decide)
    have c774 := ((SP.ext E770) S1)
    show G_ 35 _ [(.int 1), (.int 0), (.ref b770), (.int 0), (.ref aa)]
    refine own_ar X772 J 15 513 516 514 515 e772 (VA.ext E770) V770 [(.ref u1)] ⟨own_sto V770 Ov770 (Ins.of_exa c774.exa (ww hw 497 rfl)), trivial⟩ N0 g_b770 0 (fun T773 h773 _ X773 e773 K773 V773 N773 => ?_)
    have O773 := O770.keep K773 (allS g_b770 all0)
    have KC773 := KC770.trans K773 (allS (Or.inr sz_b770) all0)
    refine gy (fun t k => aN X773 J 16 rfl rfl k) ?_
    exact rA X773 hret hlk hPf J 17 ⟨⟨b770, k770, (1 : Int32), [(Value.ref u1)], rfl, (by rw [e773]; exact KC773), (by rw [e773]; exact V773), sz_b770, rfl, rfl⟩, N773⟩
  · obtain ⟨ka, kb, rfl, S1, S2⟩ := sks2c SKL
    obtain rfl : zn = (2 : Int32) := hz
    obtain rfl : vsx = [.ref u1, .ref u2] := hv
    refine gy (fun t k => aN X0 J 0 rfl rfl k) ?_
    refine own_lm X0 J 1 510 G.2.2.2.2.2.2.2.2.2.2.2.2.2.2.2.2.2.2.2.1 e0 (fun T775 X775 e775 => ?_)
    refine gy (fun t k => jQ X775 J 2 rfl true (decide_eq_true rfl) 6 (iN X775 J 3 rfl rfl k)) ?_
    obtain ⟨T776, h776, k776, X776, e776, E776, A776, Ov776, st776⟩ := newR X775 hx hZ hown (ww hw 511 rfl) (ww hw 163 rfl) e775 (g := (mkF m 7 #[vr aa, vi 2, vr mO, .unset] [(.int 2)])) rfl (jd J 4 rfl) rfl (by decide) (cap := 2) (by decide) (by decide) (by decide) (by decide)
    obtain ⟨b776, g776⟩ : ∃ z, z = h0.size := ⟨_, rfl⟩
    rw [← g776] at A776 st776
    refine Go.by' st776 ?_
    have g_b776 : n0 ≤ b776 := Nat.le_trans (own_le O0) (Nat.le_of_eq g776.symm)
    have sz_b776 : h0.size ≤ b776 := Nat.le_trans KC0.1 (Nat.le_of_eq g776.symm)
    have O776 := O0.ext E776
    have KC776 := KC0.ext E776
    have V776 : Arv Z h776 b776 k776 (.object S_2) (2 : Int32) [.null, .null] Value.null := (Arv.new A776 (by decide)).pad (pad_rep [] Value.null 2)
    show G_ 10 #[vr aa, vi 2, vr mO, .unset] [(.ref b776)]
    refine gy (fun t k => jG X776 J 5 rfl 24 (sAN X776 J 6 rfl #[vr aa, vi 2, vr mO, vr b776] (aN X776 J 7 rfl rfl (cI X776 J 8 rfl 0 (aN X776 J 9 rfl rfl (cI X776 J 10 rfl 0 (aN X776 J 11 rfl rfl k))))))) ?_
    refine Go.by' (fun t k => own_alen X776 hx hZ e776 (VA.ext E776) rfl rfl (jd J 12 rfl) k) ?_
    show G_ 31 #[vr aa, vi 2, vr mO, vr b776] [(.int 2), (.int 0), (.ref b776), (.int 0), (.ref aa)]
    refine gy (fun t k => iN X776 J 13 rfl rfl k) ?_
    refine own_cs (rmMi hw G ((2 : Int32)) ((2 : Int32)) _ _ O776 ) X776 J 14 512 411 412 413 e776 4 pd_17 (kP fun T778 v778 X778 e778 q778 => ?_)
    obtain ⟨r_778, rfl, r778_0⟩ := q778
    obtain rfl : r_778 = (2 : Int32) := by rcases r778_0 with ⟨h1, h2⟩ | ⟨h1, h2⟩ <;> first | exact h2 | exact absurd h1 (by decide)
    have c780 := ((SP.ext E776) S1)
    have c781 := ((SP.ext E776) S2)
    show G_ 35 _ [(.int 2), (.int 0), (.ref b776), (.int 0), (.ref aa)]
    refine own_ar X778 J 15 513 516 514 515 e778 (VA.ext E776) V776 [(.ref u1), (.ref u2)] ⟨own_sto V776 Ov776 (Ins.of_exa c780.exa (ww hw 497 rfl)), own_sto V776 Ov776 (Ins.of_exa c781.exa (ww hw 497 rfl)), trivial⟩ N0 g_b776 0 (fun T779 h779 _ X779 e779 K779 V779 N779 => ?_)
    have O779 := O776.keep K779 (allS g_b776 all0)
    have KC779 := KC776.trans K779 (allS (Or.inr sz_b776) all0)
    refine gy (fun t k => aN X779 J 16 rfl rfl k) ?_
    exact rA X779 hret hlk hPf J 17 ⟨⟨b776, k776, (2 : Int32), [(Value.ref u1), (Value.ref u2)], rfl, (by rw [e779]; exact KC779), (by rw [e779]; exact V779), sz_b776, rfl, rfl⟩, N779⟩
  · obtain ⟨ka, kb, kc, rfl, S1, S2, S3⟩ := sks3c SKL
    obtain rfl : zn = (3 : Int32) := hz
    obtain rfl : vsx = [.ref u1, .ref u2, .ref u3] := hv
    refine gy (fun t k => aN X0 J 0 rfl rfl k) ?_
    refine own_lm X0 J 1 510 G.2.2.2.2.2.2.2.2.2.2.2.2.2.2.2.2.2.2.2.1 e0 (fun T782 X782 e782 => ?_)
    refine gy (fun t k => jQ X782 J 2 rfl true (decide_eq_true rfl) 6 (iN X782 J 3 rfl rfl k)) ?_
    obtain ⟨T783, h783, k783, X783, e783, E783, A783, Ov783, st783⟩ := newR X782 hx hZ hown (ww hw 511 rfl) (ww hw 163 rfl) e782 (g := (mkF m 7 #[vr aa, vi 3, vr mO, .unset] [(.int 3)])) rfl (jd J 4 rfl) rfl (by decide) (cap := 3) (by decide) (by decide) (by decide) (by decide)
    obtain ⟨b783, g783⟩ : ∃ z, z = h0.size := ⟨_, rfl⟩
    rw [← g783] at A783 st783
    refine Go.by' st783 ?_
    have g_b783 : n0 ≤ b783 := Nat.le_trans (own_le O0) (Nat.le_of_eq g783.symm)
    have sz_b783 : h0.size ≤ b783 := Nat.le_trans KC0.1 (Nat.le_of_eq g783.symm)
    have O783 := O0.ext E783
    have KC783 := KC0.ext E783
    have V783 : Arv Z h783 b783 k783 (.object S_2) (3 : Int32) [.null, .null, .null] Value.null := (Arv.new A783 (by decide)).pad (pad_rep [] Value.null 3)
    show G_ 10 #[vr aa, vi 3, vr mO, .unset] [(.ref b783)]
    refine gy (fun t k => jG X783 J 5 rfl 24 (sAN X783 J 6 rfl #[vr aa, vi 3, vr mO, vr b783] (aN X783 J 7 rfl rfl (cI X783 J 8 rfl 0 (aN X783 J 9 rfl rfl (cI X783 J 10 rfl 0 (aN X783 J 11 rfl rfl k))))))) ?_
    refine Go.by' (fun t k => own_alen X783 hx hZ e783 (VA.ext E783) rfl rfl (jd J 12 rfl) k) ?_
    show G_ 31 #[vr aa, vi 3, vr mO, vr b783] [(.int 3), (.int 0), (.ref b783), (.int 0), (.ref aa)]
    refine gy (fun t k => iN X783 J 13 rfl rfl k) ?_
    refine own_cs (rmMi hw G ((3 : Int32)) ((3 : Int32)) _ _ O783 ) X783 J 14 512 411 412 413 e783 4 pd_17 (kP fun T785 v785 X785 e785 q785 => ?_)
    obtain ⟨r_785, rfl, r785_0⟩ := q785
    obtain rfl : r_785 = (3 : Int32) := by rcases r785_0 with ⟨h1, h2⟩ | ⟨h1, h2⟩ <;> first | exact h2 | exact absurd h1 (by decide)
    have c787 := ((SP.ext E783) S1)
    have c788 := ((SP.ext E783) S2)
    have c789 := ((SP.ext E783) S3)
    show G_ 35 _ [(.int 3), (.int 0), (.ref b783), (.int 0), (.ref aa)]
    refine own_ar X785 J 15 513 516 514 515 e785 (VA.ext E783) V783 [(.ref u1), (.ref u2), (.ref u3)] ⟨own_sto V783 Ov783 (Ins.of_exa c787.exa (ww hw 497 rfl)), own_sto V783 Ov783 (Ins.of_exa c788.exa (ww hw 497 rfl)), own_sto V783 Ov783 (Ins.of_exa c789.exa (ww hw 497 rfl)), trivial⟩ N0 g_b783 0 (fun T786 h786 _ X786 e786 K786 V786 N786 => ?_)
    have O786 := O783.keep K786 (allS g_b783 all0)
    have KC786 := KC783.trans K786 (allS (Or.inr sz_b783) all0)
    refine gy (fun t k => aN X786 J 16 rfl rfl k) ?_
    exact rA X786 hret hlk hPf J 17 ⟨⟨b783, k783, (3 : Int32), [(Value.ref u1), (Value.ref u2), (Value.ref u3)], rfl, (by rw [e786]; exact KC786), (by rw [e786]; exact V786), sz_b783, rfl, rfl⟩, N786⟩
def QrmAC (v : Option Value) : Prop := (v = none)
theorem rmAC (hw : HW a0 Z) (G : Gh Z vcs wI wA cA vF wP wD kD wE kE mT mU mL mO) (al : Addr) (h0 : Heap) (n0 : Nat) (O0 : Old Z n0 h0) :
    MM l Z own_y54 jdk_22_method_1_code 1 none ws (Rm 1 0 0 12) #[(.ref al)] h0 (QP h0 QrmAC) := by
  refine own_go hw (plainFor_of_name pn_15) #[vr al] (fun p e s m below meth c s₁ Pf hx hby hlk hown hnm hret hml hZ hh X0 e0 hPf Jf => ?_)
  have J := Jf d15
  refine gy (fun t k => aN X0 J 0 rfl rfl k) ?_
  refine own_oi X0 J 1 84 30 31 e0 0 (fun T791 X791 e791 => ?_)
  exact rV X791 hret hlk hPf J 2 ⟨rfl, rfl, e791⟩
theorem pn_20 : plainName S_10 = true := by first | (simp [plainName, overriddenIn]; done) | decide +kernel
def L20 : List (Nat × Instr × Nat) := [(0, a_0), (1, .invokespecial 1, 3), (4, a_0), (5, .iconst 0, 1), (6, .putfield 7, 3), (9, .return_, 1)]
theorem d20 : ∀ q ∈ L20, decode jdk_39_method_1_code q.1 = .ok q.2 := by decide +kernel
def QrmAB (Z : State) (al : Addr) (h0 : Heap) (v : Option Value) (h : Heap) : Prop := (v = none) ∧ (Keep h0 h [al]) ∧ (Exa Z h al S_4) ∧ (Fld Z h al S_10 "modCount" "I" (.int 0)) ∧ (Fld Z h al S_4 "elementData" S_9 .null) ∧ (Fld Z h al S_4 "size" "I" (.int 0))
abbrev own_y89 : MethodName := ⟨S_10, "<init>", "()V"⟩
theorem rmAB (hw : HW a0 Z) (G : Gh Z vcs wI wA cA vF wP wD kD wE kE mT mU mL mO) (al : Addr) (h0 : Heap) (n0 : Nat) (O0 : Old Z n0 h0) (EX : Exa Z h0 al S_4) (FM : Fld Z h0 al S_10 "modCount" "I" (.int 0)) (F_elementData : Fld Z h0 al S_4 "elementData" S_9 .null) (F_size : Fld Z h0 al S_4 "size" "I" (.int 0)) (g_al : n0 ≤ al) :
    MM l Z own_y89 jdk_39_method_1_code 1 none ws (Rm 2 0 0 24) #[(.ref al)] h0 (QF n0 (QrmAB Z al h0)) := by
  refine own_go hw (plainFor_of_name pn_20) #[vr al] (fun p e s m below meth c s₁ Pf hx hby hlk hown hnm hret hml hZ hh X0 e0 hPf Jf => ?_)
  have N0 := Fr.nil n0
  have KC0 := Keep.refl h0 [al]
  have J := Jf d20
  refine gy (fun t k => aN X0 J 0 rfl rfl k) ?_
  refine own_ci (rmAC hw G al _ _ O0 ) X0 J 1 128 79 82 83 e0 0 pd_35 (kP fun T792 v792 X792 e792 q792 => ?_)
  obtain rfl := q792
  show G_ 4 _ []
  refine gy (fun t k => aN X792 J 2 rfl rfl (cI X792 J 3 rfl 0 k)) ?_
  refine own_pf (ty := .int) (v' := (.int 0)) X792 J 4 130 Via.refl e792 FM EX (Or.inl (ww hw 131 rfl)) 117 rfl rfl N0 g_al (fun T793 h793 _ X793 e793 W793 N793 => ?_)
  have Fw793 : Fld Z h793 al S_10 "modCount" "I" (Value.int 0) := FM.same W793
  have O793 := O0.wr W793 g_al
  have KC793 := KC0.wr W793 (il 0)
  exact rV X793 hret hlk hPf J 5 ⟨⟨rfl, (by rw [e793]; exact KC793), (by rw [e793]; exact (EX.wr W793)), (by rw [e793]; exact Fw793), (by rw [e793]; exact (F_elementData.other W793 (Or.inr (slot_ne (Or.inl (ww hw 249 rfl)) (Or.inl (ww hw 131 rfl)) (by decide) (t := (.array (.object S_2))) (t' := .int) (by decide) (by decide))))), (by rw [e793]; exact (F_size.other W793 (Or.inr (slot_ne (Or.inl (ww hw 246 rfl)) (Or.inl (ww hw 131 rfl)) (by decide) (t := .int) (t' := .int) (by decide) (by decide)))))⟩, N793⟩
theorem pn_34 : plainName S_4 = true := by first | (simp [plainName, overriddenIn]; done) | decide +kernel
def L34 : List (Nat × Instr × Nat) := [(0, a_0), (1, .invokespecial 1, 3), (4, a_0), (5, .getstatic 39, 3), (8, .putfield 9, 3), (11, .return_, 1)]
theorem d34 : ∀ q ∈ L34, decode jdk_38_method_2_code q.1 = .ok q.2 := by decide +kernel
def QrmAL (Z : State) (wD : Addr) (al : Addr) (h0 : Heap) (v : Option Value) (h : Heap) : Prop := (v = none) ∧ (Keep h0 h [al]) ∧ (Exa Z h al S_4) ∧ (Fld Z h al S_10 "modCount" "I" (.int 0)) ∧ (Fld Z h al S_4 "elementData" S_9 (.ref wD)) ∧ (Fld Z h al S_4 "size" "I" (.int 0))
abbrev own_y90 : MethodName := ⟨S_4, "<init>", "()V"⟩
theorem rmAL (hw : HW a0 Z) (G : Gh Z vcs wI wA cA vF wP wD kD wE kE mT mU mL mO) (al : Addr) (h0 : Heap) (n0 : Nat) (O0 : Old Z n0 h0) (EX : Exa Z h0 al S_4) (FM : Fld Z h0 al S_10 "modCount" "I" (.int 0)) (F_elementData : Fld Z h0 al S_4 "elementData" S_9 .null) (F_size : Fld Z h0 al S_4 "size" "I" (.int 0)) (g_al : n0 ≤ al) :
    MM l Z own_y90 jdk_38_method_2_code 1 none ws (Rm 3 0 0 36) #[(.ref al)] h0 (QF n0 (QrmAL Z wD al h0)) := by
  refine own_go hw (plainFor_of_name pn_34) #[vr al] (fun p e s m below meth c s₁ Pf hx hby hlk hown hnm hret hml hZ hh X0 e0 hPf Jf => ?_)
  have N0 := Fr.nil n0
  have KC0 := Keep.refl h0 [al]
  have J := Jf d34
  refine gy (fun t k => aN X0 J 0 rfl rfl k) ?_
  refine own_ci (rmAB hw G _ _ _ O0 EX FM F_elementData F_size g_al) X0 J 1 122 123 126 127 e0 0 pd_35 (kF N0 fun _ T794 v794 X794 N794 q794 => ?_)
  obtain ⟨rfl, K794, f794_0, f794_1, f794_2, f794_3⟩ := q794
  have O794 := O0.keep K794 (allS g_al all0)
  have KC794 := KC0.trans K794 (allS (il 0) all0)
  show G_ 4 _ []
  refine gy (fun t k => aN X794 J 2 rfl rfl k) ?_
  refine own_gs X794 J 3 253 Via.refl rfl (G.2.2.2.2.2.2.2.2.2.2.1.ext O794.2) (fun T795 X795 e795 => ?_)
  refine own_pf (ty := (.array (.object S_2))) (v' := (.ref wD)) X795 J 4 248 Via.refl e795 f794_2 f794_0 (Or.inl (ww hw 249 rfl)) 117 rfl rfl N794 g_al (fun T796 h796 _ X796 e796 W796 N796 => ?_)
  have Fw796 : Fld Z h796 al S_4 "elementData" S_9 (Value.ref wD) := f794_2.same W796
  have O796 := O794.wr W796 g_al
  have KC796 := KC794.wr W796 (il 0)
  exact rV X796 hret hlk hPf J 5 ⟨⟨rfl, (by rw [e796]; exact KC796), (by rw [e796]; exact (f794_0.wr W796)), (by rw [e796]; exact (f794_1.other W796 (Or.inr (slot_ne (Or.inl (ww hw 131 rfl)) (Or.inl (ww hw 249 rfl)) (by decide) (t := .int) (t' := (.array (.object S_2))) (by decide) (by decide))))), (by rw [e796]; exact Fw796), (by rw [e796]; exact (f794_3.other W796 (Or.inr (slot_ne (Or.inl (ww hw 246 rfl)) (Or.inl (ww hw 249 rfl)) (by decide) (t := .int) (t' := (.array (.object S_2))) (by decide) (by decide)))))⟩, N796⟩
def L92 : List (Nat × Instr × Nat) := [(0, i_0), (1, i_1), (2, .if_icmp .lt 7, 3), (9, i_1), (5, i_0), (6, .goto 4, 3), (10, .ireturn, 1)]
theorem d92 : ∀ q ∈ L92, decode jdk_29_method_65_code q.1 = .ok q.2 := by decide +kernel
def QrmMax (ia : Int32) (ib : Int32) (v : Option Value) : Prop := ∃ (r : Int32), (v = some (.int r)) ∧ ((ia < ib ∧ r = ib) ∨ (¬ (ia < ib) ∧ r = ia))
abbrev own_y91 : MethodName := ⟨"java/lang/Math", "max", "(II)I"⟩
theorem rmMax (hw : HW a0 Z) (G : Gh Z vcs wI wA cA vF wP wD kD wE kE mT mU mL mO) (ia : Int32) (ib : Int32) (h0 : Heap) (n0 : Nat) (O0 : Old Z n0 h0) :
    MM l Z own_y91 jdk_29_method_65_code 2 (some .int) ws (Rm 0 0 0 0) #[(.int ia), (.int ib)] h0 (QP h0 (QrmMax ia ib)) := by
  refine own_go hw (Jvm.Free.JP.mathPlain rfl (by decide +kernel)) #[vi ia, vi ib] (fun p e s m below meth c s₁ Pf hx hby hlk hown hnm hret hml hZ hh X0 e0 hPf Jf => ?_)
  have J := Jf d92
  refine gy (fun t k => iN X0 J 0 rfl rfl (iN X0 J 1 rfl rfl k)) ?_
  have jn798 : ∀ (T' : State) (w798_0 : Int32), Like X0 T' → T'.heap = h0 → ((ia < ib ∧ w798_0 = ib) ∨ (¬ (ia < ib) ∧ w798_0 = ia)) → Go p.tables e below Pf (T'.setTop (mkF m 10 #[vi ia, vi ib] [(.int w798_0)])) := by
    intro T798 w798_0 X798 e798 hm798
    unfold Like at X798
    exact rI X798 hret hlk hPf J 6 ⟨⟨w798_0, rfl, hm798⟩, rfl, e798⟩
  by_cases hc799 : ia < ib
  · refine gy (fun t k => cY X0 J 2 rfl (tlt hc799).1 9 (iN X0 J 3 rfl rfl k)) ?_
    exact jn798 s₁ (ib) X0 e0  (Or.inl ⟨hc799, rfl⟩)
  · refine gy (fun t k => cN X0 J 2 rfl (flt hc799).1 (iN X0 J 4 rfl rfl (jG X0 J 5 rfl 10 k))) ?_
    exact jn798 s₁ (ia) X0 e0  (Or.inr ⟨hc799, rfl⟩)
def L91 : List (Nat × Instr × Nat) := [(0, a_0), (1, .getfield 9, 3), (4, .arraylength, 1), (5, .istore_n 2, 1), (6, i_2), (7, .ifCond .gt 13, 3), (10, a_0), (11, .getfield 9, 3), (14, .getstatic 39, 3), (17, .if_acmp .eq 28, 3), (45, a_0), (46, .bipush 10, 2), (48, i_1), (49, .invokestatic 79, 3), (52, .anewarray 7, 3), (55, .dup_x1, 1), (56, .putfield 9, 3), (59, .areturn, 1)]
theorem d91 : ∀ q ∈ L91, decode jdk_38_method_6_code q.1 = .ok q.2 := by decide +kernel
def QrmG1 (Z : State) (al : Addr) (mc : Int32) (h0 : Heap) (v : Option Value) (h : Heap) : Prop := ∃ (r : Addr) (kk : ClassId), (v = some (.ref r)) ∧ (Keep h0 h [al]) ∧ (Arv Z h r kk (.object S_2) (10 : Int32) [.null, .null, .null, .null, .null, .null, .null, .null, .null, .null] Value.null) ∧ (h0.size ≤ r) ∧ (Exa Z h al S_4) ∧ (Fld Z h al S_4 "elementData" S_9 (.ref r)) ∧ (Fld Z h al S_4 "size" "I" (.int 0)) ∧ (Fld Z h al S_10 "modCount" "I" (.int mc)) ∧ (Ovr Z kk S_2)
abbrev own_y92 : MethodName := ⟨S_4, "grow", "(I)[Ljava/lang/Object;"⟩
theorem rmG1 (hw : HW a0 Z) (G : Gh Z vcs wI wA cA vF wP wD kD wE kE mT mU mL mO) (al : Addr) (mc : Int32) (h0 : Heap) (n0 : Nat) (O0 : Old Z n0 h0) (EX : Exa Z h0 al S_4) (FS : Fld Z h0 al S_4 "size" "I" (.int 0)) (FE : Fld Z h0 al S_4 "elementData" S_9 (.ref wD)) (FM : Fld Z h0 al S_10 "modCount" "I" (.int mc)) (g_al : n0 ≤ al) :
    MM l Z own_y92 jdk_38_method_6_code 4 (some (.array (.object S_2))) ws (Rm 1 1 10 14) #[(.ref al), (.int 1)] h0 (QF n0 (QrmG1 Z al mc h0)) := by
  refine own_go hw (plainFor_of_name pn_34) #[vr al, vi 1, .unset, .unset] (fun p e s m below meth c s₁ Pf hx hby hlk hown hnm hret hml hZ hh X0 e0 hPf Jf => ?_)
  have N0 := Fr.nil n0
  have KC0 := Keep.refl h0 [al]
  have J := Jf d91
  refine gy (fun t k => aN X0 J 0 rfl rfl k) ?_
  refine own_gf X0 J 1 248 Via.refl e0 FE (fun T800 X800 e800 => ?_)
  refine Go.by' (fun t k => own_alen X800 hx hZ e800 (G.2.2.2.2.2.2.2.2.2.2.2.2.1.ext O0.2) rfl rfl (jd J 2 rfl) k) ?_
  show G_ 5 #[vr al, vi 1, .unset, .unset] [(.int 0)]
  refine gy (fun t k => sIN X800 J 3 rfl #[vr al, vi 1, vi 0, .unset] (iN X800 J 4 rfl rfl (fN X800 J 5 rfl ((if0 _ _).trans (flt (by decide)).2.2.1) (aN X800 J 6 rfl rfl k)))) ?_
  refine own_gf X800 J 7 248 Via.refl e800 FE (fun T802 X802 e802 => ?_)
  refine own_gs X802 J 8 253 Via.refl e802 (G.2.2.2.2.2.2.2.2.2.2.1.ext O0.2) (fun T803 X803 e803 => ?_)
  refine gy (fun t k => jQ X803 J 9 rfl true (decide_eq_true rfl) 45 (aN X803 J 10 rfl rfl (cB X803 J 11 rfl 10 (iN X803 J 12 rfl rfl k)))) ?_
  refine own_cs (rmMax hw G ((10 : Int32)) ((1 : Int32)) _ _ O0 ) X803 J 13 558 559 412 560 e803 1 pd_17 (kP fun T804 v804 X804 e804 q804 => ?_)
  obtain ⟨r_804, rfl, r804_0⟩ := q804
  obtain rfl : r_804 = (10 : Int32) := by rcases r804_0 with ⟨h1, h2⟩ | ⟨h1, h2⟩ <;> first | exact h2 | exact absurd h1 (by decide)
  obtain ⟨T805, h805, k805, X805, e805, E805, A805, Ov805, st805⟩ := newR X804 hx hZ hown (ww hw 561 rfl) (ww hw 163 rfl) e804 (g := (mkF m 52 #[vr al, vi 1, vi 0, .unset] [(.int 10), (.ref al)])) rfl (jd J 14 rfl) rfl (by decide) (cap := 10) (by decide) (by decide) (by decide) (by decide)
  obtain ⟨b805, g805⟩ : ∃ z, z = h0.size := ⟨_, rfl⟩
  rw [← g805] at A805 st805
  refine Go.by' st805 ?_
  have g_b805 : n0 ≤ b805 := Nat.le_trans (own_le O0) (Nat.le_of_eq g805.symm)
  have sz_b805 : h0.size ≤ b805 := Nat.le_trans KC0.1 (Nat.le_of_eq g805.symm)
  have O805 := O0.ext E805
  have KC805 := KC0.ext E805
  have V805 : Arv Z h805 b805 k805 (.object S_2) (10 : Int32) [.null, .null, .null, .null, .null, .null, .null, .null, .null, .null] Value.null := (Arv.new A805 (by decide)).pad (pad_rep [] Value.null 10)
  refine Go.by' (fun t k => XS.dupX1 X805.here hx rfl (jd J 15 rfl) rfl rfl rfl k) ?_
  show G_ 56 #[vr al, vi 1, vi 0, .unset] [(.ref b805), (.ref al), (.ref b805)]
  refine own_pf (ty := (.array (.object S_2))) (v' := (.ref b805)) X805 J 16 248 Via.refl e805 (FE.ext E805) (EX.ext E805) (Or.inl (ww hw 249 rfl)) 117 rfl rfl N0 g_al (fun T806 h806 _ X806 e806 W806 N806 => ?_)
  have Fw806 : Fld Z h806 al S_4 "elementData" S_9 (Value.ref b805) := (FE.ext E805).same W806
  have O806 := O805.wr W806 g_al
  have KC806 := KC805.wr W806 (il 0)
  have c807 := ((EX.ext E805).wr W806)
  have c808 := ((FS.ext E805).other W806 (Or.inr (slot_ne (Or.inl (ww hw 246 rfl)) (Or.inl (ww hw 249 rfl)) (by decide) (t := .int) (t' := (.array (.object S_2))) (by decide) (by decide))))
  have c809 := ((FM.ext E805).other W806 (Or.inr (slot_ne (Or.inl (ww hw 131 rfl)) (Or.inl (ww hw 249 rfl)) (by decide) (t := .int) (t' := (.array (.object S_2))) (by decide) (by decide))))
  exact rA X806 hret hlk hPf J 17 ⟨⟨b805, k805, rfl, (by rw [e806]; exact KC806), (by rw [e806]; exact (V805.other W806 (Nat.ne_of_gt (Nat.lt_of_lt_of_le EX.lt (Nat.le_of_eq g805.symm))))), sz_b805, (by rw [e806]; exact c807), (by rw [e806]; exact Fw806), (by rw [e806]; exact c808), (by rw [e806]; exact c809), Ov805⟩, N806⟩
theorem pd_45 : parseMethodDescriptor "(I)[Ljava/lang/Object;" = some ⟨[.int], some (.array (.object S_2))⟩ := by decide +kernel
def L90 : List (Nat × Instr × Nat) := [(0, a_0), (1, a_0), (2, .getfield 48, 3), (5, .iconst 1, 1), (6, .iadd, 1), (7, .invokevirtual 69, 3), (10, .areturn, 1)]
theorem d90 : ∀ q ∈ L90, decode jdk_38_method_7_code q.1 = .ok q.2 := by decide +kernel
def QrmG0 (Z : State) (al : Addr) (mc : Int32) (h0 : Heap) (v : Option Value) (h : Heap) : Prop := ∃ (r : Addr) (kk : ClassId), (v = some (.ref r)) ∧ (Keep h0 h [al]) ∧ (Arv Z h r kk (.object S_2) (10 : Int32) [.null, .null, .null, .null, .null, .null, .null, .null, .null, .null] Value.null) ∧ (h0.size ≤ r) ∧ (Exa Z h al S_4) ∧ (Fld Z h al S_4 "elementData" S_9 (.ref r)) ∧ (Fld Z h al S_4 "size" "I" (.int 0)) ∧ (Fld Z h al S_10 "modCount" "I" (.int mc)) ∧ (Ovr Z kk S_2)
abbrev own_y93 : MethodName := ⟨S_4, "grow", "()[Ljava/lang/Object;"⟩
theorem rmG0 (hw : HW a0 Z) (G : Gh Z vcs wI wA cA vF wP wD kD wE kE mT mU mL mO) (al : Addr) (mc : Int32) (h0 : Heap) (n0 : Nat) (O0 : Old Z n0 h0) (EX : Exa Z h0 al S_4) (FS : Fld Z h0 al S_4 "size" "I" (.int 0)) (FE : Fld Z h0 al S_4 "elementData" S_9 (.ref wD)) (FM : Fld Z h0 al S_10 "modCount" "I" (.int mc)) (g_al : n0 ≤ al) :
    MM l Z own_y93 jdk_38_method_7_code 1 (some (.array (.object S_2))) ws (Rm 2 1 10 29) #[(.ref al)] h0 (QF n0 (QrmG0 Z al mc h0)) := by
  refine own_go hw (plainFor_of_name pn_34) #[vr al] (fun p e s m below meth c s₁ Pf hx hby hlk hown hnm hret hml hZ hh X0 e0 hPf Jf => ?_)
  have N0 := Fr.nil n0
  have KC0 := Keep.refl h0 [al]
  have J := Jf d90
  refine gy (fun t k => aN X0 J 0 rfl rfl (aN X0 J 1 rfl rfl k)) ?_
  refine own_gf X0 J 2 245 Via.refl e0 FS (fun T810 X810 e810 => ?_)
  refine gy (fun t k => cI X810 J 3 rfl 1 (oA X810 J 4 rfl (1 : Int32) k)) ?_
  refine own_cp (rmG1 hw G _ _ _ _ O0 EX FS FE FM g_al) X810 J 5 553 555 556 554 118 557 e810 EX 0 pd_45 (kF N0 fun _ T811 v811 X811 N811 q811 => ?_)
  obtain ⟨r_811, kk_811, rfl, K811, f811_0, f811_1, f811_2, f811_3, f811_4, f811_5, r811_0⟩ := q811
  have g_r_811 : n0 ≤ r_811 := Nat.le_trans (own_le O0) f811_1
  have sz_r_811 : h0.size ≤ r_811 := Nat.le_trans KC0.1 f811_1
  have O811 := O0.keep K811 (allS g_al all0)
  have KC811 := KC0.trans K811 (allS (il 0) all0)
  show G_ 10 _ [(.ref r_811)]
  exact rA X811 hret hlk hPf J 6 ⟨⟨r_811, kk_811, rfl, KC811, f811_0, sz_r_811, f811_2, f811_3, f811_4, f811_5, r811_0⟩, N811⟩
def L89 : List (Nat × Instr × Nat) := [(0, i_3), (1, a_2), (2, .arraylength, 1), (3, .if_icmp .ne 8, 3), (6, a_0), (7, .invokevirtual 129, 3), (10, .astore_n 2, 1), (11, a_2), (12, i_3), (13, a_1), (14, .aastore, 1), (15, a_0), (16, i_3), (17, .iconst 1, 1), (18, .iadd, 1), (19, .putfield 48, 3), (22, .return_, 1)]
theorem d89 : ∀ q ∈ L89, decode jdk_38_method_24_code q.1 = .ok q.2 := by decide +kernel
def QrmA3_0 (Z : State) (al : Addr) (ob : Addr) (mc : Int32) (h0 : Heap) (v : Option Value) (h : Heap) : Prop := ∃ (r : Addr) (kk : ClassId), (v = none) ∧ (Keep h0 h [al]) ∧ (Arv Z h r kk (.object S_2) (10 : Int32) [(.ref ob), .null, .null, .null, .null, .null, .null, .null, .null, .null] Value.null) ∧ (h0.size ≤ r) ∧ (Exa Z h al S_4) ∧ (Fld Z h al S_4 "elementData" S_9 (.ref r)) ∧ (Fld Z h al S_4 "size" "I" (.int 1)) ∧ (Fld Z h al S_10 "modCount" "I" (.int mc)) ∧ (Ovr Z kk S_2)
abbrev own_y94 : MethodName := ⟨S_4, "add", "(Ljava/lang/Object;[Ljava/lang/Object;I)V"⟩
theorem rmA3_0 (hw : HW a0 Z) (G : Gh Z vcs wI wA cA vF wP wD kD wE kE mT mU mL mO) (al : Addr) (ob : Addr) (mc : Int32) (h0 : Heap) (n0 : Nat) (O0 : Old Z n0 h0) (EX : Exa Z h0 al S_4) (FS : Fld Z h0 al S_4 "size" "I" (.int 0)) (FE : Fld Z h0 al S_4 "elementData" S_9 (.ref wD)) (FM : Fld Z h0 al S_10 "modCount" "I" (.int mc)) (g_al : n0 ≤ al) (EO : Exa Z h0 ob S_3) :
    MM l Z own_y94 jdk_38_method_24_code 4 none ws (Rm 3 1 10 41) #[(.ref al), (.ref ob), (.ref wD), (.int 0)] h0 (QF n0 (QrmA3_0 Z al ob mc h0)) := by
  refine own_go hw (plainFor_of_name pn_34) #[vr al, vr ob, vr wD, vi 0] (fun p e s m below meth c s₁ Pf hx hby hlk hown hnm hret hml hZ hh X0 e0 hPf Jf => ?_)
  have N0 := Fr.nil n0
  have KC0 := Keep.refl h0 [al]
  have J := Jf d89
  refine gy (fun t k => iN X0 J 0 rfl rfl (aN X0 J 1 rfl rfl k)) ?_
  refine Go.by' (fun t k => own_alen X0 hx hZ e0 (G.2.2.2.2.2.2.2.2.2.2.2.2.1.ext O0.2) rfl rfl (jd J 2 rfl) k) ?_
  show G_ 3 #[vr al, vr ob, vr wD, vi 0] [(.int 0), (.int 0)]
  refine gy (fun t k => cN X0 J 3 rfl (teq (by decide)).2 (aN X0 J 4 rfl rfl k)) ?_
  refine own_cp (rmG0 hw G _ _ _ _ O0 EX FS FE FM g_al) X0 J 5 548 550 551 549 118 552 e0 EX 0 pd_44 (kF N0 fun _ T813 v813 X813 N813 q813 => ?_)
  obtain ⟨r_813, kk_813, rfl, K813, f813_0, f813_1, f813_2, f813_3, f813_4, f813_5, r813_0⟩ := q813
  have g_r_813 : n0 ≤ r_813 := Nat.le_trans (own_le O0) f813_1
  have sz_r_813 : h0.size ≤ r_813 := Nat.le_trans KC0.1 f813_1
  have O813 := O0.keep K813 (allS g_al all0)
  have KC813 := KC0.trans K813 (allS (il 0) all0)
  show G_ 10 _ [(.ref r_813)]
  refine gy (fun t k => sAN X813 J 6 rfl #[vr al, vr ob, vr r_813, vi 0] (aN X813 J 7 rfl rfl (iN X813 J 8 rfl rfl (aN X813 J 9 rfl rfl k)))) ?_
  obtain ⟨cl814, Ar814, q814, S814, P814, H814, G814⟩ := (id f813_0)
  have hin814 : ¬ ((0 : Int32) < 0 ∨ cl814.slots.size ≤ ((0 : Int32)).toNatClampNeg) := inb_of S814 ⟨by decide, by decide⟩
  obtain ⟨T815, h815, X815, e815, W815, st815⟩ := stR X813 hx hZ rfl Ar814 (j := (0 : Int32)) hin814 rfl (Sto.ofV Ar814 q814 r813_0 (Ins.of_exa (EO.keep K813) (ww hw 497 rfl))) (g := (mkF m 14 #[vr al, vr ob, vr r_813, vi 0] [(.ref ob), (.int 0), (.ref r_813)])) rfl rfl (jd J 10 rfl)
  refine Go.by' st815 ?_
  have V815 : Arv Z h815 r_813 kk_813 (.object S_2) (10 : Int32) [(.ref ob), .null, .null, .null, .null, .null, .null, .null, .null, .null] Value.null := Arv.set Ar814 q814 S814 P814 H814 G814 rfl W815 0 rfl (Nat.le_of_ble_eq_true rfl)
  have N815 := Fr.snoc X815 N813 g_r_813
  obtain ⟨lc815, X815, N815⟩ := own_pack X815 N815
  have O815 := O813.wr W815 g_r_813
  have KC815 := KC813.wr W815 (Or.inr sz_r_813)
  show G_ 15 #[vr al, vr ob, vr r_813, vi 0] []
  refine gy (fun t k => aN X815 J 11 rfl rfl (iN X815 J 12 rfl rfl (cI X815 J 13 rfl 1 (oA X815 J 14 rfl (1 : Int32) k)))) ?_
  refine own_pf (ty := .int) (v' := (.int 1)) X815 J 15 245 Via.refl e815 (f813_4.other W815 (Or.inl (Nat.ne_of_lt (Nat.lt_of_lt_of_le EX.lt f813_1)))) (f813_2.wr W815) (Or.inl (ww hw 246 rfl)) 117 rfl rfl N815 g_al (fun T816 h816 _ X816 e816 W816 N816 => ?_)
  have Fw816 : Fld Z h816 al S_4 "size" "I" (Value.int 1) := (f813_4.other W815 (Or.inl (Nat.ne_of_lt (Nat.lt_of_lt_of_le EX.lt f813_1)))).same W816
  have O816 := O815.wr W816 g_al
  have KC816 := KC815.wr W816 (il 0)
  have c817 := ((f813_2.wr W815).wr W816)
  have c818 := ((f813_3.other W815 (Or.inl (Nat.ne_of_lt (Nat.lt_of_lt_of_le EX.lt f813_1)))).other W816 (Or.inr (slot_ne (Or.inl (ww hw 249 rfl)) (Or.inl (ww hw 246 rfl)) (by decide) (t := (.array (.object S_2))) (t' := .int) (by decide) (by decide))))
  have c819 := ((f813_5.other W815 (Or.inl (Nat.ne_of_lt (Nat.lt_of_lt_of_le EX.lt f813_1)))).other W816 (Or.inr (slot_ne (Or.inl (ww hw 131 rfl)) (Or.inl (ww hw 246 rfl)) (by decide) (t := .int) (t' := .int) (by decide) (by decide))))
  exact rV X816 hret hlk hPf J 16 ⟨⟨r_813, kk_813, rfl, (by rw [e816]; exact KC816), (by rw [e816]; exact (V815.other W816 (Nat.ne_of_gt (Nat.lt_of_lt_of_le EX.lt f813_1)))), sz_r_813, (by rw [e816]; exact c817), (by rw [e816]; exact c818), (by rw [e816]; exact Fw816), (by rw [e816]; exact c819), r813_0⟩, N816⟩
theorem pd_46 : parseMethodDescriptor "(Ljava/lang/Object;[Ljava/lang/Object;I)V" = some ⟨[(.object S_2), (.array (.object S_2)), .int], none⟩ := by decide +kernel
def L88 : List (Nat × Instr × Nat) := [(0, a_0), (1, .dup, 1), (2, .getfield 63, 3), (5, .iconst 1, 1), (6, .iadd, 1), (7, .putfield 63, 3), (10, a_0), (11, a_1), (12, a_0), (13, .getfield 9, 3), (16, a_0), (17, .getfield 48, 3), (20, .invokevirtual 131, 3), (23, .iconst 1, 1), (24, .ireturn, 1)]
theorem d88 : ∀ q ∈ L88, decode jdk_38_method_25_code q.1 = .ok q.2 := by decide +kernel
def QrmA1_0 (Z : State) (al : Addr) (ob : Addr) (mc : Int32) (h0 : Heap) (v : Option Value) (h : Heap) : Prop := ∃ (r : Addr) (kk : ClassId), (v = some (.int 1)) ∧ (Keep h0 h [al]) ∧ (Arv Z h r kk (.object S_2) (10 : Int32) [(.ref ob), .null, .null, .null, .null, .null, .null, .null, .null, .null] Value.null) ∧ (h0.size ≤ r) ∧ (Exa Z h al S_4) ∧ (Fld Z h al S_4 "elementData" S_9 (.ref r)) ∧ (Fld Z h al S_4 "size" "I" (.int 1)) ∧ (Fld Z h al S_10 "modCount" "I" (.int (mc + (1 : Int32)))) ∧ (Ovr Z kk S_2)
abbrev own_y95 : MethodName := ⟨S_4, "add", "(Ljava/lang/Object;)Z"⟩
theorem rmA1_0 (hw : HW a0 Z) (G : Gh Z vcs wI wA cA vF wP wD kD wE kE mT mU mL mO) (al : Addr) (ob : Addr) (mc : Int32) (h0 : Heap) (n0 : Nat) (O0 : Old Z n0 h0) (EX : Exa Z h0 al S_4) (FS : Fld Z h0 al S_4 "size" "I" (.int 0)) (FE : Fld Z h0 al S_4 "elementData" S_9 (.ref wD)) (FM : Fld Z h0 al S_10 "modCount" "I" (.int mc)) (g_al : n0 ≤ al) (EO : Exa Z h0 ob S_3) :
    MM l Z own_y95 jdk_38_method_25_code 2 (some .boolean) ws (Rm 4 1 10 56) #[(.ref al), (.ref ob)] h0 (QF n0 (QrmA1_0 Z al ob mc h0)) := by
  refine own_go hw (plainFor_of_name pn_34) #[vr al, vr ob] (fun p e s m below meth c s₁ Pf hx hby hlk hown hnm hret hml hZ hh X0 e0 hPf Jf => ?_)
  have N0 := Fr.nil n0
  have KC0 := Keep.refl h0 [al]
  have J := Jf d88
  refine gy (fun t k => aN X0 J 0 rfl rfl (oP X0 J 1 rfl k)) ?_
  refine own_gf X0 J 2 541 (Via.of (ww hw 542 rfl)) e0 FM (fun T820 X820 e820 => ?_)
  refine gy (fun t k => cI X820 J 3 rfl 1 (oA X820 J 4 rfl (mc + (1 : Int32)) k)) ?_
  refine own_pf (ty := .int) (v' := (.int (mc + (1 : Int32)))) X820 J 5 541 (Via.of (ww hw 542 rfl)) e820 FM EX (Or.inl (ww hw 131 rfl)) 117 rfl rfl N0 g_al (fun T821 h821 _ X821 e821 W821 N821 => ?_)
  have Fw821 : Fld Z h821 al S_10 "modCount" "I" (Value.int (mc + (1 : Int32))) := FM.same W821
  have O821 := O0.wr W821 g_al
  have KC821 := KC0.wr W821 (il 0)
  refine gy (fun t k => aN X821 J 6 rfl rfl (aN X821 J 7 rfl rfl (aN X821 J 8 rfl rfl k))) ?_
  refine own_gf X821 J 9 248 Via.refl e821 (FE.other W821 (Or.inr (slot_ne (Or.inl (ww hw 249 rfl)) (Or.inl (ww hw 131 rfl)) (by decide) (t := (.array (.object S_2))) (t' := .int) (by decide) (by decide)))) (fun T822 X822 e822 => ?_)
  refine gy (fun t k => aN X822 J 10 rfl rfl k) ?_
  refine own_gf X822 J 11 245 Via.refl e822 (FS.other W821 (Or.inr (slot_ne (Or.inl (ww hw 246 rfl)) (Or.inl (ww hw 131 rfl)) (by decide) (t := .int) (t' := .int) (by decide) (by decide)))) (fun T823 X823 e823 => ?_)
  refine own_cp (rmA3_0 hw G _ _ _ _ _ O821 (EX.wr W821) (FS.other W821 (Or.inr (slot_ne (Or.inl (ww hw 246 rfl)) (Or.inl (ww hw 131 rfl)) (by decide) (t := .int) (t' := .int) (by decide) (by decide)))) (FE.other W821 (Or.inr (slot_ne (Or.inl (ww hw 249 rfl)) (Or.inl (ww hw 131 rfl)) (by decide) (t := (.array (.object S_2))) (t' := .int) (by decide) (by decide)))) Fw821 g_al (EO.wr W821)) X823 J 12 543 545 546 544 118 547 e823 (EX.wr W821) 0 pd_46 (kF N821 fun _ T824 v824 X824 N824 q824 => ?_)
  obtain ⟨r_824, kk_824, rfl, K824, f824_0, f824_1, f824_2, f824_3, f824_4, f824_5, r824_0⟩ := q824
  have g_r_824 : n0 ≤ r_824 := Nat.le_trans (own_le O821) f824_1
  have sz_r_824 : h0.size ≤ r_824 := Nat.le_trans KC821.1 f824_1
  have O824 := O821.keep K824 (allS g_al all0)
  have KC824 := KC821.trans K824 (allS (il 0) all0)
  show G_ 23 _ []
  refine gy (fun t k => cI X824 J 13 rfl 1 k) ?_
  exact rI X824 hret hlk hPf J 14 ⟨⟨r_824, kk_824, rfl, KC824, f824_0, sz_r_824, f824_2, f824_3, f824_4, f824_5, r824_0⟩, N824⟩
def QrmA3_1 (Z : State) (al : Addr) (ob : Addr) (ar : Addr) (mc : Int32) (kk : ClassId) (el0 : Addr) (h0 : Heap) (v : Option Value) (h : Heap) : Prop := (v = none) ∧ (Keep h0 h [al, ar]) ∧ (Arv Z h ar kk (.object S_2) (10 : Int32) [(.ref el0), (.ref ob), .null, .null, .null, .null, .null, .null, .null, .null] Value.null) ∧ (Exa Z h al S_4) ∧ (Fld Z h al S_4 "elementData" S_9 (.ref ar)) ∧ (Fld Z h al S_4 "size" "I" (.int 2)) ∧ (Fld Z h al S_10 "modCount" "I" (.int mc))
theorem rmA3_1 (hw : HW a0 Z) (G : Gh Z vcs wI wA cA vF wP wD kD wE kE mT mU mL mO) (al : Addr) (ob : Addr) (ar : Addr) (mc : Int32) (kk : ClassId) (el0 : Addr) (h0 : Heap) (n0 : Nat) (O0 : Old Z n0 h0) (EX : Exa Z h0 al S_4) (FS : Fld Z h0 al S_4 "size" "I" (.int 1)) (FE : Fld Z h0 al S_4 "elementData" S_9 (.ref ar)) (FM : Fld Z h0 al S_10 "modCount" "I" (.int mc)) (g_al : n0 ≤ al) (g_ar : n0 ≤ ar) (VA : Arv Z h0 ar kk (.object S_2) (10 : Int32) [(.ref el0), .null, .null, .null, .null, .null, .null, .null, .null, .null] Value.null) (EO : Exa Z h0 ob S_3) (hne : al ≠ ar) (OV : Ovr Z kk S_2) :
    MM l Z own_y94 jdk_38_method_24_code 4 none ws (Rm 0 0 0 0) #[(.ref al), (.ref ob), (.ref ar), (.int 1)] h0 (QF n0 (QrmA3_1 Z al ob ar mc kk el0 h0)) := by
  refine own_go hw (plainFor_of_name pn_34) #[vr al, vr ob, vr ar, vi 1] (fun p e s m below meth c s₁ Pf hx hby hlk hown hnm hret hml hZ hh X0 e0 hPf Jf => ?_)
  have N0 := Fr.nil n0
  have KC0 := Keep.refl h0 [al, ar]
  have J := Jf d89
  refine gy (fun t k => iN X0 J 0 rfl rfl (aN X0 J 1 rfl rfl k)) ?_
  refine Go.by' (fun t k => own_alen X0 hx hZ e0 VA rfl rfl (jd J 2 rfl) k) ?_
  show G_ 3 #[vr al, vr ob, vr ar, vi 1] [(.int 10), (.int 1)]
  refine gy (fun t k => cY X0 J 3 rfl (feq (by decide)).2 11 (aN X0 J 7 rfl rfl (iN X0 J 8 rfl rfl (aN X0 J 9 rfl rfl k)))) ?_
  obtain ⟨cl826, Ar826, q826, S826, P826, H826, G826⟩ := (id VA)
  have hin826 : ¬ ((1 : Int32) < 0 ∨ cl826.slots.size ≤ ((1 : Int32)).toNatClampNeg) := inb_of S826 ⟨by decide, by decide⟩
  obtain ⟨T827, h827, X827, e827, W827, st827⟩ := stR X0 hx hZ e0 Ar826 (j := (1 : Int32)) hin826 rfl (Sto.ofV Ar826 q826 OV (Ins.of_exa EO (ww hw 497 rfl))) (g := (mkF m 14 #[vr al, vr ob, vr ar, vi 1] [(.ref ob), (.int 1), (.ref ar)])) rfl rfl (jd J 10 rfl)
  refine Go.by' st827 ?_
  have V827 : Arv Z h827 ar kk (.object S_2) (10 : Int32) [(.ref el0), (.ref ob), .null, .null, .null, .null, .null, .null, .null, .null] Value.null := Arv.set Ar826 q826 S826 P826 H826 G826 rfl W827 1 rfl (Nat.le_of_ble_eq_true rfl)
  have N827 := Fr.snoc X827 N0 g_ar
  obtain ⟨lc827, X827, N827⟩ := own_pack X827 N827
  have O827 := O0.wr W827 g_ar
  have KC827 := KC0.wr W827 (il 1)
  show G_ 15 #[vr al, vr ob, vr ar, vi 1] []
  refine gy (fun t k => aN X827 J 11 rfl rfl (iN X827 J 12 rfl rfl (cI X827 J 13 rfl 1 (oA X827 J 14 rfl (2 : Int32) k)))) ?_
  refine own_pf (ty := .int) (v' := (.int 2)) X827 J 15 245 Via.refl e827 (FS.other W827 (Or.inl hne)) (EX.wr W827) (Or.inl (ww hw 246 rfl)) 117 rfl rfl N827 g_al (fun T828 h828 _ X828 e828 W828 N828 => ?_)
  have Fw828 : Fld Z h828 al S_4 "size" "I" (Value.int 2) := (FS.other W827 (Or.inl hne)).same W828
  have O828 := O827.wr W828 g_al
  have KC828 := KC827.wr W828 (il 0)
  have c829 := ((EX.wr W827).wr W828)
  have c830 := ((FE.other W827 (Or.inl hne)).other W828 (Or.inr (slot_ne (Or.inl (ww hw 249 rfl)) (Or.inl (ww hw 246 rfl)) (by decide) (t := (.array (.object S_2))) (t' := .int) (by decide) (by decide))))
  have c831 := ((FM.other W827 (Or.inl hne)).other W828 (Or.inr (slot_ne (Or.inl (ww hw 131 rfl)) (Or.inl (ww hw 246 rfl)) (by decide) (t := .int) (t' := .int) (by decide) (by decide))))
  exact rV X828 hret hlk hPf J 16 ⟨⟨rfl, (by rw [e828]; exact KC828), (by rw [e828]; exact (V827.other W828 hne.symm)), (by rw [e828]; exact c829), (by rw [e828]; exact c830), (by rw [e828]; exact Fw828), (by rw [e828]; exact c831)⟩, N828⟩
def QrmA1_1 (Z : State) (al : Addr) (ob : Addr) (mc : Int32) (ar : Addr) (kk : ClassId) (el0 : Addr) (h0 : Heap) (v : Option Value) (h : Heap) : Prop := (v = some (.int 1)) ∧ (Keep h0 h [al, ar]) ∧ (Arv Z h ar kk (.object S_2) (10 : Int32) [(.ref el0), (.ref ob), .null, .null, .null, .null, .null, .null, .null, .null] Value.null) ∧ (Exa Z h al S_4) ∧ (Fld Z h al S_4 "elementData" S_9 (.ref ar)) ∧ (Fld Z h al S_4 "size" "I" (.int 2)) ∧ (Fld Z h al S_10 "modCount" "I" (.int (mc + (1 : Int32))))
theorem rmA1_1 (hw : HW a0 Z) (G : Gh Z vcs wI wA cA vF wP wD kD wE kE mT mU mL mO) (al : Addr) (ob : Addr) (mc : Int32) (ar : Addr) (kk : ClassId) (el0 : Addr) (h0 : Heap) (n0 : Nat) (O0 : Old Z n0 h0) (EX : Exa Z h0 al S_4) (FS : Fld Z h0 al S_4 "size" "I" (.int 1)) (FE : Fld Z h0 al S_4 "elementData" S_9 (.ref ar)) (FM : Fld Z h0 al S_10 "modCount" "I" (.int mc)) (g_al : n0 ≤ al) (g_ar : n0 ≤ ar) (VA : Arv Z h0 ar kk (.object S_2) (10 : Int32) [(.ref el0), .null, .null, .null, .null, .null, .null, .null, .null, .null] Value.null) (EO : Exa Z h0 ob S_3) (hne : al ≠ ar) (OV : Ovr Z kk S_2) :
    MM l Z own_y95 jdk_38_method_25_code 2 (some .boolean) ws (Rm 1 0 0 15) #[(.ref al), (.ref ob)] h0 (QF n0 (QrmA1_1 Z al ob mc ar kk el0 h0)) := by
  refine own_go hw (plainFor_of_name pn_34) #[vr al, vr ob] (fun p e s m below meth c s₁ Pf hx hby hlk hown hnm hret hml hZ hh X0 e0 hPf Jf => ?_)
  have N0 := Fr.nil n0
  have KC0 := Keep.refl h0 [al, ar]
  have J := Jf d88
  refine gy (fun t k => aN X0 J 0 rfl rfl (oP X0 J 1 rfl k)) ?_
  refine own_gf X0 J 2 541 (Via.of (ww hw 542 rfl)) e0 FM (fun T832 X832 e832 => ?_)
  refine gy (fun t k => cI X832 J 3 rfl 1 (oA X832 J 4 rfl (mc + (1 : Int32)) k)) ?_
  refine own_pf (ty := .int) (v' := (.int (mc + (1 : Int32)))) X832 J 5 541 (Via.of (ww hw 542 rfl)) e832 FM EX (Or.inl (ww hw 131 rfl)) 117 rfl rfl N0 g_al (fun T833 h833 _ X833 e833 W833 N833 => ?_)
  have Fw833 : Fld Z h833 al S_10 "modCount" "I" (Value.int (mc + (1 : Int32))) := FM.same W833
  have O833 := O0.wr W833 g_al
  have KC833 := KC0.wr W833 (il 0)
  refine gy (fun t k => aN X833 J 6 rfl rfl (aN X833 J 7 rfl rfl (aN X833 J 8 rfl rfl k))) ?_
  refine own_gf X833 J 9 248 Via.refl e833 (FE.other W833 (Or.inr (slot_ne (Or.inl (ww hw 249 rfl)) (Or.inl (ww hw 131 rfl)) (by decide) (t := (.array (.object S_2))) (t' := .int) (by decide) (by decide)))) (fun T834 X834 e834 => ?_)
  refine gy (fun t k => aN X834 J 10 rfl rfl k) ?_
  refine own_gf X834 J 11 245 Via.refl e834 (FS.other W833 (Or.inr (slot_ne (Or.inl (ww hw 246 rfl)) (Or.inl (ww hw 131 rfl)) (by decide) (t := .int) (t' := .int) (by decide) (by decide)))) (fun T835 X835 e835 => ?_)
  refine own_cp (rmA3_1 hw G _ _ _ _ _ _ _ _ O833 (EX.wr W833) (FS.other W833 (Or.inr (slot_ne (Or.inl (ww hw 246 rfl)) (Or.inl (ww hw 131 rfl)) (by decide) (t := .int) (t' := .int) (by decide) (by decide)))) (FE.other W833 (Or.inr (slot_ne (Or.inl (ww hw 249 rfl)) (Or.inl (ww hw 131 rfl)) (by decide) (t := (.array (.object S_2))) (t' := .int) (by decide) (by decide)))) Fw833 g_al g_ar (VA.other W833 hne.symm) (EO.wr W833) hne OV) X835 J 12 543 545 546 544 118 547 e835 (EX.wr W833) 0 pd_46 (kF N833 fun _ T836 v836 X836 N836 q836 => ?_)
  obtain ⟨rfl, K836, f836_0, f836_1, f836_2, f836_3, f836_4⟩ := q836
  have O836 := O833.keep K836 (allS g_al (allS g_ar all0))
  have KC836 := KC833.trans K836 (allS (il 0) (allS (il 1) all0))
  show G_ 23 _ []
  refine gy (fun t k => cI X836 J 13 rfl 1 k) ?_
  exact rI X836 hret hlk hPf J 14 ⟨⟨rfl, KC836, f836_0, f836_1, f836_2, f836_3, f836_4⟩, N836⟩
def QrmA3_2 (Z : State) (al : Addr) (ob : Addr) (ar : Addr) (mc : Int32) (kk : ClassId) (el0 : Addr) (el1 : Addr) (h0 : Heap) (v : Option Value) (h : Heap) : Prop := (v = none) ∧ (Keep h0 h [al, ar]) ∧ (Arv Z h ar kk (.object S_2) (10 : Int32) [(.ref el0), (.ref el1), (.ref ob), .null, .null, .null, .null, .null, .null, .null] Value.null) ∧ (Exa Z h al S_4) ∧ (Fld Z h al S_4 "elementData" S_9 (.ref ar)) ∧ (Fld Z h al S_4 "size" "I" (.int 3)) ∧ (Fld Z h al S_10 "modCount" "I" (.int mc))
theorem rmA3_2 (hw : HW a0 Z) (G : Gh Z vcs wI wA cA vF wP wD kD wE kE mT mU mL mO) (al : Addr) (ob : Addr) (ar : Addr) (mc : Int32) (kk : ClassId) (el0 : Addr) (el1 : Addr) (h0 : Heap) (n0 : Nat) (O0 : Old Z n0 h0) (EX : Exa Z h0 al S_4) (FS : Fld Z h0 al S_4 "size" "I" (.int 2)) (FE : Fld Z h0 al S_4 "elementData" S_9 (.ref ar)) (FM : Fld Z h0 al S_10 "modCount" "I" (.int mc)) (g_al : n0 ≤ al) (g_ar : n0 ≤ ar) (VA : Arv Z h0 ar kk (.object S_2) (10 : Int32) [(.ref el0), (.ref el1), .null, .null, .null, .null, .null, .null, .null, .null] Value.null) (EO : Exa Z h0 ob S_3) (hne : al ≠ ar) (OV : Ovr Z kk S_2) :
    MM l Z own_y94 jdk_38_method_24_code 4 none ws (Rm 0 0 0 0) #[(.ref al), (.ref ob), (.ref ar), (.int 2)] h0 (QF n0 (QrmA3_2 Z al ob ar mc kk el0 el1 h0)) := by
  refine own_go hw (plainFor_of_name pn_34) #[vr al, vr ob, vr ar, vi 2] (fun p e s m below meth c s₁ Pf hx hby hlk hown hnm hret hml hZ hh X0 e0 hPf Jf => ?_)
  have N0 := Fr.nil n0
  have KC0 := Keep.refl h0 [al, ar]
  have J := Jf d89
  refine gy (fun t k => iN X0 J 0 rfl rfl (aN X0 J 1 rfl rfl k)) ?_
  refine Go.by' (fun t k => own_alen X0 hx hZ e0 VA rfl rfl (jd J 2 rfl) k) ?_
  show G_ 3 #[vr al, vr ob, vr ar, vi 2] [(.int 10), (.int 2)]
  refine gy (fun t k => cY X0 J 3 rfl (feq (by decide)).2 11 (aN X0 J 7 rfl rfl (iN X0 J 8 rfl rfl (aN X0 J 9 rfl rfl k)))) ?_
  obtain ⟨cl838, Ar838, q838, S838, P838, H838, G838⟩ := (id VA)
  have hin838 : ¬ ((2 : Int32) < 0 ∨ cl838.slots.size ≤ ((2 : Int32)).toNatClampNeg) := inb_of S838 ⟨by decide, by decide⟩
  obtain ⟨T839, h839, X839, e839, W839, st839⟩ := stR X0 hx hZ e0 Ar838 (j := (2 : Int32)) hin838 rfl (Sto.ofV Ar838 q838 OV (Ins.of_exa EO (ww hw 497 rfl))) (g := (mkF m 14 #[vr al, vr ob, vr ar, vi 2] [(.ref ob), (.int 2), (.ref ar)])) rfl rfl (jd J 10 rfl)
  refine Go.by' st839 ?_
  have V839 : Arv Z h839 ar kk (.object S_2) (10 : Int32) [(.ref el0), (.ref el1), (.ref ob), .null, .null, .null, .null, .null, .null, .null] Value.null := Arv.set Ar838 q838 S838 P838 H838 G838 rfl W839 2 rfl (Nat.le_of_ble_eq_true rfl)
  have N839 := Fr.snoc X839 N0 g_ar
  obtain ⟨lc839, X839, N839⟩ := own_pack X839 N839
  have O839 := O0.wr W839 g_ar
  have KC839 := KC0.wr W839 (il 1)
  show G_ 15 #[vr al, vr ob, vr ar, vi 2] []
  refine gy (fun t k => aN X839 J 11 rfl rfl (iN X839 J 12 rfl rfl (cI X839 J 13 rfl 1 (oA X839 J 14 rfl (3 : Int32) k)))) ?_
  refine own_pf (ty := .int) (v' := (.int 3)) X839 J 15 245 Via.refl e839 (FS.other W839 (Or.inl hne)) (EX.wr W839) (Or.inl (ww hw 246 rfl)) 117 rfl rfl N839 g_al (fun T840 h840 _ X840 e840 W840 N840 => ?_)
  have Fw840 : Fld Z h840 al S_4 "size" "I" (Value.int 3) := (FS.other W839 (Or.inl hne)).same W840
  have O840 := O839.wr W840 g_al
  have KC840 := KC839.wr W840 (il 0)
  have c841 := ((EX.wr W839).wr W840)
  have c842 := ((FE.other W839 (Or.inl hne)).other W840 (Or.inr (slot_ne (Or.inl (ww hw 249 rfl)) (Or.inl (ww hw 246 rfl)) (by decide) (t := (.array (.object S_2))) (t' := .int) (by decide) (by decide))))
  have c843 := ((FM.other W839 (Or.inl hne)).other W840 (Or.inr (slot_ne (Or.inl (ww hw 131 rfl)) (Or.inl (ww hw 246 rfl)) (by decide) (t := .int) (t' := .int) (by decide) (by decide))))
  exact rV X840 hret hlk hPf J 16 ⟨⟨rfl, (by rw [e840]; exact KC840), (by rw [e840]; exact (V839.other W840 hne.symm)), (by rw [e840]; exact c841), (by rw [e840]; exact c842), (by rw [e840]; exact Fw840), (by rw [e840]; exact c843)⟩, N840⟩
def QrmA1_2 (Z : State) (al : Addr) (ob : Addr) (mc : Int32) (ar : Addr) (kk : ClassId) (el0 : Addr) (el1 : Addr) (h0 : Heap) (v : Option Value) (h : Heap) : Prop := (v = some (.int 1)) ∧ (Keep h0 h [al, ar]) ∧ (Arv Z h ar kk (.object S_2) (10 : Int32) [(.ref el0), (.ref el1), (.ref ob), .null, .null, .null, .null, .null, .null, .null] Value.null) ∧ (Exa Z h al S_4) ∧ (Fld Z h al S_4 "elementData" S_9 (.ref ar)) ∧ (Fld Z h al S_4 "size" "I" (.int 3)) ∧ (Fld Z h al S_10 "modCount" "I" (.int (mc + (1 : Int32))))
theorem rmA1_2 (hw : HW a0 Z) (G : Gh Z vcs wI wA cA vF wP wD kD wE kE mT mU mL mO) (al : Addr) (ob : Addr) (mc : Int32) (ar : Addr) (kk : ClassId) (el0 : Addr) (el1 : Addr) (h0 : Heap) (n0 : Nat) (O0 : Old Z n0 h0) (EX : Exa Z h0 al S_4) (FS : Fld Z h0 al S_4 "size" "I" (.int 2)) (FE : Fld Z h0 al S_4 "elementData" S_9 (.ref ar)) (FM : Fld Z h0 al S_10 "modCount" "I" (.int mc)) (g_al : n0 ≤ al) (g_ar : n0 ≤ ar) (VA : Arv Z h0 ar kk (.object S_2) (10 : Int32) [(.ref el0), (.ref el1), .null, .null, .null, .null, .null, .null, .null, .null] Value.null) (EO : Exa Z h0 ob S_3) (hne : al ≠ ar) (OV : Ovr Z kk S_2) :
    MM l Z own_y95 jdk_38_method_25_code 2 (some .boolean) ws (Rm 1 0 0 15) #[(.ref al), (.ref ob)] h0 (QF n0 (QrmA1_2 Z al ob mc ar kk el0 el1 h0)) := by
  refine own_go hw (plainFor_of_name pn_34) #[vr al, vr ob] (fun p e s m below meth c s₁ Pf hx hby hlk hown hnm hret hml hZ hh X0 e0 hPf Jf => ?_)
  have N0 := Fr.nil n0
  have KC0 := Keep.refl h0 [al, ar]
  have J := Jf d88
  refine gy (fun t k => aN X0 J 0 rfl rfl (oP X0 J 1 rfl k)) ?_
  refine own_gf X0 J 2 541 (Via.of (ww hw 542 rfl)) e0 FM (fun T844 X844 e844 => ?_)
  refine gy (fun t k => cI X844 J 3 rfl 1 (oA X844 J 4 rfl (mc + (1 : Int32)) k)) ?_
  refine own_pf (ty := .int) (v' := (.int (mc + (1 : Int32)))) X844 J 5 541 (Via.of (ww hw 542 rfl)) e844 FM EX (Or.inl (ww hw 131 rfl)) 117 rfl rfl N0 g_al (fun T845 h845 _ X845 e845 W845 N845 => ?_)
  have Fw845 : Fld Z h845 al S_10 "modCount" "I" (Value.int (mc + (1 : Int32))) := FM.same W845
  have O845 := O0.wr W845 g_al
  have KC845 := KC0.wr W845 (il 0)
  refine gy (fun t k => aN X845 J 6 rfl rfl (aN X845 J 7 rfl rfl (aN X845 J 8 rfl rfl k))) ?_
  refine own_gf X845 J 9 248 Via.refl e845 (FE.other W845 (Or.inr (slot_ne (Or.inl (ww hw 249 rfl)) (Or.inl (ww hw 131 rfl)) (by decide) (t := (.array (.object S_2))) (t' := .int) (by decide) (by decide)))) (fun T846 X846 e846 => ?_)
  refine gy (fun t k => aN X846 J 10 rfl rfl k) ?_
  refine own_gf X846 J 11 245 Via.refl e846 (FS.other W845 (Or.inr (slot_ne (Or.inl (ww hw 246 rfl)) (Or.inl (ww hw 131 rfl)) (by decide) (t := .int) (t' := .int) (by decide) (by decide)))) (fun T847 X847 e847 => ?_)
  refine own_cp (rmA3_2 hw G _ _ _ _ _ _ _ _ _ O845 (EX.wr W845) (FS.other W845 (Or.inr (slot_ne (Or.inl (ww hw 246 rfl)) (Or.inl (ww hw 131 rfl)) (by decide) (t := .int) (t' := .int) (by decide) (by decide)))) (FE.other W845 (Or.inr (slot_ne (Or.inl (ww hw 249 rfl)) (Or.inl (ww hw 131 rfl)) (by decide) (t := (.array (.object S_2))) (t' := .int) (by decide) (by decide)))) Fw845 g_al g_ar (VA.other W845 hne.symm) (EO.wr W845) hne OV) X847 J 12 543 545 546 544 118 547 e847 (EX.wr W845) 0 pd_46 (kF N845 fun _ T848 v848 X848 N848 q848 => ?_)
  obtain ⟨rfl, K848, f848_0, f848_1, f848_2, f848_3, f848_4⟩ := q848
  have O848 := O845.keep K848 (allS g_al (allS g_ar all0))
  have KC848 := KC845.trans K848 (allS (il 0) (allS (il 1) all0))
  show G_ 23 _ []
  refine gy (fun t k => cI X848 J 13 rfl 1 k) ?_
  exact rI X848 hret hlk hPf J 14 ⟨⟨rfl, KC848, f848_0, f848_1, f848_2, f848_3, f848_4⟩, N848⟩
def L35 : List (Nat × Instr × Nat) := [(0, a_0), (1, .getfield 48, 3), (4, .ireturn, 1)]
theorem d35 : ∀ q ∈ L35, decode jdk_38_method_8_code q.1 = .ok q.2 := by decide +kernel
def QrmSize (sz : Int32) (v : Option Value) : Prop := (v = some (.int sz))
abbrev own_y96 : MethodName := ⟨S_4, "size", "()I"⟩
theorem rmSize (hw : HW a0 Z) (G : Gh Z vcs wI wA cA vF wP wD kD wE kE mT mU mL mO) (al : Addr) (sz : Int32) (h0 : Heap) (n0 : Nat) (O0 : Old Z n0 h0) (FS : Fld Z h0 al S_4 "size" "I" (.int sz)) :
    MM l Z own_y96 jdk_38_method_8_code 1 (some .int) ws (Rm 0 0 0 0) #[(.ref al)] h0 (QP h0 (QrmSize sz)) := by
  refine own_go hw (plainFor_of_name pn_34) #[vr al] (fun p e s m below meth c s₁ Pf hx hby hlk hown hnm hret hml hZ hh X0 e0 hPf Jf => ?_)
  have J := Jf d35
  refine gy (fun t k => aN X0 J 0 rfl rfl k) ?_
  refine own_gf X0 J 1 245 Via.refl e0 FS (fun T849 X849 e849 => ?_)
  exact rI X849 hret hlk hPf J 2 ⟨rfl, rfl, e849⟩
abbrev own_y97 : MethodName := ⟨S_31, "getClass", "()Ljava/lang/Class;"⟩
theorem pd_47 : parseMethodDescriptor "([Ljava/lang/Object;ILjava/lang/Class;)[Ljava/lang/Object;" = some ⟨[(.array (.object S_2)), .int, (.object "java/lang/Class")], some (.array (.object S_2))⟩ := by decide +kernel
def L19 : List (Nat × Instr × Nat) := [(0, a_0), (1, .invokespecial 1, 3), (4, a_1), (5, .invokeinterface 42 1, 5), (10, .astore_n 2, 1), (11, a_0), (12, a_2), (13, .arraylength, 1), (14, .dup_x1, 1), (15, .putfield 48, 3), (18, .ifCond .eq 39, 3), (57, a_0), (58, .getstatic 15, 3), (61, .putfield 9, 3), (64, .return_, 1), (21, a_1), (22, .invokeinterface 52 1, 5), (27, .ldc 10, 2), (29, .if_acmp .ne 11, 3), (40, a_0), (41, a_2), (42, a_0), (43, .getfield 48, 3), (46, .ldc 56, 2), (48, .invokestatic 57, 3), (51, .putfield 9, 3), (54, .goto 10, 3)]
theorem d19 : ∀ q ∈ L19, decode jdk_38_method_3_code q.1 = .ok q.2 := by decide +kernel
def QrmLC2 (Z : State) (al : Addr) (tm : Addr) (L : (List Addr)) (h0 : Heap) (v : Option Value) (h : Heap) : Prop := ∃ (ar : Addr) (kr : ClassId) (zr : Int32) (vsr : (List Value)), (v = none) ∧ (Keep h0 h [al, tm]) ∧ (Exa Z h al S_4) ∧ (Fld Z h al S_4 "size" "I" (.int zr)) ∧ (Fld Z h al S_4 "elementData" S_9 (.ref ar)) ∧ (Arv Z h ar kr (.object S_2) zr vsr Value.null) ∧ (zr = Int32.ofNat L.length) ∧ (vsr = L.map Value.ref)
abbrev own_y98 : MethodName := ⟨S_4, "<init>", "(Ljava/util/Collection;)V"⟩
theorem rmLC2 (hw : HW a0 Z) (G : Gh Z vcs wI wA cA vF wP wD kD wE kE mT mU mL mO) (al : Addr) (us : Addr) (ts : Addr) (tm : Addr) (b : Nat) (L : (List Addr)) (mc : Int32) (Ks : (List Int)) (h0 : Heap) (n0 : Nat) (O0 : Old Z n0 h0) (EX : Exa Z h0 al S_4) (FM : Fld Z h0 al S_10 "modCount" "I" (.int 0)) (FS : Fld Z h0 al S_4 "size" "I" (.int 0)) (FE : Fld Z h0 al S_4 "elementData" S_9 .null) (g_al : n0 ≤ al) (Eus : Exa Z h0 us S_15) (Fus : Fld Z h0 us S_14 "c" S_17 (.ref ts)) (Ets : Exa Z h0 ts S_8) (Fts : Fld Z h0 ts S_8 "m" S_13 (.ref tm)) (Tp : TreeP Z h0 b wP tm L mc .null) (SKL : SKs Z h0 L Ks) (g_tm : n0 ≤ tm) :
    MM l Z own_y98 jdk_38_method_3_code 3 none ws (Rm 8 4 11 104) #[(.ref al), (.ref us)] h0 (QF n0 (QrmLC2 Z al tm L h0)) := by
  refine own_go hw (plainFor_of_name pn_34) #[vr al, vr us, .unset] (fun p e s m below meth c s₁ Pf hx hby hlk hown hnm hret hml hZ hh X0 e0 hPf Jf => ?_)
  have N0 := Fr.nil n0
  have KC0 := Keep.refl h0 [al, tm]
  have J := Jf d19
  obtain ⟨-, -, hln⟩ := Tp.mp
  refine gy (fun t k => aN X0 J 0 rfl rfl k) ?_
  refine own_ci (rmAB hw G _ _ _ O0 EX FM FE FS g_al) X0 J 1 122 123 126 127 e0 0 pd_35 (kF N0 fun _ T850 v850 X850 N850 q850 => ?_)
  obtain ⟨rfl, K850, f850_0, f850_1, f850_2, f850_3⟩ := q850
  have O850 := O0.keep K850 (allS g_al all0)
  have KC850 := KC0.trans K850 (allS (il 0) all0)
  show G_ 4 _ []
  refine gy (fun t k => aN X850 J 2 rfl rfl k) ?_
  have c852 := (SKs.sp (SP.keep K850 (allS (nsx hw 117 EX) all0)) SKL)
  refine own_cf (y := own_y86) (rmUt hw G _ _ _ _ _ _ _ _ _ O850 (Eus.keep K850) (Fus.keep K850 (ninS (ne_exa Eus EX (by decide)) nin0)) (Ets.keep K850) (Fts.keep K850 (ninS (ne_exa Ets EX (by decide)) nin0)) (Tp.keepN K850 (allS (NT.exa EX (by decide) (by decide)) all0)) c852 g_tm) X850 J 3 132 133 134 135 136 137 138 139 111 140 rfl (Eus.keep K850) 0 pd_44 (kF N850 fun _ T851 v851 X851 N851 q851 => ?_)
  obtain ⟨r_851, kr_851, zr_851, vsr_851, rfl, K851, f851_0, f851_1, r851_0, r851_1⟩ := q851
  have g_r_851 : n0 ≤ r_851 := Nat.le_trans (own_le O850) f851_1
  have sz_r_851 : h0.size ≤ r_851 := Nat.le_trans KC850.1 f851_1
  have O851 := O850.keep K851 (allS g_tm all0)
  have KC851 := KC850.trans K851 (allS (il 1) all0)
  show G_ 10 _ [(.ref r_851)]
  refine gy (fun t k => sAN X851 J 4 rfl #[vr al, vr us, vr r_851] (aN X851 J 5 rfl rfl (aN X851 J 6 rfl rfl k))) ?_
  refine Go.by' (fun t k => own_alen X851 hx hZ rfl f851_0 rfl rfl (jd J 7 rfl) k) ?_
  refine Go.by' (fun t k => XS.dupX1 X851.here hx rfl (jd J 8 rfl) rfl rfl rfl k) ?_
  show G_ 15 #[vr al, vr us, vr r_851] [(.int zr_851), (.ref al), (.int zr_851)]
  refine own_pf (ty := .int) (v' := (.int zr_851)) X851 J 9 245 Via.refl rfl (f850_3.keep K851 (ninS (ne_exa EX (TreeP.exa Tp) (by decide)) nin0)) (f850_0.keep K851) (Or.inl (ww hw 246 rfl)) 117 rfl rfl N851 g_al (fun T854 h854 _ X854 e854 W854 N854 => ?_)
  have Fw854 : Fld Z h854 al S_4 "size" "I" (Value.int zr_851) := (f850_3.keep K851 (ninS (ne_exa EX (TreeP.exa Tp) (by decide)) nin0)).same W854
  have O854 := O851.wr W854 g_al
  have KC854 := KC851.wr W854 (il 0)
  by_cases hc855 : zr_851 = (0 : Int32)
  · refine gy (fun t k => fY X854 J 10 rfl ((if0 _ _).trans (teq hc855).1) 57 (aN X854 J 11 rfl rfl k)) ?_
    refine own_gs X854 J 12 247 Via.refl e854 (G.2.2.2.2.2.2.2.2.2.2.2.2.2.1.ext O854.2) (fun T856 X856 e856 => ?_)
    have c857 := ((f850_0.keep K851).wr W854)
    have c858 := ((f850_2.keep K851 (ninS (ne_exa EX (TreeP.exa Tp) (by decide)) nin0)).other W854 (Or.inr (slot_ne (Or.inl (ww hw 249 rfl)) (Or.inl (ww hw 246 rfl)) (by decide) (t := (.array (.object S_2))) (t' := .int) (by decide) (by decide))))
    refine own_pf (ty := (.array (.object S_2))) (v' := (.ref wE)) X856 J 13 248 Via.refl e856 c858 c857 (Or.inl (ww hw 249 rfl)) 117 rfl rfl N854 g_al (fun T859 h859 _ X859 e859 W859 N859 => ?_)
    have Fw859 : Fld Z h859 al S_4 "elementData" S_9 (Value.ref wE) := c858.same W859
    have O859 := O854.wr W859 g_al
    have KC859 := KC854.wr W859 (il 0)
    exact rV X859 hret hlk hPf J 14 ⟨⟨wE, kE, (0 : Int32), [], rfl, (by rw [e859]; exact KC859), (by rw [e859]; exact (c857.wr W859)), (by rw [e859]; exact (hc855 ▸ (Fw854.other W859 (Or.inr (slot_ne (Or.inl (ww hw 246 rfl)) (Or.inl (ww hw 249 rfl)) (by decide) (t := .int) (t' := (.array (.object S_2))) (by decide) (by decide)))))), (by rw [e859]; exact Fw859), (by rw [e859]; exact (G.2.2.2.2.2.2.2.2.2.2.2.2.2.2.2.1.ext O859.2)), (hc855.symm.trans r851_0), (by rw [own_l0 hln (r851_0.symm.trans hc855)]; rfl)⟩, N859⟩
  · refine gy (fun t k => fN X854 J 10 rfl ((if0 _ _).trans (feq hc855).1) (aN X854 J 15 rfl rfl k)) ?_
    have c860 := (((Eus.keep K850).keep K851).wr W854)
    refine own_gc (xi := own_y97) X854 J 16 (ww hw 498 rfl) (ww hw 92 rfl) (ww hw 499 rfl) (ww hw 500 rfl) (ww hw 95 rfl) (ww hw 96 rfl) (ww hw 501 rfl) (ww hw 139 rfl) (ww hw 99 rfl) e854 c860 G.2.2.2.2.2.2.2.2.2.2.2.2.2.2.2.2.2.1 0 (fun T861 X861 e861 => ?_)
    refine own_lm X861 J 17 502 G.2.2.2.2.2.2.2.2.2.2.2.2.2.2.2.2.2.2.1 e861 (fun T862 X862 e862 => ?_)
    refine gy (fun t k => jQ X862 J 18 rfl false (decide_eq_false (fun q => G.2.2.2.2.2.2.2.2.2.2.2.2.2.2.2.2.2.2.2.2.2.2 (Value.ref.inj q))) 40 (aN X862 J 19 rfl rfl (aN X862 J 20 rfl rfl (aN X862 J 21 rfl rfl k)))) ?_
    refine own_gf X862 J 22 245 Via.refl e862 Fw854 (fun T863 X863 e863 => ?_)
    refine own_lm X863 J 23 504 G.2.2.2.2.2.2.2.2.2.2.2.2.2.2.2.2.2.2.2.1 e863 (fun T864 X864 e864 => ?_)
    have P866 := (SP.trans (SP.keep K851 (allS (nsx hw 49 ((TreeP.exa Tp).keep K850)) all0)) (SP.wr W854 (nsx hw 117 ((EX.keep K850).keep K851))))
    have c867 := (SKs.sp P866 c852)
    refine own_cs (rmCO hw G _ _ _ _ _ _ _ _ O854 (f851_0.other W854 (Nat.ne_of_gt (Nat.lt_of_lt_of_le (Nat.lt_of_lt_of_le EX.lt K850.1) f851_1))) c867 hln r851_0 r851_1 hc855) X864 J 24 506 507 508 509 e864 1 pd_47 (kF N854 fun _ T865 v865 X865 N865 q865 => ?_)
    obtain ⟨r_865, kr_865, zr_865, vsr_865, rfl, K865, f865_0, f865_1, r865_0, r865_1⟩ := q865
    have g_r_865 : n0 ≤ r_865 := Nat.le_trans (own_le O854) f865_1
    have sz_r_865 : h0.size ≤ r_865 := Nat.le_trans KC854.1 f865_1
    have O865 := O854.keep K865 all0
    have KC865 := KC854.trans K865 all0
    have c868 := (((f850_0.keep K851).wr W854).keep K865)
    have c869 := (((f850_2.keep K851 (ninS (ne_exa EX (TreeP.exa Tp) (by decide)) nin0)).other W854 (Or.inr (slot_ne (Or.inl (ww hw 249 rfl)) (Or.inl (ww hw 246 rfl)) (by decide) (t := (.array (.object S_2))) (t' := .int) (by decide) (by decide)))).keep K865 nin0)
    show G_ 51 _ [(.ref r_865), (.ref al)]
    refine own_pf (ty := (.array (.object S_2))) (v' := (.ref r_865)) X865 J 25 248 Via.refl rfl c869 c868 (Or.inl (ww hw 249 rfl)) 117 rfl rfl N865 g_al (fun T870 h870 _ X870 e870 W870 N870 => ?_)
    have Fw870 : Fld Z h870 al S_4 "elementData" S_9 (Value.ref r_865) := c869.same W870
    have O870 := O865.wr W870 g_al
    have KC870 := KC865.wr W870 (il 0)
    refine gy (fun t k => jG X870 J 26 rfl 64 k) ?_
    have c871 := ((Fw854.keep K865 nin0).other W870 (Or.inr (slot_ne (Or.inl (ww hw 246 rfl)) (Or.inl (ww hw 249 rfl)) (by decide) (t := .int) (t' := (.array (.object S_2))) (by decide) (by decide))))
    exact rV X870 hret hlk hPf J 14 ⟨⟨r_865, kr_865, zr_851, vsr_865, rfl, (by rw [e870]; exact KC870), (by rw [e870]; exact (c868.wr W870)), (by rw [e870]; exact c871), (by rw [e870]; exact Fw870), (by rw [e870]; exact (r865_0 ▸ (f865_0.other W870 (Nat.ne_of_gt (Nat.lt_of_lt_of_le (Nat.lt_of_lt_of_le EX.lt (Nat.le_trans K850.1 (Nat.le_trans K851.1 (Nat.le_of_eq W854.size.symm)))) f865_1))))), r851_0, (r865_1.trans r851_1)⟩, N870⟩
def L96 : List (Nat × Instr × Nat) := [(0, a_0), (1, .getfield 9, 3), (4, i_1), (5, .aaload, 1), (6, .areturn, 1)]
theorem d96 : ∀ q ∈ L96, decode jdk_38_method_18_code q.1 = .ok q.2 := by decide +kernel
def QrmED (el : Addr) (v : Option Value) : Prop := (v = some (.ref el))
abbrev own_y99 : MethodName := ⟨S_4, "elementData", "(I)Ljava/lang/Object;"⟩
theorem rmED (hw : HW a0 Z) (G : Gh Z vcs wI wA cA vF wP wD kD wE kE mT mU mL mO) (al : Addr) (ix : Int32) (ar : Addr) (ka : ClassId) (zn : Int32) (vsx : (List Value)) (el : Addr) (h0 : Heap) (n0 : Nat) (O0 : Old Z n0 h0) (FE : Fld Z h0 al S_4 "elementData" S_9 (.ref ar)) (VA : Arv Z h0 ar ka (.object S_2) zn vsx Value.null) (hi0 : ¬ (ix < (0 : Int32))) (hi1 : ix < zn) (hel : vsx.getD ix.toNatClampNeg Value.null = Value.ref el) :
    MM l Z own_y99 jdk_38_method_18_code 2 (some (.object S_2)) ws (Rm 0 0 0 0) #[(.ref al), (.int ix)] h0 (QP h0 (QrmED el)) := by
  refine own_go hw (plainFor_of_name pn_34) #[vr al, vi ix] (fun p e s m below meth c s₁ Pf hx hby hlk hown hnm hret hml hZ hh X0 e0 hPf Jf => ?_)
  have J := Jf d96
  refine gy (fun t k => aN X0 J 0 rfl rfl k) ?_
  refine own_gf X0 J 1 248 Via.refl e0 FE (fun T872 X872 e872 => ?_)
  refine gy (fun t k => iN X872 J 2 rfl rfl k) ?_
  obtain ⟨cl873, Ar873, q873, S873, P873, H873, G873⟩ := (id VA)
  have hin873 : ¬ (ix < 0 ∨ cl873.slots.size ≤ (ix).toNatClampNeg) := inb_of S873 ⟨hi0, hi1⟩
  refine Go.by' (fun t k => X872.aaload hx (j := ix) (v := (.ref el)) (by rw [e872]; exact Ar873.1) (State.isArrayOf_alike hZ.alike Ar873.2.1) rfl Ar873.2.2 hin873 (H873.at hin873 hel) (g := (mkF m 5 #[vr al, vi ix] [(.int ix), (.ref ar)])) rfl rfl (jd J 3 rfl) t k) ?_
  show G_ 6 #[vr al, vi ix] [(.ref el)]
  exact rA X872 hret hlk hPf J 4 ⟨rfl, rfl, e872⟩
def L95 : List (Nat × Instr × Nat) := [(0, i_0), (1, i_1), (2, .aconst_null, 1), (3, .invokestatic 105, 3), (6, .ireturn, 1)]
theorem d95 : ∀ q ∈ L95, decode jdk_31_method_17_code q.1 = .ok q.2 := by decide +kernel
def QrmOC (ix : Int32) (v : Option Value) : Prop := (v = some (.int ix))
abbrev own_y100 : MethodName := ⟨"java/util/Objects", "checkIndex", "(II)I"⟩
theorem rmOC (hw : HW a0 Z) (G : Gh Z vcs wI wA cA vF wP wD kD wE kE mT mU mL mO) (ix : Int32) (zn : Int32) (h0 : Heap) (n0 : Nat) (O0 : Old Z n0 h0) (hi0 : ¬ (ix < (0 : Int32))) (hi1 : ix < zn) :
    MM l Z own_y100 jdk_31_method_17_code 2 (some .int) ws (Rm 1 0 0 14) #[(.int ix), (.int zn)] h0 (QP h0 (QrmOC ix)) := by
  refine own_go hw (plainFor_of_name pn_69) #[vi ix, vi zn] (fun p e s m below meth c s₁ Pf hx hby hlk hown hnm hret hml hZ hh X0 e0 hPf Jf => ?_)
  have J := Jf d95
  refine gy (fun t k => iN X0 J 0 rfl rfl (iN X0 J 1 rfl rfl (cU X0 J 2 rfl k))) ?_
  refine own_cs (rmPC hw G ix zn (Value.null) _ _ O0 rfl hi0 hi1) X0 J 3 574 534 532 535 e0 0 pd_20 (kP fun T874 v874 X874 e874 q874 => ?_)
  obtain rfl := q874
  show G_ 6 _ [(.int ix)]
  exact rI X874 hret hlk hPf J 4 ⟨rfl, rfl, e874⟩
theorem pd_48 : parseMethodDescriptor "(I)Ljava/lang/Object;" = some ⟨[.int], some (.object S_2)⟩ := by decide +kernel
def L94 : List (Nat × Instr × Nat) := [(0, i_1), (1, a_0), (2, .getfield 48, 3), (5, .invokestatic 118, 3), (8, .pop, 1), (9, a_0), (10, i_1), (11, .invokevirtual 123, 3), (14, .areturn, 1)]
theorem d94 : ∀ q ∈ L94, decode jdk_38_method_20_code q.1 = .ok q.2 := by decide +kernel
def QrmGet (el : Addr) (v : Option Value) : Prop := (v = some (.ref el))
abbrev own_y101 : MethodName := ⟨S_4, "get", "(I)Ljava/lang/Object;"⟩
theorem rmGet (hw : HW a0 Z) (G : Gh Z vcs wI wA cA vF wP wD kD wE kE mT mU mL mO) (al : Addr) (ix : Int32) (sz : Int32) (ar : Addr) (ka : ClassId) (zn : Int32) (vsx : (List Value)) (el : Addr) (h0 : Heap) (n0 : Nat) (O0 : Old Z n0 h0) (EX : Exa Z h0 al S_4) (FS : Fld Z h0 al S_4 "size" "I" (.int sz)) (hsz : ix < sz) (FE : Fld Z h0 al S_4 "elementData" S_9 (.ref ar)) (VA : Arv Z h0 ar ka (.object S_2) zn vsx Value.null) (hi0 : ¬ (ix < (0 : Int32))) (hi1 : ix < zn) (hel : vsx.getD ix.toNatClampNeg Value.null = Value.ref el) :
    MM l Z own_y101 jdk_38_method_20_code 2 (some (.object S_2)) ws (Rm 2 0 0 27) #[(.ref al), (.int ix)] h0 (QP h0 (QrmGet el)) := by
  refine own_go hw (plainFor_of_name pn_34) #[vr al, vi ix] (fun p e s m below meth c s₁ Pf hx hby hlk hown hnm hret hml hZ hh X0 e0 hPf Jf => ?_)
  have J := Jf d94
  refine gy (fun t k => iN X0 J 0 rfl rfl (aN X0 J 1 rfl rfl k)) ?_
  refine own_gf X0 J 2 245 Via.refl e0 FS (fun T875 X875 e875 => ?_)
  refine own_cs (rmOC hw G ix sz _ _ O0 hi0 hsz) X875 J 3 571 572 435 573 e875 0 pd_17 (kP fun T876 v876 X876 e876 q876 => ?_)
  obtain rfl := q876
  show G_ 8 _ [(.int ix)]
  refine gy (fun t k => oQ X876 J 4 rfl (aN X876 J 5 rfl rfl (iN X876 J 6 rfl rfl k))) ?_
  refine own_cv (rmED hw G _ ix _ _ _ _ el _ _ O0 FE VA hi0 hi1 hel) X876 J 7 575 576 578 577 118 579 e876 EX 0 pd_48 (kP fun T877 v877 X877 e877 q877 => ?_)
  obtain rfl := q877
  show G_ 14 _ [(.ref el)]
  exact rA X877 hret hlk hPf J 8 ⟨rfl, rfl, e877⟩
theorem own_g0 {c : Int32} (x : Int32) (e : (x &&& (255 : Int32)) = c) (h1 : ¬ Ws c) (h2 : ¬ c = (44 : Int32)) (h3 : ¬ c = (33 : Int32)) : G0 c := by
  subst e
  exact ⟨(own_m x).1, (own_m x).2, h1, h2, h3⟩
theorem own_g1 {c : Int32} (x : Int32) (e : (x &&& (255 : Int32)) = c) (h1 : ¬ Ws c) (h2 : ¬ c = (44 : Int32)) : G1 c := by
  subst e
  exact ⟨(own_m x).1, (own_m x).2, h1, h2⟩
def L2 : List (Nat × Instr × Nat) := [(0, i_0), (1, .sipush 256, 3), (4, .iand, 1), (5, .ifCond .eq 11, 3), (16, i_0), (17, .sipush 255, 3), (20, .iand, 1), (21, .istore_n 1, 1), (22, i_1), (23, .invokestatic 46, 3), (26, .ifCond .ne 15, 3), (41, .bipush 97, 2), (43, .ireturn, 1), (29, i_1), (30, .bipush 44, 2), (32, .if_icmp .eq 9, 3), (35, i_1), (36, .bipush 33, 2), (38, .if_icmp .ne 6, 3), (44, i_1), (45, .i2c, 1), (46, .ireturn, 1), (8, .bipush 97, 2), (10, i_0), (11, .iconst 1, 1), (12, .iand, 1), (13, .iadd, 1), (14, .i2c, 1), (15, .ireturn, 1)]
theorem d2 : ∀ q ∈ L2, decode method_4_code q.1 = .ok q.2 := by decide +kernel
def Qrm_first (v : Option Value) : Prop := ∃ (r : Int32), (v = some (.int r)) ∧ (G0 r)
abbrev own_y102 : MethodName := ⟨S_26, "first", "(I)C"⟩
theorem rm_first (hw : HW a0 Z) (G : Gh Z vcs wI wA cA vF wP wD kD wE kE mT mU mL mO) (ix : Int32) (h0 : Heap) (n0 : Nat) (O0 : Old Z n0 h0) :
    MM l Z own_y102 method_4_code 2 (some .char) ws (Rm 1 0 0 12) #[(.int ix)] h0 (QP h0 Qrm_first) := by
  refine own_go hw (plainFor_of_name pn_3) #[vi ix, .unset] (fun p e s m below meth c s₁ Pf hx hby hlk hown hnm hret hml hZ hh X0 e0 hPf Jf => ?_)
  have J := Jf d2
  refine gy (fun t k => iN X0 J 0 rfl rfl k) ?_
  refine Go.by' (fun t k => XS.sipush X0.here hx rfl (jd J 1 rfl) k) ?_
  show G_ 4 #[vi ix, .unset] [(.int 256), (.int ix)]
  refine gy (fun t k => oD X0 J 2 rfl (ix &&& (256 : Int32)) k) ?_
  by_cases hc878 : (ix &&& (256 : Int32)) = (0 : Int32)
  · refine gy (fun t k => fY X0 J 3 rfl ((if0 _ _).trans (teq hc878).1) 16 (iN X0 J 4 rfl rfl k)) ?_
    refine Go.by' (fun t k => XS.sipush X0.here hx rfl (jd J 5 rfl) k) ?_
    show G_ 20 #[vi ix, .unset] [(.int 255), (.int ix)]
    refine gy (fun t k => oD X0 J 6 rfl (ix &&& (255 : Int32)) (sIN X0 J 7 rfl #[vi ix, vi (ix &&& (255 : Int32))] (iN X0 J 8 rfl rfl k))) ?_
    refine own_cs (rmWs hw G ((ix &&& (255 : Int32))) _ _ O0 ) X0 J 9 7 8 2 9 e0 0 pd_2 (kP fun T879 v879 X879 e879 q879 => ?_)
    obtain ⟨r_879, rfl, r879_0⟩ := q879
    rcases r879_0 with ⟨hw879, hz879⟩ | ⟨hw879, hz879⟩
    · subst hz879
      show G_ 26 _ [(.int 1)]
      refine gy (fun t k => fY X879 J 10 rfl ((if0 _ _).trans (feq (by decide)).2) 41 (cB X879 J 11 rfl 97 k)) ?_
      exact rI X879 hret hlk hPf J 12 ⟨⟨(97 : Int32), rfl, (by decide)⟩, rfl, e879⟩
    · subst hz879
      show G_ 26 _ [(.int 0)]
      refine gy (fun t k => fN X879 J 10 rfl ((if0 _ _).trans (teq (by decide)).2) (iN X879 J 13 rfl rfl (cB X879 J 14 rfl 44 k))) ?_
      by_cases hc880 : (ix &&& (255 : Int32)) = (44 : Int32)
      · refine gy (fun t k => cY X879 J 15 rfl (teq hc880).1 41 (cB X879 J 11 rfl 97 k)) ?_
        exact rI X879 hret hlk hPf J 12 ⟨⟨(97 : Int32), rfl, (by decide)⟩, rfl, e879⟩
      · refine gy (fun t k => cN X879 J 15 rfl (feq hc880).1 (iN X879 J 16 rfl rfl (cB X879 J 17 rfl 33 k))) ?_
        by_cases hc881 : (ix &&& (255 : Int32)) = (33 : Int32)
        · refine gy (fun t k => cN X879 J 18 rfl (teq hc881).2 (cB X879 J 11 rfl 97 k)) ?_
          exact rI X879 hret hlk hPf J 12 ⟨⟨(97 : Int32), rfl, (by decide)⟩, rfl, e879⟩
        · refine gy (fun t k => cY X879 J 18 rfl (feq hc881).2 44 (iN X879 J 19 rfl rfl k)) ?_
          refine Go.by' (fun t k => XS.i2c X879.here hx rfl (jd J 20 rfl) rfl k) ?_
          show G_ 46 #[vi ix, vi (ix &&& (255 : Int32))] [(.int ((ix &&& (255 : Int32)).toUInt32.toUInt16.toUInt32.toInt32))]
          refine Go.castF (a := ((ix &&& (255 : Int32)).toUInt32.toUInt16.toUInt32.toInt32)) (b := (ix &&& (255 : Int32))) (fun z' : Int32 => mkF m 46 #[vi ix, vi (ix &&& (255 : Int32))] [(.int z')]) (i2c_mask _) ?_
          show G_ 46 #[vi ix, vi (ix &&& (255 : Int32))] [(.int (ix &&& (255 : Int32)))]
          exact rI X879 hret hlk hPf J 21 ⟨⟨(ix &&& (255 : Int32)), rfl, (own_g0 ix rfl hw879 hc880 hc881)⟩, rfl, e879⟩ (hn := (congrArg Value.int (i2c_mask _)))
  · refine gy (fun t k => fN X0 J 3 rfl ((if0 _ _).trans (feq hc878).1) (cB X0 J 22 rfl 97 (iN X0 J 23 rfl rfl (cI X0 J 24 rfl 1 (oD X0 J 25 rfl (ix &&& (1 : Int32)) (oA X0 J 26 rfl ((97 : Int32) + (ix &&& (1 : Int32))) k)))))) ?_
    refine Go.by' (fun t k => XS.i2c X0.here hx rfl (jd J 27 rfl) rfl k) ?_
    show G_ 15 #[vi ix, .unset] [(.int (((97 : Int32) + (ix &&& (1 : Int32))).toUInt32.toUInt16.toUInt32.toInt32))]
    refine Go.castF (a := (((97 : Int32) + (ix &&& (1 : Int32))).toUInt32.toUInt16.toUInt32.toInt32)) (b := ((97 : Int32) + (ix &&& (1 : Int32)))) (fun z' : Int32 => mkF m 15 #[vi ix, .unset] [(.int z')]) (own_i2c (own_abg ix).1 (own_abg ix).2.1) ?_
    show G_ 15 #[vi ix, .unset] [(.int ((97 : Int32) + (ix &&& (1 : Int32))))]
    exact rI X0 hret hlk hPf J 28 ⟨⟨((97 : Int32) + (ix &&& (1 : Int32))), rfl, (own_abg ix)⟩, rfl, e0⟩ (hn := (congrArg Value.int (own_nc (own_abg ix).1 (own_abg ix).2.1)))
def L97 : List (Nat × Instr × Nat) := [(0, i_0), (1, .sipush 256, 3), (4, .iand, 1), (5, .ifCond .eq 11, 3), (16, i_0), (17, .sipush 255, 3), (20, .iand, 1), (21, .istore_n 1, 1), (22, i_1), (23, .invokestatic 46, 3), (26, .ifCond .ne 9, 3), (35, .bipush 98, 2), (37, .ireturn, 1), (29, i_1), (30, .bipush 44, 2), (32, .if_icmp .ne 6, 3), (38, i_1), (39, .i2c, 1), (40, .ireturn, 1), (8, .bipush 97, 2), (10, i_0), (11, .iconst 1, 1), (12, .iand, 1), (13, .iadd, 1), (14, .i2c, 1), (15, .ireturn, 1)]
theorem d97 : ∀ q ∈ L97, decode method_5_code q.1 = .ok q.2 := by decide +kernel
def Qrm_last (v : Option Value) : Prop := ∃ (r : Int32), (v = some (.int r)) ∧ (G1 r)
abbrev own_y103 : MethodName := ⟨S_26, "last", "(I)C"⟩
theorem rm_last (hw : HW a0 Z) (G : Gh Z vcs wI wA cA vF wP wD kD wE kE mT mU mL mO) (ix : Int32) (h0 : Heap) (n0 : Nat) (O0 : Old Z n0 h0) :
    MM l Z own_y103 method_5_code 2 (some .char) ws (Rm 1 0 0 12) #[(.int ix)] h0 (QP h0 Qrm_last) := by
  refine own_go hw (plainFor_of_name pn_3) #[vi ix, .unset] (fun p e s m below meth c s₁ Pf hx hby hlk hown hnm hret hml hZ hh X0 e0 hPf Jf => ?_)
  have J := Jf d97
  refine gy (fun t k => iN X0 J 0 rfl rfl k) ?_
  refine Go.by' (fun t k => XS.sipush X0.here hx rfl (jd J 1 rfl) k) ?_
  show G_ 4 #[vi ix, .unset] [(.int 256), (.int ix)]
  refine gy (fun t k => oD X0 J 2 rfl (ix &&& (256 : Int32)) k) ?_
  by_cases hc882 : (ix &&& (256 : Int32)) = (0 : Int32)
  · refine gy (fun t k => fY X0 J 3 rfl ((if0 _ _).trans (teq hc882).1) 16 (iN X0 J 4 rfl rfl k)) ?_
    refine Go.by' (fun t k => XS.sipush X0.here hx rfl (jd J 5 rfl) k) ?_
    show G_ 20 #[vi ix, .unset] [(.int 255), (.int ix)]
    refine gy (fun t k => oD X0 J 6 rfl (ix &&& (255 : Int32)) (sIN X0 J 7 rfl #[vi ix, vi (ix &&& (255 : Int32))] (iN X0 J 8 rfl rfl k))) ?_
    refine own_cs (rmWs hw G ((ix &&& (255 : Int32))) _ _ O0 ) X0 J 9 7 8 2 9 e0 0 pd_2 (kP fun T883 v883 X883 e883 q883 => ?_)
    obtain ⟨r_883, rfl, r883_0⟩ := q883
    rcases r883_0 with ⟨hw883, hz883⟩ | ⟨hw883, hz883⟩
    · subst hz883
      show G_ 26 _ [(.int 1)]
      refine gy (fun t k => fY X883 J 10 rfl ((if0 _ _).trans (feq (by decide)).2) 35 (cB X883 J 11 rfl 98 k)) ?_
      exact rI X883 hret hlk hPf J 12 ⟨⟨(98 : Int32), rfl, (by decide)⟩, rfl, e883⟩
    · subst hz883
      show G_ 26 _ [(.int 0)]
      refine gy (fun t k => fN X883 J 10 rfl ((if0 _ _).trans (teq (by decide)).2) (iN X883 J 13 rfl rfl (cB X883 J 14 rfl 44 k))) ?_
      by_cases hc884 : (ix &&& (255 : Int32)) = (44 : Int32)
      · refine gy (fun t k => cN X883 J 15 rfl (teq hc884).2 (cB X883 J 11 rfl 98 k)) ?_
        exact rI X883 hret hlk hPf J 12 ⟨⟨(98 : Int32), rfl, (by decide)⟩, rfl, e883⟩
      · refine gy (fun t k => cY X883 J 15 rfl (feq hc884).2 38 (iN X883 J 16 rfl rfl k)) ?_
        refine Go.by' (fun t k => XS.i2c X883.here hx rfl (jd J 17 rfl) rfl k) ?_
        show G_ 40 #[vi ix, vi (ix &&& (255 : Int32))] [(.int ((ix &&& (255 : Int32)).toUInt32.toUInt16.toUInt32.toInt32))]
        refine Go.castF (a := ((ix &&& (255 : Int32)).toUInt32.toUInt16.toUInt32.toInt32)) (b := (ix &&& (255 : Int32))) (fun z' : Int32 => mkF m 40 #[vi ix, vi (ix &&& (255 : Int32))] [(.int z')]) (i2c_mask _) ?_
        show G_ 40 #[vi ix, vi (ix &&& (255 : Int32))] [(.int (ix &&& (255 : Int32)))]
        exact rI X883 hret hlk hPf J 18 ⟨⟨(ix &&& (255 : Int32)), rfl, (own_g1 ix rfl hw883 hc884)⟩, rfl, e883⟩ (hn := (congrArg Value.int (i2c_mask _)))
  · refine gy (fun t k => fN X0 J 3 rfl ((if0 _ _).trans (feq hc882).1) (cB X0 J 19 rfl 97 (iN X0 J 20 rfl rfl (cI X0 J 21 rfl 1 (oD X0 J 22 rfl (ix &&& (1 : Int32)) (oA X0 J 23 rfl ((97 : Int32) + (ix &&& (1 : Int32))) k)))))) ?_
    refine Go.by' (fun t k => XS.i2c X0.here hx rfl (jd J 24 rfl) rfl k) ?_
    show G_ 15 #[vi ix, .unset] [(.int (((97 : Int32) + (ix &&& (1 : Int32))).toUInt32.toUInt16.toUInt32.toInt32))]
    refine Go.castF (a := (((97 : Int32) + (ix &&& (1 : Int32))).toUInt32.toUInt16.toUInt32.toInt32)) (b := ((97 : Int32) + (ix &&& (1 : Int32)))) (fun z' : Int32 => mkF m 15 #[vi ix, .unset] [(.int z')]) (own_i2c (own_abg ix).1 (own_abg ix).2.1) ?_
    show G_ 15 #[vi ix, .unset] [(.int ((97 : Int32) + (ix &&& (1 : Int32))))]
    exact rI X0 hret hlk hPf J 25 ⟨⟨((97 : Int32) + (ix &&& (1 : Int32))), rfl, (own_abg ix).g1⟩, rfl, e0⟩ (hn := (congrArg Value.int (own_nc (own_abg ix).1 (own_abg ix).2.1)))
def L5 : List (Nat × Instr × Nat) := [(0, i_0), (1, .sipush 255, 3), (4, .if_icmp .gt 7, 3), (7, .iconst 1, 1), (8, .goto 4, 3), (12, .ireturn, 1)]
theorem d5 : ∀ q ∈ L5, decode jdk_43_method_3_code q.1 = .ok q.2 := by decide +kernel
def QrmCE (v : Option Value) : Prop := (v = some (.int 1))
abbrev own_y104 : MethodName := ⟨S_18, "canEncode", "(C)Z"⟩
theorem rmCE (hw : HW a0 Z) (G : Gh Z vcs wI wA cA vF wP wD kD wE kE mT mU mL mO) (c0 : Int32) (h0 : Heap) (n0 : Nat) (O0 : Old Z n0 h0) (hb0 : ¬ ((255 : Int32) < c0)) :
    MM l Z own_y104 jdk_43_method_3_code 1 (some .boolean) ws (Rm 0 0 0 0) #[(.int c0)] h0 (QP h0 QrmCE) := by
  refine own_go hw (plainFor_of_name pn_42) #[vi c0] (fun p e s m below meth c s₁ Pf hx hby hlk hown hnm hret hml hZ hh X0 e0 hPf Jf => ?_)
  have J := Jf d5
  refine gy (fun t k => iN X0 J 0 rfl rfl k) ?_
  refine Go.by' (fun t k => XS.sipush X0.here hx rfl (jd J 1 rfl) k) ?_
  show G_ 4 #[vi c0] [(.int 255), (.int c0)]
  refine gy (fun t k => cN X0 J 2 rfl (flt hb0).2.2.1 (cI X0 J 3 rfl 1 (jG X0 J 4 rfl 12 k))) ?_
  exact rI X0 hret hlk hPf J 5 ⟨rfl, rfl, e0⟩
def L6 : List (Nat × Instr × Nat) := [(0, .iconst 1, 1), (1, .newarray .byte, 2), (3, .dup, 1), (4, .iconst 0, 1), (5, i_0), (6, .i2b, 1), (7, .bastore, 1), (8, .areturn, 1)]
theorem d6 : ∀ q ∈ L6, decode jdk_43_method_46_code q.1 = .ok q.2 := by decide +kernel
def QrmTB (Z : State) (c0 : Int32) (h0 : Heap) (v : Option Value) (h : Heap) : Prop := ∃ (rb : Addr) (kb : ClassId), (v = some (.ref rb)) ∧ (Keep h0 h []) ∧ (Arv Z h rb kb .byte (1 : Int32) [(.int (c0.toInt8.toInt32))] (.int 0)) ∧ (h0.size ≤ rb)
abbrev own_y105 : MethodName := ⟨S_18, "toBytes", "(C)[B"⟩
theorem rmTB (hw : HW a0 Z) (G : Gh Z vcs wI wA cA vF wP wD kD wE kE mT mU mL mO) (c0 : Int32) (h0 : Heap) (n0 : Nat) (O0 : Old Z n0 h0) :
    MM l Z own_y105 jdk_43_method_46_code 1 (some (.array .byte)) ws (Rm 0 1 1 0) #[(.int c0)] h0 (QF n0 (QrmTB Z c0 h0)) := by
  refine own_go hw (plainFor_of_name pn_42) #[vi c0] (fun p e s m below meth c s₁ Pf hx hby hlk hown hnm hret hml hZ hh X0 e0 hPf Jf => ?_)
  have N0 := Fr.nil n0
  have KC0 := Keep.refl h0 []
  have J := Jf d6
  refine gy (fun t k => cI X0 J 0 rfl 1 k) ?_
  obtain ⟨T885, h885, k885, X885, e885, E885, A885, st885⟩ := newP (aty := .byte) X0 hx hZ (ww hw 24 rfl) e0 (g := (mkF m 1 #[vi c0] [(.int 1)])) rfl (jd J 1 rfl) rfl (by decide) (cap := 1) (by decide) (by decide) (by decide) (by decide)
  obtain ⟨b885, g885⟩ : ∃ z, z = h0.size := ⟨_, rfl⟩
  rw [← g885] at A885 st885
  refine Go.by' st885 ?_
  have g_b885 : n0 ≤ b885 := Nat.le_trans (own_le O0) (Nat.le_of_eq g885.symm)
  have sz_b885 : h0.size ≤ b885 := Nat.le_trans KC0.1 (Nat.le_of_eq g885.symm)
  have O885 := O0.ext E885
  have KC885 := KC0.ext E885
  have V885 : Arv Z h885 b885 k885 .byte (1 : Int32) [(.int 0)] (Value.int 0) := (Arv.new A885 (by decide)).pad (pad_rep [] (Value.int 0) 1)
  show G_ 3 #[vi c0] [(.ref b885)]
  refine gy (fun t k => oP X885 J 2 rfl (cI X885 J 3 rfl 0 (iN X885 J 4 rfl rfl k))) ?_
  refine Go.by' (fun t k => XS.i2b X885.here hx rfl (jd J 5 rfl) rfl k) ?_
  obtain ⟨cl886, Ar886, q886, S886, P886, H886, G886⟩ := (id V885)
  have hin886 : ¬ ((0 : Int32) < 0 ∨ cl886.slots.size ≤ ((0 : Int32)).toNatClampNeg) := inb_of S886 ⟨by decide, by decide⟩
  obtain ⟨T887, h887, X887, e887, W887, st887⟩ := stB X885 hx hZ e885 Ar886 (j := (0 : Int32)) hin886 (g := (mkF m 7 #[vi c0] [(.int (c0.toInt8.toInt32)), (.int 0), (.ref b885), (.ref b885)])) rfl rfl (jd J 6 rfl)
  refine Go.by' st887 ?_
  rw [own_bb] at W887
  have V887 : Arv Z h887 b885 k885 .byte (1 : Int32) [(.int (c0.toInt8.toInt32))] (Value.int 0) := Arv.set Ar886 q886 S886 P886 H886 G886 (fits_nar_byte _) W887 0 rfl (Nat.le_of_ble_eq_true rfl)
  have N887 := Fr.snoc X887 N0 g_b885
  obtain ⟨lc887, X887, N887⟩ := own_pack X887 N887
  have O887 := O885.wr W887 g_b885
  have KC887 := KC885.wr W887 (Or.inr sz_b885)
  show G_ 8 #[vi c0] [(.ref b885)]
  exact rA X887 hret hlk hPf J 7 ⟨⟨b885, k885, rfl, (by rw [e887]; exact KC887), (by rw [e887]; exact V887), sz_b885⟩, N887⟩
def L7 : List (Nat × Instr × Nat) := [(0, a_0), (1, .invokespecial 1, 3), (4, a_0), (5, a_1), (6, .putfield 9, 3), (9, a_0), (10, i_2), (11, .putfield 15, 3), (14, .return_, 1)]
theorem d7 : ∀ q ∈ L7, decode jdk_42_method_151_code q.1 = .ok q.2 := by decide +kernel
def QrmIB (Z : State) (sa : Addr) (ba : Addr) (h0 : Heap) (v : Option Value) (h : Heap) : Prop := (v = none) ∧ (Keep h0 h [sa]) ∧ (Exa Z h sa S_3) ∧ (Fld Z h sa S_3 "value" "[B" (.ref ba)) ∧ (Fld Z h sa S_3 "coder" "B" (.int 0))
abbrev own_y106 : MethodName := ⟨S_3, "<init>", "([BB)V"⟩
theorem rmIB (hw : HW a0 Z) (G : Gh Z vcs wI wA cA vF wP wD kD wE kE mT mU mL mO) (sa : Addr) (ba : Addr) (h0 : Heap) (n0 : Nat) (O0 : Old Z n0 h0) (EX : Exa Z h0 sa S_3) (FV : Fld Z h0 sa S_3 "value" "[B" .null) (FC : Fld Z h0 sa S_3 "coder" "B" (.int 0)) (g_sa : n0 ≤ sa) :
    MM l Z own_y106 jdk_42_method_151_code 3 none ws (Rm 1 0 0 12) #[(.ref sa), (.ref ba), (.int 0)] h0 (QF n0 (QrmIB Z sa ba h0)) := by
  refine own_go hw (plainFor_of_name pn_39) #[vr sa, vr ba, vi 0] (fun p e s m below meth c s₁ Pf hx hby hlk hown hnm hret hml hZ hh X0 e0 hPf Jf => ?_)
  have N0 := Fr.nil n0
  have KC0 := Keep.refl h0 [sa]
  have J := Jf d7
  refine gy (fun t k => aN X0 J 0 rfl rfl k) ?_
  refine own_oi X0 J 1 29 30 31 e0 0 (fun T889 X889 e889 => ?_)
  refine gy (fun t k => aN X889 J 2 rfl rfl (aN X889 J 3 rfl rfl k)) ?_
  refine own_pf (ty := (.array .byte)) (v' := (.ref ba)) X889 J 4 32 Via.refl e889 FV EX (Or.inr ⟨(ww hw 33 rfl), rfl, hnm⟩) 20 rfl rfl N0 g_sa (fun T890 h890 _ X890 e890 W890 N890 => ?_)
  have Fw890 : Fld Z h890 sa S_3 "value" "[B" (Value.ref ba) := FV.same W890
  have O890 := O0.wr W890 g_sa
  have KC890 := KC0.wr W890 (il 0)
  refine gy (fun t k => aN X890 J 5 rfl rfl (iN X890 J 6 rfl rfl k)) ?_
  refine own_pf (ty := .byte) (v' := (.int 0)) X890 J 7 34 Via.refl e890 (FC.other W890 (Or.inr (slot_ne (Or.inr (ww hw 35 rfl)) (Or.inr (ww hw 33 rfl)) (by decide) (t := .byte) (t' := (.array .byte)) (by decide) (by decide)))) (EX.wr W890) (Or.inr ⟨(ww hw 35 rfl), rfl, hnm⟩) 20 rfl rfl N890 g_sa (fun T891 h891 _ X891 e891 W891 N891 => ?_)
  have Fw891 : Fld Z h891 sa S_3 "coder" "B" (Value.int 0) := (FC.other W890 (Or.inr (slot_ne (Or.inr (ww hw 35 rfl)) (Or.inr (ww hw 33 rfl)) (by decide) (t := .byte) (t' := (.array .byte)) (by decide) (by decide)))).same W891
  have O891 := O890.wr W891 g_sa
  have KC891 := KC890.wr W891 (il 0)
  have c892 := ((EX.wr W890).wr W891)
  exact rV X891 hret hlk hPf J 8 ⟨⟨rfl, (by rw [e891]; exact KC891), (by rw [e891]; exact c892), (by rw [e891]; exact (Fw890.other W891 (Or.inr (slot_ne (Or.inr (ww hw 33 rfl)) (Or.inr (ww hw 35 rfl)) (by decide) (t := (.array .byte)) (t' := .byte) (by decide) (by decide))))), (by rw [e891]; exact Fw891)⟩, N891⟩
theorem pd_49 : parseMethodDescriptor "(C)Z" = some ⟨[.char], some .boolean⟩ := by decide +kernel
theorem pd_50 : parseMethodDescriptor "(C)[B" = some ⟨[.char], some (.array .byte)⟩ := by decide +kernel
theorem pd_51 : parseMethodDescriptor "([BB)V" = some ⟨[(.array .byte), .byte], none⟩ := by decide +kernel
def L4 : List (Nat × Instr × Nat) := [(0, .getstatic 38, 3), (3, .ifCond .eq 23, 3), (6, i_0), (7, .invokestatic 1015, 3), (10, .ifCond .eq 16, 3), (13, .new 10, 3), (16, .dup, 1), (17, i_0), (18, .invokestatic 1018, 3), (21, .iconst 0, 1), (22, .invokespecial 209, 3), (25, .areturn, 1)]
theorem d4 : ∀ q ∈ L4, decode jdk_42_method_139_code q.1 = .ok q.2 := by decide +kernel
def QrmVC (Z : State) (c0 : Int32) (h0 : Heap) (v : Option Value) (h : Heap) : Prop := ∃ (r : Addr) (rb : Addr) (kb : ClassId), (v = some (.ref r)) ∧ (Keep h0 h []) ∧ (Exa Z h r S_3) ∧ (h0.size ≤ r) ∧ (Fld Z h r S_3 "value" "[B" (.ref rb)) ∧ (Fld Z h r S_3 "coder" "B" (.int 0)) ∧ (Arv Z h rb kb .byte (1 : Int32) [(.int (c0.toInt8.toInt32))] (.int 0)) ∧ (h0.size ≤ rb)
abbrev own_y107 : MethodName := ⟨S_3, "valueOf", "(C)Ljava/lang/String;"⟩
theorem rmVC (hw : HW a0 Z) (G : Gh Z vcs wI wA cA vF wP wD kD wE kE mT mU mL mO) (c0 : Int32) (h0 : Heap) (n0 : Nat) (O0 : Old Z n0 h0) (hb0 : ¬ ((255 : Int32) < c0)) :
    MM l Z own_y107 jdk_42_method_139_code 1 (some (.object S_3)) ws (Rm 2 2 5 27) #[(.int c0)] h0 (QF n0 (QrmVC Z c0 h0)) := by
  refine own_go hw (plainFor_of_name pn_39) #[vi c0] (fun p e s m below meth c s₁ Pf hx hby hlk hown hnm hret hml hZ hh X0 e0 hPf Jf => ?_)
  have N0 := Fr.nil n0
  have KC0 := Keep.refl h0 []
  have J := Jf d4
  refine own_gs X0 J 0 14 Via.refl e0 (G.1.ext O0.2) (fun T893 X893 e893 => ?_)
  refine gy (fun t k => fN X893 J 1 rfl ((if0 _ _).trans (feq G.2.1).1) (iN X893 J 2 rfl rfl k)) ?_
  refine own_cs (rmCE hw G c0 _ _ O0 hb0) X893 J 3 15 16 17 18 e893 0 pd_49 (kP fun T894 v894 X894 e894 q894 => ?_)
  obtain rfl := q894
  show G_ 10 _ [(.int 1)]
  refine gy (fun t k => fN X894 J 4 rfl ((if0 _ _).trans (feq (by decide)).1) k) ?_
  obtain ⟨T895, h895, X895, e895, E895, A895, D895, -, st895⟩ := newO X894 hx hZ hown (ww hw 19 rfl) (ww hw 20 rfl) (ww hw 12 rfl) e894 (g := (mkF m 13 #[vi c0] [])) rfl (jd J 5 rfl) (by decide) (by decide)
  obtain ⟨b895, g895⟩ : ∃ z, z = h0.size := ⟨_, rfl⟩
  rw [← g895] at A895 D895 st895
  refine Go.by' st895 ?_
  have g_b895 : n0 ≤ b895 := Nat.le_trans (own_le O0) (Nat.le_of_eq g895.symm)
  have sz_b895 : h0.size ≤ b895 := Nat.le_trans KC0.1 (Nat.le_of_eq g895.symm)
  have O895 := O0.ext E895
  have KC895 := KC0.ext E895
  have Fn895_33 : Fld Z h895 b895 S_3 "value" "[B" Value.null := D895 (Or.inr (ww hw 33 rfl)) (ty := (.array .byte)) (by decide)
  have Fn895_35 : Fld Z h895 b895 S_3 "coder" "B" (Value.int 0) := D895 (Or.inr (ww hw 35 rfl)) (ty := .byte) (by decide)
  show G_ 16 #[vi c0] [(.ref b895)]
  refine gy (fun t k => oP X895 J 6 rfl (iN X895 J 7 rfl rfl k)) ?_
  refine own_cs (rmTB hw G c0 _ _ O895 ) X895 J 8 21 22 17 23 e895 2 pd_50 (kF N0 fun _ T896 v896 X896 N896 q896 => ?_)
  obtain ⟨rb_896, kb_896, rfl, K896, f896_0, f896_1⟩ := q896
  have g_rb_896 : n0 ≤ rb_896 := Nat.le_trans (own_le O895) f896_1
  have sz_rb_896 : h0.size ≤ rb_896 := Nat.le_trans KC895.1 f896_1
  have O896 := O895.keep K896 all0
  have KC896 := KC895.trans K896 all0
  show G_ 21 _ [(.ref rb_896), (.ref b895), (.ref b895)]
  refine gy (fun t k => cI X896 J 9 rfl 0 k) ?_
  refine own_ci (rmIB hw G _ rb_896 _ _ O896 (A895.keep K896) (Fn895_33.keep K896 nin0) (Fn895_35.keep K896 nin0) g_b895) X896 J 10 25 26 12 28 rfl 1 pd_51 (kF N896 fun _ T897 v897 X897 N897 q897 => ?_)
  obtain ⟨rfl, K897, f897_0, f897_1, f897_2⟩ := q897
  have O897 := O896.keep K897 (allS g_b895 all0)
  have KC897 := KC896.trans K897 (allS (Or.inr sz_b895) all0)
  show G_ 25 _ [(.ref b895)]
  exact rA X897 hret hlk hPf J 11 ⟨⟨b895, rb_896, kb_896, rfl, KC897, f897_0, sz_b895, f897_1, f897_2, (f896_0.keep K897 (ninS (Nat.ne_of_gt (Nat.lt_of_lt_of_le A895.lt f896_1)) nin0)), sz_rb_896⟩, N897⟩
theorem pn_101 : plainName "java/lang/StringUTF16" = true := by first | (simp [plainName, overriddenIn]; done) | decide +kernel
def L101 : List (Nat × Instr × Nat) := [(0, .iconst 0, 1), (1, .istore 5, 2), (3, .iload 5, 2), (5, .iload 4, 2), (7, .if_icmp .ge 37, 3), (10, a_0), (11, i_1), (12, .caload, 1), (13, .istore 6, 2), (15, .iload 6, 2), (17, .sipush 255, 3), (20, .if_icmp .le 6, 3), (26, a_2), (27, i_3), (28, .iload 6, 2), (30, .i2b, 1), (31, .bastore, 1), (32, .iinc 1 1, 3), (35, .iinc 3 1, 3), (38, .iinc 5 1, 3), (41, .goto (-38), 3), (44, .iload 4, 2), (46, .ireturn, 1)]
theorem d101 : ∀ q ∈ L101, decode jdk_52_method_21_code q.1 = .ok q.2 := by decide +kernel
def QrmC5_2 (Z : State) (ba : Addr) (kb : ClassId) (c0 : Int32) (c1 : Int32) (h0 : Heap) (v : Option Value) (h : Heap) : Prop := (v = some (.int 2)) ∧ (Keep h0 h [ba]) ∧ (Arv Z h ba kb .byte (2 : Int32) [(.int (c0.toInt8.toInt32)), (.int (c1.toInt8.toInt32))] (.int 0))
abbrev own_y108 : MethodName := ⟨"java/lang/StringUTF16", "compress", "([CI[BII)I"⟩
theorem rmC5_2 (hw : HW a0 Z) (G : Gh Z vcs wI wA cA vF wP wD kD wE kE mT mU mL mO) (ca : Addr) (ba : Addr) (kc : ClassId) (kb : ClassId) (c0 : Int32) (c1 : Int32) (h0 : Heap) (n0 : Nat) (O0 : Old Z n0 h0) (VC : Arv Z h0 ca kc .char (2 : Int32) [(.int c0), (.int c1)] (.int 0)) (VB : Arv Z h0 ba kb .byte (2 : Int32) [(.int 0), (.int 0)] (.int 0)) (g_ba : n0 ≤ ba) (hne : ca ≠ ba) (hb0 : ¬ ((255 : Int32) < c0)) (hb1 : ¬ ((255 : Int32) < c1)) :
    MM l Z own_y108 jdk_52_method_21_code 7 (some .int) ws (Rm 0 0 0 0) #[(.ref ca), (.int 0), (.ref ba), (.int 0), (.int 2)] h0 (QF n0 (QrmC5_2 Z ba kb c0 c1 h0)) := by
  refine own_go hw (plainFor_of_name pn_101) #[vr ca, vi 0, vr ba, vi 0, vi 2, .unset, .unset] (fun p e s m below meth c s₁ Pf hx hby hlk hown hnm hret hml hZ hh X0 e0 hPf Jf => ?_)
  have N0 := Fr.nil n0
  have KC0 := Keep.refl h0 [ba]
  have J := Jf d101
  refine gy (fun t k => cI X0 J 0 rfl 0 (sI X0 J 1 rfl #[vr ca, vi 0, vr ba, vi 0, vi 2, vi 0, .unset] (iL X0 J 2 rfl rfl (iL X0 J 3 rfl rfl (cN X0 J 4 rfl (tlt (by decide)).2.1 (aN X0 J 5 rfl rfl (iN X0 J 6 rfl rfl k))))))) ?_
  refine Go.by' (fun t k => own_cal X0 hx hZ e0 VC (j := (0 : Int32)) (v := (.int c0)) ⟨by decide, by decide⟩ rfl rfl rfl (jd J 7 rfl) k) ?_
  show G_ 13 #[vr ca, vi 0, vr ba, vi 0, vi 2, vi 0, .unset] [(.int c0)]
  refine gy (fun t k => sI X0 J 8 rfl #[vr ca, vi 0, vr ba, vi 0, vi 2, vi 0, vi c0] (iL X0 J 9 rfl rfl k)) ?_
  refine Go.by' (fun t k => XS.sipush X0.here hx rfl (jd J 10 rfl) k) ?_
  show G_ 20 #[vr ca, vi 0, vr ba, vi 0, vi 2, vi 0, vi c0] [(.int 255), (.int c0)]
  refine gy (fun t k => cY X0 J 11 rfl (flt hb0).2.2.2 26 (aN X0 J 12 rfl rfl (iN X0 J 13 rfl rfl (iL X0 J 14 rfl rfl k)))) ?_
  refine Go.by' (fun t k => XS.i2b X0.here hx rfl (jd J 15 rfl) rfl k) ?_
  obtain ⟨cl899, Ar899, q899, S899, P899, H899, G899⟩ := (id VB)
  have hin899 : ¬ ((0 : Int32) < 0 ∨ cl899.slots.size ≤ ((0 : Int32)).toNatClampNeg) := inb_of S899 ⟨by decide, by decide⟩
  obtain ⟨T900, h900, X900, e900, W900, st900⟩ := stB X0 hx hZ e0 Ar899 (j := (0 : Int32)) hin899 (g := (mkF m 31 #[vr ca, vi 0, vr ba, vi 0, vi 2, vi 0, vi c0] [(.int (c0.toInt8.toInt32)), (.int 0), (.ref ba)])) rfl rfl (jd J 16 rfl)
  refine Go.by' st900 ?_
  rw [own_bb] at W900
  have V900 : Arv Z h900 ba kb .byte (2 : Int32) [(.int (c0.toInt8.toInt32)), (.int 0)] (Value.int 0) := Arv.set Ar899 q899 S899 P899 H899 G899 (fits_nar_byte _) W900 0 rfl (Nat.le_of_ble_eq_true rfl)
  have N900 := Fr.snoc X900 N0 g_ba
  obtain ⟨lc900, X900, N900⟩ := own_pack X900 N900
  have O900 := O0.wr W900 g_ba
  have KC900 := KC0.wr W900 (il 0)
  show G_ 32 #[vr ca, vi 0, vr ba, vi 0, vi 2, vi 0, vi c0] []
  refine gy (fun t k => xI X900 J 17 rfl rfl #[vr ca, vi 1, vr ba, vi 0, vi 2, vi 0, vi c0] (xI X900 J 18 rfl rfl #[vr ca, vi 1, vr ba, vi 1, vi 2, vi 0, vi c0] (xI X900 J 19 rfl rfl #[vr ca, vi 1, vr ba, vi 1, vi 2, vi 1, vi c0] (jG X900 J 20 rfl 3 (iL X900 J 2 rfl rfl (iL X900 J 3 rfl rfl (cN X900 J 4 rfl (tlt (by decide)).2.1 (aN X900 J 5 rfl rfl k)))))))) ?_
  refine gy (fun t k => iN X900 J 6 rfl rfl k) ?_
  refine Go.by' (fun t k => own_cal X900 hx hZ e900 (VC.other W900 hne) (j := (1 : Int32)) (v := (.int c1)) ⟨by decide, by decide⟩ rfl rfl rfl (jd J 7 rfl) k) ?_
  show G_ 13 #[vr ca, vi 1, vr ba, vi 1, vi 2, vi 1, vi c0] [(.int c1)]
  refine gy (fun t k => sI X900 J 8 rfl #[vr ca, vi 1, vr ba, vi 1, vi 2, vi 1, vi c1] (iL X900 J 9 rfl rfl k)) ?_
  refine Go.by' (fun t k => XS.sipush X900.here hx rfl (jd J 10 rfl) k) ?_
  show G_ 20 #[vr ca, vi 1, vr ba, vi 1, vi 2, vi 1, vi c1] [(.int 255), (.int c1)]
  refine gy (fun t k => cY X900 J 11 rfl (flt hb1).2.2.2 26 (aN X900 J 12 rfl rfl (iN X900 J 13 rfl rfl (iL X900 J 14 rfl rfl k)))) ?_
  refine Go.by' (fun t k => XS.i2b X900.here hx rfl (jd J 15 rfl) rfl k) ?_
  obtain ⟨cl902, Ar902, q902, S902, P902, H902, G902⟩ := (id V900)
  have hin902 : ¬ ((1 : Int32) < 0 ∨ cl902.slots.size ≤ ((1 : Int32)).toNatClampNeg) := inb_of S902 ⟨by decide, by decide⟩
  obtain ⟨T903, h903, X903, e903, W903, st903⟩ := stB X900 hx hZ e900 Ar902 (j := (1 : Int32)) hin902 (g := (mkF m 31 #[vr ca, vi 1, vr ba, vi 1, vi 2, vi 1, vi c1] [(.int (c1.toInt8.toInt32)), (.int 1), (.ref ba)])) rfl rfl (jd J 16 rfl)
  refine Go.by' st903 ?_
  rw [own_bb] at W903
  have V903 : Arv Z h903 ba kb .byte (2 : Int32) [(.int (c0.toInt8.toInt32)), (.int (c1.toInt8.toInt32))] (Value.int 0) := Arv.set Ar902 q902 S902 P902 H902 G902 (fits_nar_byte _) W903 1 rfl (Nat.le_of_ble_eq_true rfl)
  have N903 := Fr.snoc X903 N900 g_ba
  obtain ⟨lc903, X903, N903⟩ := own_pack X903 N903
  have O903 := O900.wr W903 g_ba
  have KC903 := KC900.wr W903 (il 0)
  show G_ 32 #[vr ca, vi 1, vr ba, vi 1, vi 2, vi 1, vi c1] []
  refine gy (fun t k => xI X903 J 17 rfl rfl #[vr ca, vi 2, vr ba, vi 1, vi 2, vi 1, vi c1] (xI X903 J 18 rfl rfl #[vr ca, vi 2, vr ba, vi 2, vi 2, vi 1, vi c1] (xI X903 J 19 rfl rfl #[vr ca, vi 2, vr ba, vi 2, vi 2, vi 2, vi c1] (jG X903 J 20 rfl 3 (iL X903 J 2 rfl rfl (iL X903 J 3 rfl rfl (cY X903 J 4 rfl (flt (by decide)).2.1 44 (iL X903 J 21 rfl rfl k)))))))) ?_
  exact rI X903 hret hlk hPf J 22 ⟨⟨rfl, (by rw [e903]; exact KC903), (by rw [e903]; exact V903)⟩, N903⟩
theorem pd_52 : parseMethodDescriptor "([CI[BII)I" = some ⟨[(.array .char), .int, (.array .byte), .int, .int], some .int⟩ := by decide +kernel
def L100 : List (Nat × Instr × Nat) := [(0, i_2), (1, .newarray .byte, 2), (3, .astore_n 3, 1), (4, a_0), (5, i_1), (6, a_3), (7, .iconst 0, 1), (8, i_2), (9, .invokestatic 115, 3), (12, .istore 4, 2), (14, .iload 4, 2), (16, i_2), (17, .if_icmp .eq 40, 3), (57, a_3), (58, .areturn, 1)]
theorem d100 : ∀ q ∈ L100, decode jdk_52_method_16_code q.1 = .ok q.2 := by decide +kernel
def QrmC3_2 (Z : State) (c0 : Int32) (c1 : Int32) (h0 : Heap) (v : Option Value) (h : Heap) : Prop := ∃ (rb : Addr) (kb : ClassId), (v = some (.ref rb)) ∧ (Keep h0 h []) ∧ (Arv Z h rb kb .byte (2 : Int32) [(.int (c0.toInt8.toInt32)), (.int (c1.toInt8.toInt32))] (.int 0)) ∧ (h0.size ≤ rb)
abbrev own_y109 : MethodName := ⟨"java/lang/StringUTF16", "compress", "([CII)[B"⟩
theorem rmC3_2 (hw : HW a0 Z) (G : Gh Z vcs wI wA cA vF wP wD kD wE kE mT mU mL mO) (ca : Addr) (kc : ClassId) (c0 : Int32) (c1 : Int32) (h0 : Heap) (n0 : Nat) (O0 : Old Z n0 h0) (VC : Arv Z h0 ca kc .char (2 : Int32) [(.int c0), (.int c1)] (.int 0)) (hb0 : ¬ ((255 : Int32) < c0)) (hb1 : ¬ ((255 : Int32) < c1)) :
    MM l Z own_y109 jdk_52_method_16_code 6 (some (.array .byte)) ws (Rm 1 1 2 18) #[(.ref ca), (.int 0), (.int 2)] h0 (QF n0 (QrmC3_2 Z c0 c1 h0)) := by
  refine own_go hw (plainFor_of_name pn_101) #[vr ca, vi 0, vi 2, .unset, .unset, .unset] (fun p e s m below meth c s₁ Pf hx hby hlk hown hnm hret hml hZ hh X0 e0 hPf Jf => ?_)
  have N0 := Fr.nil n0
  have KC0 := Keep.refl h0 []
  have J := Jf d100
  refine gy (fun t k => iN X0 J 0 rfl rfl k) ?_
  obtain ⟨T904, h904, k904, X904, e904, E904, A904, st904⟩ := newP (aty := .byte) X0 hx hZ (ww hw 24 rfl) e0 (g := (mkF m 1 #[vr ca, vi 0, vi 2, .unset, .unset, .unset] [(.int 2)])) rfl (jd J 1 rfl) rfl (by decide) (cap := 2) (by decide) (by decide) (by decide) (by decide)
  obtain ⟨b904, g904⟩ : ∃ z, z = h0.size := ⟨_, rfl⟩
  rw [← g904] at A904 st904
  refine Go.by' st904 ?_
  have g_b904 : n0 ≤ b904 := Nat.le_trans (own_le O0) (Nat.le_of_eq g904.symm)
  have sz_b904 : h0.size ≤ b904 := Nat.le_trans KC0.1 (Nat.le_of_eq g904.symm)
  have O904 := O0.ext E904
  have KC904 := KC0.ext E904
  have V904 : Arv Z h904 b904 k904 .byte (2 : Int32) [(.int 0), (.int 0)] (Value.int 0) := (Arv.new A904 (by decide)).pad (pad_rep [] (Value.int 0) 2)
  show G_ 3 #[vr ca, vi 0, vi 2, .unset, .unset, .unset] [(.ref b904)]
  refine gy (fun t k => sAN X904 J 2 rfl #[vr ca, vi 0, vi 2, vr b904, .unset, .unset] (aN X904 J 3 rfl rfl (iN X904 J 4 rfl rfl (aN X904 J 5 rfl rfl (cI X904 J 6 rfl 0 (iN X904 J 7 rfl rfl k)))))) ?_
  refine own_cs (rmC5_2 hw G _ _ _ _ _ _ _ _ O904 (VC.ext E904) V904 g_b904 (Nat.ne_of_lt (Nat.lt_of_lt_of_le VC.lt (Nat.le_of_eq g904.symm))) hb0 hb1) X904 J 8 594 595 592 596 e904 0 pd_52 (kF N0 fun _ T905 v905 X905 N905 q905 => ?_)
  obtain ⟨rfl, K905, f905_0⟩ := q905
  have O905 := O904.keep K905 (allS g_b904 all0)
  have KC905 := KC904.trans K905 (allS (Or.inr sz_b904) all0)
  show G_ 12 _ [(.int 2)]
  refine gy (fun t k => sI X905 J 9 rfl #[vr ca, vi 0, vi 2, vr b904, vi 2, .unset] (iL X905 J 10 rfl rfl (iN X905 J 11 rfl rfl (cY X905 J 12 rfl (teq (by decide)).1 57 (aN X905 J 13 rfl rfl k))))) ?_
  exact rA X905 hret hlk hPf J 14 ⟨⟨b904, k904, rfl, KC905, f905_0, sz_b904⟩, N905⟩
def L102 : List (Nat × Instr × Nat) := [(0, i_1), (1, a_0), (2, .arraylength, 1), (3, .isub, 1), (4, .bipush 31, 2), (6, .iushr, 1), (7, .i2b, 1), (8, .ireturn, 1)]
theorem d102 : ∀ q ∈ L102, decode jdk_52_method_15_code q.1 = .ok q.2 := by decide +kernel
def QrmCL_2 (v : Option Value) : Prop := (v = some (.int 0))
abbrev own_y110 : MethodName := ⟨"java/lang/StringUTF16", "coderFromArrayLen", "([BI)B"⟩
theorem rmCL_2 (hw : HW a0 Z) (G : Gh Z vcs wI wA cA vF wP wD kD wE kE mT mU mL mO) (ba : Addr) (kb : ClassId) (x0 : Value) (x1 : Value) (h0 : Heap) (n0 : Nat) (O0 : Old Z n0 h0) (VB : Arv Z h0 ba kb .byte (2 : Int32) [x0, x1] (.int 0)) :
    MM l Z own_y110 jdk_52_method_15_code 2 (some .byte) ws (Rm 0 0 0 0) #[(.ref ba), (.int 2)] h0 (QP h0 QrmCL_2) := by
  refine own_go hw (plainFor_of_name pn_101) #[vr ba, vi 2] (fun p e s m below meth c s₁ Pf hx hby hlk hown hnm hret hml hZ hh X0 e0 hPf Jf => ?_)
  have J := Jf d102
  refine gy (fun t k => iN X0 J 0 rfl rfl (aN X0 J 1 rfl rfl k)) ?_
  refine Go.by' (fun t k => own_alen X0 hx hZ e0 VB rfl rfl (jd J 2 rfl) k) ?_
  show G_ 3 #[vr ba, vi 2] [(.int 2), (.int 2)]
  refine gy (fun t k => oS X0 J 3 rfl (0 : Int32) (cB X0 J 4 rfl 31 k)) ?_
  refine Go.by' (fun t k => XS.iushr X0.here hx rfl (jd J 5 rfl) rfl k) ?_
  refine Go.by' (fun t k => XS.i2b X0.here hx rfl (jd J 6 rfl) rfl k) ?_
  show G_ 8 #[vr ba, vi 2] [(.int 0)]
  exact rI X0 hret hlk hPf J 7 ⟨rfl, rfl, e0⟩
theorem pd_53 : parseMethodDescriptor "([CII)[B" = some ⟨[(.array .char), .int, .int], some (.array .byte)⟩ := by decide +kernel
theorem pd_54 : parseMethodDescriptor "([BI)B" = some ⟨[(.array .byte), .int], some .byte⟩ := by decide +kernel
def L99 : List (Nat × Instr × Nat) := [(0, a_0), (1, .invokespecial 1, 3), (4, i_3), (5, .ifCond .ne 22, 3), (27, .getstatic 38, 3), (30, .ifCond .eq 28, 3), (33, a_1), (34, i_2), (35, i_3), (36, .invokestatic 177, 3), (39, .astore 5, 2), (41, a_0), (42, .aload 5, 2), (44, i_3), (45, .invokestatic 47, 3), (48, .putfield 15, 3), (51, a_0), (52, .aload 5, 2), (54, .putfield 9, 3), (57, .return_, 1)]
theorem d99 : ∀ q ∈ L99, decode jdk_42_method_149_code q.1 = .ok q.2 := by decide +kernel
def QrmS4_2 (Z : State) (sa : Addr) (c0 : Int32) (c1 : Int32) (h0 : Heap) (v : Option Value) (h : Heap) : Prop := ∃ (rb : Addr) (kb : ClassId), (v = none) ∧ (Keep h0 h [sa]) ∧ (Exa Z h sa S_3) ∧ (Fld Z h sa S_3 "value" "[B" (.ref rb)) ∧ (Fld Z h sa S_3 "coder" "B" (.int 0)) ∧ (Arv Z h rb kb .byte (2 : Int32) [(.int (c0.toInt8.toInt32)), (.int (c1.toInt8.toInt32))] (.int 0)) ∧ (h0.size ≤ rb)
abbrev own_y111 : MethodName := ⟨S_3, "<init>", "([CIILjava/lang/Void;)V"⟩
theorem rmS4_2 (hw : HW a0 Z) (G : Gh Z vcs wI wA cA vF wP wD kD wE kE mT mU mL mO) (sa : Addr) (ca : Addr) (kc : ClassId) (c0 : Int32) (c1 : Int32) (h0 : Heap) (n0 : Nat) (O0 : Old Z n0 h0) (EX : Exa Z h0 sa S_3) (FV : Fld Z h0 sa S_3 "value" "[B" .null) (FC : Fld Z h0 sa S_3 "coder" "B" (.int 0)) (g_sa : n0 ≤ sa) (VC : Arv Z h0 ca kc .char (2 : Int32) [(.int c0), (.int c1)] (.int 0)) (hne : sa ≠ ca) (hb0 : ¬ ((255 : Int32) < c0)) (hb1 : ¬ ((255 : Int32) < c1)) :
    MM l Z own_y111 jdk_42_method_149_code 6 none ws (Rm 2 1 2 35) #[(.ref sa), (.ref ca), (.int 0), (.int 2), .null] h0 (QF n0 (QrmS4_2 Z sa c0 c1 h0)) := by
  refine own_go hw (plainFor_of_name pn_39) #[vr sa, vr ca, vi 0, vi 2, .val .null, .unset] (fun p e s m below meth c s₁ Pf hx hby hlk hown hnm hret hml hZ hh X0 e0 hPf Jf => ?_)
  have N0 := Fr.nil n0
  have KC0 := Keep.refl h0 [sa]
  have J := Jf d99
  refine gy (fun t k => aN X0 J 0 rfl rfl k) ?_
  refine own_oi X0 J 1 29 30 31 e0 0 (fun T908 X908 e908 => ?_)
  refine gy (fun t k => iN X908 J 2 rfl rfl (fY X908 J 3 rfl ((if0 _ _).trans (feq (by decide)).2) 27 k)) ?_
  refine own_gs X908 J 4 14 Via.refl e908 (G.1.ext O0.2) (fun T909 X909 e909 => ?_)
  refine gy (fun t k => fN X909 J 5 rfl ((if0 _ _).trans (feq G.2.1).1) (aN X909 J 6 rfl rfl (iN X909 J 7 rfl rfl (iN X909 J 8 rfl rfl k)))) ?_
  refine own_cs (rmC3_2 hw G _ _ _ _ _ _ O0 VC hb0 hb1) X909 J 9 590 591 592 593 e909 0 pd_53 (kF N0 fun _ T910 v910 X910 N910 q910 => ?_)
  obtain ⟨rb_910, kb_910, rfl, K910, f910_0, f910_1⟩ := q910
  have g_rb_910 : n0 ≤ rb_910 := Nat.le_trans (own_le O0) f910_1
  have sz_rb_910 : h0.size ≤ rb_910 := Nat.le_trans KC0.1 f910_1
  have O910 := O0.keep K910 all0
  have KC910 := KC0.trans K910 all0
  show G_ 39 _ [(.ref rb_910)]
  refine gy (fun t k => sA X910 J 10 rfl #[vr sa, vr ca, vi 0, vi 2, .val .null, vr rb_910] (aN X910 J 11 rfl rfl (aL X910 J 12 rfl rfl (iN X910 J 13 rfl rfl k)))) ?_
  refine own_cs (rmCL_2 hw G _ _ _ _ _ _ O910 f910_0) X910 J 14 597 598 592 599 rfl 1 pd_54 (kP fun T911 v911 X911 e911 q911 => ?_)
  obtain rfl := q911
  show G_ 48 _ [(.int 0), (.ref sa)]
  refine own_pf (ty := .byte) (v' := (.int 0)) X911 J 15 34 Via.refl e911 (FC.keep K910 nin0) (EX.keep K910) (Or.inr ⟨(ww hw 35 rfl), rfl, hnm⟩) 20 rfl rfl N910 g_sa (fun T912 h912 _ X912 e912 W912 N912 => ?_)
  have Fw912 : Fld Z h912 sa S_3 "coder" "B" (Value.int 0) := (FC.keep K910 nin0).same W912
  have O912 := O910.wr W912 g_sa
  have KC912 := KC910.wr W912 (il 0)
  refine gy (fun t k => aN X912 J 16 rfl rfl (aL X912 J 17 rfl rfl k)) ?_
  have c913 := ((EX.keep K910).wr W912)
  have c914 := ((FV.keep K910 nin0).other W912 (Or.inr (slot_ne (Or.inr (ww hw 33 rfl)) (Or.inr (ww hw 35 rfl)) (by decide) (t := (.array .byte)) (t' := .byte) (by decide) (by decide))))
  refine own_pf (ty := (.array .byte)) (v' := (.ref rb_910)) X912 J 18 32 Via.refl e912 c914 c913 (Or.inr ⟨(ww hw 33 rfl), rfl, hnm⟩) 20 rfl rfl N912 g_sa (fun T915 h915 _ X915 e915 W915 N915 => ?_)
  have Fw915 : Fld Z h915 sa S_3 "value" "[B" (Value.ref rb_910) := c914.same W915
  have O915 := O912.wr W915 g_sa
  have KC915 := KC912.wr W915 (il 0)
  have c916 := ((f910_0.other W912 (Nat.ne_of_gt (Nat.lt_of_lt_of_le EX.lt f910_1))).other W915 (Nat.ne_of_gt (Nat.lt_of_lt_of_le EX.lt f910_1)))
  exact rV X915 hret hlk hPf J 19 ⟨⟨rb_910, kb_910, rfl, (by rw [e915]; exact KC915), (by rw [e915]; exact (c913.wr W915)), (by rw [e915]; exact Fw915), (by rw [e915]; exact (Fw912.other W915 (Or.inr (slot_ne (Or.inr (ww hw 35 rfl)) (Or.inr (ww hw 33 rfl)) (by decide) (t := .byte) (t' := (.array .byte)) (by decide) (by decide))))), (by rw [e915]; exact c916), sz_rb_910⟩, N915⟩
theorem pd_55 : parseMethodDescriptor "([CIILjava/lang/Void;)V" = some ⟨[(.array .char), .int, .int, (.object "java/lang/Void")], none⟩ := by decide +kernel
def L98 : List (Nat × Instr × Nat) := [(0, a_0), (1, a_1), (2, .iconst 0, 1), (3, a_1), (4, .arraylength, 1), (5, .aconst_null, 1), (6, .invokespecial 27, 3), (9, .return_, 1)]
theorem d98 : ∀ q ∈ L98, decode jdk_42_method_3_code q.1 = .ok q.2 := by decide +kernel
def QrmS1_2 (Z : State) (sa : Addr) (c0 : Int32) (c1 : Int32) (h0 : Heap) (v : Option Value) (h : Heap) : Prop := ∃ (rb : Addr) (kb : ClassId), (v = none) ∧ (Keep h0 h [sa]) ∧ (Exa Z h sa S_3) ∧ (Fld Z h sa S_3 "value" "[B" (.ref rb)) ∧ (Fld Z h sa S_3 "coder" "B" (.int 0)) ∧ (Arv Z h rb kb .byte (2 : Int32) [(.int (c0.toInt8.toInt32)), (.int (c1.toInt8.toInt32))] (.int 0)) ∧ (h0.size ≤ rb)
abbrev own_y112 : MethodName := ⟨S_3, "<init>", "([C)V"⟩
theorem rmS1_2 (hw : HW a0 Z) (G : Gh Z vcs wI wA cA vF wP wD kD wE kE mT mU mL mO) (sa : Addr) (ca : Addr) (kc : ClassId) (c0 : Int32) (c1 : Int32) (h0 : Heap) (n0 : Nat) (O0 : Old Z n0 h0) (EX : Exa Z h0 sa S_3) (FV : Fld Z h0 sa S_3 "value" "[B" .null) (FC : Fld Z h0 sa S_3 "coder" "B" (.int 0)) (g_sa : n0 ≤ sa) (VC : Arv Z h0 ca kc .char (2 : Int32) [(.int c0), (.int c1)] (.int 0)) (hne : sa ≠ ca) (hb0 : ¬ ((255 : Int32) < c0)) (hb1 : ¬ ((255 : Int32) < c1)) :
    MM l Z own_y112 jdk_42_method_3_code 2 none ws (Rm 3 1 2 52) #[(.ref sa), (.ref ca)] h0 (QF n0 (QrmS1_2 Z sa c0 c1 h0)) := by
  refine own_go hw (plainFor_of_name pn_39) #[vr sa, vr ca] (fun p e s m below meth c s₁ Pf hx hby hlk hown hnm hret hml hZ hh X0 e0 hPf Jf => ?_)
  have N0 := Fr.nil n0
  have KC0 := Keep.refl h0 [sa]
  have J := Jf d98
  refine gy (fun t k => aN X0 J 0 rfl rfl (aN X0 J 1 rfl rfl (cI X0 J 2 rfl 0 (aN X0 J 3 rfl rfl k)))) ?_
  refine Go.by' (fun t k => own_alen X0 hx hZ e0 VC rfl rfl (jd J 4 rfl) k) ?_
  show G_ 5 #[vr sa, vr ca] [(.int 2), (.int 0), (.ref ca), (.ref sa)]
  refine gy (fun t k => cU X0 J 5 rfl k) ?_
  refine own_ci (rmS4_2 hw G _ _ _ _ _ _ _ O0 EX FV FC g_sa VC hne hb0 hb1) X0 J 6 587 588 12 589 e0 0 pd_55 (kF N0 fun _ T918 v918 X918 N918 q918 => ?_)
  obtain ⟨rb_918, kb_918, rfl, K918, f918_0, f918_1, f918_2, f918_3, f918_4⟩ := q918
  have g_rb_918 : n0 ≤ rb_918 := Nat.le_trans (own_le O0) f918_4
  have sz_rb_918 : h0.size ≤ rb_918 := Nat.le_trans KC0.1 f918_4
  have O918 := O0.keep K918 (allS g_sa all0)
  have KC918 := KC0.trans K918 (allS (il 0) all0)
  show G_ 9 _ []
  exact rV X918 hret hlk hPf J 7 ⟨⟨rb_918, kb_918, rfl, KC918, f918_0, f918_1, f918_2, f918_3, sz_rb_918⟩, N918⟩
theorem pd_56 : parseMethodDescriptor "(C)Ljava/lang/String;" = some ⟨[.char], some (.object S_3)⟩ := by decide +kernel
theorem pd_57 : parseMethodDescriptor "([C)V" = some ⟨[(.array .char)], none⟩ := by decide +kernel
def L1 : List (Nat × Instr × Nat) := [(0, i_0), (1, .invokestatic 50, 3), (4, .istore_n 2, 1), (5, i_0), (6, .sipush 512, 3), (9, .iand, 1), (10, .ifCond .ne 8, 3), (13, i_2), (14, .invokestatic 54, 3), (17, .areturn, 1), (18, i_1), (19, .invokestatic 58, 3), (22, .istore_n 3, 1), (23, .new 13, 3), (26, .dup, 1), (27, .iconst 2, 1), (28, .newarray .char, 2), (30, .dup, 1), (31, .iconst 0, 1), (32, i_2), (33, .castore, 1), (34, .dup, 1), (35, .iconst 1, 1), (36, i_3), (37, .castore, 1), (38, .invokespecial 61, 3), (41, .areturn, 1)]
theorem d1 : ∀ q ∈ L1, decode method_6_code q.1 = .ok q.2 := by decide +kernel
def QrmNa (Z : State) (h0 : Heap) (v : Option Value) (h : Heap) : Prop := ∃ (r : Addr) (ky : Int), (v = some (.ref r)) ∧ (Keep h0 h []) ∧ (SK Z h r ky) ∧ (h0.size ≤ r)
abbrev own_y113 : MethodName := ⟨S_26, "name", "(II)Ljava/lang/String;"⟩
theorem rmNa (hw : HW a0 Z) (G : Gh Z vcs wI wA cA vF wP wD kD wE kE mT mU mL mO) (ix : Int32) (iy : Int32) (h0 : Heap) (n0 : Nat) (O0 : Old Z n0 h0) :
    MM l Z own_y113 method_6_code 4 (some (.object S_3)) ws (Rm 4 3 8 66) #[(.int ix), (.int iy)] h0 (QF n0 (QrmNa Z h0)) := by
  refine own_go hw (plainFor_of_name pn_3) #[vi ix, vi iy, .unset, .unset] (fun p e s m below meth c s₁ Pf hx hby hlk hown hnm hret hml hZ hh X0 e0 hPf Jf => ?_)
  have N0 := Fr.nil n0
  have KC0 := Keep.refl h0 []
  have J := Jf d1
  refine gy (fun t k => iN X0 J 0 rfl rfl k) ?_
  refine own_cs (rm_first hw G ix _ _ O0 ) X0 J 1 4 5 2 6 e0 0 pd_22 (kP fun T919 v919 X919 e919 q919 => ?_)
  obtain ⟨r_919, rfl, r919_0⟩ := q919
  show G_ 4 _ [(.int r_919)]
  refine gy (fun t k => sIN X919 J 2 rfl #[vi ix, vi iy, vi r_919, .unset] (iN X919 J 3 rfl rfl k)) ?_
  refine Go.by' (fun t k => XS.sipush X919.here hx rfl (jd J 4 rfl) k) ?_
  show G_ 9 #[vi ix, vi iy, vi r_919, .unset] [(.int 512), (.int ix)]
  refine gy (fun t k => oD X919 J 5 rfl (ix &&& (512 : Int32)) k) ?_
  by_cases hc920 : (ix &&& (512 : Int32)) = (0 : Int32)
  · refine gy (fun t k => fN X919 J 6 rfl ((if0 _ _).trans (teq hc920).2) (iN X919 J 7 rfl rfl k)) ?_
    refine own_cs (rmVC hw G r_919 _ _ O0 r919_0.2.1) X919 J 8 10 11 12 13 e919 0 pd_56 (kF N0 fun _ T921 v921 X921 N921 q921 => ?_)
    obtain ⟨r_921, rb_921, kb_921, rfl, K921, f921_0, f921_1, f921_2, f921_3, f921_4, f921_5⟩ := q921
    have g_r_921 : n0 ≤ r_921 := Nat.le_trans (own_le O0) f921_1
    have sz_r_921 : h0.size ≤ r_921 := Nat.le_trans KC0.1 f921_1
    have g_rb_921 : n0 ≤ rb_921 := Nat.le_trans (own_le O0) f921_5
    have sz_rb_921 : h0.size ≤ rb_921 := Nat.le_trans KC0.1 f921_5
    have O921 := O0.keep K921 all0
    have KC921 := KC0.trans K921 all0
    show G_ 17 _ [(.ref r_921)]
    exact rA X921 hret hlk hPf J 9 ⟨⟨r_921, _, rfl, KC921, ⟨_, _, _, _, f921_0, f921_2, f921_3, f921_4, Or.inl ⟨r_919, r919_0, rfl, rfl, rfl⟩⟩, sz_r_921⟩, N921⟩
  · refine gy (fun t k => fY X919 J 6 rfl ((if0 _ _).trans (feq hc920).2) 18 (iN X919 J 10 rfl rfl k)) ?_
    refine own_cs (rm_last hw G iy _ _ O0 ) X919 J 11 580 581 2 582 e919 0 pd_22 (kP fun T922 v922 X922 e922 q922 => ?_)
    obtain ⟨r_922, rfl, r922_0⟩ := q922
    show G_ 22 _ [(.int r_922)]
    refine gy (fun t k => sIN X922 J 12 rfl #[vi ix, vi iy, vi r_919, vi r_922] k) ?_
    obtain ⟨T923, h923, X923, e923, E923, A923, D923, -, st923⟩ := newO X922 hx hZ hown (ww hw 36 rfl) (ww hw 20 rfl) (ww hw 12 rfl) e922 (g := (mkF m 23 #[vi ix, vi iy, vi r_919, vi r_922] [])) rfl (jd J 13 rfl) (by decide) (by decide)
    obtain ⟨b923, g923⟩ : ∃ z, z = h0.size := ⟨_, rfl⟩
    rw [← g923] at A923 D923 st923
    refine Go.by' st923 ?_
    have g_b923 : n0 ≤ b923 := Nat.le_trans (own_le O0) (Nat.le_of_eq g923.symm)
    have sz_b923 : h0.size ≤ b923 := Nat.le_trans KC0.1 (Nat.le_of_eq g923.symm)
    have O923 := O0.ext E923
    have KC923 := KC0.ext E923
    have Fn923_33 : Fld Z h923 b923 S_3 "value" "[B" Value.null := D923 (Or.inr (ww hw 33 rfl)) (ty := (.array .byte)) (by decide)
    have Fn923_35 : Fld Z h923 b923 S_3 "coder" "B" (Value.int 0) := D923 (Or.inr (ww hw 35 rfl)) (ty := .byte) (by decide)
    show G_ 26 #[vi ix, vi iy, vi r_919, vi r_922] [(.ref b923)]
    refine gy (fun t k => oP X923 J 14 rfl (cI X923 J 15 rfl 2 k)) ?_
    obtain ⟨T924, h924, k924, X924, e924, E924, A924, st924⟩ := newP (aty := .char) X923 hx hZ (ww hw 583 rfl) e923 (g := (mkF m 28 #[vi ix, vi iy, vi r_919, vi r_922] [(.int 2), (.ref b923), (.ref b923)])) rfl (jd J 16 rfl) rfl (by decide) (cap := 2) (by decide) (by decide) (by decide) (by decide)
    obtain ⟨b924, g924⟩ : ∃ z, z = h923.size := ⟨_, rfl⟩
    rw [← g924] at A924 st924
    refine Go.by' st924 ?_
    have g_b924 : n0 ≤ b924 := Nat.le_trans (own_le O923) (Nat.le_of_eq g924.symm)
    have sz_b924 : h0.size ≤ b924 := Nat.le_trans KC923.1 (Nat.le_of_eq g924.symm)
    have O924 := O923.ext E924
    have KC924 := KC923.ext E924
    have V924 : Arv Z h924 b924 k924 .char (2 : Int32) [(.int 0), (.int 0)] (Value.int 0) := (Arv.new A924 (by decide)).pad (pad_rep [] (Value.int 0) 2)
    show G_ 30 #[vi ix, vi iy, vi r_919, vi r_922] [(.ref b924), (.ref b923), (.ref b923)]
    refine gy (fun t k => oP X924 J 17 rfl (cI X924 J 18 rfl 0 (iN X924 J 19 rfl rfl k))) ?_
    obtain ⟨cl925, Ar925, q925, S925, P925, H925, G925⟩ := (id V924)
    have hin925 : ¬ ((0 : Int32) < 0 ∨ cl925.slots.size ≤ ((0 : Int32)).toNatClampNeg) := inb_of S925 ⟨by decide, by decide⟩
    obtain ⟨T926, h926, X926, e926, W926, st926⟩ := stC X924 hx hZ e924 Ar925 (j := (0 : Int32)) hin925 (g := (mkF m 33 #[vi ix, vi iy, vi r_919, vi r_922] [(.int r_919), (.int 0), (.ref b924), (.ref b924), (.ref b923), (.ref b923)])) rfl rfl (jd J 20 rfl)
    refine Go.by' st926 ?_
    rw [(own_nc r919_0.1 r919_0.2.1 : nar .char r_919 = r_919)] at W926
    have V926 : Arv Z h926 b924 k924 .char (2 : Int32) [(.int r_919), (.int 0)] (Value.int 0) := Arv.set Ar925 q925 S925 P925 H925 G925 (by have q := fits_nar_char r_919; rw [(own_nc r919_0.1 r919_0.2.1 : nar .char r_919 = r_919)] at q; exact q) W926 0 rfl (Nat.le_of_ble_eq_true rfl)
    have N926 := Fr.snoc X926 N0 g_b924
    obtain ⟨lc926, X926, N926⟩ := own_pack X926 N926
    have O926 := O924.wr W926 g_b924
    have KC926 := KC924.wr W926 (Or.inr sz_b924)
    show G_ 34 #[vi ix, vi iy, vi r_919, vi r_922] [(.ref b924), (.ref b923), (.ref b923)]
    refine gy (fun t k => oP X926 J 21 rfl (cI X926 J 22 rfl 1 (iN X926 J 23 rfl rfl k))) ?_
    obtain ⟨cl927, Ar927, q927, S927, P927, H927, G927⟩ := (id V926)
    have hin927 : ¬ ((1 : Int32) < 0 ∨ cl927.slots.size ≤ ((1 : Int32)).toNatClampNeg) := inb_of S927 ⟨by decide, by decide⟩
    obtain ⟨T928, h928, X928, e928, W928, st928⟩ := stC X926 hx hZ e926 Ar927 (j := (1 : Int32)) hin927 (g := (mkF m 37 #[vi ix, vi iy, vi r_919, vi r_922] [(.int r_922), (.int 1), (.ref b924), (.ref b924), (.ref b923), (.ref b923)])) rfl rfl (jd J 24 rfl)
    refine Go.by' st928 ?_
    rw [(own_nc r922_0.1 r922_0.2.1 : nar .char r_922 = r_922)] at W928
    have V928 : Arv Z h928 b924 k924 .char (2 : Int32) [(.int r_919), (.int r_922)] (Value.int 0) := Arv.set Ar927 q927 S927 P927 H927 G927 (by have q := fits_nar_char r_922; rw [(own_nc r922_0.1 r922_0.2.1 : nar .char r_922 = r_922)] at q; exact q) W928 1 rfl (Nat.le_of_ble_eq_true rfl)
    have N928 := Fr.snoc X928 N926 g_b924
    obtain ⟨lc928, X928, N928⟩ := own_pack X928 N928
    have O928 := O926.wr W928 g_b924
    have KC928 := KC926.wr W928 (Or.inr sz_b924)
    have c930 := (((A923.ext E924).wr W926).wr W928)
    have c931 := (((Fn923_33.ext E924).other W926 (Or.inl (Nat.ne_of_lt (Nat.lt_of_lt_of_le A923.lt (Nat.le_of_eq g924.symm))))).other W928 (Or.inl (Nat.ne_of_lt (Nat.lt_of_lt_of_le A923.lt (Nat.le_of_eq g924.symm)))))
    have c932 := (((Fn923_35.ext E924).other W926 (Or.inl (Nat.ne_of_lt (Nat.lt_of_lt_of_le A923.lt (Nat.le_of_eq g924.symm))))).other W928 (Or.inl (Nat.ne_of_lt (Nat.lt_of_lt_of_le A923.lt (Nat.le_of_eq g924.symm)))))
    show G_ 38 #[vi ix, vi iy, vi r_919, vi r_922] [(.ref b924), (.ref b923), (.ref b923)]
    refine own_ci (rmS1_2 hw G _ _ _ _ _ _ _ O928 c930 c931 c932 g_b923 V928 (Nat.ne_of_lt (Nat.lt_of_lt_of_le A923.lt (Nat.le_of_eq g924.symm))) r919_0.2.1 r922_0.2.1) X928 J 25 584 585 12 586 e928 1 pd_57 (kF N928 fun _ T929 v929 X929 N929 q929 => ?_)
    obtain ⟨rb_929, kb_929, rfl, K929, f929_0, f929_1, f929_2, f929_3, f929_4⟩ := q929
    have g_rb_929 : n0 ≤ rb_929 := Nat.le_trans (own_le O928) f929_4
    have sz_rb_929 : h0.size ≤ rb_929 := Nat.le_trans KC928.1 f929_4
    have O929 := O928.keep K929 (allS g_b923 all0)
    have KC929 := KC928.trans K929 (allS (Or.inr sz_b923) all0)
    show G_ 41 _ [(.ref b923)]
    exact rA X929 hret hlk hPf J 26 ⟨⟨b923, _, rfl, KC929, ⟨_, _, _, _, f929_0, f929_1, f929_2, f929_3, Or.inr ⟨r_919, r_922, r919_0, r922_0, rfl, rfl, rfl⟩⟩, sz_b923⟩, N929⟩
theorem pd_58 : parseMethodDescriptor "(Ljava/util/Set;)Ljava/util/Set;" = some ⟨[(.object S_22)], some (.object S_22)⟩ := by decide +kernel
theorem ef_rmOf0 (m : MethodId) {sa : Addr} : entryFrame m #[(.ref sa)] 6 = mkF m 0 #[vr sa, .unset, .unset, .unset, .unset, .unset] [] := by first | (simp [entryFrame, mkF, argsToLocals, Value.category]; done) | rfl
abbrev own_y114 : MethodName := ⟨"com/example/usher/usher/Profiles", "of", "([Ljava/lang/String;)Ljava/util/Set;"⟩
def L9 : List (Nat × Instr × Nat) := [(0, .new 42, 3), (3, .dup, 1), (4, .invokespecial 44, 3), (7, .astore_n 1, 1), (8, a_0), (9, .astore_n 2, 1), (10, a_2), (11, .arraylength, 1), (12, .istore_n 3, 1), (13, .iconst 0, 1), (14, .istore 4, 2), (16, .iload 4, 2), (18, i_3), (19, .if_icmp .ge 45, 3), (64, a_1), (65, .invokestatic 59, 3), (68, .areturn, 1)]
theorem d9 : ∀ q ∈ L9, decode prog_19_method_3_code q.1 = .ok q.2 := by decide +kernel
def QrmOf0 (Z : State) (vcs : Int32) (wI : Addr) (wA : Addr) (cA : Cell) (vF : Value) (wP : Addr) (wD : Addr) (kD : ClassId) (wE : Addr) (kE : ClassId) (mT : Addr) (mU : Addr) (mL : Addr) (mO : Addr) (sa : Addr) (ka : ClassId) (h0 : Heap) (n0 : Nat) (v : Option Value) (h : Heap) (vm : Vm) (L : List Loc) : Prop := ∃ (r : Addr) (ts : Addr) (tm : Addr) (Lk : (List Addr)) (mc : Int32), (v = some (.ref r)) ∧ (Fr n0 L) ∧ (Keep h0 h []) ∧ (Exa Z h r S_15) ∧ (Fld Z h r S_14 "c" S_17 (.ref ts)) ∧ (Exa Z h ts S_8) ∧ (Fld Z h ts S_8 "m" S_13 (.ref tm)) ∧ (TreeP Z h h0.size wP tm Lk mc .null) ∧ (SKs Z h Lk ([] : List Int)) ∧ (h0.size ≤ tm)
theorem rmOf0 (l : Launch) (Z : State) (a0 : Array Value) (hw : ∀ d ∈ tables_1, d.before a0 Z = true) (ws : List Jvm.Cond) (vcs : Int32) (wI : Addr) (wA : Addr) (cA : Cell) (vF : Value) (wP : Addr) (wD : Addr) (kD : ClassId) (wE : Addr) (kE : ClassId) (mT : Addr) (mU : Addr) (mL : Addr) (mO : Addr) (G : Gh Z vcs wI wA cA vF wP wD kD wE kE mT mU mL mO) (sa : Addr) (ka : ClassId) (h0 : Heap) (n0 : Nat) (O0 : Old Z n0 h0) (VA : Arv Z h0 sa ka (.object S_3) (0 : Int32) [] Value.null) :
    MetFree l own_y114 (head1 (Jvm.Cond.code own_y114 prog_19_method_3_code 6 (some (.object S_22)) :: ws) ({ frames := 5, cells := 3, slots := 11, locals := 72 } : Room)) (fun aa' UU' => aa' = #[(.ref sa)] ∧ Z.Warmed39 UU'.vm ∧ UU'.heap = h0 ∧ CHv Z consts_1 UU'.vm h0 ∧ ∀ x ∈ ([] : List Addr), Safe Z consts_1 UU'.vm h0 x) (fun _ _ _ _ _ => True) (fun _ UU' oo' VV' => ∃ v' L', oo' = .returned v' ∧ QrmOf0 Z vcs wI wA cA vF wP wD kD wE kE mT mU mL mO sa ka h0 n0 v' VV'.heap VV'.vm L' ∧ CHr Z consts_1 UU'.vm UU'.heap VV'.vm VV'.heap ∧ ReturnedEndW UU' oo' VV' L' ({ frames := 5, cells := 3, slots := 11, locals := 72 } : Room).cells ({ frames := 5, cells := 3, slots := 11, locals := 72 } : Room).slots) := by
  refine MetFree.of_bodySF (plainFor_of_name pn_36) hisR ?_
  intro p e s m args below meth c s₁ Bd hml0 hP hK
  obtain ⟨rfl, hZ, hh, hCH, hSf⟩ := hP
  have hml : c.maxLocals = 6 := hml0
  obtain ⟨hx, hby, hlk, hown, hnm, hret, X0, e0⟩ := own_hd Bd hh
  replace X0 : Stand p l e ({ frames := 5, cells := 3, slots := 11, locals := 72 } : Room) (s.setVm s.vm) m _ below meth c s₁ [] 0 0 := X0
  have N0 := Fr.nil n0
  have KC0 : Keep h0 h0 [] := Keep.refl _ _
  have Sb0 := Sb.start hZ hown hCH
  have hEL := own_EW hw
  have hSA := own_SA hw
  refine Go.bodyS ?_
  obtain ⟨Pf, hPf⟩ : ∃ P, P = FinS Z consts_1 s below ({ frames := 5, cells := 3, slots := 11, locals := 72 } : Room).cells ({ frames := 5, cells := 3, slots := 11, locals := 72 } : Room).slots (QrmOf0 Z vcs wI wA cA vF wP wD kD wE kE mT mU mL mO sa ka h0 n0) := ⟨_, rfl⟩
  rw [← hPf]
  refine Go.cast (ef_rmOf0 m) ?_
  have J : Jn p Z a0 (s.setVm s.vm) m _ c 6 L9 := ⟨hx, hZ, hown, hw, hml, fun i q e => od hby d9 i e⟩
  obtain ⟨T933, h933, X933, e933, E933, A933, D933, -, st933⟩ := newO X0 hx hZ hown (ww hw 42 rfl) (ww hw 43 rfl) (ww hw 44 rfl) e0 (g := (mkF m 0 #[vr sa, .unset, .unset, .unset, .unset, .unset] [])) rfl (jd J 0 rfl) (by decide) (by decide)
  obtain ⟨b933, g933⟩ : ∃ z, z = h0.size := ⟨_, rfl⟩
  rw [← g933] at A933 D933 st933
  refine Go.by' st933 ?_
  have Sf_b933 : Safe Z consts_1 s.vm h0 b933 := Safe.new (Nat.le_of_eq g933.symm)
  have g_b933 : n0 ≤ b933 := Nat.le_trans (own_le O0) (Nat.le_of_eq g933.symm)
  have sz_b933 : h0.size ≤ b933 := Nat.le_trans KC0.1 (Nat.le_of_eq g933.symm)
  have Sb933 := Sb0.ext E933
  have O933 := O0.ext E933
  have KC933 := KC0.ext E933
  have Fn933_86 : Fld Z h933 b933 S_8 "m" S_13 Value.null := D933 (Or.inl (ww hw 86 rfl)) (ty := (.object S_21)) (by decide)
  show G_ 3 #[vr sa, .unset, .unset, .unset, .unset, .unset] [(.ref b933)]
  refine gy (fun t k => oP X933 J 1 rfl k) ?_
  refine own_ci (rmT0 hw G _ _ _ O933 A933 Fn933_86 g_b933) X933 J 2 45 46 44 47 e933 1 pd_35 (kF N0 fun _ T934 v934 X934 N934 q934 => ?_)
  obtain ⟨tm_934, rfl, K934, f934_0, f934_1, f934_2, f934_3⟩ := q934
  have Sf_tm_934 : Safe Z consts_1 s.vm h933 tm_934 := Safe.new f934_3
  have g_tm_934 : n0 ≤ tm_934 := Nat.le_trans (own_le O933) f934_3
  have sz_tm_934 : h0.size ≤ tm_934 := Nat.le_trans KC933.1 f934_3
  have Sb934 := Sb933.keep K934 (sfS (Safe.exa hZ.alike A933 (by decide) (by decide)) sf0)
  have O934 := O933.keep K934 (allS g_b933 all0)
  have KC934 := KC933.trans K934 (allS (Or.inr sz_b933) all0)
  have Tp934 : TreeP Z T934.heap h0.size wP tm_934 [] (0 : Int32) .null := ⟨sz_tm_934, Or.inl ⟨rfl, f934_2⟩⟩
  have Sk934 : SKs Z T934.heap [] [] := sks0
  show G_ 7 _ [(.ref b933)]
  refine gy (fun t k => sAN X934 J 3 rfl #[vr sa, vr b933, .unset, .unset, .unset, .unset] (aN X934 J 4 rfl rfl (sAN X934 J 5 rfl #[vr sa, vr b933, vr sa, .unset, .unset, .unset] (aN X934 J 6 rfl rfl k)))) ?_
  have c935 := ((VA.ext E933).keep K934 (ninS (Nat.ne_of_lt (Nat.lt_of_lt_of_le VA.lt (Nat.le_of_eq g933.symm))) nin0))
  refine Go.by' (fun t k => own_alen X934 hx hZ rfl c935 rfl rfl (jd J 7 rfl) k) ?_
  show G_ 12 #[vr sa, vr b933, vr sa, .unset, .unset, .unset] [(.int 0)]
  refine gy (fun t k => sIN X934 J 8 rfl #[vr sa, vr b933, vr sa, vi 0, .unset, .unset] (cI X934 J 9 rfl 0 (sI X934 J 10 rfl #[vr sa, vr b933, vr sa, vi 0, vi 0, .unset] (iL X934 J 11 rfl rfl (iN X934 J 12 rfl rfl (cY X934 J 13 rfl (flt (by decide)).2.1 64 (aN X934 J 14 rfl rfl k))))))) ?_
  refine own_cs (rmUm hw G _ _ _ O934 f934_0) X934 J 15 87 88 89 90 rfl 0 pd_58 (kF N934 fun _ T937 v937 X937 N937 q937 => ?_)
  obtain ⟨r_937, rfl, K937, f937_0, f937_1, f937_2⟩ := q937
  have Sf_r_937 : Safe Z consts_1 s.vm T934.heap r_937 := Safe.new f937_2
  have g_r_937 : n0 ≤ r_937 := Nat.le_trans (own_le O934) f937_2
  have sz_r_937 : h0.size ≤ r_937 := Nat.le_trans KC934.1 f937_2
  have Sb937 := Sb934.keep K937 sf0
  have O937 := O934.keep K937 all0
  have KC937 := KC934.trans K937 all0
  have c938 := (SKs.sp (SP.keep0 K937) Sk934)
  show G_ 68 _ [(.ref r_937)]
  rw [hPf]
  exact Go.retAS X937 hx hEL Sb937 rfl hh hret hlk rfl rfl (jd J 16 rfl) (by decide) (by decide) ⟨r_937, b933, tm_934, ([] : List Addr), (0 : Int32), rfl, N937, KC937, f937_0, f937_1, (f934_0.keep K937), (f934_1.keep K937 nin0), (Tp934.keep0 K937), c938, sz_tm_934⟩
theorem ef_rmOf1 (m : MethodId) {sa : Addr} : entryFrame m #[(.ref sa)] 6 = mkF m 0 #[vr sa, .unset, .unset, .unset, .unset, .unset] [] := by first | (simp [entryFrame, mkF, argsToLocals, Value.category]; done) | rfl
def L9' : List (Nat × Instr × Nat) := [(22, a_2), (23, .iload 4, 2), (25, .aaload, 1), (26, .astore 5, 2), (28, .aload 5, 2), (30, .invokestatic 45, 3), (33, .ifCond .ne 18, 3), (51, a_1), (52, .aload 5, 2), (54, .invokevirtual 58, 3), (57, .pop, 1), (58, .iinc 4 1, 3), (61, .goto (-45), 3)]
theorem d9' : ∀ q ∈ L9', decode prog_19_method_3_code q.1 = .ok q.2 := by decide +kernel
def QrmOf1 (Z : State) (vcs : Int32) (wI : Addr) (wA : Addr) (cA : Cell) (vF : Value) (wP : Addr) (wD : Addr) (kD : ClassId) (wE : Addr) (kE : ClassId) (mT : Addr) (mU : Addr) (mL : Addr) (mO : Addr) (sa : Addr) (ka : ClassId) (u0 : Addr) (ky0 : Int) (h0 : Heap) (n0 : Nat) (v : Option Value) (h : Heap) (vm : Vm) (L : List Loc) : Prop := ∃ (r : Addr) (ts : Addr) (tm : Addr) (Lk : (List Addr)) (mc : Int32), (v = some (.ref r)) ∧ (Fr n0 L) ∧ (Keep h0 h []) ∧ (Exa Z h r S_15) ∧ (Fld Z h r S_14 "c" S_17 (.ref ts)) ∧ (Exa Z h ts S_8) ∧ (Fld Z h ts S_8 "m" S_13 (.ref tm)) ∧ (TreeP Z h h0.size wP tm Lk mc .null) ∧ (SKs Z h Lk (ins ky0 [])) ∧ (h0.size ≤ tm)
theorem rmOf1 (l : Launch) (Z : State) (a0 : Array Value) (hw : ∀ d ∈ tables_1, d.before a0 Z = true) (ws : List Jvm.Cond) (vcs : Int32) (wI : Addr) (wA : Addr) (cA : Cell) (vF : Value) (wP : Addr) (wD : Addr) (kD : ClassId) (wE : Addr) (kE : ClassId) (mT : Addr) (mU : Addr) (mL : Addr) (mO : Addr) (G : Gh Z vcs wI wA cA vF wP wD kD wE kE mT mU mL mO) (sa : Addr) (ka : ClassId) (u0 : Addr) (ky0 : Int) (h0 : Heap) (n0 : Nat) (O0 : Old Z n0 h0) (VA : Arv Z h0 sa ka (.object S_3) (1 : Int32) [(.ref u0)] Value.null) (S0 : SK Z h0 u0 ky0) :
    MetFree l own_y114 (head1 (Jvm.Cond.code own_y114 prog_19_method_3_code 6 (some (.object S_22)) :: ws) ({ frames := 10, cells := 8, slots := 33, locals := 152 } : Room)) (fun aa' UU' => aa' = #[(.ref sa)] ∧ Z.Warmed39 UU'.vm ∧ UU'.heap = h0 ∧ CHv Z consts_1 UU'.vm h0 ∧ ∀ x ∈ ([] : List Addr), Safe Z consts_1 UU'.vm h0 x) (fun _ _ _ _ _ => True) (fun _ UU' oo' VV' => ∃ v' L', oo' = .returned v' ∧ QrmOf1 Z vcs wI wA cA vF wP wD kD wE kE mT mU mL mO sa ka u0 ky0 h0 n0 v' VV'.heap VV'.vm L' ∧ CHr Z consts_1 UU'.vm UU'.heap VV'.vm VV'.heap ∧ ReturnedEndW UU' oo' VV' L' ({ frames := 10, cells := 8, slots := 33, locals := 152 } : Room).cells ({ frames := 10, cells := 8, slots := 33, locals := 152 } : Room).slots) := by
  refine MetFree.of_bodySF (plainFor_of_name pn_36) hisR ?_
  intro p e s m args below meth c s₁ Bd hml0 hP hK
  obtain ⟨rfl, hZ, hh, hCH, hSf⟩ := hP
  have hml : c.maxLocals = 6 := hml0
  obtain ⟨hx, hby, hlk, hown, hnm, hret, X0, e0⟩ := own_hd Bd hh
  replace X0 : Stand p l e ({ frames := 10, cells := 8, slots := 33, locals := 152 } : Room) (s.setVm s.vm) m _ below meth c s₁ [] 0 0 := X0
  have N0 := Fr.nil n0
  have KC0 : Keep h0 h0 [] := Keep.refl _ _
  have Sb0 := Sb.start hZ hown hCH
  have hEL := own_EW hw
  have hSA := own_SA hw
  refine Go.bodyS ?_
  obtain ⟨Pf, hPf⟩ : ∃ P, P = FinS Z consts_1 s below ({ frames := 10, cells := 8, slots := 33, locals := 152 } : Room).cells ({ frames := 10, cells := 8, slots := 33, locals := 152 } : Room).slots (QrmOf1 Z vcs wI wA cA vF wP wD kD wE kE mT mU mL mO sa ka u0 ky0 h0 n0) := ⟨_, rfl⟩
  rw [← hPf]
  refine Go.cast (ef_rmOf1 m) ?_
  have J : Jn p Z a0 (s.setVm s.vm) m _ c 6 L9 := ⟨hx, hZ, hown, hw, hml, fun i q e => od hby d9 i e⟩
  have J' : Jn p Z a0 (s.setVm s.vm) m _ c 6 L9' := ⟨hx, hZ, hown, hw, hml, fun i q e => od hby d9' i e⟩
  obtain ⟨T939, h939, X939, e939, E939, A939, D939, -, st939⟩ := newO X0 hx hZ hown (ww hw 42 rfl) (ww hw 43 rfl) (ww hw 44 rfl) e0 (g := (mkF m 0 #[vr sa, .unset, .unset, .unset, .unset, .unset] [])) rfl (jd J 0 rfl) (by decide) (by decide)
  obtain ⟨b939, g939⟩ : ∃ z, z = h0.size := ⟨_, rfl⟩
  rw [← g939] at A939 D939 st939
  refine Go.by' st939 ?_
  have Sf_b939 : Safe Z consts_1 s.vm h0 b939 := Safe.new (Nat.le_of_eq g939.symm)
  have g_b939 : n0 ≤ b939 := Nat.le_trans (own_le O0) (Nat.le_of_eq g939.symm)
  have sz_b939 : h0.size ≤ b939 := Nat.le_trans KC0.1 (Nat.le_of_eq g939.symm)
  have Sb939 := Sb0.ext E939
  have O939 := O0.ext E939
  have KC939 := KC0.ext E939
  have Fn939_86 : Fld Z h939 b939 S_8 "m" S_13 Value.null := D939 (Or.inl (ww hw 86 rfl)) (ty := (.object S_21)) (by decide)
  show G_ 3 #[vr sa, .unset, .unset, .unset, .unset, .unset] [(.ref b939)]
  refine gy (fun t k => oP X939 J 1 rfl k) ?_
  refine own_ci (rmT0 hw G _ _ _ O939 A939 Fn939_86 g_b939) X939 J 2 45 46 44 47 e939 1 pd_35 (kF N0 fun _ T940 v940 X940 N940 q940 => ?_)
  obtain ⟨tm_940, rfl, K940, f940_0, f940_1, f940_2, f940_3⟩ := q940
  have Sf_tm_940 : Safe Z consts_1 s.vm h939 tm_940 := Safe.new f940_3
  have g_tm_940 : n0 ≤ tm_940 := Nat.le_trans (own_le O939) f940_3
  have sz_tm_940 : h0.size ≤ tm_940 := Nat.le_trans KC939.1 f940_3
  have Sb940 := Sb939.keep K940 (sfS (Safe.exa hZ.alike A939 (by decide) (by decide)) sf0)
  have O940 := O939.keep K940 (allS g_b939 all0)
  have KC940 := KC939.trans K940 (allS (Or.inr sz_b939) all0)
  have Tp940 : TreeP Z T940.heap h0.size wP tm_940 [] (0 : Int32) .null := ⟨sz_tm_940, Or.inl ⟨rfl, f940_2⟩⟩
  have Sk940 : SKs Z T940.heap [] [] := sks0
  show G_ 7 _ [(.ref b939)]
  refine gy (fun t k => sAN X940 J 3 rfl #[vr sa, vr b939, .unset, .unset, .unset, .unset] (aN X940 J 4 rfl rfl (sAN X940 J 5 rfl #[vr sa, vr b939, vr sa, .unset, .unset, .unset] (aN X940 J 6 rfl rfl k)))) ?_
  have c941 := ((VA.ext E939).keep K940 (ninS (Nat.ne_of_lt (Nat.lt_of_lt_of_le VA.lt (Nat.le_of_eq g939.symm))) nin0))
  refine Go.by' (fun t k => own_alen X940 hx hZ rfl c941 rfl rfl (jd J 7 rfl) k) ?_
  show G_ 12 #[vr sa, vr b939, vr sa, .unset, .unset, .unset] [(.int 1)]
  refine gy (fun t k => sIN X940 J 8 rfl #[vr sa, vr b939, vr sa, vi 1, .unset, .unset] (cI X940 J 9 rfl 0 (sI X940 J 10 rfl #[vr sa, vr b939, vr sa, vi 1, vi 0, .unset] (iL X940 J 11 rfl rfl (iN X940 J 12 rfl rfl (cN X940 J 13 rfl (tlt (by decide)).2.1 (aN X940 J' 0 rfl rfl (iL X940 J' 1 rfl rfl k)))))))) ?_
  obtain ⟨cl943, Ar943, q943, S943, P943, H943, G943⟩ := (id c941)
  have hin943 : ¬ ((0 : Int32) < 0 ∨ cl943.slots.size ≤ ((0 : Int32)).toNatClampNeg) := inb_of S943 ⟨by decide, by decide⟩
  refine Go.by' (fun t k => X940.aaload hx (j := (0 : Int32)) (v := (.ref u0)) Ar943.1 (State.isArrayOf_alike hZ.alike Ar943.2.1) rfl Ar943.2.2 hin943 (H943.at hin943 rfl) (g := (mkF m 25 #[vr sa, vr b939, vr sa, vi 1, vi 0, .unset] [(.int 0), (.ref sa)])) rfl rfl (jd J' 2 rfl) t k) ?_
  show G_ 26 #[vr sa, vr b939, vr sa, vi 1, vi 0, .unset] [(.ref u0)]
  refine gy (fun t k => sA X940 J' 3 rfl #[vr sa, vr b939, vr sa, vi 1, vi 0, vr u0] (aL X940 J' 4 rfl rfl k)) ?_
  have P945 := (SP.trans (SP.ext E939) (SP.keep K940 (allS (nsx hw 43 A939) all0)))
  have c946 := (P945 S0)
  obtain ⟨_, _, ⟨T944, L944, k944, n944⟩, -, X944, Si944, Gr944, ⟨Lc944, hQ944, l944, y944, z944, A944⟩, st944⟩ := callSS X940 hx (y := own_y22) hown (mvT hZ (ww hw 259 rfl)) (mvT hZ (ww hw 260 rfl)) (mvT hZ (ww hw 40 rfl)) (mvT hZ (ww hw 261 rfl)) (by decide) (own_backS (W := 0) (rmNm l Z a0 hw [] vcs wI wA cA vF wP wD kD wE kE mT mU mL mO G u0 ky0 T940.heap n0 O940 c946) Sb940 (ww hw 261 rfl) (ww hw 40 rfl) (by decide) (by decide) hEL all0) (g := (mkF m 30 #[vr sa, vr b939, vr sa, vi 1, vi 0, vr u0] [(.ref u0)])) rfl (by rw [hml]; rfl) (argsL := [(.ref u0)]) (rest := []) (lenOf pd_15 rfl) rfl (Nat.le_of_eq rfl) (jd J' 5 rfl) (fun _ _ => ⟨rfl, rfl, (by decide : 2 + 4 ≤ _), (by decide : 10 + 16 ≤ _)⟩)
  dsimp only [Pt.U, Pt.locs, Pt.cells, Pt.slots] at X944 l944 y944 z944 st944 hQ944 Si944 Gr944 A944
  subst l944 y944 z944
  obtain ⟨rfl, N944q, K944⟩ := hQ944
  have N944 := Fr.app N940 N944q
  obtain ⟨lc944, X944, N944⟩ := own_pack X944 N944
  replace X944 := own_reb X944
  have Sb944 := Sb940.called Si944 Gr944 A944
  have hZ944 := Sb944.hZ
  have hO944 := Sb944.hO
  have J944 := J.up hZ944 hO944
  have J944' := J'.up hZ944 hO944
  refine Go.by' (fun t k => st944.trans k) ?_
  have O944 := O940.keep K944 all0
  have KC944 := KC940.trans K944 all0
  show G_ 33 #[vr sa, vr b939, vr sa, vi 1, vi 0, vr u0] [(.int 1)]
  refine gy (fun t k => fY X944 J944' 6 rfl ((if0 _ _).trans (feq (by decide)).2) 51 (aN X944 J944' 7 rfl rfl (aL X944 J944' 8 rfl rfl k))) ?_
  have c948 := ((SP.keep0 K944) c946)
  have c949 := (SKs.sp (SP.keep0 K944) Sk940)
  refine own_cv (rmAd hw G _ _ _ _ _ _ _ _ _ _ _ O944 (f940_0.keep K944) (f940_1.keep K944 nin0) (Tp940.keep0 K944) c948 c949 srt0 (own_le O0)) X944 J944' 9 360 361 363 362 44 364 rfl (f940_0.keep K944) 0 pd_13 (kF N944 fun _ T947 v947 X947 N947 q947 => ?_)
  obtain ⟨r_947, Lr_947, mr_947, wl_947, rfl, K947, f947_0, f947_1, r947_0⟩ := q947
  have Sb947 := Sb944.keep K947 (TW.safe hZ944.alike r947_0)
  have O947 := O944.keep K947 (fun x q => Nat.le_trans (own_le O0) (r947_0 x q).1)
  have KC947 := KC944.trans K947 (fun x q => Or.inr (Nat.le_trans (Nat.le_refl _) (r947_0 x q).1))
  show G_ 57 _ [(.int r_947)]
  refine gy (fun t k => oQ X947 J944' 10 rfl (xI X947 J944' 11 rfl rfl #[vr sa, vr b939, vr sa, vi 1, vi 1, vr u0] (jG X947 J944' 12 rfl 16 (iL X947 J944 11 rfl rfl (iN X947 J944 12 rfl rfl (cY X947 J944 13 rfl (flt (by decide)).2.1 64 (aN X947 J944 14 rfl rfl k))))))) ?_
  have c951 := ((f940_0.keep K944).keep K947)
  refine own_cs (rmUm hw G _ _ _ O947 c951) X947 J944 15 87 88 89 90 rfl 0 pd_58 (kF N947 fun _ T950 v950 X950 N950 q950 => ?_)
  obtain ⟨r_950, rfl, K950, f950_0, f950_1, f950_2⟩ := q950
  have Sf_r_950 : Safe Z consts_1 T944.vm T947.heap r_950 := Safe.new f950_2
  have g_r_950 : n0 ≤ r_950 := Nat.le_trans (own_le O947) f950_2
  have sz_r_950 : h0.size ≤ r_950 := Nat.le_trans KC947.1 f950_2
  have Sb950 := Sb947.keep K950 sf0
  have O950 := O947.keep K950 all0
  have KC950 := KC947.trans K950 all0
  have c952 := (((f940_1.keep K944 nin0).keep K947 (TW.nin r947_0 ((A939.keep K940).keep K944) (by decide) (by decide))).keep K950 nin0)
  have c953 := (SKs.sp (SP.keep0 K950) f947_1)
  show G_ 68 _ [(.ref r_950)]
  rw [hPf]
  exact Go.retAS X950 hx hEL Sb950 rfl hh hret hlk rfl rfl (jd J944 16 rfl) (by decide) (by decide) ⟨r_950, b939, tm_940, Lr_947, mr_947, rfl, N950, KC950, f950_0, f950_1, (c951.keep K950), c952, (f947_0.keep0 K950), c953, sz_tm_940⟩
theorem ef_rmOf2 (m : MethodId) {sa : Addr} : entryFrame m #[(.ref sa)] 6 = mkF m 0 #[vr sa, .unset, .unset, .unset, .unset, .unset] [] := by first | (simp [entryFrame, mkF, argsToLocals, Value.category]; done) | rfl
def QrmOf2 (Z : State) (vcs : Int32) (wI : Addr) (wA : Addr) (cA : Cell) (vF : Value) (wP : Addr) (wD : Addr) (kD : ClassId) (wE : Addr) (kE : ClassId) (mT : Addr) (mU : Addr) (mL : Addr) (mO : Addr) (sa : Addr) (ka : ClassId) (u0 : Addr) (u1 : Addr) (ky0 : Int) (ky1 : Int) (h0 : Heap) (n0 : Nat) (v : Option Value) (h : Heap) (vm : Vm) (L : List Loc) : Prop := ∃ (r : Addr) (ts : Addr) (tm : Addr) (Lk : (List Addr)) (mc : Int32), (v = some (.ref r)) ∧ (Fr n0 L) ∧ (Keep h0 h []) ∧ (Exa Z h r S_15) ∧ (Fld Z h r S_14 "c" S_17 (.ref ts)) ∧ (Exa Z h ts S_8) ∧ (Fld Z h ts S_8 "m" S_13 (.ref tm)) ∧ (TreeP Z h h0.size wP tm Lk mc .null) ∧ (SKs Z h Lk (ins ky1 (ins ky0 []))) ∧ (h0.size ≤ tm)
theorem rmOf2 (l : Launch) (Z : State) (a0 : Array Value) (hw : ∀ d ∈ tables_1, d.before a0 Z = true) (ws : List Jvm.Cond) (vcs : Int32) (wI : Addr) (wA : Addr) (cA : Cell) (vF : Value) (wP : Addr) (wD : Addr) (kD : ClassId) (wE : Addr) (kE : ClassId) (mT : Addr) (mU : Addr) (mL : Addr) (mO : Addr) (G : Gh Z vcs wI wA cA vF wP wD kD wE kE mT mU mL mO) (sa : Addr) (ka : ClassId) (u0 : Addr) (u1 : Addr) (ky0 : Int) (ky1 : Int) (h0 : Heap) (n0 : Nat) (O0 : Old Z n0 h0) (VA : Arv Z h0 sa ka (.object S_3) (2 : Int32) [(.ref u0), (.ref u1)] Value.null) (S0 : SK Z h0 u0 ky0) (S1 : SK Z h0 u1 ky1) :
    MetFree l own_y114 (head1 (Jvm.Cond.code own_y114 prog_19_method_3_code 6 (some (.object S_22)) :: ws) ({ frames := 10, cells := 13, slots := 55, locals := 152 } : Room)) (fun aa' UU' => aa' = #[(.ref sa)] ∧ Z.Warmed39 UU'.vm ∧ UU'.heap = h0 ∧ CHv Z consts_1 UU'.vm h0 ∧ ∀ x ∈ ([] : List Addr), Safe Z consts_1 UU'.vm h0 x) (fun _ _ _ _ _ => True) (fun _ UU' oo' VV' => ∃ v' L', oo' = .returned v' ∧ QrmOf2 Z vcs wI wA cA vF wP wD kD wE kE mT mU mL mO sa ka u0 u1 ky0 ky1 h0 n0 v' VV'.heap VV'.vm L' ∧ CHr Z consts_1 UU'.vm UU'.heap VV'.vm VV'.heap ∧ ReturnedEndW UU' oo' VV' L' ({ frames := 10, cells := 13, slots := 55, locals := 152 } : Room).cells ({ frames := 10, cells := 13, slots := 55, locals := 152 } : Room).slots) := by
  refine MetFree.of_bodySF (plainFor_of_name pn_36) hisR ?_
  intro p e s m args below meth c s₁ Bd hml0 hP hK
  obtain ⟨rfl, hZ, hh, hCH, hSf⟩ := hP
  have hml : c.maxLocals = 6 := hml0
  obtain ⟨hx, hby, hlk, hown, hnm, hret, X0, e0⟩ := own_hd Bd hh
  replace X0 : Stand p l e ({ frames := 10, cells := 13, slots := 55, locals := 152 } : Room) (s.setVm s.vm) m _ below meth c s₁ [] 0 0 := X0
  have N0 := Fr.nil n0
  have KC0 : Keep h0 h0 [] := Keep.refl _ _
  have Sb0 := Sb.start hZ hown hCH
  have hEL := own_EW hw
  have hSA := own_SA hw
  refine Go.bodyS ?_
  obtain ⟨Pf, hPf⟩ : ∃ P, P = FinS Z consts_1 s below ({ frames := 10, cells := 13, slots := 55, locals := 152 } : Room).cells ({ frames := 10, cells := 13, slots := 55, locals := 152 } : Room).slots (QrmOf2 Z vcs wI wA cA vF wP wD kD wE kE mT mU mL mO sa ka u0 u1 ky0 ky1 h0 n0) := ⟨_, rfl⟩
  rw [← hPf]
  refine Go.cast (ef_rmOf2 m) ?_
  have J : Jn p Z a0 (s.setVm s.vm) m _ c 6 L9 := ⟨hx, hZ, hown, hw, hml, fun i q e => od hby d9 i e⟩
  have J' : Jn p Z a0 (s.setVm s.vm) m _ c 6 L9' := ⟨hx, hZ, hown, hw, hml, fun i q e => od hby d9' i e⟩
  obtain ⟨T954, h954, X954, e954, E954, A954, D954, -, st954⟩ := newO X0 hx hZ hown (ww hw 42 rfl) (ww hw 43 rfl) (ww hw 44 rfl) e0 (g := (mkF m 0 #[vr sa, .unset, .unset, .unset, .unset, .unset] [])) rfl (jd J 0 rfl) (by decide) (by decide)
  obtain ⟨b954, g954⟩ : ∃ z, z = h0.size := ⟨_, rfl⟩
  rw [← g954] at A954 D954 st954
  refine Go.by' st954 ?_
  have Sf_b954 : Safe Z consts_1 s.vm h0 b954 := Safe.new (Nat.le_of_eq g954.symm)
  have g_b954 : n0 ≤ b954 := Nat.le_trans (own_le O0) (Nat.le_of_eq g954.symm)
  have sz_b954 : h0.size ≤ b954 := Nat.le_trans KC0.1 (Nat.le_of_eq g954.symm)
  have Sb954 := Sb0.ext E954
  have O954 := O0.ext E954
  have KC954 := KC0.ext E954
  have Fn954_86 : Fld Z h954 b954 S_8 "m" S_13 Value.null := D954 (Or.inl (ww hw 86 rfl)) (ty := (.object S_21)) (by decide)
  show G_ 3 #[vr sa, .unset, .unset, .unset, .unset, .unset] [(.ref b954)]
  refine gy (fun t k => oP X954 J 1 rfl k) ?_
  refine own_ci (rmT0 hw G _ _ _ O954 A954 Fn954_86 g_b954) X954 J 2 45 46 44 47 e954 1 pd_35 (kF N0 fun _ T955 v955 X955 N955 q955 => ?_)
  obtain ⟨tm_955, rfl, K955, f955_0, f955_1, f955_2, f955_3⟩ := q955
  have Sf_tm_955 : Safe Z consts_1 s.vm h954 tm_955 := Safe.new f955_3
  have g_tm_955 : n0 ≤ tm_955 := Nat.le_trans (own_le O954) f955_3
  have sz_tm_955 : h0.size ≤ tm_955 := Nat.le_trans KC954.1 f955_3
  have Sb955 := Sb954.keep K955 (sfS (Safe.exa hZ.alike A954 (by decide) (by decide)) sf0)
  have O955 := O954.keep K955 (allS g_b954 all0)
  have KC955 := KC954.trans K955 (allS (Or.inr sz_b954) all0)
  have Tp955 : TreeP Z T955.heap h0.size wP tm_955 [] (0 : Int32) .null := ⟨sz_tm_955, Or.inl ⟨rfl, f955_2⟩⟩
  have Sk955 : SKs Z T955.heap [] [] := sks0
  show G_ 7 _ [(.ref b954)]
  refine gy (fun t k => sAN X955 J 3 rfl #[vr sa, vr b954, .unset, .unset, .unset, .unset] (aN X955 J 4 rfl rfl (sAN X955 J 5 rfl #[vr sa, vr b954, vr sa, .unset, .unset, .unset] (aN X955 J 6 rfl rfl k)))) ?_
  have c956 := ((VA.ext E954).keep K955 (ninS (Nat.ne_of_lt (Nat.lt_of_lt_of_le VA.lt (Nat.le_of_eq g954.symm))) nin0))
  refine Go.by' (fun t k => own_alen X955 hx hZ rfl c956 rfl rfl (jd J 7 rfl) k) ?_
  show G_ 12 #[vr sa, vr b954, vr sa, .unset, .unset, .unset] [(.int 2)]
  refine gy (fun t k => sIN X955 J 8 rfl #[vr sa, vr b954, vr sa, vi 2, .unset, .unset] (cI X955 J 9 rfl 0 (sI X955 J 10 rfl #[vr sa, vr b954, vr sa, vi 2, vi 0, .unset] (iL X955 J 11 rfl rfl (iN X955 J 12 rfl rfl (cN X955 J 13 rfl (tlt (by decide)).2.1 (aN X955 J' 0 rfl rfl (iL X955 J' 1 rfl rfl k)))))))) ?_
  obtain ⟨cl958, Ar958, q958, S958, P958, H958, G958⟩ := (id c956)
  have hin958 : ¬ ((0 : Int32) < 0 ∨ cl958.slots.size ≤ ((0 : Int32)).toNatClampNeg) := inb_of S958 ⟨by decide, by decide⟩
  refine Go.by' (fun t k => X955.aaload hx (j := (0 : Int32)) (v := (.ref u0)) Ar958.1 (State.isArrayOf_alike hZ.alike Ar958.2.1) rfl Ar958.2.2 hin958 (H958.at hin958 rfl) (g := (mkF m 25 #[vr sa, vr b954, vr sa, vi 2, vi 0, .unset] [(.int 0), (.ref sa)])) rfl rfl (jd J' 2 rfl) t k) ?_
  show G_ 26 #[vr sa, vr b954, vr sa, vi 2, vi 0, .unset] [(.ref u0)]
  refine gy (fun t k => sA X955 J' 3 rfl #[vr sa, vr b954, vr sa, vi 2, vi 0, vr u0] (aL X955 J' 4 rfl rfl k)) ?_
  have P960 := (SP.trans (SP.ext E954) (SP.keep K955 (allS (nsx hw 43 A954) all0)))
  have c961 := (P960 S0)
  obtain ⟨_, _, ⟨T959, L959, k959, n959⟩, -, X959, Si959, Gr959, ⟨Lc959, hQ959, l959, y959, z959, A959⟩, st959⟩ := callSS X955 hx (y := own_y22) hown (mvT hZ (ww hw 259 rfl)) (mvT hZ (ww hw 260 rfl)) (mvT hZ (ww hw 40 rfl)) (mvT hZ (ww hw 261 rfl)) (by decide) (own_backS (W := 0) (rmNm l Z a0 hw [] vcs wI wA cA vF wP wD kD wE kE mT mU mL mO G u0 ky0 T955.heap n0 O955 c961) Sb955 (ww hw 261 rfl) (ww hw 40 rfl) (by decide) (by decide) hEL all0) (g := (mkF m 30 #[vr sa, vr b954, vr sa, vi 2, vi 0, vr u0] [(.ref u0)])) rfl (by rw [hml]; rfl) (argsL := [(.ref u0)]) (rest := []) (lenOf pd_15 rfl) rfl (Nat.le_of_eq rfl) (jd J' 5 rfl) (fun _ _ => ⟨rfl, rfl, (by decide : 2 + 4 ≤ _), (by decide : 10 + 16 ≤ _)⟩)
  dsimp only [Pt.U, Pt.locs, Pt.cells, Pt.slots] at X959 l959 y959 z959 st959 hQ959 Si959 Gr959 A959
  subst l959 y959 z959
  obtain ⟨rfl, N959q, K959⟩ := hQ959
  have N959 := Fr.app N955 N959q
  obtain ⟨lc959, X959, N959⟩ := own_pack X959 N959
  replace X959 := own_reb X959
  have Sb959 := Sb955.called Si959 Gr959 A959
  have hZ959 := Sb959.hZ
  have hO959 := Sb959.hO
  have J959 := J.up hZ959 hO959
  have J959' := J'.up hZ959 hO959
  refine Go.by' (fun t k => st959.trans k) ?_
  have O959 := O955.keep K959 all0
  have KC959 := KC955.trans K959 all0
  show G_ 33 #[vr sa, vr b954, vr sa, vi 2, vi 0, vr u0] [(.int 1)]
  refine gy (fun t k => fY X959 J959' 6 rfl ((if0 _ _).trans (feq (by decide)).2) 51 (aN X959 J959' 7 rfl rfl (aL X959 J959' 8 rfl rfl k))) ?_
  have c963 := ((SP.keep0 K959) c961)
  have c964 := (SKs.sp (SP.keep0 K959) Sk955)
  refine own_cv (rmAd hw G _ _ _ _ _ _ _ _ _ _ _ O959 (f955_0.keep K959) (f955_1.keep K959 nin0) (Tp955.keep0 K959) c963 c964 srt0 (own_le O0)) X959 J959' 9 360 361 363 362 44 364 rfl (f955_0.keep K959) 0 pd_13 (kF N959 fun _ T962 v962 X962 N962 q962 => ?_)
  obtain ⟨r_962, Lr_962, mr_962, wl_962, rfl, K962, f962_0, f962_1, r962_0⟩ := q962
  have Sb962 := Sb959.keep K962 (TW.safe hZ959.alike r962_0)
  have O962 := O959.keep K962 (fun x q => Nat.le_trans (own_le O0) (r962_0 x q).1)
  have KC962 := KC959.trans K962 (fun x q => Or.inr (Nat.le_trans (Nat.le_refl _) (r962_0 x q).1))
  show G_ 57 _ [(.int r_962)]
  refine gy (fun t k => oQ X962 J959' 10 rfl (xI X962 J959' 11 rfl rfl #[vr sa, vr b954, vr sa, vi 2, vi 1, vr u0] (jG X962 J959' 12 rfl 16 (iL X962 J959 11 rfl rfl (iN X962 J959 12 rfl rfl (cN X962 J959 13 rfl (tlt (by decide)).2.1 (aN X962 J959' 0 rfl rfl (iL X962 J959' 1 rfl rfl k)))))))) ?_
  have c965 := ((c956.keep K959 nin0).keep K962 (TW.ninA r962_0 (c956.keep K959 nin0) (ww hw 418 rfl) (ww hw 49 rfl)))
  obtain ⟨cl966, Ar966, q966, S966, P966, H966, G966⟩ := (id c965)
  have hin966 : ¬ ((1 : Int32) < 0 ∨ cl966.slots.size ≤ ((1 : Int32)).toNatClampNeg) := inb_of S966 ⟨by decide, by decide⟩
  refine Go.by' (fun t k => X962.aaload hx (j := (1 : Int32)) (v := (.ref u1)) Ar966.1 (State.isArrayOf_alike hZ959.alike Ar966.2.1) rfl Ar966.2.2 hin966 (H966.at hin966 rfl) (g := (mkF m 25 #[vr sa, vr b954, vr sa, vi 2, vi 1, vr u0] [(.int 1), (.ref sa)])) rfl rfl (jd J959' 2 rfl) t k) ?_
  show G_ 26 #[vr sa, vr b954, vr sa, vi 2, vi 1, vr u0] [(.ref u1)]
  refine gy (fun t k => sA X962 J959' 3 rfl #[vr sa, vr b954, vr sa, vi 2, vi 1, vr u1] (aL X962 J959' 4 rfl rfl k)) ?_
  have P968 := (SP.trans (SP.ext E954) (SP.trans (SP.keep K955 (allS (nsx hw 43 A954) all0)) (SP.trans (SP.keep0 K959) (TW.sp K962 r962_0 (ww hw 418 rfl) (ww hw 49 rfl)))))
  have c969 := (P968 S1)
  obtain ⟨_, _, ⟨T967, L967, k967, n967⟩, -, X967, Si967, Gr967, ⟨Lc967, hQ967, l967, y967, z967, A967⟩, st967⟩ := callSS X962 hx (y := own_y22) hO959 (mvT hZ959 (ww hw 259 rfl)) (mvT hZ959 (ww hw 260 rfl)) (mvT hZ959 (ww hw 40 rfl)) (mvT hZ959 (ww hw 261 rfl)) (by decide) (own_backS (W := 0) (rmNm l Z a0 hw [] vcs wI wA cA vF wP wD kD wE kE mT mU mL mO G u1 ky1 T962.heap n0 O962 c969) Sb962 (ww hw 261 rfl) (ww hw 40 rfl) (by decide) (by decide) hEL all0) (g := (mkF m 30 #[vr sa, vr b954, vr sa, vi 2, vi 1, vr u1] [(.ref u1)])) rfl (by rw [hml]; rfl) (argsL := [(.ref u1)]) (rest := []) (lenOf pd_15 rfl) rfl (Nat.le_of_eq rfl) (jd J959' 5 rfl) (fun _ _ => ⟨rfl, rfl, (by decide : 7 + 4 ≤ _), (by decide : 32 + 16 ≤ _)⟩)
  dsimp only [Pt.U, Pt.locs, Pt.cells, Pt.slots] at X967 l967 y967 z967 st967 hQ967 Si967 Gr967 A967
  subst l967 y967 z967
  obtain ⟨rfl, N967q, K967⟩ := hQ967
  have N967 := Fr.app N962 N967q
  obtain ⟨lc967, X967, N967⟩ := own_pack X967 N967
  replace X967 := own_reb X967
  have Sb967 := Sb962.called Si967 Gr967 A967
  have hZ967 := Sb967.hZ
  have hO967 := Sb967.hO
  have J967 := J.up hZ967 hO967
  have J967' := J'.up hZ967 hO967
  refine Go.by' (fun t k => st967.trans k) ?_
  have O967 := O962.keep K967 all0
  have KC967 := KC962.trans K967 all0
  show G_ 33 #[vr sa, vr b954, vr sa, vi 2, vi 1, vr u1] [(.int 1)]
  refine gy (fun t k => fY X967 J967' 6 rfl ((if0 _ _).trans (feq (by decide)).2) 51 (aN X967 J967' 7 rfl rfl (aL X967 J967' 8 rfl rfl k))) ?_
  have c971 := (((f955_0.keep K959).keep K962).keep K967)
  have c972 := (((f955_1.keep K959 nin0).keep K962 (TW.nin r962_0 ((A954.keep K955).keep K959) (by decide) (by decide))).keep K967 nin0)
  have c973 := ((SP.keep0 K967) c969)
  have c974 := (SKs.sp (SP.keep0 K967) f962_1)
  refine own_cv (rmAd hw G _ _ _ _ _ _ _ _ _ _ _ O967 c971 c972 (f962_0.keep0 K967) c973 c974 (srt1 _) (own_le O0)) X967 J967' 9 360 361 363 362 44 364 rfl c971 0 pd_13 (kF N967 fun _ T970 v970 X970 N970 q970 => ?_)
  obtain ⟨r_970, Lr_970, mr_970, wl_970, rfl, K970, f970_0, f970_1, r970_0⟩ := q970
  have Sb970 := Sb967.keep K970 (TW.safe hZ967.alike r970_0)
  have O970 := O967.keep K970 (fun x q => Nat.le_trans (own_le O0) (r970_0 x q).1)
  have KC970 := KC967.trans K970 (fun x q => Or.inr (Nat.le_trans (Nat.le_refl _) (r970_0 x q).1))
  show G_ 57 _ [(.int r_970)]
  refine gy (fun t k => oQ X970 J967' 10 rfl (xI X970 J967' 11 rfl rfl #[vr sa, vr b954, vr sa, vi 2, vi 2, vr u1] (jG X970 J967' 12 rfl 16 (iL X970 J967 11 rfl rfl (iN X970 J967 12 rfl rfl (cY X970 J967 13 rfl (flt (by decide)).2.1 64 (aN X970 J967 14 rfl rfl k))))))) ?_
  refine own_cs (rmUm hw G _ _ _ O970 (c971.keep K970)) X970 J967 15 87 88 89 90 rfl 0 pd_58 (kF N970 fun _ T975 v975 X975 N975 q975 => ?_)
  obtain ⟨r_975, rfl, K975, f975_0, f975_1, f975_2⟩ := q975
  have Sf_r_975 : Safe Z consts_1 T967.vm T970.heap r_975 := Safe.new f975_2
  have g_r_975 : n0 ≤ r_975 := Nat.le_trans (own_le O970) f975_2
  have sz_r_975 : h0.size ≤ r_975 := Nat.le_trans KC970.1 f975_2
  have Sb975 := Sb970.keep K975 sf0
  have O975 := O970.keep K975 all0
  have KC975 := KC970.trans K975 all0
  have c976 := ((c971.keep K970).keep K975)
  have c977 := ((c972.keep K970 (TW.nin r970_0 ((((A954.keep K955).keep K959).keep K962).keep K967) (by decide) (by decide))).keep K975 nin0)
  have c978 := (SKs.sp (SP.keep0 K975) f970_1)
  show G_ 68 _ [(.ref r_975)]
  rw [hPf]
  exact Go.retAS X975 hx hEL Sb975 rfl hh hret hlk rfl rfl (jd J967 16 rfl) (by decide) (by decide) ⟨r_975, b954, tm_955, Lr_970, mr_970, rfl, N975, KC975, f975_0, f975_1, c976, c977, (f970_0.keep0 K975), c978, sz_tm_955⟩
theorem ef_rmOf3 (m : MethodId) {sa : Addr} : entryFrame m #[(.ref sa)] 6 = mkF m 0 #[vr sa, .unset, .unset, .unset, .unset, .unset] [] := by first | (simp [entryFrame, mkF, argsToLocals, Value.category]; done) | rfl
def QrmOf3 (Z : State) (vcs : Int32) (wI : Addr) (wA : Addr) (cA : Cell) (vF : Value) (wP : Addr) (wD : Addr) (kD : ClassId) (wE : Addr) (kE : ClassId) (mT : Addr) (mU : Addr) (mL : Addr) (mO : Addr) (sa : Addr) (ka : ClassId) (u0 : Addr) (u1 : Addr) (u2 : Addr) (ky0 : Int) (ky1 : Int) (ky2 : Int) (h0 : Heap) (n0 : Nat) (v : Option Value) (h : Heap) (vm : Vm) (L : List Loc) : Prop := ∃ (r : Addr) (ts : Addr) (tm : Addr) (Lk : (List Addr)) (mc : Int32), (v = some (.ref r)) ∧ (Fr n0 L) ∧ (Keep h0 h []) ∧ (Exa Z h r S_15) ∧ (Fld Z h r S_14 "c" S_17 (.ref ts)) ∧ (Exa Z h ts S_8) ∧ (Fld Z h ts S_8 "m" S_13 (.ref tm)) ∧ (TreeP Z h h0.size wP tm Lk mc .null) ∧ (SKs Z h Lk (ins ky2 (ins ky1 (ins ky0 [])))) ∧ (h0.size ≤ tm)
theorem rmOf3 (l : Launch) (Z : State) (a0 : Array Value) (hw : ∀ d ∈ tables_1, d.before a0 Z = true) (ws : List Jvm.Cond) (vcs : Int32) (wI : Addr) (wA : Addr) (cA : Cell) (vF : Value) (wP : Addr) (wD : Addr) (kD : ClassId) (wE : Addr) (kE : ClassId) (mT : Addr) (mU : Addr) (mL : Addr) (mO : Addr) (G : Gh Z vcs wI wA cA vF wP wD kD wE kE mT mU mL mO) (sa : Addr) (ka : ClassId) (u0 : Addr) (u1 : Addr) (u2 : Addr) (ky0 : Int) (ky1 : Int) (ky2 : Int) (h0 : Heap) (n0 : Nat) (O0 : Old Z n0 h0) (VA : Arv Z h0 sa ka (.object S_3) (3 : Int32) [(.ref u0), (.ref u1), (.ref u2)] Value.null) (S0 : SK Z h0 u0 ky0) (S1 : SK Z h0 u1 ky1) (S2 : SK Z h0 u2 ky2) :
    MetFree l own_y114 (head1 (Jvm.Cond.code own_y114 prog_19_method_3_code 6 (some (.object S_22)) :: ws) ({ frames := 10, cells := 18, slots := 77, locals := 152 } : Room)) (fun aa' UU' => aa' = #[(.ref sa)] ∧ Z.Warmed39 UU'.vm ∧ UU'.heap = h0 ∧ CHv Z consts_1 UU'.vm h0 ∧ ∀ x ∈ ([] : List Addr), Safe Z consts_1 UU'.vm h0 x) (fun _ _ _ _ _ => True) (fun _ UU' oo' VV' => ∃ v' L', oo' = .returned v' ∧ QrmOf3 Z vcs wI wA cA vF wP wD kD wE kE mT mU mL mO sa ka u0 u1 u2 ky0 ky1 ky2 h0 n0 v' VV'.heap VV'.vm L' ∧ CHr Z consts_1 UU'.vm UU'.heap VV'.vm VV'.heap ∧ ReturnedEndW UU' oo' VV' L' ({ frames := 10, cells := 18, slots := 77, locals := 152 } : Room).cells ({ frames := 10, cells := 18, slots := 77, locals := 152 } : Room).slots) := by
  refine MetFree.of_bodySF (plainFor_of_name pn_36) hisR ?_
  intro p e s m args below meth c s₁ Bd hml0 hP hK
  obtain ⟨rfl, hZ, hh, hCH, hSf⟩ := hP
  have hml : c.maxLocals = 6 := hml0
  obtain ⟨hx, hby, hlk, hown, hnm, hret, X0, e0⟩ := own_hd Bd hh
  replace X0 : Stand p l e ({ frames := 10, cells := 18, slots := 77, locals := 152 } : Room) (s.setVm s.vm) m _ below meth c s₁ [] 0 0 := X0
  have N0 := Fr.nil n0
  have KC0 : Keep h0 h0 [] := Keep.refl _ _
  have Sb0 := Sb.start hZ hown hCH
  have hEL := own_EW hw
  have hSA := own_SA hw
  refine Go.bodyS ?_
  obtain ⟨Pf, hPf⟩ : ∃ P, P = FinS Z consts_1 s below ({ frames := 10, cells := 18, slots := 77, locals := 152 } : Room).cells ({ frames := 10, cells := 18, slots := 77, locals := 152 } : Room).slots (QrmOf3 Z vcs wI wA cA vF wP wD kD wE kE mT mU mL mO sa ka u0 u1 u2 ky0 ky1 ky2 h0 n0) := ⟨_, rfl⟩
  rw [← hPf]
  refine Go.cast (ef_rmOf3 m) ?_
  have J : Jn p Z a0 (s.setVm s.vm) m _ c 6 L9 := ⟨hx, hZ, hown, hw, hml, fun i q e => od hby d9 i e⟩
  have J' : Jn p Z a0 (s.setVm s.vm) m _ c 6 L9' := ⟨hx, hZ, hown, hw, hml, fun i q e => od hby d9' i e⟩
  obtain ⟨T979, h979, X979, e979, E979, A979, D979, -, st979⟩ := newO X0 hx hZ hown (ww hw 42 rfl) (ww hw 43 rfl) (ww hw 44 rfl) e0 (g := (mkF m 0 #[vr sa, .unset, .unset, .unset, .unset, .unset] [])) rfl (jd J 0 rfl) (by decide) (by decide)
  obtain ⟨b979, g979⟩ : ∃ z, z = h0.size := ⟨_, rfl⟩
  rw [← g979] at A979 D979 st979
  refine Go.by' st979 ?_
  have Sf_b979 : Safe Z consts_1 s.vm h0 b979 := Safe.new (Nat.le_of_eq g979.symm)
  have g_b979 : n0 ≤ b979 := Nat.le_trans (own_le O0) (Nat.le_of_eq g979.symm)
  have sz_b979 : h0.size ≤ b979 := Nat.le_trans KC0.1 (Nat.le_of_eq g979.symm)
  have Sb979 := Sb0.ext E979
  have O979 := O0.ext E979
  have KC979 := KC0.ext E979
  have Fn979_86 : Fld Z h979 b979 S_8 "m" S_13 Value.null := D979 (Or.inl (ww hw 86 rfl)) (ty := (.object S_21)) (by decide)
  show G_ 3 #[vr sa, .unset, .unset, .unset, .unset, .unset] [(.ref b979)]
  refine gy (fun t k => oP X979 J 1 rfl k) ?_
  refine own_ci (rmT0 hw G _ _ _ O979 A979 Fn979_86 g_b979) X979 J 2 45 46 44 47 e979 1 pd_35 (kF N0 fun _ T980 v980 X980 N980 q980 => ?_)
  obtain ⟨tm_980, rfl, K980, f980_0, f980_1, f980_2, f980_3⟩ := q980
  have Sf_tm_980 : Safe Z consts_1 s.vm h979 tm_980 := Safe.new f980_3
  have g_tm_980 : n0 ≤ tm_980 := Nat.le_trans (own_le O979) f980_3
  have sz_tm_980 : h0.size ≤ tm_980 := Nat.le_trans KC979.1 f980_3
  have Sb980 := Sb979.keep K980 (sfS (Safe.exa hZ.alike A979 (by decide) (by decide)) sf0)
  have O980 := O979.keep K980 (allS g_b979 all0)
  have KC980 := KC979.trans K980 (allS (Or.inr sz_b979) all0)
  have Tp980 : TreeP Z T980.heap h0.size wP tm_980 [] (0 : Int32) .null := ⟨sz_tm_980, Or.inl ⟨rfl, f980_2⟩⟩
  have Sk980 : SKs Z T980.heap [] [] := sks0
  show G_ 7 _ [(.ref b979)]
  refine gy (fun t k => sAN X980 J 3 rfl #[vr sa, vr b979, .unset, .unset, .unset, .unset] (aN X980 J 4 rfl rfl (sAN X980 J 5 rfl #[vr sa, vr b979, vr sa, .unset, .unset, .unset] (aN X980 J 6 rfl rfl k)))) ?_
  have c981 := ((VA.ext E979).keep K980 (ninS (Nat.ne_of_lt (Nat.lt_of_lt_of_le VA.lt (Nat.le_of_eq g979.symm))) nin0))
  refine Go.by' (fun t k => own_alen X980 hx hZ rfl c981 rfl rfl (jd J 7 rfl) k) ?_
  show G_ 12 #[vr sa, vr b979, vr sa, .unset, .unset, .unset] [(.int 3)]
  refine gy (fun t k => sIN X980 J 8 rfl #[vr sa, vr b979, vr sa, vi 3, .unset, .unset] (cI X980 J 9 rfl 0 (sI X980 J 10 rfl #[vr sa, vr b979, vr sa, vi 3, vi 0, .unset] (iL X980 J 11 rfl rfl (iN X980 J 12 rfl rfl (cN X980 J 13 rfl (tlt (by decide)).2.1 (aN X980 J' 0 rfl rfl (iL X980 J' 1 rfl rfl k)))))))) ?_
  obtain ⟨cl983, Ar983, q983, S983, P983, H983, G983⟩ := (id c981)
  have hin983 : ¬ ((0 : Int32) < 0 ∨ cl983.slots.size ≤ ((0 : Int32)).toNatClampNeg) := inb_of S983 ⟨by decide, by decide⟩
  refine Go.by' (fun t k => X980.aaload hx (j := (0 : Int32)) (v := (.ref u0)) Ar983.1 (State.isArrayOf_alike hZ.alike Ar983.2.1) rfl Ar983.2.2 hin983 (H983.at hin983 rfl) (g := (mkF m 25 #[vr sa, vr b979, vr sa, vi 3, vi 0, .unset] [(.int 0), (.ref sa)])) rfl rfl (jd J' 2 rfl) t k) ?_
  show G_ 26 #[vr sa, vr b979, vr sa, vi 3, vi 0, .unset] [(.ref u0)]
  refine gy (fun t k => sA X980 J' 3 rfl #[vr sa, vr b979, vr sa, vi 3, vi 0, vr u0] (aL X980 J' 4 rfl rfl k)) ?_
  have P985 := (SP.trans (SP.ext E979) (SP.keep K980 (allS (nsx hw 43 A979) all0)))
  have c986 := (P985 S0)
  obtain ⟨_, _, ⟨T984, L984, k984, n984⟩, -, X984, Si984, Gr984, ⟨Lc984, hQ984, l984, y984, z984, A984⟩, st984⟩ := callSS X980 hx (y := own_y22) hown (mvT hZ (ww hw 259 rfl)) (mvT hZ (ww hw 260 rfl)) (mvT hZ (ww hw 40 rfl)) (mvT hZ (ww hw 261 rfl)) (by decide) (own_backS (W := 0) (rmNm l Z a0 hw [] vcs wI wA cA vF wP wD kD wE kE mT mU mL mO G u0 ky0 T980.heap n0 O980 c986) Sb980 (ww hw 261 rfl) (ww hw 40 rfl) (by decide) (by decide) hEL all0) (g := (mkF m 30 #[vr sa, vr b979, vr sa, vi 3, vi 0, vr u0] [(.ref u0)])) rfl (by rw [hml]; rfl) (argsL := [(.ref u0)]) (rest := []) (lenOf pd_15 rfl) rfl (Nat.le_of_eq rfl) (jd J' 5 rfl) (fun _ _ => ⟨rfl, rfl, (by decide : 2 + 4 ≤ _), (by decide : 10 + 16 ≤ _)⟩)
  dsimp only [Pt.U, Pt.locs, Pt.cells, Pt.slots] at X984 l984 y984 z984 st984 hQ984 Si984 Gr984 A984
  subst l984 y984 z984
  obtain ⟨rfl, N984q, K984⟩ := hQ984
  have N984 := Fr.app N980 N984q
  obtain ⟨lc984, X984, N984⟩ := own_pack X984 N984
  replace X984 := own_reb X984
  have Sb984 := Sb980.called Si984 Gr984 A984
  have hZ984 := Sb984.hZ
  have hO984 := Sb984.hO
  have J984 := J.up hZ984 hO984
  have J984' := J'.up hZ984 hO984
  refine Go.by' (fun t k => st984.trans k) ?_
  have O984 := O980.keep K984 all0
  have KC984 := KC980.trans K984 all0
  show G_ 33 #[vr sa, vr b979, vr sa, vi 3, vi 0, vr u0] [(.int 1)]
  refine gy (fun t k => fY X984 J984' 6 rfl ((if0 _ _).trans (feq (by decide)).2) 51 (aN X984 J984' 7 rfl rfl (aL X984 J984' 8 rfl rfl k))) ?_
  have c988 := ((SP.keep0 K984) c986)
  have c989 := (SKs.sp (SP.keep0 K984) Sk980)
  refine own_cv (rmAd hw G _ _ _ _ _ _ _ _ _ _ _ O984 (f980_0.keep K984) (f980_1.keep K984 nin0) (Tp980.keep0 K984) c988 c989 srt0 (own_le O0)) X984 J984' 9 360 361 363 362 44 364 rfl (f980_0.keep K984) 0 pd_13 (kF N984 fun _ T987 v987 X987 N987 q987 => ?_)
  obtain ⟨r_987, Lr_987, mr_987, wl_987, rfl, K987, f987_0, f987_1, r987_0⟩ := q987
  have Sb987 := Sb984.keep K987 (TW.safe hZ984.alike r987_0)
  have O987 := O984.keep K987 (fun x q => Nat.le_trans (own_le O0) (r987_0 x q).1)
  have KC987 := KC984.trans K987 (fun x q => Or.inr (Nat.le_trans (Nat.le_refl _) (r987_0 x q).1))
  show G_ 57 _ [(.int r_987)]
  refine gy (fun t k => oQ X987 J984' 10 rfl (xI X987 J984' 11 rfl rfl #[vr sa, vr b979, vr sa, vi 3, vi 1, vr u0] (jG X987 J984' 12 rfl 16 (iL X987 J984 11 rfl rfl (iN X987 J984 12 rfl rfl (cN X987 J984 13 rfl (tlt (by decide)).2.1 (aN X987 J984' 0 rfl rfl (iL X987 J984' 1 rfl rfl k)))))))) ?_
  have c990 := ((c981.keep K984 nin0).keep K987 (TW.ninA r987_0 (c981.keep K984 nin0) (ww hw 418 rfl) (ww hw 49 rfl)))
  obtain ⟨cl991, Ar991, q991, S991, P991, H991, G991⟩ := (id c990)
  have hin991 : ¬ ((1 : Int32) < 0 ∨ cl991.slots.size ≤ ((1 : Int32)).toNatClampNeg) := inb_of S991 ⟨by decide, by decide⟩
  refine Go.by' (fun t k => X987.aaload hx (j := (1 : Int32)) (v := (.ref u1)) Ar991.1 (State.isArrayOf_alike hZ984.alike Ar991.2.1) rfl Ar991.2.2 hin991 (H991.at hin991 rfl) (g := (mkF m 25 #[vr sa, vr b979, vr sa, vi 3, vi 1, vr u0] [(.int 1), (.ref sa)])) rfl rfl (jd J984' 2 rfl) t k) ?_
  show G_ 26 #[vr sa, vr b979, vr sa, vi 3, vi 1, vr u0] [(.ref u1)]
  refine gy (fun t k => sA X987 J984' 3 rfl #[vr sa, vr b979, vr sa, vi 3, vi 1, vr u1] (aL X987 J984' 4 rfl rfl k)) ?_
  have P993 := (SP.trans (SP.ext E979) (SP.trans (SP.keep K980 (allS (nsx hw 43 A979) all0)) (SP.trans (SP.keep0 K984) (TW.sp K987 r987_0 (ww hw 418 rfl) (ww hw 49 rfl)))))
  have c994 := (P993 S1)
  obtain ⟨_, _, ⟨T992, L992, k992, n992⟩, -, X992, Si992, Gr992, ⟨Lc992, hQ992, l992, y992, z992, A992⟩, st992⟩ := callSS X987 hx (y := own_y22) hO984 (mvT hZ984 (ww hw 259 rfl)) (mvT hZ984 (ww hw 260 rfl)) (mvT hZ984 (ww hw 40 rfl)) (mvT hZ984 (ww hw 261 rfl)) (by decide) (own_backS (W := 0) (rmNm l Z a0 hw [] vcs wI wA cA vF wP wD kD wE kE mT mU mL mO G u1 ky1 T987.heap n0 O987 c994) Sb987 (ww hw 261 rfl) (ww hw 40 rfl) (by decide) (by decide) hEL all0) (g := (mkF m 30 #[vr sa, vr b979, vr sa, vi 3, vi 1, vr u1] [(.ref u1)])) rfl (by rw [hml]; rfl) (argsL := [(.ref u1)]) (rest := []) (lenOf pd_15 rfl) rfl (Nat.le_of_eq rfl) (jd J984' 5 rfl) (fun _ _ => ⟨rfl, rfl, (by decide : 7 + 4 ≤ _), (by decide : 32 + 16 ≤ _)⟩)
  dsimp only [Pt.U, Pt.locs, Pt.cells, Pt.slots] at X992 l992 y992 z992 st992 hQ992 Si992 Gr992 A992
  subst l992 y992 z992
  obtain ⟨rfl, N992q, K992⟩ := hQ992
  have N992 := Fr.app N987 N992q
  obtain ⟨lc992, X992, N992⟩ := own_pack X992 N992
  replace X992 := own_reb X992
  have Sb992 := Sb987.called Si992 Gr992 A992
  have hZ992 := Sb992.hZ
  have hO992 := Sb992.hO
  have J992 := J.up hZ992 hO992
  have J992' := J'.up hZ992 hO992
  refine Go.by' (fun t k => st992.trans k) ?_
  have O992 := O987.keep K992 all0
  have KC992 := KC987.trans K992 all0
  show G_ 33 #[vr sa, vr b979, vr sa, vi 3, vi 1, vr u1] [(.int 1)]
  refine gy (fun t k => fY X992 J992' 6 rfl ((if0 _ _).trans (feq (by decide)).2) 51 (aN X992 J992' 7 rfl rfl (aL X992 J992' 8 rfl rfl k))) ?_
  have c996 := (((f980_0.keep K984).keep K987).keep K992)
  have c997 := (((f980_1.keep K984 nin0).keep K987 (TW.nin r987_0 ((A979.keep K980).keep K984) (by decide) (by decide))).keep K992 nin0)
  have c998 := ((SP.keep0 K992) c994)
  have c999 := (SKs.sp (SP.keep0 K992) f987_1)
  refine own_cv (rmAd hw G _ _ _ _ _ _ _ _ _ _ _ O992 c996 c997 (f987_0.keep0 K992) c998 c999 (srt1 _) (own_le O0)) X992 J992' 9 360 361 363 362 44 364 rfl c996 0 pd_13 (kF N992 fun _ T995 v995 X995 N995 q995 => ?_)
  obtain ⟨r_995, Lr_995, mr_995, wl_995, rfl, K995, f995_0, f995_1, r995_0⟩ := q995
  have Sb995 := Sb992.keep K995 (TW.safe hZ992.alike r995_0)
  have O995 := O992.keep K995 (fun x q => Nat.le_trans (own_le O0) (r995_0 x q).1)
  have KC995 := KC992.trans K995 (fun x q => Or.inr (Nat.le_trans (Nat.le_refl _) (r995_0 x q).1))
  show G_ 57 _ [(.int r_995)]
  refine gy (fun t k => oQ X995 J992' 10 rfl (xI X995 J992' 11 rfl rfl #[vr sa, vr b979, vr sa, vi 3, vi 2, vr u1] (jG X995 J992' 12 rfl 16 (iL X995 J992 11 rfl rfl (iN X995 J992 12 rfl rfl (cN X995 J992 13 rfl (tlt (by decide)).2.1 (aN X995 J992' 0 rfl rfl (iL X995 J992' 1 rfl rfl k)))))))) ?_
  have c1000 := ((c990.keep K992 nin0).keep K995 (TW.ninA r995_0 (c990.keep K992 nin0) (ww hw 418 rfl) (ww hw 49 rfl)))
  obtain ⟨cl1001, Ar1001, q1001, S1001, P1001, H1001, G1001⟩ := (id c1000)
  have hin1001 : ¬ ((2 : Int32) < 0 ∨ cl1001.slots.size ≤ ((2 : Int32)).toNatClampNeg) := inb_of S1001 ⟨by decide, by decide⟩
  refine Go.by' (fun t k => X995.aaload hx (j := (2 : Int32)) (v := (.ref u2)) Ar1001.1 (State.isArrayOf_alike hZ992.alike Ar1001.2.1) rfl Ar1001.2.2 hin1001 (H1001.at hin1001 rfl) (g := (mkF m 25 #[vr sa, vr b979, vr sa, vi 3, vi 2, vr u1] [(.int 2), (.ref sa)])) rfl rfl (jd J992' 2 rfl) t k) ?_
  show G_ 26 #[vr sa, vr b979, vr sa, vi 3, vi 2, vr u1] [(.ref u2)]
  refine gy (fun t k => sA X995 J992' 3 rfl #[vr sa, vr b979, vr sa, vi 3, vi 2, vr u2] (aL X995 J992' 4 rfl rfl k)) ?_
  have P1003 := (SP.trans (SP.ext E979) (SP.trans (SP.keep K980 (allS (nsx hw 43 A979) all0)) (SP.trans (SP.keep0 K984) (SP.trans (TW.sp K987 r987_0 (ww hw 418 rfl) (ww hw 49 rfl)) (SP.trans (SP.keep0 K992) (TW.sp K995 r995_0 (ww hw 418 rfl) (ww hw 49 rfl)))))))
  have c1004 := (P1003 S2)
  obtain ⟨_, _, ⟨T1002, L1002, k1002, n1002⟩, -, X1002, Si1002, Gr1002, ⟨Lc1002, hQ1002, l1002, y1002, z1002, A1002⟩, st1002⟩ := callSS X995 hx (y := own_y22) hO992 (mvT hZ992 (ww hw 259 rfl)) (mvT hZ992 (ww hw 260 rfl)) (mvT hZ992 (ww hw 40 rfl)) (mvT hZ992 (ww hw 261 rfl)) (by decide) (own_backS (W := 0) (rmNm l Z a0 hw [] vcs wI wA cA vF wP wD kD wE kE mT mU mL mO G u2 ky2 T995.heap n0 O995 c1004) Sb995 (ww hw 261 rfl) (ww hw 40 rfl) (by decide) (by decide) hEL all0) (g := (mkF m 30 #[vr sa, vr b979, vr sa, vi 3, vi 2, vr u2] [(.ref u2)])) rfl (by rw [hml]; rfl) (argsL := [(.ref u2)]) (rest := []) (lenOf pd_15 rfl) rfl (Nat.le_of_eq rfl) (jd J992' 5 rfl) (fun _ _ => ⟨rfl, rfl, (by decide : 12 + 4 ≤ _), (by decide : 54 + 16 ≤ _)⟩)
  dsimp only [Pt.U, Pt.locs, Pt.cells, Pt.slots] at X1002 l1002 y1002 z1002 st1002 hQ1002 Si1002 Gr1002 A1002
  subst l1002 y1002 z1002
  obtain ⟨rfl, N1002q, K1002⟩ := hQ1002
  have N1002 := Fr.app N995 N1002q
  obtain ⟨lc1002, X1002, N1002⟩ := own_pack X1002 N1002
  replace X1002 := own_reb X1002
  have Sb1002 := Sb995.called Si1002 Gr1002 A1002
  have hZ1002 := Sb1002.hZ
  have hO1002 := Sb1002.hO
  have J1002 := J.up hZ1002 hO1002
  have J1002' := J'.up hZ1002 hO1002
  refine Go.by' (fun t k => st1002.trans k) ?_
  have O1002 := O995.keep K1002 all0
  have KC1002 := KC995.trans K1002 all0
  show G_ 33 #[vr sa, vr b979, vr sa, vi 3, vi 2, vr u2] [(.int 1)]
  refine gy (fun t k => fY X1002 J1002' 6 rfl ((if0 _ _).trans (feq (by decide)).2) 51 (aN X1002 J1002' 7 rfl rfl (aL X1002 J1002' 8 rfl rfl k))) ?_
  have c1006 := ((c996.keep K995).keep K1002)
  have c1007 := ((c997.keep K995 (TW.nin r995_0 ((((A979.keep K980).keep K984).keep K987).keep K992) (by decide) (by decide))).keep K1002 nin0)
  have c1008 := ((SP.keep0 K1002) c1004)
  have c1009 := (SKs.sp (SP.keep0 K1002) f995_1)
  refine own_cv (rmAd hw G _ _ _ _ _ _ _ _ _ _ _ O1002 c1006 c1007 (f995_0.keep0 K1002) c1008 c1009 (srt2 _ _) (own_le O0)) X1002 J1002' 9 360 361 363 362 44 364 rfl c1006 0 pd_13 (kF N1002 fun _ T1005 v1005 X1005 N1005 q1005 => ?_)
  obtain ⟨r_1005, Lr_1005, mr_1005, wl_1005, rfl, K1005, f1005_0, f1005_1, r1005_0⟩ := q1005
  have Sb1005 := Sb1002.keep K1005 (TW.safe hZ1002.alike r1005_0)
  have O1005 := O1002.keep K1005 (fun x q => Nat.le_trans (own_le O0) (r1005_0 x q).1)
  have KC1005 := KC1002.trans K1005 (fun x q => Or.inr (Nat.le_trans (Nat.le_refl _) (r1005_0 x q).1))
  show G_ 57 _ [(.int r_1005)]
  refine gy (fun t k => oQ X1005 J1002' 10 rfl (xI X1005 J1002' 11 rfl rfl #[vr sa, vr b979, vr sa, vi 3, vi 3, vr u2] (jG X1005 J1002' 12 rfl 16 (iL X1005 J1002 11 rfl rfl (iN X1005 J1002 12 rfl rfl (cY X1005 J1002 13 rfl (flt (by decide)).2.1 64 (aN X1005 J1002 14 rfl rfl k))))))) ?_
  refine own_cs (rmUm hw G _ _ _ O1005 (c1006.keep K1005)) X1005 J1002 15 87 88 89 90 rfl 0 pd_58 (kF N1005 fun _ T1010 v1010 X1010 N1010 q1010 => ?_)
  obtain ⟨r_1010, rfl, K1010, f1010_0, f1010_1, f1010_2⟩ := q1010
  have Sf_r_1010 : Safe Z consts_1 T1002.vm T1005.heap r_1010 := Safe.new f1010_2
  have g_r_1010 : n0 ≤ r_1010 := Nat.le_trans (own_le O1005) f1010_2
  have sz_r_1010 : h0.size ≤ r_1010 := Nat.le_trans KC1005.1 f1010_2
  have Sb1010 := Sb1005.keep K1010 sf0
  have O1010 := O1005.keep K1010 all0
  have KC1010 := KC1005.trans K1010 all0
  have c1011 := ((c1006.keep K1005).keep K1010)
  have c1012 := ((c1007.keep K1005 (TW.nin r1005_0 ((((((A979.keep K980).keep K984).keep K987).keep K992).keep K995).keep K1002) (by decide) (by decide))).keep K1010 nin0)
  have c1013 := (SKs.sp (SP.keep0 K1010) f1005_1)
  show G_ 68 _ [(.ref r_1010)]
  rw [hPf]
  exact Go.retAS X1010 hx hEL Sb1010 rfl hh hret hlk rfl rfl (jd J1002 16 rfl) (by decide) (by decide) ⟨r_1010, b979, tm_980, Lr_1005, mr_1005, rfl, N1010, KC1010, f1010_0, f1010_1, c1011, c1012, (f1005_0.keep0 K1010), c1013, sz_tm_980⟩
theorem own_k (x : Int32) : (x &&& (3 : Int32)) = (0 : Int32) ∨ (x &&& (3 : Int32)) = (1 : Int32) ∨ (x &&& (3 : Int32)) = (2 : Int32) ∨ (x &&& (3 : Int32)) = (3 : Int32) := by
  have h := c_mask x 3 2 (by decide) (by decide)
  have l0 : (0 : Int32).toInt = 0 := rfl
  have l1 : (1 : Int32).toInt = 1 := rfl
  have l2 : (2 : Int32).toInt = 2 := rfl
  have l3 : (3 : Int32).toInt = 3 := rfl
  simp only [← Int32.toInt_inj]
  omega
theorem pd_59 : parseMethodDescriptor "(II)Ljava/lang/String;" = some ⟨[.int, .int], some (.object S_3)⟩ := by decide +kernel
theorem pd_60 : parseMethodDescriptor "([Ljava/lang/String;)Ljava/util/Set;" = some ⟨[(.array (.object S_3))], some (.object S_22)⟩ := by decide +kernel
theorem pd_61 : parseMethodDescriptor "(Ljava/lang/String;Ljava/lang/String;)I" = some ⟨[(.object S_3), (.object S_3)], some .int⟩ := by decide +kernel
theorem ef_rm0 (m : MethodId) {iA : Int32} {iB : Int32} {iC : Int32} {iD : Int32} {iE : Int32} {iF : Int32} : entryFrame m #[(.int iA), (.int iB), (.int iC), (.int iD), (.int iE), (.int iF)] maxLocals = mkF m 0 #[vi iA, vi iB, vi iC, vi iD, vi iE, vi iF, uS, uS, uS, uS, uS, uS, uS, uS, uS, uS, uS, uS, uS] [] := by first | (simp [entryFrame, mkF, argsToLocals, Value.category, maxLocals]; done) | rfl
def L0 : List (Nat × Instr × Nat) := [(0, .iload 5, 2), (2, .bipush 16, 2), (4, .iushr, 1), (5, .iconst 3, 1), (6, .iand, 1), (7, .istore 6, 2), (9, i_0), (10, i_3), (11, .invokestatic 7, 3), (14, .astore 7, 2), (16, i_1), (17, .iload 4, 2), (19, .invokestatic 7, 3), (22, .astore 8, 2), (24, i_2), (25, .iload 5, 2), (27, .invokestatic 7, 3), (30, .astore 9, 2), (32, .iload 6, 2), (34, .anewarray 13, 3), (37, .astore 10, 2), (39, .iload 6, 2), (41, .iconst 1, 1), (42, .if_icmp .lt 9, 3), (51, .iload 6, 2), (53, .iconst 2, 1), (54, .if_icmp .lt 9, 3), (63, .iload 6, 2), (65, .iconst 3, 1), (66, .if_icmp .lt 9, 3), (75, .aload 10, 2), (77, .invokestatic 15, 3), (80, .astore 11, 2), (82, .new 21, 3), (85, .dup, 1), (86, .aload 11, 2), (88, .invokespecial 23, 3), (91, .astore 12, 2), (93, .aload 7, 2), (95, .astore 13, 2), (97, .aload 8, 2), (99, .astore 14, 2), (101, .aload 9, 2), (103, .astore 15, 2), (105, .iload 6, 2), (107, .iconst 2, 1), (108, .if_icmp .lt 25, 3), (133, .iload 6, 2), (135, .iconst 3, 1), (136, .if_icmp .lt 25, 3), (161, .iload 6, 2), (163, .iconst 2, 1), (164, .if_icmp .lt 25, 3), (189, .new 21, 3), (192, .dup, 1), (193, .invokespecial 30, 3), (196, .astore 17, 2), (198, .iload 6, 2), (200, .iconst 1, 1), (201, .if_icmp .lt 11, 3), (212, .iload 6, 2), (214, .iconst 2, 1), (215, .if_icmp .lt 21, 3), (236, .iload 6, 2), (238, .iconst 3, 1), (239, .if_icmp .lt 21, 3), (260, .aload 12, 2), (262, .invokevirtual 38, 3), (265, .aload 17, 2), (267, .invokevirtual 38, 3), (270, .if_icmp .eq 5, 3), (275, .iconst 1, 1), (276, .istore 18, 2), (278, .aload 17, 2), (280, .invokevirtual 38, 3), (283, .iconst 1, 1), (284, .if_icmp .lt 36, 3), (320, .aload 17, 2), (322, .invokevirtual 38, 3), (325, .iconst 2, 1), (326, .if_icmp .lt 36, 3), (362, .aload 17, 2), (364, .invokevirtual 38, 3), (367, .iconst 3, 1), (368, .if_icmp .lt 36, 3), (404, .iload 18, 2), (406, .ireturn, 1), (45, .aload 10, 2), (47, .iconst 0, 1), (48, .aload 7, 2), (50, .aastore, 1), (204, .aload 17, 2), (206, .aload 13, 2), (208, .invokevirtual 31, 3), (211, .pop, 1), (287, .iload 18, 2), (289, .ifCond .eq 28, 3), (292, .aload 12, 2), (294, .iconst 0, 1), (295, .invokevirtual 42, 3), (298, .checkcast 13, 3), (301, .aload 17, 2), (303, .iconst 0, 1), (304, .invokevirtual 42, 3), (307, .invokevirtual 35, 3), (310, .ifCond .eq 7, 3), (313, .iconst 1, 1), (314, .goto 4, 3), (318, .istore 18, 2), (57, .aload 10, 2), (59, .iconst 1, 1), (60, .aload 8, 2), (62, .aastore, 1), (218, .aload 14, 2), (220, .aload 13, 2), (222, .invokevirtual 35, 3), (225, .ifCond .ne 11, 3), (228, .aload 17, 2), (230, .aload 14, 2), (232, .invokevirtual 31, 3), (235, .pop, 1), (329, .iload 18, 2), (331, .ifCond .eq 28, 3), (334, .aload 12, 2), (336, .iconst 1, 1), (337, .invokevirtual 42, 3), (340, .checkcast 13, 3), (343, .aload 17, 2), (345, .iconst 1, 1), (346, .invokevirtual 42, 3), (349, .invokevirtual 35, 3), (352, .ifCond .eq 7, 3), (355, .iconst 1, 1), (356, .goto 4, 3), (360, .istore 18, 2), (111, .aload 13, 2), (113, .aload 14, 2), (115, .invokestatic 26, 3), (118, .ifCond .le 15, 3), (121, .aload 13, 2), (123, .astore 16, 2), (125, .aload 14, 2), (127, .astore 13, 2), (129, .aload 16, 2), (131, .astore 14, 2), (167, .aload 13, 2), (169, .aload 14, 2), (171, .invokestatic 26, 3), (174, .ifCond .le 15, 3), (69, .aload 10, 2), (71, .iconst 2, 1), (72, .aload 9, 2), (74, .aastore, 1), (242, .aload 15, 2), (244, .aload 14, 2), (246, .invokevirtual 35, 3), (249, .ifCond .ne 11, 3), (252, .aload 17, 2), (254, .aload 15, 2), (256, .invokevirtual 31, 3), (259, .pop, 1), (371, .iload 18, 2), (373, .ifCond .eq 28, 3), (376, .aload 12, 2), (378, .iconst 2, 1), (379, .invokevirtual 42, 3), (382, .checkcast 13, 3), (385, .aload 17, 2), (387, .iconst 2, 1), (388, .invokevirtual 42, 3), (391, .invokevirtual 35, 3), (394, .ifCond .eq 7, 3), (397, .iconst 1, 1), (398, .goto 4, 3), (402, .istore 18, 2), (139, .aload 14, 2), (141, .aload 15, 2), (143, .invokestatic 26, 3), (146, .ifCond .le 15, 3), (149, .aload 14, 2), (151, .astore 16, 2), (153, .aload 15, 2), (155, .astore 14, 2), (157, .aload 16, 2), (159, .astore 15, 2), (177, .aload 13, 2), (179, .astore 16, 2), (181, .aload 14, 2), (183, .astore 13, 2), (185, .aload 16, 2), (187, .astore 14, 2)]
theorem d0 : ∀ q ∈ L0, decode code q.1 = .ok q.2 := by decide +kernel
def Qrm0 (Z : State) (vcs : Int32) (wI : Addr) (wA : Addr) (cA : Cell) (vF : Value) (wP : Addr) (wD : Addr) (kD : ClassId) (wE : Addr) (kE : ClassId) (mT : Addr) (mU : Addr) (mL : Addr) (mO : Addr) (iA : Int32) (iB : Int32) (iC : Int32) (iD : Int32) (iE : Int32) (iF : Int32) (h0 : Heap) (n0 : Nat) (v : Option Value) (h : Heap) (vm : Vm) (L : List Loc) : Prop := (v = some (.int 1)) ∧ (Fr n0 L) ∧ (Keep h0 h [])
theorem rm0 (l : Launch) (Z : State) (a0 : Array Value) (hw : ∀ d ∈ tables_1, d.before a0 Z = true) (ws : List Jvm.Cond) (vcs : Int32) (wI : Addr) (wA : Addr) (cA : Cell) (vF : Value) (wP : Addr) (wD : Addr) (kD : ClassId) (wE : Addr) (kE : ClassId) (mT : Addr) (mU : Addr) (mL : Addr) (mO : Addr) (G : Gh Z vcs wI wA cA vF wP wD kD wE kE mT mU mL mO) (iA : Int32) (iB : Int32) (iC : Int32) (iD : Int32) (iE : Int32) (iF : Int32) (h0 : Heap) (n0 : Nat) (O0 : Old Z n0 h0) :
    MetFree l x (head1 (Jvm.Cond.code x code maxLocals ret :: ws) room_1) (fun aa' UU' => aa' = #[(.int iA), (.int iB), (.int iC), (.int iD), (.int iE), (.int iF)] ∧ Z.Warmed39 UU'.vm ∧ UU'.heap = h0 ∧ CHv Z consts_1 UU'.vm h0 ∧ ∀ x ∈ ([] : List Addr), Safe Z consts_1 UU'.vm h0 x) (fun _ _ _ _ _ => True) (fun _ UU' oo' VV' => ∃ v' L', oo' = .returned v' ∧ Qrm0 Z vcs wI wA cA vF wP wD kD wE kE mT mU mL mO iA iB iC iD iE iF h0 n0 v' VV'.heap VV'.vm L' ∧ CHr Z consts_1 UU'.vm UU'.heap VV'.vm VV'.heap ∧ ReturnedEndW UU' oo' VV' L' 35 131) := by
  refine MetFree.of_bodySF (plainFor_of_name pn_3) hisR ?_
  intro p e s m args below meth c s₁ Bd hml0 hP hK
  obtain ⟨rfl, hZ, hh, hCH, hSf⟩ := hP
  have hml : c.maxLocals = 19 := hml0
  obtain ⟨hx, hby, hlk, hown, hnm, hret, X0, e0⟩ := own_hd Bd hh
  replace X0 : Stand p l e room_1 (s.setVm s.vm) m _ below meth c s₁ [] 0 0 := X0
  have N0 := Fr.nil n0
  have KC0 : Keep h0 h0 [] := Keep.refl _ _
  have Sb0 := Sb.start hZ hown hCH
  have hEL := own_EW hw
  have hSA := own_SA hw
  refine Go.bodyS ?_
  obtain ⟨Pf, hPf⟩ : ∃ P, P = FinS Z consts_1 s below 35 131 (Qrm0 Z vcs wI wA cA vF wP wD kD wE kE mT mU mL mO iA iB iC iD iE iF h0 n0) := ⟨_, rfl⟩
  rw [← hPf]
  refine Go.cast (ef_rm0 m) ?_
  have J : Jn p Z a0 (s.setVm s.vm) m _ c 19 L0 := ⟨hx, hZ, hown, hw, hml, fun i q e => od hby d0 i e⟩
  refine gy (fun t k => iL X0 J 0 rfl rfl (cB X0 J 1 rfl 16 k)) ?_
  refine Go.by' (fun t k => XS.iushr X0.here hx rfl (jd J 2 rfl) rfl k) ?_
  show G_ 5 _ [(.int ((iF.toUInt32 >>> ((16 : Int32) &&& 31).toUInt32).toInt32))]
  refine gy (fun t k => cI X0 J 3 rfl 3 (oD X0 J 4 rfl (((iF.toUInt32 >>> ((16 : Int32) &&& 31).toUInt32).toInt32) &&& (3 : Int32)) (sI X0 J 5 rfl _ (iN X0 J 6 rfl rfl (iN X0 J 7 rfl rfl k))))) ?_
  refine own_cs (rmNa hw G iA iD _ _ O0 ) X0 J 8 0 1 2 3 e0 0 pd_59 (kF N0 fun _ T1014 v1014 X1014 N1014 q1014 => ?_)
  obtain ⟨r_1014, ky_1014, rfl, K1014, f1014_0, f1014_1⟩ := q1014
  have Sf_r_1014 : Safe Z consts_1 s.vm h0 r_1014 := Safe.new f1014_1
  have g_r_1014 : n0 ≤ r_1014 := Nat.le_trans (own_le O0) f1014_1
  have sz_r_1014 : h0.size ≤ r_1014 := Nat.le_trans KC0.1 f1014_1
  have Sb1014 := Sb0.keep K1014 sf0
  have O1014 := O0.keep K1014 all0
  have KC1014 := KC0.trans K1014 all0
  show G_ 14 _ [(.ref r_1014)]
  refine gy (fun t k => sA X1014 J 9 rfl _ (iN X1014 J 10 rfl rfl (iL X1014 J 11 rfl rfl k))) ?_
  refine own_cs (rmNa hw G iB iE _ _ O1014 ) X1014 J 12 0 1 2 3 rfl 0 pd_59 (kF N1014 fun _ T1015 v1015 X1015 N1015 q1015 => ?_)
  obtain ⟨r_1015, ky_1015, rfl, K1015, f1015_0, f1015_1⟩ := q1015
  have Sf_r_1015 : Safe Z consts_1 s.vm T1014.heap r_1015 := Safe.new f1015_1
  have g_r_1015 : n0 ≤ r_1015 := Nat.le_trans (own_le O1014) f1015_1
  have sz_r_1015 : h0.size ≤ r_1015 := Nat.le_trans KC1014.1 f1015_1
  have Sb1015 := Sb1014.keep K1015 sf0
  have O1015 := O1014.keep K1015 all0
  have KC1015 := KC1014.trans K1015 all0
  show G_ 22 _ [(.ref r_1015)]
  refine gy (fun t k => sA X1015 J 13 rfl _ (iN X1015 J 14 rfl rfl (iL X1015 J 15 rfl rfl k))) ?_
  refine own_cs (rmNa hw G iC iF _ _ O1015 ) X1015 J 16 0 1 2 3 rfl 0 pd_59 (kF N1015 fun _ T1016 v1016 X1016 N1016 q1016 => ?_)
  obtain ⟨r_1016, ky_1016, rfl, K1016, f1016_0, f1016_1⟩ := q1016
  have Sf_r_1016 : Safe Z consts_1 s.vm T1015.heap r_1016 := Safe.new f1016_1
  have g_r_1016 : n0 ≤ r_1016 := Nat.le_trans (own_le O1015) f1016_1
  have sz_r_1016 : h0.size ≤ r_1016 := Nat.le_trans KC1015.1 f1016_1
  have Sb1016 := Sb1015.keep K1016 sf0
  have O1016 := O1015.keep K1016 all0
  have KC1016 := KC1015.trans K1016 all0
  show G_ 30 _ [(.ref r_1016)]
  refine gy (fun t k => sA X1016 J 17 rfl _ k) ?_
  rcases own_k ((iF.toUInt32 >>> ((16 : Int32) &&& 31).toUInt32).toInt32) with hk | hk | hk | hk
  · refine Go.castF (a := (((iF.toUInt32 >>> ((16 : Int32) &&& 31).toUInt32).toInt32) &&& (3 : Int32))) (b := (0 : Int32)) (fun z' : Int32 => mkF m 32 #[vi iA, vi iB, vi iC, vi iD, vi iE, vi iF, vi z', vr r_1014, vr r_1015, vr r_1016, uS, uS, uS, uS, uS, uS, uS, uS, uS] []) (hk) ?_
    show G_ 32 _ []
    refine gy (fun t k => iL X1016 J 18 rfl rfl k) ?_
    obtain ⟨T1017, h1017, k1017, X1017, e1017, E1017, A1017, Ov1017, st1017⟩ := newR X1016 hx hZ hown (ww hw 36 rfl) (ww hw 37 rfl) rfl (g := (mkF m 34 #[vi iA, vi iB, vi iC, vi iD, vi iE, vi iF, vi 0, vr r_1014, vr r_1015, vr r_1016, uS, uS, uS, uS, uS, uS, uS, uS, uS] [(.int 0)])) rfl (jd J 19 rfl) rfl (by decide) (cap := 0) (by decide) (by decide) (by decide) (by decide)
    obtain ⟨b1017, g1017⟩ : ∃ z, z = T1016.heap.size := ⟨_, rfl⟩
    rw [← g1017] at A1017 st1017
    refine Go.by' st1017 ?_
    have Sf_b1017 : Safe Z consts_1 s.vm T1016.heap b1017 := Safe.new (Nat.le_of_eq g1017.symm)
    have g_b1017 : n0 ≤ b1017 := Nat.le_trans (own_le O1016) (Nat.le_of_eq g1017.symm)
    have sz_b1017 : h0.size ≤ b1017 := Nat.le_trans KC1016.1 (Nat.le_of_eq g1017.symm)
    have Sb1017 := Sb1016.ext E1017
    have O1017 := O1016.ext E1017
    have KC1017 := KC1016.ext E1017
    have V1017 : Arv Z h1017 b1017 k1017 (.object S_3) (0 : Int32) [] Value.null := (Arv.new A1017 (by decide)).pad (pad_rep [] Value.null 0)
    show G_ 37 _ [(.ref b1017)]
    refine gy (fun t k => sA X1017 J 20 rfl _ (iL X1017 J 21 rfl rfl (cI X1017 J 22 rfl 1 k))) ?_
    refine gy (fun t k => cY X1017 J 23 rfl (tlt (by decide)).1 51 (iL X1017 J 24 rfl rfl (cI X1017 J 25 rfl 2 (cY X1017 J 26 rfl (tlt (by decide)).1 63 (iL X1017 J 27 rfl rfl (cI X1017 J 28 rfl 3 (cY X1017 J 29 rfl (tlt (by decide)).1 75 (aL X1017 J 30 rfl rfl k)))))))) ?_
    obtain ⟨_, _, ⟨T1018, L1018, k1018, n1018⟩, -, X1018, Si1018, Gr1018, ⟨Lc1018, hQ1018, l1018, y1018, z1018, A1018⟩, st1018⟩ := callSS X1017 hx (y := own_y114) hown (mvT hZ (ww hw 38 rfl)) (mvT hZ (ww hw 39 rfl)) (mvT hZ (ww hw 40 rfl)) (mvT hZ (ww hw 41 rfl)) (by decide) (own_backS (W := 0) (rmOf0 l Z a0 hw [] vcs wI wA cA vF wP wD kD wE kE mT mU mL mO G b1017 k1017 h1017 n0 O1017 V1017) Sb1017 (ww hw 41 rfl) (ww hw 40 rfl) (by decide) (by decide) hEL all0) (g := (mkF m 77 #[vi iA, vi iB, vi iC, vi iD, vi iE, vi iF, vi 0, vr r_1014, vr r_1015, vr r_1016, vr b1017, uS, uS, uS, uS, uS, uS, uS, uS] [(.ref b1017)])) rfl (by rw [hml]; rfl) (argsL := [(.ref b1017)]) (rest := []) (lenOf pd_60 rfl) rfl (Nat.le_of_eq rfl) (jd J 31 rfl) (fun _ _ => ⟨rfl, e1017, (by decide : 10 + 3 ≤ _), (by decide : 24 + 11 ≤ _)⟩)
    dsimp only [Pt.U, Pt.locs, Pt.cells, Pt.slots] at X1018 l1018 y1018 z1018 st1018 hQ1018 Si1018 Gr1018 A1018
    subst l1018 y1018 z1018
    obtain ⟨r_1018, ts_1018, tm_1018, Lk_1018, mc_1018, rfl, N1018q, K1018, f1018_0, f1018_1, f1018_2, f1018_3, f1018_4, f1018_5, f1018_6⟩ := hQ1018
    have N1018 := Fr.app N1016 N1018q
    obtain ⟨lc1018, X1018, N1018⟩ := own_pack X1018 N1018
    replace X1018 := own_reb X1018
    have Sb1018 := Sb1017.called Si1018 (by rw [← e1017]; exact Gr1018) A1018
    have hZ1018 := Sb1018.hZ
    have hO1018 := Sb1018.hO
    have J1018 := J.up hZ1018 hO1018
    refine Go.by' (fun t k => st1018.trans k) ?_
    have Sf_tm_1018 : Safe Z consts_1 s.vm h1017 tm_1018 := Safe.new f1018_6
    have g_tm_1018 : n0 ≤ tm_1018 := Nat.le_trans (own_le O1017) f1018_6
    have sz_tm_1018 : h0.size ≤ tm_1018 := Nat.le_trans KC1017.1 f1018_6
    have O1018 := O1017.keep K1018 all0
    have KC1018 := KC1017.trans K1018 all0
    show G_ 80 _ [(.ref r_1018)]
    refine gy (fun t k => sA X1018 J1018 32 rfl _ k) ?_
    obtain ⟨T1019, h1019, X1019, e1019, E1019, A1019, D1019, -, st1019⟩ := newO X1018 hx hZ1018 hO1018 (ww hw 116 rfl) (ww hw 117 rfl) (ww hw 118 rfl) rfl (g := (mkF m 82 #[vi iA, vi iB, vi iC, vi iD, vi iE, vi iF, vi 0, vr r_1014, vr r_1015, vr r_1016, vr b1017, vr r_1018, uS, uS, uS, uS, uS, uS, uS] [])) rfl (jd J1018 33 rfl) (by decide) (by decide)
    obtain ⟨b1019, g1019⟩ : ∃ z, z = T1018.heap.size := ⟨_, rfl⟩
    rw [← g1019] at A1019 D1019 st1019
    refine Go.by' st1019 ?_
    have Sf_b1019 : Safe Z consts_1 T1018.vm T1018.heap b1019 := Safe.new (Nat.le_of_eq g1019.symm)
    have g_b1019 : n0 ≤ b1019 := Nat.le_trans (own_le O1018) (Nat.le_of_eq g1019.symm)
    have sz_b1019 : h0.size ≤ b1019 := Nat.le_trans KC1018.1 (Nat.le_of_eq g1019.symm)
    have Sb1019 := Sb1018.ext E1019
    have O1019 := O1018.ext E1019
    have KC1019 := KC1018.ext E1019
    have Fn1019_131 : Fld Z h1019 b1019 S_10 "modCount" "I" (Value.int 0) := D1019 (Or.inl (ww hw 131 rfl)) (ty := .int) (by decide)
    have Fn1019_246 : Fld Z h1019 b1019 S_4 "size" "I" (Value.int 0) := D1019 (Or.inl (ww hw 246 rfl)) (ty := .int) (by decide)
    have Fn1019_249 : Fld Z h1019 b1019 S_4 "elementData" S_9 Value.null := D1019 (Or.inl (ww hw 249 rfl)) (ty := (.array (.object S_2))) (by decide)
    show G_ 85 _ [(.ref b1019)]
    refine gy (fun t k => oP X1019 J1018 34 rfl (aL X1019 J1018 35 rfl rfl k)) ?_
    have c1021 := (SKs.sp (SP.ext E1019) f1018_5)
    refine own_ci (rmLC2 hw G _ _ _ _ _ _ _ _ _ _ O1019 A1019 Fn1019_131 Fn1019_246 Fn1019_249 g_b1019 (f1018_0.ext E1019) (f1018_1.ext E1019) (f1018_2.ext E1019) (f1018_3.ext E1019) (f1018_4.keep0 (own_k0 E1019)) c1021 g_tm_1018) X1019 J1018 36 119 120 118 121 e1019 1 pd_37 (kF N1018 fun _ T1020 v1020 X1020 N1020 q1020 => ?_)
    obtain ⟨ar_1020, kr_1020, zr_1020, vsr_1020, rfl, K1020, f1020_0, f1020_1, f1020_2, f1020_3, r1020_0, r1020_1⟩ := q1020
    have Sb1020 := Sb1019.keep K1020 (sfS (Safe.exa hZ1018.alike A1019 (by decide) (by decide)) (sfS (Safe.exa hZ1018.alike ((TreeP.exa f1018_4).ext E1019) (by decide) (by decide)) sf0))
    have O1020 := O1019.keep K1020 (allS g_b1019 (allS g_tm_1018 all0))
    have KC1020 := KC1019.trans K1020 (allS (Or.inr sz_b1019) (allS (Or.inr sz_tm_1018) all0))
    show G_ 91 _ [(.ref b1019)]
    refine gy (fun t k => sA X1020 J1018 37 rfl _ k) ?_
    refine gy (fun t k => aL X1020 J1018 38 rfl rfl (sA X1020 J1018 39 rfl _ k)) ?_
    refine gy (fun t k => aL X1020 J1018 40 rfl rfl (sA X1020 J1018 41 rfl _ k)) ?_
    refine gy (fun t k => aL X1020 J1018 42 rfl rfl (sA X1020 J1018 43 rfl _ (iL X1020 J1018 44 rfl rfl (cI X1020 J1018 45 rfl 2 k)))) ?_
    refine gy (fun t k => cY X1020 J1018 46 rfl (tlt (by decide)).1 133 (iL X1020 J1018 47 rfl rfl (cI X1020 J1018 48 rfl 3 (cY X1020 J1018 49 rfl (tlt (by decide)).1 161 (iL X1020 J1018 50 rfl rfl (cI X1020 J1018 51 rfl 2 (cY X1020 J1018 52 rfl (tlt (by decide)).1 189 k))))))) ?_
    obtain ⟨T1022, h1022, X1022, e1022, E1022, A1022, D1022, -, st1022⟩ := newO X1020 hx hZ1018 hO1018 (ww hw 116 rfl) (ww hw 117 rfl) (ww hw 118 rfl) rfl (g := (mkF m 189 #[vi iA, vi iB, vi iC, vi iD, vi iE, vi iF, vi 0, vr r_1014, vr r_1015, vr r_1016, vr b1017, vr r_1018, vr b1019, vr r_1014, vr r_1015, vr r_1016, uS, uS, uS] [])) rfl (jd J1018 53 rfl) (by decide) (by decide)
    obtain ⟨b1022, g1022⟩ : ∃ z, z = T1020.heap.size := ⟨_, rfl⟩
    rw [← g1022] at A1022 D1022 st1022
    refine Go.by' st1022 ?_
    have Sf_b1022 : Safe Z consts_1 T1018.vm T1020.heap b1022 := Safe.new (Nat.le_of_eq g1022.symm)
    have g_b1022 : n0 ≤ b1022 := Nat.le_trans (own_le O1020) (Nat.le_of_eq g1022.symm)
    have sz_b1022 : h0.size ≤ b1022 := Nat.le_trans KC1020.1 (Nat.le_of_eq g1022.symm)
    have Sb1022 := Sb1020.ext E1022
    have O1022 := O1020.ext E1022
    have KC1022 := KC1020.ext E1022
    have Fn1022_131 : Fld Z h1022 b1022 S_10 "modCount" "I" (Value.int 0) := D1022 (Or.inl (ww hw 131 rfl)) (ty := .int) (by decide)
    have Fn1022_246 : Fld Z h1022 b1022 S_4 "size" "I" (Value.int 0) := D1022 (Or.inl (ww hw 246 rfl)) (ty := .int) (by decide)
    have Fn1022_249 : Fld Z h1022 b1022 S_4 "elementData" S_9 Value.null := D1022 (Or.inl (ww hw 249 rfl)) (ty := (.array (.object S_2))) (by decide)
    show G_ 192 _ [(.ref b1022)]
    refine gy (fun t k => oP X1022 J1018 54 rfl k) ?_
    refine own_ci (rmAL hw G _ _ _ O1022 A1022 Fn1022_131 Fn1022_249 Fn1022_246 g_b1022) X1022 J1018 55 250 251 118 252 e1022 1 pd_35 (kF N1020 fun _ T1023 v1023 X1023 N1023 q1023 => ?_)
    obtain ⟨rfl, K1023, f1023_0, f1023_1, f1023_2, f1023_3⟩ := q1023
    have Sb1023 := Sb1022.keep K1023 (sfS (Safe.exa hZ1018.alike A1022 (by decide) (by decide)) sf0)
    have O1023 := O1022.keep K1023 (allS g_b1022 all0)
    have KC1023 := KC1022.trans K1023 (allS (Or.inr sz_b1022) all0)
    show G_ 196 _ [(.ref b1022)]
    refine gy (fun t k => sA X1023 J1018 56 rfl _ (iL X1023 J1018 57 rfl rfl (cI X1023 J1018 58 rfl 1 k))) ?_
    refine gy (fun t k => cY X1023 J1018 59 rfl (tlt (by decide)).1 212 (iL X1023 J1018 60 rfl rfl (cI X1023 J1018 61 rfl 2 (cY X1023 J1018 62 rfl (tlt (by decide)).1 236 (iL X1023 J1018 63 rfl rfl (cI X1023 J1018 64 rfl 3 (cY X1023 J1018 65 rfl (tlt (by decide)).1 260 k))))))) ?_
    have P1025 := (SP.trans (SP.keep K1020 (allS (nsx hw 117 A1019) (allS (nsx hw 49 ((TreeP.exa f1018_4).ext E1019)) all0))) (SP.trans (SP.ext E1022) (SP.keep K1023 (allS (nsx hw 117 A1022) all0))))
    have c1026 := (SKs.sp P1025 c1021)
    have Sq1024 := c1026
    obtain rfl := SKs.nl Sq1024
    obtain rfl : zr_1020 = (0 : Int32) := r1020_0
    obtain rfl : vsr_1020 = [] := r1020_1
    refine gy (fun t k => aL X1023 J1018 66 rfl rfl k) ?_
    have c1028 := ((f1020_1.ext E1022).keep K1023 (ninS (Nat.ne_of_lt (Nat.lt_of_lt_of_le (Nat.lt_of_lt_of_le A1019.lt K1020.1) (Nat.le_of_eq g1022.symm))) nin0))
    have c1029 := ((f1020_0.ext E1022).keep K1023)
    refine own_cv (rmSize hw G _ _ _ _ O1023 c1028) X1023 J1018 67 254 255 257 256 118 258 rfl c1029 0 pd_11 (kP fun T1027 v1027 X1027 e1027 q1027 => ?_)
    obtain rfl := q1027
    show G_ 265 _ [(.int 0)]
    refine gy (fun t k => aL X1027 J1018 68 rfl rfl k) ?_
    refine own_cv (rmSize hw G _ _ _ _ O1023 f1023_3) X1027 J1018 69 254 255 257 256 118 258 e1027 f1023_0 1 pd_11 (kP fun T1030 v1030 X1030 e1030 q1030 => ?_)
    obtain rfl := q1030
    show G_ 270 _ [(.int 0), (.int 0)]
    refine gy (fun t k => cY X1030 J1018 70 rfl (teq (by decide)).1 275 (cI X1030 J1018 71 rfl 1 (sI X1030 J1018 72 rfl _ k))) ?_
    refine gy (fun t k => aL X1030 J1018 73 rfl rfl k) ?_
    refine own_cv (rmSize hw G _ _ _ _ O1023 f1023_3) X1030 J1018 74 254 255 257 256 118 258 e1030 f1023_0 0 pd_11 (kP fun T1031 v1031 X1031 e1031 q1031 => ?_)
    obtain rfl := q1031
    show G_ 283 _ [(.int 0)]
    refine gy (fun t k => cI X1031 J1018 75 rfl 1 (cY X1031 J1018 76 rfl (tlt (by decide)).1 320 (aL X1031 J1018 77 rfl rfl k))) ?_
    refine own_cv (rmSize hw G _ _ _ _ O1023 f1023_3) X1031 J1018 78 254 255 257 256 118 258 e1031 f1023_0 0 pd_11 (kP fun T1032 v1032 X1032 e1032 q1032 => ?_)
    obtain rfl := q1032
    show G_ 325 _ [(.int 0)]
    refine gy (fun t k => cI X1032 J1018 79 rfl 2 (cY X1032 J1018 80 rfl (tlt (by decide)).1 362 (aL X1032 J1018 81 rfl rfl k))) ?_
    refine own_cv (rmSize hw G _ _ _ _ O1023 f1023_3) X1032 J1018 82 254 255 257 256 118 258 e1032 f1023_0 0 pd_11 (kP fun T1033 v1033 X1033 e1033 q1033 => ?_)
    obtain rfl := q1033
    show G_ 367 _ [(.int 0)]
    refine gy (fun t k => cI X1033 J1018 83 rfl 3 (cY X1033 J1018 84 rfl (tlt (by decide)).1 404 (iL X1033 J1018 85 rfl rfl k))) ?_
    rw [hPf]
    exact Go.retIS X1033 hx hEL Sb1023 e1033 hh hret hlk (by simp) rfl (jd J1018 86 rfl) (by decide) (by decide) ⟨rfl, N1023, (by rw [e1033]; exact KC1023)⟩
  · refine Go.castF (a := (((iF.toUInt32 >>> ((16 : Int32) &&& 31).toUInt32).toInt32) &&& (3 : Int32))) (b := (1 : Int32)) (fun z' : Int32 => mkF m 32 #[vi iA, vi iB, vi iC, vi iD, vi iE, vi iF, vi z', vr r_1014, vr r_1015, vr r_1016, uS, uS, uS, uS, uS, uS, uS, uS, uS] []) (hk) ?_
    show G_ 32 _ []
    refine gy (fun t k => iL X1016 J 18 rfl rfl k) ?_
    obtain ⟨T1034, h1034, k1034, X1034, e1034, E1034, A1034, Ov1034, st1034⟩ := newR X1016 hx hZ hown (ww hw 36 rfl) (ww hw 37 rfl) rfl (g := (mkF m 34 #[vi iA, vi iB, vi iC, vi iD, vi iE, vi iF, vi 1, vr r_1014, vr r_1015, vr r_1016, uS, uS, uS, uS, uS, uS, uS, uS, uS] [(.int 1)])) rfl (jd J 19 rfl) rfl (by decide) (cap := 1) (by decide) (by decide) (by decide) (by decide)
    obtain ⟨b1034, g1034⟩ : ∃ z, z = T1016.heap.size := ⟨_, rfl⟩
    rw [← g1034] at A1034 st1034
    refine Go.by' st1034 ?_
    have Sf_b1034 : Safe Z consts_1 s.vm T1016.heap b1034 := Safe.new (Nat.le_of_eq g1034.symm)
    have g_b1034 : n0 ≤ b1034 := Nat.le_trans (own_le O1016) (Nat.le_of_eq g1034.symm)
    have sz_b1034 : h0.size ≤ b1034 := Nat.le_trans KC1016.1 (Nat.le_of_eq g1034.symm)
    have Sb1034 := Sb1016.ext E1034
    have O1034 := O1016.ext E1034
    have KC1034 := KC1016.ext E1034
    have V1034 : Arv Z h1034 b1034 k1034 (.object S_3) (1 : Int32) [.null] Value.null := (Arv.new A1034 (by decide)).pad (pad_rep [] Value.null 1)
    show G_ 37 _ [(.ref b1034)]
    refine gy (fun t k => sA X1034 J 20 rfl _ (iL X1034 J 21 rfl rfl (cI X1034 J 22 rfl 1 k))) ?_
    refine gy (fun t k => cN X1034 J 23 rfl (flt (by decide)).1 (aL X1034 J 87 rfl rfl (cI X1034 J 88 rfl 0 (aL X1034 J 89 rfl rfl k)))) ?_
    obtain ⟨cl1035, Ar1035, q1035, S1035, P1035, H1035, G1035⟩ := (id V1034)
    have hin1035 : ¬ ((0 : Int32) < 0 ∨ cl1035.slots.size ≤ ((0 : Int32)).toNatClampNeg) := inb_of S1035 ⟨by decide, by decide⟩
    have P1036 : SP Z _ _ := (SP.trans (SP.keep0 K1015) (SP.trans (SP.keep0 K1016) (SP.ext E1034)))
    have c1037 := (P1036 f1014_0)
    obtain ⟨T1038, h1038, X1038, e1038, W1038, st1038⟩ := stR X1034 hx hZ e1034 Ar1035 (j := (0 : Int32)) hin1035 rfl (Sto.ofV Ar1035 q1035 Ov1034 (Ins.self c1037.exa)) (g := (mkF m 50 #[vi iA, vi iB, vi iC, vi iD, vi iE, vi iF, vi 1, vr r_1014, vr r_1015, vr r_1016, vr b1034, uS, uS, uS, uS, uS, uS, uS, uS] [(.ref r_1014), (.int 0), (.ref b1034)])) rfl rfl (jd J 90 rfl)
    refine Go.by' st1038 ?_
    have V1038 : Arv Z h1038 b1034 k1034 (.object S_3) (1 : Int32) [(.ref r_1014)] Value.null := Arv.set Ar1035 q1035 S1035 P1035 H1035 G1035 rfl W1038 0 rfl (Nat.le_of_ble_eq_true rfl)
    have N1038 := Fr.snoc X1038 N1016 g_b1034
    obtain ⟨lc1038, X1038, N1038⟩ := own_pack X1038 N1038
    have Sb1038 := Sb1034.wr W1038 (Safe.ext E1034 Sb1016.ch Sf_b1034)
    have O1038 := O1034.wr W1038 g_b1034
    have KC1038 := KC1034.wr W1038 (Or.inr sz_b1034)
    show G_ 51 _ []
    refine gy (fun t k => iL X1038 J 24 rfl rfl (cI X1038 J 25 rfl 2 (cY X1038 J 26 rfl (tlt (by decide)).1 63 (iL X1038 J 27 rfl rfl (cI X1038 J 28 rfl 3 (cY X1038 J 29 rfl (tlt (by decide)).1 75 (aL X1038 J 30 rfl rfl k))))))) ?_
    have c1040 := ((SP.wr W1038 (nsa hw V1034)) c1037)
    obtain ⟨_, _, ⟨T1039, L1039, k1039, n1039⟩, -, X1039, Si1039, Gr1039, ⟨Lc1039, hQ1039, l1039, y1039, z1039, A1039⟩, st1039⟩ := callSS X1038 hx (y := own_y114) hown (mvT hZ (ww hw 38 rfl)) (mvT hZ (ww hw 39 rfl)) (mvT hZ (ww hw 40 rfl)) (mvT hZ (ww hw 41 rfl)) (by decide) (own_backS (W := 0) (rmOf1 l Z a0 hw [] vcs wI wA cA vF wP wD kD wE kE mT mU mL mO G b1034 k1034 r_1014 ky_1014 h1038 n0 O1038 V1038 c1040) Sb1038 (ww hw 41 rfl) (ww hw 40 rfl) (by decide) (by decide) hEL all0) (g := (mkF m 77 #[vi iA, vi iB, vi iC, vi iD, vi iE, vi iF, vi 1, vr r_1014, vr r_1015, vr r_1016, vr b1034, uS, uS, uS, uS, uS, uS, uS, uS] [(.ref b1034)])) rfl (by rw [hml]; rfl) (argsL := [(.ref b1034)]) (rest := []) (lenOf pd_60 rfl) rfl (Nat.le_of_eq rfl) (jd J 31 rfl) (fun _ _ => ⟨rfl, e1038, (by decide : 10 + 8 ≤ _), (by decide : 25 + 33 ≤ _)⟩)
    dsimp only [Pt.U, Pt.locs, Pt.cells, Pt.slots] at X1039 l1039 y1039 z1039 st1039 hQ1039 Si1039 Gr1039 A1039
    subst l1039 y1039 z1039
    obtain ⟨r_1039, ts_1039, tm_1039, Lk_1039, mc_1039, rfl, N1039q, K1039, f1039_0, f1039_1, f1039_2, f1039_3, f1039_4, f1039_5, f1039_6⟩ := hQ1039
    have N1039 := Fr.app N1038 N1039q
    obtain ⟨lc1039, X1039, N1039⟩ := own_pack X1039 N1039
    replace X1039 := own_reb X1039
    have Sb1039 := Sb1038.called Si1039 (by rw [← e1038]; exact Gr1039) A1039
    have hZ1039 := Sb1039.hZ
    have hO1039 := Sb1039.hO
    have J1039 := J.up hZ1039 hO1039
    refine Go.by' (fun t k => st1039.trans k) ?_
    have Sf_tm_1039 : Safe Z consts_1 s.vm h1038 tm_1039 := Safe.new f1039_6
    have g_tm_1039 : n0 ≤ tm_1039 := Nat.le_trans (own_le O1038) f1039_6
    have sz_tm_1039 : h0.size ≤ tm_1039 := Nat.le_trans KC1038.1 f1039_6
    have O1039 := O1038.keep K1039 all0
    have KC1039 := KC1038.trans K1039 all0
    show G_ 80 _ [(.ref r_1039)]
    refine gy (fun t k => sA X1039 J1039 32 rfl _ k) ?_
    obtain ⟨T1041, h1041, X1041, e1041, E1041, A1041, D1041, -, st1041⟩ := newO X1039 hx hZ1039 hO1039 (ww hw 116 rfl) (ww hw 117 rfl) (ww hw 118 rfl) rfl (g := (mkF m 82 #[vi iA, vi iB, vi iC, vi iD, vi iE, vi iF, vi 1, vr r_1014, vr r_1015, vr r_1016, vr b1034, vr r_1039, uS, uS, uS, uS, uS, uS, uS] [])) rfl (jd J1039 33 rfl) (by decide) (by decide)
    obtain ⟨b1041, g1041⟩ : ∃ z, z = T1039.heap.size := ⟨_, rfl⟩
    rw [← g1041] at A1041 D1041 st1041
    refine Go.by' st1041 ?_
    have Sf_b1041 : Safe Z consts_1 T1039.vm T1039.heap b1041 := Safe.new (Nat.le_of_eq g1041.symm)
    have g_b1041 : n0 ≤ b1041 := Nat.le_trans (own_le O1039) (Nat.le_of_eq g1041.symm)
    have sz_b1041 : h0.size ≤ b1041 := Nat.le_trans KC1039.1 (Nat.le_of_eq g1041.symm)
    have Sb1041 := Sb1039.ext E1041
    have O1041 := O1039.ext E1041
    have KC1041 := KC1039.ext E1041
    have Fn1041_131 : Fld Z h1041 b1041 S_10 "modCount" "I" (Value.int 0) := D1041 (Or.inl (ww hw 131 rfl)) (ty := .int) (by decide)
    have Fn1041_246 : Fld Z h1041 b1041 S_4 "size" "I" (Value.int 0) := D1041 (Or.inl (ww hw 246 rfl)) (ty := .int) (by decide)
    have Fn1041_249 : Fld Z h1041 b1041 S_4 "elementData" S_9 Value.null := D1041 (Or.inl (ww hw 249 rfl)) (ty := (.array (.object S_2))) (by decide)
    show G_ 85 _ [(.ref b1041)]
    refine gy (fun t k => oP X1041 J1039 34 rfl (aL X1041 J1039 35 rfl rfl k)) ?_
    have c1043 := (SKs.sp (SP.ext E1041) f1039_5)
    refine own_ci (rmLC2 hw G _ _ _ _ _ _ _ _ _ _ O1041 A1041 Fn1041_131 Fn1041_246 Fn1041_249 g_b1041 (f1039_0.ext E1041) (f1039_1.ext E1041) (f1039_2.ext E1041) (f1039_3.ext E1041) (f1039_4.keep0 (own_k0 E1041)) c1043 g_tm_1039) X1041 J1039 36 119 120 118 121 e1041 1 pd_37 (kF N1039 fun _ T1042 v1042 X1042 N1042 q1042 => ?_)
    obtain ⟨ar_1042, kr_1042, zr_1042, vsr_1042, rfl, K1042, f1042_0, f1042_1, f1042_2, f1042_3, r1042_0, r1042_1⟩ := q1042
    have Sb1042 := Sb1041.keep K1042 (sfS (Safe.exa hZ1039.alike A1041 (by decide) (by decide)) (sfS (Safe.exa hZ1039.alike ((TreeP.exa f1039_4).ext E1041) (by decide) (by decide)) sf0))
    have O1042 := O1041.keep K1042 (allS g_b1041 (allS g_tm_1039 all0))
    have KC1042 := KC1041.trans K1042 (allS (Or.inr sz_b1041) (allS (Or.inr sz_tm_1039) all0))
    show G_ 91 _ [(.ref b1041)]
    refine gy (fun t k => sA X1042 J1039 37 rfl _ k) ?_
    refine gy (fun t k => aL X1042 J1039 38 rfl rfl (sA X1042 J1039 39 rfl _ k)) ?_
    refine gy (fun t k => aL X1042 J1039 40 rfl rfl (sA X1042 J1039 41 rfl _ k)) ?_
    refine gy (fun t k => aL X1042 J1039 42 rfl rfl (sA X1042 J1039 43 rfl _ (iL X1042 J1039 44 rfl rfl (cI X1042 J1039 45 rfl 2 k)))) ?_
    refine gy (fun t k => cY X1042 J1039 46 rfl (tlt (by decide)).1 133 (iL X1042 J1039 47 rfl rfl (cI X1042 J1039 48 rfl 3 (cY X1042 J1039 49 rfl (tlt (by decide)).1 161 (iL X1042 J1039 50 rfl rfl (cI X1042 J1039 51 rfl 2 (cY X1042 J1039 52 rfl (tlt (by decide)).1 189 k))))))) ?_
    obtain ⟨T1044, h1044, X1044, e1044, E1044, A1044, D1044, -, st1044⟩ := newO X1042 hx hZ1039 hO1039 (ww hw 116 rfl) (ww hw 117 rfl) (ww hw 118 rfl) rfl (g := (mkF m 189 #[vi iA, vi iB, vi iC, vi iD, vi iE, vi iF, vi 1, vr r_1014, vr r_1015, vr r_1016, vr b1034, vr r_1039, vr b1041, vr r_1014, vr r_1015, vr r_1016, uS, uS, uS] [])) rfl (jd J1039 53 rfl) (by decide) (by decide)
    obtain ⟨b1044, g1044⟩ : ∃ z, z = T1042.heap.size := ⟨_, rfl⟩
    rw [← g1044] at A1044 D1044 st1044
    refine Go.by' st1044 ?_
    have Sf_b1044 : Safe Z consts_1 T1039.vm T1042.heap b1044 := Safe.new (Nat.le_of_eq g1044.symm)
    have g_b1044 : n0 ≤ b1044 := Nat.le_trans (own_le O1042) (Nat.le_of_eq g1044.symm)
    have sz_b1044 : h0.size ≤ b1044 := Nat.le_trans KC1042.1 (Nat.le_of_eq g1044.symm)
    have Sb1044 := Sb1042.ext E1044
    have O1044 := O1042.ext E1044
    have KC1044 := KC1042.ext E1044
    have Fn1044_131 : Fld Z h1044 b1044 S_10 "modCount" "I" (Value.int 0) := D1044 (Or.inl (ww hw 131 rfl)) (ty := .int) (by decide)
    have Fn1044_246 : Fld Z h1044 b1044 S_4 "size" "I" (Value.int 0) := D1044 (Or.inl (ww hw 246 rfl)) (ty := .int) (by decide)
    have Fn1044_249 : Fld Z h1044 b1044 S_4 "elementData" S_9 Value.null := D1044 (Or.inl (ww hw 249 rfl)) (ty := (.array (.object S_2))) (by decide)
    show G_ 192 _ [(.ref b1044)]
    refine gy (fun t k => oP X1044 J1039 54 rfl k) ?_
    refine own_ci (rmAL hw G _ _ _ O1044 A1044 Fn1044_131 Fn1044_249 Fn1044_246 g_b1044) X1044 J1039 55 250 251 118 252 e1044 1 pd_35 (kF N1042 fun _ T1045 v1045 X1045 N1045 q1045 => ?_)
    obtain ⟨rfl, K1045, f1045_0, f1045_1, f1045_2, f1045_3⟩ := q1045
    have Sb1045 := Sb1044.keep K1045 (sfS (Safe.exa hZ1039.alike A1044 (by decide) (by decide)) sf0)
    have O1045 := O1044.keep K1045 (allS g_b1044 all0)
    have KC1045 := KC1044.trans K1045 (allS (Or.inr sz_b1044) all0)
    show G_ 196 _ [(.ref b1044)]
    refine gy (fun t k => sA X1045 J1039 56 rfl _ (iL X1045 J1039 57 rfl rfl (cI X1045 J1039 58 rfl 1 k))) ?_
    refine gy (fun t k => cN X1045 J1039 59 rfl (flt (by decide)).1 (aL X1045 J1039 91 rfl rfl (aL X1045 J1039 92 rfl rfl k))) ?_
    have P1047 := (SP.trans (SP.keep0 K1039) (SP.trans (SP.ext E1041) (SP.trans (SP.keep K1042 (allS (nsx hw 117 A1041) (allS (nsx hw 49 ((TreeP.exa f1039_4).ext E1041)) all0))) (SP.trans (SP.ext E1044) (SP.keep K1045 (allS (nsx hw 117 A1044) all0))))))
    have c1048 := (P1047 c1040)
    refine own_cv (rmA1_0 hw G _ _ _ _ _ O1045 f1045_0 f1045_3 f1045_2 f1045_1 g_b1044 c1048.exa) X1045 J1039 93 536 537 539 538 118 540 rfl f1045_0 0 pd_13 (kF N1045 fun _ T1046 v1046 X1046 N1046 q1046 => ?_)
    obtain ⟨r_1046, kk_1046, rfl, K1046, f1046_0, f1046_1, f1046_2, f1046_3, f1046_4, f1046_5, r1046_0⟩ := q1046
    have Sf_r_1046 : Safe Z consts_1 T1039.vm T1045.heap r_1046 := Safe.new f1046_1
    have g_r_1046 : n0 ≤ r_1046 := Nat.le_trans (own_le O1045) f1046_1
    have sz_r_1046 : h0.size ≤ r_1046 := Nat.le_trans KC1045.1 f1046_1
    have Sb1046 := Sb1045.keep K1046 (sfS (Safe.exa hZ1039.alike (A1044.keep K1045) (by decide) (by decide)) sf0)
    have O1046 := O1045.keep K1046 (allS g_b1044 all0)
    have KC1046 := KC1045.trans K1046 (allS (Or.inr sz_b1044) all0)
    show G_ 211 _ [(.int 1)]
    refine gy (fun t k => oQ X1046 J1039 94 rfl (iL X1046 J1039 60 rfl rfl (cI X1046 J1039 61 rfl 2 (cY X1046 J1039 62 rfl (tlt (by decide)).1 236 (iL X1046 J1039 63 rfl rfl (cI X1046 J1039 64 rfl 3 (cY X1046 J1039 65 rfl (tlt (by decide)).1 260 k))))))) ?_
    have P1050 := (SP.trans (SP.keep K1042 (allS (nsx hw 117 A1041) (allS (nsx hw 49 ((TreeP.exa f1039_4).ext E1041)) all0))) (SP.trans (SP.ext E1044) (SP.trans (SP.keep K1045 (allS (nsx hw 117 A1044) all0)) (SP.keep K1046 (allS (nsx hw 117 (A1044.keep K1045)) all0)))))
    have c1051 := (SKs.sp P1050 c1043)
    have Sq1049 := c1051
    obtain ⟨w1049_0, rfl, G1049_0⟩ := sl1 Sq1049
    obtain rfl : zr_1042 = (1 : Int32) := r1042_0
    obtain rfl : vsr_1042 = [.ref w1049_0] := r1042_1
    refine gy (fun t k => aL X1046 J1039 66 rfl rfl k) ?_
    have c1053 := (((f1042_1.ext E1044).keep K1045 (ninS (Nat.ne_of_lt (Nat.lt_of_lt_of_le (Nat.lt_of_lt_of_le A1041.lt K1042.1) (Nat.le_of_eq g1044.symm))) nin0)).keep K1046 (ninS (Nat.ne_of_lt (Nat.lt_of_lt_of_le (Nat.lt_of_lt_of_le A1041.lt K1042.1) (Nat.le_of_eq g1044.symm))) nin0))
    have c1054 := (((f1042_0.ext E1044).keep K1045).keep K1046)
    refine own_cv (rmSize hw G _ _ _ _ O1046 c1053) X1046 J1039 67 254 255 257 256 118 258 rfl c1054 0 pd_11 (kP fun T1052 v1052 X1052 e1052 q1052 => ?_)
    obtain rfl := q1052
    show G_ 265 _ [(.int 1)]
    refine gy (fun t k => aL X1052 J1039 68 rfl rfl k) ?_
    refine own_cv (rmSize hw G _ _ _ _ O1046 f1046_4) X1052 J1039 69 254 255 257 256 118 258 e1052 f1046_2 1 pd_11 (kP fun T1055 v1055 X1055 e1055 q1055 => ?_)
    obtain rfl := q1055
    show G_ 270 _ [(.int 1), (.int 1)]
    refine gy (fun t k => cY X1055 J1039 70 rfl (teq (by decide)).1 275 (cI X1055 J1039 71 rfl 1 (sI X1055 J1039 72 rfl _ k))) ?_
    refine gy (fun t k => aL X1055 J1039 73 rfl rfl k) ?_
    refine own_cv (rmSize hw G _ _ _ _ O1046 f1046_4) X1055 J1039 74 254 255 257 256 118 258 e1055 f1046_2 0 pd_11 (kP fun T1056 v1056 X1056 e1056 q1056 => ?_)
    obtain rfl := q1056
    show G_ 283 _ [(.int 1)]
    refine gy (fun t k => cI X1056 J1039 75 rfl 1 (cN X1056 J1039 76 rfl (flt (by decide)).1 (iL X1056 J1039 95 rfl rfl (fN X1056 J1039 96 rfl ((if0 _ _).trans (feq (by decide)).1) (aL X1056 J1039 97 rfl rfl (cI X1056 J1039 98 rfl 0 k)))))) ?_
    have c1058 := (((f1042_3.ext E1044).keep K1045 (ninS (Nat.ne_of_lt (Nat.lt_of_lt_of_le f1042_3.lt (Nat.le_of_eq g1044.symm))) nin0)).keep K1046 (ninS (Nat.ne_of_lt (Nat.lt_of_lt_of_le f1042_3.lt (Nat.le_of_eq g1044.symm))) nin0))
    have c1059 := (((f1042_2.ext E1044).keep K1045 (ninS (Nat.ne_of_lt (Nat.lt_of_lt_of_le (Nat.lt_of_lt_of_le A1041.lt K1042.1) (Nat.le_of_eq g1044.symm))) nin0)).keep K1046 (ninS (Nat.ne_of_lt (Nat.lt_of_lt_of_le (Nat.lt_of_lt_of_le A1041.lt K1042.1) (Nat.le_of_eq g1044.symm))) nin0))
    refine own_cv (rmGet hw G _ ((0 : Int32)) _ _ _ _ _ w1049_0 _ _ O1046 c1054 c1053 (by decide) c1059 c1058 (by decide) (by decide) rfl) X1056 J1039 99 566 567 569 568 118 570 e1056 c1054 0 pd_48 (kP fun T1057 v1057 X1057 e1057 q1057 => ?_)
    obtain rfl := q1057
    show G_ 298 _ [(.ref w1049_0)]
    refine own_cc X1057 J1039 100 36 e1057 (Ins.self G1049_0.exa) (fun T1060 X1060 e1060 => ?_)
    refine gy (fun t k => aL X1060 J1039 101 rfl rfl (cI X1060 J1039 102 rfl 0 k)) ?_
    refine own_cv (rmGet hw G _ ((0 : Int32)) _ _ _ _ _ r_1014 _ _ O1046 f1046_2 f1046_4 (by decide) f1046_3 f1046_0 (by decide) (by decide) rfl) X1060 J1039 103 566 567 569 568 118 570 e1060 f1046_2 1 pd_48 (kP fun T1061 v1061 X1061 e1061 q1061 => ?_)
    obtain rfl := q1061
    have c1063 := ((SP.keep K1046 (allS (nsx hw 117 (A1044.keep K1045)) all0)) c1048)
    show G_ 307 _ [(.ref r_1014), (.ref w1049_0)]
    refine own_cv (rmSE hw G _ _ _ _ _ _ O1046 G1049_0 c1063) X1061 J1039 104 562 303 305 304 12 306 e1061 G1049_0.exa 0 pd_13 (kP fun T1062 v1062 X1062 e1062 q1062 => ?_)
    obtain ⟨r_1062, rfl, r1062_0⟩ := q1062
    obtain rfl : r_1062 = (1 : Int32) := r1062_0.elim (fun q => q.2) (fun q => absurd rfl q.1)
    show G_ 310 _ [(.int 1)]
    refine gy (fun t k => fN X1062 J1039 105 rfl ((if0 _ _).trans (feq (by decide)).1) (cI X1062 J1039 106 rfl 1 (jG X1062 J1039 107 rfl 318 (sI X1062 J1039 108 rfl _ k)))) ?_
    refine gy (fun t k => aL X1062 J1039 77 rfl rfl k) ?_
    refine own_cv (rmSize hw G _ _ _ _ O1046 f1046_4) X1062 J1039 78 254 255 257 256 118 258 e1062 f1046_2 0 pd_11 (kP fun T1064 v1064 X1064 e1064 q1064 => ?_)
    obtain rfl := q1064
    show G_ 325 _ [(.int 1)]
    refine gy (fun t k => cI X1064 J1039 79 rfl 2 (cY X1064 J1039 80 rfl (tlt (by decide)).1 362 (aL X1064 J1039 81 rfl rfl k))) ?_
    refine own_cv (rmSize hw G _ _ _ _ O1046 f1046_4) X1064 J1039 82 254 255 257 256 118 258 e1064 f1046_2 0 pd_11 (kP fun T1065 v1065 X1065 e1065 q1065 => ?_)
    obtain rfl := q1065
    show G_ 367 _ [(.int 1)]
    refine gy (fun t k => cI X1065 J1039 83 rfl 3 (cY X1065 J1039 84 rfl (tlt (by decide)).1 404 (iL X1065 J1039 85 rfl rfl k))) ?_
    rw [hPf]
    exact Go.retIS X1065 hx hEL Sb1046 e1065 hh hret hlk (by simp) rfl (jd J1039 86 rfl) (by decide) (by decide) ⟨rfl, N1046, (by rw [e1065]; exact KC1046)⟩
  · refine Go.castF (a := (((iF.toUInt32 >>> ((16 : Int32) &&& 31).toUInt32).toInt32) &&& (3 : Int32))) (b := (2 : Int32)) (fun z' : Int32 => mkF m 32 #[vi iA, vi iB, vi iC, vi iD, vi iE, vi iF, vi z', vr r_1014, vr r_1015, vr r_1016, uS, uS, uS, uS, uS, uS, uS, uS, uS] []) (hk) ?_
    show G_ 32 _ []
    refine gy (fun t k => iL X1016 J 18 rfl rfl k) ?_
    obtain ⟨T1066, h1066, k1066, X1066, e1066, E1066, A1066, Ov1066, st1066⟩ := newR X1016 hx hZ hown (ww hw 36 rfl) (ww hw 37 rfl) rfl (g := (mkF m 34 #[vi iA, vi iB, vi iC, vi iD, vi iE, vi iF, vi 2, vr r_1014, vr r_1015, vr r_1016, uS, uS, uS, uS, uS, uS, uS, uS, uS] [(.int 2)])) rfl (jd J 19 rfl) rfl (by decide) (cap := 2) (by decide) (by decide) (by decide) (by decide)
    obtain ⟨b1066, g1066⟩ : ∃ z, z = T1016.heap.size := ⟨_, rfl⟩
    rw [← g1066] at A1066 st1066
    refine Go.by' st1066 ?_
    have Sf_b1066 : Safe Z consts_1 s.vm T1016.heap b1066 := Safe.new (Nat.le_of_eq g1066.symm)
    have g_b1066 : n0 ≤ b1066 := Nat.le_trans (own_le O1016) (Nat.le_of_eq g1066.symm)
    have sz_b1066 : h0.size ≤ b1066 := Nat.le_trans KC1016.1 (Nat.le_of_eq g1066.symm)
    have Sb1066 := Sb1016.ext E1066
    have O1066 := O1016.ext E1066
    have KC1066 := KC1016.ext E1066
    have V1066 : Arv Z h1066 b1066 k1066 (.object S_3) (2 : Int32) [.null, .null] Value.null := (Arv.new A1066 (by decide)).pad (pad_rep [] Value.null 2)
    show G_ 37 _ [(.ref b1066)]
    refine gy (fun t k => sA X1066 J 20 rfl _ (iL X1066 J 21 rfl rfl (cI X1066 J 22 rfl 1 k))) ?_
    refine gy (fun t k => cN X1066 J 23 rfl (flt (by decide)).1 (aL X1066 J 87 rfl rfl (cI X1066 J 88 rfl 0 (aL X1066 J 89 rfl rfl k)))) ?_
    obtain ⟨cl1067, Ar1067, q1067, S1067, P1067, H1067, G1067⟩ := (id V1066)
    have hin1067 : ¬ ((0 : Int32) < 0 ∨ cl1067.slots.size ≤ ((0 : Int32)).toNatClampNeg) := inb_of S1067 ⟨by decide, by decide⟩
    have P1068 : SP Z _ _ := (SP.trans (SP.keep0 K1015) (SP.trans (SP.keep0 K1016) (SP.ext E1066)))
    have c1069 := (P1068 f1014_0)
    obtain ⟨T1070, h1070, X1070, e1070, W1070, st1070⟩ := stR X1066 hx hZ e1066 Ar1067 (j := (0 : Int32)) hin1067 rfl (Sto.ofV Ar1067 q1067 Ov1066 (Ins.self c1069.exa)) (g := (mkF m 50 #[vi iA, vi iB, vi iC, vi iD, vi iE, vi iF, vi 2, vr r_1014, vr r_1015, vr r_1016, vr b1066, uS, uS, uS, uS, uS, uS, uS, uS] [(.ref r_1014), (.int 0), (.ref b1066)])) rfl rfl (jd J 90 rfl)
    refine Go.by' st1070 ?_
    have V1070 : Arv Z h1070 b1066 k1066 (.object S_3) (2 : Int32) [(.ref r_1014), .null] Value.null := Arv.set Ar1067 q1067 S1067 P1067 H1067 G1067 rfl W1070 0 rfl (Nat.le_of_ble_eq_true rfl)
    have N1070 := Fr.snoc X1070 N1016 g_b1066
    obtain ⟨lc1070, X1070, N1070⟩ := own_pack X1070 N1070
    have Sb1070 := Sb1066.wr W1070 (Safe.ext E1066 Sb1016.ch Sf_b1066)
    have O1070 := O1066.wr W1070 g_b1066
    have KC1070 := KC1066.wr W1070 (Or.inr sz_b1066)
    show G_ 51 _ []
    refine gy (fun t k => iL X1070 J 24 rfl rfl (cI X1070 J 25 rfl 2 (cN X1070 J 26 rfl (flt (by decide)).1 (aL X1070 J 109 rfl rfl (cI X1070 J 110 rfl 1 (aL X1070 J 111 rfl rfl k)))))) ?_
    obtain ⟨cl1071, Ar1071, q1071, S1071, P1071, H1071, G1071⟩ := (id V1070)
    have hin1071 : ¬ ((1 : Int32) < 0 ∨ cl1071.slots.size ≤ ((1 : Int32)).toNatClampNeg) := inb_of S1071 ⟨by decide, by decide⟩
    have P1072 := (SP.trans (SP.keep0 K1016) (SP.trans (SP.ext E1066) (SP.wr W1070 (nsa hw V1066))))
    have c1073 := (P1072 f1015_0)
    obtain ⟨T1074, h1074, X1074, e1074, W1074, st1074⟩ := stR X1070 hx hZ e1070 Ar1071 (j := (1 : Int32)) hin1071 rfl (Sto.ofV Ar1071 q1071 Ov1066 (Ins.self c1073.exa)) (g := (mkF m 62 #[vi iA, vi iB, vi iC, vi iD, vi iE, vi iF, vi 2, vr r_1014, vr r_1015, vr r_1016, vr b1066, uS, uS, uS, uS, uS, uS, uS, uS] [(.ref r_1015), (.int 1), (.ref b1066)])) rfl rfl (jd J 112 rfl)
    refine Go.by' st1074 ?_
    have V1074 : Arv Z h1074 b1066 k1066 (.object S_3) (2 : Int32) [(.ref r_1014), (.ref r_1015)] Value.null := Arv.set Ar1071 q1071 S1071 P1071 H1071 G1071 rfl W1074 1 rfl (Nat.le_of_ble_eq_true rfl)
    have N1074 := Fr.snoc X1074 N1070 g_b1066
    obtain ⟨lc1074, X1074, N1074⟩ := own_pack X1074 N1074
    have Sb1074 := Sb1070.wr W1074 (Safe.wr W1070 (Safe.ext E1066 Sb1016.ch Sf_b1066) Sb1066.ch (Safe.ext E1066 Sb1016.ch Sf_b1066))
    have O1074 := O1070.wr W1074 g_b1066
    have KC1074 := KC1070.wr W1074 (Or.inr sz_b1066)
    show G_ 63 _ []
    refine gy (fun t k => iL X1074 J 27 rfl rfl (cI X1074 J 28 rfl 3 (cY X1074 J 29 rfl (tlt (by decide)).1 75 (aL X1074 J 30 rfl rfl k)))) ?_
    have P1076 := (SP.trans (SP.wr W1070 (nsa hw V1066)) (SP.wr W1074 (nsa hw V1070)))
    have c1077 := (P1076 c1069)
    have c1078 := ((SP.wr W1074 (nsa hw V1070)) c1073)
    obtain ⟨_, _, ⟨T1075, L1075, k1075, n1075⟩, -, X1075, Si1075, Gr1075, ⟨Lc1075, hQ1075, l1075, y1075, z1075, A1075⟩, st1075⟩ := callSS X1074 hx (y := own_y114) hown (mvT hZ (ww hw 38 rfl)) (mvT hZ (ww hw 39 rfl)) (mvT hZ (ww hw 40 rfl)) (mvT hZ (ww hw 41 rfl)) (by decide) (own_backS (W := 0) (rmOf2 l Z a0 hw [] vcs wI wA cA vF wP wD kD wE kE mT mU mL mO G b1066 k1066 r_1014 r_1015 ky_1014 ky_1015 h1074 n0 O1074 V1074 c1077 c1078) Sb1074 (ww hw 41 rfl) (ww hw 40 rfl) (by decide) (by decide) hEL all0) (g := (mkF m 77 #[vi iA, vi iB, vi iC, vi iD, vi iE, vi iF, vi 2, vr r_1014, vr r_1015, vr r_1016, vr b1066, uS, uS, uS, uS, uS, uS, uS, uS] [(.ref b1066)])) rfl (by rw [hml]; rfl) (argsL := [(.ref b1066)]) (rest := []) (lenOf pd_60 rfl) rfl (Nat.le_of_eq rfl) (jd J 31 rfl) (fun _ _ => ⟨rfl, e1074, (by decide : 10 + 13 ≤ _), (by decide : 26 + 55 ≤ _)⟩)
    dsimp only [Pt.U, Pt.locs, Pt.cells, Pt.slots] at X1075 l1075 y1075 z1075 st1075 hQ1075 Si1075 Gr1075 A1075
    subst l1075 y1075 z1075
    obtain ⟨r_1075, ts_1075, tm_1075, Lk_1075, mc_1075, rfl, N1075q, K1075, f1075_0, f1075_1, f1075_2, f1075_3, f1075_4, f1075_5, f1075_6⟩ := hQ1075
    have N1075 := Fr.app N1074 N1075q
    obtain ⟨lc1075, X1075, N1075⟩ := own_pack X1075 N1075
    replace X1075 := own_reb X1075
    have Sb1075 := Sb1074.called Si1075 (by rw [← e1074]; exact Gr1075) A1075
    have hZ1075 := Sb1075.hZ
    have hO1075 := Sb1075.hO
    have J1075 := J.up hZ1075 hO1075
    refine Go.by' (fun t k => st1075.trans k) ?_
    have Sf_tm_1075 : Safe Z consts_1 s.vm h1074 tm_1075 := Safe.new f1075_6
    have g_tm_1075 : n0 ≤ tm_1075 := Nat.le_trans (own_le O1074) f1075_6
    have sz_tm_1075 : h0.size ≤ tm_1075 := Nat.le_trans KC1074.1 f1075_6
    have O1075 := O1074.keep K1075 all0
    have KC1075 := KC1074.trans K1075 all0
    show G_ 80 _ [(.ref r_1075)]
    refine gy (fun t k => sA X1075 J1075 32 rfl _ k) ?_
    obtain ⟨T1079, h1079, X1079, e1079, E1079, A1079, D1079, -, st1079⟩ := newO X1075 hx hZ1075 hO1075 (ww hw 116 rfl) (ww hw 117 rfl) (ww hw 118 rfl) rfl (g := (mkF m 82 #[vi iA, vi iB, vi iC, vi iD, vi iE, vi iF, vi 2, vr r_1014, vr r_1015, vr r_1016, vr b1066, vr r_1075, uS, uS, uS, uS, uS, uS, uS] [])) rfl (jd J1075 33 rfl) (by decide) (by decide)
    obtain ⟨b1079, g1079⟩ : ∃ z, z = T1075.heap.size := ⟨_, rfl⟩
    rw [← g1079] at A1079 D1079 st1079
    refine Go.by' st1079 ?_
    have Sf_b1079 : Safe Z consts_1 T1075.vm T1075.heap b1079 := Safe.new (Nat.le_of_eq g1079.symm)
    have g_b1079 : n0 ≤ b1079 := Nat.le_trans (own_le O1075) (Nat.le_of_eq g1079.symm)
    have sz_b1079 : h0.size ≤ b1079 := Nat.le_trans KC1075.1 (Nat.le_of_eq g1079.symm)
    have Sb1079 := Sb1075.ext E1079
    have O1079 := O1075.ext E1079
    have KC1079 := KC1075.ext E1079
    have Fn1079_131 : Fld Z h1079 b1079 S_10 "modCount" "I" (Value.int 0) := D1079 (Or.inl (ww hw 131 rfl)) (ty := .int) (by decide)
    have Fn1079_246 : Fld Z h1079 b1079 S_4 "size" "I" (Value.int 0) := D1079 (Or.inl (ww hw 246 rfl)) (ty := .int) (by decide)
    have Fn1079_249 : Fld Z h1079 b1079 S_4 "elementData" S_9 Value.null := D1079 (Or.inl (ww hw 249 rfl)) (ty := (.array (.object S_2))) (by decide)
    show G_ 85 _ [(.ref b1079)]
    refine gy (fun t k => oP X1079 J1075 34 rfl (aL X1079 J1075 35 rfl rfl k)) ?_
    have c1081 := (SKs.sp (SP.ext E1079) f1075_5)
    refine own_ci (rmLC2 hw G _ _ _ _ _ _ _ _ _ _ O1079 A1079 Fn1079_131 Fn1079_246 Fn1079_249 g_b1079 (f1075_0.ext E1079) (f1075_1.ext E1079) (f1075_2.ext E1079) (f1075_3.ext E1079) (f1075_4.keep0 (own_k0 E1079)) c1081 g_tm_1075) X1079 J1075 36 119 120 118 121 e1079 1 pd_37 (kF N1075 fun _ T1080 v1080 X1080 N1080 q1080 => ?_)
    obtain ⟨ar_1080, kr_1080, zr_1080, vsr_1080, rfl, K1080, f1080_0, f1080_1, f1080_2, f1080_3, r1080_0, r1080_1⟩ := q1080
    have Sb1080 := Sb1079.keep K1080 (sfS (Safe.exa hZ1075.alike A1079 (by decide) (by decide)) (sfS (Safe.exa hZ1075.alike ((TreeP.exa f1075_4).ext E1079) (by decide) (by decide)) sf0))
    have O1080 := O1079.keep K1080 (allS g_b1079 (allS g_tm_1075 all0))
    have KC1080 := KC1079.trans K1080 (allS (Or.inr sz_b1079) (allS (Or.inr sz_tm_1075) all0))
    show G_ 91 _ [(.ref b1079)]
    refine gy (fun t k => sA X1080 J1075 37 rfl _ k) ?_
    refine gy (fun t k => aL X1080 J1075 38 rfl rfl (sA X1080 J1075 39 rfl _ k)) ?_
    refine gy (fun t k => aL X1080 J1075 40 rfl rfl (sA X1080 J1075 41 rfl _ k)) ?_
    refine gy (fun t k => aL X1080 J1075 42 rfl rfl (sA X1080 J1075 43 rfl _ k)) ?_
    have P1082 := (SP.trans (SP.keep0 K1075) (SP.trans (SP.ext E1079) (SP.keep K1080 (allS (nsx hw 117 A1079) (allS (nsx hw 49 ((TreeP.exa f1075_4).ext E1079)) all0)))))
    have c1083 := (P1082 c1077)
    have c1084 := (P1082 c1078)
    have jn1085 : ∀ (T' : State) (v16 : Slot) (a1085_0 : Addr) (a1085_1 : Addr) (k1085_0 : Int) (k1085_1 : Int), Like X1080 T' → T'.heap = T1080.heap → SK Z T1080.heap a1085_0 k1085_0 → SK Z T1080.heap a1085_1 k1085_1 → k1085_0 ≤ k1085_1 → (ins k1085_1 (ins k1085_0 [])) = (ins ky_1015 (ins ky_1014 [])) → Go p.tables e below Pf (T'.setTop (mkF m 189 #[vi iA, vi iB, vi iC, vi iD, vi iE, vi iF, vi 2, vr r_1014, vr r_1015, vr r_1016, vr b1066, vr r_1075, vr b1079, vr a1085_0, vr a1085_1, vr r_1016, v16, uS, uS] [])) := by
      intro T1085 v16 a1085_0 a1085_1 k1085_0 k1085_1 X1085 e1085 Sa1085_0 Sa1085_1 hle0 hrel
      unfold Like at X1085
      obtain ⟨T1086, h1086, X1086, e1086, E1086, A1086, D1086, -, st1086⟩ := newO X1085 hx hZ1075 hO1075 (ww hw 116 rfl) (ww hw 117 rfl) (ww hw 118 rfl) e1085 (g := (mkF m 189 #[vi iA, vi iB, vi iC, vi iD, vi iE, vi iF, vi 2, vr r_1014, vr r_1015, vr r_1016, vr b1066, vr r_1075, vr b1079, vr a1085_0, vr a1085_1, vr r_1016, v16, uS, uS] [])) rfl (jd J1075 53 rfl) (by decide) (by decide)
      obtain ⟨b1086, g1086⟩ : ∃ z, z = T1080.heap.size := ⟨_, rfl⟩
      rw [← g1086] at A1086 D1086 st1086
      refine Go.by' st1086 ?_
      have Sf_b1086 : Safe Z consts_1 T1075.vm T1080.heap b1086 := Safe.new (Nat.le_of_eq g1086.symm)
      have g_b1086 : n0 ≤ b1086 := Nat.le_trans (own_le O1080) (Nat.le_of_eq g1086.symm)
      have sz_b1086 : h0.size ≤ b1086 := Nat.le_trans KC1080.1 (Nat.le_of_eq g1086.symm)
      have Sb1086 := Sb1080.ext E1086
      have O1086 := O1080.ext E1086
      have KC1086 := KC1080.ext E1086
      have Fn1086_131 : Fld Z h1086 b1086 S_10 "modCount" "I" (Value.int 0) := D1086 (Or.inl (ww hw 131 rfl)) (ty := .int) (by decide)
      have Fn1086_246 : Fld Z h1086 b1086 S_4 "size" "I" (Value.int 0) := D1086 (Or.inl (ww hw 246 rfl)) (ty := .int) (by decide)
      have Fn1086_249 : Fld Z h1086 b1086 S_4 "elementData" S_9 Value.null := D1086 (Or.inl (ww hw 249 rfl)) (ty := (.array (.object S_2))) (by decide)
      show G_ 192 _ [(.ref b1086)]
      refine gy (fun t k => oP X1086 J1075 54 rfl k) ?_
      refine own_ci (rmAL hw G _ _ _ O1086 A1086 Fn1086_131 Fn1086_249 Fn1086_246 g_b1086) X1086 J1075 55 250 251 118 252 e1086 1 pd_35 (kF N1080 fun _ T1087 v1087 X1087 N1087 q1087 => ?_)
      obtain ⟨rfl, K1087, f1087_0, f1087_1, f1087_2, f1087_3⟩ := q1087
      have Sb1087 := Sb1086.keep K1087 (sfS (Safe.exa hZ1075.alike A1086 (by decide) (by decide)) sf0)
      have O1087 := O1086.keep K1087 (allS g_b1086 all0)
      have KC1087 := KC1086.trans K1087 (allS (Or.inr sz_b1086) all0)
      show G_ 196 _ [(.ref b1086)]
      refine gy (fun t k => sA X1087 J1075 56 rfl _ (iL X1087 J1075 57 rfl rfl (cI X1087 J1075 58 rfl 1 k))) ?_
      refine gy (fun t k => cN X1087 J1075 59 rfl (flt (by decide)).1 (aL X1087 J1075 91 rfl rfl (aL X1087 J1075 92 rfl rfl k))) ?_
      have P1089 := (SP.trans (SP.ext E1086) (SP.keep K1087 (allS (nsx hw 117 A1086) all0)))
      have c1090 := (P1089 Sa1085_0)
      refine own_cv (rmA1_0 hw G _ _ _ _ _ O1087 f1087_0 f1087_3 f1087_2 f1087_1 g_b1086 c1090.exa) X1087 J1075 93 536 537 539 538 118 540 rfl f1087_0 0 pd_13 (kF N1087 fun _ T1088 v1088 X1088 N1088 q1088 => ?_)
      obtain ⟨r_1088, kk_1088, rfl, K1088, f1088_0, f1088_1, f1088_2, f1088_3, f1088_4, f1088_5, r1088_0⟩ := q1088
      have Sf_r_1088 : Safe Z consts_1 T1075.vm T1087.heap r_1088 := Safe.new f1088_1
      have g_r_1088 : n0 ≤ r_1088 := Nat.le_trans (own_le O1087) f1088_1
      have sz_r_1088 : h0.size ≤ r_1088 := Nat.le_trans KC1087.1 f1088_1
      have Sb1088 := Sb1087.keep K1088 (sfS (Safe.exa hZ1075.alike (A1086.keep K1087) (by decide) (by decide)) sf0)
      have O1088 := O1087.keep K1088 (allS g_b1086 all0)
      have KC1088 := KC1087.trans K1088 (allS (Or.inr sz_b1086) all0)
      show G_ 211 _ [(.int 1)]
      refine gy (fun t k => oQ X1088 J1075 94 rfl (iL X1088 J1075 60 rfl rfl (cI X1088 J1075 61 rfl 2 (cN X1088 J1075 62 rfl (flt (by decide)).1 (aL X1088 J1075 113 rfl rfl (aL X1088 J1075 114 rfl rfl k)))))) ?_
      have P1092 := (SP.trans (SP.ext E1086) (SP.trans (SP.keep K1087 (allS (nsx hw 117 A1086) all0)) (SP.keep K1088 (allS (nsx hw 117 (A1086.keep K1087)) all0))))
      have c1093 := (P1092 Sa1085_1)
      have c1094 := ((SP.keep K1088 (allS (nsx hw 117 (A1086.keep K1087)) all0)) c1090)
      refine own_cv (rmSE hw G _ _ _ _ _ _ O1088 c1093 c1094) X1088 J1075 115 562 303 305 304 12 306 rfl c1093.exa 0 pd_13 (kP fun T1091 v1091 X1091 e1091 q1091 => ?_)
      obtain ⟨r_1091, rfl, r1091_0⟩ := q1091
      rcases r1091_0 with ⟨hE1091, hz1091⟩ | ⟨hE1091, hz1091⟩
      · subst hz1091
        show G_ 225 _ [(.int 1)]
        refine gy (fun t k => fY X1091 J1075 116 rfl ((if0 _ _).trans (feq (by decide)).2) 236 (iL X1091 J1075 63 rfl rfl (cI X1091 J1075 64 rfl 3 (cY X1091 J1075 65 rfl (tlt (by decide)).1 260 k)))) ?_
        have P1096 := (SP.trans (SP.keep K1080 (allS (nsx hw 117 A1079) (allS (nsx hw 49 ((TreeP.exa f1075_4).ext E1079)) all0))) (SP.trans (SP.ext E1086) (SP.trans (SP.keep K1087 (allS (nsx hw 117 A1086) all0)) (SP.keep K1088 (allS (nsx hw 117 (A1086.keep K1087)) all0)))))
        have c1097 := (SKs.sp P1096 c1081)
        have Sq1095 := c1097
        rw [← hrel, own_s2e hE1091] at Sq1095
        obtain ⟨w1095_0, rfl, G1095_0⟩ := sl1 Sq1095
        obtain rfl : zr_1080 = (1 : Int32) := r1080_0
        obtain rfl : vsr_1080 = [.ref w1095_0] := r1080_1
        show G_ 260 _ []
        refine gy (fun t k => aL X1091 J1075 66 rfl rfl k) ?_
        have c1099 := (((f1080_1.ext E1086).keep K1087 (ninS (Nat.ne_of_lt (Nat.lt_of_lt_of_le (Nat.lt_of_lt_of_le A1079.lt K1080.1) (Nat.le_of_eq g1086.symm))) nin0)).keep K1088 (ninS (Nat.ne_of_lt (Nat.lt_of_lt_of_le (Nat.lt_of_lt_of_le A1079.lt K1080.1) (Nat.le_of_eq g1086.symm))) nin0))
        have c1100 := (((f1080_0.ext E1086).keep K1087).keep K1088)
        refine own_cv (rmSize hw G _ _ _ _ O1088 c1099) X1091 J1075 67 254 255 257 256 118 258 e1091 c1100 0 pd_11 (kP fun T1098 v1098 X1098 e1098 q1098 => ?_)
        obtain rfl := q1098
        show G_ 265 _ [(.int 1)]
        refine gy (fun t k => aL X1098 J1075 68 rfl rfl k) ?_
        refine own_cv (rmSize hw G _ _ _ _ O1088 f1088_4) X1098 J1075 69 254 255 257 256 118 258 e1098 f1088_2 1 pd_11 (kP fun T1101 v1101 X1101 e1101 q1101 => ?_)
        obtain rfl := q1101
        show G_ 270 _ [(.int 1), (.int 1)]
        refine gy (fun t k => cY X1101 J1075 70 rfl (teq (by decide)).1 275 (cI X1101 J1075 71 rfl 1 (sI X1101 J1075 72 rfl _ k))) ?_
        refine gy (fun t k => aL X1101 J1075 73 rfl rfl k) ?_
        refine own_cv (rmSize hw G _ _ _ _ O1088 f1088_4) X1101 J1075 74 254 255 257 256 118 258 e1101 f1088_2 0 pd_11 (kP fun T1102 v1102 X1102 e1102 q1102 => ?_)
        obtain rfl := q1102
        show G_ 283 _ [(.int 1)]
        refine gy (fun t k => cI X1102 J1075 75 rfl 1 (cN X1102 J1075 76 rfl (flt (by decide)).1 (iL X1102 J1075 95 rfl rfl (fN X1102 J1075 96 rfl ((if0 _ _).trans (feq (by decide)).1) (aL X1102 J1075 97 rfl rfl (cI X1102 J1075 98 rfl 0 k)))))) ?_
        have c1104 := (((f1080_3.ext E1086).keep K1087 (ninS (Nat.ne_of_lt (Nat.lt_of_lt_of_le f1080_3.lt (Nat.le_of_eq g1086.symm))) nin0)).keep K1088 (ninS (Nat.ne_of_lt (Nat.lt_of_lt_of_le f1080_3.lt (Nat.le_of_eq g1086.symm))) nin0))
        have c1105 := (((f1080_2.ext E1086).keep K1087 (ninS (Nat.ne_of_lt (Nat.lt_of_lt_of_le (Nat.lt_of_lt_of_le A1079.lt K1080.1) (Nat.le_of_eq g1086.symm))) nin0)).keep K1088 (ninS (Nat.ne_of_lt (Nat.lt_of_lt_of_le (Nat.lt_of_lt_of_le A1079.lt K1080.1) (Nat.le_of_eq g1086.symm))) nin0))
        refine own_cv (rmGet hw G _ ((0 : Int32)) _ _ _ _ _ w1095_0 _ _ O1088 c1100 c1099 (by decide) c1105 c1104 (by decide) (by decide) rfl) X1102 J1075 99 566 567 569 568 118 570 e1102 c1100 0 pd_48 (kP fun T1103 v1103 X1103 e1103 q1103 => ?_)
        obtain rfl := q1103
        show G_ 298 _ [(.ref w1095_0)]
        refine own_cc X1103 J1075 100 36 e1103 (Ins.self G1095_0.exa) (fun T1106 X1106 e1106 => ?_)
        refine gy (fun t k => aL X1106 J1075 101 rfl rfl (cI X1106 J1075 102 rfl 0 k)) ?_
        refine own_cv (rmGet hw G _ ((0 : Int32)) _ _ _ _ _ a1085_0 _ _ O1088 f1088_2 f1088_4 (by decide) f1088_3 f1088_0 (by decide) (by decide) rfl) X1106 J1075 103 566 567 569 568 118 570 e1106 f1088_2 1 pd_48 (kP fun T1107 v1107 X1107 e1107 q1107 => ?_)
        obtain rfl := q1107
        show G_ 307 _ [(.ref a1085_0), (.ref w1095_0)]
        refine own_cv (rmSE hw G _ _ _ _ _ _ O1088 G1095_0 c1094) X1107 J1075 104 562 303 305 304 12 306 e1107 G1095_0.exa 0 pd_13 (kP fun T1108 v1108 X1108 e1108 q1108 => ?_)
        obtain ⟨r_1108, rfl, r1108_0⟩ := q1108
        obtain rfl : r_1108 = (1 : Int32) := r1108_0.elim (fun q => q.2) (fun q => absurd rfl q.1)
        show G_ 310 _ [(.int 1)]
        refine gy (fun t k => fN X1108 J1075 105 rfl ((if0 _ _).trans (feq (by decide)).1) (cI X1108 J1075 106 rfl 1 (jG X1108 J1075 107 rfl 318 (sI X1108 J1075 108 rfl _ k)))) ?_
        refine gy (fun t k => aL X1108 J1075 77 rfl rfl k) ?_
        refine own_cv (rmSize hw G _ _ _ _ O1088 f1088_4) X1108 J1075 78 254 255 257 256 118 258 e1108 f1088_2 0 pd_11 (kP fun T1109 v1109 X1109 e1109 q1109 => ?_)
        obtain rfl := q1109
        show G_ 325 _ [(.int 1)]
        refine gy (fun t k => cI X1109 J1075 79 rfl 2 (cY X1109 J1075 80 rfl (tlt (by decide)).1 362 (aL X1109 J1075 81 rfl rfl k))) ?_
        refine own_cv (rmSize hw G _ _ _ _ O1088 f1088_4) X1109 J1075 82 254 255 257 256 118 258 e1109 f1088_2 0 pd_11 (kP fun T1110 v1110 X1110 e1110 q1110 => ?_)
        obtain rfl := q1110
        show G_ 367 _ [(.int 1)]
        refine gy (fun t k => cI X1110 J1075 83 rfl 3 (cY X1110 J1075 84 rfl (tlt (by decide)).1 404 (iL X1110 J1075 85 rfl rfl k))) ?_
        rw [hPf]
        exact Go.retIS X1110 hx hEL Sb1088 e1110 hh hret hlk (by simp) rfl (jd J1075 86 rfl) (by decide) (by decide) ⟨rfl, N1088, (by rw [e1110]; exact KC1088)⟩
      · subst hz1091
        show G_ 225 _ [(.int 0)]
        refine gy (fun t k => fN X1091 J1075 116 rfl ((if0 _ _).trans (teq (by decide)).2) (aL X1091 J1075 117 rfl rfl (aL X1091 J1075 118 rfl rfl k))) ?_
        refine own_cv (rmA1_1 hw G _ _ _ _ _ _ _ _ O1088 f1088_2 f1088_4 f1088_3 f1088_5 g_b1086 g_r_1088 f1088_0 c1093.exa (Nat.ne_of_lt (Nat.lt_of_lt_of_le (Nat.lt_of_lt_of_le A1086.lt K1087.1) f1088_1)) r1088_0) X1091 J1075 119 536 537 539 538 118 540 e1091 f1088_2 0 pd_13 (kF N1088 fun _ T1111 v1111 X1111 N1111 q1111 => ?_)
        obtain ⟨rfl, K1111, f1111_0, f1111_1, f1111_2, f1111_3, f1111_4⟩ := q1111
        have Sb1111 := Sb1088.keep K1111 (sfS (Safe.exa hZ1075.alike ((A1086.keep K1087).keep K1088) (by decide) (by decide)) (sfS (Safe.keep K1088 (sfS (Safe.exa hZ1075.alike (A1086.keep K1087) (by decide) (by decide)) sf0) Sb1087.ch Sf_r_1088) sf0))
        have O1111 := O1088.keep K1111 (allS g_b1086 (allS g_r_1088 all0))
        have KC1111 := KC1088.trans K1111 (allS (Or.inr sz_b1086) (allS (Or.inr sz_r_1088) all0))
        show G_ 235 _ [(.int 1)]
        refine gy (fun t k => oQ X1111 J1075 120 rfl (iL X1111 J1075 63 rfl rfl (cI X1111 J1075 64 rfl 3 (cY X1111 J1075 65 rfl (tlt (by decide)).1 260 k)))) ?_
        have P1113 := (SP.trans (SP.keep K1080 (allS (nsx hw 117 A1079) (allS (nsx hw 49 ((TreeP.exa f1075_4).ext E1079)) all0))) (SP.trans (SP.ext E1086) (SP.trans (SP.keep K1087 (allS (nsx hw 117 A1086) all0)) (SP.trans (SP.keep K1088 (allS (nsx hw 117 (A1086.keep K1087)) all0)) (SP.keep K1111 (allS (nsx hw 117 ((A1086.keep K1087).keep K1088)) (allS (nsa hw f1088_0) all0)))))))
        have c1114 := (SKs.sp P1113 c1081)
        have Sq1112 := c1114
        rw [← hrel, own_s2 (by omega)] at Sq1112
        obtain ⟨w1112_0, w1112_1, rfl, G1112_0, G1112_1⟩ := sl2 Sq1112
        obtain rfl : zr_1080 = (2 : Int32) := r1080_0
        obtain rfl : vsr_1080 = [.ref w1112_0, .ref w1112_1] := r1080_1
        show G_ 260 _ []
        refine gy (fun t k => aL X1111 J1075 66 rfl rfl k) ?_
        have c1116 := ((((f1080_1.ext E1086).keep K1087 (ninS (Nat.ne_of_lt (Nat.lt_of_lt_of_le (Nat.lt_of_lt_of_le A1079.lt K1080.1) (Nat.le_of_eq g1086.symm))) nin0)).keep K1088 (ninS (Nat.ne_of_lt (Nat.lt_of_lt_of_le (Nat.lt_of_lt_of_le A1079.lt K1080.1) (Nat.le_of_eq g1086.symm))) nin0)).keep K1111 (ninS (Nat.ne_of_lt (Nat.lt_of_lt_of_le (Nat.lt_of_lt_of_le A1079.lt K1080.1) (Nat.le_of_eq g1086.symm))) (ninS (Nat.ne_of_lt (Nat.lt_of_lt_of_le (Nat.lt_of_lt_of_le A1079.lt (Nat.le_trans K1080.1 (Nat.le_trans E1086.1 K1087.1))) f1088_1)) nin0)))
        have c1117 := ((((f1080_0.ext E1086).keep K1087).keep K1088).keep K1111)
        refine own_cv (rmSize hw G _ _ _ _ O1111 c1116) X1111 J1075 67 254 255 257 256 118 258 rfl c1117 0 pd_11 (kP fun T1115 v1115 X1115 e1115 q1115 => ?_)
        obtain rfl := q1115
        show G_ 265 _ [(.int 2)]
        refine gy (fun t k => aL X1115 J1075 68 rfl rfl k) ?_
        refine own_cv (rmSize hw G _ _ _ _ O1111 f1111_3) X1115 J1075 69 254 255 257 256 118 258 e1115 f1111_1 1 pd_11 (kP fun T1118 v1118 X1118 e1118 q1118 => ?_)
        obtain rfl := q1118
        show G_ 270 _ [(.int 2), (.int 2)]
        refine gy (fun t k => cY X1118 J1075 70 rfl (teq (by decide)).1 275 (cI X1118 J1075 71 rfl 1 (sI X1118 J1075 72 rfl _ k))) ?_
        refine gy (fun t k => aL X1118 J1075 73 rfl rfl k) ?_
        refine own_cv (rmSize hw G _ _ _ _ O1111 f1111_3) X1118 J1075 74 254 255 257 256 118 258 e1118 f1111_1 0 pd_11 (kP fun T1119 v1119 X1119 e1119 q1119 => ?_)
        obtain rfl := q1119
        show G_ 283 _ [(.int 2)]
        refine gy (fun t k => cI X1119 J1075 75 rfl 1 (cN X1119 J1075 76 rfl (flt (by decide)).1 (iL X1119 J1075 95 rfl rfl (fN X1119 J1075 96 rfl ((if0 _ _).trans (feq (by decide)).1) (aL X1119 J1075 97 rfl rfl (cI X1119 J1075 98 rfl 0 k)))))) ?_
        have c1121 := ((((f1080_3.ext E1086).keep K1087 (ninS (Nat.ne_of_lt (Nat.lt_of_lt_of_le f1080_3.lt (Nat.le_of_eq g1086.symm))) nin0)).keep K1088 (ninS (Nat.ne_of_lt (Nat.lt_of_lt_of_le f1080_3.lt (Nat.le_of_eq g1086.symm))) nin0)).keep K1111 (ninS (Nat.ne_of_lt (Nat.lt_of_lt_of_le f1080_3.lt (Nat.le_of_eq g1086.symm))) (ninS (Nat.ne_of_lt (Nat.lt_of_lt_of_le (Nat.lt_of_lt_of_le f1080_3.lt (Nat.le_trans E1086.1 K1087.1)) f1088_1)) nin0)))
        have c1122 := ((((f1080_2.ext E1086).keep K1087 (ninS (Nat.ne_of_lt (Nat.lt_of_lt_of_le (Nat.lt_of_lt_of_le A1079.lt K1080.1) (Nat.le_of_eq g1086.symm))) nin0)).keep K1088 (ninS (Nat.ne_of_lt (Nat.lt_of_lt_of_le (Nat.lt_of_lt_of_le A1079.lt K1080.1) (Nat.le_of_eq g1086.symm))) nin0)).keep K1111 (ninS (Nat.ne_of_lt (Nat.lt_of_lt_of_le (Nat.lt_of_lt_of_le A1079.lt K1080.1) (Nat.le_of_eq g1086.symm))) (ninS (Nat.ne_of_lt (Nat.lt_of_lt_of_le (Nat.lt_of_lt_of_le A1079.lt (Nat.le_trans K1080.1 (Nat.le_trans E1086.1 K1087.1))) f1088_1)) nin0)))
        refine own_cv (rmGet hw G _ ((0 : Int32)) _ _ _ _ _ w1112_0 _ _ O1111 c1117 c1116 (by decide) c1122 c1121 (by decide) (by decide) rfl) X1119 J1075 99 566 567 569 568 118 570 e1119 c1117 0 pd_48 (kP fun T1120 v1120 X1120 e1120 q1120 => ?_)
        obtain rfl := q1120
        show G_ 298 _ [(.ref w1112_0)]
        refine own_cc X1120 J1075 100 36 e1120 (Ins.self G1112_0.exa) (fun T1123 X1123 e1123 => ?_)
        refine gy (fun t k => aL X1123 J1075 101 rfl rfl (cI X1123 J1075 102 rfl 0 k)) ?_
        refine own_cv (rmGet hw G _ ((0 : Int32)) _ _ _ _ _ a1085_0 _ _ O1111 f1111_1 f1111_3 (by decide) f1111_2 f1111_0 (by decide) (by decide) rfl) X1123 J1075 103 566 567 569 568 118 570 e1123 f1111_1 1 pd_48 (kP fun T1124 v1124 X1124 e1124 q1124 => ?_)
        obtain rfl := q1124
        have c1126 := ((SP.keep K1111 (allS (nsx hw 117 ((A1086.keep K1087).keep K1088)) (allS (nsa hw f1088_0) all0))) c1094)
        show G_ 307 _ [(.ref a1085_0), (.ref w1112_0)]
        refine own_cv (rmSE hw G _ _ _ _ _ _ O1111 G1112_0 c1126) X1124 J1075 104 562 303 305 304 12 306 e1124 G1112_0.exa 0 pd_13 (kP fun T1125 v1125 X1125 e1125 q1125 => ?_)
        obtain ⟨r_1125, rfl, r1125_0⟩ := q1125
        obtain rfl : r_1125 = (1 : Int32) := r1125_0.elim (fun q => q.2) (fun q => absurd rfl q.1)
        show G_ 310 _ [(.int 1)]
        refine gy (fun t k => fN X1125 J1075 105 rfl ((if0 _ _).trans (feq (by decide)).1) (cI X1125 J1075 106 rfl 1 (jG X1125 J1075 107 rfl 318 (sI X1125 J1075 108 rfl _ k)))) ?_
        refine gy (fun t k => aL X1125 J1075 77 rfl rfl k) ?_
        refine own_cv (rmSize hw G _ _ _ _ O1111 f1111_3) X1125 J1075 78 254 255 257 256 118 258 e1125 f1111_1 0 pd_11 (kP fun T1127 v1127 X1127 e1127 q1127 => ?_)
        obtain rfl := q1127
        show G_ 325 _ [(.int 2)]
        refine gy (fun t k => cI X1127 J1075 79 rfl 2 (cN X1127 J1075 80 rfl (flt (by decide)).1 (iL X1127 J1075 121 rfl rfl (fN X1127 J1075 122 rfl ((if0 _ _).trans (feq (by decide)).1) (aL X1127 J1075 123 rfl rfl (cI X1127 J1075 124 rfl 1 k)))))) ?_
        refine own_cv (rmGet hw G _ ((1 : Int32)) _ _ _ _ _ w1112_1 _ _ O1111 c1117 c1116 (by decide) c1122 c1121 (by decide) (by decide) rfl) X1127 J1075 125 566 567 569 568 118 570 e1127 c1117 0 pd_48 (kP fun T1128 v1128 X1128 e1128 q1128 => ?_)
        obtain rfl := q1128
        show G_ 340 _ [(.ref w1112_1)]
        refine own_cc X1128 J1075 126 36 e1128 (Ins.self G1112_1.exa) (fun T1129 X1129 e1129 => ?_)
        refine gy (fun t k => aL X1129 J1075 127 rfl rfl (cI X1129 J1075 128 rfl 1 k)) ?_
        refine own_cv (rmGet hw G _ ((1 : Int32)) _ _ _ _ _ a1085_1 _ _ O1111 f1111_1 f1111_3 (by decide) f1111_2 f1111_0 (by decide) (by decide) rfl) X1129 J1075 129 566 567 569 568 118 570 e1129 f1111_1 1 pd_48 (kP fun T1130 v1130 X1130 e1130 q1130 => ?_)
        obtain rfl := q1130
        have c1132 := ((SP.keep K1111 (allS (nsx hw 117 ((A1086.keep K1087).keep K1088)) (allS (nsa hw f1088_0) all0))) c1093)
        show G_ 349 _ [(.ref a1085_1), (.ref w1112_1)]
        refine own_cv (rmSE hw G _ _ _ _ _ _ O1111 G1112_1 c1132) X1130 J1075 130 562 303 305 304 12 306 e1130 G1112_1.exa 0 pd_13 (kP fun T1131 v1131 X1131 e1131 q1131 => ?_)
        obtain ⟨r_1131, rfl, r1131_0⟩ := q1131
        obtain rfl : r_1131 = (1 : Int32) := r1131_0.elim (fun q => q.2) (fun q => absurd rfl q.1)
        show G_ 352 _ [(.int 1)]
        refine gy (fun t k => fN X1131 J1075 131 rfl ((if0 _ _).trans (feq (by decide)).1) (cI X1131 J1075 132 rfl 1 (jG X1131 J1075 133 rfl 360 (sI X1131 J1075 134 rfl _ k)))) ?_
        refine gy (fun t k => aL X1131 J1075 81 rfl rfl k) ?_
        refine own_cv (rmSize hw G _ _ _ _ O1111 f1111_3) X1131 J1075 82 254 255 257 256 118 258 e1131 f1111_1 0 pd_11 (kP fun T1133 v1133 X1133 e1133 q1133 => ?_)
        obtain rfl := q1133
        show G_ 367 _ [(.int 2)]
        refine gy (fun t k => cI X1133 J1075 83 rfl 3 (cY X1133 J1075 84 rfl (tlt (by decide)).1 404 (iL X1133 J1075 85 rfl rfl k))) ?_
        rw [hPf]
        exact Go.retIS X1133 hx hEL Sb1111 e1133 hh hret hlk (by simp) rfl (jd J1075 86 rfl) (by decide) (by decide) ⟨rfl, N1111, (by rw [e1133]; exact KC1111)⟩
    refine gy (fun t k => iL X1080 J1075 44 rfl rfl (cI X1080 J1075 45 rfl 2 (cN X1080 J1075 46 rfl (flt (by decide)).1 (aL X1080 J1075 135 rfl rfl (aL X1080 J1075 136 rfl rfl k))))) ?_
    refine own_cs (rmCm hw G _ _ _ _ _ _ O1080 c1083 c1084) X1080 J1075 137 517 518 2 519 rfl 0 pd_61 (kP fun T1134 v1134 X1134 e1134 q1134 => ?_)
    obtain ⟨r_1134, rfl, r1134_0⟩ := q1134
    show G_ 118 #[vi iA, vi iB, vi iC, vi iD, vi iE, vi iF, vi 2, vr r_1014, vr r_1015, vr r_1016, vr b1066, vr r_1075, vr b1079, vr r_1014, vr r_1015, vr r_1016, uS, uS, uS] [(.int r_1134)]
    by_cases hc1135 : (0 : Int32) < r_1134
    · refine gy (fun t k => fN X1134 J1075 138 rfl ((if0 _ _).trans (tlt hc1135).2.2.2) (aL X1134 J1075 139 rfl rfl (sA X1134 J1075 140 rfl _ k))) ?_
      refine gy (fun t k => aL X1134 J1075 141 rfl rfl (sA X1134 J1075 142 rfl _ k)) ?_
      refine gy (fun t k => aL X1134 J1075 143 rfl rfl (sA X1134 J1075 144 rfl _ k)) ?_
      have ho1136 := r1134_0.up hc1135
      refine gy (fun t k => iL X1134 J1075 47 rfl rfl (cI X1134 J1075 48 rfl 3 (cY X1134 J1075 49 rfl (tlt (by decide)).1 161 (iL X1134 J1075 50 rfl rfl (cI X1134 J1075 51 rfl 2 (cN X1134 J1075 52 rfl (flt (by decide)).1 (aL X1134 J1075 145 rfl rfl (aL X1134 J1075 146 rfl rfl k)))))))) ?_
      refine own_cs (rmCm hw G _ _ _ _ _ _ O1080 c1084 c1083) X1134 J1075 147 517 518 2 519 e1134 0 pd_61 (kP fun T1137 v1137 X1137 e1137 q1137 => ?_)
      obtain ⟨r_1137, rfl, r1137_0⟩ := q1137
      show G_ 174 #[vi iA, vi iB, vi iC, vi iD, vi iE, vi iF, vi 2, vr r_1014, vr r_1015, vr r_1016, vr b1066, vr r_1075, vr b1079, vr r_1015, vr r_1014, vr r_1016, vr r_1014, uS, uS] [(.int r_1137)]
      refine gy (fun t k => fY X1137 J1075 148 rfl ((if0 _ _).trans (flt (r1137_0.ngt (by omega))).2.2.2) 189 k) ?_
      exact jn1085 T1137 (vr r_1014) r_1015 r_1014 ky_1015 ky_1014 X1137 e1137 c1084 c1083 (by omega) (by rw [ins_comm ky_1014 ky_1015])
    · refine gy (fun t k => fY X1134 J1075 138 rfl ((if0 _ _).trans (flt hc1135).2.2.2) 133 k) ?_
      have ho1138 := r1134_0.le hc1135
      refine gy (fun t k => iL X1134 J1075 47 rfl rfl (cI X1134 J1075 48 rfl 3 (cY X1134 J1075 49 rfl (tlt (by decide)).1 161 (iL X1134 J1075 50 rfl rfl (cI X1134 J1075 51 rfl 2 (cN X1134 J1075 52 rfl (flt (by decide)).1 (aL X1134 J1075 145 rfl rfl (aL X1134 J1075 146 rfl rfl k)))))))) ?_
      refine own_cs (rmCm hw G _ _ _ _ _ _ O1080 c1083 c1084) X1134 J1075 147 517 518 2 519 e1134 0 pd_61 (kP fun T1139 v1139 X1139 e1139 q1139 => ?_)
      obtain ⟨r_1139, rfl, r1139_0⟩ := q1139
      show G_ 174 #[vi iA, vi iB, vi iC, vi iD, vi iE, vi iF, vi 2, vr r_1014, vr r_1015, vr r_1016, vr b1066, vr r_1075, vr b1079, vr r_1014, vr r_1015, vr r_1016, uS, uS, uS] [(.int r_1139)]
      refine gy (fun t k => fY X1139 J1075 148 rfl ((if0 _ _).trans (flt (r1139_0.ngt (by omega))).2.2.2) 189 k) ?_
      exact jn1085 T1139 (uS) r_1014 r_1015 ky_1014 ky_1015 X1139 e1139 c1083 c1084 (by omega) rfl
  · refine Go.castF (a := (((iF.toUInt32 >>> ((16 : Int32) &&& 31).toUInt32).toInt32) &&& (3 : Int32))) (b := (3 : Int32)) (fun z' : Int32 => mkF m 32 #[vi iA, vi iB, vi iC, vi iD, vi iE, vi iF, vi z', vr r_1014, vr r_1015, vr r_1016, uS, uS, uS, uS, uS, uS, uS, uS, uS] []) (hk) ?_
    show G_ 32 _ []
    refine gy (fun t k => iL X1016 J 18 rfl rfl k) ?_
    obtain ⟨T1140, h1140, k1140, X1140, e1140, E1140, A1140, Ov1140, st1140⟩ := newR X1016 hx hZ hown (ww hw 36 rfl) (ww hw 37 rfl) rfl (g := (mkF m 34 #[vi iA, vi iB, vi iC, vi iD, vi iE, vi iF, vi 3, vr r_1014, vr r_1015, vr r_1016, uS, uS, uS, uS, uS, uS, uS, uS, uS] [(.int 3)])) rfl (jd J 19 rfl) rfl (by decide) (cap := 3) (by decide) (by decide) (by decide) (by decide)
    obtain ⟨b1140, g1140⟩ : ∃ z, z = T1016.heap.size := ⟨_, rfl⟩
    rw [← g1140] at A1140 st1140
    refine Go.by' st1140 ?_
    have Sf_b1140 : Safe Z consts_1 s.vm T1016.heap b1140 := Safe.new (Nat.le_of_eq g1140.symm)
    have g_b1140 : n0 ≤ b1140 := Nat.le_trans (own_le O1016) (Nat.le_of_eq g1140.symm)
    have sz_b1140 : h0.size ≤ b1140 := Nat.le_trans KC1016.1 (Nat.le_of_eq g1140.symm)
    have Sb1140 := Sb1016.ext E1140
    have O1140 := O1016.ext E1140
    have KC1140 := KC1016.ext E1140
    have V1140 : Arv Z h1140 b1140 k1140 (.object S_3) (3 : Int32) [.null, .null, .null] Value.null := (Arv.new A1140 (by decide)).pad (pad_rep [] Value.null 3)
    show G_ 37 _ [(.ref b1140)]
    refine gy (fun t k => sA X1140 J 20 rfl _ (iL X1140 J 21 rfl rfl (cI X1140 J 22 rfl 1 k))) ?_
    refine gy (fun t k => cN X1140 J 23 rfl (flt (by decide)).1 (aL X1140 J 87 rfl rfl (cI X1140 J 88 rfl 0 (aL X1140 J 89 rfl rfl k)))) ?_
    obtain ⟨cl1141, Ar1141, q1141, S1141, P1141, H1141, G1141⟩ := (id V1140)
    have hin1141 : ¬ ((0 : Int32) < 0 ∨ cl1141.slots.size ≤ ((0 : Int32)).toNatClampNeg) := inb_of S1141 ⟨by decide, by decide⟩
    have P1142 : SP Z _ _ := (SP.trans (SP.keep0 K1015) (SP.trans (SP.keep0 K1016) (SP.ext E1140)))
    have c1143 := (P1142 f1014_0)
    obtain ⟨T1144, h1144, X1144, e1144, W1144, st1144⟩ := stR X1140 hx hZ e1140 Ar1141 (j := (0 : Int32)) hin1141 rfl (Sto.ofV Ar1141 q1141 Ov1140 (Ins.self c1143.exa)) (g := (mkF m 50 #[vi iA, vi iB, vi iC, vi iD, vi iE, vi iF, vi 3, vr r_1014, vr r_1015, vr r_1016, vr b1140, uS, uS, uS, uS, uS, uS, uS, uS] [(.ref r_1014), (.int 0), (.ref b1140)])) rfl rfl (jd J 90 rfl)
    refine Go.by' st1144 ?_
    have V1144 : Arv Z h1144 b1140 k1140 (.object S_3) (3 : Int32) [(.ref r_1014), .null, .null] Value.null := Arv.set Ar1141 q1141 S1141 P1141 H1141 G1141 rfl W1144 0 rfl (Nat.le_of_ble_eq_true rfl)
    have N1144 := Fr.snoc X1144 N1016 g_b1140
    obtain ⟨lc1144, X1144, N1144⟩ := own_pack X1144 N1144
    have Sb1144 := Sb1140.wr W1144 (Safe.ext E1140 Sb1016.ch Sf_b1140)
    have O1144 := O1140.wr W1144 g_b1140
    have KC1144 := KC1140.wr W1144 (Or.inr sz_b1140)
    show G_ 51 _ []
    refine gy (fun t k => iL X1144 J 24 rfl rfl (cI X1144 J 25 rfl 2 (cN X1144 J 26 rfl (flt (by decide)).1 (aL X1144 J 109 rfl rfl (cI X1144 J 110 rfl 1 (aL X1144 J 111 rfl rfl k)))))) ?_
    obtain ⟨cl1145, Ar1145, q1145, S1145, P1145, H1145, G1145⟩ := (id V1144)
    have hin1145 : ¬ ((1 : Int32) < 0 ∨ cl1145.slots.size ≤ ((1 : Int32)).toNatClampNeg) := inb_of S1145 ⟨by decide, by decide⟩
    have P1146 := (SP.trans (SP.keep0 K1016) (SP.trans (SP.ext E1140) (SP.wr W1144 (nsa hw V1140))))
    have c1147 := (P1146 f1015_0)
    obtain ⟨T1148, h1148, X1148, e1148, W1148, st1148⟩ := stR X1144 hx hZ e1144 Ar1145 (j := (1 : Int32)) hin1145 rfl (Sto.ofV Ar1145 q1145 Ov1140 (Ins.self c1147.exa)) (g := (mkF m 62 #[vi iA, vi iB, vi iC, vi iD, vi iE, vi iF, vi 3, vr r_1014, vr r_1015, vr r_1016, vr b1140, uS, uS, uS, uS, uS, uS, uS, uS] [(.ref r_1015), (.int 1), (.ref b1140)])) rfl rfl (jd J 112 rfl)
    refine Go.by' st1148 ?_
    have V1148 : Arv Z h1148 b1140 k1140 (.object S_3) (3 : Int32) [(.ref r_1014), (.ref r_1015), .null] Value.null := Arv.set Ar1145 q1145 S1145 P1145 H1145 G1145 rfl W1148 1 rfl (Nat.le_of_ble_eq_true rfl)
    have N1148 := Fr.snoc X1148 N1144 g_b1140
    obtain ⟨lc1148, X1148, N1148⟩ := own_pack X1148 N1148
    have Sb1148 := Sb1144.wr W1148 (Safe.wr W1144 (Safe.ext E1140 Sb1016.ch Sf_b1140) Sb1140.ch (Safe.ext E1140 Sb1016.ch Sf_b1140))
    have O1148 := O1144.wr W1148 g_b1140
    have KC1148 := KC1144.wr W1148 (Or.inr sz_b1140)
    show G_ 63 _ []
    refine gy (fun t k => iL X1148 J 27 rfl rfl (cI X1148 J 28 rfl 3 (cN X1148 J 29 rfl (flt (by decide)).1 (aL X1148 J 149 rfl rfl (cI X1148 J 150 rfl 2 (aL X1148 J 151 rfl rfl k)))))) ?_
    obtain ⟨cl1149, Ar1149, q1149, S1149, P1149, H1149, G1149⟩ := (id V1148)
    have hin1149 : ¬ ((2 : Int32) < 0 ∨ cl1149.slots.size ≤ ((2 : Int32)).toNatClampNeg) := inb_of S1149 ⟨by decide, by decide⟩
    have P1150 := (SP.trans (SP.ext E1140) (SP.trans (SP.wr W1144 (nsa hw V1140)) (SP.wr W1148 (nsa hw V1144))))
    have c1151 := (P1150 f1016_0)
    obtain ⟨T1152, h1152, X1152, e1152, W1152, st1152⟩ := stR X1148 hx hZ e1148 Ar1149 (j := (2 : Int32)) hin1149 rfl (Sto.ofV Ar1149 q1149 Ov1140 (Ins.self c1151.exa)) (g := (mkF m 74 #[vi iA, vi iB, vi iC, vi iD, vi iE, vi iF, vi 3, vr r_1014, vr r_1015, vr r_1016, vr b1140, uS, uS, uS, uS, uS, uS, uS, uS] [(.ref r_1016), (.int 2), (.ref b1140)])) rfl rfl (jd J 152 rfl)
    refine Go.by' st1152 ?_
    have V1152 : Arv Z h1152 b1140 k1140 (.object S_3) (3 : Int32) [(.ref r_1014), (.ref r_1015), (.ref r_1016)] Value.null := Arv.set Ar1149 q1149 S1149 P1149 H1149 G1149 rfl W1152 2 rfl (Nat.le_of_ble_eq_true rfl)
    have N1152 := Fr.snoc X1152 N1148 g_b1140
    obtain ⟨lc1152, X1152, N1152⟩ := own_pack X1152 N1152
    have Sb1152 := Sb1148.wr W1152 (Safe.wr W1148 (Safe.wr W1144 (Safe.ext E1140 Sb1016.ch Sf_b1140) Sb1140.ch (Safe.ext E1140 Sb1016.ch Sf_b1140)) Sb1144.ch (Safe.wr W1144 (Safe.ext E1140 Sb1016.ch Sf_b1140) Sb1140.ch (Safe.ext E1140 Sb1016.ch Sf_b1140)))
    have O1152 := O1148.wr W1152 g_b1140
    have KC1152 := KC1148.wr W1152 (Or.inr sz_b1140)
    show G_ 75 _ []
    refine gy (fun t k => aL X1152 J 30 rfl rfl k) ?_
    have P1154 := (SP.trans (SP.wr W1144 (nsa hw V1140)) (SP.trans (SP.wr W1148 (nsa hw V1144)) (SP.wr W1152 (nsa hw V1148))))
    have c1155 := (P1154 c1143)
    have P1156 := (SP.trans (SP.wr W1148 (nsa hw V1144)) (SP.wr W1152 (nsa hw V1148)))
    have c1157 := (P1156 c1147)
    have c1158 := ((SP.wr W1152 (nsa hw V1148)) c1151)
    obtain ⟨_, _, ⟨T1153, L1153, k1153, n1153⟩, -, X1153, Si1153, Gr1153, ⟨Lc1153, hQ1153, l1153, y1153, z1153, A1153⟩, st1153⟩ := callSS X1152 hx (y := own_y114) hown (mvT hZ (ww hw 38 rfl)) (mvT hZ (ww hw 39 rfl)) (mvT hZ (ww hw 40 rfl)) (mvT hZ (ww hw 41 rfl)) (by decide) (own_backS (W := 0) (rmOf3 l Z a0 hw [] vcs wI wA cA vF wP wD kD wE kE mT mU mL mO G b1140 k1140 r_1014 r_1015 r_1016 ky_1014 ky_1015 ky_1016 h1152 n0 O1152 V1152 c1155 c1157 c1158) Sb1152 (ww hw 41 rfl) (ww hw 40 rfl) (by decide) (by decide) hEL all0) (g := (mkF m 77 #[vi iA, vi iB, vi iC, vi iD, vi iE, vi iF, vi 3, vr r_1014, vr r_1015, vr r_1016, vr b1140, uS, uS, uS, uS, uS, uS, uS, uS] [(.ref b1140)])) rfl (by rw [hml]; rfl) (argsL := [(.ref b1140)]) (rest := []) (lenOf pd_60 rfl) rfl (Nat.le_of_eq rfl) (jd J 31 rfl) (fun _ _ => ⟨rfl, e1152, (by decide : 10 + 18 ≤ _), (by decide : 27 + 77 ≤ _)⟩)
    dsimp only [Pt.U, Pt.locs, Pt.cells, Pt.slots] at X1153 l1153 y1153 z1153 st1153 hQ1153 Si1153 Gr1153 A1153
    subst l1153 y1153 z1153
    obtain ⟨r_1153, ts_1153, tm_1153, Lk_1153, mc_1153, rfl, N1153q, K1153, f1153_0, f1153_1, f1153_2, f1153_3, f1153_4, f1153_5, f1153_6⟩ := hQ1153
    have N1153 := Fr.app N1152 N1153q
    obtain ⟨lc1153, X1153, N1153⟩ := own_pack X1153 N1153
    replace X1153 := own_reb X1153
    have Sb1153 := Sb1152.called Si1153 (by rw [← e1152]; exact Gr1153) A1153
    have hZ1153 := Sb1153.hZ
    have hO1153 := Sb1153.hO
    have J1153 := J.up hZ1153 hO1153
    refine Go.by' (fun t k => st1153.trans k) ?_
    have Sf_tm_1153 : Safe Z consts_1 s.vm h1152 tm_1153 := Safe.new f1153_6
    have g_tm_1153 : n0 ≤ tm_1153 := Nat.le_trans (own_le O1152) f1153_6
    have sz_tm_1153 : h0.size ≤ tm_1153 := Nat.le_trans KC1152.1 f1153_6
    have O1153 := O1152.keep K1153 all0
    have KC1153 := KC1152.trans K1153 all0
    show G_ 80 _ [(.ref r_1153)]
    refine gy (fun t k => sA X1153 J1153 32 rfl _ k) ?_
    obtain ⟨T1159, h1159, X1159, e1159, E1159, A1159, D1159, -, st1159⟩ := newO X1153 hx hZ1153 hO1153 (ww hw 116 rfl) (ww hw 117 rfl) (ww hw 118 rfl) rfl (g := (mkF m 82 #[vi iA, vi iB, vi iC, vi iD, vi iE, vi iF, vi 3, vr r_1014, vr r_1015, vr r_1016, vr b1140, vr r_1153, uS, uS, uS, uS, uS, uS, uS] [])) rfl (jd J1153 33 rfl) (by decide) (by decide)
    obtain ⟨b1159, g1159⟩ : ∃ z, z = T1153.heap.size := ⟨_, rfl⟩
    rw [← g1159] at A1159 D1159 st1159
    refine Go.by' st1159 ?_
    have Sf_b1159 : Safe Z consts_1 T1153.vm T1153.heap b1159 := Safe.new (Nat.le_of_eq g1159.symm)
    have g_b1159 : n0 ≤ b1159 := Nat.le_trans (own_le O1153) (Nat.le_of_eq g1159.symm)
    have sz_b1159 : h0.size ≤ b1159 := Nat.le_trans KC1153.1 (Nat.le_of_eq g1159.symm)
    have Sb1159 := Sb1153.ext E1159
    have O1159 := O1153.ext E1159
    have KC1159 := KC1153.ext E1159
    have Fn1159_131 : Fld Z h1159 b1159 S_10 "modCount" "I" (Value.int 0) := D1159 (Or.inl (ww hw 131 rfl)) (ty := .int) (by decide)
    have Fn1159_246 : Fld Z h1159 b1159 S_4 "size" "I" (Value.int 0) := D1159 (Or.inl (ww hw 246 rfl)) (ty := .int) (by decide)
    have Fn1159_249 : Fld Z h1159 b1159 S_4 "elementData" S_9 Value.null := D1159 (Or.inl (ww hw 249 rfl)) (ty := (.array (.object S_2))) (by decide)
    show G_ 85 _ [(.ref b1159)]
    refine gy (fun t k => oP X1159 J1153 34 rfl (aL X1159 J1153 35 rfl rfl k)) ?_
    have c1161 := (SKs.sp (SP.ext E1159) f1153_5)
    refine own_ci (rmLC2 hw G _ _ _ _ _ _ _ _ _ _ O1159 A1159 Fn1159_131 Fn1159_246 Fn1159_249 g_b1159 (f1153_0.ext E1159) (f1153_1.ext E1159) (f1153_2.ext E1159) (f1153_3.ext E1159) (f1153_4.keep0 (own_k0 E1159)) c1161 g_tm_1153) X1159 J1153 36 119 120 118 121 e1159 1 pd_37 (kF N1153 fun _ T1160 v1160 X1160 N1160 q1160 => ?_)
    obtain ⟨ar_1160, kr_1160, zr_1160, vsr_1160, rfl, K1160, f1160_0, f1160_1, f1160_2, f1160_3, r1160_0, r1160_1⟩ := q1160
    have Sb1160 := Sb1159.keep K1160 (sfS (Safe.exa hZ1153.alike A1159 (by decide) (by decide)) (sfS (Safe.exa hZ1153.alike ((TreeP.exa f1153_4).ext E1159) (by decide) (by decide)) sf0))
    have O1160 := O1159.keep K1160 (allS g_b1159 (allS g_tm_1153 all0))
    have KC1160 := KC1159.trans K1160 (allS (Or.inr sz_b1159) (allS (Or.inr sz_tm_1153) all0))
    show G_ 91 _ [(.ref b1159)]
    refine gy (fun t k => sA X1160 J1153 37 rfl _ k) ?_
    refine gy (fun t k => aL X1160 J1153 38 rfl rfl (sA X1160 J1153 39 rfl _ k)) ?_
    refine gy (fun t k => aL X1160 J1153 40 rfl rfl (sA X1160 J1153 41 rfl _ k)) ?_
    refine gy (fun t k => aL X1160 J1153 42 rfl rfl (sA X1160 J1153 43 rfl _ k)) ?_
    have P1162 := (SP.trans (SP.keep0 K1153) (SP.trans (SP.ext E1159) (SP.keep K1160 (allS (nsx hw 117 A1159) (allS (nsx hw 49 ((TreeP.exa f1153_4).ext E1159)) all0)))))
    have c1163 := (P1162 c1155)
    have c1164 := (P1162 c1157)
    have c1165 := (P1162 c1158)
    have jn1166 : ∀ (T' : State) (v16 : Slot) (a1166_0 : Addr) (a1166_1 : Addr) (a1166_2 : Addr) (k1166_0 : Int) (k1166_1 : Int) (k1166_2 : Int), Like X1160 T' → T'.heap = T1160.heap → SK Z T1160.heap a1166_0 k1166_0 → SK Z T1160.heap a1166_1 k1166_1 → SK Z T1160.heap a1166_2 k1166_2 → k1166_0 ≤ k1166_1 → k1166_1 ≤ k1166_2 → (ins k1166_2 (ins k1166_1 (ins k1166_0 []))) = (ins ky_1016 (ins ky_1015 (ins ky_1014 []))) → Go p.tables e below Pf (T'.setTop (mkF m 189 #[vi iA, vi iB, vi iC, vi iD, vi iE, vi iF, vi 3, vr r_1014, vr r_1015, vr r_1016, vr b1140, vr r_1153, vr b1159, vr a1166_0, vr a1166_1, vr a1166_2, v16, uS, uS] [])) := by
      intro T1166 v16 a1166_0 a1166_1 a1166_2 k1166_0 k1166_1 k1166_2 X1166 e1166 Sa1166_0 Sa1166_1 Sa1166_2 hle0 hle1 hrel
      unfold Like at X1166
      obtain ⟨T1167, h1167, X1167, e1167, E1167, A1167, D1167, -, st1167⟩ := newO X1166 hx hZ1153 hO1153 (ww hw 116 rfl) (ww hw 117 rfl) (ww hw 118 rfl) e1166 (g := (mkF m 189 #[vi iA, vi iB, vi iC, vi iD, vi iE, vi iF, vi 3, vr r_1014, vr r_1015, vr r_1016, vr b1140, vr r_1153, vr b1159, vr a1166_0, vr a1166_1, vr a1166_2, v16, uS, uS] [])) rfl (jd J1153 53 rfl) (by decide) (by decide)
      obtain ⟨b1167, g1167⟩ : ∃ z, z = T1160.heap.size := ⟨_, rfl⟩
      rw [← g1167] at A1167 D1167 st1167
      refine Go.by' st1167 ?_
      have Sf_b1167 : Safe Z consts_1 T1153.vm T1160.heap b1167 := Safe.new (Nat.le_of_eq g1167.symm)
      have g_b1167 : n0 ≤ b1167 := Nat.le_trans (own_le O1160) (Nat.le_of_eq g1167.symm)
      have sz_b1167 : h0.size ≤ b1167 := Nat.le_trans KC1160.1 (Nat.le_of_eq g1167.symm)
      have Sb1167 := Sb1160.ext E1167
      have O1167 := O1160.ext E1167
      have KC1167 := KC1160.ext E1167
      have Fn1167_131 : Fld Z h1167 b1167 S_10 "modCount" "I" (Value.int 0) := D1167 (Or.inl (ww hw 131 rfl)) (ty := .int) (by decide)
      have Fn1167_246 : Fld Z h1167 b1167 S_4 "size" "I" (Value.int 0) := D1167 (Or.inl (ww hw 246 rfl)) (ty := .int) (by decide)
      have Fn1167_249 : Fld Z h1167 b1167 S_4 "elementData" S_9 Value.null := D1167 (Or.inl (ww hw 249 rfl)) (ty := (.array (.object S_2))) (by decide)
      show G_ 192 _ [(.ref b1167)]
      refine gy (fun t k => oP X1167 J1153 54 rfl k) ?_
      refine own_ci (rmAL hw G _ _ _ O1167 A1167 Fn1167_131 Fn1167_249 Fn1167_246 g_b1167) X1167 J1153 55 250 251 118 252 e1167 1 pd_35 (kF N1160 fun _ T1168 v1168 X1168 N1168 q1168 => ?_)
      obtain ⟨rfl, K1168, f1168_0, f1168_1, f1168_2, f1168_3⟩ := q1168
      have Sb1168 := Sb1167.keep K1168 (sfS (Safe.exa hZ1153.alike A1167 (by decide) (by decide)) sf0)
      have O1168 := O1167.keep K1168 (allS g_b1167 all0)
      have KC1168 := KC1167.trans K1168 (allS (Or.inr sz_b1167) all0)
      show G_ 196 _ [(.ref b1167)]
      refine gy (fun t k => sA X1168 J1153 56 rfl _ (iL X1168 J1153 57 rfl rfl (cI X1168 J1153 58 rfl 1 k))) ?_
      refine gy (fun t k => cN X1168 J1153 59 rfl (flt (by decide)).1 (aL X1168 J1153 91 rfl rfl (aL X1168 J1153 92 rfl rfl k))) ?_
      have P1170 := (SP.trans (SP.ext E1167) (SP.keep K1168 (allS (nsx hw 117 A1167) all0)))
      have c1171 := (P1170 Sa1166_0)
      refine own_cv (rmA1_0 hw G _ _ _ _ _ O1168 f1168_0 f1168_3 f1168_2 f1168_1 g_b1167 c1171.exa) X1168 J1153 93 536 537 539 538 118 540 rfl f1168_0 0 pd_13 (kF N1168 fun _ T1169 v1169 X1169 N1169 q1169 => ?_)
      obtain ⟨r_1169, kk_1169, rfl, K1169, f1169_0, f1169_1, f1169_2, f1169_3, f1169_4, f1169_5, r1169_0⟩ := q1169
      have Sf_r_1169 : Safe Z consts_1 T1153.vm T1168.heap r_1169 := Safe.new f1169_1
      have g_r_1169 : n0 ≤ r_1169 := Nat.le_trans (own_le O1168) f1169_1
      have sz_r_1169 : h0.size ≤ r_1169 := Nat.le_trans KC1168.1 f1169_1
      have Sb1169 := Sb1168.keep K1169 (sfS (Safe.exa hZ1153.alike (A1167.keep K1168) (by decide) (by decide)) sf0)
      have O1169 := O1168.keep K1169 (allS g_b1167 all0)
      have KC1169 := KC1168.trans K1169 (allS (Or.inr sz_b1167) all0)
      show G_ 211 _ [(.int 1)]
      refine gy (fun t k => oQ X1169 J1153 94 rfl (iL X1169 J1153 60 rfl rfl (cI X1169 J1153 61 rfl 2 (cN X1169 J1153 62 rfl (flt (by decide)).1 (aL X1169 J1153 113 rfl rfl (aL X1169 J1153 114 rfl rfl k)))))) ?_
      have P1173 := (SP.trans (SP.ext E1167) (SP.trans (SP.keep K1168 (allS (nsx hw 117 A1167) all0)) (SP.keep K1169 (allS (nsx hw 117 (A1167.keep K1168)) all0))))
      have c1174 := (P1173 Sa1166_1)
      have c1175 := ((SP.keep K1169 (allS (nsx hw 117 (A1167.keep K1168)) all0)) c1171)
      refine own_cv (rmSE hw G _ _ _ _ _ _ O1169 c1174 c1175) X1169 J1153 115 562 303 305 304 12 306 rfl c1174.exa 0 pd_13 (kP fun T1172 v1172 X1172 e1172 q1172 => ?_)
      obtain ⟨r_1172, rfl, r1172_0⟩ := q1172
      rcases r1172_0 with ⟨hE1172, hz1172⟩ | ⟨hE1172, hz1172⟩
      · subst hz1172
        show G_ 225 _ [(.int 1)]
        refine gy (fun t k => fY X1172 J1153 116 rfl ((if0 _ _).trans (feq (by decide)).2) 236 (iL X1172 J1153 63 rfl rfl (cI X1172 J1153 64 rfl 3 (cN X1172 J1153 65 rfl (flt (by decide)).1 (aL X1172 J1153 153 rfl rfl (aL X1172 J1153 154 rfl rfl k)))))) ?_
        have c1177 := (P1173 Sa1166_2)
        refine own_cv (rmSE hw G _ _ _ _ _ _ O1169 c1177 c1174) X1172 J1153 155 562 303 305 304 12 306 e1172 c1177.exa 0 pd_13 (kP fun T1176 v1176 X1176 e1176 q1176 => ?_)
        obtain ⟨r_1176, rfl, r1176_0⟩ := q1176
        rcases r1176_0 with ⟨hE1176, hz1176⟩ | ⟨hE1176, hz1176⟩
        · subst hz1176
          show G_ 249 _ [(.int 1)]
          refine gy (fun t k => fY X1176 J1153 156 rfl ((if0 _ _).trans (feq (by decide)).2) 260 k) ?_
          have P1179 := (SP.trans (SP.keep K1160 (allS (nsx hw 117 A1159) (allS (nsx hw 49 ((TreeP.exa f1153_4).ext E1159)) all0))) (SP.trans (SP.ext E1167) (SP.trans (SP.keep K1168 (allS (nsx hw 117 A1167) all0)) (SP.keep K1169 (allS (nsx hw 117 (A1167.keep K1168)) all0)))))
          have c1180 := (SKs.sp P1179 c1161)
          have Sq1178 := c1180
          rw [← hrel, own_s3c hE1172 hE1176] at Sq1178
          obtain ⟨w1178_0, rfl, G1178_0⟩ := sl1 Sq1178
          obtain rfl : zr_1160 = (1 : Int32) := r1160_0
          obtain rfl : vsr_1160 = [.ref w1178_0] := r1160_1
          show G_ 260 _ []
          refine gy (fun t k => aL X1176 J1153 66 rfl rfl k) ?_
          have c1182 := (((f1160_1.ext E1167).keep K1168 (ninS (Nat.ne_of_lt (Nat.lt_of_lt_of_le (Nat.lt_of_lt_of_le A1159.lt K1160.1) (Nat.le_of_eq g1167.symm))) nin0)).keep K1169 (ninS (Nat.ne_of_lt (Nat.lt_of_lt_of_le (Nat.lt_of_lt_of_le A1159.lt K1160.1) (Nat.le_of_eq g1167.symm))) nin0))
          have c1183 := (((f1160_0.ext E1167).keep K1168).keep K1169)
          refine own_cv (rmSize hw G _ _ _ _ O1169 c1182) X1176 J1153 67 254 255 257 256 118 258 e1176 c1183 0 pd_11 (kP fun T1181 v1181 X1181 e1181 q1181 => ?_)
          obtain rfl := q1181
          show G_ 265 _ [(.int 1)]
          refine gy (fun t k => aL X1181 J1153 68 rfl rfl k) ?_
          refine own_cv (rmSize hw G _ _ _ _ O1169 f1169_4) X1181 J1153 69 254 255 257 256 118 258 e1181 f1169_2 1 pd_11 (kP fun T1184 v1184 X1184 e1184 q1184 => ?_)
          obtain rfl := q1184
          show G_ 270 _ [(.int 1), (.int 1)]
          refine gy (fun t k => cY X1184 J1153 70 rfl (teq (by decide)).1 275 (cI X1184 J1153 71 rfl 1 (sI X1184 J1153 72 rfl _ k))) ?_
          refine gy (fun t k => aL X1184 J1153 73 rfl rfl k) ?_
          refine own_cv (rmSize hw G _ _ _ _ O1169 f1169_4) X1184 J1153 74 254 255 257 256 118 258 e1184 f1169_2 0 pd_11 (kP fun T1185 v1185 X1185 e1185 q1185 => ?_)
          obtain rfl := q1185
          show G_ 283 _ [(.int 1)]
          refine gy (fun t k => cI X1185 J1153 75 rfl 1 (cN X1185 J1153 76 rfl (flt (by decide)).1 (iL X1185 J1153 95 rfl rfl (fN X1185 J1153 96 rfl ((if0 _ _).trans (feq (by decide)).1) (aL X1185 J1153 97 rfl rfl (cI X1185 J1153 98 rfl 0 k)))))) ?_
          have c1187 := (((f1160_3.ext E1167).keep K1168 (ninS (Nat.ne_of_lt (Nat.lt_of_lt_of_le f1160_3.lt (Nat.le_of_eq g1167.symm))) nin0)).keep K1169 (ninS (Nat.ne_of_lt (Nat.lt_of_lt_of_le f1160_3.lt (Nat.le_of_eq g1167.symm))) nin0))
          have c1188 := (((f1160_2.ext E1167).keep K1168 (ninS (Nat.ne_of_lt (Nat.lt_of_lt_of_le (Nat.lt_of_lt_of_le A1159.lt K1160.1) (Nat.le_of_eq g1167.symm))) nin0)).keep K1169 (ninS (Nat.ne_of_lt (Nat.lt_of_lt_of_le (Nat.lt_of_lt_of_le A1159.lt K1160.1) (Nat.le_of_eq g1167.symm))) nin0))
          refine own_cv (rmGet hw G _ ((0 : Int32)) _ _ _ _ _ w1178_0 _ _ O1169 c1183 c1182 (by decide) c1188 c1187 (by decide) (by decide) rfl) X1185 J1153 99 566 567 569 568 118 570 e1185 c1183 0 pd_48 (kP fun T1186 v1186 X1186 e1186 q1186 => ?_)
          obtain rfl := q1186
          show G_ 298 _ [(.ref w1178_0)]
          refine own_cc X1186 J1153 100 36 e1186 (Ins.self G1178_0.exa) (fun T1189 X1189 e1189 => ?_)
          refine gy (fun t k => aL X1189 J1153 101 rfl rfl (cI X1189 J1153 102 rfl 0 k)) ?_
          refine own_cv (rmGet hw G _ ((0 : Int32)) _ _ _ _ _ a1166_0 _ _ O1169 f1169_2 f1169_4 (by decide) f1169_3 f1169_0 (by decide) (by decide) rfl) X1189 J1153 103 566 567 569 568 118 570 e1189 f1169_2 1 pd_48 (kP fun T1190 v1190 X1190 e1190 q1190 => ?_)
          obtain rfl := q1190
          show G_ 307 _ [(.ref a1166_0), (.ref w1178_0)]
          refine own_cv (rmSE hw G _ _ _ _ _ _ O1169 G1178_0 c1175) X1190 J1153 104 562 303 305 304 12 306 e1190 G1178_0.exa 0 pd_13 (kP fun T1191 v1191 X1191 e1191 q1191 => ?_)
          obtain ⟨r_1191, rfl, r1191_0⟩ := q1191
          obtain rfl : r_1191 = (1 : Int32) := r1191_0.elim (fun q => q.2) (fun q => absurd rfl q.1)
          show G_ 310 _ [(.int 1)]
          refine gy (fun t k => fN X1191 J1153 105 rfl ((if0 _ _).trans (feq (by decide)).1) (cI X1191 J1153 106 rfl 1 (jG X1191 J1153 107 rfl 318 (sI X1191 J1153 108 rfl _ k)))) ?_
          refine gy (fun t k => aL X1191 J1153 77 rfl rfl k) ?_
          refine own_cv (rmSize hw G _ _ _ _ O1169 f1169_4) X1191 J1153 78 254 255 257 256 118 258 e1191 f1169_2 0 pd_11 (kP fun T1192 v1192 X1192 e1192 q1192 => ?_)
          obtain rfl := q1192
          show G_ 325 _ [(.int 1)]
          refine gy (fun t k => cI X1192 J1153 79 rfl 2 (cY X1192 J1153 80 rfl (tlt (by decide)).1 362 (aL X1192 J1153 81 rfl rfl k))) ?_
          refine own_cv (rmSize hw G _ _ _ _ O1169 f1169_4) X1192 J1153 82 254 255 257 256 118 258 e1192 f1169_2 0 pd_11 (kP fun T1193 v1193 X1193 e1193 q1193 => ?_)
          obtain rfl := q1193
          show G_ 367 _ [(.int 1)]
          refine gy (fun t k => cI X1193 J1153 83 rfl 3 (cY X1193 J1153 84 rfl (tlt (by decide)).1 404 (iL X1193 J1153 85 rfl rfl k))) ?_
          rw [hPf]
          exact Go.retIS X1193 hx hEL Sb1169 e1193 hh hret hlk (by simp) rfl (jd J1153 86 rfl) (by decide) (by decide) ⟨rfl, N1169, (by rw [e1193]; exact KC1169)⟩
        · subst hz1176
          show G_ 249 _ [(.int 0)]
          refine gy (fun t k => fN X1176 J1153 156 rfl ((if0 _ _).trans (teq (by decide)).2) (aL X1176 J1153 157 rfl rfl (aL X1176 J1153 158 rfl rfl k))) ?_
          refine own_cv (rmA1_1 hw G _ _ _ _ _ _ _ _ O1169 f1169_2 f1169_4 f1169_3 f1169_5 g_b1167 g_r_1169 f1169_0 c1177.exa (Nat.ne_of_lt (Nat.lt_of_lt_of_le (Nat.lt_of_lt_of_le A1167.lt K1168.1) f1169_1)) r1169_0) X1176 J1153 159 536 537 539 538 118 540 e1176 f1169_2 0 pd_13 (kF N1169 fun _ T1194 v1194 X1194 N1194 q1194 => ?_)
          obtain ⟨rfl, K1194, f1194_0, f1194_1, f1194_2, f1194_3, f1194_4⟩ := q1194
          have Sb1194 := Sb1169.keep K1194 (sfS (Safe.exa hZ1153.alike ((A1167.keep K1168).keep K1169) (by decide) (by decide)) (sfS (Safe.keep K1169 (sfS (Safe.exa hZ1153.alike (A1167.keep K1168) (by decide) (by decide)) sf0) Sb1168.ch Sf_r_1169) sf0))
          have O1194 := O1169.keep K1194 (allS g_b1167 (allS g_r_1169 all0))
          have KC1194 := KC1169.trans K1194 (allS (Or.inr sz_b1167) (allS (Or.inr sz_r_1169) all0))
          show G_ 259 _ [(.int 1)]
          refine gy (fun t k => oQ X1194 J1153 160 rfl k) ?_
          have P1196 := (SP.trans (SP.keep K1160 (allS (nsx hw 117 A1159) (allS (nsx hw 49 ((TreeP.exa f1153_4).ext E1159)) all0))) (SP.trans (SP.ext E1167) (SP.trans (SP.keep K1168 (allS (nsx hw 117 A1167) all0)) (SP.trans (SP.keep K1169 (allS (nsx hw 117 (A1167.keep K1168)) all0)) (SP.keep K1194 (allS (nsx hw 117 ((A1167.keep K1168).keep K1169)) (allS (nsa hw f1169_0) all0)))))))
          have c1197 := (SKs.sp P1196 c1161)
          have Sq1195 := c1197
          rw [← hrel, own_s3a hE1172 (by omega)] at Sq1195
          obtain ⟨w1195_0, w1195_1, rfl, G1195_0, G1195_1⟩ := sl2 Sq1195
          obtain rfl : zr_1160 = (2 : Int32) := r1160_0
          obtain rfl : vsr_1160 = [.ref w1195_0, .ref w1195_1] := r1160_1
          show G_ 260 _ []
          refine gy (fun t k => aL X1194 J1153 66 rfl rfl k) ?_
          have c1199 := ((((f1160_1.ext E1167).keep K1168 (ninS (Nat.ne_of_lt (Nat.lt_of_lt_of_le (Nat.lt_of_lt_of_le A1159.lt K1160.1) (Nat.le_of_eq g1167.symm))) nin0)).keep K1169 (ninS (Nat.ne_of_lt (Nat.lt_of_lt_of_le (Nat.lt_of_lt_of_le A1159.lt K1160.1) (Nat.le_of_eq g1167.symm))) nin0)).keep K1194 (ninS (Nat.ne_of_lt (Nat.lt_of_lt_of_le (Nat.lt_of_lt_of_le A1159.lt K1160.1) (Nat.le_of_eq g1167.symm))) (ninS (Nat.ne_of_lt (Nat.lt_of_lt_of_le (Nat.lt_of_lt_of_le A1159.lt (Nat.le_trans K1160.1 (Nat.le_trans E1167.1 K1168.1))) f1169_1)) nin0)))
          have c1200 := ((((f1160_0.ext E1167).keep K1168).keep K1169).keep K1194)
          refine own_cv (rmSize hw G _ _ _ _ O1194 c1199) X1194 J1153 67 254 255 257 256 118 258 rfl c1200 0 pd_11 (kP fun T1198 v1198 X1198 e1198 q1198 => ?_)
          obtain rfl := q1198
          show G_ 265 _ [(.int 2)]
          refine gy (fun t k => aL X1198 J1153 68 rfl rfl k) ?_
          refine own_cv (rmSize hw G _ _ _ _ O1194 f1194_3) X1198 J1153 69 254 255 257 256 118 258 e1198 f1194_1 1 pd_11 (kP fun T1201 v1201 X1201 e1201 q1201 => ?_)
          obtain rfl := q1201
          show G_ 270 _ [(.int 2), (.int 2)]
          refine gy (fun t k => cY X1201 J1153 70 rfl (teq (by decide)).1 275 (cI X1201 J1153 71 rfl 1 (sI X1201 J1153 72 rfl _ k))) ?_
          refine gy (fun t k => aL X1201 J1153 73 rfl rfl k) ?_
          refine own_cv (rmSize hw G _ _ _ _ O1194 f1194_3) X1201 J1153 74 254 255 257 256 118 258 e1201 f1194_1 0 pd_11 (kP fun T1202 v1202 X1202 e1202 q1202 => ?_)
          obtain rfl := q1202
          show G_ 283 _ [(.int 2)]
          refine gy (fun t k => cI X1202 J1153 75 rfl 1 (cN X1202 J1153 76 rfl (flt (by decide)).1 (iL X1202 J1153 95 rfl rfl (fN X1202 J1153 96 rfl ((if0 _ _).trans (feq (by decide)).1) (aL X1202 J1153 97 rfl rfl (cI X1202 J1153 98 rfl 0 k)))))) ?_
          have c1204 := ((((f1160_3.ext E1167).keep K1168 (ninS (Nat.ne_of_lt (Nat.lt_of_lt_of_le f1160_3.lt (Nat.le_of_eq g1167.symm))) nin0)).keep K1169 (ninS (Nat.ne_of_lt (Nat.lt_of_lt_of_le f1160_3.lt (Nat.le_of_eq g1167.symm))) nin0)).keep K1194 (ninS (Nat.ne_of_lt (Nat.lt_of_lt_of_le f1160_3.lt (Nat.le_of_eq g1167.symm))) (ninS (Nat.ne_of_lt (Nat.lt_of_lt_of_le (Nat.lt_of_lt_of_le f1160_3.lt (Nat.le_trans E1167.1 K1168.1)) f1169_1)) nin0)))
          have c1205 := ((((f1160_2.ext E1167).keep K1168 (ninS (Nat.ne_of_lt (Nat.lt_of_lt_of_le (Nat.lt_of_lt_of_le A1159.lt K1160.1) (Nat.le_of_eq g1167.symm))) nin0)).keep K1169 (ninS (Nat.ne_of_lt (Nat.lt_of_lt_of_le (Nat.lt_of_lt_of_le A1159.lt K1160.1) (Nat.le_of_eq g1167.symm))) nin0)).keep K1194 (ninS (Nat.ne_of_lt (Nat.lt_of_lt_of_le (Nat.lt_of_lt_of_le A1159.lt K1160.1) (Nat.le_of_eq g1167.symm))) (ninS (Nat.ne_of_lt (Nat.lt_of_lt_of_le (Nat.lt_of_lt_of_le A1159.lt (Nat.le_trans K1160.1 (Nat.le_trans E1167.1 K1168.1))) f1169_1)) nin0)))
          refine own_cv (rmGet hw G _ ((0 : Int32)) _ _ _ _ _ w1195_0 _ _ O1194 c1200 c1199 (by decide) c1205 c1204 (by decide) (by decide) rfl) X1202 J1153 99 566 567 569 568 118 570 e1202 c1200 0 pd_48 (kP fun T1203 v1203 X1203 e1203 q1203 => ?_)
          obtain rfl := q1203
          show G_ 298 _ [(.ref w1195_0)]
          refine own_cc X1203 J1153 100 36 e1203 (Ins.self G1195_0.exa) (fun T1206 X1206 e1206 => ?_)
          refine gy (fun t k => aL X1206 J1153 101 rfl rfl (cI X1206 J1153 102 rfl 0 k)) ?_
          refine own_cv (rmGet hw G _ ((0 : Int32)) _ _ _ _ _ a1166_0 _ _ O1194 f1194_1 f1194_3 (by decide) f1194_2 f1194_0 (by decide) (by decide) rfl) X1206 J1153 103 566 567 569 568 118 570 e1206 f1194_1 1 pd_48 (kP fun T1207 v1207 X1207 e1207 q1207 => ?_)
          obtain rfl := q1207
          have c1209 := ((SP.keep K1194 (allS (nsx hw 117 ((A1167.keep K1168).keep K1169)) (allS (nsa hw f1169_0) all0))) c1175)
          show G_ 307 _ [(.ref a1166_0), (.ref w1195_0)]
          refine own_cv (rmSE hw G _ _ _ _ _ _ O1194 G1195_0 c1209) X1207 J1153 104 562 303 305 304 12 306 e1207 G1195_0.exa 0 pd_13 (kP fun T1208 v1208 X1208 e1208 q1208 => ?_)
          obtain ⟨r_1208, rfl, r1208_0⟩ := q1208
          obtain rfl : r_1208 = (1 : Int32) := r1208_0.elim (fun q => q.2) (fun q => absurd rfl q.1)
          show G_ 310 _ [(.int 1)]
          refine gy (fun t k => fN X1208 J1153 105 rfl ((if0 _ _).trans (feq (by decide)).1) (cI X1208 J1153 106 rfl 1 (jG X1208 J1153 107 rfl 318 (sI X1208 J1153 108 rfl _ k)))) ?_
          refine gy (fun t k => aL X1208 J1153 77 rfl rfl k) ?_
          refine own_cv (rmSize hw G _ _ _ _ O1194 f1194_3) X1208 J1153 78 254 255 257 256 118 258 e1208 f1194_1 0 pd_11 (kP fun T1210 v1210 X1210 e1210 q1210 => ?_)
          obtain rfl := q1210
          show G_ 325 _ [(.int 2)]
          refine gy (fun t k => cI X1210 J1153 79 rfl 2 (cN X1210 J1153 80 rfl (flt (by decide)).1 (iL X1210 J1153 121 rfl rfl (fN X1210 J1153 122 rfl ((if0 _ _).trans (feq (by decide)).1) (aL X1210 J1153 123 rfl rfl (cI X1210 J1153 124 rfl 1 k)))))) ?_
          refine own_cv (rmGet hw G _ ((1 : Int32)) _ _ _ _ _ w1195_1 _ _ O1194 c1200 c1199 (by decide) c1205 c1204 (by decide) (by decide) rfl) X1210 J1153 125 566 567 569 568 118 570 e1210 c1200 0 pd_48 (kP fun T1211 v1211 X1211 e1211 q1211 => ?_)
          obtain rfl := q1211
          show G_ 340 _ [(.ref w1195_1)]
          refine own_cc X1211 J1153 126 36 e1211 (Ins.self G1195_1.exa) (fun T1212 X1212 e1212 => ?_)
          refine gy (fun t k => aL X1212 J1153 127 rfl rfl (cI X1212 J1153 128 rfl 1 k)) ?_
          refine own_cv (rmGet hw G _ ((1 : Int32)) _ _ _ _ _ a1166_2 _ _ O1194 f1194_1 f1194_3 (by decide) f1194_2 f1194_0 (by decide) (by decide) rfl) X1212 J1153 129 566 567 569 568 118 570 e1212 f1194_1 1 pd_48 (kP fun T1213 v1213 X1213 e1213 q1213 => ?_)
          obtain rfl := q1213
          have c1215 := ((SP.keep K1194 (allS (nsx hw 117 ((A1167.keep K1168).keep K1169)) (allS (nsa hw f1169_0) all0))) c1177)
          show G_ 349 _ [(.ref a1166_2), (.ref w1195_1)]
          refine own_cv (rmSE hw G _ _ _ _ _ _ O1194 G1195_1 c1215) X1213 J1153 130 562 303 305 304 12 306 e1213 G1195_1.exa 0 pd_13 (kP fun T1214 v1214 X1214 e1214 q1214 => ?_)
          obtain ⟨r_1214, rfl, r1214_0⟩ := q1214
          obtain rfl : r_1214 = (1 : Int32) := r1214_0.elim (fun q => q.2) (fun q => absurd rfl q.1)
          show G_ 352 _ [(.int 1)]
          refine gy (fun t k => fN X1214 J1153 131 rfl ((if0 _ _).trans (feq (by decide)).1) (cI X1214 J1153 132 rfl 1 (jG X1214 J1153 133 rfl 360 (sI X1214 J1153 134 rfl _ k)))) ?_
          refine gy (fun t k => aL X1214 J1153 81 rfl rfl k) ?_
          refine own_cv (rmSize hw G _ _ _ _ O1194 f1194_3) X1214 J1153 82 254 255 257 256 118 258 e1214 f1194_1 0 pd_11 (kP fun T1216 v1216 X1216 e1216 q1216 => ?_)
          obtain rfl := q1216
          show G_ 367 _ [(.int 2)]
          refine gy (fun t k => cI X1216 J1153 83 rfl 3 (cY X1216 J1153 84 rfl (tlt (by decide)).1 404 (iL X1216 J1153 85 rfl rfl k))) ?_
          rw [hPf]
          exact Go.retIS X1216 hx hEL Sb1194 e1216 hh hret hlk (by simp) rfl (jd J1153 86 rfl) (by decide) (by decide) ⟨rfl, N1194, (by rw [e1216]; exact KC1194)⟩
      · subst hz1172
        show G_ 225 _ [(.int 0)]
        refine gy (fun t k => fN X1172 J1153 116 rfl ((if0 _ _).trans (teq (by decide)).2) (aL X1172 J1153 117 rfl rfl (aL X1172 J1153 118 rfl rfl k))) ?_
        refine own_cv (rmA1_1 hw G _ _ _ _ _ _ _ _ O1169 f1169_2 f1169_4 f1169_3 f1169_5 g_b1167 g_r_1169 f1169_0 c1174.exa (Nat.ne_of_lt (Nat.lt_of_lt_of_le (Nat.lt_of_lt_of_le A1167.lt K1168.1) f1169_1)) r1169_0) X1172 J1153 119 536 537 539 538 118 540 e1172 f1169_2 0 pd_13 (kF N1169 fun _ T1217 v1217 X1217 N1217 q1217 => ?_)
        obtain ⟨rfl, K1217, f1217_0, f1217_1, f1217_2, f1217_3, f1217_4⟩ := q1217
        have Sb1217 := Sb1169.keep K1217 (sfS (Safe.exa hZ1153.alike ((A1167.keep K1168).keep K1169) (by decide) (by decide)) (sfS (Safe.keep K1169 (sfS (Safe.exa hZ1153.alike (A1167.keep K1168) (by decide) (by decide)) sf0) Sb1168.ch Sf_r_1169) sf0))
        have O1217 := O1169.keep K1217 (allS g_b1167 (allS g_r_1169 all0))
        have KC1217 := KC1169.trans K1217 (allS (Or.inr sz_b1167) (allS (Or.inr sz_r_1169) all0))
        show G_ 235 _ [(.int 1)]
        refine gy (fun t k => oQ X1217 J1153 120 rfl (iL X1217 J1153 63 rfl rfl (cI X1217 J1153 64 rfl 3 (cN X1217 J1153 65 rfl (flt (by decide)).1 (aL X1217 J1153 153 rfl rfl (aL X1217 J1153 154 rfl rfl k)))))) ?_
        have P1219 := (SP.trans (SP.ext E1167) (SP.trans (SP.keep K1168 (allS (nsx hw 117 A1167) all0)) (SP.trans (SP.keep K1169 (allS (nsx hw 117 (A1167.keep K1168)) all0)) (SP.keep K1217 (allS (nsx hw 117 ((A1167.keep K1168).keep K1169)) (allS (nsa hw f1169_0) all0))))))
        have c1220 := (P1219 Sa1166_2)
        have c1221 := ((SP.keep K1217 (allS (nsx hw 117 ((A1167.keep K1168).keep K1169)) (allS (nsa hw f1169_0) all0))) c1174)
        refine own_cv (rmSE hw G _ _ _ _ _ _ O1217 c1220 c1221) X1217 J1153 155 562 303 305 304 12 306 rfl c1220.exa 0 pd_13 (kP fun T1218 v1218 X1218 e1218 q1218 => ?_)
        obtain ⟨r_1218, rfl, r1218_0⟩ := q1218
        rcases r1218_0 with ⟨hE1218, hz1218⟩ | ⟨hE1218, hz1218⟩
        · subst hz1218
          show G_ 249 _ [(.int 1)]
          refine gy (fun t k => fY X1218 J1153 156 rfl ((if0 _ _).trans (feq (by decide)).2) 260 k) ?_
          have P1223 := (SP.trans (SP.keep K1160 (allS (nsx hw 117 A1159) (allS (nsx hw 49 ((TreeP.exa f1153_4).ext E1159)) all0))) (SP.trans (SP.ext E1167) (SP.trans (SP.keep K1168 (allS (nsx hw 117 A1167) all0)) (SP.trans (SP.keep K1169 (allS (nsx hw 117 (A1167.keep K1168)) all0)) (SP.keep K1217 (allS (nsx hw 117 ((A1167.keep K1168).keep K1169)) (allS (nsa hw f1169_0) all0)))))))
          have c1224 := (SKs.sp P1223 c1161)
          have Sq1222 := c1224
          rw [← hrel, own_s3b (by omega) hE1218] at Sq1222
          obtain ⟨w1222_0, w1222_1, rfl, G1222_0, G1222_1⟩ := sl2 Sq1222
          obtain rfl : zr_1160 = (2 : Int32) := r1160_0
          obtain rfl : vsr_1160 = [.ref w1222_0, .ref w1222_1] := r1160_1
          show G_ 260 _ []
          refine gy (fun t k => aL X1218 J1153 66 rfl rfl k) ?_
          have c1226 := ((((f1160_1.ext E1167).keep K1168 (ninS (Nat.ne_of_lt (Nat.lt_of_lt_of_le (Nat.lt_of_lt_of_le A1159.lt K1160.1) (Nat.le_of_eq g1167.symm))) nin0)).keep K1169 (ninS (Nat.ne_of_lt (Nat.lt_of_lt_of_le (Nat.lt_of_lt_of_le A1159.lt K1160.1) (Nat.le_of_eq g1167.symm))) nin0)).keep K1217 (ninS (Nat.ne_of_lt (Nat.lt_of_lt_of_le (Nat.lt_of_lt_of_le A1159.lt K1160.1) (Nat.le_of_eq g1167.symm))) (ninS (Nat.ne_of_lt (Nat.lt_of_lt_of_le (Nat.lt_of_lt_of_le A1159.lt (Nat.le_trans K1160.1 (Nat.le_trans E1167.1 K1168.1))) f1169_1)) nin0)))
          have c1227 := ((((f1160_0.ext E1167).keep K1168).keep K1169).keep K1217)
          refine own_cv (rmSize hw G _ _ _ _ O1217 c1226) X1218 J1153 67 254 255 257 256 118 258 e1218 c1227 0 pd_11 (kP fun T1225 v1225 X1225 e1225 q1225 => ?_)
          obtain rfl := q1225
          show G_ 265 _ [(.int 2)]
          refine gy (fun t k => aL X1225 J1153 68 rfl rfl k) ?_
          refine own_cv (rmSize hw G _ _ _ _ O1217 f1217_3) X1225 J1153 69 254 255 257 256 118 258 e1225 f1217_1 1 pd_11 (kP fun T1228 v1228 X1228 e1228 q1228 => ?_)
          obtain rfl := q1228
          show G_ 270 _ [(.int 2), (.int 2)]
          refine gy (fun t k => cY X1228 J1153 70 rfl (teq (by decide)).1 275 (cI X1228 J1153 71 rfl 1 (sI X1228 J1153 72 rfl _ k))) ?_
          refine gy (fun t k => aL X1228 J1153 73 rfl rfl k) ?_
          refine own_cv (rmSize hw G _ _ _ _ O1217 f1217_3) X1228 J1153 74 254 255 257 256 118 258 e1228 f1217_1 0 pd_11 (kP fun T1229 v1229 X1229 e1229 q1229 => ?_)
          obtain rfl := q1229
          show G_ 283 _ [(.int 2)]
          refine gy (fun t k => cI X1229 J1153 75 rfl 1 (cN X1229 J1153 76 rfl (flt (by decide)).1 (iL X1229 J1153 95 rfl rfl (fN X1229 J1153 96 rfl ((if0 _ _).trans (feq (by decide)).1) (aL X1229 J1153 97 rfl rfl (cI X1229 J1153 98 rfl 0 k)))))) ?_
          have c1231 := ((((f1160_3.ext E1167).keep K1168 (ninS (Nat.ne_of_lt (Nat.lt_of_lt_of_le f1160_3.lt (Nat.le_of_eq g1167.symm))) nin0)).keep K1169 (ninS (Nat.ne_of_lt (Nat.lt_of_lt_of_le f1160_3.lt (Nat.le_of_eq g1167.symm))) nin0)).keep K1217 (ninS (Nat.ne_of_lt (Nat.lt_of_lt_of_le f1160_3.lt (Nat.le_of_eq g1167.symm))) (ninS (Nat.ne_of_lt (Nat.lt_of_lt_of_le (Nat.lt_of_lt_of_le f1160_3.lt (Nat.le_trans E1167.1 K1168.1)) f1169_1)) nin0)))
          have c1232 := ((((f1160_2.ext E1167).keep K1168 (ninS (Nat.ne_of_lt (Nat.lt_of_lt_of_le (Nat.lt_of_lt_of_le A1159.lt K1160.1) (Nat.le_of_eq g1167.symm))) nin0)).keep K1169 (ninS (Nat.ne_of_lt (Nat.lt_of_lt_of_le (Nat.lt_of_lt_of_le A1159.lt K1160.1) (Nat.le_of_eq g1167.symm))) nin0)).keep K1217 (ninS (Nat.ne_of_lt (Nat.lt_of_lt_of_le (Nat.lt_of_lt_of_le A1159.lt K1160.1) (Nat.le_of_eq g1167.symm))) (ninS (Nat.ne_of_lt (Nat.lt_of_lt_of_le (Nat.lt_of_lt_of_le A1159.lt (Nat.le_trans K1160.1 (Nat.le_trans E1167.1 K1168.1))) f1169_1)) nin0)))
          refine own_cv (rmGet hw G _ ((0 : Int32)) _ _ _ _ _ w1222_0 _ _ O1217 c1227 c1226 (by decide) c1232 c1231 (by decide) (by decide) rfl) X1229 J1153 99 566 567 569 568 118 570 e1229 c1227 0 pd_48 (kP fun T1230 v1230 X1230 e1230 q1230 => ?_)
          obtain rfl := q1230
          show G_ 298 _ [(.ref w1222_0)]
          refine own_cc X1230 J1153 100 36 e1230 (Ins.self G1222_0.exa) (fun T1233 X1233 e1233 => ?_)
          refine gy (fun t k => aL X1233 J1153 101 rfl rfl (cI X1233 J1153 102 rfl 0 k)) ?_
          refine own_cv (rmGet hw G _ ((0 : Int32)) _ _ _ _ _ a1166_0 _ _ O1217 f1217_1 f1217_3 (by decide) f1217_2 f1217_0 (by decide) (by decide) rfl) X1233 J1153 103 566 567 569 568 118 570 e1233 f1217_1 1 pd_48 (kP fun T1234 v1234 X1234 e1234 q1234 => ?_)
          obtain rfl := q1234
          have c1236 := ((SP.keep K1217 (allS (nsx hw 117 ((A1167.keep K1168).keep K1169)) (allS (nsa hw f1169_0) all0))) c1175)
          show G_ 307 _ [(.ref a1166_0), (.ref w1222_0)]
          refine own_cv (rmSE hw G _ _ _ _ _ _ O1217 G1222_0 c1236) X1234 J1153 104 562 303 305 304 12 306 e1234 G1222_0.exa 0 pd_13 (kP fun T1235 v1235 X1235 e1235 q1235 => ?_)
          obtain ⟨r_1235, rfl, r1235_0⟩ := q1235
          obtain rfl : r_1235 = (1 : Int32) := r1235_0.elim (fun q => q.2) (fun q => absurd rfl q.1)
          show G_ 310 _ [(.int 1)]
          refine gy (fun t k => fN X1235 J1153 105 rfl ((if0 _ _).trans (feq (by decide)).1) (cI X1235 J1153 106 rfl 1 (jG X1235 J1153 107 rfl 318 (sI X1235 J1153 108 rfl _ k)))) ?_
          refine gy (fun t k => aL X1235 J1153 77 rfl rfl k) ?_
          refine own_cv (rmSize hw G _ _ _ _ O1217 f1217_3) X1235 J1153 78 254 255 257 256 118 258 e1235 f1217_1 0 pd_11 (kP fun T1237 v1237 X1237 e1237 q1237 => ?_)
          obtain rfl := q1237
          show G_ 325 _ [(.int 2)]
          refine gy (fun t k => cI X1237 J1153 79 rfl 2 (cN X1237 J1153 80 rfl (flt (by decide)).1 (iL X1237 J1153 121 rfl rfl (fN X1237 J1153 122 rfl ((if0 _ _).trans (feq (by decide)).1) (aL X1237 J1153 123 rfl rfl (cI X1237 J1153 124 rfl 1 k)))))) ?_
          refine own_cv (rmGet hw G _ ((1 : Int32)) _ _ _ _ _ w1222_1 _ _ O1217 c1227 c1226 (by decide) c1232 c1231 (by decide) (by decide) rfl) X1237 J1153 125 566 567 569 568 118 570 e1237 c1227 0 pd_48 (kP fun T1238 v1238 X1238 e1238 q1238 => ?_)
          obtain rfl := q1238
          show G_ 340 _ [(.ref w1222_1)]
          refine own_cc X1238 J1153 126 36 e1238 (Ins.self G1222_1.exa) (fun T1239 X1239 e1239 => ?_)
          refine gy (fun t k => aL X1239 J1153 127 rfl rfl (cI X1239 J1153 128 rfl 1 k)) ?_
          refine own_cv (rmGet hw G _ ((1 : Int32)) _ _ _ _ _ a1166_1 _ _ O1217 f1217_1 f1217_3 (by decide) f1217_2 f1217_0 (by decide) (by decide) rfl) X1239 J1153 129 566 567 569 568 118 570 e1239 f1217_1 1 pd_48 (kP fun T1240 v1240 X1240 e1240 q1240 => ?_)
          obtain rfl := q1240
          show G_ 349 _ [(.ref a1166_1), (.ref w1222_1)]
          refine own_cv (rmSE hw G _ _ _ _ _ _ O1217 G1222_1 c1221) X1240 J1153 130 562 303 305 304 12 306 e1240 G1222_1.exa 0 pd_13 (kP fun T1241 v1241 X1241 e1241 q1241 => ?_)
          obtain ⟨r_1241, rfl, r1241_0⟩ := q1241
          obtain rfl : r_1241 = (1 : Int32) := r1241_0.elim (fun q => q.2) (fun q => absurd rfl q.1)
          show G_ 352 _ [(.int 1)]
          refine gy (fun t k => fN X1241 J1153 131 rfl ((if0 _ _).trans (feq (by decide)).1) (cI X1241 J1153 132 rfl 1 (jG X1241 J1153 133 rfl 360 (sI X1241 J1153 134 rfl _ k)))) ?_
          refine gy (fun t k => aL X1241 J1153 81 rfl rfl k) ?_
          refine own_cv (rmSize hw G _ _ _ _ O1217 f1217_3) X1241 J1153 82 254 255 257 256 118 258 e1241 f1217_1 0 pd_11 (kP fun T1242 v1242 X1242 e1242 q1242 => ?_)
          obtain rfl := q1242
          show G_ 367 _ [(.int 2)]
          refine gy (fun t k => cI X1242 J1153 83 rfl 3 (cY X1242 J1153 84 rfl (tlt (by decide)).1 404 (iL X1242 J1153 85 rfl rfl k))) ?_
          rw [hPf]
          exact Go.retIS X1242 hx hEL Sb1217 e1242 hh hret hlk (by simp) rfl (jd J1153 86 rfl) (by decide) (by decide) ⟨rfl, N1217, (by rw [e1242]; exact KC1217)⟩
        · subst hz1218
          show G_ 249 _ [(.int 0)]
          refine gy (fun t k => fN X1218 J1153 156 rfl ((if0 _ _).trans (teq (by decide)).2) (aL X1218 J1153 157 rfl rfl (aL X1218 J1153 158 rfl rfl k))) ?_
          refine own_cv (rmA1_2 hw G _ _ _ _ _ _ _ _ _ O1217 f1217_1 f1217_3 f1217_2 f1217_4 g_b1167 g_r_1169 f1217_0 c1220.exa (Nat.ne_of_lt (Nat.lt_of_lt_of_le (Nat.lt_of_lt_of_le A1167.lt K1168.1) f1169_1)) r1169_0) X1218 J1153 159 536 537 539 538 118 540 e1218 f1217_1 0 pd_13 (kF N1217 fun _ T1243 v1243 X1243 N1243 q1243 => ?_)
          obtain ⟨rfl, K1243, f1243_0, f1243_1, f1243_2, f1243_3, f1243_4⟩ := q1243
          have Sb1243 := Sb1217.keep K1243 (sfS (Safe.exa hZ1153.alike (((A1167.keep K1168).keep K1169).keep K1217) (by decide) (by decide)) (sfS (Safe.keep K1217 (sfS (Safe.exa hZ1153.alike ((A1167.keep K1168).keep K1169) (by decide) (by decide)) (sfS (Safe.keep K1169 (sfS (Safe.exa hZ1153.alike (A1167.keep K1168) (by decide) (by decide)) sf0) Sb1168.ch Sf_r_1169) sf0)) Sb1169.ch (Safe.keep K1169 (sfS (Safe.exa hZ1153.alike (A1167.keep K1168) (by decide) (by decide)) sf0) Sb1168.ch Sf_r_1169)) sf0))
          have O1243 := O1217.keep K1243 (allS g_b1167 (allS g_r_1169 all0))
          have KC1243 := KC1217.trans K1243 (allS (Or.inr sz_b1167) (allS (Or.inr sz_r_1169) all0))
          show G_ 259 _ [(.int 1)]
          refine gy (fun t k => oQ X1243 J1153 160 rfl k) ?_
          have P1245 := (SP.trans (SP.keep K1160 (allS (nsx hw 117 A1159) (allS (nsx hw 49 ((TreeP.exa f1153_4).ext E1159)) all0))) (SP.trans (SP.ext E1167) (SP.trans (SP.keep K1168 (allS (nsx hw 117 A1167) all0)) (SP.trans (SP.keep K1169 (allS (nsx hw 117 (A1167.keep K1168)) all0)) (SP.trans (SP.keep K1217 (allS (nsx hw 117 ((A1167.keep K1168).keep K1169)) (allS (nsa hw f1169_0) all0))) (SP.keep K1243 (allS (nsx hw 117 (((A1167.keep K1168).keep K1169).keep K1217)) (allS (nsa hw f1217_0) all0))))))))
          have c1246 := (SKs.sp P1245 c1161)
          have Sq1244 := c1246
          rw [← hrel, own_s3 (by omega) (by omega)] at Sq1244
          obtain ⟨w1244_0, w1244_1, w1244_2, rfl, G1244_0, G1244_1, G1244_2⟩ := sl3 Sq1244
          obtain rfl : zr_1160 = (3 : Int32) := r1160_0
          obtain rfl : vsr_1160 = [.ref w1244_0, .ref w1244_1, .ref w1244_2] := r1160_1
          show G_ 260 _ []
          refine gy (fun t k => aL X1243 J1153 66 rfl rfl k) ?_
          have c1248 := (((((f1160_1.ext E1167).keep K1168 (ninS (Nat.ne_of_lt (Nat.lt_of_lt_of_le (Nat.lt_of_lt_of_le A1159.lt K1160.1) (Nat.le_of_eq g1167.symm))) nin0)).keep K1169 (ninS (Nat.ne_of_lt (Nat.lt_of_lt_of_le (Nat.lt_of_lt_of_le A1159.lt K1160.1) (Nat.le_of_eq g1167.symm))) nin0)).keep K1217 (ninS (Nat.ne_of_lt (Nat.lt_of_lt_of_le (Nat.lt_of_lt_of_le A1159.lt K1160.1) (Nat.le_of_eq g1167.symm))) (ninS (Nat.ne_of_lt (Nat.lt_of_lt_of_le (Nat.lt_of_lt_of_le A1159.lt (Nat.le_trans K1160.1 (Nat.le_trans E1167.1 K1168.1))) f1169_1)) nin0))).keep K1243 (ninS (Nat.ne_of_lt (Nat.lt_of_lt_of_le (Nat.lt_of_lt_of_le A1159.lt K1160.1) (Nat.le_of_eq g1167.symm))) (ninS (Nat.ne_of_lt (Nat.lt_of_lt_of_le (Nat.lt_of_lt_of_le A1159.lt (Nat.le_trans K1160.1 (Nat.le_trans E1167.1 K1168.1))) f1169_1)) nin0)))
          have c1249 := (((((f1160_0.ext E1167).keep K1168).keep K1169).keep K1217).keep K1243)
          refine own_cv (rmSize hw G _ _ _ _ O1243 c1248) X1243 J1153 67 254 255 257 256 118 258 rfl c1249 0 pd_11 (kP fun T1247 v1247 X1247 e1247 q1247 => ?_)
          obtain rfl := q1247
          show G_ 265 _ [(.int 3)]
          refine gy (fun t k => aL X1247 J1153 68 rfl rfl k) ?_
          refine own_cv (rmSize hw G _ _ _ _ O1243 f1243_3) X1247 J1153 69 254 255 257 256 118 258 e1247 f1243_1 1 pd_11 (kP fun T1250 v1250 X1250 e1250 q1250 => ?_)
          obtain rfl := q1250
          show G_ 270 _ [(.int 3), (.int 3)]
          refine gy (fun t k => cY X1250 J1153 70 rfl (teq (by decide)).1 275 (cI X1250 J1153 71 rfl 1 (sI X1250 J1153 72 rfl _ k))) ?_
          refine gy (fun t k => aL X1250 J1153 73 rfl rfl k) ?_
          refine own_cv (rmSize hw G _ _ _ _ O1243 f1243_3) X1250 J1153 74 254 255 257 256 118 258 e1250 f1243_1 0 pd_11 (kP fun T1251 v1251 X1251 e1251 q1251 => ?_)
          obtain rfl := q1251
          show G_ 283 _ [(.int 3)]
          refine gy (fun t k => cI X1251 J1153 75 rfl 1 (cN X1251 J1153 76 rfl (flt (by decide)).1 (iL X1251 J1153 95 rfl rfl (fN X1251 J1153 96 rfl ((if0 _ _).trans (feq (by decide)).1) (aL X1251 J1153 97 rfl rfl (cI X1251 J1153 98 rfl 0 k)))))) ?_
          have c1253 := (((((f1160_3.ext E1167).keep K1168 (ninS (Nat.ne_of_lt (Nat.lt_of_lt_of_le f1160_3.lt (Nat.le_of_eq g1167.symm))) nin0)).keep K1169 (ninS (Nat.ne_of_lt (Nat.lt_of_lt_of_le f1160_3.lt (Nat.le_of_eq g1167.symm))) nin0)).keep K1217 (ninS (Nat.ne_of_lt (Nat.lt_of_lt_of_le f1160_3.lt (Nat.le_of_eq g1167.symm))) (ninS (Nat.ne_of_lt (Nat.lt_of_lt_of_le (Nat.lt_of_lt_of_le f1160_3.lt (Nat.le_trans E1167.1 K1168.1)) f1169_1)) nin0))).keep K1243 (ninS (Nat.ne_of_lt (Nat.lt_of_lt_of_le f1160_3.lt (Nat.le_of_eq g1167.symm))) (ninS (Nat.ne_of_lt (Nat.lt_of_lt_of_le (Nat.lt_of_lt_of_le f1160_3.lt (Nat.le_trans E1167.1 K1168.1)) f1169_1)) nin0)))
          have c1254 := (((((f1160_2.ext E1167).keep K1168 (ninS (Nat.ne_of_lt (Nat.lt_of_lt_of_le (Nat.lt_of_lt_of_le A1159.lt K1160.1) (Nat.le_of_eq g1167.symm))) nin0)).keep K1169 (ninS (Nat.ne_of_lt (Nat.lt_of_lt_of_le (Nat.lt_of_lt_of_le A1159.lt K1160.1) (Nat.le_of_eq g1167.symm))) nin0)).keep K1217 (ninS (Nat.ne_of_lt (Nat.lt_of_lt_of_le (Nat.lt_of_lt_of_le A1159.lt K1160.1) (Nat.le_of_eq g1167.symm))) (ninS (Nat.ne_of_lt (Nat.lt_of_lt_of_le (Nat.lt_of_lt_of_le A1159.lt (Nat.le_trans K1160.1 (Nat.le_trans E1167.1 K1168.1))) f1169_1)) nin0))).keep K1243 (ninS (Nat.ne_of_lt (Nat.lt_of_lt_of_le (Nat.lt_of_lt_of_le A1159.lt K1160.1) (Nat.le_of_eq g1167.symm))) (ninS (Nat.ne_of_lt (Nat.lt_of_lt_of_le (Nat.lt_of_lt_of_le A1159.lt (Nat.le_trans K1160.1 (Nat.le_trans E1167.1 K1168.1))) f1169_1)) nin0)))
          refine own_cv (rmGet hw G _ ((0 : Int32)) _ _ _ _ _ w1244_0 _ _ O1243 c1249 c1248 (by decide) c1254 c1253 (by decide) (by decide) rfl) X1251 J1153 99 566 567 569 568 118 570 e1251 c1249 0 pd_48 (kP fun T1252 v1252 X1252 e1252 q1252 => ?_)
          obtain rfl := q1252
          show G_ 298 _ [(.ref w1244_0)]
          refine own_cc X1252 J1153 100 36 e1252 (Ins.self G1244_0.exa) (fun T1255 X1255 e1255 => ?_)
          refine gy (fun t k => aL X1255 J1153 101 rfl rfl (cI X1255 J1153 102 rfl 0 k)) ?_
          refine own_cv (rmGet hw G _ ((0 : Int32)) _ _ _ _ _ a1166_0 _ _ O1243 f1243_1 f1243_3 (by decide) f1243_2 f1243_0 (by decide) (by decide) rfl) X1255 J1153 103 566 567 569 568 118 570 e1255 f1243_1 1 pd_48 (kP fun T1256 v1256 X1256 e1256 q1256 => ?_)
          obtain rfl := q1256
          have P1258 := (SP.trans (SP.keep K1217 (allS (nsx hw 117 ((A1167.keep K1168).keep K1169)) (allS (nsa hw f1169_0) all0))) (SP.keep K1243 (allS (nsx hw 117 (((A1167.keep K1168).keep K1169).keep K1217)) (allS (nsa hw f1217_0) all0))))
          have c1259 := (P1258 c1175)
          show G_ 307 _ [(.ref a1166_0), (.ref w1244_0)]
          refine own_cv (rmSE hw G _ _ _ _ _ _ O1243 G1244_0 c1259) X1256 J1153 104 562 303 305 304 12 306 e1256 G1244_0.exa 0 pd_13 (kP fun T1257 v1257 X1257 e1257 q1257 => ?_)
          obtain ⟨r_1257, rfl, r1257_0⟩ := q1257
          obtain rfl : r_1257 = (1 : Int32) := r1257_0.elim (fun q => q.2) (fun q => absurd rfl q.1)
          show G_ 310 _ [(.int 1)]
          refine gy (fun t k => fN X1257 J1153 105 rfl ((if0 _ _).trans (feq (by decide)).1) (cI X1257 J1153 106 rfl 1 (jG X1257 J1153 107 rfl 318 (sI X1257 J1153 108 rfl _ k)))) ?_
          refine gy (fun t k => aL X1257 J1153 77 rfl rfl k) ?_
          refine own_cv (rmSize hw G _ _ _ _ O1243 f1243_3) X1257 J1153 78 254 255 257 256 118 258 e1257 f1243_1 0 pd_11 (kP fun T1260 v1260 X1260 e1260 q1260 => ?_)
          obtain rfl := q1260
          show G_ 325 _ [(.int 3)]
          refine gy (fun t k => cI X1260 J1153 79 rfl 2 (cN X1260 J1153 80 rfl (flt (by decide)).1 (iL X1260 J1153 121 rfl rfl (fN X1260 J1153 122 rfl ((if0 _ _).trans (feq (by decide)).1) (aL X1260 J1153 123 rfl rfl (cI X1260 J1153 124 rfl 1 k)))))) ?_
          refine own_cv (rmGet hw G _ ((1 : Int32)) _ _ _ _ _ w1244_1 _ _ O1243 c1249 c1248 (by decide) c1254 c1253 (by decide) (by decide) rfl) X1260 J1153 125 566 567 569 568 118 570 e1260 c1249 0 pd_48 (kP fun T1261 v1261 X1261 e1261 q1261 => ?_)
          obtain rfl := q1261
          show G_ 340 _ [(.ref w1244_1)]
          refine own_cc X1261 J1153 126 36 e1261 (Ins.self G1244_1.exa) (fun T1262 X1262 e1262 => ?_)
          refine gy (fun t k => aL X1262 J1153 127 rfl rfl (cI X1262 J1153 128 rfl 1 k)) ?_
          refine own_cv (rmGet hw G _ ((1 : Int32)) _ _ _ _ _ a1166_1 _ _ O1243 f1243_1 f1243_3 (by decide) f1243_2 f1243_0 (by decide) (by decide) rfl) X1262 J1153 129 566 567 569 568 118 570 e1262 f1243_1 1 pd_48 (kP fun T1263 v1263 X1263 e1263 q1263 => ?_)
          obtain rfl := q1263
          have c1265 := ((SP.keep K1243 (allS (nsx hw 117 (((A1167.keep K1168).keep K1169).keep K1217)) (allS (nsa hw f1217_0) all0))) c1221)
          show G_ 349 _ [(.ref a1166_1), (.ref w1244_1)]
          refine own_cv (rmSE hw G _ _ _ _ _ _ O1243 G1244_1 c1265) X1263 J1153 130 562 303 305 304 12 306 e1263 G1244_1.exa 0 pd_13 (kP fun T1264 v1264 X1264 e1264 q1264 => ?_)
          obtain ⟨r_1264, rfl, r1264_0⟩ := q1264
          obtain rfl : r_1264 = (1 : Int32) := r1264_0.elim (fun q => q.2) (fun q => absurd rfl q.1)
          show G_ 352 _ [(.int 1)]
          refine gy (fun t k => fN X1264 J1153 131 rfl ((if0 _ _).trans (feq (by decide)).1) (cI X1264 J1153 132 rfl 1 (jG X1264 J1153 133 rfl 360 (sI X1264 J1153 134 rfl _ k)))) ?_
          refine gy (fun t k => aL X1264 J1153 81 rfl rfl k) ?_
          refine own_cv (rmSize hw G _ _ _ _ O1243 f1243_3) X1264 J1153 82 254 255 257 256 118 258 e1264 f1243_1 0 pd_11 (kP fun T1266 v1266 X1266 e1266 q1266 => ?_)
          obtain rfl := q1266
          show G_ 367 _ [(.int 3)]
          refine gy (fun t k => cI X1266 J1153 83 rfl 3 (cN X1266 J1153 84 rfl (flt (by decide)).1 (iL X1266 J1153 161 rfl rfl (fN X1266 J1153 162 rfl ((if0 _ _).trans (feq (by decide)).1) (aL X1266 J1153 163 rfl rfl (cI X1266 J1153 164 rfl 2 k)))))) ?_
          refine own_cv (rmGet hw G _ ((2 : Int32)) _ _ _ _ _ w1244_2 _ _ O1243 c1249 c1248 (by decide) c1254 c1253 (by decide) (by decide) rfl) X1266 J1153 165 566 567 569 568 118 570 e1266 c1249 0 pd_48 (kP fun T1267 v1267 X1267 e1267 q1267 => ?_)
          obtain rfl := q1267
          show G_ 382 _ [(.ref w1244_2)]
          refine own_cc X1267 J1153 166 36 e1267 (Ins.self G1244_2.exa) (fun T1268 X1268 e1268 => ?_)
          refine gy (fun t k => aL X1268 J1153 167 rfl rfl (cI X1268 J1153 168 rfl 2 k)) ?_
          refine own_cv (rmGet hw G _ ((2 : Int32)) _ _ _ _ _ a1166_2 _ _ O1243 f1243_1 f1243_3 (by decide) f1243_2 f1243_0 (by decide) (by decide) rfl) X1268 J1153 169 566 567 569 568 118 570 e1268 f1243_1 1 pd_48 (kP fun T1269 v1269 X1269 e1269 q1269 => ?_)
          obtain rfl := q1269
          have c1271 := ((SP.keep K1243 (allS (nsx hw 117 (((A1167.keep K1168).keep K1169).keep K1217)) (allS (nsa hw f1217_0) all0))) c1220)
          show G_ 391 _ [(.ref a1166_2), (.ref w1244_2)]
          refine own_cv (rmSE hw G _ _ _ _ _ _ O1243 G1244_2 c1271) X1269 J1153 170 562 303 305 304 12 306 e1269 G1244_2.exa 0 pd_13 (kP fun T1270 v1270 X1270 e1270 q1270 => ?_)
          obtain ⟨r_1270, rfl, r1270_0⟩ := q1270
          obtain rfl : r_1270 = (1 : Int32) := r1270_0.elim (fun q => q.2) (fun q => absurd rfl q.1)
          show G_ 394 _ [(.int 1)]
          refine gy (fun t k => fN X1270 J1153 171 rfl ((if0 _ _).trans (feq (by decide)).1) (cI X1270 J1153 172 rfl 1 (jG X1270 J1153 173 rfl 402 (sI X1270 J1153 174 rfl _ (iL X1270 J1153 85 rfl rfl k))))) ?_
          rw [hPf]
          exact Go.retIS X1270 hx hEL Sb1243 e1270 hh hret hlk (by simp) rfl (jd J1153 86 rfl) (by decide) (by decide) ⟨rfl, N1243, (by rw [e1270]; exact KC1243)⟩
    refine gy (fun t k => iL X1160 J1153 44 rfl rfl (cI X1160 J1153 45 rfl 2 (cN X1160 J1153 46 rfl (flt (by decide)).1 (aL X1160 J1153 135 rfl rfl (aL X1160 J1153 136 rfl rfl k))))) ?_
    refine own_cs (rmCm hw G _ _ _ _ _ _ O1160 c1163 c1164) X1160 J1153 137 517 518 2 519 rfl 0 pd_61 (kP fun T1272 v1272 X1272 e1272 q1272 => ?_)
    obtain ⟨r_1272, rfl, r1272_0⟩ := q1272
    show G_ 118 #[vi iA, vi iB, vi iC, vi iD, vi iE, vi iF, vi 3, vr r_1014, vr r_1015, vr r_1016, vr b1140, vr r_1153, vr b1159, vr r_1014, vr r_1015, vr r_1016, uS, uS, uS] [(.int r_1272)]
    by_cases hc1273 : (0 : Int32) < r_1272
    · refine gy (fun t k => fN X1272 J1153 138 rfl ((if0 _ _).trans (tlt hc1273).2.2.2) (aL X1272 J1153 139 rfl rfl (sA X1272 J1153 140 rfl _ k))) ?_
      refine gy (fun t k => aL X1272 J1153 141 rfl rfl (sA X1272 J1153 142 rfl _ k)) ?_
      refine gy (fun t k => aL X1272 J1153 143 rfl rfl (sA X1272 J1153 144 rfl _ k)) ?_
      have ho1274 := r1272_0.up hc1273
      refine gy (fun t k => iL X1272 J1153 47 rfl rfl (cI X1272 J1153 48 rfl 3 (cN X1272 J1153 49 rfl (flt (by decide)).1 (aL X1272 J1153 175 rfl rfl (aL X1272 J1153 176 rfl rfl k))))) ?_
      refine own_cs (rmCm hw G _ _ _ _ _ _ O1160 c1163 c1165) X1272 J1153 177 517 518 2 519 e1272 0 pd_61 (kP fun T1275 v1275 X1275 e1275 q1275 => ?_)
      obtain ⟨r_1275, rfl, r1275_0⟩ := q1275
      show G_ 146 #[vi iA, vi iB, vi iC, vi iD, vi iE, vi iF, vi 3, vr r_1014, vr r_1015, vr r_1016, vr b1140, vr r_1153, vr b1159, vr r_1015, vr r_1014, vr r_1016, vr r_1014, uS, uS] [(.int r_1275)]
      by_cases hc1276 : (0 : Int32) < r_1275
      · refine gy (fun t k => fN X1275 J1153 178 rfl ((if0 _ _).trans (tlt hc1276).2.2.2) (aL X1275 J1153 179 rfl rfl (sA X1275 J1153 180 rfl _ k))) ?_
        refine gy (fun t k => aL X1275 J1153 181 rfl rfl (sA X1275 J1153 182 rfl _ k)) ?_
        refine gy (fun t k => aL X1275 J1153 183 rfl rfl (sA X1275 J1153 184 rfl _ k)) ?_
        have ho1277 := r1275_0.up hc1276
        refine gy (fun t k => iL X1275 J1153 50 rfl rfl (cI X1275 J1153 51 rfl 2 (cN X1275 J1153 52 rfl (flt (by decide)).1 (aL X1275 J1153 145 rfl rfl (aL X1275 J1153 146 rfl rfl k))))) ?_
        refine own_cs (rmCm hw G _ _ _ _ _ _ O1160 c1164 c1165) X1275 J1153 147 517 518 2 519 e1275 0 pd_61 (kP fun T1278 v1278 X1278 e1278 q1278 => ?_)
        obtain ⟨r_1278, rfl, r1278_0⟩ := q1278
        show G_ 174 #[vi iA, vi iB, vi iC, vi iD, vi iE, vi iF, vi 3, vr r_1014, vr r_1015, vr r_1016, vr b1140, vr r_1153, vr b1159, vr r_1015, vr r_1016, vr r_1014, vr r_1014, uS, uS] [(.int r_1278)]
        by_cases hc1279 : (0 : Int32) < r_1278
        · refine gy (fun t k => fN X1278 J1153 148 rfl ((if0 _ _).trans (tlt hc1279).2.2.2) (aL X1278 J1153 185 rfl rfl (sA X1278 J1153 186 rfl _ k))) ?_
          refine gy (fun t k => aL X1278 J1153 187 rfl rfl (sA X1278 J1153 188 rfl _ k)) ?_
          refine gy (fun t k => aL X1278 J1153 189 rfl rfl (sA X1278 J1153 190 rfl _ k)) ?_
          have ho1280 := r1278_0.up hc1279
          exact jn1166 T1278 (vr r_1015) r_1016 r_1015 r_1014 ky_1016 ky_1015 ky_1014 X1278 e1278 c1165 c1164 c1163 (by omega) (by omega) (by rw [ins_comm ky_1015 ky_1016, ins_comm ky_1014 ky_1016, ins_comm ky_1014 ky_1015])
        · refine gy (fun t k => fY X1278 J1153 148 rfl ((if0 _ _).trans (flt hc1279).2.2.2) 189 k) ?_
          have ho1281 := r1278_0.le hc1279
          exact jn1166 T1278 (vr r_1014) r_1015 r_1016 r_1014 ky_1015 ky_1016 ky_1014 X1278 e1278 c1164 c1165 c1163 (by omega) (by omega) (by rw [ins_comm ky_1014 ky_1016, ins_comm ky_1014 ky_1015])
      · refine gy (fun t k => fY X1275 J1153 178 rfl ((if0 _ _).trans (flt hc1276).2.2.2) 161 k) ?_
        have ho1282 := r1275_0.le hc1276
        refine gy (fun t k => iL X1275 J1153 50 rfl rfl (cI X1275 J1153 51 rfl 2 (cN X1275 J1153 52 rfl (flt (by decide)).1 (aL X1275 J1153 145 rfl rfl (aL X1275 J1153 146 rfl rfl k))))) ?_
        refine own_cs (rmCm hw G _ _ _ _ _ _ O1160 c1164 c1163) X1275 J1153 147 517 518 2 519 e1275 0 pd_61 (kP fun T1283 v1283 X1283 e1283 q1283 => ?_)
        obtain ⟨r_1283, rfl, r1283_0⟩ := q1283
        show G_ 174 #[vi iA, vi iB, vi iC, vi iD, vi iE, vi iF, vi 3, vr r_1014, vr r_1015, vr r_1016, vr b1140, vr r_1153, vr b1159, vr r_1015, vr r_1014, vr r_1016, vr r_1014, uS, uS] [(.int r_1283)]
        refine gy (fun t k => fY X1283 J1153 148 rfl ((if0 _ _).trans (flt (r1283_0.ngt (by omega))).2.2.2) 189 k) ?_
        exact jn1166 T1283 (vr r_1014) r_1015 r_1014 r_1016 ky_1015 ky_1014 ky_1016 X1283 e1283 c1164 c1163 c1165 (by omega) (by omega) (by rw [ins_comm ky_1014 ky_1015])
    · refine gy (fun t k => fY X1272 J1153 138 rfl ((if0 _ _).trans (flt hc1273).2.2.2) 133 k) ?_
      have ho1284 := r1272_0.le hc1273
      refine gy (fun t k => iL X1272 J1153 47 rfl rfl (cI X1272 J1153 48 rfl 3 (cN X1272 J1153 49 rfl (flt (by decide)).1 (aL X1272 J1153 175 rfl rfl (aL X1272 J1153 176 rfl rfl k))))) ?_
      refine own_cs (rmCm hw G _ _ _ _ _ _ O1160 c1164 c1165) X1272 J1153 177 517 518 2 519 e1272 0 pd_61 (kP fun T1285 v1285 X1285 e1285 q1285 => ?_)
      obtain ⟨r_1285, rfl, r1285_0⟩ := q1285
      show G_ 146 #[vi iA, vi iB, vi iC, vi iD, vi iE, vi iF, vi 3, vr r_1014, vr r_1015, vr r_1016, vr b1140, vr r_1153, vr b1159, vr r_1014, vr r_1015, vr r_1016, uS, uS, uS] [(.int r_1285)]
      by_cases hc1286 : (0 : Int32) < r_1285
      · refine gy (fun t k => fN X1285 J1153 178 rfl ((if0 _ _).trans (tlt hc1286).2.2.2) (aL X1285 J1153 179 rfl rfl (sA X1285 J1153 180 rfl _ k))) ?_
        refine gy (fun t k => aL X1285 J1153 181 rfl rfl (sA X1285 J1153 182 rfl _ k)) ?_
        refine gy (fun t k => aL X1285 J1153 183 rfl rfl (sA X1285 J1153 184 rfl _ k)) ?_
        have ho1287 := r1285_0.up hc1286
        refine gy (fun t k => iL X1285 J1153 50 rfl rfl (cI X1285 J1153 51 rfl 2 (cN X1285 J1153 52 rfl (flt (by decide)).1 (aL X1285 J1153 145 rfl rfl (aL X1285 J1153 146 rfl rfl k))))) ?_
        refine own_cs (rmCm hw G _ _ _ _ _ _ O1160 c1163 c1165) X1285 J1153 147 517 518 2 519 e1285 0 pd_61 (kP fun T1288 v1288 X1288 e1288 q1288 => ?_)
        obtain ⟨r_1288, rfl, r1288_0⟩ := q1288
        show G_ 174 #[vi iA, vi iB, vi iC, vi iD, vi iE, vi iF, vi 3, vr r_1014, vr r_1015, vr r_1016, vr b1140, vr r_1153, vr b1159, vr r_1014, vr r_1016, vr r_1015, vr r_1015, uS, uS] [(.int r_1288)]
        by_cases hc1289 : (0 : Int32) < r_1288
        · refine gy (fun t k => fN X1288 J1153 148 rfl ((if0 _ _).trans (tlt hc1289).2.2.2) (aL X1288 J1153 185 rfl rfl (sA X1288 J1153 186 rfl _ k))) ?_
          refine gy (fun t k => aL X1288 J1153 187 rfl rfl (sA X1288 J1153 188 rfl _ k)) ?_
          refine gy (fun t k => aL X1288 J1153 189 rfl rfl (sA X1288 J1153 190 rfl _ k)) ?_
          have ho1290 := r1288_0.up hc1289
          exact jn1166 T1288 (vr r_1014) r_1016 r_1014 r_1015 ky_1016 ky_1014 ky_1015 X1288 e1288 c1165 c1163 c1164 (by omega) (by omega) (by rw [ins_comm ky_1014 ky_1016, ins_comm ky_1015 ky_1016])
        · refine gy (fun t k => fY X1288 J1153 148 rfl ((if0 _ _).trans (flt hc1289).2.2.2) 189 k) ?_
          have ho1291 := r1288_0.le hc1289
          exact jn1166 T1288 (vr r_1015) r_1014 r_1016 r_1015 ky_1014 ky_1016 ky_1015 X1288 e1288 c1163 c1165 c1164 (by omega) (by omega) (by rw [ins_comm ky_1015 ky_1016])
      · refine gy (fun t k => fY X1285 J1153 178 rfl ((if0 _ _).trans (flt hc1286).2.2.2) 161 k) ?_
        have ho1292 := r1285_0.le hc1286
        refine gy (fun t k => iL X1285 J1153 50 rfl rfl (cI X1285 J1153 51 rfl 2 (cN X1285 J1153 52 rfl (flt (by decide)).1 (aL X1285 J1153 145 rfl rfl (aL X1285 J1153 146 rfl rfl k))))) ?_
        refine own_cs (rmCm hw G _ _ _ _ _ _ O1160 c1163 c1164) X1285 J1153 147 517 518 2 519 e1285 0 pd_61 (kP fun T1293 v1293 X1293 e1293 q1293 => ?_)
        obtain ⟨r_1293, rfl, r1293_0⟩ := q1293
        show G_ 174 #[vi iA, vi iB, vi iC, vi iD, vi iE, vi iF, vi 3, vr r_1014, vr r_1015, vr r_1016, vr b1140, vr r_1153, vr b1159, vr r_1014, vr r_1015, vr r_1016, uS, uS, uS] [(.int r_1293)]
        refine gy (fun t k => fY X1293 J1153 148 rfl ((if0 _ _).trans (flt (r1293_0.ngt (by omega))).2.2.2) 189 k) ?_
        exact jn1166 T1293 (uS) r_1014 r_1015 r_1016 ky_1014 ky_1015 ky_1016 X1293 e1293 c1163 c1164 c1165 (by omega) (by omega) rfl
theorem comes_1 {Post : Tables → Env → Array Value → State → Outcome → State → Prop} (hpost : ∀ tb e args s v u, (limb_1_1.after args s (.returned v) u = true ∧ limb_1_2.after args s (.returned v) u = true ∧ True) → FramedW s (.returned v) u (Jvm.fieldLocs frame_1_writes args s ++ Jvm.arrayLocs frame_1_arrays args s ++ Jvm.staticLocs frame_1_statics s) 64 2304 → Post tb e args s (.returned v) u) :
    ArmFor flags0 classFile x code maxLocals ret World_1 tables_1 room_1 Calls_1 rest_1 Pre_1 Post := by
  intro l hfl _ _ p e ha hc hk s m args below hf hA hF happ hP
  obtain ⟨hcalls, hrest, hpre⟩ := hP
  obtain ⟨-, -, -, hnamed, -, -, -, hat⟩ := (Spec.applies_iff hf).mp happ
  obtain ⟨hg, hn⟩ := and_e (Cond.before_iff.mp (show (Jvm.Cond.and given_1 narrow_1).before args s = true from hpre))
  obtain ⟨ga1, gb1⟩ := and_e hg
  obtain ⟨ga2, gb2⟩ := and_e gb1
  obtain ⟨ga3, gb3⟩ := and_e gb2
  obtain ⟨ga4, gb4⟩ := and_e gb3
  obtain ⟨ga5, gb5⟩ := and_e gb4
  obtain ⟨ga6, gb6⟩ := and_e gb5
  obtain ⟨w0, w1, w2, w3, w4, w5, rfl⟩ : ∃ w0 w1 w2 w3 w4 w5 : Value, args = #[w0, w1, w2, w3, w4, w5] := by
    have hs : args.size = 6 := by simpa [Cond.value, given_1] using ga1
    obtain ⟨L⟩ := args
    match L, hs with
    | [w0, w1, w2, w3, w4, w5], _ => exact ⟨w0, w1, w2, w3, w4, w5, rfl⟩
  have hw := fun d (hd : d ∈ tables_1) => atoms_spec (ws := Jvm.Cond.code x code maxLocals ret :: tables_1) hat d (List.mem_cons_of_mem _ hd)
  have hfit : Fit s := fun {y c} hc i hi => by
    obtain ⟨ha, rfl⟩ := Array.getElem?_eq_some_iff.mp hc
    have q := List.all_eq_true.mp ((Array.all_eq_true_iff_forall_mem.mp hF) _ (Array.getElem_mem ha)) i (List.mem_range.mpr hi)
    simpa [Array.getElem?_eq_getElem hi] using q
  obtain ⟨hsets, hown0⟩ := atoms_of _ (rest_1_c_eq ▸ (show rest_1_c.before _ s = true from hrest))
  obtain ⟨iA, ei0⟩ := is_v ga2
  obtain rfl : w0 = (.int iA) := Option.some.inj ei0
  obtain ⟨iB, ei1⟩ := is_v ga3
  obtain rfl : w1 = (.int iB) := Option.some.inj ei1
  obtain ⟨iC, ei2⟩ := is_v ga4
  obtain rfl : w2 = (.int iC) := Option.some.inj ei2
  obtain ⟨iD, ei3⟩ := is_v ga5
  obtain rfl : w3 = (.int iD) := Option.some.inj ei3
  obtain ⟨iE, ei4⟩ := is_v ga6
  obtain rfl : w4 = (.int iE) := Option.some.inj ei4
  obtain ⟨iF, ei5⟩ := is_v gb6
  obtain rfl : w5 = (.int iF) := Option.some.inj ei5
  obtain ⟨vcs, evcs⟩ := is_v (Cond.before_iff.mp (hsets _ (List.mem_of_getElem? (i := 1) rfl)))
  have Scs := Sta.start evcs (Or.inl (hsets _ (List.mem_of_getElem? (i := 0) rfl)))
  have Ncs : ¬ (vcs = (0 : Int32)) := gotF (Cond.eq_ints evcs (Term.int_eval _)) (not_v (Cond.before_iff.mp (hsets _ (List.mem_of_getElem? (i := 2) rfl))))
  obtain ⟨wI, evwI⟩ := exa_v (Cond.before_iff.mp (hsets _ (List.mem_of_getElem? (i := 20) rfl)))
  have SwI := Sta.start evwI (Or.inl (hsets _ (List.mem_of_getElem? (i := 19) rfl)))
  have AwI := Exa.start evwI (Cond.before_iff.mp (hsets _ (List.mem_of_getElem? (i := 20) rfl)))
  obtain ⟨wA, evA⟩ := exa_v (Cond.before_iff.mp (hsets _ (List.mem_of_getElem? (i := 24) rfl)))
  have SA_ := Sta.start evA (Or.inl (hsets _ (List.mem_of_getElem? (i := 22) rfl)))
  obtain ⟨cA, ArA⟩ := Arr.start evA (Cond.before_iff.mp (hsets _ (List.mem_of_getElem? (i := 23) rfl)))
  obtain ⟨zA, lA⟩ := own_len evA ArA (eqv_i (Term.int_eval _) (Cond.before_iff.mp (hsets _ (List.mem_of_getElem? (i := 25) rfl))))
  have TA_ : TA s wA cA := own_TA evA ArA zA lA hsets
  obtain ⟨vF, evvF, ervF⟩ := isR_v (Cond.before_iff.mp (hsets _ (List.mem_of_getElem? (i := 8) rfl)))
  have SvF := Sta.start evvF (Or.inl (hsets _ (List.mem_of_getElem? (i := 7) rfl)))
  obtain ⟨wP, evwP⟩ := exa_v (Cond.before_iff.mp (hsets _ (List.mem_of_getElem? (i := 284) rfl)))
  have SwP := Sta.start evwP (Or.inl (hsets _ (List.mem_of_getElem? (i := 283) rfl)))
  have AwP := Exa.start evwP (Cond.before_iff.mp (hsets _ (List.mem_of_getElem? (i := 284) rfl)))
  obtain ⟨wD, evwD⟩ := exa_v (Cond.before_iff.mp (hsets _ (List.mem_of_getElem? (i := 16) rfl)))
  have SwD := Sta.start evwD (Or.inr ⟨(hw _ (List.mem_of_getElem? (i := 118) rfl)), (hsets _ (List.mem_of_getElem? (i := 11) rfl))⟩)
  have AwD := Exa.start evwD (Cond.before_iff.mp (hsets _ (List.mem_of_getElem? (i := 16) rfl)))
  obtain ⟨cD, ArD⟩ := Arr.start evwD (Cond.before_iff.mp (hsets _ (List.mem_of_getElem? (i := 15) rfl)))
  obtain ⟨zD, lD⟩ := own_len evwD ArD (eqv_i (Term.int_eval _) (Cond.before_iff.mp (hsets _ (List.mem_of_getElem? (i := 17) rfl))))
  have VD : Arv s s.heap wD cD.cls (.object S_2) (0 : Int32) [] Value.null := Arv.start hfit ArD zD lD (by decide) rfl trivial
  obtain ⟨kD, hkD⟩ : ∃ k, k = cD.cls := ⟨_, rfl⟩
  rw [← hkD] at VD
  obtain ⟨wE, evwE⟩ := exa_v (Cond.before_iff.mp (hsets _ (List.mem_of_getElem? (i := 13) rfl)))
  have SwE := Sta.start evwE (Or.inl (hsets _ (List.mem_of_getElem? (i := 10) rfl)))
  have AwE := Exa.start evwE (Cond.before_iff.mp (hsets _ (List.mem_of_getElem? (i := 13) rfl)))
  obtain ⟨cE, ArE⟩ := Arr.start evwE (Cond.before_iff.mp (hsets _ (List.mem_of_getElem? (i := 12) rfl)))
  obtain ⟨zE, lE⟩ := own_len evwE ArE (eqv_i (Term.int_eval _) (Cond.before_iff.mp (hsets _ (List.mem_of_getElem? (i := 14) rfl))))
  have VE : Arv s s.heap wE cE.cls (.object S_2) (0 : Int32) [] Value.null := Arv.start hfit ArE zE lE (by decide) rfl trivial
  obtain ⟨kE, hkE⟩ : ∃ k, k = cE.cls := ⟨_, rfl⟩
  rw [← hkE] at VE
  obtain ⟨mT, MmT⟩ := own_mir (show Jvm.D.MirrorMade s S_8 from hcalls.1)
  obtain ⟨mU, MmU⟩ := own_mir (show Jvm.D.MirrorMade s S_15 from hcalls.2.1)
  obtain ⟨mL, MmL⟩ := own_mir (show Jvm.D.MirrorMade s S_4 from hcalls.2.2.1)
  obtain ⟨mO, MmO⟩ := own_mir (show Jvm.D.MirrorMade s S_9 from hcalls.2.2.2.1)
  have G : Gh s vcs wI wA cA vF wP wD kD wE kE mT mU mL mO := ⟨Scs, Ncs, SwI, AwI, SA_, TA_, SvF, ervF, SwP, AwP, SwD, AwD, VD, SwE, AwE, VE, MmT, MmU, MmL, MmO, own_mne MmT MmU (by decide), own_mne MmT MmL (by decide), own_mne MmU MmL (by decide)⟩
  have hCH0 : CHv s consts_1 s.vm s.heap := CHv.start (own_EW hw) hcalls.2.2.2.2.1 (hsets _ (List.mem_of_getElem? (i := 2) rfl)) (hw _ (List.mem_of_getElem? (i := 24) rfl)) (hw _ (List.mem_of_getElem? (i := 20) rfl))
  obtain ⟨n, o, h1, h2, h3, _, L, rfl, hQ, hq⟩ := rm0 l s _ hw tables_1 vcs wI wA cA vF wP wD kD wE kE mT mU mL mO G iA iB iC iD iE iF s.heap s.heap.size (Old.start s)  p e ha hc hk s m _ below hf ((Spec.applies_iff_loose hf).mp happ).1 ⟨rfl, State.Warmed39.refl s, rfl, hCH0, fun _ q => nomatch q⟩ trivial
  obtain ⟨rfl, N, -⟩ := hQ
  refine ⟨n, _, h1, h2, h3, hpost _ _ _ _ _ _ ⟨Cond.after_iff.mpr rfl, Cond.after_iff.mpr (eq_i res_at (Term.int_eval (1)) rfl), trivial⟩ ⟨hq.2.1, hq.2.2.1, hq.2.2.2.1, (hq.2.2.2.2.sift fun y hy => Or.inr (N y hy)).mono (by decide) (by decide)⟩⟩
theorem main_1_1 : Claimed_1_1 := comes_1 fun _ _ _ _ _ _ h hF => ⟨h.1, hF⟩
theorem main_1_2 : Claimed_1_2 := comes_1 fun _ _ _ _ _ _ h hF => ⟨h.2.1, hF⟩
end Jvm.Pilot.@@N@@
namespace Jvm.Pilot.@@N@@
open Jvm Jvm.ClassFile Sem Op Lib Jvm.Free Jvm.Stand Jvm.Pilot.@@N@@.Jvm.D
abbrev W_1 : String := "<init>"
abbrev W_2 : String := "()V"
abbrev W_3 : String := "serialVersionUID"
abbrev W_4 : String := "()Ljava/util/Iterator;"
abbrev W_5 : String := "compareTo"
abbrev W_6 : String := "(Ljava/lang/Object;)Z"
abbrev W_7 : String := "java/io/Serializable"
abbrev W_8 : String := "checkIndex"
abbrev W_9 : String := "$assertionsDisabled"
abbrev W_10 : String := "()[Ljava/lang/Object;"
abbrev W_11 : String := "iterator"
abbrev W_12 : String := "java/util/NavigableSet"
abbrev W_13 : String := "java/util/Map"
abbrev W_14 : String := "java/util/function/BiFunction"
abbrev W_15 : String := "(Ljava/util/Collection;)V"
abbrev W_16 : String := "()Ljava/lang/String;"
abbrev W_17 : String := "navigableKeySet"
abbrev W_18 : String := "(Ljava/util/TreeMap$Entry;)Ljava/util/TreeMap$Entry;"
abbrev W_19 : String := "java/util/List"
abbrev W_20 : String := "java/io/PrintStream"
abbrev W_21 : String := "(Ljava/lang/Object;)I"
abbrev W_22 : String := "java/lang/Math"
abbrev W_23 : String := "java/util/Collections"
abbrev W_24 : String := "()Ljava/lang/Object;"
abbrev W_25 : String := "java/lang/Cloneable"
abbrev W_26 : String := "(Ljava/util/NavigableMap;)V"
abbrev W_27 : String := "()Ljava/util/NavigableSet;"
abbrev W_28 : String := "(Ljava/lang/Object;Ljava/lang/Object;)Ljava/lang/Object;"
abbrev W_29 : String := "()Ljava/util/TreeMap$Entry;"
abbrev W_30 : String := "(Ljava/util/TreeMap;Ljava/util/TreeMap$Entry;)V"
abbrev W_31 : String := "()Ljava/lang/Class;"
abbrev W_32 : String := "java/lang/Class"
abbrev W_33 : String := "(I)Ljava/lang/Object;"
abbrev W_34 : String := "java/lang/Comparable"
abbrev W_35 : String := "java/lang/CharSequence"
abbrev W_36 : String := "jdk/internal/util/ArraysSupport"
abbrev W_37 : String := "jdk/internal/util/Preconditions"
abbrev W_38 : String := "(IILjava/util/function/BiFunction;)I"
abbrev W_39 : String := "(Ljava/lang/String;)Z"
abbrev W_40 : String := "java/util/AbstractSet"
abbrev W_41 : String := "java/util/SequencedCollection"
abbrev W_42 : String := "java/util/Map$Entry"
abbrev W_43 : String := "java/util/Objects"
abbrev W_44 : String := "(Ljava/util/TreeMap$Entry;)V"
abbrev W_45 : String := "java/io/InputStream"
abbrev W_46 : String := "com/example/usher/usher/Profiles"
abbrev W_47 : String := "([Ljava/lang/String;)Ljava/util/Set;"
abbrev W_48 : String := "(C)Ljava/lang/String;"
abbrev W_49 : String := "java/lang/constant/Constable"
abbrev W_50 : String := "java/lang/constant/ConstantDesc"
abbrev W_51 : String := "java/lang/StringUTF16"
abbrev W_52 : String := "(Ljava/lang/CharSequence;)Z"
abbrev W_53 : String := "(Ljava/lang/String;)I"
abbrev W_54 : String := "([B)Ljava/lang/String;"
abbrev W_55 : String := "(Ljava/util/Set;)Ljava/util/Set;"
abbrev W_56 : String := "java/util/SequencedSet"
abbrev W_57 : String := "java/util/AbstractMap"
abbrev W_58 : String := "java/util/SequencedMap"
abbrev W_59 : String := "(Ljava/lang/Object;)Ljava/lang/Object;"
abbrev W_60 : String := "(Ljava/lang/Object;Ljava/lang/Object;Ljava/util/TreeMap$Entry;)V"
abbrev W_61 : String := "java/util/TreeMap$EntrySet"
abbrev W_62 : String := "java/util/RandomAccess"
abbrev W_63 : String := "([Ljava/lang/Object;ILjava/lang/Class;)[Ljava/lang/Object;"
abbrev W_64 : String := "java/lang/CharacterData"
abbrev W_65 : String := "(Ljava/lang/Object;ILjava/lang/Object;II)V"
abbrev W_66 : String := "(Ljava/lang/String;Ljava/lang/String;)I"
abbrev W_67 : String := "(Ljava/lang/Object;Ljava/lang/Object;)I"
abbrev W_68 : String := "(Ljava/lang/Object;Ljava/lang/Object;Z)Ljava/lang/Object;"
abbrev W_69 : String := "(Ljava/lang/Object;Ljava/lang/Object;)V"
abbrev W_70 : String := "(Ljava/lang/Object;Ljava/lang/Object;Ljava/util/TreeMap$Entry;Z)V"
abbrev W_71 : String := "(Ljava/lang/Object;[Ljava/lang/Object;I)V"
/-! MADE BY PROGRAM (witnessworld.py) out of the Statement's table words and the real class files: 58 classes; the members and pool entries that the words name. The judged class is class 1, her method 1. -/
namespace start1
open Jvm.ClassFile
def u (s : String) : CpInfo := .utf8 (stringToUtf16 s)
def gap : Nat → List CpInfo → List CpInfo
  | 0, r => r
  | n + 1, r => .unusable :: gap n r
def poolList (es : List (Nat × CpInfo)) (last : Nat) : List CpInfo := es.foldr (fun e r => gap e.1 (e.2 :: r)) (gap last [])
def pool (es : List (Nat × CpInfo)) (last : Nat) : Array CpInfo := ⟨poolList es last⟩
def fileOf (pool : Array CpInfo) (this : Nat) (attrs : Array Attribute := #[]) (ms : Array MethodInfo := #[]) (fl : Nat := 33) (sup : Nat := 0) (ifs : Array Nat := #[]) (fds : Array FieldInfo := #[]) : ClassFile where
  minorVersion := 0
  majorVersion := 65
  constantPool := pool
  accessFlags := fl
  thisClass := this
  superClass := sup
  interfaces := ifs
  fields := fds
  methods := ms
  attributes := attrs
def plain (name : String) (sup : Option ClassId) : Class where
  name := name
  kind := .ordinary
  loader := none
  accessFlags := 33
  super := sup
  interfaces := #[]
  cf := none
  fields := #[]
  methods := #[]
  instanceTypes := #[]
  staticTypes := #[]
  resolved := #[]
  callSites := []
  init := .initialized
  statics := none
  mirror := none
def pool0 : Array CpInfo := pool [(5, u W_1), (0, u W_2), (1, .class_ 10), (1, u S_2), (0, u "getClass"), (0, u W_31)] 111
def k0c0 : Code := ⟨0, 1, object_method_1_code, #[], #[]⟩
def k0m0 : Method := ⟨W_1, W_2, ⟨[], none⟩, 1, some k0c0⟩
def k0m1 : Method := ⟨"getClass", W_31, ⟨[], some (.object W_32)⟩, 273, none⟩
def k0 : Class := { plain S_2 none with
  accessFlags := 33
  interfaces := #[]
  cf := some (fileOf pool0 8 #[] #[⟨1, 5, 6, #[]⟩, ⟨273, 11, 12, #[]⟩] 33 0 #[] #[])
  fields := #[]
  methods := #[k0m0, k0m1]
  instanceTypes := #[]
  staticTypes := #[]
  resolved := Array.replicate 124 none
  statics := none }
def pool1 : Array CpInfo := pool [(2, .class_ 4), (0, .nameAndType 5 6), (0, u S_2), (0, u W_1), (0, u W_2), (0, .methodref 8 9), (0, .class_ 10), (0, .nameAndType 11 12), (0, u S_26), (0, u "name"), (0, u "(II)Ljava/lang/String;"), (0, .class_ 14), (0, u S_3), (0, .methodref 16 17), (0, .class_ 18), (0, .nameAndType 19 20), (0, u W_46), (0, u "of"), (0, u W_47), (0, .class_ 22), (0, u S_4), (0, .methodref 21 24), (0, .nameAndType 5 25), (0, u W_15), (0, .methodref 8 27), (0, .nameAndType 28 29), (0, u "cmp"), (0, u W_66), (0, .methodref 21 3), (0, .methodref 21 32), (0, .nameAndType 33 34), (0, u "add"), (0, u W_6), (0, .methodref 13 36), (0, .nameAndType 37 34), (0, u "equals"), (0, .methodref 21 39), (0, .nameAndType 40 41), (0, u "size"), (0, u "()I"), (0, .methodref 21 43), (0, .nameAndType 44 45), (0, u "get"), (0, u W_33), (0, .methodref 8 47), (0, .nameAndType 48 49), (0, u "ws"), (0, u "(I)Z"), (0, .methodref 8 51), (0, .nameAndType 52 53), (0, u "first"), (0, u "(I)C"), (0, .methodref 13 55), (0, .nameAndType 56 57), (0, u "valueOf"), (0, u W_48), (0, .methodref 8 59), (0, .nameAndType 60 53), (0, u "last"), (0, .methodref 13 62), (0, .nameAndType 5 63), (0, u "([C)V"), (0, .methodref 13 65), (0, .nameAndType 66 53), (0, u "charAt"), (0, .methodref 13 68), (0, .nameAndType 69 41), (0, u "length"), (2, u "law"), (0, u "(IIIIII)Z")] 7
def k1m0 : Method := ⟨W_1, W_2, ⟨[], none⟩, 2, none⟩
def k1c1 : Code := ⟨3, 19, code, #[], #[]⟩
def k1m1 : Method := ⟨"law", "(IIIIII)Z", ⟨[.int, .int, .int, .int, .int, .int], some .boolean⟩, 9, some k1c1⟩
def k1c2 : Code := ⟨2, 1, method_3_code, #[], #[]⟩
def k1m2 : Method := ⟨"ws", "(I)Z", ⟨[.int], some .boolean⟩, 10, some k1c2⟩
def k1c3 : Code := ⟨3, 2, method_4_code, #[], #[]⟩
def k1m3 : Method := ⟨"first", "(I)C", ⟨[.int], some .char⟩, 10, some k1c3⟩
def k1c4 : Code := ⟨3, 2, method_5_code, #[], #[]⟩
def k1m4 : Method := ⟨"last", "(I)C", ⟨[.int], some .char⟩, 10, some k1c4⟩
def k1c5 : Code := ⟨6, 4, method_6_code, #[], #[]⟩
def k1m5 : Method := ⟨"name", "(II)Ljava/lang/String;", ⟨[.int, .int], some (.object S_3)⟩, 10, some k1c5⟩
def k1c6 : Code := ⟨3, 3, method_7_code, #[], #[]⟩
def k1m6 : Method := ⟨"cmp", W_66, ⟨[(.object S_3), (.object S_3)], some .int⟩, 10, some k1c6⟩
def k1 : Class := { plain S_26 (some 0) with
  accessFlags := 49
  interfaces := #[]
  cf := some (fileOf pool1 8 #[] #[⟨2, 5, 6, #[]⟩, ⟨9, 72, 73, #[]⟩, ⟨10, 48, 49, #[]⟩, ⟨10, 52, 53, #[]⟩, ⟨10, 60, 53, #[]⟩, ⟨10, 11, 12, #[]⟩, ⟨10, 28, 29, #[]⟩] 49 2 #[] #[])
  fields := #[]
  methods := #[k1m0, k1m1, k1m2, k1m3, k1m4, k1m5, k1m6]
  instanceTypes := #[]
  staticTypes := #[]
  resolved := Array.replicate 81 none
  statics := none }
def pool2 : Array CpInfo := pool [(1, .class_ 2), (0, u W_7), (0, .class_ 4), (0, u S_2)] 2
def k2 : Class := { plain W_7 (some 0) with
  accessFlags := 1537
  interfaces := #[]
  cf := some (fileOf pool2 1 #[] #[] 1537 3 #[] #[])
  fields := #[]
  methods := #[]
  instanceTypes := #[]
  staticTypes := #[]
  resolved := Array.replicate 7 none
  statics := none }
def pool3 : Array CpInfo := pool [(1, .class_ 2), (0, u W_34), (0, .class_ 4), (0, u S_2), (0, u W_5), (0, u W_21)] 5
def k3m0 : Method := ⟨W_5, W_21, ⟨[(.object S_2)], some .int⟩, 1025, none⟩
def k3 : Class := { plain W_34 (some 0) with
  accessFlags := 1537
  interfaces := #[]
  cf := some (fileOf pool3 1 #[] #[⟨1025, 5, 6, #[]⟩] 1537 3 #[] #[])
  fields := #[]
  methods := #[k3m0]
  instanceTypes := #[]
  staticTypes := #[]
  resolved := Array.replicate 12 none
  statics := none }
def pool4 : Array CpInfo := pool [(2, .class_ 4), (1, u W_35), (42, .class_ 48), (0, u "java/lang/CharSequence$1CodePointIterator"), (10, .class_ 60), (0, u "java/lang/CharSequence$1CharIterator"), (5, .class_ 67), (0, u S_2), (10, u "toString"), (0, u W_16)] 51
def k4m0 : Method := ⟨"toString", W_16, ⟨[], some (.object S_3)⟩, 1025, none⟩
def k4 : Class := { plain W_35 (some 0) with
  accessFlags := 1537
  interfaces := #[]
  cf := some (fileOf pool4 2 #[.nestMembers #[47, 59]] #[⟨1025, 78, 79, #[]⟩] 1537 66 #[] #[])
  fields := #[]
  methods := #[k4m0]
  instanceTypes := #[]
  staticTypes := #[]
  resolved := Array.replicate 131 none
  statics := none }
def pool5 : Array CpInfo := pool [(1, .class_ 2), (0, u W_49), (0, .class_ 4), (0, u S_2)] 6
def k5 : Class := { plain W_49 (some 0) with
  accessFlags := 1537
  interfaces := #[]
  cf := some (fileOf pool5 1 #[] #[] 1537 3 #[] #[])
  fields := #[]
  methods := #[]
  instanceTypes := #[]
  staticTypes := #[]
  resolved := Array.replicate 11 none
  statics := none }
def pool6 : Array CpInfo := pool [(1, .class_ 2), (0, u W_50), (0, .class_ 4), (0, u S_2)] 32
def k6 : Class := { plain W_50 (some 0) with
  accessFlags := 1537
  interfaces := #[]
  cf := some (fileOf pool6 1 #[] #[] 1537 3 #[] #[])
  fields := #[]
  methods := #[]
  instanceTypes := #[]
  staticTypes := #[]
  resolved := Array.replicate 37 none
  statics := none }
def pool7 : Array CpInfo := pool [(1, .methodref 2 3), (0, .class_ 4), (0, .nameAndType 5 6), (0, u S_2), (0, u W_1), (0, u W_2), (2, .fieldref 10 11), (0, .class_ 12), (0, .nameAndType 13 14), (0, u S_3), (0, u "value"), (0, u "[B"), (0, .fieldref 10 16), (0, .nameAndType 17 18), (0, u "coder"), (0, u "B"), (2, u "hash"), (0, u "I"), (2, u "hashIsZero"), (0, u "Z"), (0, .methodref 10 28), (0, .nameAndType 5 29), (0, u "([CIILjava/lang/Void;)V"), (8, .fieldref 10 39), (0, .nameAndType 40 26), (0, u "COMPACT_STRINGS"), (1, .class_ 44), (1, u W_51), (0, u "compress"), (1, .methodref 42 48), (0, .nameAndType 49 50), (0, u "coderFromArrayLen"), (0, u "([BI)B"), (2, u "toBytes"), (53, .class_ 109), (1, u S_18), (32, u "()Z"), (34, .methodref 42 178), (0, .nameAndType 45 179), (0, u "([CII)[B"), (29, .methodref 10 210), (0, .nameAndType 5 211), (0, u "([BB)V"), (122, u "()I"), (0, .methodref 10 336), (0, .nameAndType 17 337), (0, u "()B"), (25, u "([BI)C"), (5, u "(C)Z"), (6, u "([BI[BII)I"), (14, u "(II)V"), (35, u "(I)C"), (34, .nameAndType 463 464), (0, u "toString"), (0, u W_16), (27, .methodref 10 493), (0, .nameAndType 494 142), (0, u "isLatin1"), (0, .methodref 107 496), (0, .nameAndType 497 363), (0, u "charAt"), (3, u W_8), (3, .methodref 10 506), (0, .nameAndType 507 334), (0, u "length"), (33, .methodref 107 542), (0, .nameAndType 543 544), (0, u "equals"), (0, u "([B[B)Z"), (3, u W_52), (10, .class_ 561), (1, u W_36), (0, u "mismatch"), (10, u W_6), (1, .class_ 576), (0, u W_35), (9, .methodref 107 587), (0, .nameAndType 588 589), (0, u W_5), (0, u "([B[B)I"), (9, u "CASE_INSENSITIVE_ORDER"), (0, u S_29), (6, .methodref 559 608), (0, .nameAndType 562 376), (15, .methodref 10 625), (0, .nameAndType 626 627), (0, u "startsWith"), (0, u "(Ljava/lang/String;I)Z"), (7, u "indexOf"), (11, .methodref 107 648), (0, .nameAndType 635 589), (43, u "isEmpty"), (17, .interfaceMethodref 575 462), (0, .methodref 10 712), (0, .nameAndType 635 713), (0, u W_53), (68, u "valueOf"), (0, u W_48), (78, u W_54), (1, .methodref 107 865), (0, .nameAndType 866 862), (0, u "strip"), (143, u "([C)V"), (4, .methodref 107 1016), (0, .nameAndType 1017 369), (0, u "canEncode"), (0, .methodref 107 1019), (0, .nameAndType 53 1020), (0, u "(C)[B"), (32, .fieldref 1054 1055), (0, .class_ 1056), (0, .nameAndType 1057 1058), (0, u W_37), (0, u "SIOOBE_FORMATTER"), (0, u "Ljava/util/function/BiFunction;"), (0, .methodref 1054 1060), (0, .nameAndType 501 1061), (0, u W_38), (22, .methodref 10 1085), (0, .nameAndType 588 713), (15, u "serialPersistentFields"), (0, u "[Ljava/io/ObjectStreamField;"), (0, .class_ 1104), (0, u "java/lang/String$CaseInsensitiveComparator"), (1, .class_ 1107), (0, u W_7), (0, .class_ 1109), (0, u W_34), (0, .class_ 1111), (0, u W_49), (0, .class_ 1113), (0, u W_50), (2, u W_3), (0, u "J"), (3, u "REPL"), (0, u "C"), (2, u "LATIN1"), (1, u "UTF16"), (129, u W_39), (33, u "contains"), (109, u W_21)] 49
def k7m0 : Method := ⟨W_1, W_2, ⟨[], none⟩, 1, none⟩
def k7c1 : Code := ⟨5, 2, jdk_42_method_3_code, #[], #[]⟩
def k7m1 : Method := ⟨W_1, "([C)V", ⟨[(.array .char)], none⟩, 1, some k7c1⟩
def k7c2 : Code := ⟨2, 1, jdk_42_method_54_code, #[], #[]⟩
def k7m2 : Method := ⟨"length", "()I", ⟨[], some .int⟩, 1, some k7c2⟩
def k7c3 : Code := ⟨1, 1, jdk_42_method_55_code, #[], #[]⟩
def k7m3 : Method := ⟨"isEmpty", "()Z", ⟨[], some .boolean⟩, 1, some k7c3⟩
def k7c4 : Code := ⟨2, 2, jdk_42_method_56_code, #[], #[]⟩
def k7m4 : Method := ⟨"charAt", "(I)C", ⟨[.int], some .char⟩, 1, some k7c4⟩
def k7c5 : Code := ⟨2, 3, jdk_42_method_66_code, #[], #[]⟩
def k7m5 : Method := ⟨"equals", W_6, ⟨[(.object S_2)], some .boolean⟩, 1, some k7c5⟩
def k7c6 : Code := ⟨2, 5, jdk_42_method_71_code, #[], #[]⟩
def k7m6 : Method := ⟨W_5, W_53, ⟨[(.object S_3)], some .int⟩, 1, some k7c6⟩
def k7c7 : Code := ⟨5, 8, jdk_42_method_75_code, #[], #[]⟩
def k7m7 : Method := ⟨"startsWith", "(Ljava/lang/String;I)Z", ⟨[(.object S_3), .int], some .boolean⟩, 1, some k7c7⟩
def k7c8 : Code := ⟨3, 2, jdk_42_method_76_code, #[], #[]⟩
def k7m8 : Method := ⟨"startsWith", W_39, ⟨[(.object S_3)], some .boolean⟩, 1, some k7c8⟩
def k7c9 : Code := ⟨2, 3, jdk_42_method_84_code, #[], #[]⟩
def k7m9 : Method := ⟨"indexOf", W_53, ⟨[(.object S_3)], some .int⟩, 1, some k7c9⟩
def k7c10 : Code := ⟨2, 2, jdk_42_method_97_code, #[], #[]⟩
def k7m10 : Method := ⟨"contains", W_52, ⟨[(.object W_35)], some .boolean⟩, 1, some k7c10⟩
def k7c11 : Code := ⟨1, 2, jdk_42_method_114_code, #[], #[]⟩
def k7m11 : Method := ⟨"strip", W_16, ⟨[], some (.object S_3)⟩, 1, some k7c11⟩
def k7c12 : Code := ⟨1, 1, jdk_42_method_126_code, #[], #[]⟩
def k7m12 : Method := ⟨"toString", W_16, ⟨[], some (.object S_3)⟩, 1, some k7c12⟩
def k7c13 : Code := ⟨4, 1, jdk_42_method_139_code, #[], #[]⟩
def k7m13 : Method := ⟨"valueOf", W_48, ⟨[.char], some (.object S_3)⟩, 9, some k7c13⟩
def k7c14 : Code := ⟨4, 6, jdk_42_method_149_code, #[], #[]⟩
def k7m14 : Method := ⟨W_1, "([CIILjava/lang/Void;)V", ⟨[(.array .char), .int, .int, (.object "java/lang/Void")], none⟩, 2, some k7c14⟩
def k7c15 : Code := ⟨2, 3, jdk_42_method_151_code, #[], #[]⟩
def k7m15 : Method := ⟨W_1, "([BB)V", ⟨[(.array .byte), .byte], none⟩, 0, some k7c15⟩
def k7c16 : Code := ⟨1, 1, jdk_42_method_152_code, #[], #[]⟩
def k7m16 : Method := ⟨"coder", "()B", ⟨[], some .byte⟩, 0, some k7c16⟩
def k7c17 : Code := ⟨1, 1, jdk_42_method_154_code, #[], #[]⟩
def k7m17 : Method := ⟨"isLatin1", "()Z", ⟨[], some .boolean⟩, 0, some k7c17⟩
def k7c18 : Code := ⟨3, 2, jdk_42_method_155_code, #[], #[]⟩
def k7m18 : Method := ⟨W_8, "(II)V", ⟨[.int, .int], none⟩, 8, some k7c18⟩
def k7c19 : Code := ⟨2, 2, jdk_42_method_162_code, #[], #[]⟩
def k7m19 : Method := ⟨W_5, W_21, ⟨[(.object S_2)], some .int⟩, 4161, some k7c19⟩
def k7 : Class := { plain S_3 (some 0) with
  accessFlags := 49
  interfaces := #[2, 3, 4, 5, 6]
  cf := some (fileOf pool7 10 #[.nestMembers #[1103]] #[⟨1, 5, 6, #[]⟩, ⟨1, 5, 1010, #[]⟩, ⟨1, 507, 334, #[]⟩, ⟨1, 692, 142, #[]⟩, ⟨1, 497, 427, #[]⟩, ⟨1, 543, 573, #[]⟩, ⟨1, 588, 713, #[]⟩, ⟨1, 626, 627, #[]⟩, ⟨1, 626, 1257, #[]⟩, ⟨1, 635, 713, #[]⟩, ⟨1, 1291, 548, #[]⟩, ⟨1, 866, 464, #[]⟩, ⟨1, 463, 464, #[]⟩, ⟨9, 782, 783, #[]⟩, ⟨2, 5, 29, #[]⟩, ⟨0, 5, 211, #[]⟩, ⟨0, 17, 337, #[]⟩, ⟨0, 494, 142, #[]⟩, ⟨8, 501, 391, #[]⟩, ⟨4161, 588, 1401, #[]⟩] 49 2 #[1106, 1108, 575, 1110, 1112] #[⟨18, 13, 14, #[]⟩, ⟨18, 17, 18, #[]⟩, ⟨2, 21, 22, #[]⟩, ⟨2, 25, 26, #[]⟩, ⟨26, 1116, 1117, #[]⟩, ⟨24, 40, 26, #[]⟩, ⟨26, 1101, 1102, #[]⟩, ⟨26, 1121, 1122, #[]⟩, ⟨25, 599, 600, #[]⟩, ⟨24, 1125, 18, #[]⟩, ⟨24, 1127, 18, #[]⟩])
  fields := #[⟨"value", (.array .byte), 18, 0, 0⟩, ⟨"coder", .byte, 18, 1, 0⟩, ⟨"hash", .int, 2, 2, 0⟩, ⟨"hashIsZero", .boolean, 2, 3, 0⟩, ⟨W_3, .long, 26, 0, 0⟩, ⟨"COMPACT_STRINGS", .boolean, 24, 1, 0⟩, ⟨"serialPersistentFields", (.array (.object "java/io/ObjectStreamField")), 26, 2, 0⟩, ⟨"REPL", .char, 26, 3, 0⟩, ⟨"CASE_INSENSITIVE_ORDER", (.object S_20), 25, 4, 0⟩, ⟨"LATIN1", .byte, 24, 5, 0⟩, ⟨"UTF16", .byte, 24, 6, 0⟩]
  methods := #[k7m0, k7m1, k7m2, k7m3, k7m4, k7m5, k7m6, k7m7, k7m8, k7m9, k7m10, k7m11, k7m12, k7m13, k7m14, k7m15, k7m16, k7m17, k7m18, k7m19]
  instanceTypes := #[(.array .byte), .byte, .int, .boolean]
  staticTypes := #[.long, .boolean, (.array (.object "java/io/ObjectStreamField")), .char, (.object S_20), .byte, .byte]
  resolved := Array.replicate 1451 none
  statics := some 0 }
def pool8 : Array CpInfo := pool [(1, .class_ 2), (0, u S_3), (1, .class_ 6), (1, u S_2), (0, u W_1), (0, u W_2), (0, .methodref 1 10), (0, .nameAndType 11 12), (0, u W_8), (0, u "(II)V"), (1, .class_ 16), (1, u S_18), (17, .methodref 14 35), (0, .nameAndType 36 37), (0, u W_5), (0, u "([B[BII)I"), (0, .methodref 39 40), (0, .class_ 41), (0, .nameAndType 42 43), (0, u W_22), (0, u "min"), (0, u "(II)I"), (0, .methodref 45 46), (0, .class_ 47), (0, .nameAndType 48 49), (0, u W_36), (0, u "mismatch"), (0, u "([B[BI)I"), (0, .methodref 14 51), (0, .nameAndType 52 53), (0, u "getChar"), (0, u "([BI)C"), (3, u "([B)I"), (8, .fieldref 67 68), (0, .class_ 69), (0, .nameAndType 70 71), (0, u S_23), (0, u "instance"), (0, u "Ljava/lang/CharacterDataLatin1;"), (18, u "canEncode"), (0, u "(I)Z"), (7, .methodref 14 100), (0, .nameAndType 101 102), (0, u "indexOf"), (0, u "([BI[BII)I"), (2, u "(C)Z"), (15, u W_9), (0, u "Z"), (88, .methodref 67 212), (0, .nameAndType 213 91), (0, u "isWhitespace"), (0, .methodref 14 215), (0, .nameAndType 216 57), (0, u "indexOfNonWhitespace"), (0, .methodref 14 218), (0, .nameAndType 219 57), (0, u "lastIndexOfNonWhitespace"), (1, .class_ 223), (1, u "java/lang/StringLatin1$LinesSpliterator"), (28, u "charAt"), (28, u "equals"), (0, u "([B[B)Z"), (4, u "([B[B)I"), (79, u W_54), (3, u "strip"), (8, u "toBytes"), (1, u "(C)[B"), (7, .class_ 391), (0, u "java/lang/StringLatin1$CharsSpliterator")] 3
def k8m0 : Method := ⟨W_1, W_2, ⟨[], none⟩, 0, none⟩
def k8c1 : Code := ⟨2, 2, jdk_43_method_2_code, #[], #[]⟩
def k8m1 : Method := ⟨"charAt", "([BI)C", ⟨[(.array .byte), .int], some .char⟩, 9, some k8c1⟩
def k8c2 : Code := ⟨2, 1, jdk_43_method_3_code, #[], #[]⟩
def k8m2 : Method := ⟨"canEncode", "(C)Z", ⟨[.char], some .boolean⟩, 9, some k8c2⟩
def k8c3 : Code := ⟨3, 3, jdk_43_method_13_code, #[], #[]⟩
def k8m3 : Method := ⟨"equals", "([B[B)Z", ⟨[(.array .byte), (.array .byte)], some .boolean⟩, 9, some k8c3⟩
def k8c4 : Code := ⟨4, 4, jdk_43_method_14_code, #[], #[]⟩
def k8m4 : Method := ⟨W_5, "([B[B)I", ⟨[(.array .byte), (.array .byte)], some .int⟩, 9, some k8c4⟩
def k8c5 : Code := ⟨3, 6, jdk_43_method_15_code, #[], #[]⟩
def k8m5 : Method := ⟨W_5, "([B[BII)I", ⟨[(.array .byte), (.array .byte), .int, .int], some .int⟩, 9, some k8c5⟩
def k8c6 : Code := ⟨5, 2, jdk_43_method_24_code, #[], #[]⟩
def k8m6 : Method := ⟨"indexOf", "([B[B)I", ⟨[(.array .byte), (.array .byte)], some .int⟩, 9, some k8c6⟩
def k8c7 : Code := ⟨3, 11, jdk_43_method_25_code, #[], #[]⟩
def k8m7 : Method := ⟨"indexOf", "([BI[BII)I", ⟨[(.array .byte), .int, (.array .byte), .int, .int], some .int⟩, 9, some k8c7⟩
def k8c8 : Code := ⟨2, 4, jdk_43_method_37_code, #[], #[]⟩
def k8m8 : Method := ⟨"indexOfNonWhitespace", "([B)I", ⟨[(.array .byte)], some .int⟩, 9, some k8c8⟩
def k8c9 : Code := ⟨3, 4, jdk_43_method_38_code, #[], #[]⟩
def k8m9 : Method := ⟨"lastIndexOfNonWhitespace", "([B)I", ⟨[(.array .byte)], some .int⟩, 9, some k8c9⟩
def k8c10 : Code := ⟨4, 4, jdk_43_method_39_code, #[], #[]⟩
def k8m10 : Method := ⟨"strip", W_54, ⟨[(.array .byte)], some (.object S_3)⟩, 9, some k8c10⟩
def k8c11 : Code := ⟨2, 2, jdk_43_method_44_code, #[], #[]⟩
def k8m11 : Method := ⟨"getChar", "([BI)C", ⟨[(.array .byte), .int], some .char⟩, 9, some k8c11⟩
def k8c12 : Code := ⟨4, 1, jdk_43_method_46_code, #[], #[]⟩
def k8m12 : Method := ⟨"toBytes", "(C)[B", ⟨[.char], some (.array .byte)⟩, 9, some k8c12⟩
def k8 : Class := { plain S_18 (some 0) with
  accessFlags := 48
  interfaces := #[]
  cf := some (fileOf pool8 14 #[.nestMembers #[390, 221]] #[⟨0, 7, 8, #[]⟩, ⟨9, 252, 53, #[]⟩, ⟨9, 90, 105, #[]⟩, ⟨9, 281, 282, #[]⟩, ⟨9, 36, 287, #[]⟩, ⟨9, 36, 37, #[]⟩, ⟨9, 101, 287, #[]⟩, ⟨9, 101, 102, #[]⟩, ⟨9, 216, 57, #[]⟩, ⟨9, 219, 57, #[]⟩, ⟨9, 371, 367, #[]⟩, ⟨9, 52, 53, #[]⟩, ⟨9, 380, 382, #[]⟩] 48 4 #[] #[⟨4120, 121, 122, #[]⟩])
  fields := #[⟨W_9, .boolean, 4120, 0, 0⟩]
  methods := #[k8m0, k8m1, k8m2, k8m3, k8m4, k8m5, k8m6, k8m7, k8m8, k8m9, k8m10, k8m11, k8m12]
  instanceTypes := #[]
  staticTypes := #[.boolean]
  resolved := Array.replicate 395 none
  statics := none }
def pool9 : Array CpInfo := pool [(2, .class_ 4), (0, .nameAndType 5 6), (0, u S_2), (0, u W_1), (0, u W_2), (3, .string 11), (0, u ","), (1, .class_ 15), (1, u S_3), (2, .methodref 13 19), (0, .nameAndType 20 21), (0, u "strip"), (0, u W_16), (0, .methodref 13 23), (0, .nameAndType 24 25), (0, u "isEmpty"), (0, u "()Z"), (1, .nameAndType 28 29), (0, u "add"), (0, u W_6), (7, .class_ 39), (1, u W_46), (0, u "of"), (0, u W_47), (0, .class_ 43), (0, u S_8), (0, .methodref 42 3), (0, .methodref 37 46), (0, .nameAndType 47 48), (0, u "isName"), (0, u W_39), (9, .methodref 42 27), (0, .methodref 60 61), (0, .class_ 62), (0, .nameAndType 63 64), (0, u W_23), (0, u "unmodifiableSet"), (0, u W_55), (0, .methodref 13 66), (0, .nameAndType 67 29), (0, u "equals"), (0, .methodref 13 69), (0, .nameAndType 70 71), (0, u "contains"), (0, u W_52), (0, .string 73), (0, u "!"), (0, .methodref 13 75), (0, .nameAndType 76 48), (0, u "startsWith")] 25
def k9m0 : Method := ⟨W_1, W_2, ⟨[], none⟩, 2, none⟩
def k9c1 : Code := ⟨3, 6, prog_19_method_3_code, #[], #[]⟩
def k9m1 : Method := ⟨"of", W_47, ⟨[(.array (.object S_3))], some (.object S_22)⟩, 136, some k9c1⟩
def k9c2 : Code := ⟨2, 1, prog_19_method_4_code, #[], #[]⟩
def k9m2 : Method := ⟨"isName", W_39, ⟨[(.object S_3)], some .boolean⟩, 8, some k9c2⟩
def k9 : Class := { plain W_46 (some 0) with
  accessFlags := 33
  interfaces := #[]
  cf := some (fileOf pool9 37 #[] #[⟨2, 5, 6, #[]⟩, ⟨136, 40, 41, #[]⟩, ⟨8, 47, 48, #[]⟩] 33 2 #[] #[])
  fields := #[]
  methods := #[k9m0, k9m1, k9m2]
  instanceTypes := #[]
  staticTypes := #[]
  resolved := Array.replicate 102 none
  statics := none }
def pool10 : Array CpInfo := pool [(8, .class_ 10), (1, u "java/lang/Iterable"), (24, .class_ 36), (0, u S_2)] 25
def k10 : Class := { plain "java/lang/Iterable" (some 0) with
  accessFlags := 1537
  interfaces := #[]
  cf := some (fileOf pool10 8 #[] #[] 1537 35 #[] #[])
  fields := #[]
  methods := #[]
  instanceTypes := #[]
  staticTypes := #[]
  resolved := Array.replicate 62 none
  statics := none }
def pool11 : Array CpInfo := pool [(10, .class_ 12), (1, u S_31), (0, u "toArray"), (46, .class_ 61), (0, u S_2), (0, .class_ 63), (0, u "java/lang/Iterable"), (6, u W_10)] 44
def k11m0 : Method := ⟨"toArray", W_10, ⟨[], some (.array (.object S_2))⟩, 1025, none⟩
def k11 : Class := { plain S_31 (some 0) with
  accessFlags := 1537
  interfaces := #[10]
  cf := some (fileOf pool11 10 #[] #[⟨1025, 13, 70, #[]⟩] 1537 60 #[62] #[])
  fields := #[]
  methods := #[k11m0]
  instanceTypes := #[]
  staticTypes := #[]
  resolved := Array.replicate 115 none
  statics := none }
def pool12 : Array CpInfo := pool [(1, .methodref 2 3), (0, .class_ 4), (0, .nameAndType 5 6), (0, u S_2), (0, u W_1), (0, u W_2), (0, .methodref 8 9), (0, .class_ 10), (0, .nameAndType 11 12), (0, u S_30), (0, u "size"), (0, u "()I"), (0, .methodref 8 14), (0, .nameAndType 15 16), (0, u W_11), (0, u W_4), (0, .interfaceMethodref 18 19), (0, .class_ 20), (0, .nameAndType 21 22), (0, u S_28), (0, u "hasNext"), (0, u "()Z"), (0, .interfaceMethodref 18 24), (0, .nameAndType 25 26), (0, u "next"), (0, u W_24), (50, .class_ 78), (0, u S_31), (47, u "toArray"), (0, u W_10)] 32
def k12c0 : Code := ⟨1, 1, jdk_22_method_1_code, #[], #[]⟩
def k12m0 : Method := ⟨W_1, W_2, ⟨[], none⟩, 4, some k12c0⟩
def k12m1 : Method := ⟨W_11, W_4, ⟨[], some (.object S_28)⟩, 1025, none⟩
def k12m2 : Method := ⟨"size", "()I", ⟨[], some .int⟩, 1025, none⟩
def k12c3 : Code := ⟨3, 4, jdk_22_method_6_code, #[], #[]⟩
def k12m3 : Method := ⟨"toArray", W_10, ⟨[], some (.array (.object S_2))⟩, 1, some k12c3⟩
def k12 : Class := { plain S_30 (some 0) with
  accessFlags := 1057
  interfaces := #[11]
  cf := some (fileOf pool12 8 #[] #[⟨4, 5, 6, #[]⟩, ⟨1025, 15, 16, #[]⟩, ⟨1025, 11, 12, #[]⟩, ⟨1, 126, 127, #[]⟩] 1057 2 #[77] #[])
  fields := #[]
  methods := #[k12m0, k12m1, k12m2, k12m3]
  instanceTypes := #[]
  staticTypes := #[]
  resolved := Array.replicate 160 none
  statics := none }
def pool13 : Array CpInfo := pool [(26, .class_ 27), (0, u S_2), (5, .class_ 34), (0, u S_22), (1, .class_ 38), (1, u S_31)] 105
def k13 : Class := { plain S_22 (some 0) with
  accessFlags := 1537
  interfaces := #[11]
  cf := some (fileOf pool13 33 #[] #[] 1537 26 #[36] #[])
  fields := #[]
  methods := #[]
  instanceTypes := #[]
  staticTypes := #[]
  resolved := Array.replicate 144 none
  statics := none }
def pool14 : Array CpInfo := pool [(1, .methodref 2 3), (0, .class_ 4), (0, .nameAndType 5 6), (0, u S_30), (0, u W_1), (0, u W_2), (0, .class_ 8), (0, u S_22), (7, .class_ 17), (0, u W_40)] 78
def k14c0 : Code := ⟨1, 1, jdk_91_method_1_code, #[], #[]⟩
def k14m0 : Method := ⟨W_1, W_2, ⟨[], none⟩, 4, some k14c0⟩
def k14 : Class := { plain W_40 (some 12) with
  accessFlags := 1057
  interfaces := #[13]
  cf := some (fileOf pool14 16 #[] #[⟨4, 5, 6, #[]⟩] 1057 2 #[7] #[])
  fields := #[]
  methods := #[k14m0]
  instanceTypes := #[]
  staticTypes := #[]
  resolved := Array.replicate 96 none
  statics := none }
def pool15 : Array CpInfo := pool [(8, .class_ 10), (1, u W_41), (15, .class_ 27), (0, u S_2), (0, .class_ 29), (0, u S_31)] 27
def k15 : Class := { plain W_41 (some 0) with
  accessFlags := 1537
  interfaces := #[11]
  cf := some (fileOf pool15 8 #[] #[] 1537 26 #[28] #[])
  fields := #[]
  methods := #[]
  instanceTypes := #[]
  staticTypes := #[]
  resolved := Array.replicate 57 none
  statics := none }
def pool16 : Array CpInfo := pool [(2, .class_ 4), (1, u W_56), (2, .class_ 8), (0, u S_2), (0, .class_ 10), (0, u W_41), (0, .class_ 12), (0, u S_22)] 13
def k16 : Class := { plain W_56 (some 0) with
  accessFlags := 1537
  interfaces := #[15, 13]
  cf := some (fileOf pool16 2 #[] #[] 1537 7 #[9, 11] #[])
  fields := #[]
  methods := #[]
  instanceTypes := #[]
  staticTypes := #[]
  resolved := Array.replicate 26 none
  statics := none }
def pool17 : Array CpInfo := pool [(1, .class_ 2), (0, u "java/util/SortedSet$1"), (12, .class_ 17), (1, u "java/util/SortedSet"), (19, .class_ 38), (0, u S_2), (0, .class_ 40), (0, u S_22), (0, .class_ 42), (0, u W_56)] 41
def k17 : Class := { plain "java/util/SortedSet" (some 0) with
  accessFlags := 1537
  interfaces := #[13, 16]
  cf := some (fileOf pool17 15 #[.nestMembers #[1]] #[] 1537 37 #[39, 41] #[])
  fields := #[]
  methods := #[]
  instanceTypes := #[]
  staticTypes := #[]
  resolved := Array.replicate 84 none
  statics := none }
def pool18 : Array CpInfo := pool [(2, .class_ 4), (1, u W_12), (22, .class_ 28), (0, u S_2), (0, .class_ 30), (0, u "java/util/SortedSet"), (8, u W_11), (0, u W_4)] 30
def k18m0 : Method := ⟨W_11, W_4, ⟨[], some (.object S_28)⟩, 1025, none⟩
def k18 : Class := { plain W_12 (some 0) with
  accessFlags := 1537
  interfaces := #[17]
  cf := some (fileOf pool18 2 #[] #[⟨1025, 39, 40, #[]⟩] 1537 27 #[29] #[])
  fields := #[]
  methods := #[k18m0]
  instanceTypes := #[]
  staticTypes := #[]
  resolved := Array.replicate 71 none
  statics := none }
def pool19 : Array CpInfo := pool [(1, .class_ 2), (0, u W_25), (0, .class_ 4), (0, u S_2)] 2
def k19 : Class := { plain W_25 (some 0) with
  accessFlags := 1537
  interfaces := #[]
  cf := some (fileOf pool19 1 #[] #[] 1537 3 #[] #[])
  fields := #[]
  methods := #[]
  instanceTypes := #[]
  staticTypes := #[]
  resolved := Array.replicate 7 none
  statics := none }
def pool20 : Array CpInfo := pool [(1, .methodref 2 3), (0, .class_ 4), (0, .nameAndType 5 6), (0, u W_40), (0, u W_1), (0, u W_2), (0, .fieldref 8 9), (0, .class_ 10), (0, .nameAndType 11 12), (0, u S_8), (0, u "m"), (0, u S_13), (0, .class_ 14), (0, u S_6), (0, .methodref 13 3), (0, .methodref 8 17), (0, .nameAndType 5 18), (0, u W_26), (15, .interfaceMethodref 35 36), (0, .class_ 37), (0, .nameAndType 38 39), (0, u S_21), (0, u W_17), (0, u W_27), (0, .interfaceMethodref 41 42), (0, .class_ 43), (0, .nameAndType 44 45), (0, u W_12), (0, u W_11), (0, u W_4), (7, .interfaceMethodref 35 54), (0, .nameAndType 55 56), (0, u "size"), (0, u "()I"), (7, u W_6), (0, .fieldref 8 66), (0, .nameAndType 67 68), (0, u "PRESENT"), (0, u S_11), (0, .interfaceMethodref 35 70), (0, .nameAndType 71 72), (0, u "put"), (0, u W_28), (144, .class_ 218), (0, u W_25), (0, .class_ 220), (0, u W_7), (2, u W_3), (0, u "J"), (30, u "add")] 61
def k20c0 : Code := ⟨2, 2, jdk_2756_method_1_code, #[], #[]⟩
def k20m0 : Method := ⟨W_1, W_26, ⟨[(.object S_21)], none⟩, 0, some k20c0⟩
def k20c1 : Code := ⟨3, 1, jdk_2756_method_2_code, #[], #[]⟩
def k20m1 : Method := ⟨W_1, W_2, ⟨[], none⟩, 1, some k20c1⟩
def k20c2 : Code := ⟨1, 1, jdk_2756_method_6_code, #[], #[]⟩
def k20m2 : Method := ⟨W_11, W_4, ⟨[], some (.object S_28)⟩, 1, some k20c2⟩
def k20c3 : Code := ⟨1, 1, jdk_2756_method_9_code, #[], #[]⟩
def k20m3 : Method := ⟨"size", "()I", ⟨[], some .int⟩, 1, some k20c3⟩
def k20c4 : Code := ⟨3, 2, jdk_2756_method_12_code, #[], #[]⟩
def k20m4 : Method := ⟨"add", W_6, ⟨[(.object S_2)], some .boolean⟩, 1, some k20c4⟩
def k20 : Class := { plain S_8 (some 14) with
  accessFlags := 33
  interfaces := #[18, 19, 2]
  cf := some (fileOf pool20 8 #[] #[⟨0, 5, 18, #[]⟩, ⟨1, 5, 6, #[]⟩, ⟨1, 44, 45, #[]⟩, ⟨1, 55, 56, #[]⟩, ⟨1, 255, 64, #[]⟩] 33 2 #[41, 217, 219] #[⟨130, 11, 12, #[]⟩, ⟨26, 67, 68, #[]⟩, ⟨26, 223, 224, #[]⟩])
  fields := #[⟨"m", (.object S_21), 130, 0, 0⟩, ⟨"PRESENT", (.object S_2), 26, 0, 0⟩, ⟨W_3, .long, 26, 1, 0⟩]
  methods := #[k20m0, k20m1, k20m2, k20m3, k20m4]
  instanceTypes := #[(.object S_21)]
  staticTypes := #[(.object S_2), .long]
  resolved := Array.replicate 317 none
  mirror := some 5
  statics := some 1 }
def pool21 : Array CpInfo := pool [(2, .class_ 4), (1, u W_13), (31, .class_ 37), (0, u W_42), (25, u W_28), (5, u "put"), (23, .class_ 94), (0, u S_2), (25, u "size"), (0, u "()I")] 141
def k21m0 : Method := ⟨"size", "()I", ⟨[], some .int⟩, 1025, none⟩
def k21m1 : Method := ⟨"put", W_28, ⟨[(.object S_2), (.object S_2)], some (.object S_2)⟩, 1025, none⟩
def k21 : Class := { plain W_13 (some 0) with
  accessFlags := 1537
  interfaces := #[]
  cf := some (fileOf pool21 2 #[.nestMembers #[36]] #[⟨1025, 120, 121, #[]⟩, ⟨1025, 69, 63, #[]⟩] 1537 93 #[] #[])
  fields := #[]
  methods := #[k21m0, k21m1]
  instanceTypes := #[]
  staticTypes := #[]
  resolved := Array.replicate 263 none
  statics := none }
def pool22 : Array CpInfo := pool [(1, .methodref 2 3), (0, .class_ 4), (0, .nameAndType 5 6), (0, u S_2), (0, u W_1), (0, u W_2), (1, .class_ 10), (1, u W_57), (42, .class_ 54), (0, u W_13), (9, u "keySet"), (0, u "Ljava/util/Set;"), (0, .class_ 67), (0, u "java/util/AbstractMap$1"), (5, u "values"), (0, u S_17), (0, .class_ 76), (0, u "java/util/AbstractMap$2"), (104, .class_ 182), (0, u "java/util/AbstractMap$ViewCollection"), (0, .class_ 184), (0, u "java/util/AbstractMap$SimpleImmutableEntry"), (0, .class_ 186), (0, u "java/util/AbstractMap$SimpleEntry"), (0, .class_ 188), (0, u "java/util/AbstractMap$2$1"), (0, .class_ 190), (0, u "java/util/AbstractMap$1$1")] 5
def k22c0 : Code := ⟨1, 1, jdk_71_method_1_code, #[], #[]⟩
def k22m0 : Method := ⟨W_1, W_2, ⟨[], none⟩, 4, some k22c0⟩
def k22 : Class := { plain W_57 (some 0) with
  accessFlags := 1057
  interfaces := #[21]
  cf := some (fileOf pool22 8 #[.nestMembers #[181, 183, 185, 75, 187, 66, 189]] #[⟨4, 5, 6, #[]⟩] 1057 2 #[53] #[⟨128, 64, 65, #[]⟩, ⟨128, 73, 74, #[]⟩])
  fields := #[⟨"keySet", (.object S_22), 128, 0, 0⟩, ⟨"values", (.object S_31), 128, 1, 0⟩]
  methods := #[k22m0]
  instanceTypes := #[(.object S_22), (.object S_31)]
  staticTypes := #[]
  resolved := Array.replicate 196 none
  statics := none }
def pool23 : Array CpInfo := pool [(2, .class_ 4), (1, u W_58), (38, .class_ 44), (0, u "java/util/SequencedMap$1SeqKeySet"), (3, .class_ 49), (0, u "java/util/SequencedMap$1SeqValues"), (1, .class_ 52), (0, u "java/util/SequencedMap$1SeqEntrySet"), (1, .class_ 55), (0, u S_2), (0, .class_ 57), (0, u W_13)] 48
def k23 : Class := { plain W_58 (some 0) with
  accessFlags := 1537
  interfaces := #[21]
  cf := some (fileOf pool23 2 #[.nestMembers #[51, 48, 43]] #[] 1537 54 #[56] #[])
  fields := #[]
  methods := #[]
  instanceTypes := #[]
  staticTypes := #[]
  resolved := Array.replicate 106 none
  statics := none }
def pool24 : Array CpInfo := pool [(14, .class_ 16), (1, u "java/util/SortedMap"), (2, .class_ 20), (0, u S_2), (0, .class_ 22), (0, u W_58)] 50
def k24 : Class := { plain "java/util/SortedMap" (some 0) with
  accessFlags := 1537
  interfaces := #[23]
  cf := some (fileOf pool24 14 #[] #[] 1537 19 #[21] #[])
  fields := #[]
  methods := #[]
  instanceTypes := #[]
  staticTypes := #[]
  resolved := Array.replicate 73 none
  statics := none }
def pool25 : Array CpInfo := pool [(2, .class_ 4), (1, u S_21), (5, .class_ 11), (0, u S_2), (0, .class_ 13), (0, u "java/util/SortedMap"), (20, u W_17), (0, u W_27)] 31
def k25m0 : Method := ⟨W_17, W_27, ⟨[], some (.object W_12)⟩, 1025, none⟩
def k25 : Class := { plain S_21 (some 0) with
  accessFlags := 1537
  interfaces := #[24]
  cf := some (fileOf pool25 2 #[] #[⟨1025, 34, 35, #[]⟩] 1537 10 #[12] #[])
  fields := #[]
  methods := #[k25m0]
  instanceTypes := #[]
  staticTypes := #[]
  resolved := Array.replicate 67 none
  statics := none }
def pool26 : Array CpInfo := pool [(1, .methodref 2 3), (0, .class_ 4), (0, .nameAndType 5 6), (0, u W_57), (0, u W_1), (0, u W_2), (0, .fieldref 8 9), (0, .class_ 10), (0, .nameAndType 11 12), (0, u S_6), (0, u "size"), (0, u "I"), (0, .fieldref 8 14), (0, .nameAndType 15 12), (0, u "modCount"), (0, .fieldref 8 17), (0, .nameAndType 18 19), (0, u "comparator"), (0, u S_29), (11, u "()I"), (2, u "entrySet"), (6, u W_4), (12, .methodref 8 55), (0, .nameAndType 56 57), (0, u "getFirstEntry"), (0, u W_29), (0, .fieldref 59 60), (0, .class_ 61), (0, .nameAndType 62 63), (0, u S_1), (0, u "value"), (0, u S_11), (6, u "successor"), (0, u W_18), (2, u "key"), (11, .class_ 88), (1, u W_43), (6, .methodref 86 96), (0, .nameAndType 97 98), (0, u "requireNonNull"), (0, u W_59), (0, .class_ 100), (0, u W_34), (0, .fieldref 8 102), (0, .nameAndType 103 104), (0, u "root"), (0, u S_5), (0, .fieldref 59 106), (0, .nameAndType 74 63), (0, .interfaceMethodref 99 108), (0, .nameAndType 109 110), (0, u W_5), (0, u W_21), (0, .fieldref 59 112), (0, .nameAndType 113 104), (0, u "left"), (0, .fieldref 59 115), (0, .nameAndType 116 104), (0, u "right"), (2, .nameAndType 121 122), (1, u "compare"), (0, u W_67), (0, .methodref 8 119), (0, .fieldref 59 125), (0, .nameAndType 126 104), (0, u "parent"), (0, .methodref 8 128), (0, .nameAndType 129 130), (0, u "put"), (0, u W_68), (4, .methodref 8 136), (0, .nameAndType 137 138), (0, u "addEntryToEmptyMap"), (0, u W_69), (0, .methodref 8 140), (0, .nameAndType 141 142), (0, u "addEntry"), (0, u W_70), (23, u W_28), (0, .methodref 59 168), (0, .nameAndType 5 169), (0, u W_60), (0, .methodref 8 171), (0, .nameAndType 172 173), (0, u "fixAfterInsertion"), (0, u W_44), (16, u "Ljava/util/TreeMap$EntrySet;"), (0, .fieldref 8 192), (0, .nameAndType 193 194), (0, u W_17), (0, u S_27), (2, u "descendingMap"), (0, u S_13), (22, u W_27), (0, .class_ 223), (0, u S_12), (0, .methodref 222 225), (0, .nameAndType 5 226), (0, u W_26), (4, .class_ 232), (0, u S_21), (4, .class_ 238), (0, u "java/util/TreeMap$Values"), (3, .class_ 243), (0, u W_61), (1, .class_ 246), (0, u "java/util/TreeMap$DescendingSubMap"), (3, .class_ 251), (0, u "java/util/TreeMap$AscendingSubMap"), (17, .class_ 270), (0, u S_16), (0, .methodref 269 272), (0, .nameAndType 5 273), (0, u W_30), (0, .class_ 275), (0, u "java/util/TreeMap$DescendingKeyIterator"), (14, .fieldref 59 291), (0, .nameAndType 292 293), (0, u "color"), (0, u "Z"), (0, .methodref 8 295), (0, .nameAndType 296 71), (0, u "parentOf"), (0, .methodref 8 298), (0, .nameAndType 299 71), (0, u "leftOf"), (0, .methodref 8 301), (0, .nameAndType 302 71), (0, u "rightOf"), (0, .methodref 8 304), (0, .nameAndType 305 306), (0, u "colorOf"), (0, u "(Ljava/util/TreeMap$Entry;)Z"), (0, .methodref 8 308), (0, .nameAndType 309 310), (0, u "setColor"), (0, u "(Ljava/util/TreeMap$Entry;Z)V"), (0, .methodref 8 312), (0, .nameAndType 313 173), (0, u "rotateLeft"), (0, .methodref 8 315), (0, .nameAndType 316 173), (0, u "rotateRight"), (71, .class_ 389), (0, u "java/util/TreeMap$NavigableSubMap"), (1, .class_ 392), (0, u "java/util/TreeMap$KeySpliterator"), (3, .class_ 397), (0, u "java/util/TreeMap$DescendingKeySpliterator"), (4, u "UNBOUNDED"), (0, .class_ 404), (0, u W_25), (0, .class_ 406), (0, u W_7), (6, u "RED"), (2, u "BLACK"), (1, u W_3), (0, u "J"), (141, u "keyIterator"), (72, .class_ 635), (0, u "java/util/TreeMap$EntrySpliterator"), (0, .class_ 637), (0, u "java/util/TreeMap$ValueSpliterator"), (0, .class_ 639), (0, u "java/util/TreeMap$TreeMapSpliterator"), (0, .class_ 641), (0, u "java/util/TreeMap$SubMap"), (0, .class_ 643), (0, u "java/util/TreeMap$DescendingSubMap$DescendingEntrySetView"), (0, .class_ 645), (0, u "java/util/TreeMap$AscendingSubMap$AscendingEntrySetView"), (0, .class_ 647), (0, u "java/util/TreeMap$NavigableSubMap$DescendingSubMapKeyIterator"), (0, .class_ 649), (0, u "java/util/TreeMap$NavigableSubMap$SubMapKeyIterator"), (0, .class_ 651), (0, u "java/util/TreeMap$NavigableSubMap$DescendingSubMapEntryIterator"), (0, .class_ 653), (0, u "java/util/TreeMap$NavigableSubMap$SubMapEntryIterator"), (0, .class_ 655), (0, u "java/util/TreeMap$NavigableSubMap$SubMapIterator"), (0, .class_ 657), (0, u "java/util/TreeMap$NavigableSubMap$EntrySetView"), (0, .class_ 659), (0, u "java/util/TreeMap$ValueIterator"), (0, .class_ 661), (0, u "java/util/TreeMap$EntryIterator"), (0, .class_ 663), (0, u S_7)] 28
def k26c0 : Code := ⟨2, 1, jdk_2729_method_1_code, #[], #[]⟩
def k26m0 : Method := ⟨W_1, W_2, ⟨[], none⟩, 1, some k26c0⟩
def k26c1 : Code := ⟨1, 1, jdk_2729_method_5_code, #[], #[]⟩
def k26m1 : Method := ⟨"size", "()I", ⟨[], some .int⟩, 1, some k26c1⟩
def k26c2 : Code := ⟨4, 3, jdk_2729_method_21_code, #[], #[]⟩
def k26m2 : Method := ⟨"put", W_28, ⟨[(.object S_2), (.object S_2)], some (.object S_2)⟩, 1, some k26c2⟩
def k26c3 : Code := ⟨5, 6, jdk_2729_method_29_code, #[], #[]⟩
def k26m3 : Method := ⟨"addEntry", W_70, ⟨[(.object S_2), (.object S_2), (.object S_1), .boolean], none⟩, 2, some k26c3⟩
def k26c4 : Code := ⟨6, 3, jdk_2729_method_30_code, #[], #[]⟩
def k26m4 : Method := ⟨"addEntryToEmptyMap", W_69, ⟨[(.object S_2), (.object S_2)], none⟩, 2, some k26c4⟩
def k26c5 : Code := ⟨5, 10, jdk_2729_method_31_code, #[], #[]⟩
def k26m5 : Method := ⟨"put", W_68, ⟨[(.object S_2), (.object S_2), .boolean], some (.object S_2)⟩, 2, some k26c5⟩
def k26c6 : Code := ⟨4, 2, jdk_2729_method_50_code, #[], #[]⟩
def k26m6 : Method := ⟨W_17, W_27, ⟨[], some (.object W_12)⟩, 1, some k26c6⟩
def k26c7 : Code := ⟨4, 1, jdk_2729_method_65_code, #[], #[]⟩
def k26m7 : Method := ⟨"keyIterator", W_4, ⟨[], some (.object S_28)⟩, 0, some k26c7⟩
def k26c8 : Code := ⟨3, 3, jdk_2729_method_67_code, #[], #[]⟩
def k26m8 : Method := ⟨"compare", W_67, ⟨[(.object S_2), (.object S_2)], some .int⟩, 16, some k26c8⟩
def k26c9 : Code := ⟨1, 2, jdk_2729_method_72_code, #[], #[]⟩
def k26m9 : Method := ⟨"getFirstEntry", W_29, ⟨[], some (.object S_1)⟩, 16, some k26c9⟩
def k26c10 : Code := ⟨2, 3, jdk_2729_method_74_code, #[], #[]⟩
def k26m10 : Method := ⟨"successor", W_18, ⟨[(.object S_1)], some (.object S_1)⟩, 8, some k26c10⟩
def k26c11 : Code := ⟨1, 1, jdk_2729_method_76_code, #[], #[]⟩
def k26m11 : Method := ⟨"colorOf", "(Ljava/util/TreeMap$Entry;)Z", ⟨[(.object S_1)], some .boolean⟩, 10, some k26c11⟩
def k26c12 : Code := ⟨1, 1, jdk_2729_method_77_code, #[], #[]⟩
def k26m12 : Method := ⟨"parentOf", W_18, ⟨[(.object S_1)], some (.object S_1)⟩, 10, some k26c12⟩
def k26c13 : Code := ⟨2, 2, jdk_2729_method_78_code, #[], #[]⟩
def k26m13 : Method := ⟨"setColor", "(Ljava/util/TreeMap$Entry;Z)V", ⟨[(.object S_1), .boolean], none⟩, 10, some k26c13⟩
def k26c14 : Code := ⟨1, 1, jdk_2729_method_79_code, #[], #[]⟩
def k26m14 : Method := ⟨"leftOf", W_18, ⟨[(.object S_1)], some (.object S_1)⟩, 10, some k26c14⟩
def k26c15 : Code := ⟨1, 1, jdk_2729_method_80_code, #[], #[]⟩
def k26m15 : Method := ⟨"rightOf", W_18, ⟨[(.object S_1)], some (.object S_1)⟩, 10, some k26c15⟩
def k26c16 : Code := ⟨2, 3, jdk_2729_method_81_code, #[], #[]⟩
def k26m16 : Method := ⟨"rotateLeft", W_44, ⟨[(.object S_1)], none⟩, 2, some k26c16⟩
def k26c17 : Code := ⟨2, 3, jdk_2729_method_82_code, #[], #[]⟩
def k26m17 : Method := ⟨"rotateRight", W_44, ⟨[(.object S_1)], none⟩, 2, some k26c17⟩
def k26c18 : Code := ⟨2, 3, jdk_2729_method_83_code, #[], #[]⟩
def k26m18 : Method := ⟨"fixAfterInsertion", W_44, ⟨[(.object S_1)], none⟩, 2, some k26c18⟩
def k26 : Class := { plain S_6 (some 22) with
  accessFlags := 33
  interfaces := #[25, 19, 2]
  cf := some (fileOf pool26 8 #[.nestMembers #[634, 636, 396, 391, 638, 59, 640, 245, 642, 250, 644, 388, 646, 648, 650, 652, 654, 656, 274, 269, 658, 660, 662, 222, 242, 237]] #[⟨1, 5, 6, #[]⟩, ⟨1, 11, 31, #[]⟩, ⟨1, 129, 166, #[]⟩, ⟨2, 141, 142, #[]⟩, ⟨2, 137, 138, #[]⟩, ⟨2, 129, 130, #[]⟩, ⟨1, 193, 221, #[]⟩, ⟨0, 561, 41, #[]⟩, ⟨16, 121, 122, #[]⟩, ⟨16, 56, 57, #[]⟩, ⟨8, 70, 71, #[]⟩, ⟨10, 305, 306, #[]⟩, ⟨10, 296, 71, #[]⟩, ⟨10, 309, 310, #[]⟩, ⟨10, 299, 71, #[]⟩, ⟨10, 302, 71, #[]⟩, ⟨2, 313, 173, #[]⟩, ⟨2, 316, 173, #[]⟩, ⟨2, 172, 173, #[]⟩] 33 2 #[231, 403, 405] #[⟨18, 18, 19, #[]⟩, ⟨130, 103, 104, #[]⟩, ⟨130, 11, 12, #[]⟩, ⟨130, 15, 12, #[]⟩, ⟨130, 34, 190, #[]⟩, ⟨130, 193, 194, #[]⟩, ⟨130, 197, 198, #[]⟩, ⟨26, 402, 63, #[]⟩, ⟨26, 413, 293, #[]⟩, ⟨26, 416, 293, #[]⟩, ⟨26, 418, 419, #[]⟩])
  fields := #[⟨"comparator", (.object S_20), 18, 2, 0⟩, ⟨"root", (.object S_1), 130, 3, 0⟩, ⟨"size", .int, 130, 4, 0⟩, ⟨"modCount", .int, 130, 5, 0⟩, ⟨"entrySet", (.object W_61), 130, 6, 0⟩, ⟨W_17, (.object S_12), 130, 7, 0⟩, ⟨"descendingMap", (.object S_21), 130, 8, 0⟩, ⟨"UNBOUNDED", (.object S_2), 26, 0, 0⟩, ⟨"RED", .boolean, 26, 1, 0⟩, ⟨"BLACK", .boolean, 26, 2, 0⟩, ⟨W_3, .long, 26, 3, 0⟩]
  methods := #[k26m0, k26m1, k26m2, k26m3, k26m4, k26m5, k26m6, k26m7, k26m8, k26m9, k26m10, k26m11, k26m12, k26m13, k26m14, k26m15, k26m16, k26m17, k26m18]
  instanceTypes := #[(.object S_22), (.object S_31), (.object S_20), (.object S_1), .int, .int, (.object W_61), (.object S_12), (.object S_21)]
  staticTypes := #[(.object S_2), .boolean, .boolean, .long]
  resolved := Array.replicate 692 none
  statics := none }
def pool27 : Array CpInfo := pool [(2, .class_ 4), (1, u S_2), (0, u W_1), (0, u W_2), (12, .class_ 20), (0, u W_23), (63, u "r"), (0, u "Ljava/util/Random;"), (77, .nameAndType 164 165), (0, u "getClass"), (0, u W_31), (0, .class_ 167), (0, u S_14), (6, .class_ 175), (0, u "java/util/Collections$UnmodifiableSequencedCollection"), (3, .interfaceMethodref 180 163), (0, .class_ 181), (0, u S_22), (0, .class_ 183), (0, u S_15), (0, .methodref 182 185), (0, .nameAndType 5 186), (0, u "(Ljava/util/Set;)V"), (3, .class_ 191), (0, u "java/util/Collections$UnmodifiableSequencedSet"), (6, .class_ 199), (0, u "java/util/Collections$UnmodifiableSortedSet"), (6, .class_ 207), (0, u "java/util/Collections$UnmodifiableNavigableSet"), (4, .class_ 213), (0, u "java/util/Collections$UnmodifiableList"), (1, .class_ 216), (0, u "java/util/Collections$UnmodifiableRandomAccessList"), (6, .class_ 224), (0, u "java/util/Collections$UnmodifiableMap"), (6, .class_ 232), (0, u "java/util/Collections$UnmodifiableSequencedMap"), (4, .class_ 238), (0, u "java/util/Collections$UnmodifiableSortedMap"), (6, .class_ 246), (0, u "java/util/Collections$UnmodifiableNavigableMap"), (3, .class_ 251), (0, u "java/util/Collections$SynchronizedCollection"), (4, .class_ 257), (0, u "java/util/Collections$SynchronizedSet"), (4, .class_ 263), (0, u "java/util/Collections$SynchronizedSortedSet"), (1, .class_ 266), (0, u "java/util/Collections$SynchronizedNavigableSet"), (1, .class_ 269), (0, u "java/util/Collections$SynchronizedRandomAccessList"), (1, .class_ 272), (0, u "java/util/Collections$SynchronizedList"), (5, .class_ 279), (0, u "java/util/Collections$SynchronizedMap"), (1, .class_ 282), (0, u "java/util/Collections$SynchronizedSortedMap"), (1, .class_ 285), (0, u "java/util/Collections$SynchronizedNavigableMap"), (1, .class_ 288), (0, u "java/util/Collections$CheckedCollection"), (11, .class_ 301), (0, u "java/util/Collections$CheckedQueue"), (3, .class_ 306), (0, u "java/util/Collections$CheckedSet"), (3, .class_ 311), (0, u "java/util/Collections$CheckedSortedSet"), (3, .class_ 316), (0, u "java/util/Collections$CheckedNavigableSet"), (3, .class_ 321), (0, u "java/util/Collections$CheckedRandomAccessList"), (3, .class_ 326), (0, u "java/util/Collections$CheckedList"), (1, .class_ 329), (0, u "java/util/Collections$CheckedMap"), (3, .class_ 334), (0, u "java/util/Collections$CheckedSortedMap"), (3, .class_ 339), (0, u "java/util/Collections$CheckedNavigableMap"), (4, .class_ 346), (1, u "java/util/Collections$EmptyIterator"), (3, .class_ 352), (1, u "java/util/Collections$EmptyListIterator"), (2, .class_ 357), (1, u "java/util/Collections$EmptyEnumeration"), (4, u "EMPTY_SET"), (0, u "Ljava/util/Set;"), (6, u "EMPTY_LIST"), (0, u "Ljava/util/List;"), (2, u "EMPTY_MAP"), (0, u "Ljava/util/Map;"), (4, .class_ 381), (0, u "java/util/Collections$SingletonSet"), (2, .class_ 385), (0, u "java/util/Collections$1"), (1, .class_ 388), (0, u "java/util/Collections$2"), (1, .class_ 391), (0, u "java/util/Collections$SingletonList"), (1, .class_ 394), (0, u "java/util/Collections$SingletonMap"), (22, .class_ 418), (0, u "java/util/Collections$CopiesList"), (4, .class_ 425), (1, u "java/util/Collections$ReverseComparator"), (8, .class_ 435), (0, u "java/util/Collections$ReverseComparator2"), (6, .class_ 443), (0, u "java/util/Collections$3"), (25, .class_ 470), (0, u "java/util/Collections$SetFromMap"), (2, .class_ 474), (0, u "java/util/Collections$SequencedSetFromMap"), (3, .class_ 479), (0, u "java/util/Collections$AsLIFOQueue"), (11, .class_ 492), (0, u "java/util/Collections$EmptySet"), (1, .class_ 495), (0, u "java/util/Collections$EmptyList"), (1, .class_ 498), (0, u "java/util/Collections$EmptyMap"), (1, u "BINARYSEARCH_THRESHOLD"), (0, u "I"), (2, u "REVERSE_THRESHOLD"), (1, u "SHUFFLE_THRESHOLD"), (1, u "FILL_THRESHOLD"), (1, u "ROTATE_THRESHOLD"), (1, u "COPY_THRESHOLD"), (1, u "REPLACEALL_THRESHOLD"), (1, u "INDEXOFSUBLIST_THRESHOLD"), (110, u "unmodifiableSet"), (0, u W_55), (221, .class_ 851), (0, u "java/util/Collections$CheckedMap$CheckedEntrySet"), (0, .class_ 853), (0, u "java/util/Collections$CheckedMap$CheckedEntrySet$CheckedEntry"), (0, .class_ 855), (0, u "java/util/Collections$CheckedMap$CheckedEntrySet$1"), (0, .class_ 857), (0, u "java/util/Collections$CheckedList$1"), (0, .class_ 859), (0, u "java/util/Collections$CheckedCollection$1"), (0, .class_ 861), (0, u "java/util/Collections$UnmodifiableNavigableMap$EmptyNavigableMap"), (0, .class_ 863), (0, u "java/util/Collections$UnmodifiableMap$UnmodifiableEntrySet"), (0, .class_ 865), (0, u "java/util/Collections$UnmodifiableMap$UnmodifiableEntrySet$UnmodifiableEntry"), (0, .class_ 867), (0, u "java/util/Collections$UnmodifiableMap$UnmodifiableEntrySet$UnmodifiableEntrySetSpliterator"), (0, .class_ 869), (0, u "java/util/Collections$UnmodifiableMap$UnmodifiableEntrySet$1"), (0, .class_ 871), (0, u "java/util/Collections$UnmodifiableList$1"), (0, .class_ 873), (0, u "java/util/Collections$UnmodifiableNavigableSet$EmptyNavigableSet"), (0, .class_ 875), (0, u "java/util/Collections$UnmodifiableCollection$1")] 57
def k27m0 : Method := ⟨W_1, W_2, ⟨[], none⟩, 2, none⟩
def k27c1 : Code := ⟨3, 1, jdk_79_method_31_code, #[], #[]⟩
def k27m1 : Method := ⟨"unmodifiableSet", W_55, ⟨[(.object S_22)], some (.object S_22)⟩, 9, some k27c1⟩
def k27 : Class := { plain W_23 (some 0) with
  accessFlags := 33
  interfaces := #[]
  cf := some (fileOf pool27 19 #[.nestMembers #[478, 473, 469, 434, 423, 417, 393, 390, 380, 497, 494, 491, 355, 350, 344, 338, 333, 328, 850, 852, 854, 320, 325, 856, 315, 310, 305, 300, 287, 858, 284, 281, 278, 268, 271, 265, 262, 256, 250, 245, 860, 237, 231, 223, 862, 864, 866, 868, 215, 212, 870, 206, 872, 198, 190, 182, 174, 166, 874, 442, 387, 384]] #[⟨2, 5, 6, #[]⟩, ⟨9, 627, 628, #[]⟩] 33 2 #[] #[⟨26, 500, 501, #[]⟩, ⟨26, 504, 501, #[]⟩, ⟨26, 506, 501, #[]⟩, ⟨26, 508, 501, #[]⟩, ⟨26, 510, 501, #[]⟩, ⟨26, 512, 501, #[]⟩, ⟨26, 514, 501, #[]⟩, ⟨26, 516, 501, #[]⟩, ⟨10, 84, 85, #[]⟩, ⟨25, 362, 363, #[]⟩, ⟨25, 370, 371, #[]⟩, ⟨25, 374, 375, #[]⟩])
  fields := #[⟨"BINARYSEARCH_THRESHOLD", .int, 26, 0, 0⟩, ⟨"REVERSE_THRESHOLD", .int, 26, 1, 0⟩, ⟨"SHUFFLE_THRESHOLD", .int, 26, 2, 0⟩, ⟨"FILL_THRESHOLD", .int, 26, 3, 0⟩, ⟨"ROTATE_THRESHOLD", .int, 26, 4, 0⟩, ⟨"COPY_THRESHOLD", .int, 26, 5, 0⟩, ⟨"REPLACEALL_THRESHOLD", .int, 26, 6, 0⟩, ⟨"INDEXOFSUBLIST_THRESHOLD", .int, 26, 7, 0⟩, ⟨"r", (.object "java/util/Random"), 10, 8, 0⟩, ⟨"EMPTY_SET", (.object S_22), 25, 9, 0⟩, ⟨"EMPTY_LIST", (.object W_19), 25, 10, 0⟩, ⟨"EMPTY_MAP", (.object W_13), 25, 11, 0⟩]
  methods := #[k27m0, k27m1]
  instanceTypes := #[]
  staticTypes := #[.int, .int, .int, .int, .int, .int, .int, .int, (.object "java/util/Random"), (.object S_22), (.object W_19), (.object W_13)]
  resolved := Array.replicate 933 none
  statics := none }
def pool28 : Array CpInfo := pool [(1, .methodref 2 3), (0, .class_ 4), (0, .nameAndType 5 6), (0, u S_2), (0, u W_1), (0, u W_2), (3, .fieldref 11 12), (0, .class_ 13), (0, .nameAndType 14 15), (0, u S_14), (0, u "c"), (0, u S_17), (1, .class_ 19), (1, u S_31), (10, .interfaceMethodref 17 31), (0, .nameAndType 32 33), (0, u "toArray"), (0, u W_10), (37, .class_ 72), (0, u W_7), (0, u W_3), (0, u "J"), (5, u W_15), (51, .class_ 133), (0, u W_23)] 2
def k28c0 : Code := ⟨2, 2, jdk_119_method_1_code, #[], #[]⟩
def k28m0 : Method := ⟨W_1, W_15, ⟨[(.object S_31)], none⟩, 0, some k28c0⟩
def k28c1 : Code := ⟨1, 1, jdk_119_method_5_code, #[], #[]⟩
def k28m1 : Method := ⟨"toArray", W_10, ⟨[], some (.array (.object S_2))⟩, 1, some k28c1⟩
def k28 : Class := { plain S_14 (some 0) with
  accessFlags := 32
  interfaces := #[11, 2]
  cf := some (fileOf pool28 11 #[.nestHost 132] #[⟨0, 5, 80, #[]⟩, ⟨1, 32, 33, #[]⟩] 32 2 #[17, 71] #[⟨26, 73, 74, #[]⟩, ⟨16, 14, 15, #[]⟩])
  fields := #[⟨W_3, .long, 26, 0, 0⟩, ⟨"c", (.object S_31), 16, 0, 0⟩]
  methods := #[k28m0, k28m1]
  instanceTypes := #[(.object S_31)]
  staticTypes := #[.long]
  resolved := Array.replicate 136 none
  statics := none }
def pool29 : Array CpInfo := pool [(1, .methodref 2 3), (0, .class_ 4), (0, .nameAndType 5 6), (0, u S_14), (0, u W_1), (0, u W_15), (1, .class_ 10), (1, u S_15), (12, .class_ 24), (0, u S_22), (0, .class_ 26), (0, u W_7), (0, u W_3), (0, u "J"), (3, u "(Ljava/util/Set;)V"), (19, .class_ 53), (0, u W_23)] 3
def k29c0 : Code := ⟨2, 2, jdk_122_method_1_code, #[], #[]⟩
def k29m0 : Method := ⟨W_1, "(Ljava/util/Set;)V", ⟨[(.object S_22)], none⟩, 0, some k29c0⟩
def k29 : Class := { plain S_15 (some 28) with
  accessFlags := 32
  interfaces := #[13, 2]
  cf := some (fileOf pool29 8 #[.nestHost 52] #[⟨0, 5, 32, #[]⟩] 32 2 #[23, 25] #[⟨26, 27, 28, #[]⟩])
  fields := #[⟨W_3, .long, 26, 0, 0⟩]
  methods := #[k29m0]
  instanceTypes := #[(.object S_31)]
  staticTypes := #[.long]
  resolved := Array.replicate 57 none
  mirror := some 6
  statics := none }
def pool30 : Array CpInfo := pool [(8, .class_ 10), (1, u W_19), (92, .class_ 104), (0, u S_2), (15, .class_ 121), (0, u W_41)] 129
def k30 : Class := { plain W_19 (some 0) with
  accessFlags := 1537
  interfaces := #[15]
  cf := some (fileOf pool30 8 #[] #[] 1537 103 #[120] #[])
  fields := #[]
  methods := #[]
  instanceTypes := #[]
  staticTypes := #[]
  resolved := Array.replicate 251 none
  statics := none }
def pool31 : Array CpInfo := pool [(1, .methodref 2 3), (0, .class_ 4), (0, .nameAndType 5 6), (0, u S_30), (0, u W_1), (0, u W_2), (0, .fieldref 8 9), (0, .class_ 10), (0, .nameAndType 11 12), (0, u S_10), (0, u "modCount"), (0, u "I"), (64, .class_ 78), (0, u "java/util/AbstractList$Itr"), (3, .class_ 83), (0, u "java/util/AbstractList$ListItr"), (9, .class_ 94), (0, u "java/util/AbstractList$RandomAccessSubList"), (3, .class_ 99), (0, u "java/util/AbstractList$SubList"), (33, .class_ 134), (0, u W_19), (73, .class_ 209), (0, u "java/util/AbstractList$SubList$1"), (0, .class_ 211), (0, u "java/util/AbstractList$RandomAccessSpliterator")] 6
def k31c0 : Code := ⟨2, 1, jdk_39_method_1_code, #[], #[]⟩
def k31m0 : Method := ⟨W_1, W_2, ⟨[], none⟩, 4, some k31c0⟩
def k31 : Class := { plain S_10 (some 12) with
  accessFlags := 1057
  interfaces := #[30]
  cf := some (fileOf pool31 8 #[.nestMembers #[93, 98, 208, 210, 82, 77]] #[⟨4, 5, 6, #[]⟩] 1057 2 #[133] #[⟨132, 11, 12, #[]⟩])
  fields := #[⟨"modCount", .int, 132, 0, 0⟩]
  methods := #[k31m0]
  instanceTypes := #[.int]
  staticTypes := #[]
  resolved := Array.replicate 218 none
  statics := none }
def pool32 : Array CpInfo := pool [(1, .class_ 2), (0, u W_62), (0, .class_ 4), (0, u S_2)] 2
def k32 : Class := { plain W_62 (some 0) with
  accessFlags := 1537
  interfaces := #[]
  cf := some (fileOf pool32 1 #[] #[] 1537 3 #[] #[])
  fields := #[]
  methods := #[]
  instanceTypes := #[]
  staticTypes := #[]
  resolved := Array.replicate 7 none
  statics := none }
def pool33 : Array CpInfo := pool [(1, .methodref 2 3), (0, .class_ 4), (0, .nameAndType 5 6), (0, u S_10), (0, u W_1), (0, u W_2), (0, .class_ 8), (0, u S_2), (0, .fieldref 10 11), (0, .class_ 12), (0, .nameAndType 13 14), (0, u S_4), (0, u "elementData"), (0, u S_9), (0, .fieldref 10 16), (0, .nameAndType 17 14), (0, u "EMPTY_ELEMENTDATA"), (21, .fieldref 10 40), (0, .nameAndType 41 14), (0, u "DEFAULTCAPACITY_EMPTY_ELEMENTDATA"), (0, .interfaceMethodref 43 44), (0, .class_ 45), (0, .nameAndType 46 47), (0, u S_31), (0, u "toArray"), (0, u W_10), (0, .fieldref 10 49), (0, .nameAndType 50 51), (0, u "size"), (0, u "I"), (0, .interfaceMethodref 43 53), (0, .nameAndType 54 55), (0, u "getClass"), (0, u W_31), (0, .class_ 14), (0, .methodref 58 59), (0, .class_ 60), (0, .nameAndType 61 62), (0, u "java/util/Arrays"), (0, u "copyOf"), (0, u W_63), (0, .fieldref 10 64), (0, .nameAndType 65 51), (0, u "modCount"), (3, .methodref 10 70), (0, .nameAndType 71 72), (0, u "grow"), (0, u "(I)[Ljava/lang/Object;"), (6, .methodref 80 81), (0, .class_ 82), (0, .nameAndType 83 84), (0, u W_22), (0, u "max"), (0, u "(II)I"), (11, u W_6), (21, .methodref 119 120), (0, .class_ 121), (0, .nameAndType 122 84), (0, u W_43), (0, u W_8), (0, .methodref 10 124), (0, .nameAndType 13 125), (0, u W_33), (3, .methodref 10 130), (0, .nameAndType 71 47), (0, .methodref 10 132), (0, .nameAndType 133 134), (0, u "add"), (0, u W_71), (13, .class_ 149), (0, u W_19), (36, u "()I"), (75, .class_ 263), (0, u "java/util/ArrayList$ListItr"), (3, .class_ 268), (0, u "java/util/ArrayList$Itr"), (7, .class_ 277), (0, u "java/util/ArrayList$SubList"), (12, .class_ 291), (0, u "java/util/ArrayList$ArrayListSpliterator"), (37, .class_ 330), (0, u W_62), (0, .class_ 332), (0, u W_25), (0, .class_ 334), (0, u W_7), (0, u W_3), (0, u "J"), (3, u "DEFAULT_CAPACITY"), (10, u W_15), (29, u "get"), (118, .class_ 501), (0, u "java/util/ArrayList$SubList$2"), (0, .class_ 503), (0, u "java/util/ArrayList$SubList$1")] 5
def k33c0 : Code := ⟨2, 1, jdk_38_method_2_code, #[], #[]⟩
def k33m0 : Method := ⟨W_1, W_2, ⟨[], none⟩, 1, some k33c0⟩
def k33c1 : Code := ⟨4, 3, jdk_38_method_3_code, #[], #[]⟩
def k33m1 : Method := ⟨W_1, W_15, ⟨[(.object S_31)], none⟩, 1, some k33c1⟩
def k33c2 : Code := ⟨4, 4, jdk_38_method_6_code, #[], #[]⟩
def k33m2 : Method := ⟨"grow", "(I)[Ljava/lang/Object;", ⟨[.int], some (.array (.object S_2))⟩, 2, some k33c2⟩
def k33c3 : Code := ⟨3, 1, jdk_38_method_7_code, #[], #[]⟩
def k33m3 : Method := ⟨"grow", W_10, ⟨[], some (.array (.object S_2))⟩, 2, some k33c3⟩
def k33c4 : Code := ⟨1, 1, jdk_38_method_8_code, #[], #[]⟩
def k33m4 : Method := ⟨"size", "()I", ⟨[], some .int⟩, 1, some k33c4⟩
def k33c5 : Code := ⟨2, 2, jdk_38_method_18_code, #[], #[]⟩
def k33m5 : Method := ⟨"elementData", W_33, ⟨[.int], some (.object S_2)⟩, 0, some k33c5⟩
def k33c6 : Code := ⟨2, 2, jdk_38_method_20_code, #[], #[]⟩
def k33m6 : Method := ⟨"get", W_33, ⟨[.int], some (.object S_2)⟩, 1, some k33c6⟩
def k33c7 : Code := ⟨3, 4, jdk_38_method_24_code, #[], #[]⟩
def k33m7 : Method := ⟨"add", W_71, ⟨[(.object S_2), (.array (.object S_2)), .int], none⟩, 2, some k33c7⟩
def k33c8 : Code := ⟨4, 2, jdk_38_method_25_code, #[], #[]⟩
def k33m8 : Method := ⟨"add", W_6, ⟨[(.object S_2)], some .boolean⟩, 1, some k33c8⟩
def k33 : Class := { plain S_4 (some 31) with
  accessFlags := 33
  interfaces := #[30, 32, 19, 2]
  cf := some (fileOf pool33 10 #[.nestMembers #[290, 276, 500, 502, 262, 267]] #[⟨1, 5, 6, #[]⟩, ⟨1, 5, 351, #[]⟩, ⟨2, 71, 72, #[]⟩, ⟨2, 71, 47, #[]⟩, ⟨1, 50, 186, #[]⟩, ⟨0, 13, 125, #[]⟩, ⟨1, 381, 125, #[]⟩, ⟨2, 133, 134, #[]⟩, ⟨1, 133, 96, #[]⟩] 33 2 #[148, 329, 331, 333] #[⟨26, 335, 336, #[]⟩, ⟨26, 340, 51, #[]⟩, ⟨26, 17, 14, #[]⟩, ⟨26, 41, 14, #[]⟩, ⟨128, 13, 14, #[]⟩, ⟨2, 50, 51, #[]⟩])
  fields := #[⟨W_3, .long, 26, 0, 0⟩, ⟨"DEFAULT_CAPACITY", .int, 26, 1, 0⟩, ⟨"EMPTY_ELEMENTDATA", (.array (.object S_2)), 26, 2, 0⟩, ⟨"DEFAULTCAPACITY_EMPTY_ELEMENTDATA", (.array (.object S_2)), 26, 3, 0⟩, ⟨"elementData", (.array (.object S_2)), 128, 1, 0⟩, ⟨"size", .int, 2, 2, 0⟩]
  methods := #[k33m0, k33m1, k33m2, k33m3, k33m4, k33m5, k33m6, k33m7, k33m8]
  instanceTypes := #[.int, (.array (.object S_2)), .int]
  staticTypes := #[.long, .int, (.array (.object S_2)), (.array (.object S_2))]
  resolved := Array.replicate 509 none
  mirror := some 7
  statics := some 2 }
def pool34 : Array CpInfo := pool [(1, .methodref 2 3), (0, .class_ 4), (0, .nameAndType 5 6), (0, u W_40), (0, u W_1), (0, u W_2), (0, .fieldref 8 9), (0, .class_ 10), (0, .nameAndType 11 12), (0, u S_12), (0, u "m"), (0, u S_13), (0, .class_ 14), (0, u S_6), (0, .methodref 13 16), (0, .nameAndType 17 18), (0, u "keyIterator"), (0, u W_4), (70, u W_26), (26, .class_ 117), (0, u W_12), (11, u W_11)] 53
def k34c0 : Code := ⟨2, 2, jdk_2741_method_1_code, #[], #[]⟩
def k34m0 : Method := ⟨W_1, W_26, ⟨[(.object S_21)], none⟩, 0, some k34c0⟩
def k34c1 : Code := ⟨1, 1, jdk_2741_method_2_code, #[], #[]⟩
def k34m1 : Method := ⟨W_11, W_4, ⟨[], some (.object S_28)⟩, 1, some k34c1⟩
def k34 : Class := { plain S_12 (some 14) with
  accessFlags := 48
  interfaces := #[18]
  cf := some (fileOf pool34 8 #[.nestHost 13] #[⟨0, 5, 89, #[]⟩, ⟨1, 129, 18, #[]⟩] 48 2 #[116] #[⟨18, 11, 12, #[]⟩])
  fields := #[⟨"m", (.object S_21), 18, 0, 0⟩]
  methods := #[k34m0, k34m1]
  instanceTypes := #[(.object S_21)]
  staticTypes := #[]
  resolved := Array.replicate 183 none
  statics := none }
def pool35 : Array CpInfo := pool [(16, .class_ 18), (1, u S_28), (0, u "hasNext"), (0, u "()Z"), (2, u "next"), (0, u W_24), (6, .class_ 32), (0, u S_2)] 20
def k35m0 : Method := ⟨"hasNext", "()Z", ⟨[], some .boolean⟩, 1025, none⟩
def k35m1 : Method := ⟨"next", W_24, ⟨[], some (.object S_2)⟩, 1025, none⟩
def k35 : Class := { plain S_28 (some 0) with
  accessFlags := 1537
  interfaces := #[]
  cf := some (fileOf pool35 16 #[] #[⟨1025, 19, 20, #[]⟩, ⟨1025, 23, 24, #[]⟩] 1537 31 #[] #[])
  fields := #[]
  methods := #[k35m0, k35m1]
  instanceTypes := #[]
  staticTypes := #[]
  resolved := Array.replicate 53 none
  statics := none }
def pool36 : Array CpInfo := pool [(1, .fieldref 2 3), (0, .class_ 4), (0, .nameAndType 5 6), (0, u S_7), (0, u "this$0"), (0, u S_19), (0, .methodref 8 9), (0, .class_ 10), (0, .nameAndType 11 12), (0, u S_2), (0, u W_1), (0, u W_2), (0, .fieldref 14 15), (0, .class_ 16), (0, .nameAndType 17 18), (0, u S_6), (0, u "modCount"), (0, u "I"), (0, .fieldref 2 20), (0, .nameAndType 21 18), (0, u "expectedModCount"), (0, .fieldref 2 23), (0, .nameAndType 24 25), (0, u "lastReturned"), (0, u S_5), (0, .fieldref 2 27), (0, .nameAndType 28 25), (0, u "next"), (6, .methodref 14 36), (0, .nameAndType 37 38), (0, u "successor"), (0, u W_18), (18, .class_ 58), (0, u S_28), (2, u W_30), (10, u "hasNext"), (0, u "()Z"), (1, u "nextEntry"), (0, u W_29)] 11
def k36c0 : Code := ⟨2, 3, jdk_2750_method_1_code, #[], #[]⟩
def k36m0 : Method := ⟨W_1, W_30, ⟨[(.object S_6), (.object S_1)], none⟩, 0, some k36c0⟩
def k36c1 : Code := ⟨1, 1, jdk_2750_method_2_code, #[], #[]⟩
def k36m1 : Method := ⟨"hasNext", "()Z", ⟨[], some .boolean⟩, 17, some k36c1⟩
def k36c2 : Code := ⟨2, 2, jdk_2750_method_3_code, #[], #[]⟩
def k36m2 : Method := ⟨"nextEntry", W_29, ⟨[], some (.object S_1)⟩, 16, some k36c2⟩
def k36 : Class := { plain S_7 (some 0) with
  accessFlags := 1056
  interfaces := #[35]
  cf := some (fileOf pool36 2 #[.nestHost 14] #[⟨0, 11, 61, #[]⟩, ⟨17, 72, 73, #[]⟩, ⟨16, 75, 76, #[]⟩] 1056 8 #[57] #[⟨0, 28, 25, #[]⟩, ⟨0, 24, 25, #[]⟩, ⟨0, 21, 18, #[]⟩, ⟨4112, 5, 6, #[]⟩])
  fields := #[⟨"next", (.object S_1), 0, 0, 0⟩, ⟨"lastReturned", (.object S_1), 0, 1, 0⟩, ⟨"expectedModCount", .int, 0, 2, 0⟩, ⟨"this$0", (.object S_6), 4112, 3, 0⟩]
  methods := #[k36m0, k36m1, k36m2]
  instanceTypes := #[(.object S_1), (.object S_1), .int, (.object S_6)]
  staticTypes := #[]
  resolved := (Array.replicate 88 none).set! 13 (some (.field 26 3))
  statics := none }
def pool37 : Array CpInfo := pool [(1, .methodref 2 3), (0, .class_ 4), (0, .nameAndType 5 6), (0, u S_7), (0, u W_1), (0, u W_30), (0, .methodref 8 9), (0, .class_ 10), (0, .nameAndType 11 12), (0, u S_16), (0, u "nextEntry"), (0, u W_29), (0, .fieldref 14 15), (0, .class_ 16), (0, .nameAndType 17 18), (0, u S_1), (0, u "key"), (0, u S_11), (15, u "next"), (0, u W_24), (5, .class_ 42), (0, u S_6)] 4
def k37c0 : Code := ⟨3, 3, jdk_2740_method_1_code, #[], #[]⟩
def k37m0 : Method := ⟨W_1, W_30, ⟨[(.object S_6), (.object S_1)], none⟩, 0, some k37c0⟩
def k37c1 : Code := ⟨1, 1, jdk_2740_method_2_code, #[], #[]⟩
def k37m1 : Method := ⟨"next", W_24, ⟨[], some (.object S_2)⟩, 1, some k37c1⟩
def k37 : Class := { plain S_16 (some 36) with
  accessFlags := 48
  interfaces := #[]
  cf := some (fileOf pool37 8 #[.nestHost 41] #[⟨0, 5, 6, #[]⟩, ⟨1, 34, 35, #[]⟩] 48 2 #[] #[])
  fields := #[]
  methods := #[k37m0, k37m1]
  instanceTypes := #[(.object S_1), (.object S_1), .int, (.object S_6)]
  staticTypes := #[]
  resolved := Array.replicate 47 none
  statics := none }
def pool38 : Array CpInfo := pool [(2, .class_ 4), (1, u S_2), (0, u W_1), (0, u W_2), (1, .class_ 10), (1, u W_64)] 75
def k38m0 : Method := ⟨W_1, W_2, ⟨[], none⟩, 0, none⟩
def k38 : Class := { plain W_64 (some 0) with
  accessFlags := 1056
  interfaces := #[]
  cf := some (fileOf pool38 8 #[] #[⟨0, 5, 6, #[]⟩] 1056 2 #[] #[])
  fields := #[]
  methods := #[k38m0]
  instanceTypes := #[]
  staticTypes := #[]
  resolved := Array.replicate 86 none
  statics := none }
def pool39 : Array CpInfo := pool [(1, .fieldref 2 3), (0, .class_ 4), (0, .nameAndType 5 6), (0, u S_23), (0, u "A"), (0, u "[I"), (2, u "B"), (0, u "[C"), (3, u "(I)I"), (0, .methodref 2 16), (0, .nameAndType 17 14), (0, u "getProperties"), (3, u "(I)Z"), (5, u "DIGITS"), (0, u "[B"), (8, u "sharpsMap"), (1, .class_ 41), (1, u W_64), (0, u W_1), (0, u W_2), (3, u "instance"), (0, u "Ljava/lang/CharacterDataLatin1;"), (78, u "isWhitespace")] 13
def k39c0 : Code := ⟨2, 4, jdk_116_method_1_code, #[], #[]⟩
def k39m0 : Method := ⟨"getProperties", "(I)I", ⟨[.int], some .int⟩, 0, some k39c0⟩
def k39c1 : Code := ⟨2, 3, jdk_116_method_26_code, #[], #[]⟩
def k39m1 : Method := ⟨"isWhitespace", "(I)Z", ⟨[.int], some .boolean⟩, 0, some k39c1⟩
def k39m2 : Method := ⟨W_1, W_2, ⟨[], none⟩, 2, none⟩
def k39 : Class := { plain S_23 (some 38) with
  accessFlags := 32
  interfaces := #[]
  cf := some (fileOf pool39 2 #[] #[⟨0, 17, 14, #[]⟩, ⟨0, 127, 21, #[]⟩, ⟨2, 42, 43, #[]⟩] 32 39 #[] #[⟨26, 27, 28, #[]⟩, ⟨8, 37, 10, #[]⟩, ⟨24, 47, 48, #[]⟩, ⟨24, 5, 6, #[]⟩, ⟨24, 9, 10, #[]⟩])
  fields := #[⟨"DIGITS", (.array .byte), 26, 0, 0⟩, ⟨"sharpsMap", (.array .char), 8, 1, 0⟩, ⟨"instance", (.object S_23), 24, 2, 0⟩, ⟨"A", (.array .int), 24, 3, 0⟩, ⟨"B", (.array .char), 24, 4, 0⟩]
  methods := #[k39m0, k39m1, k39m2]
  instanceTypes := #[]
  staticTypes := #[(.array .byte), (.array .char), (.object S_23), (.array .int), (.array .char)]
  resolved := Array.replicate 141 none
  statics := some 3 }
def pool40 : Array CpInfo := pool [(9, u W_1), (6, .class_ 18), (1, u S_2), (0, u W_2), (1, .class_ 23), (1, u W_36), (0, u "LOG2_ARRAY_LONG_INDEX_SCALE"), (0, u "I"), (2, u "U"), (0, u "Ljdk/internal/misc/Unsafe;"), (8, u "BIG_ENDIAN"), (0, u "Z"), (8, u "LOG2_BYTE_BIT_SIZE"), (4, u "LOG2_ARRAY_INT_INDEX_SCALE"), (54, u "JLA"), (0, u "Ljdk/internal/access/JavaLangAccess;"), (11, u "LOG2_ARRAY_BOOLEAN_INDEX_SCALE"), (9, u "LOG2_ARRAY_BYTE_INDEX_SCALE"), (5, u "LOG2_ARRAY_CHAR_INDEX_SCALE"), (5, u "LOG2_ARRAY_SHORT_INDEX_SCALE"), (5, u "mismatch"), (12, u "LOG2_ARRAY_FLOAT_INDEX_SCALE"), (24, u "LOG2_ARRAY_DOUBLE_INDEX_SCALE"), (89, u "T_BOOLEAN"), (2, u "T_CHAR"), (1, u "T_FLOAT"), (1, u "T_DOUBLE"), (1, u "T_BYTE"), (1, u "T_SHORT"), (1, u "T_INT"), (1, u "T_LONG"), (1, u "SOFT_MAX_ARRAY_LENGTH"), (41, u "([B[BI)I"), (0, u "([BI[BII)I")] 40
def k40m0 : Method := ⟨W_1, W_2, ⟨[], none⟩, 2, none⟩
def k40c1 : Code := ⟨8, 4, jdk_48_method_13_code, #[], #[]⟩
def k40m1 : Method := ⟨"mismatch", "([B[BI)I", ⟨[(.array .byte), (.array .byte), .int], some .int⟩, 9, some k40c1⟩
def k40c2 : Code := ⟨8, 8, jdk_48_method_14_code, #[], #[]⟩
def k40m2 : Method := ⟨"mismatch", "([BI[BII)I", ⟨[(.array .byte), .int, (.array .byte), .int, .int], some .int⟩, 9, some k40c2⟩
def k40 : Class := { plain W_36 (some 0) with
  accessFlags := 33
  interfaces := #[]
  cf := some (fileOf pool40 21 #[] #[⟨2, 9, 19, #[]⟩, ⟨9, 149, 336, #[]⟩, ⟨9, 149, 337, #[]⟩] 33 16 #[] #[⟨24, 28, 29, #[]⟩, ⟨26, 38, 39, #[]⟩, ⟨25, 121, 25, #[]⟩, ⟨25, 131, 25, #[]⟩, ⟨25, 137, 25, #[]⟩, ⟨25, 143, 25, #[]⟩, ⟨25, 53, 25, #[]⟩, ⟨25, 24, 25, #[]⟩, ⟨25, 162, 25, #[]⟩, ⟨25, 187, 25, #[]⟩, ⟨26, 48, 25, #[]⟩, ⟨25, 277, 25, #[]⟩, ⟨25, 280, 25, #[]⟩, ⟨25, 282, 25, #[]⟩, ⟨25, 284, 25, #[]⟩, ⟨25, 286, 25, #[]⟩, ⟨25, 288, 25, #[]⟩, ⟨25, 290, 25, #[]⟩, ⟨25, 292, 25, #[]⟩, ⟨26, 108, 109, #[]⟩, ⟨25, 294, 25, #[]⟩])
  fields := #[⟨"U", (.object "jdk/internal/misc/Unsafe"), 24, 0, 0⟩, ⟨"BIG_ENDIAN", .boolean, 26, 1, 0⟩, ⟨"LOG2_ARRAY_BOOLEAN_INDEX_SCALE", .int, 25, 2, 0⟩, ⟨"LOG2_ARRAY_BYTE_INDEX_SCALE", .int, 25, 3, 0⟩, ⟨"LOG2_ARRAY_CHAR_INDEX_SCALE", .int, 25, 4, 0⟩, ⟨"LOG2_ARRAY_SHORT_INDEX_SCALE", .int, 25, 5, 0⟩, ⟨"LOG2_ARRAY_INT_INDEX_SCALE", .int, 25, 6, 0⟩, ⟨"LOG2_ARRAY_LONG_INDEX_SCALE", .int, 25, 7, 0⟩, ⟨"LOG2_ARRAY_FLOAT_INDEX_SCALE", .int, 25, 8, 0⟩, ⟨"LOG2_ARRAY_DOUBLE_INDEX_SCALE", .int, 25, 9, 0⟩, ⟨"LOG2_BYTE_BIT_SIZE", .int, 26, 10, 0⟩, ⟨"T_BOOLEAN", .int, 25, 11, 0⟩, ⟨"T_CHAR", .int, 25, 12, 0⟩, ⟨"T_FLOAT", .int, 25, 13, 0⟩, ⟨"T_DOUBLE", .int, 25, 14, 0⟩, ⟨"T_BYTE", .int, 25, 15, 0⟩, ⟨"T_SHORT", .int, 25, 16, 0⟩, ⟨"T_INT", .int, 25, 17, 0⟩, ⟨"T_LONG", .int, 25, 18, 0⟩, ⟨"JLA", (.object "jdk/internal/access/JavaLangAccess"), 26, 19, 0⟩, ⟨"SOFT_MAX_ARRAY_LENGTH", .int, 25, 20, 0⟩]
  methods := #[k40m0, k40m1, k40m2]
  instanceTypes := #[]
  staticTypes := #[(.object "jdk/internal/misc/Unsafe"), .boolean, .int, .int, .int, .int, .int, .int, .int, .int, .int, .int, .int, .int, .int, .int, .int, .int, .int, (.object "jdk/internal/access/JavaLangAccess"), .int]
  resolved := Array.replicate 378 none
  statics := none }
def pool41 : Array CpInfo := pool [(1, .class_ 2), (0, u W_22), (1, .class_ 6), (1, u S_2), (0, u W_1), (0, u W_2), (89, .class_ 100), (1, u "java/lang/Math$RandomNumberGeneratorHolder"), (71, u "negativeZeroFloatBits"), (0, u "J"), (2, u "negativeZeroDoubleBits"), (21, u "max"), (2, u "min"), (43, u W_9), (0, u "Z"), (88, u "(II)I"), (2, u "twoToTheDoubleScaleDown"), (0, u "D"), (4, u "twoToTheDoubleScaleUp"), (9, u "E"), (3, u "PI"), (2, u "TAU"), (2, u "DEGREES_TO_RADIANS"), (0, u "RADIANS_TO_DEGREES")] 94
def k41m0 : Method := ⟨W_1, W_2, ⟨[], none⟩, 2, none⟩
def k41c1 : Code := ⟨2, 2, jdk_29_method_65_code, #[], #[]⟩
def k41m1 : Method := ⟨"max", "(II)I", ⟨[.int, .int], some .int⟩, 9, some k41c1⟩
def k41c2 : Code := ⟨2, 2, jdk_29_method_69_code, #[], #[]⟩
def k41m2 : Method := ⟨"min", "(II)I", ⟨[.int, .int], some .int⟩, 9, some k41c2⟩
def k41 : Class := { plain W_22 (some 0) with
  accessFlags := 49
  interfaces := #[]
  cf := some (fileOf pool41 1 #[.nestMembers #[98]] #[⟨2, 7, 8, #[]⟩, ⟨9, 198, 335, #[]⟩, ⟨9, 201, 335, #[]⟩] 49 4 #[] #[⟨25, 354, 339, #[]⟩, ⟨25, 358, 339, #[]⟩, ⟨25, 361, 339, #[]⟩, ⟨26, 364, 339, #[]⟩, ⟨26, 365, 339, #[]⟩, ⟨26, 172, 173, #[]⟩, ⟨26, 176, 173, #[]⟩, ⟨8, 344, 339, #[]⟩, ⟨8, 338, 339, #[]⟩, ⟨4120, 245, 246, #[]⟩])
  fields := #[⟨"E", .double, 25, 0, 0⟩, ⟨"PI", .double, 25, 1, 0⟩, ⟨"TAU", .double, 25, 2, 0⟩, ⟨"DEGREES_TO_RADIANS", .double, 26, 3, 0⟩, ⟨"RADIANS_TO_DEGREES", .double, 26, 4, 0⟩, ⟨"negativeZeroFloatBits", .long, 26, 5, 0⟩, ⟨"negativeZeroDoubleBits", .long, 26, 6, 0⟩, ⟨"twoToTheDoubleScaleUp", .double, 8, 7, 0⟩, ⟨"twoToTheDoubleScaleDown", .double, 8, 8, 0⟩, ⟨W_9, .boolean, 4120, 9, 0⟩]
  methods := #[k41m0, k41m1, k41m2]
  instanceTypes := #[]
  staticTypes := #[.double, .double, .double, .double, .double, .long, .long, .double, .double, .boolean]
  resolved := Array.replicate 460 none
  statics := none }
def pool42 : Array CpInfo := pool [(23, .class_ 25), (1, u W_42), (6, .class_ 34), (1, u W_13), (34, .class_ 70), (0, u S_2)] 107
def k42 : Class := { plain W_42 (some 0) with
  accessFlags := 1537
  interfaces := #[]
  cf := some (fileOf pool42 23 #[.nestHost 32] #[] 1537 69 #[] #[])
  fields := #[]
  methods := #[]
  instanceTypes := #[]
  staticTypes := #[]
  resolved := Array.replicate 178 none
  statics := none }
def pool43 : Array CpInfo := pool [(1, .class_ 2), (0, u S_6), (0, .methodref 4 5), (0, .class_ 6), (0, .nameAndType 7 8), (0, u S_2), (0, u W_1), (0, u W_2), (0, .fieldref 10 11), (0, .class_ 12), (0, .nameAndType 13 14), (0, u S_1), (0, u "color"), (0, u "Z"), (0, .fieldref 10 16), (0, .nameAndType 17 18), (0, u "key"), (0, u S_11), (0, .fieldref 10 20), (0, .nameAndType 21 18), (0, u "value"), (0, .fieldref 10 23), (0, .nameAndType 24 25), (0, u "parent"), (0, u S_5), (0, .class_ 27), (0, u W_42), (34, u "left"), (1, u "right"), (0, u W_60)] 30
def k43c0 : Code := ⟨2, 4, jdk_2736_method_1_code, #[], #[]⟩
def k43m0 : Method := ⟨W_1, W_60, ⟨[(.object S_2), (.object S_2), (.object S_1)], none⟩, 0, some k43c0⟩
def k43 : Class := { plain S_1 (some 0) with
  accessFlags := 48
  interfaces := #[42]
  cf := some (fileOf pool43 10 #[.nestHost 1] #[⟨0, 7, 65, #[]⟩] 48 4 #[26] #[⟨0, 17, 18, #[]⟩, ⟨0, 21, 18, #[]⟩, ⟨0, 62, 25, #[]⟩, ⟨0, 64, 25, #[]⟩, ⟨0, 24, 25, #[]⟩, ⟨0, 13, 14, #[]⟩])
  fields := #[⟨"key", (.object S_2), 0, 0, 0⟩, ⟨"value", (.object S_2), 0, 1, 0⟩, ⟨"left", (.object S_1), 0, 2, 0⟩, ⟨"right", (.object S_1), 0, 3, 0⟩, ⟨"parent", (.object S_1), 0, 4, 0⟩, ⟨"color", .boolean, 0, 5, 0⟩]
  methods := #[k43m0]
  instanceTypes := #[(.object S_2), (.object S_2), (.object S_1), (.object S_1), (.object S_1), .boolean]
  staticTypes := #[]
  resolved := Array.replicate 96 none
  statics := none }
def pool44 : Array CpInfo := pool [(2, .class_ 4), (1, u S_2), (0, u W_1), (0, u W_2), (35, .class_ 44), (1, u W_43), (0, u "requireNonNull"), (0, u W_59), (58, .methodref 106 107), (0, .class_ 108), (0, .nameAndType 109 110), (0, u W_37), (0, u W_8), (0, u W_38), (60, u "(II)I")] 12
def k44m0 : Method := ⟨W_1, W_2, ⟨[], none⟩, 2, none⟩
def k44c1 : Code := ⟨2, 1, jdk_31_method_10_code, #[], #[]⟩
def k44m1 : Method := ⟨"requireNonNull", W_59, ⟨[(.object S_2)], some (.object S_2)⟩, 9, some k44c1⟩
def k44c2 : Code := ⟨3, 2, jdk_31_method_17_code, #[], #[]⟩
def k44m2 : Method := ⟨W_8, "(II)I", ⟨[.int, .int], some .int⟩, 9, some k44c2⟩
def k44 : Class := { plain W_43 (some 0) with
  accessFlags := 49
  interfaces := #[]
  cf := some (fileOf pool44 42 #[] #[⟨2, 5, 6, #[]⟩, ⟨9, 45, 46, #[]⟩, ⟨9, 109, 171, #[]⟩] 49 2 #[] #[])
  fields := #[]
  methods := #[k44m0, k44m1, k44m2]
  instanceTypes := #[]
  staticTypes := #[]
  resolved := Array.replicate 184 none
  statics := none }
def pool45 : Array CpInfo := pool [(2, .class_ 4), (1, u S_2), (0, u W_1), (0, u W_2), (7, .class_ 16), (1, u "java/util/Arrays"), (57, .class_ 76), (1, u "java/util/Arrays$NaturalOrder"), (33, .class_ 111), (0, u S_9), (1, .class_ 115), (1, u "java/util/Arrays$LegacyMergeSort"), (1, u "Z"), (32, .methodref 151 152), (0, .class_ 153), (0, .nameAndType 154 155), (0, u "java/lang/System"), (0, u "arraycopy"), (0, u W_65), (146, u "copyOf"), (0, u W_63), (0, .methodref 305 306), (0, .class_ 307), (0, .nameAndType 308 309), (0, u W_22), (0, u "min"), (0, u "(II)I"), (65, .class_ 376), (0, u "java/util/Arrays$ArrayList"), (68, u W_9), (269, u "MIN_ARRAY_SORT_GRAN"), (0, u "I"), (2, u "INSERTIONSORT_THRESHOLD"), (255, .class_ 976), (0, u "java/util/Arrays$ArrayItr")] 52
def k45m0 : Method := ⟨W_1, W_2, ⟨[], none⟩, 2, none⟩
def k45c1 : Code := ⟨6, 4, jdk_65_method_120_code, #[], #[]⟩
def k45m1 : Method := ⟨"copyOf", W_63, ⟨[(.array (.object S_2)), .int, (.object W_32)], some (.array (.object S_2))⟩, 9, some k45c1⟩
def k45 : Class := { plain "java/util/Arrays" (some 0) with
  accessFlags := 49
  interfaces := #[]
  cf := some (fileOf pool45 14 #[.nestMembers #[975, 375, 113, 74]] #[⟨2, 5, 6, #[]⟩, ⟨9, 302, 303, #[]⟩] 49 2 #[] #[⟨26, 715, 716, #[]⟩, ⟨26, 719, 716, #[]⟩, ⟨4120, 445, 117, #[]⟩])
  fields := #[⟨"MIN_ARRAY_SORT_GRAN", .int, 26, 0, 0⟩, ⟨"INSERTIONSORT_THRESHOLD", .int, 26, 1, 0⟩, ⟨W_9, .boolean, 4120, 2, 0⟩]
  methods := #[k45m0, k45m1]
  instanceTypes := #[]
  staticTypes := #[.int, .int, .boolean]
  resolved := Array.replicate 1029 none
  statics := none }
def pool46 : Array CpInfo := pool [(2, .class_ 4), (1, u S_2), (0, u W_1), (0, u W_2), (1, .class_ 10), (1, u "java/lang/System"), (0, u "allowSecurityManager"), (0, u "I"), (16, u "cons"), (0, u "Ljava/io/Console;"), (77, .class_ 110), (1, u "java/lang/System$CallersHolder"), (43, u "initialErrStream"), (0, u "Ljava/io/PrintStream;"), (19, u "security"), (0, u "Ljava/lang/SecurityManager;"), (31, .class_ 209), (0, u "java/lang/System$1"), (7, u "props"), (0, u "Ljava/util/Properties;"), (2, u "lineSeparator"), (0, u "Ljava/lang/String;"), (96, .class_ 321), (1, u "java/lang/System$LoggerFinder"), (5, .class_ 328), (0, u "java/lang/System$Logger"), (67, u "err"), (2, u "out"), (91, u "notSupportedJnuEncoding"), (15, u "in"), (17, u "initialIn"), (0, u "Ljava/io/InputStream;"), (35, u "bootLayer"), (0, u "Ljava/lang/ModuleLayer;"), (99, .class_ 664), (0, u "java/lang/System$2"), (9, u "NEVER"), (2, u "MAYBE"), (49, u "arraycopy"), (0, u W_65), (72, .class_ 802), (0, u "java/lang/System$Logger$Level")] 31
def k46m0 : Method := ⟨W_1, W_2, ⟨[], none⟩, 2, none⟩
def k46m1 : Method := ⟨"arraycopy", W_65, ⟨[(.object S_2), .int, (.object S_2), .int, .int], none⟩, 265, none⟩
def k46 : Class := { plain "java/lang/System" (some 0) with
  accessFlags := 49
  interfaces := #[]
  cf := some (fileOf pool46 8 #[.nestMembers #[319, 327, 801, 108, 663, 208]] #[⟨2, 5, 6, #[]⟩, ⟨265, 727, 728, #[]⟩] 49 2 #[] #[⟨25, 507, 526, #[]⟩, ⟨25, 399, 155, #[]⟩, ⟨25, 396, 155, #[]⟩, ⟨10, 525, 526, #[]⟩, ⟨26, 674, 12, #[]⟩, ⟨26, 677, 12, #[]⟩, ⟨10, 11, 12, #[]⟩, ⟨74, 175, 176, #[]⟩, ⟨10, 491, 222, #[]⟩, ⟨74, 29, 30, #[]⟩, ⟨74, 154, 155, #[]⟩, ⟨10, 217, 218, #[]⟩, ⟨10, 221, 222, #[]⟩, ⟨8, 562, 563, #[]⟩])
  fields := #[⟨"in", (.object W_45), 25, 0, 0⟩, ⟨"out", (.object W_20), 25, 1, 0⟩, ⟨"err", (.object W_20), 25, 2, 0⟩, ⟨"initialIn", (.object W_45), 10, 3, 0⟩, ⟨"NEVER", .int, 26, 4, 0⟩, ⟨"MAYBE", .int, 26, 5, 0⟩, ⟨"allowSecurityManager", .int, 10, 6, 0⟩, ⟨"security", (.object "java/lang/SecurityManager"), 74, 7, 0⟩, ⟨"notSupportedJnuEncoding", (.object S_3), 10, 8, 0⟩, ⟨"cons", (.object "java/io/Console"), 74, 9, 0⟩, ⟨"initialErrStream", (.object W_20), 74, 10, 0⟩, ⟨"props", (.object "java/util/Properties"), 10, 11, 0⟩, ⟨"lineSeparator", (.object S_3), 10, 12, 0⟩, ⟨"bootLayer", (.object "java/lang/ModuleLayer"), 8, 13, 0⟩]
  methods := #[k46m0, k46m1]
  instanceTypes := #[]
  staticTypes := #[(.object W_45), (.object W_20), (.object W_20), (.object W_45), .int, .int, .int, (.object "java/lang/SecurityManager"), (.object S_3), (.object "java/io/Console"), (.object W_20), (.object "java/util/Properties"), (.object S_3), (.object "java/lang/ModuleLayer")]
  resolved := Array.replicate 834 none
  statics := none }
def pool47 : Array CpInfo := pool [(2, .class_ 4), (1, u S_2), (0, u W_1), (0, u W_2), (17, .class_ 26), (1, u W_37), (6, u W_8), (21, .class_ 56), (0, u "jdk/internal/util/Preconditions$4"), (57, .class_ 115), (0, u "jdk/internal/util/Preconditions$1"), (7, u "SIOOBE_FORMATTER"), (0, u "Ljava/util/function/BiFunction;"), (0, .class_ 126), (0, u "jdk/internal/util/Preconditions$2"), (3, u "AIOOBE_FORMATTER"), (0, .class_ 132), (0, u "jdk/internal/util/Preconditions$3"), (3, u "IOOBE_FORMATTER"), (41, u W_38)] 15
def k47m0 : Method := ⟨W_1, W_2, ⟨[], none⟩, 1, none⟩
def k47c1 : Code := ⟨3, 3, jdk_41_method_11_code, #[], #[]⟩
def k47m1 : Method := ⟨W_8, W_38, ⟨[.int, .int, (.object W_14)], some .int⟩, 9, some k47c1⟩
def k47 : Class := { plain W_37 (some 0) with
  accessFlags := 33
  interfaces := #[]
  cf := some (fileOf pool47 24 #[.nestMembers #[55, 131, 125, 114]] #[⟨1, 5, 6, #[]⟩, ⟨9, 33, 178, #[]⟩] 33 2 #[] #[⟨25, 123, 124, #[]⟩, ⟨25, 130, 124, #[]⟩, ⟨25, 136, 124, #[]⟩])
  fields := #[⟨"SIOOBE_FORMATTER", (.object W_14), 25, 0, 0⟩, ⟨"AIOOBE_FORMATTER", (.object W_14), 25, 1, 0⟩, ⟨"IOOBE_FORMATTER", (.object W_14), 25, 2, 0⟩]
  methods := #[k47m0, k47m1]
  instanceTypes := #[]
  staticTypes := #[(.object W_14), (.object W_14), (.object W_14)]
  resolved := Array.replicate 194 none
  statics := some 4 }
def pool48 : Array CpInfo := pool [(6, .class_ 8), (1, u S_2), (0, u W_1), (0, u W_2), (1, .class_ 14), (1, u W_51), (31, u W_9), (0, u "Z"), (13, u "HI_BYTE_SHIFT"), (0, u "I"), (2, u "LO_BYTE_SHIFT"), (49, .methodref 12 116), (0, .nameAndType 117 118), (0, u "compress"), (0, u "([CI[BII)I"), (3, u "([CII)[B"), (138, u "coderFromArrayLen"), (0, u "([BI)B"), (106, .class_ 371), (1, u "java/lang/StringUTF16$LinesSpliterator"), (58, u "MAX_LENGTH"), (196, .class_ 628), (0, u "java/lang/StringUTF16$CodePointsSpliterator"), (0, .class_ 630), (0, u "java/lang/StringUTF16$CharsSpliterator")] 4
def k48m0 : Method := ⟨W_1, W_2, ⟨[], none⟩, 0, none⟩
def k48c1 : Code := ⟨2, 2, jdk_52_method_15_code, #[], #[]⟩
def k48m1 : Method := ⟨"coderFromArrayLen", "([BI)B", ⟨[(.array .byte), .int], some .byte⟩, 8, some k48c1⟩
def k48c2 : Code := ⟨5, 6, jdk_52_method_16_code, #[], #[]⟩
def k48m2 : Method := ⟨"compress", "([CII)[B", ⟨[(.array .char), .int, .int], some (.array .byte)⟩, 9, some k48c2⟩
def k48c3 : Code := ⟨3, 7, jdk_52_method_21_code, #[], #[]⟩
def k48m3 : Method := ⟨"compress", "([CI[BII)I", ⟨[(.array .char), .int, (.array .byte), .int, .int], some .int⟩, 9, some k48c3⟩
def k48 : Class := { plain W_51 (some 0) with
  accessFlags := 48
  interfaces := #[]
  cf := some (fileOf pool48 12 #[.nestMembers #[627, 629, 369]] #[⟨0, 9, 10, #[]⟩, ⟨8, 261, 262, #[]⟩, ⟨9, 117, 122, #[]⟩, ⟨9, 117, 118, #[]⟩] 48 6 #[] #[⟨26, 61, 62, #[]⟩, ⟨26, 65, 62, #[]⟩, ⟨24, 430, 62, #[]⟩, ⟨4120, 46, 47, #[]⟩])
  fields := #[⟨"HI_BYTE_SHIFT", .int, 26, 0, 0⟩, ⟨"LO_BYTE_SHIFT", .int, 26, 1, 0⟩, ⟨"MAX_LENGTH", .int, 24, 2, 0⟩, ⟨W_9, .boolean, 4120, 3, 0⟩]
  methods := #[k48m0, k48m1, k48m2, k48m3]
  instanceTypes := #[]
  staticTypes := #[.int, .int, .int, .boolean]
  resolved := Array.replicate 635 none
  statics := none }
def pool49 : Array CpInfo := pool [(1, u W_32), (0, .class_ 1), (0, u S_2), (0, .class_ 3)] 0
def k49 : Class := { plain W_32 (some 0) with
  accessFlags := 49
  interfaces := #[]
  cf := some (fileOf pool49 2 #[] #[] 49 4 #[] #[])
  fields := #[]
  methods := #[]
  instanceTypes := #[]
  staticTypes := #[]
  resolved := Array.replicate 5 none
  statics := none }
def k50 : Class := { plain "byte" none with kind := .primitive 'B', accessFlags := 0x411 }
def k51 : Class := { plain "[B" (some 0) with kind := .array 50 .byte, interfaces := #[19, 2], accessFlags := 1041 }
def k52 : Class := { plain "char" none with kind := .primitive 'C', accessFlags := 0x411 }
def k53 : Class := { plain "[C" (some 0) with kind := .array 52 .char, interfaces := #[19, 2], accessFlags := 1041 }
def k54 : Class := { plain "int" none with kind := .primitive 'I', accessFlags := 0x411 }
def k55 : Class := { plain "[I" (some 0) with kind := .array 54 .int, interfaces := #[19, 2], accessFlags := 1041 }
def k56 : Class := { plain S_9 (some 0) with kind := .array 0 (.object S_2), interfaces := #[19, 2], accessFlags := 1041, mirror := some 8 }
def k57 : Class := { plain "[Ljava/lang/String;" (some 0) with kind := .array 7 (.object S_3), interfaces := #[19, 2], accessFlags := 1041 }
def heap : Heap := #[{ cls := 7, slots := #[.long 0, .int 1, .null, .int 0, .null, .int 0, .int 0], vm := .statics 7 },
  { cls := 20, slots := #[.ref 11, .long 0], vm := .statics 20 },
  { cls := 33, slots := #[.long 0, .int 0, .ref 12, .ref 13], vm := .statics 33 },
  { cls := 39, slots := #[.null, .null, .ref 10, .ref 9, .null], vm := .statics 39 },
  { cls := 47, slots := #[.null, .null, .null], vm := .statics 47 },
  { cls := 49, slots := #[], vm := .mirror 20 },
  { cls := 49, slots := #[], vm := .mirror 29 },
  { cls := 49, slots := #[], vm := .mirror 33 },
  { cls := 49, slots := #[], vm := .mirror 56 },
  { cls := 55, slots := #[.int 1207963663, .int 1207963663, .int 1207963663, .int 1207963663, .int 1207963663, .int 1207963663, .int 1207963663, .int 1207963663, .int 1207963663, .int 1476411407, .int 1342193679, .int 1476411407, .int 1610629135, .int 1342193679, .int 1207963663, .int 1207963663, .int 1207963663, .int 1207963663, .int 1207963663, .int 1207963663, .int 1207963663, .int 1207963663, .int 1207963663, .int 1207963663, .int 1207963663, .int 1207963663, .int 1207963663, .int 1207963663, .int 1342193679, .int 1342193679, .int 1342193679, .int 1476411407, .int 1610629132, .int 1744830488, .int 1744830488, .int 671088664, .int 671113242, .int 671088664, .int 1744830488, .int 1744830488, .int (-402653163), .int (-402653162), .int 1744830488, .int 536870937, .int 939524120, .int 536870932, .int 939524120, .int 939524120, .int 402667017, .int 402667017, .int 402667017, .int 402667017, .int 402667017, .int 402667017, .int 402667017, .int 402667017, .int 402667017, .int 402667017, .int 939524120, .int 1744830488, .int (-402653159), .int 1744830489, .int (-402653159), .int 1744830488, .int 1744830488, .int 8552417, .int 8552417, .int 8552417, .int 8552417, .int 8552417, .int 8552417, .int 8552417, .int 8552417, .int 8552417, .int 8552417, .int 8552417, .int 8552417, .int 8552417, .int 8552417, .int 8552417, .int 8552417, .int 8552417, .int 8552417, .int 8552417, .int 8552417, .int 8552417, .int 8552417, .int 8552417, .int 8552417, .int 8552417, .int 8552417, .int (-402653163), .int 1744830488, .int (-402653162), .int 1744830491, .int 1744850967, .int 1744830491, .int 8486882, .int 8486882, .int 8486882, .int 8486882, .int 8486882, .int 8486882, .int 8486882, .int 8486882, .int 8486882, .int 8486882, .int 8486882, .int 8486882, .int 8486882, .int 8486882, .int 8486882, .int 8486882, .int 8486882, .int 8486882, .int 8486882, .int 8486882, .int 8486882, .int 8486882, .int 8486882, .int 8486882, .int 8486882, .int 8486882, .int (-402653163), .int 1744830489, .int (-402653162), .int 1744830489, .int 1207963663, .int 1207963663, .int 1207963663, .int 1207963663, .int 1207963663, .int 1207963663, .int 1342181391, .int 1207963663, .int 1207963663, .int 1207963663, .int 1207963663, .int 1207963663, .int 1207963663, .int 1207963663, .int 1207963663, .int 1207963663, .int 1207963663, .int 1207963663, .int 1207963663, .int 1207963663, .int 1207963663, .int 1207963663, .int 1207963663, .int 1207963663, .int 1207963663, .int 1207963663, .int 1207963663, .int 1207963663, .int 1207963663, .int 1207963663, .int 1207963663, .int 1207963663, .int 1207963663, .int 939524108, .int 1744830488, .int 671113242, .int 671113242, .int 671113242, .int 671113242, .int 1744830492, .int 1744830488, .int 1744830491, .int 1744830492, .int 28677, .int (-402653155), .int 1744830489, .int 1207963664, .int 1744830492, .int 1744830491, .int 671088668, .int 671088665, .int 402654731, .int 402654731, .int 1744830491, .int 134049794, .int 1744830488, .int 1744830488, .int 1744830491, .int 402654475, .int 28677, .int (-402653154), .int 1744832523, .int 1744832523, .int 1744832523, .int 1744830488, .int 8548353, .int 8548353, .int 8548353, .int 8548353, .int 8548353, .int 8548353, .int 8548353, .int 8548353, .int 8548353, .int 8548353, .int 8548353, .int 8548353, .int 8548353, .int 8548353, .int 8548353, .int 8548353, .int 8548353, .int 8548353, .int 8548353, .int 8548353, .int 8548353, .int 8548353, .int 8548353, .int 1744830489, .int 8548353, .int 8548353, .int 8548353, .int 8548353, .int 8548353, .int 8548353, .int 8548353, .int 134049794, .int 8482818, .int 8482818, .int 8482818, .int 8482818, .int 8482818, .int 8482818, .int 8482818, .int 8482818, .int 8482818, .int 8482818, .int 8482818, .int 8482818, .int 8482818, .int 8482818, .int 8482818, .int 8482818, .int 8482818, .int 8482818, .int 8482818, .int 8482818, .int 8482818, .int 8482818, .int 8482818, .int 1744830489, .int 8482818, .int 8482818, .int 8482818, .int 8482818, .int 8482818, .int 8482818, .int 8482818, .int 102592514], vm := .none },
  { cls := 39, slots := #[], vm := .none },
  { cls := 0, slots := #[], vm := .none },
  { cls := 56, slots := #[], vm := .none },
  { cls := 56, slots := #[], vm := .none }]
def classes : Array Class := #[k0, k1, k2, k3, k4, k5, k6, k7, k8, k9, k10, k11, k12, k13, k14, k15, k16, k17, k18, k19, k20, k21, k22, k23, k24, k25, k26, k27, k28, k29, k30, k31, k32, k33, k34, k35, k36, k37, k38, k39, k40, k41, k42, k43, k44, k45, k46, k47, k48, k49, k50, k51, k52, k53, k54, k55, k56, k57]
def interned : List (Array UInt16 × Addr) := []
def slotsUsed : Nat := 277
def theMethod : MethodId := ⟨1, 1⟩
def args0 : Array Value := #[.int 609, .int 66, .int 67, .int 68, .int 69, .int 196608]
def aboutOver (below : List Frame) : State where
  vm := { classes := classes, interned := interned.toArray }
  heap := heap
  slotsUsed := slotsUsed
  threads := #[{ frames := .invoking theMethod args0 :: below }]
def below0 : List Frame := [.native { method := ⟨0, 0⟩, args := #[] }]
def about1 : State := aboutOver below0
def p0 : Program := .bare "" "" ""
def e0 : Env := launch0.env 0 0 0
theorem w_frames : about1.frames = Frame.invoking theMethod args0 :: below0 := rfl
theorem w_args : argsFit about1.vm theMethod args0 = true := by decide +kernel
theorem w_heap : heapFits about1 = true := by decide +kernel
theorem w_runnable : about1.curStatus? = some .runnable := by decide +kernel
theorem w_alone : about1.alone = true := by decide +kernel
theorem w_named : about1.methodNamed? x = some theMethod := by decide +kernel
theorem w_hears : about1.hears theMethod below0 = true := by decide +kernel
theorem w_ripe : about1.ripe theMethod args0 below0 = true := by decide +kernel
theorem w_running : about1.status = .running := rfl
theorem w_room : about1.hasRoom e0.platform room_1 = true :=
  launch0.hasRoom_least _ room_1 (by decide +kernel) (by decide +kernel) (by decide +kernel) (by decide +kernel) (by decide +kernel) (by decide +kernel)
theorem allAtoms_all (ts : List Jvm.Cond) (a : Array Jvm.Value) (st : Jvm.State) : (allAtoms ts).before a st = ts.all (fun c => c.before a st) := by
  induction ts with
  | nil => rfl
  | cons c t ih =>
    show (Jvm.Cond.and c (allAtoms t)).before a st = _
    rw [Jvm.Cond.before_and, ih, List.all_cons]
def words1 : List Jvm.Cond := Jvm.Cond.code x code maxLocals ret :: tables_1
theorem code_word {y : MethodName} {bytes : ByteArray} {mx : Nat} {rt : Option FieldType} {a : Array Value} {s : State} {m : MethodId} {meth : Method} {c : Code} (h1 : s.methodNamed? y = some m) (h2 : s.vm.method? m = some meth) (h3 : meth.code = some c) (h4 : c.code = bytes)
    (h5 : (c.maxLocals == mx && c.exceptionTable.isEmpty && decide (c.maxStack ≤ mostOperands) && decide (meth.sig.returnType = rt) && !meth.locks && decide (parseMethodDescriptor y.desc = some meth.sig)) = true) : (Jvm.Cond.code y bytes mx rt).before a s = true := by
  simp only [Bool.and_eq_true, beq_iff_eq, Bool.not_eq_true', decide_eq_true_eq] at h5
  obtain ⟨⟨⟨⟨⟨g1, g2⟩, g3⟩, g4⟩, g5⟩, g6⟩ := h5
  simp [Cond.before, Cond.holds, Cond.value, h1, h2, h3, h4, g1, g2, g3, g4, g5, g6]
def isCode : Jvm.Cond → Bool
  | .code _ _ _ _ => true
  | _ => false
theorem all_split {L : List Jvm.Cond} {P : Jvm.Cond → Bool} (h1 : L.all (fun c => isCode c || P c) = true) (h2 : ∀ c ∈ L.filter isCode, P c = true) : L.all P = true := by
  refine List.all_eq_true.mpr fun c hc => ?_
  have h := List.all_eq_true.mp h1 c hc
  rcases Bool.eq_false_or_eq_true (isCode c) with hi | hi
  · exact h2 c (List.mem_filter.mpr ⟨hc, hi⟩)
  · simpa [hi] using h
theorem w_c0 : (Jvm.Cond.code x code maxLocals ret).before args0 about1 = true := code_word (m := ⟨1, 1⟩) (meth := k1m1) (c := k1c1) (by decide +kernel) rfl rfl rfl (by decide +kernel)
theorem w_c1 : (Jvm.Cond.code own_y113 method_6_code 4 (some (.object S_3))).before args0 about1 = true := code_word (m := ⟨1, 5⟩) (meth := k1m5) (c := k1c5) (by decide +kernel) rfl rfl rfl (by decide +kernel)
theorem w_c2 : (Jvm.Cond.code own_y102 method_4_code 2 (some .char)).before args0 about1 = true := code_word (m := ⟨1, 3⟩) (meth := k1m3) (c := k1c3) (by decide +kernel) rfl rfl rfl (by decide +kernel)
theorem w_c3 : (Jvm.Cond.code own_y2 method_3_code 1 (some .boolean)).before args0 about1 = true := code_word (m := ⟨1, 2⟩) (meth := k1m2) (c := k1c2) (by decide +kernel) rfl rfl rfl (by decide +kernel)
theorem w_c4 : (Jvm.Cond.code own_y107 jdk_42_method_139_code 1 (some (.object S_3))).before args0 about1 = true := code_word (m := ⟨7, 13⟩) (meth := k7m13) (c := k7c13) (by decide +kernel) rfl rfl rfl (by decide +kernel)
theorem w_c5 : (Jvm.Cond.code own_y104 jdk_43_method_3_code 1 (some .boolean)).before args0 about1 = true := code_word (m := ⟨8, 2⟩) (meth := k8m2) (c := k8c2) (by decide +kernel) rfl rfl rfl (by decide +kernel)
theorem w_c6 : (Jvm.Cond.code own_y105 jdk_43_method_46_code 1 (some (.array .byte))).before args0 about1 = true := code_word (m := ⟨8, 12⟩) (meth := k8m12) (c := k8c12) (by decide +kernel) rfl rfl rfl (by decide +kernel)
theorem w_c7 : (Jvm.Cond.code own_y106 jdk_42_method_151_code 3 none).before args0 about1 = true := code_word (m := ⟨7, 15⟩) (meth := k7m15) (c := k7c15) (by decide +kernel) rfl rfl rfl (by decide +kernel)
theorem w_c8 : (Jvm.Cond.code ⟨S_2, W_1, W_2⟩ object_method_1_code 1 none).before args0 about1 = true := code_word (m := ⟨0, 0⟩) (meth := k0m0) (c := k0c0) (by decide +kernel) rfl rfl rfl (by decide +kernel)
theorem w_c9 : (Jvm.Cond.code own_y114 prog_19_method_3_code 6 (some (.object S_22))).before args0 about1 = true := code_word (m := ⟨9, 1⟩) (meth := k9m1) (c := k9c1) (by decide +kernel) rfl rfl rfl (by decide +kernel)
theorem w_c10 : (Jvm.Cond.code own_y58 jdk_2756_method_2_code 1 none).before args0 about1 = true := code_word (m := ⟨20, 1⟩) (meth := k20m1) (c := k20c1) (by decide +kernel) rfl rfl rfl (by decide +kernel)
theorem w_c11 : (Jvm.Cond.code own_y56 jdk_2729_method_1_code 1 none).before args0 about1 = true := code_word (m := ⟨26, 0⟩) (meth := k26m0) (c := k26c0) (by decide +kernel) rfl rfl rfl (by decide +kernel)
theorem w_c12 : (Jvm.Cond.code own_y53 jdk_71_method_1_code 1 none).before args0 about1 = true := code_word (m := ⟨22, 0⟩) (meth := k22m0) (c := k22c0) (by decide +kernel) rfl rfl rfl (by decide +kernel)
theorem w_c13 : (Jvm.Cond.code own_y57 jdk_2756_method_1_code 2 none).before args0 about1 = true := code_word (m := ⟨20, 0⟩) (meth := k20m0) (c := k20c0) (by decide +kernel) rfl rfl rfl (by decide +kernel)
theorem w_c14 : (Jvm.Cond.code own_y55 jdk_91_method_1_code 1 none).before args0 about1 = true := code_word (m := ⟨14, 0⟩) (meth := k14m0) (c := k14c0) (by decide +kernel) rfl rfl rfl (by decide +kernel)
theorem w_c15 : (Jvm.Cond.code own_y54 jdk_22_method_1_code 1 none).before args0 about1 = true := code_word (m := ⟨12, 0⟩) (meth := k12m0) (c := k12c0) (by decide +kernel) rfl rfl rfl (by decide +kernel)
theorem w_c16 : (Jvm.Cond.code own_y62 jdk_79_method_31_code 1 (some (.object S_22))).before args0 about1 = true := code_word (m := ⟨27, 1⟩) (meth := k27m1) (c := k27c1) (by decide +kernel) rfl rfl rfl (by decide +kernel)
theorem w_c17 : (Jvm.Cond.code own_y60 jdk_122_method_1_code 2 none).before args0 about1 = true := code_word (m := ⟨29, 0⟩) (meth := k29m0) (c := k29c0) (by decide +kernel) rfl rfl rfl (by decide +kernel)
theorem w_c18 : (Jvm.Cond.code own_y59 jdk_119_method_1_code 2 none).before args0 about1 = true := code_word (m := ⟨28, 0⟩) (meth := k28m0) (c := k28c0) (by decide +kernel) rfl rfl rfl (by decide +kernel)
theorem w_c19 : (Jvm.Cond.code own_y98 jdk_38_method_3_code 3 none).before args0 about1 = true := code_word (m := ⟨33, 1⟩) (meth := k33m1) (c := k33c1) (by decide +kernel) rfl rfl rfl (by decide +kernel)
theorem w_c20 : (Jvm.Cond.code own_y89 jdk_39_method_1_code 1 none).before args0 about1 = true := code_word (m := ⟨31, 0⟩) (meth := k31m0) (c := k31c0) (by decide +kernel) rfl rfl rfl (by decide +kernel)
theorem w_c21 : (Jvm.Cond.code own_y87 jdk_119_method_5_code 1 (some (.array (.object S_2)))).before args0 about1 = true := code_word (m := ⟨28, 1⟩) (meth := k28m1) (c := k28c1) (by decide +kernel) rfl rfl rfl (by decide +kernel)
theorem w_c22 : (Jvm.Cond.code own_y85 jdk_22_method_6_code 4 (some (.array (.object S_2)))).before args0 about1 = true := code_word (m := ⟨12, 3⟩) (meth := k12m3) (c := k12c3) (by decide +kernel) rfl rfl rfl (by decide +kernel)
theorem w_c23 : (Jvm.Cond.code own_y76 jdk_2756_method_9_code 1 (some .int)).before args0 about1 = true := code_word (m := ⟨20, 3⟩) (meth := k20m3) (c := k20c3) (by decide +kernel) rfl rfl rfl (by decide +kernel)
theorem w_c24 : (Jvm.Cond.code own_y74 jdk_2729_method_5_code 1 (some .int)).before args0 about1 = true := code_word (m := ⟨26, 1⟩) (meth := k26m1) (c := k26c1) (by decide +kernel) rfl rfl rfl (by decide +kernel)
theorem w_c25 : (Jvm.Cond.code own_y73 jdk_2756_method_6_code 1 (some (.object S_28))).before args0 about1 = true := code_word (m := ⟨20, 2⟩) (meth := k20m2) (c := k20c2) (by decide +kernel) rfl rfl rfl (by decide +kernel)
theorem w_c26 : (Jvm.Cond.code own_y69 jdk_2729_method_50_code 2 (some (.object W_12))).before args0 about1 = true := code_word (m := ⟨26, 6⟩) (meth := k26m6) (c := k26c6) (by decide +kernel) rfl rfl rfl (by decide +kernel)
theorem w_c27 : (Jvm.Cond.code own_y68 jdk_2741_method_1_code 2 none).before args0 about1 = true := code_word (m := ⟨34, 0⟩) (meth := k34m0) (c := k34c0) (by decide +kernel) rfl rfl rfl (by decide +kernel)
theorem w_c28 : (Jvm.Cond.code own_y70 jdk_2741_method_2_code 1 (some (.object S_28))).before args0 about1 = true := code_word (m := ⟨34, 1⟩) (meth := k34m1) (c := k34c1) (by decide +kernel) rfl rfl rfl (by decide +kernel)
theorem w_c29 : (Jvm.Cond.code own_y67 jdk_2729_method_65_code 1 (some (.object S_28))).before args0 about1 = true := code_word (m := ⟨26, 7⟩) (meth := k26m7) (c := k26c7) (by decide +kernel) rfl rfl rfl (by decide +kernel)
theorem w_c30 : (Jvm.Cond.code own_y63 jdk_2729_method_72_code 2 (some (.object S_1))).before args0 about1 = true := code_word (m := ⟨26, 9⟩) (meth := k26m9) (c := k26c9) (by decide +kernel) rfl rfl rfl (by decide +kernel)
theorem w_c31 : (Jvm.Cond.code own_y66 jdk_2740_method_1_code 3 none).before args0 about1 = true := code_word (m := ⟨37, 0⟩) (meth := k37m0) (c := k37c0) (by decide +kernel) rfl rfl rfl (by decide +kernel)
theorem w_c32 : (Jvm.Cond.code own_y65 jdk_2750_method_1_code 3 none).before args0 about1 = true := code_word (m := ⟨36, 0⟩) (meth := k36m0) (c := k36c0) (by decide +kernel) rfl rfl rfl (by decide +kernel)
theorem w_c33 : (Jvm.Cond.code own_y77 jdk_2750_method_2_code 1 (some .boolean)).before args0 about1 = true := code_word (m := ⟨36, 1⟩) (meth := k36m1) (c := k36c1) (by decide +kernel) rfl rfl rfl (by decide +kernel)
theorem w_c34 : (Jvm.Cond.code own_y90 jdk_38_method_2_code 1 none).before args0 about1 = true := code_word (m := ⟨33, 0⟩) (meth := k33m0) (c := k33c0) (by decide +kernel) rfl rfl rfl (by decide +kernel)
theorem w_c35 : (Jvm.Cond.code own_y96 jdk_38_method_8_code 1 (some .int)).before args0 about1 = true := code_word (m := ⟨33, 4⟩) (meth := k33m4) (c := k33c4) (by decide +kernel) rfl rfl rfl (by decide +kernel)
theorem w_c36 : (Jvm.Cond.code own_y22 prog_19_method_4_code 1 (some .boolean)).before args0 about1 = true := code_word (m := ⟨9, 2⟩) (meth := k9m2) (c := k9c2) (by decide +kernel) rfl rfl rfl (by decide +kernel)
theorem w_c37 : (Jvm.Cond.code own_y10 jdk_42_method_55_code 1 (some .boolean)).before args0 about1 = true := code_word (m := ⟨7, 3⟩) (meth := k7m3) (c := k7c3) (by decide +kernel) rfl rfl rfl (by decide +kernel)
theorem w_c38 : (Jvm.Cond.code own_y9 jdk_42_method_114_code 2 (some (.object S_3))).before args0 about1 = true := code_word (m := ⟨7, 11⟩) (meth := k7m11) (c := k7c11) (by decide +kernel) rfl rfl rfl (by decide +kernel)
theorem w_c39 : (Jvm.Cond.code own_y7 jdk_42_method_154_code 1 (some .boolean)).before args0 about1 = true := code_word (m := ⟨7, 17⟩) (meth := k7m17) (c := k7c17) (by decide +kernel) rfl rfl rfl (by decide +kernel)
theorem w_c40 : (Jvm.Cond.code own_y6 jdk_43_method_39_code 4 (some (.object S_3))).before args0 about1 = true := code_word (m := ⟨8, 10⟩) (meth := k8m10) (c := k8c10) (by decide +kernel) rfl rfl rfl (by decide +kernel)
theorem w_c41 : (Jvm.Cond.code own_y4 jdk_43_method_37_code 4 (some .int)).before args0 about1 = true := code_word (m := ⟨8, 8⟩) (meth := k8m8) (c := k8c8) (by decide +kernel) rfl rfl rfl (by decide +kernel)
theorem w_c42 : (Jvm.Cond.code own_y3 jdk_43_method_44_code 2 (some .char)).before args0 about1 = true := code_word (m := ⟨8, 11⟩) (meth := k8m11) (c := k8c11) (by decide +kernel) rfl rfl rfl (by decide +kernel)
theorem w_c43 : (Jvm.Cond.code own_y1 jdk_116_method_26_code 3 (some .boolean)).before args0 about1 = true := code_word (m := ⟨39, 1⟩) (meth := k39m1) (c := k39c1) (by decide +kernel) rfl rfl rfl (by decide +kernel)
theorem w_c44 : (Jvm.Cond.code own_y0 jdk_116_method_1_code 4 (some .int)).before args0 about1 = true := code_word (m := ⟨39, 0⟩) (meth := k39m0) (c := k39c0) (by decide +kernel) rfl rfl rfl (by decide +kernel)
theorem w_c45 : (Jvm.Cond.code own_y5 jdk_43_method_38_code 4 (some .int)).before args0 about1 = true := code_word (m := ⟨8, 9⟩) (meth := k8m9) (c := k8c9) (by decide +kernel) rfl rfl rfl (by decide +kernel)
theorem w_c46 : (Jvm.Cond.code own_y21 jdk_42_method_66_code 3 (some .boolean)).before args0 about1 = true := code_word (m := ⟨7, 5⟩) (meth := k7m5) (c := k7c5) (by decide +kernel) rfl rfl rfl (by decide +kernel)
theorem w_c47 : (Jvm.Cond.code own_y17 jdk_42_method_97_code 2 (some .boolean)).before args0 about1 = true := code_word (m := ⟨7, 10⟩) (meth := k7m10) (c := k7c10) (by decide +kernel) rfl rfl rfl (by decide +kernel)
theorem w_c48 : (Jvm.Cond.code own_y11 jdk_42_method_126_code 1 (some (.object S_3))).before args0 about1 = true := code_word (m := ⟨7, 12⟩) (meth := k7m12) (c := k7c12) (by decide +kernel) rfl rfl rfl (by decide +kernel)
theorem w_c49 : (Jvm.Cond.code own_y15 jdk_42_method_84_code 3 (some .int)).before args0 about1 = true := code_word (m := ⟨7, 9⟩) (meth := k7m9) (c := k7c9) (by decide +kernel) rfl rfl rfl (by decide +kernel)
theorem w_c50 : (Jvm.Cond.code own_y8 jdk_42_method_152_code 1 (some .byte)).before args0 about1 = true := code_word (m := ⟨7, 16⟩) (meth := k7m16) (c := k7c16) (by decide +kernel) rfl rfl rfl (by decide +kernel)
theorem w_c51 : (Jvm.Cond.code own_y14 jdk_43_method_24_code 2 (some .int)).before args0 about1 = true := code_word (m := ⟨8, 6⟩) (meth := k8m6) (c := k8c6) (by decide +kernel) rfl rfl rfl (by decide +kernel)
theorem w_c52 : (Jvm.Cond.code own_y13 jdk_43_method_25_code 11 (some .int)).before args0 about1 = true := code_word (m := ⟨8, 7⟩) (meth := k8m7) (c := k8c7) (by decide +kernel) rfl rfl rfl (by decide +kernel)
theorem w_c53 : (Jvm.Cond.code own_y20 jdk_42_method_76_code 2 (some .boolean)).before args0 about1 = true := code_word (m := ⟨7, 8⟩) (meth := k7m8) (c := k7c8) (by decide +kernel) rfl rfl rfl (by decide +kernel)
theorem w_c54 : (Jvm.Cond.code own_y19 jdk_42_method_75_code 8 (some .boolean)).before args0 about1 = true := code_word (m := ⟨7, 7⟩) (meth := k7m7) (c := k7c7) (by decide +kernel) rfl rfl rfl (by decide +kernel)
theorem w_c55 : (Jvm.Cond.code own_y12 jdk_42_method_54_code 1 (some .int)).before args0 about1 = true := code_word (m := ⟨7, 2⟩) (meth := k7m2) (c := k7c2) (by decide +kernel) rfl rfl rfl (by decide +kernel)
theorem w_c56 : (Jvm.Cond.code own_y18 jdk_48_method_14_code 8 (some .int)).before args0 about1 = true := code_word (m := ⟨40, 2⟩) (meth := k40m2) (c := k40c2) (by decide +kernel) rfl rfl rfl (by decide +kernel)
theorem w_c57 : (Jvm.Cond.code own_y52 jdk_2756_method_12_code 2 (some .boolean)).before args0 about1 = true := code_word (m := ⟨20, 4⟩) (meth := k20m4) (c := k20c4) (by decide +kernel) rfl rfl rfl (by decide +kernel)
theorem w_c58 : (Jvm.Cond.code own_y50 jdk_2729_method_21_code 3 (some (.object S_2))).before args0 about1 = true := code_word (m := ⟨26, 2⟩) (meth := k26m2) (c := k26c2) (by decide +kernel) rfl rfl rfl (by decide +kernel)
theorem w_c59 : (Jvm.Cond.code own_y49 jdk_2729_method_31_code 10 (some (.object S_2))).before args0 about1 = true := code_word (m := ⟨26, 5⟩) (meth := k26m5) (c := k26c5) (by decide +kernel) rfl rfl rfl (by decide +kernel)
theorem w_c60 : (Jvm.Cond.code own_y47 jdk_2729_method_30_code 3 none).before args0 about1 = true := code_word (m := ⟨26, 4⟩) (meth := k26m4) (c := k26c4) (by decide +kernel) rfl rfl rfl (by decide +kernel)
theorem w_c61 : (Jvm.Cond.code own_y46 jdk_2729_method_67_code 3 (some .int)).before args0 about1 = true := code_word (m := ⟨26, 8⟩) (meth := k26m8) (c := k26c8) (by decide +kernel) rfl rfl rfl (by decide +kernel)
theorem w_c62 : (Jvm.Cond.code own_y29 jdk_42_method_162_code 2 (some .int)).before args0 about1 = true := code_word (m := ⟨7, 19⟩) (meth := k7m19) (c := k7c19) (by decide +kernel) rfl rfl rfl (by decide +kernel)
theorem w_c63 : (Jvm.Cond.code own_y28 jdk_42_method_71_code 5 (some .int)).before args0 about1 = true := code_word (m := ⟨7, 6⟩) (meth := k7m6) (c := k7c6) (by decide +kernel) rfl rfl rfl (by decide +kernel)
theorem w_c64 : (Jvm.Cond.code own_y27 jdk_43_method_14_code 4 (some .int)).before args0 about1 = true := code_word (m := ⟨8, 4⟩) (meth := k8m4) (c := k8c4) (by decide +kernel) rfl rfl rfl (by decide +kernel)
theorem w_c65 : (Jvm.Cond.code own_y26 jdk_43_method_15_code 6 (some .int)).before args0 about1 = true := code_word (m := ⟨8, 5⟩) (meth := k8m5) (c := k8c5) (by decide +kernel) rfl rfl rfl (by decide +kernel)
theorem w_c66 : (Jvm.Cond.code own_y24 jdk_29_method_69_code 2 (some .int)).before args0 about1 = true := code_word (m := ⟨41, 2⟩) (meth := k41m2) (c := k41c2) (by decide +kernel) rfl rfl rfl (by decide +kernel)
theorem w_c67 : (Jvm.Cond.code own_y25 jdk_48_method_13_code 4 (some .int)).before args0 about1 = true := code_word (m := ⟨40, 1⟩) (meth := k40m1) (c := k40c1) (by decide +kernel) rfl rfl rfl (by decide +kernel)
theorem w_c68 : (Jvm.Cond.code own_y35 jdk_2736_method_1_code 4 none).before args0 about1 = true := code_word (m := ⟨43, 0⟩) (meth := k43m0) (c := k43c0) (by decide +kernel) rfl rfl rfl (by decide +kernel)
theorem w_c69 : (Jvm.Cond.code own_y48 jdk_31_method_10_code 1 (some (.object S_2))).before args0 about1 = true := code_word (m := ⟨44, 1⟩) (meth := k44m1) (c := k44c1) (by decide +kernel) rfl rfl rfl (by decide +kernel)
theorem w_c70 : (Jvm.Cond.code own_y44 jdk_2729_method_29_code 6 none).before args0 about1 = true := code_word (m := ⟨26, 3⟩) (meth := k26m3) (c := k26c3) (by decide +kernel) rfl rfl rfl (by decide +kernel)
theorem w_c71 : (Jvm.Cond.code own_y43 jdk_2729_method_83_code 3 none).before args0 about1 = true := code_word (m := ⟨26, 18⟩) (meth := k26m18) (c := k26c18) (by decide +kernel) rfl rfl rfl (by decide +kernel)
theorem w_c72 : (Jvm.Cond.code own_y36 jdk_2729_method_77_code 1 (some (.object S_1))).before args0 about1 = true := code_word (m := ⟨26, 12⟩) (meth := k26m12) (c := k26c12) (by decide +kernel) rfl rfl rfl (by decide +kernel)
theorem w_c73 : (Jvm.Cond.code own_y37 jdk_2729_method_79_code 1 (some (.object S_1))).before args0 about1 = true := code_word (m := ⟨26, 14⟩) (meth := k26m14) (c := k26c14) (by decide +kernel) rfl rfl rfl (by decide +kernel)
theorem w_c74 : (Jvm.Cond.code own_y38 jdk_2729_method_80_code 1 (some (.object S_1))).before args0 about1 = true := code_word (m := ⟨26, 15⟩) (meth := k26m15) (c := k26c15) (by decide +kernel) rfl rfl rfl (by decide +kernel)
theorem w_c75 : (Jvm.Cond.code own_y39 jdk_2729_method_76_code 1 (some .boolean)).before args0 about1 = true := code_word (m := ⟨26, 11⟩) (meth := k26m11) (c := k26c11) (by decide +kernel) rfl rfl rfl (by decide +kernel)
theorem w_c76 : (Jvm.Cond.code own_y41 jdk_2729_method_81_code 3 none).before args0 about1 = true := code_word (m := ⟨26, 16⟩) (meth := k26m16) (c := k26c16) (by decide +kernel) rfl rfl rfl (by decide +kernel)
theorem w_c77 : (Jvm.Cond.code own_y40 jdk_2729_method_78_code 2 none).before args0 about1 = true := code_word (m := ⟨26, 13⟩) (meth := k26m13) (c := k26c13) (by decide +kernel) rfl rfl rfl (by decide +kernel)
theorem w_c78 : (Jvm.Cond.code own_y42 jdk_2729_method_82_code 3 none).before args0 about1 = true := code_word (m := ⟨26, 17⟩) (meth := k26m17) (c := k26c17) (by decide +kernel) rfl rfl rfl (by decide +kernel)
theorem w_c79 : (Jvm.Cond.code own_y80 jdk_2740_method_2_code 1 (some (.object S_2))).before args0 about1 = true := code_word (m := ⟨37, 1⟩) (meth := k37m1) (c := k37c1) (by decide +kernel) rfl rfl rfl (by decide +kernel)
theorem w_c80 : (Jvm.Cond.code own_y78 jdk_2750_method_3_code 2 (some (.object S_1))).before args0 about1 = true := code_word (m := ⟨36, 2⟩) (meth := k36m2) (c := k36c2) (by decide +kernel) rfl rfl rfl (by decide +kernel)
theorem w_c81 : (Jvm.Cond.code own_y64 jdk_2729_method_74_code 3 (some (.object S_1))).before args0 about1 = true := code_word (m := ⟨26, 10⟩) (meth := k26m10) (c := k26c10) (by decide +kernel) rfl rfl rfl (by decide +kernel)
theorem w_c82 : (Jvm.Cond.code own_y88 jdk_65_method_120_code 4 (some (.array (.object S_2)))).before args0 about1 = true := code_word (m := ⟨45, 1⟩) (meth := k45m1) (c := k45c1) (by decide +kernel) rfl rfl rfl (by decide +kernel)
theorem w_c83 : (Jvm.Cond.code own_y34 method_7_code 3 (some .int)).before args0 about1 = true := code_word (m := ⟨1, 6⟩) (meth := k1m6) (c := k1c6) (by decide +kernel) rfl rfl rfl (by decide +kernel)
theorem w_c84 : (Jvm.Cond.code own_y33 jdk_42_method_56_code 2 (some .char)).before args0 about1 = true := code_word (m := ⟨7, 4⟩) (meth := k7m4) (c := k7c4) (by decide +kernel) rfl rfl rfl (by decide +kernel)
theorem w_c85 : (Jvm.Cond.code own_y32 jdk_43_method_2_code 2 (some .char)).before args0 about1 = true := code_word (m := ⟨8, 1⟩) (meth := k8m1) (c := k8c1) (by decide +kernel) rfl rfl rfl (by decide +kernel)
theorem w_c86 : (Jvm.Cond.code own_y31 jdk_42_method_155_code 2 none).before args0 about1 = true := code_word (m := ⟨7, 18⟩) (meth := k7m18) (c := k7c18) (by decide +kernel) rfl rfl rfl (by decide +kernel)
theorem w_c87 : (Jvm.Cond.code own_y30 jdk_41_method_11_code 3 (some .int)).before args0 about1 = true := code_word (m := ⟨47, 1⟩) (meth := k47m1) (c := k47c1) (by decide +kernel) rfl rfl rfl (by decide +kernel)
theorem w_c88 : (Jvm.Cond.code own_y95 jdk_38_method_25_code 2 (some .boolean)).before args0 about1 = true := code_word (m := ⟨33, 8⟩) (meth := k33m8) (c := k33c8) (by decide +kernel) rfl rfl rfl (by decide +kernel)
theorem w_c89 : (Jvm.Cond.code own_y94 jdk_38_method_24_code 4 none).before args0 about1 = true := code_word (m := ⟨33, 7⟩) (meth := k33m7) (c := k33c7) (by decide +kernel) rfl rfl rfl (by decide +kernel)
theorem w_c90 : (Jvm.Cond.code own_y93 jdk_38_method_7_code 1 (some (.array (.object S_2)))).before args0 about1 = true := code_word (m := ⟨33, 3⟩) (meth := k33m3) (c := k33c3) (by decide +kernel) rfl rfl rfl (by decide +kernel)
theorem w_c91 : (Jvm.Cond.code own_y92 jdk_38_method_6_code 4 (some (.array (.object S_2)))).before args0 about1 = true := code_word (m := ⟨33, 2⟩) (meth := k33m2) (c := k33c2) (by decide +kernel) rfl rfl rfl (by decide +kernel)
theorem w_c92 : (Jvm.Cond.code own_y91 jdk_29_method_65_code 2 (some .int)).before args0 about1 = true := code_word (m := ⟨41, 1⟩) (meth := k41m1) (c := k41c1) (by decide +kernel) rfl rfl rfl (by decide +kernel)
theorem w_c93 : (Jvm.Cond.code own_y23 jdk_43_method_13_code 3 (some .boolean)).before args0 about1 = true := code_word (m := ⟨8, 3⟩) (meth := k8m3) (c := k8c3) (by decide +kernel) rfl rfl rfl (by decide +kernel)
theorem w_c94 : (Jvm.Cond.code own_y101 jdk_38_method_20_code 2 (some (.object S_2))).before args0 about1 = true := code_word (m := ⟨33, 6⟩) (meth := k33m6) (c := k33c6) (by decide +kernel) rfl rfl rfl (by decide +kernel)
theorem w_c95 : (Jvm.Cond.code own_y100 jdk_31_method_17_code 2 (some .int)).before args0 about1 = true := code_word (m := ⟨44, 2⟩) (meth := k44m2) (c := k44c2) (by decide +kernel) rfl rfl rfl (by decide +kernel)
theorem w_c96 : (Jvm.Cond.code own_y99 jdk_38_method_18_code 2 (some (.object S_2))).before args0 about1 = true := code_word (m := ⟨33, 5⟩) (meth := k33m5) (c := k33c5) (by decide +kernel) rfl rfl rfl (by decide +kernel)
theorem w_c97 : (Jvm.Cond.code own_y103 method_5_code 2 (some .char)).before args0 about1 = true := code_word (m := ⟨1, 4⟩) (meth := k1m4) (c := k1c4) (by decide +kernel) rfl rfl rfl (by decide +kernel)
theorem w_c98 : (Jvm.Cond.code own_y112 jdk_42_method_3_code 2 none).before args0 about1 = true := code_word (m := ⟨7, 1⟩) (meth := k7m1) (c := k7c1) (by decide +kernel) rfl rfl rfl (by decide +kernel)
theorem w_c99 : (Jvm.Cond.code own_y111 jdk_42_method_149_code 6 none).before args0 about1 = true := code_word (m := ⟨7, 14⟩) (meth := k7m14) (c := k7c14) (by decide +kernel) rfl rfl rfl (by decide +kernel)
theorem w_c100 : (Jvm.Cond.code own_y109 jdk_52_method_16_code 6 (some (.array .byte))).before args0 about1 = true := code_word (m := ⟨48, 2⟩) (meth := k48m2) (c := k48c2) (by decide +kernel) rfl rfl rfl (by decide +kernel)
theorem w_c101 : (Jvm.Cond.code own_y108 jdk_52_method_21_code 7 (some .int)).before args0 about1 = true := code_word (m := ⟨48, 3⟩) (meth := k48m3) (c := k48c3) (by decide +kernel) rfl rfl rfl (by decide +kernel)
theorem w_c102 : (Jvm.Cond.code own_y110 jdk_52_method_15_code 2 (some .byte)).before args0 about1 = true := code_word (m := ⟨48, 1⟩) (meth := k48m1) (c := k48c1) (by decide +kernel) rfl rfl rfl (by decide +kernel)
def codes1 : List Jvm.Cond := [Jvm.Cond.code x code maxLocals ret, Jvm.Cond.code own_y113 method_6_code 4 (some (.object S_3)), Jvm.Cond.code own_y102 method_4_code 2 (some .char), Jvm.Cond.code own_y2 method_3_code 1 (some .boolean), Jvm.Cond.code own_y107 jdk_42_method_139_code 1 (some (.object S_3)), Jvm.Cond.code own_y104 jdk_43_method_3_code 1 (some .boolean), Jvm.Cond.code own_y105 jdk_43_method_46_code 1 (some (.array .byte)), Jvm.Cond.code own_y106 jdk_42_method_151_code 3 none, Jvm.Cond.code ⟨S_2, W_1, W_2⟩ object_method_1_code 1 none, Jvm.Cond.code own_y114 prog_19_method_3_code 6 (some (.object S_22)), Jvm.Cond.code own_y58 jdk_2756_method_2_code 1 none, Jvm.Cond.code own_y56 jdk_2729_method_1_code 1 none, Jvm.Cond.code own_y53 jdk_71_method_1_code 1 none, Jvm.Cond.code own_y57 jdk_2756_method_1_code 2 none, Jvm.Cond.code own_y55 jdk_91_method_1_code 1 none, Jvm.Cond.code own_y54 jdk_22_method_1_code 1 none, Jvm.Cond.code own_y62 jdk_79_method_31_code 1 (some (.object S_22)), Jvm.Cond.code own_y60 jdk_122_method_1_code 2 none, Jvm.Cond.code own_y59 jdk_119_method_1_code 2 none, Jvm.Cond.code own_y98 jdk_38_method_3_code 3 none, Jvm.Cond.code own_y89 jdk_39_method_1_code 1 none, Jvm.Cond.code own_y87 jdk_119_method_5_code 1 (some (.array (.object S_2))), Jvm.Cond.code own_y85 jdk_22_method_6_code 4 (some (.array (.object S_2))), Jvm.Cond.code own_y76 jdk_2756_method_9_code 1 (some .int), Jvm.Cond.code own_y74 jdk_2729_method_5_code 1 (some .int), Jvm.Cond.code own_y73 jdk_2756_method_6_code 1 (some (.object S_28)), Jvm.Cond.code own_y69 jdk_2729_method_50_code 2 (some (.object W_12)), Jvm.Cond.code own_y68 jdk_2741_method_1_code 2 none, Jvm.Cond.code own_y70 jdk_2741_method_2_code 1 (some (.object S_28)), Jvm.Cond.code own_y67 jdk_2729_method_65_code 1 (some (.object S_28)), Jvm.Cond.code own_y63 jdk_2729_method_72_code 2 (some (.object S_1)), Jvm.Cond.code own_y66 jdk_2740_method_1_code 3 none, Jvm.Cond.code own_y65 jdk_2750_method_1_code 3 none, Jvm.Cond.code own_y77 jdk_2750_method_2_code 1 (some .boolean), Jvm.Cond.code own_y90 jdk_38_method_2_code 1 none, Jvm.Cond.code own_y96 jdk_38_method_8_code 1 (some .int), Jvm.Cond.code own_y22 prog_19_method_4_code 1 (some .boolean), Jvm.Cond.code own_y10 jdk_42_method_55_code 1 (some .boolean), Jvm.Cond.code own_y9 jdk_42_method_114_code 2 (some (.object S_3)), Jvm.Cond.code own_y7 jdk_42_method_154_code 1 (some .boolean), Jvm.Cond.code own_y6 jdk_43_method_39_code 4 (some (.object S_3)), Jvm.Cond.code own_y4 jdk_43_method_37_code 4 (some .int), Jvm.Cond.code own_y3 jdk_43_method_44_code 2 (some .char), Jvm.Cond.code own_y1 jdk_116_method_26_code 3 (some .boolean), Jvm.Cond.code own_y0 jdk_116_method_1_code 4 (some .int), Jvm.Cond.code own_y5 jdk_43_method_38_code 4 (some .int), Jvm.Cond.code own_y21 jdk_42_method_66_code 3 (some .boolean), Jvm.Cond.code own_y17 jdk_42_method_97_code 2 (some .boolean), Jvm.Cond.code own_y11 jdk_42_method_126_code 1 (some (.object S_3)), Jvm.Cond.code own_y15 jdk_42_method_84_code 3 (some .int), Jvm.Cond.code own_y8 jdk_42_method_152_code 1 (some .byte), Jvm.Cond.code own_y14 jdk_43_method_24_code 2 (some .int), Jvm.Cond.code own_y13 jdk_43_method_25_code 11 (some .int), Jvm.Cond.code own_y20 jdk_42_method_76_code 2 (some .boolean), Jvm.Cond.code own_y19 jdk_42_method_75_code 8 (some .boolean), Jvm.Cond.code own_y12 jdk_42_method_54_code 1 (some .int), Jvm.Cond.code own_y18 jdk_48_method_14_code 8 (some .int), Jvm.Cond.code own_y52 jdk_2756_method_12_code 2 (some .boolean), Jvm.Cond.code own_y50 jdk_2729_method_21_code 3 (some (.object S_2)), Jvm.Cond.code own_y49 jdk_2729_method_31_code 10 (some (.object S_2)), Jvm.Cond.code own_y47 jdk_2729_method_30_code 3 none, Jvm.Cond.code own_y46 jdk_2729_method_67_code 3 (some .int), Jvm.Cond.code own_y29 jdk_42_method_162_code 2 (some .int), Jvm.Cond.code own_y28 jdk_42_method_71_code 5 (some .int), Jvm.Cond.code own_y27 jdk_43_method_14_code 4 (some .int), Jvm.Cond.code own_y26 jdk_43_method_15_code 6 (some .int), Jvm.Cond.code own_y24 jdk_29_method_69_code 2 (some .int), Jvm.Cond.code own_y25 jdk_48_method_13_code 4 (some .int), Jvm.Cond.code own_y35 jdk_2736_method_1_code 4 none, Jvm.Cond.code own_y48 jdk_31_method_10_code 1 (some (.object S_2)), Jvm.Cond.code own_y44 jdk_2729_method_29_code 6 none, Jvm.Cond.code own_y43 jdk_2729_method_83_code 3 none, Jvm.Cond.code own_y36 jdk_2729_method_77_code 1 (some (.object S_1)), Jvm.Cond.code own_y37 jdk_2729_method_79_code 1 (some (.object S_1)), Jvm.Cond.code own_y38 jdk_2729_method_80_code 1 (some (.object S_1)), Jvm.Cond.code own_y39 jdk_2729_method_76_code 1 (some .boolean), Jvm.Cond.code own_y41 jdk_2729_method_81_code 3 none, Jvm.Cond.code own_y40 jdk_2729_method_78_code 2 none, Jvm.Cond.code own_y42 jdk_2729_method_82_code 3 none, Jvm.Cond.code own_y80 jdk_2740_method_2_code 1 (some (.object S_2)), Jvm.Cond.code own_y78 jdk_2750_method_3_code 2 (some (.object S_1)), Jvm.Cond.code own_y64 jdk_2729_method_74_code 3 (some (.object S_1)), Jvm.Cond.code own_y88 jdk_65_method_120_code 4 (some (.array (.object S_2))), Jvm.Cond.code own_y34 method_7_code 3 (some .int), Jvm.Cond.code own_y33 jdk_42_method_56_code 2 (some .char), Jvm.Cond.code own_y32 jdk_43_method_2_code 2 (some .char), Jvm.Cond.code own_y31 jdk_42_method_155_code 2 none, Jvm.Cond.code own_y30 jdk_41_method_11_code 3 (some .int), Jvm.Cond.code own_y95 jdk_38_method_25_code 2 (some .boolean), Jvm.Cond.code own_y94 jdk_38_method_24_code 4 none, Jvm.Cond.code own_y93 jdk_38_method_7_code 1 (some (.array (.object S_2))), Jvm.Cond.code own_y92 jdk_38_method_6_code 4 (some (.array (.object S_2))), Jvm.Cond.code own_y91 jdk_29_method_65_code 2 (some .int), Jvm.Cond.code own_y23 jdk_43_method_13_code 3 (some .boolean), Jvm.Cond.code own_y101 jdk_38_method_20_code 2 (some (.object S_2)), Jvm.Cond.code own_y100 jdk_31_method_17_code 2 (some .int), Jvm.Cond.code own_y99 jdk_38_method_18_code 2 (some (.object S_2)), Jvm.Cond.code own_y103 method_5_code 2 (some .char), Jvm.Cond.code own_y112 jdk_42_method_3_code 2 none, Jvm.Cond.code own_y111 jdk_42_method_149_code 6 none, Jvm.Cond.code own_y109 jdk_52_method_16_code 6 (some (.array .byte)), Jvm.Cond.code own_y108 jdk_52_method_21_code 7 (some .int), Jvm.Cond.code own_y110 jdk_52_method_15_code 2 (some .byte)]
theorem codes_eq : words1.filter isCode = codes1 := rfl
theorem w_codes : ∀ c ∈ words1.filter isCode, c.before args0 about1 = true := by
  rw [codes_eq]
  intro c hc
  simp only [codes1, List.mem_cons, List.not_mem_nil, or_false] at hc
  rcases hc with rfl | rfl | rfl | rfl | rfl | rfl | rfl | rfl | rfl | rfl | rfl | rfl | rfl | rfl | rfl | rfl | rfl | rfl | rfl | rfl | rfl | rfl | rfl | rfl | rfl | rfl | rfl | rfl | rfl | rfl | rfl | rfl | rfl | rfl | rfl | rfl | rfl | rfl | rfl | rfl | rfl | rfl | rfl | rfl | rfl | rfl | rfl | rfl | rfl | rfl | rfl | rfl | rfl | rfl | rfl | rfl | rfl | rfl | rfl | rfl | rfl | rfl | rfl | rfl | rfl | rfl | rfl | rfl | rfl | rfl | rfl | rfl | rfl | rfl | rfl | rfl | rfl | rfl | rfl | rfl | rfl | rfl | rfl | rfl | rfl | rfl | rfl | rfl | rfl | rfl | rfl | rfl | rfl | rfl | rfl | rfl | rfl | rfl | rfl | rfl | rfl | rfl | rfl
  · exact w_c0
  · exact w_c1
  · exact w_c2
  · exact w_c3
  · exact w_c4
  · exact w_c5
  · exact w_c6
  · exact w_c7
  · exact w_c8
  · exact w_c9
  · exact w_c10
  · exact w_c11
  · exact w_c12
  · exact w_c13
  · exact w_c14
  · exact w_c15
  · exact w_c16
  · exact w_c17
  · exact w_c18
  · exact w_c19
  · exact w_c20
  · exact w_c21
  · exact w_c22
  · exact w_c23
  · exact w_c24
  · exact w_c25
  · exact w_c26
  · exact w_c27
  · exact w_c28
  · exact w_c29
  · exact w_c30
  · exact w_c31
  · exact w_c32
  · exact w_c33
  · exact w_c34
  · exact w_c35
  · exact w_c36
  · exact w_c37
  · exact w_c38
  · exact w_c39
  · exact w_c40
  · exact w_c41
  · exact w_c42
  · exact w_c43
  · exact w_c44
  · exact w_c45
  · exact w_c46
  · exact w_c47
  · exact w_c48
  · exact w_c49
  · exact w_c50
  · exact w_c51
  · exact w_c52
  · exact w_c53
  · exact w_c54
  · exact w_c55
  · exact w_c56
  · exact w_c57
  · exact w_c58
  · exact w_c59
  · exact w_c60
  · exact w_c61
  · exact w_c62
  · exact w_c63
  · exact w_c64
  · exact w_c65
  · exact w_c66
  · exact w_c67
  · exact w_c68
  · exact w_c69
  · exact w_c70
  · exact w_c71
  · exact w_c72
  · exact w_c73
  · exact w_c74
  · exact w_c75
  · exact w_c76
  · exact w_c77
  · exact w_c78
  · exact w_c79
  · exact w_c80
  · exact w_c81
  · exact w_c82
  · exact w_c83
  · exact w_c84
  · exact w_c85
  · exact w_c86
  · exact w_c87
  · exact w_c88
  · exact w_c89
  · exact w_c90
  · exact w_c91
  · exact w_c92
  · exact w_c93
  · exact w_c94
  · exact w_c95
  · exact w_c96
  · exact w_c97
  · exact w_c98
  · exact w_c99
  · exact w_c100
  · exact w_c101
  · exact w_c102
theorem w_t1 : (words1.take 24).all (fun c => isCode c || c.before args0 about1) = true := by decide +kernel
theorem w_t2 : ((words1.drop 24).take 24).all (fun c => isCode c || c.before args0 about1) = true := by decide +kernel
theorem w_t3 : (((words1.drop 24).drop 24).take 24).all (fun c => isCode c || c.before args0 about1) = true := by decide +kernel
theorem w_t4 : ((((words1.drop 24).drop 24).drop 24).take 24).all (fun c => isCode c || c.before args0 about1) = true := by decide +kernel
theorem w_t5 : (((((words1.drop 24).drop 24).drop 24).drop 24).take 24).all (fun c => isCode c || c.before args0 about1) = true := by decide +kernel
theorem w_t6 : ((((((words1.drop 24).drop 24).drop 24).drop 24).drop 24).take 24).all (fun c => isCode c || c.before args0 about1) = true := by decide +kernel
theorem w_t7 : (((((((words1.drop 24).drop 24).drop 24).drop 24).drop 24).drop 24).take 24).all (fun c => isCode c || c.before args0 about1) = true := by decide +kernel
theorem w_t8 : ((((((((words1.drop 24).drop 24).drop 24).drop 24).drop 24).drop 24).drop 24).take 24).all (fun c => isCode c || c.before args0 about1) = true := by decide +kernel
theorem w_t9 : (((((((((words1.drop 24).drop 24).drop 24).drop 24).drop 24).drop 24).drop 24).drop 24).take 24).all (fun c => isCode c || c.before args0 about1) = true := by decide +kernel
theorem w_t10 : ((((((((((words1.drop 24).drop 24).drop 24).drop 24).drop 24).drop 24).drop 24).drop 24).drop 24).take 24).all (fun c => isCode c || c.before args0 about1) = true := by decide +kernel
theorem w_t11 : (((((((((((words1.drop 24).drop 24).drop 24).drop 24).drop 24).drop 24).drop 24).drop 24).drop 24).drop 24).take 24).all (fun c => isCode c || c.before args0 about1) = true := by decide +kernel
theorem w_t12 : ((((((((((((words1.drop 24).drop 24).drop 24).drop 24).drop 24).drop 24).drop 24).drop 24).drop 24).drop 24).drop 24).take 24).all (fun c => isCode c || c.before args0 about1) = true := by decide +kernel
theorem w_t13 : (((((((((((((words1.drop 24).drop 24).drop 24).drop 24).drop 24).drop 24).drop 24).drop 24).drop 24).drop 24).drop 24).drop 24).take 24).all (fun c => isCode c || c.before args0 about1) = true := by decide +kernel
theorem w_t14 : ((((((((((((((words1.drop 24).drop 24).drop 24).drop 24).drop 24).drop 24).drop 24).drop 24).drop 24).drop 24).drop 24).drop 24).drop 24).take 24).all (fun c => isCode c || c.before args0 about1) = true := by decide +kernel
theorem w_t15 : (((((((((((((((words1.drop 24).drop 24).drop 24).drop 24).drop 24).drop 24).drop 24).drop 24).drop 24).drop 24).drop 24).drop 24).drop 24).drop 24).take 24).all (fun c => isCode c || c.before args0 about1) = true := by decide +kernel
theorem w_t16 : ((((((((((((((((words1.drop 24).drop 24).drop 24).drop 24).drop 24).drop 24).drop 24).drop 24).drop 24).drop 24).drop 24).drop 24).drop 24).drop 24).drop 24).take 24).all (fun c => isCode c || c.before args0 about1) = true := by decide +kernel
theorem w_t17 : (((((((((((((((((words1.drop 24).drop 24).drop 24).drop 24).drop 24).drop 24).drop 24).drop 24).drop 24).drop 24).drop 24).drop 24).drop 24).drop 24).drop 24).drop 24).take 24).all (fun c => isCode c || c.before args0 about1) = true := by decide +kernel
theorem w_t18 : ((((((((((((((((((words1.drop 24).drop 24).drop 24).drop 24).drop 24).drop 24).drop 24).drop 24).drop 24).drop 24).drop 24).drop 24).drop 24).drop 24).drop 24).drop 24).drop 24).take 24).all (fun c => isCode c || c.before args0 about1) = true := by decide +kernel
theorem w_t19 : (((((((((((((((((((words1.drop 24).drop 24).drop 24).drop 24).drop 24).drop 24).drop 24).drop 24).drop 24).drop 24).drop 24).drop 24).drop 24).drop 24).drop 24).drop 24).drop 24).drop 24).take 24).all (fun c => isCode c || c.before args0 about1) = true := by decide +kernel
theorem w_t20 : ((((((((((((((((((((words1.drop 24).drop 24).drop 24).drop 24).drop 24).drop 24).drop 24).drop 24).drop 24).drop 24).drop 24).drop 24).drop 24).drop 24).drop 24).drop 24).drop 24).drop 24).drop 24).take 24).all (fun c => isCode c || c.before args0 about1) = true := by decide +kernel
theorem w_t21 : (((((((((((((((((((((words1.drop 24).drop 24).drop 24).drop 24).drop 24).drop 24).drop 24).drop 24).drop 24).drop 24).drop 24).drop 24).drop 24).drop 24).drop 24).drop 24).drop 24).drop 24).drop 24).drop 24).take 24).all (fun c => isCode c || c.before args0 about1) = true := by decide +kernel
theorem w_t22 : ((((((((((((((((((((((words1.drop 24).drop 24).drop 24).drop 24).drop 24).drop 24).drop 24).drop 24).drop 24).drop 24).drop 24).drop 24).drop 24).drop 24).drop 24).drop 24).drop 24).drop 24).drop 24).drop 24).drop 24).take 24).all (fun c => isCode c || c.before args0 about1) = true := by decide +kernel
theorem w_t23 : (((((((((((((((((((((((words1.drop 24).drop 24).drop 24).drop 24).drop 24).drop 24).drop 24).drop 24).drop 24).drop 24).drop 24).drop 24).drop 24).drop 24).drop 24).drop 24).drop 24).drop 24).drop 24).drop 24).drop 24).drop 24).take 24).all (fun c => isCode c || c.before args0 about1) = true := by decide +kernel
theorem w_t24 : ((((((((((((((((((((((((words1.drop 24).drop 24).drop 24).drop 24).drop 24).drop 24).drop 24).drop 24).drop 24).drop 24).drop 24).drop 24).drop 24).drop 24).drop 24).drop 24).drop 24).drop 24).drop 24).drop 24).drop 24).drop 24).drop 24).take 24).all (fun c => isCode c || c.before args0 about1) = true := by decide +kernel
theorem w_t25 : (((((((((((((((((((((((((words1.drop 24).drop 24).drop 24).drop 24).drop 24).drop 24).drop 24).drop 24).drop 24).drop 24).drop 24).drop 24).drop 24).drop 24).drop 24).drop 24).drop 24).drop 24).drop 24).drop 24).drop 24).drop 24).drop 24).drop 24).take 24).all (fun c => isCode c || c.before args0 about1) = true := by decide +kernel
theorem w_t26 : (((((((((((((((((((((((((words1.drop 24).drop 24).drop 24).drop 24).drop 24).drop 24).drop 24).drop 24).drop 24).drop 24).drop 24).drop 24).drop 24).drop 24).drop 24).drop 24).drop 24).drop 24).drop 24).drop 24).drop 24).drop 24).drop 24).drop 24).drop 24).all (fun c => isCode c || c.before args0 about1) = true := by decide +kernel
theorem w_tables : (allAtoms (Jvm.Cond.code x code maxLocals ret :: tables_1)).before args0 about1 = true := by
  rw [allAtoms_all]
  show words1.all (fun c => c.before args0 about1) = true
  refine all_split ?_ w_codes
  rw [← List.take_append_drop 24 words1, List.all_append, w_t1, ← List.take_append_drop 24 (words1.drop 24), List.all_append, w_t2, ← List.take_append_drop 24 ((words1.drop 24).drop 24), List.all_append, w_t3, ← List.take_append_drop 24 (((words1.drop 24).drop 24).drop 24), List.all_append, w_t4, ← List.take_append_drop 24 ((((words1.drop 24).drop 24).drop 24).drop 24), List.all_append, w_t5, ← List.take_append_drop 24 (((((words1.drop 24).drop 24).drop 24).drop 24).drop 24), List.all_append, w_t6, ← List.take_append_drop 24 ((((((words1.drop 24).drop 24).drop 24).drop 24).drop 24).drop 24), List.all_append, w_t7, ← List.take_append_drop 24 (((((((words1.drop 24).drop 24).drop 24).drop 24).drop 24).drop 24).drop 24), List.all_append, w_t8, ← List.take_append_drop 24 ((((((((words1.drop 24).drop 24).drop 24).drop 24).drop 24).drop 24).drop 24).drop 24), List.all_append, w_t9, ← List.take_append_drop 24 (((((((((words1.drop 24).drop 24).drop 24).drop 24).drop 24).drop 24).drop 24).drop 24).drop 24), List.all_append, w_t10, ← List.take_append_drop 24 ((((((((((words1.drop 24).drop 24).drop 24).drop 24).drop 24).drop 24).drop 24).drop 24).drop 24).drop 24), List.all_append, w_t11, ← List.take_append_drop 24 (((((((((((words1.drop 24).drop 24).drop 24).drop 24).drop 24).drop 24).drop 24).drop 24).drop 24).drop 24).drop 24), List.all_append, w_t12, ← List.take_append_drop 24 ((((((((((((words1.drop 24).drop 24).drop 24).drop 24).drop 24).drop 24).drop 24).drop 24).drop 24).drop 24).drop 24).drop 24), List.all_append, w_t13, ← List.take_append_drop 24 (((((((((((((words1.drop 24).drop 24).drop 24).drop 24).drop 24).drop 24).drop 24).drop 24).drop 24).drop 24).drop 24).drop 24).drop 24), List.all_append, w_t14, ← List.take_append_drop 24 ((((((((((((((words1.drop 24).drop 24).drop 24).drop 24).drop 24).drop 24).drop 24).drop 24).drop 24).drop 24).drop 24).drop 24).drop 24).drop 24), List.all_append, w_t15, ← List.take_append_drop 24 (((((((((((((((words1.drop 24).drop 24).drop 24).drop 24).drop 24).drop 24).drop 24).drop 24).drop 24).drop 24).drop 24).drop 24).drop 24).drop 24).drop 24), List.all_append, w_t16, ← List.take_append_drop 24 ((((((((((((((((words1.drop 24).drop 24).drop 24).drop 24).drop 24).drop 24).drop 24).drop 24).drop 24).drop 24).drop 24).drop 24).drop 24).drop 24).drop 24).drop 24), List.all_append, w_t17, ← List.take_append_drop 24 (((((((((((((((((words1.drop 24).drop 24).drop 24).drop 24).drop 24).drop 24).drop 24).drop 24).drop 24).drop 24).drop 24).drop 24).drop 24).drop 24).drop 24).drop 24).drop 24), List.all_append, w_t18, ← List.take_append_drop 24 ((((((((((((((((((words1.drop 24).drop 24).drop 24).drop 24).drop 24).drop 24).drop 24).drop 24).drop 24).drop 24).drop 24).drop 24).drop 24).drop 24).drop 24).drop 24).drop 24).drop 24), List.all_append, w_t19, ← List.take_append_drop 24 (((((((((((((((((((words1.drop 24).drop 24).drop 24).drop 24).drop 24).drop 24).drop 24).drop 24).drop 24).drop 24).drop 24).drop 24).drop 24).drop 24).drop 24).drop 24).drop 24).drop 24).drop 24), List.all_append, w_t20, ← List.take_append_drop 24 ((((((((((((((((((((words1.drop 24).drop 24).drop 24).drop 24).drop 24).drop 24).drop 24).drop 24).drop 24).drop 24).drop 24).drop 24).drop 24).drop 24).drop 24).drop 24).drop 24).drop 24).drop 24).drop 24), List.all_append, w_t21, ← List.take_append_drop 24 (((((((((((((((((((((words1.drop 24).drop 24).drop 24).drop 24).drop 24).drop 24).drop 24).drop 24).drop 24).drop 24).drop 24).drop 24).drop 24).drop 24).drop 24).drop 24).drop 24).drop 24).drop 24).drop 24).drop 24), List.all_append, w_t22, ← List.take_append_drop 24 ((((((((((((((((((((((words1.drop 24).drop 24).drop 24).drop 24).drop 24).drop 24).drop 24).drop 24).drop 24).drop 24).drop 24).drop 24).drop 24).drop 24).drop 24).drop 24).drop 24).drop 24).drop 24).drop 24).drop 24).drop 24), List.all_append, w_t23, ← List.take_append_drop 24 (((((((((((((((((((((((words1.drop 24).drop 24).drop 24).drop 24).drop 24).drop 24).drop 24).drop 24).drop 24).drop 24).drop 24).drop 24).drop 24).drop 24).drop 24).drop 24).drop 24).drop 24).drop 24).drop 24).drop 24).drop 24).drop 24), List.all_append, w_t24, ← List.take_append_drop 24 ((((((((((((((((((((((((words1.drop 24).drop 24).drop 24).drop 24).drop 24).drop 24).drop 24).drop 24).drop 24).drop 24).drop 24).drop 24).drop 24).drop 24).drop 24).drop 24).drop 24).drop 24).drop 24).drop 24).drop 24).drop 24).drop 24).drop 24), List.all_append, w_t25, w_t26]
  rfl
theorem w_rest : rest_1_c.before args0 about1 = true := by decide +kernel
theorem w_case : (Jvm.Cond.and given_1 narrow_1).before args0 about1 = true := by decide +kernel
theorem w_consts : constsHeld consts_1 about1 := Jvm.Lit.constsHeldB_iff.mp (by decide +kernel)
theorem w_applies : (headSpec (Jvm.Cond.code x code maxLocals ret :: tables_1) room_1).applies x e0.platform about1 = true :=
  (Spec.applies_iff w_frames).mpr ⟨w_running, w_runnable, w_alone, w_named, w_hears, w_ripe, w_room, w_tables⟩
theorem atStart : AtStart classFile x code maxLocals ret World_1 tables_1 room_1 Calls_1 rest_1 Pre_1 launch0 p0 e0 about1 theMethod args0 below0 :=
  ⟨lists_1, trivial, launch0.admits_env _ _ _, launch0.least_env, fairChoices_fair.cas, fairChoices_fair.clock, w_frames, w_args, w_heap, w_applies, ⟨⟨20, k20, 5, by decide +kernel, rfl, rfl, _, rfl, rfl⟩, ⟨⟨29, k29, 6, by decide +kernel, rfl, rfl, _, rfl, rfl⟩, ⟨⟨33, k33, 7, by decide +kernel, rfl, rfl, _, rfl, rfl⟩, ⟨⟨56, k56, 8, by decide +kernel, rfl, rfl, _, rfl, rfl⟩, ⟨w_consts, trivial⟩⟩⟩⟩⟩, w_rest, w_case⟩
end start1
theorem witness_1 : WitnessClaimed_1 := ⟨start1.p0, start1.e0, start1.about1, start1.theMethod, start1.args0, start1.below0, start1.atStart⟩
end Jvm.Pilot.@@N@@
