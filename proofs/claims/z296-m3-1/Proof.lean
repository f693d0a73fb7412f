import JvmDerived
import JvmDerived.Pilot.@@N@@Statement
import JvmDerived.Pilot.@@N@@Code
set_option linter.unusedVariables false
set_option linter.unusedSimpArgs false
namespace Jvm.Pilot.@@N@@
open Jvm Jvm.ClassFile Sem Op Lib Jvm.Free Jvm.Stand Jvm.LawKit Jvm.RoadKit Bundle Jvm.Pilot.@@N@@.Jvm.D
/-- one stretch of the walk, then the rest of it -/
theorem own_go {tb : Tables} {e : Env} {below : List Frame} {S S' : State} {K : State → Outcome → Prop} (st : ∀ t, Steps tb e below S' t → Steps tb e below S t) (h : ∃ t o, Steps tb e below S' t ∧ K t o) : ∃ t o, Steps tb e below S t ∧ K t o := by
  obtain ⟨t, o, h1, h2⟩ := h
  exact ⟨t, o, st _ h1, h2⟩
theorem pd_0 : parseMethodDescriptor "(II)I" = some ⟨[.int, .int], some .int⟩ := by decide +kernel
theorem pd_1 : parseMethodDescriptor "([II)[I" = some ⟨[(.array .int), .int], some (.array .int)⟩ := by decide +kernel
theorem pd_2 : parseMethodDescriptor "(II)V" = some ⟨[.int, .int], none⟩ := by decide +kernel
theorem pd_3 : parseMethodDescriptor "()V" = some ⟨[], none⟩ := by decide +kernel
theorem pd_4 : parseMethodDescriptor "(I)V" = some ⟨[.int], none⟩ := by decide +kernel
theorem pd_5 : parseMethodDescriptor "()I" = some ⟨[], some .int⟩ := by decide +kernel
def own_S (Z : State) (h : Heap) (a b : Addr) (kb : ClassId) (el nw : Int32) (vs : List Int32) : Prop := Exa Z h a "com/example/loadgate/loadgate/NodeOrder" ∧ Fld Z h a "com/example/loadgate/loadgate/NodeOrder" "links" "[I" (.ref b) ∧ Fld Z h a "com/example/loadgate/loadgate/NodeOrder" "eldest" "I" (.int el) ∧ Fld Z h a "com/example/loadgate/loadgate/NodeOrder" "newest" "I" (.int nw) ∧ Arv Z h b kb .int (8 : Int32) (vs.map Value.int) (.int (0 : Int32))
theorem own_psel {Z s : State} {a0 args : Array Value} {y : MethodName} {n : Nat} (hZ : Z.Warmed39 s.vm) (wi : (Cond.instantiable y.cls n).before a0 Z = true) (wp : (Cond.privateMethod y).before a0 Z = true) (wm : (Cond.instanceMethod y).before a0 Z = true) (hy : y.cls ≠ "java/lang/invoke/MethodHandle" ∧ y.cls ≠ "java/lang/invoke/VarHandle") : (Cond.selects y.cls y y).before args s = true := by
  have wi' : (Cond.instantiable y.cls n).before args s = true := mv hZ wi
  obtain ⟨c, k, h1, h2, -, h4, -⟩ := Cond.instantiable_spec wi'
  exact selects_self_of_private h1 h2 (Bool.or_eq_false_iff.mp h4).1 (Cond.privateMethod_at (mvP (args := args) hZ wp)) (mv hZ wm) hy
theorem own_szH {Z : State} {h : Heap} {a : Addr} {n0 : Nat} {C : String} (g : n0 ≤ a) (E : Exa Z h a C) : n0 ≤ h.size := Nat.le_trans g (Nat.le_of_lt E.lt)
theorem own_id {P : Prop} (h : P) : P := h
def own_min (p1 p2 : Int32) : Int32 := if p2 < p1 then p2 else p1
theorem own_min0 (p : Int32) (h : p = 8) : own_min 0 p = 0 := by subst h; decide
theorem own_80 (p : Int32) (h : p = 8) : ¬ p = 0 := by subst h; decide
theorem own_8n (p : Int32) (h : p = 8) : ¬ p < 0 := by subst h; decide
theorem own_8c (p : Int32) (h : p = 8) : p.toNatClampNeg ≤ 8 := by subst h; decide
theorem own_48 (p : Int32) (h : p = 4) : (2 : Int32) * p = 8 := by subst h; decide
/-- a place of the four; the same or none -/
def own_jb (x : Int32) : Bool := x == 0 || x == 1 || x == 2 || x == 3
def own_jn (x : Int32) : Bool := x == -1 || own_jb x
theorem own_jbn {x : Int32} (h : own_jb x = true) : own_jn x = true := by simp [own_jn, h]
theorem own_j1 (x : Int32) (h : own_jn x = true) (n : ¬ x = -1) : own_jb x = true := by
  simp only [own_jn, Bool.or_eq_true, beq_iff_eq] at h
  exact h.resolve_left n
theorem own_j4 {x : Int32} (h : own_jb x = true) : x = 0 ∨ x = 1 ∨ x = 2 ∨ x = 3 := by
  simp only [own_jb, Bool.or_eq_true, beq_iff_eq] at h
  rcases h with ((h | h) | h) | h
  · exact Or.inl h
  · exact Or.inr (Or.inl h)
  · exact Or.inr (Or.inr (Or.inl h))
  · exact Or.inr (Or.inr (Or.inr h))
theorem own_e (x : Int32) (h : own_jb x = true) : ¬ ((2 : Int32) * x) < 0 ∧ ((2 : Int32) * x) < (8 : Int32) := by
  rcases own_j4 h with rfl | rfl | rfl | rfl <;> decide
theorem own_o (x : Int32) (h : own_jb x = true) : ¬ (((2 : Int32) * x) + (1 : Int32)) < 0 ∧ (((2 : Int32) * x) + (1 : Int32)) < (8 : Int32) := by
  rcases own_j4 h with rfl | rfl | rfl | rfl <;> decide
theorem own_ln {vs : List Int32} {j : Int32} (hl : vs.length = 8) (h : ¬ j < 0 ∧ j < (8 : Int32)) : j.toNatClampNeg < (vs.map Value.int).length := by
  rw [List.length_map, hl]
  simp only [Int32.lt_iff_toInt_lt, show (0 : Int32).toInt = 0 from rfl, show (8 : Int32).toInt = 8 from rfl] at h
  simp only [Int32.toNatClampNeg]
  omega
theorem own_gd (vs : List Int32) (i : Nat) : (vs.map Value.int).getD i (.int (0 : Int32)) = .int (vs.getD i 0) := by
  simp only [List.getD_eq_getElem?_getD, List.getElem?_map]
  cases vs[i]? <;> rfl
def own_aE (i j el : Int32) : Int32 := if i = (-1 : Int32) then j else el
def own_aV (i j : Int32) (vs : List Int32) : List Int32 := if i = (-1 : Int32) then vs else vs.set (((2 : Int32) * i) + (1 : Int32)).toNatClampNeg j
def own_bV (i j : Int32) (vs : List Int32) : List Int32 := if i = (-1 : Int32) then vs else vs.set ((2 : Int32) * i).toNatClampNeg j
def own_pre (nw i : Int32) (vs : List Int32) : List Int32 := (vs.set ((2 : Int32) * i).toNatClampNeg nw).set (((2 : Int32) * i) + (1 : Int32)).toNatClampNeg (-1 : Int32)
theorem own_lA (i j : Int32) (vs : List Int32) (h : vs.length = 8) : (own_aV i j vs).length = 8 := by
  unfold own_aV; split
  · exact h
  · rw [List.length_set]; exact h
theorem own_lB (i j : Int32) (vs : List Int32) (h : vs.length = 8) : (own_bV i j vs).length = 8 := by
  unfold own_bV; split
  · exact h
  · rw [List.length_set]; exact h
/-- the store as one: eldest, newest, links -/
def own_s0 : Int32 × Int32 × List Int32 := (-1, -1, [0, 0, 0, 0, 0, 0, 0, 0])
def own_app (g : Int32 × Int32 × List Int32) (i : Int32) : Int32 × Int32 × List Int32 := (own_aE g.2.1 i g.1, i, own_aV g.2.1 i (own_pre g.2.1 i g.2.2))
def own_ux (g : Int32 × Int32 × List Int32) (i : Int32) : Int32 := g.2.2.getD ((2 : Int32) * i).toNatClampNeg 0
def own_uy (g : Int32 × Int32 × List Int32) (i : Int32) : Int32 := g.2.2.getD (((2 : Int32) * i) + (1 : Int32)).toNatClampNeg 0
def own_unl (g : Int32 × Int32 × List Int32) (i : Int32) : Int32 × Int32 × List Int32 := (own_aE (own_ux g i) (own_uy g i) g.1, own_aE (own_uy g i) (own_ux g i) g.2.1, own_bV (own_uy g i) (own_ux g i) (own_aV (own_ux g i) (own_uy g i) g.2.2))
theorem own_l0 : own_s0.2.2.length = 8 := rfl
theorem own_lApp (g : Int32 × Int32 × List Int32) (i : Int32) (h : g.2.2.length = 8) : (own_app g i).2.2.length = 8 := own_lA _ _ _ (by unfold own_pre; rw [List.length_set, List.length_set]; exact h)
theorem own_lUnl (g : Int32 × Int32 × List Int32) (i : Int32) (h : g.2.2.length = 8) : (own_unl g i).2.2.length = 8 := own_lB _ _ _ (own_lA _ _ _ h)
def own_vld (g : Int32 × Int32 × List Int32) (i : Int32) : Bool := own_jb i && own_jn (own_ux g i) && own_jn (own_uy g i)
theorem own_v1 {g : Int32 × Int32 × List Int32} {i : Int32} (h : own_vld g i = true) : own_jb i = true := by simp only [own_vld, Bool.and_eq_true] at h; exact h.1.1
theorem own_v2 {g : Int32 × Int32 × List Int32} {i : Int32} (h : own_vld g i = true) : own_jn (own_ux g i) = true := by simp only [own_vld, Bool.and_eq_true] at h; exact h.1.2
theorem own_v3 {g : Int32 × Int32 × List Int32} {i : Int32} (h : own_vld g i = true) : own_jn (own_uy g i) = true := by simp only [own_vld, Bool.and_eq_true] at h; exact h.2
def own_s3 (a b c : Int32) : Int32 × Int32 × List Int32 := own_app (own_app (own_app own_s0 a) b) c
def own_chk (a b c r1 e1 r2 e2 r3 : Int32) : Bool :=
  ((own_s3 a b c).1 == a) && own_vld (own_s3 a b c) r1 && ((own_unl (own_s3 a b c) r1).1 == e1) && own_vld (own_unl (own_s3 a b c) r1) r2 && ((own_unl (own_unl (own_s3 a b c) r1) r2).1 == e2) && own_vld (own_unl (own_unl (own_s3 a b c) r1) r2) r3 && ((own_unl (own_unl (own_unl (own_s3 a b c) r1) r2) r3).1 == -1)
theorem own_chk_g {a b c r1 e1 r2 e2 r3 : Int32} {g0 g1 g2 g3 g4 g5 g6 : Int32 × Int32 × List Int32} (h : own_chk a b c r1 e1 r2 e2 r3 = true)
    (h0 : g0 = own_s0) (h1 : g1 = own_app g0 a) (h2 : g2 = own_app g1 b) (h3 : g3 = own_app g2 c) (h4 : g4 = own_unl g3 r1) (h5 : g5 = own_unl g4 r2) (h6 : g6 = own_unl g5 r3) :
    g3.1 = a ∧ own_vld g3 r1 = true ∧ g4.1 = e1 ∧ own_vld g4 r2 = true ∧ g5.1 = e2 ∧ own_vld g5 r3 = true ∧ g6.1 = -1 := by
  simp only [own_chk, own_s3, Bool.and_eq_true, beq_iff_eq, ← h0, ← h1, ← h2, ← h3, ← h4, ← h5, ← h6] at h
  obtain ⟨⟨⟨⟨⟨⟨z1, z2⟩, z3⟩, z4⟩, z5⟩, z6⟩, z7⟩ := h
  exact ⟨z1, z2, z3, z4, z5, z6, z7⟩
def own_ok (a b c : Int32) : Prop := ∃ i j k : Fin 4, a = Int32.ofNat i.val ∧ b = Int32.ofNat j.val ∧ c = Int32.ofNat k.val ∧ i ≠ j ∧ i ≠ k ∧ j ≠ k
theorem own_okj {a b c : Int32} (h : own_ok a b c) : own_jb a = true ∧ own_jb b = true ∧ own_jb c = true := by
  obtain ⟨i, j, k, rfl, rfl, rfl, -⟩ := h
  have q : ∀ i : Fin 4, own_jb (Int32.ofNat i.val) = true := by decide +kernel
  exact ⟨q i, q j, q k⟩
theorem own_fin : ∀ i j k : Fin 4, i ≠ j → i ≠ k → j ≠ k →
    own_chk (Int32.ofNat i.val) (Int32.ofNat j.val) (Int32.ofNat k.val) (Int32.ofNat i.val) (Int32.ofNat j.val) (Int32.ofNat j.val) (Int32.ofNat k.val) (Int32.ofNat k.val) = true ∧
    own_chk (Int32.ofNat i.val) (Int32.ofNat j.val) (Int32.ofNat k.val) (Int32.ofNat j.val) (Int32.ofNat i.val) (Int32.ofNat i.val) (Int32.ofNat k.val) (Int32.ofNat k.val) = true ∧
    own_chk (Int32.ofNat i.val) (Int32.ofNat j.val) (Int32.ofNat k.val) (Int32.ofNat k.val) (Int32.ofNat i.val) (Int32.ofNat i.val) (Int32.ofNat j.val) (Int32.ofNat j.val) = true := by decide +kernel
theorem own_all (a b c : Int32) (h : own_ok a b c) : own_chk a b c a b b c c = true ∧ own_chk a b c b a a c c = true ∧ own_chk a b c c a a b b = true := by
  obtain ⟨i, j, k, rfl, rfl, rfl, h1, h2, h3⟩ := h
  exact own_fin i j k h1 h2 h3
theorem own_m3 (p : Int32) : 0 ≤ (p &&& (3 : Int32)).toInt ∧ (p &&& (3 : Int32)).toInt < 4 := by
  rw [c_mask p 3 2 (by decide) (by decide), show ((2 ^ 2 : Nat) : Int) = 4 from rfl]
  omega
theorem own_d1 (p : Int32) : ((1 : Int32) + ((p &&& (2147483647 : Int32)) % (3 : Int32))) = 1 ∨ ((1 : Int32) + ((p &&& (2147483647 : Int32)) % (3 : Int32))) = 2 ∨ ((1 : Int32) + ((p &&& (2147483647 : Int32)) % (3 : Int32))) = 3 := by
  have hm := (c_and p 2147483647 (by decide)).1
  have hr := (c_iremV (p &&& (2147483647 : Int32)) 3).1 hm (by decide)
  have ha := c_iadd 1 ((p &&& (2147483647 : Int32)) % (3 : Int32))
  have r := rng32 ((1 : Int32) + ((p &&& (2147483647 : Int32)) % (3 : Int32)))
  rw [show (3 : Int32).toInt = 3 from rfl] at hr
  rw [show (1 : Int32).toInt = 1 from rfl] at ha
  obtain ⟨r1, r2, -⟩ := hr
  simp only [← Int32.toInt_inj, show (1 : Int32).toInt = 1 from rfl, show (2 : Int32).toInt = 2 from rfl, show (3 : Int32).toInt = 3 from rfl]
  omega
theorem own_okf : ∀ i : Fin 4, ∀ d o : Fin 4, d ≠ 0 → o ≠ 0 → o ≠ d → ∃ j k : Fin 4, ((Int32.ofNat i.val + Int32.ofNat d.val) &&& (3 : Int32)) = Int32.ofNat j.val ∧ ((Int32.ofNat i.val + Int32.ofNat o.val) &&& (3 : Int32)) = Int32.ofNat k.val ∧ i ≠ j ∧ i ≠ k ∧ j ≠ k := by decide +kernel
theorem own_okp (a d o : Int32) (ha : 0 ≤ a.toInt ∧ a.toInt < 4) (hd : d = 1 ∨ d = 2 ∨ d = 3) (ho : (o = 1 ∨ o = 2 ∨ o = 3) ∧ o ≠ d) : own_ok a ((a + d) &&& (3 : Int32)) ((a + o) &&& (3 : Int32)) := by
  have ea : a = Int32.ofNat a.toInt.toNat := Int32.toInt_inj.mp (by rw [Int32.toInt_ofNat_small (by omega)]; omega)
  obtain ⟨dd, ed, hd0⟩ : ∃ x : Fin 4, d = Int32.ofNat x.val ∧ x ≠ 0 := by
    rcases hd with rfl | rfl | rfl
    · exact ⟨1, rfl, by decide⟩
    · exact ⟨2, rfl, by decide⟩
    · exact ⟨3, rfl, by decide⟩
  obtain ⟨oo, eo, ho0⟩ : ∃ x : Fin 4, o = Int32.ofNat x.val ∧ x ≠ 0 := by
    rcases ho.1 with h | h | h
    · exact ⟨1, h, by decide⟩
    · exact ⟨2, h, by decide⟩
    · exact ⟨3, h, by decide⟩
  obtain ⟨j, k, hj, hk, n1, n2, n3⟩ := own_okf ⟨a.toInt.toNat, by omega⟩ dd oo hd0 ho0 (fun q => ho.2 (by rw [eo, ed, q]))
  refine ⟨⟨a.toInt.toNat, by omega⟩, j, k, ea, ?_, ?_, n1, n2, n3⟩
  · rw [← hj, ← ed, ← ea]
  · rw [← hk, ← eo, ← ea]
theorem d1_0 : decode prog_34_method_1_code 0 = .ok (.aload_n 0, 1) := by decide +kernel
theorem d1_1 : decode prog_34_method_1_code 1 = .ok (.invokespecial 1, 3) := by decide +kernel
theorem d1_4 : decode prog_34_method_1_code 4 = .ok (.aload_n 0, 1) := by decide +kernel
theorem d1_5 : decode prog_34_method_1_code 5 = .ok (.iconst 0, 1) := by decide +kernel
theorem d1_6 : decode prog_34_method_1_code 6 = .ok (.newarray .int, 2) := by decide +kernel
theorem d1_8 : decode prog_34_method_1_code 8 = .ok (.putfield 7, 3) := by decide +kernel
theorem d1_11 : decode prog_34_method_1_code 11 = .ok (.aload_n 0, 1) := by decide +kernel
theorem d1_12 : decode prog_34_method_1_code 12 = .ok (.iconst (-1), 1) := by decide +kernel
theorem d1_13 : decode prog_34_method_1_code 13 = .ok (.putfield 13, 3) := by decide +kernel
theorem d1_16 : decode prog_34_method_1_code 16 = .ok (.aload_n 0, 1) := by decide +kernel
theorem d1_17 : decode prog_34_method_1_code 17 = .ok (.iconst (-1), 1) := by decide +kernel
theorem d1_18 : decode prog_34_method_1_code 18 = .ok (.putfield 17, 3) := by decide +kernel
theorem d1_21 : decode prog_34_method_1_code 21 = .ok (.return_, 1) := by decide +kernel
theorem pn_1 : plainName "com/example/loadgate/loadgate/NodeOrder" = true := by first | (simp [plainName, overriddenIn]; done) | decide +kernel
theorem ef_1 (m : MethodId) (x0 : Addr) : entryFrame m #[(.ref x0)] 1 = mkF m 0 #[.val (.ref x0)] [] := by first | (simp [entryFrame, mkF, argsToLocals, Value.category]; done) | rfl
def Q1 (Z : State) (a1 : Addr) (h0 : Heap) (n0 : Nat) (v : Option Value) (h : Heap) (L : List Loc) : Prop := v = none ∧ Fr n0 L ∧ ∃ (b : Addr) (kb : ClassId), n0 ≤ b ∧ b ≠ a1 ∧ Exa Z h a1 "com/example/loadgate/loadgate/NodeOrder" ∧ Fld Z h a1 "com/example/loadgate/loadgate/NodeOrder" "links" "[I" (.ref b) ∧ Fld Z h a1 "com/example/loadgate/loadgate/NodeOrder" "eldest" "I" (.int (-1 : Int32)) ∧ Fld Z h a1 "com/example/loadgate/loadgate/NodeOrder" "newest" "I" (.int (-1 : Int32)) ∧ Arv Z h b kb .int (0 : Int32) [] (.int (0 : Int32))
set_option maxRecDepth 65536 in
set_option maxHeartbeats 40000000 in
theorem rm1 (l : Launch) (Z : State) (a0 : Array Value) (hw : ∀ d ∈ tables_1, d.before a0 Z = true) (ws : List Jvm.Cond) (a1 : Addr) (h0 : Heap) (n0 : Nat) (Z0 : n0 ≤ h0.size) (E : Exa Z h0 a1 "com/example/loadgate/loadgate/NodeOrder") (F_links : Fld Z h0 a1 "com/example/loadgate/loadgate/NodeOrder" "links" "[I" .null) (F_eldest : Fld Z h0 a1 "com/example/loadgate/loadgate/NodeOrder" "eldest" "I" (.int (0 : Int32))) (F_newest : Fld Z h0 a1 "com/example/loadgate/loadgate/NodeOrder" "newest" "I" (.int (0 : Int32))) (ga : n0 ≤ a1) :
    MetFree l (⟨"com/example/loadgate/loadgate/NodeOrder", "<init>", "()V"⟩ : MethodName) (head1 (Jvm.Cond.code (⟨"com/example/loadgate/loadgate/NodeOrder", "<init>", "()V"⟩ : MethodName) prog_34_method_1_code 1 none :: ws) ({ frames := 1, cells := 1, slots := 0, locals := 12 } : Room)) (fun a U => a = #[(.ref a1)] ∧ Z.Warmed39 U.vm ∧ U.heap = h0) (fun _ _ _ _ _ => True) (fun _ U o U' => ∃ v L, o = .returned v ∧ Q1 Z a1 h0 n0 v U'.heap L ∧ FrameEnd U o U' L ({ frames := 1, cells := 1, slots := 0, locals := 12 } : Room).cells ({ frames := 1, cells := 1, slots := 0, locals := 12 } : Room).slots) := by
  refine MetFree.of_bodySF (plainFor_of_name pn_1) hisR ?_
  intro p e s m args below meth c s₁ Bd hml0 hP hK
  obtain ⟨rfl, hZ, hh⟩ := hP
  have hx := Bd.exec
  have hby := Bd.bytes
  have hml : c.maxLocals = 1 := hml0
  have hown : s.vm.findClass "com/example/loadgate/loadgate/NodeOrder" = some m.cls := findClass_of_methodNamed Bd.named
  have hnm := (name_of_methodNamed Bd.named Bd.method).1
  have X0 : Stand p l e ({ frames := 1, cells := 1, slots := 0, locals := 12 } : Room) s m #[(.ref a1)] below meth c s₁ [] 0 0 := Stand.of_body Bd
  have e0 : s₁.heap = h0 := by rw [← hh, Bd.state]; rfl
  have N0 := Fr.nil n0
  have pre0 : ∀ t, Steps p.tables e below (s₁.setTop (mkF m 0 #[.val (.ref a1)] [])) t → Steps p.tables e below (s₁.setTop (entryFrame m #[(.ref a1)] 1)) t := fun t k => castTop (ef_1 m a1) k
  refine own_go pre0 ?_
  have go1 : ∀ t, Steps p.tables e below (s₁.setTop (mkF m 1 #[.val (.ref a1)] [(.ref a1)])) t → Steps p.tables e below (s₁.setTop (mkF m 0 #[.val (.ref a1)] [])) t := by
    intro t kt
    show Steps p.tables e below (s₁.setTop (mkF m 0 #[.val (.ref a1)] [])) _
    refine XS.aloadN X0.here hx rfl (hb hby d1_0) rfl rfl ?_
    exact kt
  refine own_go go1 ?_
  obtain ⟨T2, X2, e2, st2⟩ := initO X0 hx hZ hown (hw _ (List.mem_of_getElem? (i := 7) rfl)) (hw _ (List.mem_of_getElem? (i := 8) rfl)) (hw _ (List.mem_of_getElem? (i := 9) rfl)) e0 (g := (mkF m 1 #[.val (.ref a1)] [(.ref a1)])) rfl (by rw [hml]; rfl) rfl (hb hby d1_1) (by decide) (W := 0) (by show 2 * 0 + _ ≤ _; exact Nat.le_of_eq rfl) (by decide)
  refine own_go (S' := T2.setTop (mkF m 4 #[.val (.ref a1)] [])) st2 ?_
  have go3 : ∀ t, Steps p.tables e below (T2.setTop (mkF m 6 #[.val (.ref a1)] [(.int (0 : Int32)), (.ref a1)])) t → Steps p.tables e below (T2.setTop (mkF m 4 #[.val (.ref a1)] [])) t := by
    intro t kt
    show Steps p.tables e below (T2.setTop (mkF m 4 #[.val (.ref a1)] [])) _
    refine XS.aloadN X2.here hx rfl (hb hby d1_4) rfl rfl ?_
    show Steps p.tables e below (T2.setTop (mkF m 5 #[.val (.ref a1)] [(.ref a1)])) _
    refine XS.iconst X2.here hx rfl (hb hby d1_5) ?_
    exact kt
  refine own_go go3 ?_
  obtain ⟨T4, h4, k4, X4, e4, E4, A4, st4⟩ := newP X2 hx hZ (hw _ (List.mem_of_getElem? (i := 10) rfl)) e2 (g := (mkF m 6 #[.val (.ref a1)] [(.int (0 : Int32)), (.ref a1)])) rfl (hb hby d1_6) rfl (by decide) (cap := 0) (by decide) (by decide) (by decide) (by decide)
  obtain ⟨b, g4⟩ : ∃ z, z = h0.size := ⟨_, rfl⟩
  rw [← g4] at A4 st4
  have g_b : n0 ≤ b := Nat.le_trans Z0 (Nat.le_of_eq g4.symm)
  have ne_a1_b : a1 ≠ b := Nat.ne_of_lt (Nat.lt_of_lt_of_le E.lt (Nat.le_of_eq g4.symm))
  have F4_a1_links : Fld Z h4 a1 "com/example/loadgate/loadgate/NodeOrder" "links" "[I" .null := F_links.ext E4
  have F4_a1_eldest : Fld Z h4 a1 "com/example/loadgate/loadgate/NodeOrder" "eldest" "I" (.int (0 : Int32)) := F_eldest.ext E4
  have F4_a1_newest : Fld Z h4 a1 "com/example/loadgate/loadgate/NodeOrder" "newest" "I" (.int (0 : Int32)) := F_newest.ext E4
  have E4_a1 : Exa Z h4 a1 "com/example/loadgate/loadgate/NodeOrder" := E.ext E4
  have V_b : Arv Z h4 b k4 .int (0 : Int32) [] (.int (0 : Int32)) := Arv.new A4 (by decide)
  refine own_go (S' := T4.setTop (mkF m 8 #[.val (.ref a1)] [(.ref b), (.ref a1)])) st4 ?_
  obtain ⟨T5, h5, X5, e5, W5, st5⟩ := putF X4 hx hZ hown (host := "") (Or.inl (hw _ (List.mem_of_getElem? (i := 11) rfl))) Via.refl e4 F4_a1_links E4_a1 (Or.inl (hw _ (List.mem_of_getElem? (i := 12) rfl))) (hw _ (List.mem_of_getElem? (i := 2) rfl)) (ty := (.array .int)) (by decide) rfl rfl (g := (mkF m 8 #[.val (.ref a1)] [(.ref b), (.ref a1)])) rfl rfl (hb hby d1_8)
  have F5_a1_links : Fld Z h5 a1 "com/example/loadgate/loadgate/NodeOrder" "links" "[I" (.ref b) := F4_a1_links.same W5
  have F5_a1_eldest : Fld Z h5 a1 "com/example/loadgate/loadgate/NodeOrder" "eldest" "I" (.int (0 : Int32)) := F4_a1_eldest.other W5 (Or.inr (slot_ne (Or.inl (hw _ (List.mem_of_getElem? (i := 14) rfl))) (Or.inl (hw _ (List.mem_of_getElem? (i := 12) rfl))) (by decide) (t := .int) (t' := (.array .int)) (by decide) (by decide)))
  have F5_a1_newest : Fld Z h5 a1 "com/example/loadgate/loadgate/NodeOrder" "newest" "I" (.int (0 : Int32)) := F4_a1_newest.other W5 (Or.inr (slot_ne (Or.inl (hw _ (List.mem_of_getElem? (i := 16) rfl))) (Or.inl (hw _ (List.mem_of_getElem? (i := 12) rfl))) (by decide) (t := .int) (t' := (.array .int)) (by decide) (by decide)))
  have E5_a1 : Exa Z h5 a1 "com/example/loadgate/loadgate/NodeOrder" := E4_a1.wr W5
  have V5_b : Arv Z h5 b k4 .int (0 : Int32) [] (.int (0 : Int32)) := V_b.other W5 (Ne.symm ne_a1_b)
  have N5 := Fr.snoc X5 N0 ga
  refine own_go (S' := T5.setTop (mkF m 11 #[.val (.ref a1)] [])) st5 ?_
  have go6 : ∀ t, Steps p.tables e below (T5.setTop (mkF m 13 #[.val (.ref a1)] [(.int (-1 : Int32)), (.ref a1)])) t → Steps p.tables e below (T5.setTop (mkF m 11 #[.val (.ref a1)] [])) t := by
    intro t kt
    show Steps p.tables e below (T5.setTop (mkF m 11 #[.val (.ref a1)] [])) _
    refine XS.aloadN X5.here hx rfl (hb hby d1_11) rfl rfl ?_
    show Steps p.tables e below (T5.setTop (mkF m 12 #[.val (.ref a1)] [(.ref a1)])) _
    refine XS.iconst X5.here hx rfl (hb hby d1_12) ?_
    exact kt
  refine own_go go6 ?_
  obtain ⟨T7, h7, X7, e7, W7, st7⟩ := putF X5 hx hZ hown (host := "") (Or.inl (hw _ (List.mem_of_getElem? (i := 13) rfl))) Via.refl e5 F5_a1_eldest E5_a1 (Or.inl (hw _ (List.mem_of_getElem? (i := 14) rfl))) (hw _ (List.mem_of_getElem? (i := 2) rfl)) (ty := .int) (by decide) rfl rfl (g := (mkF m 13 #[.val (.ref a1)] [(.int (-1 : Int32)), (.ref a1)])) rfl rfl (hb hby d1_13)
  have F7_a1_links : Fld Z h7 a1 "com/example/loadgate/loadgate/NodeOrder" "links" "[I" (.ref b) := F5_a1_links.other W7 (Or.inr (slot_ne (Or.inl (hw _ (List.mem_of_getElem? (i := 12) rfl))) (Or.inl (hw _ (List.mem_of_getElem? (i := 14) rfl))) (by decide) (t := (.array .int)) (t' := .int) (by decide) (by decide)))
  have F7_a1_eldest : Fld Z h7 a1 "com/example/loadgate/loadgate/NodeOrder" "eldest" "I" (.int (-1 : Int32)) := F5_a1_eldest.same W7
  have F7_a1_newest : Fld Z h7 a1 "com/example/loadgate/loadgate/NodeOrder" "newest" "I" (.int (0 : Int32)) := F5_a1_newest.other W7 (Or.inr (slot_ne (Or.inl (hw _ (List.mem_of_getElem? (i := 16) rfl))) (Or.inl (hw _ (List.mem_of_getElem? (i := 14) rfl))) (by decide) (t := .int) (t' := .int) (by decide) (by decide)))
  have E7_a1 : Exa Z h7 a1 "com/example/loadgate/loadgate/NodeOrder" := E5_a1.wr W7
  have V7_b : Arv Z h7 b k4 .int (0 : Int32) [] (.int (0 : Int32)) := V5_b.other W7 (Ne.symm ne_a1_b)
  have N7 := Fr.snoc X7 N5 ga
  refine own_go (S' := T7.setTop (mkF m 16 #[.val (.ref a1)] [])) st7 ?_
  have go8 : ∀ t, Steps p.tables e below (T7.setTop (mkF m 18 #[.val (.ref a1)] [(.int (-1 : Int32)), (.ref a1)])) t → Steps p.tables e below (T7.setTop (mkF m 16 #[.val (.ref a1)] [])) t := by
    intro t kt
    show Steps p.tables e below (T7.setTop (mkF m 16 #[.val (.ref a1)] [])) _
    refine XS.aloadN X7.here hx rfl (hb hby d1_16) rfl rfl ?_
    show Steps p.tables e below (T7.setTop (mkF m 17 #[.val (.ref a1)] [(.ref a1)])) _
    refine XS.iconst X7.here hx rfl (hb hby d1_17) ?_
    exact kt
  refine own_go go8 ?_
  obtain ⟨T9, h9, X9, e9, W9, st9⟩ := putF X7 hx hZ hown (host := "") (Or.inl (hw _ (List.mem_of_getElem? (i := 15) rfl))) Via.refl e7 F7_a1_newest E7_a1 (Or.inl (hw _ (List.mem_of_getElem? (i := 16) rfl))) (hw _ (List.mem_of_getElem? (i := 2) rfl)) (ty := .int) (by decide) rfl rfl (g := (mkF m 18 #[.val (.ref a1)] [(.int (-1 : Int32)), (.ref a1)])) rfl rfl (hb hby d1_18)
  have F9_a1_links : Fld Z h9 a1 "com/example/loadgate/loadgate/NodeOrder" "links" "[I" (.ref b) := F7_a1_links.other W9 (Or.inr (slot_ne (Or.inl (hw _ (List.mem_of_getElem? (i := 12) rfl))) (Or.inl (hw _ (List.mem_of_getElem? (i := 16) rfl))) (by decide) (t := (.array .int)) (t' := .int) (by decide) (by decide)))
  have F9_a1_eldest : Fld Z h9 a1 "com/example/loadgate/loadgate/NodeOrder" "eldest" "I" (.int (-1 : Int32)) := F7_a1_eldest.other W9 (Or.inr (slot_ne (Or.inl (hw _ (List.mem_of_getElem? (i := 14) rfl))) (Or.inl (hw _ (List.mem_of_getElem? (i := 16) rfl))) (by decide) (t := .int) (t' := .int) (by decide) (by decide)))
  have F9_a1_newest : Fld Z h9 a1 "com/example/loadgate/loadgate/NodeOrder" "newest" "I" (.int (-1 : Int32)) := F7_a1_newest.same W9
  have E9_a1 : Exa Z h9 a1 "com/example/loadgate/loadgate/NodeOrder" := E7_a1.wr W9
  have V9_b : Arv Z h9 b k4 .int (0 : Int32) [] (.int (0 : Int32)) := V7_b.other W9 (Ne.symm ne_a1_b)
  have N9 := Fr.snoc X9 N7 ga
  refine own_go (S' := T9.setTop (mkF m 21 #[.val (.ref a1)] [])) st9 ?_
  obtain ⟨fs, hr, hrun, hended, hW, hsame⟩ := X9.leave (v := none) (fun _ => rfl)
  refine ⟨_, _, X9.returnOut hx Bd.returns (hb hby d1_21) hr, hrun, hended, _, _, rfl, ?_, ⟨_, rfl⟩, hW, hsame.mono (by decide) (by decide)⟩
  show Q1 Z a1 h0 n0 _ T9.heap _
  rw [e9]
  exact ⟨rfl, N9, b, k4, g_b, Ne.symm ne_a1_b, E9_a1, F9_a1_links, F9_a1_eldest, F9_a1_newest, V9_b⟩
theorem d5_0 : decode jdk_29_method_69_code 0 = .ok (.iload_n 0, 1) := by decide +kernel
theorem d5_1 : decode jdk_29_method_69_code 1 = .ok (.iload_n 1, 1) := by decide +kernel
theorem d5_2 : decode jdk_29_method_69_code 2 = .ok (.if_icmp .gt 7, 3) := by decide +kernel
theorem d5_5 : decode jdk_29_method_69_code 5 = .ok (.iload_n 0, 1) := by decide +kernel
theorem d5_6 : decode jdk_29_method_69_code 6 = .ok (.goto 4, 3) := by decide +kernel
theorem d5_9 : decode jdk_29_method_69_code 9 = .ok (.iload_n 1, 1) := by decide +kernel
theorem d5_10 : decode jdk_29_method_69_code 10 = .ok (.ireturn, 1) := by decide +kernel
theorem ef_5 (m : MethodId) (x0 : Int32) (x1 : Int32) : entryFrame m #[(.int x0), (.int x1)] 2 = mkF m 0 #[.val (.int x0), .val (.int x1)] [] := by first | (simp [entryFrame, mkF, argsToLocals, Value.category]; done) | rfl
def Q5 (Z : State) (res : Int32) (h0 : Heap) (n0 : Nat) (v : Option Value) (h : Heap) (L : List Loc) : Prop := v = some (.int res) ∧ Fr n0 L ∧ h = h0
set_option maxRecDepth 65536 in
set_option maxHeartbeats 40000000 in
theorem rm5 (l : Launch) (Z : State) (a0 : Array Value) (hw : ∀ d ∈ tables_1, d.before a0 Z = true) (ws : List Jvm.Cond) (p1 : Int32) (p2 : Int32) (res : Int32) (h0 : Heap) (n0 : Nat) (Z0 : n0 ≤ h0.size) (hres : own_min p1 p2 = res) :
    MetFree l (⟨"java/lang/Math", "min", "(II)I"⟩ : MethodName) (head1 (Jvm.Cond.code (⟨"java/lang/Math", "min", "(II)I"⟩ : MethodName) jdk_29_method_69_code 2 (some .int) :: ws) ({ frames := 0, cells := 0, slots := 0, locals := 0 } : Room)) (fun a U => a = #[(.int p1), (.int p2)] ∧ Z.Warmed39 U.vm ∧ U.heap = h0) (fun _ _ _ _ _ => True) (fun _ U o U' => ∃ v L, o = .returned v ∧ Q5 Z res h0 n0 v U'.heap L ∧ FrameEnd U o U' L ({ frames := 0, cells := 0, slots := 0, locals := 0 } : Room).cells ({ frames := 0, cells := 0, slots := 0, locals := 0 } : Room).slots) := by
  refine MetFree.of_bodySF (Jvm.Free.JP.mathPlain rfl (by decide +kernel)) hisR ?_
  intro p e s m args below meth c s₁ Bd hml0 hP hK
  obtain ⟨rfl, hZ, hh⟩ := hP
  have hx := Bd.exec
  have hby := Bd.bytes
  have hml : c.maxLocals = 2 := hml0
  have hown : s.vm.findClass "java/lang/Math" = some m.cls := findClass_of_methodNamed Bd.named
  have hnm := (name_of_methodNamed Bd.named Bd.method).1
  have X0 : Stand p l e ({ frames := 0, cells := 0, slots := 0, locals := 0 } : Room) s m #[(.int p1), (.int p2)] below meth c s₁ [] 0 0 := Stand.of_body Bd
  have e0 : s₁.heap = h0 := by rw [← hh, Bd.state]; rfl
  have N0 := Fr.nil n0
  have pre0 : ∀ t, Steps p.tables e below (s₁.setTop (mkF m 0 #[.val (.int p1), .val (.int p2)] [])) t → Steps p.tables e below (s₁.setTop (entryFrame m #[(.int p1), (.int p2)] 2)) t := fun t k => castTop (ef_5 m p1 p2) k
  refine own_go pre0 ?_
  have go1 : ∀ t, Steps p.tables e below (s₁.setTop (mkF m 2 #[.val (.int p1), .val (.int p2)] [(.int p2), (.int p1)])) t → Steps p.tables e below (s₁.setTop (mkF m 0 #[.val (.int p1), .val (.int p2)] [])) t := by
    intro t kt
    show Steps p.tables e below (s₁.setTop (mkF m 0 #[.val (.int p1), .val (.int p2)] [])) _
    refine XS.iloadN X0.here hx rfl (hb hby d5_0) rfl ?_
    show Steps p.tables e below (s₁.setTop (mkF m 1 #[.val (.int p1), .val (.int p2)] [(.int p1)])) _
    refine XS.iloadN X0.here hx rfl (hb hby d5_1) rfl ?_
    exact kt
  refine own_go go1 ?_
  rcases Classical.em (p2 < p1) with hc2 | hc2
  · have go2 : ∀ t, Steps p.tables e below (s₁.setTop (mkF m 10 #[.val (.int p1), .val (.int p2)] [(.int p2)])) t → Steps p.tables e below (s₁.setTop (mkF m 2 #[.val (.int p1), .val (.int p2)] [(.int p2), (.int p1)])) t := by
      intro t kt
      show Steps p.tables e below (s₁.setTop (mkF m 2 #[.val (.int p1), .val (.int p2)] [(.int p2), (.int p1)])) _
      refine XS.icmpYes X0.here hx rfl (pc0 := 2) (pc' := 9) rfl (hb hby d5_2) rfl (tlt hc2).2.2.1 (by decide) (by decide) ?_
      show Steps p.tables e below (s₁.setTop (mkF m 9 #[.val (.int p1), .val (.int p2)] [])) _
      refine XS.iloadN X0.here hx rfl (hb hby d5_9) rfl ?_
      exact kt
    refine own_go go2 ?_
    obtain ⟨fs, hr, hrun, hended, hW, hsame⟩ := X0.leave (v := some (.int p2)) (fun h => by rw [Bd.returns] at h; cases h)
    refine ⟨_, _, retOut X0 hx Bd.returns rfl (Or.inl ⟨rfl, Or.inl rfl, _, rfl⟩) (hb hby d5_10) hr, hrun, hended, _, _, rfl, ?_, ⟨_, rfl⟩, hW, hsame.mono (by decide) (by decide)⟩
    show Q5 Z res h0 n0 _ s₁.heap _
    rw [e0]
    exact ⟨congrArg (fun z => some (Value.int z)) (Eq.trans (show p2 = own_min p1 p2 from by first | (simp only [own_min, hc2, not_true_eq_false, not_false_eq_true, and_true, true_and, and_false, false_and, or_true, true_or, or_false, false_or, and_self, or_self, eq_self, if_true, if_false]; done) | (simp [own_min, hc2]; done)) hres), N0, rfl⟩
  · have go3 : ∀ t, Steps p.tables e below (s₁.setTop (mkF m 10 #[.val (.int p1), .val (.int p2)] [(.int p1)])) t → Steps p.tables e below (s₁.setTop (mkF m 2 #[.val (.int p1), .val (.int p2)] [(.int p2), (.int p1)])) t := by
      intro t kt
      show Steps p.tables e below (s₁.setTop (mkF m 2 #[.val (.int p1), .val (.int p2)] [(.int p2), (.int p1)])) _
      refine XS.icmpNo X0.here hx rfl (hb hby d5_2) rfl (flt hc2).2.2.1 ?_
      show Steps p.tables e below (s₁.setTop (mkF m 5 #[.val (.int p1), .val (.int p2)] [])) _
      refine XS.iloadN X0.here hx rfl (hb hby d5_5) rfl ?_
      show Steps p.tables e below (s₁.setTop (mkF m 6 #[.val (.int p1), .val (.int p2)] [(.int p1)])) _
      refine XS.goto X0.here hx rfl (pc0 := 6) (pc' := 10) rfl (hb hby d5_6) (by decide) (by decide) ?_
      exact kt
    refine own_go go3 ?_
    obtain ⟨fs, hr, hrun, hended, hW, hsame⟩ := X0.leave (v := some (.int p1)) (fun h => by rw [Bd.returns] at h; cases h)
    refine ⟨_, _, retOut X0 hx Bd.returns rfl (Or.inl ⟨rfl, Or.inl rfl, _, rfl⟩) (hb hby d5_10) hr, hrun, hended, _, _, rfl, ?_, ⟨_, rfl⟩, hW, hsame.mono (by decide) (by decide)⟩
    show Q5 Z res h0 n0 _ s₁.heap _
    rw [e0]
    exact ⟨congrArg (fun z => some (Value.int z)) (Eq.trans (show p1 = own_min p1 p2 from by first | (simp only [own_min, hc2, not_true_eq_false, not_false_eq_true, and_true, true_and, and_false, false_and, or_true, true_or, or_false, false_or, and_self, or_self, eq_self, if_true, if_false]; done) | (simp [own_min, hc2]; done)) hres), N0, rfl⟩
theorem d4_0 : decode jdk_65_method_123_code 0 = .ok (.iload_n 1, 1) := by decide +kernel
theorem d4_1 : decode jdk_65_method_123_code 1 = .ok (.aload_n 0, 1) := by decide +kernel
theorem d4_2 : decode jdk_65_method_123_code 2 = .ok (.arraylength, 1) := by decide +kernel
theorem d4_3 : decode jdk_65_method_123_code 3 = .ok (.if_icmp .ne 11, 3) := by decide +kernel
theorem d4_6 : decode jdk_65_method_123_code 6 = .ok (.aload_n 0, 1) := by decide +kernel
theorem d4_7 : decode jdk_65_method_123_code 7 = .ok (.invokevirtual 316, 3) := by decide +kernel
theorem d4_10 : decode jdk_65_method_123_code 10 = .ok (.checkcast 317, 3) := by decide +kernel
theorem d4_13 : decode jdk_65_method_123_code 13 = .ok (.areturn, 1) := by decide +kernel
theorem d4_14 : decode jdk_65_method_123_code 14 = .ok (.iload_n 1, 1) := by decide +kernel
theorem d4_15 : decode jdk_65_method_123_code 15 = .ok (.newarray .int, 2) := by decide +kernel
theorem d4_17 : decode jdk_65_method_123_code 17 = .ok (.astore_n 2, 1) := by decide +kernel
theorem d4_18 : decode jdk_65_method_123_code 18 = .ok (.aload_n 0, 1) := by decide +kernel
theorem d4_19 : decode jdk_65_method_123_code 19 = .ok (.iconst 0, 1) := by decide +kernel
theorem d4_20 : decode jdk_65_method_123_code 20 = .ok (.aload_n 2, 1) := by decide +kernel
theorem d4_21 : decode jdk_65_method_123_code 21 = .ok (.iconst 0, 1) := by decide +kernel
theorem d4_22 : decode jdk_65_method_123_code 22 = .ok (.aload_n 0, 1) := by decide +kernel
theorem d4_23 : decode jdk_65_method_123_code 23 = .ok (.arraylength, 1) := by decide +kernel
theorem d4_24 : decode jdk_65_method_123_code 24 = .ok (.iload_n 1, 1) := by decide +kernel
theorem d4_25 : decode jdk_65_method_123_code 25 = .ok (.invokestatic 304, 3) := by decide +kernel
theorem d4_28 : decode jdk_65_method_123_code 28 = .ok (.invokestatic 150, 3) := by decide +kernel
theorem d4_31 : decode jdk_65_method_123_code 31 = .ok (.aload_n 2, 1) := by decide +kernel
theorem d4_32 : decode jdk_65_method_123_code 32 = .ok (.areturn, 1) := by decide +kernel
theorem pn_4 : plainName "java/util/Arrays" = true := by first | (simp [plainName, overriddenIn]; done) | decide +kernel
theorem ef_4 (m : MethodId) (x0 : Addr) (x1 : Int32) : entryFrame m #[(.ref x0), (.int x1)] 3 = mkF m 0 #[.val (.ref x0), .val (.int x1), .unset] [] := by first | (simp [entryFrame, mkF, argsToLocals, Value.category]; done) | rfl
def Q4 (Z : State) (p2 : Int32) (h0 : Heap) (n0 : Nat) (v : Option Value) (h : Heap) (L : List Loc) : Prop := ∃ (b : Addr) (kb : ClassId), v = some (.ref b) ∧ Fr n0 L ∧ n0 ≤ b ∧ h0.size ≤ b ∧ Keep h0 h [] ∧ Arv Z h b kb .int p2 [(.int (0 : Int32)), (.int (0 : Int32)), (.int (0 : Int32)), (.int (0 : Int32)), (.int (0 : Int32)), (.int (0 : Int32)), (.int (0 : Int32)), (.int (0 : Int32))] (.int (0 : Int32))
set_option maxRecDepth 65536 in
set_option maxHeartbeats 40000000 in
theorem rm4 (l : Launch) (Z : State) (a0 : Array Value) (hw : ∀ d ∈ tables_1, d.before a0 Z = true) (ws : List Jvm.Cond) (a1 : Addr) (p2 : Int32) (k0 : ClassId) (h0 : Heap) (n0 : Nat) (Z0 : n0 ≤ h0.size) (V0 : Arv Z h0 a1 k0 .int (0 : Int32) [] (.int (0 : Int32))) (hp : p2 = 8) :
    MetFree l (⟨"java/util/Arrays", "copyOf", "([II)[I"⟩ : MethodName) (head1 (Jvm.Cond.code (⟨"java/util/Arrays", "copyOf", "([II)[I"⟩ : MethodName) jdk_65_method_123_code 3 (some (.array .int)) :: ws) ({ frames := 1, cells := 1, slots := 8, locals := 18 } : Room)) (fun a U => a = #[(.ref a1), (.int p2)] ∧ Z.Warmed39 U.vm ∧ U.heap = h0) (fun _ _ _ _ _ => True) (fun _ U o U' => ∃ v L, o = .returned v ∧ Q4 Z p2 h0 n0 v U'.heap L ∧ FrameEnd U o U' L ({ frames := 1, cells := 1, slots := 8, locals := 18 } : Room).cells ({ frames := 1, cells := 1, slots := 8, locals := 18 } : Room).slots) := by
  refine MetFree.of_bodySF (plainFor_of_name pn_4) hisR ?_
  intro p e s m args below meth c s₁ Bd hml0 hP hK
  obtain ⟨rfl, hZ, hh⟩ := hP
  have hx := Bd.exec
  have hby := Bd.bytes
  have hml : c.maxLocals = 3 := hml0
  have hown : s.vm.findClass "java/util/Arrays" = some m.cls := findClass_of_methodNamed Bd.named
  have hnm := (name_of_methodNamed Bd.named Bd.method).1
  have X0 : Stand p l e ({ frames := 1, cells := 1, slots := 8, locals := 18 } : Room) s m #[(.ref a1), (.int p2)] below meth c s₁ [] 0 0 := Stand.of_body Bd
  have e0 : s₁.heap = h0 := by rw [← hh, Bd.state]; rfl
  have N0 := Fr.nil n0
  have pre0 : ∀ t, Steps p.tables e below (s₁.setTop (mkF m 0 #[.val (.ref a1), .val (.int p2), .unset] [])) t → Steps p.tables e below (s₁.setTop (entryFrame m #[(.ref a1), (.int p2)] 3)) t := fun t k => castTop (ef_4 m a1 p2) k
  refine own_go pre0 ?_
  have go1 : ∀ t, Steps p.tables e below (s₁.setTop (mkF m 2 #[.val (.ref a1), .val (.int p2), .unset] [(.ref a1), (.int p2)])) t → Steps p.tables e below (s₁.setTop (mkF m 0 #[.val (.ref a1), .val (.int p2), .unset] [])) t := by
    intro t kt
    show Steps p.tables e below (s₁.setTop (mkF m 0 #[.val (.ref a1), .val (.int p2), .unset] [])) _
    refine XS.iloadN X0.here hx rfl (hb hby d4_0) rfl ?_
    show Steps p.tables e below (s₁.setTop (mkF m 1 #[.val (.ref a1), .val (.int p2), .unset] [(.int p2)])) _
    refine XS.aloadN X0.here hx rfl (hb hby d4_1) rfl rfl ?_
    exact kt
  refine own_go go1 ?_
  have Vo2 := V0
  obtain ⟨cl2, Ar2, qk2, Sz2, Nz2, Hh2, Gf2⟩ := Vo2
  have go3 : ∀ t, Steps p.tables e below (s₁.setTop (mkF m 3 #[.val (.ref a1), .val (.int p2), .unset] [(.int (0 : Int32)), (.int p2)])) t → Steps p.tables e below (s₁.setTop (mkF m 2 #[.val (.ref a1), .val (.int p2), .unset] [(.ref a1), (.int p2)])) t := by
    intro t kt
    refine X0.arraylength hx (by rw [e0]; exact Ar2.1) (State.isArrayOf_alike hZ.alike Ar2.2.1) (g := (mkF m 2 #[.val (.ref a1), .val (.int p2), .unset] [(.ref a1), (.int p2)])) rfl rfl (hb hby d4_2) _ ?_
    rw [len_of Sz2 Nz2]
    exact kt
  refine own_go go3 ?_
  have go4 : ∀ t, Steps p.tables e below (s₁.setTop (mkF m 15 #[.val (.ref a1), .val (.int p2), .unset] [(.int p2)])) t → Steps p.tables e below (s₁.setTop (mkF m 3 #[.val (.ref a1), .val (.int p2), .unset] [(.int (0 : Int32)), (.int p2)])) t := by
    intro t kt
    show Steps p.tables e below (s₁.setTop (mkF m 3 #[.val (.ref a1), .val (.int p2), .unset] [(.int (0 : Int32)), (.int p2)])) _
    refine XS.icmpYes X0.here hx rfl (pc0 := 3) (pc' := 14) rfl (hb hby d4_3) rfl (feq (own_80 p2 hp)).2 (by decide) (by decide) ?_
    show Steps p.tables e below (s₁.setTop (mkF m 14 #[.val (.ref a1), .val (.int p2), .unset] [])) _
    refine XS.iloadN X0.here hx rfl (hb hby d4_14) rfl ?_
    exact kt
  refine own_go go4 ?_
  have lt1 : a1 < h0.size := V0.lt
  obtain ⟨T5, h5, k5, X5, e5, E5, A5, st5⟩ := newP X0 hx hZ (hw _ (List.mem_of_getElem? (i := 10) rfl)) e0 (g := (mkF m 15 #[.val (.ref a1), .val (.int p2), .unset] [(.int p2)])) rfl (hb hby d4_15) rfl (own_8n p2 hp) (cap := 8) (own_8c p2 hp) (by decide) (by decide) (by decide)
  obtain ⟨b, g5⟩ : ∃ z, z = h0.size := ⟨_, rfl⟩
  rw [← g5] at A5 st5
  have g_b : n0 ≤ b := Nat.le_trans Z0 (Nat.le_of_eq g5.symm)
  have V5_a1 : Arv Z h5 a1 k0 .int (0 : Int32) [] (.int (0 : Int32)) := V0.ext E5
  have V_b : Arv Z h5 b k5 .int p2 [(.int (0 : Int32)), (.int (0 : Int32)), (.int (0 : Int32)), (.int (0 : Int32)), (.int (0 : Int32)), (.int (0 : Int32)), (.int (0 : Int32)), (.int (0 : Int32))] (.int (0 : Int32)) := (Arv.new A5 (own_8n p2 hp)).pad (pad_rep [] (.int (0 : Int32)) 8)
  refine own_go (S' := T5.setTop (mkF m 17 #[.val (.ref a1), .val (.int p2), .unset] [(.ref b)])) st5 ?_
  have ne_a1_b : a1 ≠ b := Nat.ne_of_lt (Nat.lt_of_lt_of_le lt1 (Nat.le_of_eq g5.symm))
  have Kx := (Keep.refl h0 []).ext E5
  have szb : h0.size ≤ b := Nat.le_of_eq g5.symm
  have go6 : ∀ t, Steps p.tables e below (T5.setTop (mkF m 23 #[.val (.ref a1), .val (.int p2), .val (.ref b)] [(.ref a1), (.int (0 : Int32)), (.ref b), (.int (0 : Int32)), (.ref a1)])) t → Steps p.tables e below (T5.setTop (mkF m 17 #[.val (.ref a1), .val (.int p2), .unset] [(.ref b)])) t := by
    intro t kt
    show Steps p.tables e below (T5.setTop (mkF m 17 #[.val (.ref a1), .val (.int p2), .unset] [(.ref b)])) _
    refine XS.astoreN X5.here hx rfl (hb hby d4_17) rfl rfl (l' := #[.val (.ref a1), .val (.int p2), .val (.ref b)]) rfl ?_
    show Steps p.tables e below (T5.setTop (mkF m 18 #[.val (.ref a1), .val (.int p2), .val (.ref b)] [])) _
    refine XS.aloadN X5.here hx rfl (hb hby d4_18) rfl rfl ?_
    show Steps p.tables e below (T5.setTop (mkF m 19 #[.val (.ref a1), .val (.int p2), .val (.ref b)] [(.ref a1)])) _
    refine XS.iconst X5.here hx rfl (hb hby d4_19) ?_
    show Steps p.tables e below (T5.setTop (mkF m 20 #[.val (.ref a1), .val (.int p2), .val (.ref b)] [(.int (0 : Int32)), (.ref a1)])) _
    refine XS.aloadN X5.here hx rfl (hb hby d4_20) rfl rfl ?_
    show Steps p.tables e below (T5.setTop (mkF m 21 #[.val (.ref a1), .val (.int p2), .val (.ref b)] [(.ref b), (.int (0 : Int32)), (.ref a1)])) _
    refine XS.iconst X5.here hx rfl (hb hby d4_21) ?_
    show Steps p.tables e below (T5.setTop (mkF m 22 #[.val (.ref a1), .val (.int p2), .val (.ref b)] [(.int (0 : Int32)), (.ref b), (.int (0 : Int32)), (.ref a1)])) _
    refine XS.aloadN X5.here hx rfl (hb hby d4_22) rfl rfl ?_
    exact kt
  refine own_go go6 ?_
  have Vo7 := V5_a1
  obtain ⟨cl7, Ar7, qk7, Sz7, Nz7, Hh7, Gf7⟩ := Vo7
  have go8 : ∀ t, Steps p.tables e below (T5.setTop (mkF m 24 #[.val (.ref a1), .val (.int p2), .val (.ref b)] [(.int (0 : Int32)), (.int (0 : Int32)), (.ref b), (.int (0 : Int32)), (.ref a1)])) t → Steps p.tables e below (T5.setTop (mkF m 23 #[.val (.ref a1), .val (.int p2), .val (.ref b)] [(.ref a1), (.int (0 : Int32)), (.ref b), (.int (0 : Int32)), (.ref a1)])) t := by
    intro t kt
    refine X5.arraylength hx (by rw [e5]; exact Ar7.1) (State.isArrayOf_alike hZ.alike Ar7.2.1) (g := (mkF m 23 #[.val (.ref a1), .val (.int p2), .val (.ref b)] [(.ref a1), (.int (0 : Int32)), (.ref b), (.int (0 : Int32)), (.ref a1)])) rfl rfl (hb hby d4_23) _ ?_
    rw [len_of Sz7 Nz7]
    exact kt
  refine own_go go8 ?_
  have go9 : ∀ t, Steps p.tables e below (T5.setTop (mkF m 25 #[.val (.ref a1), .val (.int p2), .val (.ref b)] [(.int p2), (.int (0 : Int32)), (.int (0 : Int32)), (.ref b), (.int (0 : Int32)), (.ref a1)])) t → Steps p.tables e below (T5.setTop (mkF m 24 #[.val (.ref a1), .val (.int p2), .val (.ref b)] [(.int (0 : Int32)), (.int (0 : Int32)), (.ref b), (.int (0 : Int32)), (.ref a1)])) t := by
    intro t kt
    show Steps p.tables e below (T5.setTop (mkF m 24 #[.val (.ref a1), .val (.int p2), .val (.ref b)] [(.int (0 : Int32)), (.int (0 : Int32)), (.ref b), (.int (0 : Int32)), (.ref a1)])) _
    refine XS.iloadN X5.here hx rfl (hb hby d4_24) rfl ?_
    exact kt
  refine own_go go9 ?_
  obtain ⟨_, _, ⟨T10, L10, k10, n10⟩, -, X10, ⟨Lc10, hQ10, l10, y10, z10⟩, st10⟩ := Jvm.LawKit.callS X5 hx (y := (⟨"java/lang/Math", "min", "(II)I"⟩ : MethodName)) hown (mvT hZ (hw _ (List.mem_of_getElem? (i := 26) rfl))) (mvT hZ (hw _ (List.mem_of_getElem? (i := 27) rfl))) (mvT hZ (hw _ (List.mem_of_getElem? (i := 28) rfl))) (mvT hZ (hw _ (List.mem_of_getElem? (i := 29) rfl))) (by decide) (backOf (W := 4) (rm5 l Z a0 hw [] (0 : Int32) p2 (0 : Int32) h5 n0 (Nat.le_trans Z0 E5.1) (own_min0 p2 hp)) hZ (hw _ (List.mem_of_getElem? (i := 29) rfl)) (hw _ (List.mem_of_getElem? (i := 28) rfl)) (by decide) (by decide)) (g := (mkF m 25 #[.val (.ref a1), .val (.int p2), .val (.ref b)] [(.int p2), (.int (0 : Int32)), (.int (0 : Int32)), (.ref b), (.int (0 : Int32)), (.ref a1)])) rfl (by rw [hml]; rfl) (argsL := [(.int (0 : Int32)), (.int p2)]) (rest := [(.int (0 : Int32)), (.ref b), (.int (0 : Int32)), (.ref a1)]) (lenOf pd_0 rfl) rfl (by show 2 * 0 + _ ≤ _; exact Nat.le_of_eq rfl) (hb hby d4_25) (fun _ _ => ⟨rfl, e5, (by decide : 1 + 0 ≤ _), (by decide : 8 + 0 ≤ _)⟩)
  dsimp only [Pt.U, Pt.locs, Pt.cells, Pt.slots] at X10 l10 y10 z10 st10 hQ10
  subst l10 y10 z10
  obtain ⟨rfl, N10q, em⟩ := hQ10
  have N10 := Fr.app N0 N10q
  refine own_go (S' := T10.setTop (mkF m 28 #[.val (.ref a1), .val (.int p2), .val (.ref b)] [(.int (0 : Int32)), (.int (0 : Int32)), (.ref b), (.int (0 : Int32)), (.ref a1)])) st10 ?_
  obtain ⟨T11, h11, L11, X11, e11, N11, K11, V11, st11⟩ := cpA X10 hx hZ hown (hw _ (List.mem_of_getElem? (i := 30) rfl)) (hw _ (List.mem_of_getElem? (i := 33) rfl)) (hw _ (List.mem_of_getElem? (i := 31) rfl)) (hw _ (List.mem_of_getElem? (i := 32) rfl)) em (us := []) V5_a1 V_b (Or.inl ⟨rfl, rfl⟩) (by decide) (by decide) (by decide) (by decide) (Nat.zero_le _) rfl (by decide) N10 g_b (g := (mkF m 28 #[.val (.ref a1), .val (.int p2), .val (.ref b)] [(.int (0 : Int32)), (.int (0 : Int32)), (.ref b), (.int (0 : Int32)), (.ref a1)])) rfl (by rw [hml]; rfl) rfl (hb hby d4_28) (by decide) (W := 0) (by show 2 * 0 + _ ≤ _; exact Nat.le_of_eq rfl) (by decide)
  have W11 : Arv Z h11 b k5 .int p2 [(.int (0 : Int32)), (.int (0 : Int32)), (.int (0 : Int32)), (.int (0 : Int32)), (.int (0 : Int32)), (.int (0 : Int32)), (.int (0 : Int32)), (.int (0 : Int32))] (.int (0 : Int32)) := V11
  have Ky : Keep h0 h11 [] := Kx.trans K11 (fun x hx' => by cases List.mem_singleton.mp hx'; exact Or.inr szb)
  refine own_go (S' := T11.setTop (mkF m 31 #[.val (.ref a1), .val (.int p2), .val (.ref b)] [])) st11 ?_
  have go12 : ∀ t, Steps p.tables e below (T11.setTop (mkF m 32 #[.val (.ref a1), .val (.int p2), .val (.ref b)] [(.ref b)])) t → Steps p.tables e below (T11.setTop (mkF m 31 #[.val (.ref a1), .val (.int p2), .val (.ref b)] [])) t := by
    intro t kt
    show Steps p.tables e below (T11.setTop (mkF m 31 #[.val (.ref a1), .val (.int p2), .val (.ref b)] [])) _
    refine XS.aloadN X11.here hx rfl (hb hby d4_31) rfl rfl ?_
    exact kt
  refine own_go go12 ?_
  obtain ⟨fs, hr, hrun, hended, hW, hsame⟩ := X11.leave (v := some (.ref b)) (fun h => by rw [Bd.returns] at h; cases h)
  refine ⟨_, _, retOut X11 hx Bd.returns rfl (Or.inr (Or.inr (Or.inr (Or.inr ⟨rfl, rfl, rfl⟩)))) (hb hby d4_32) hr, hrun, hended, _, _, rfl, ?_, ⟨_, rfl⟩, hW, hsame.mono (by decide) (by decide)⟩
  show Q4 Z p2 h0 n0 _ T11.heap _
  rw [e11]
  exact ⟨b, k5, rfl, N11, g_b, szb, Ky, W11⟩
theorem d3_0 : decode prog_34_method_3_code 0 = .ok (.aload_n 0, 1) := by decide +kernel
theorem d3_1 : decode prog_34_method_3_code 1 = .ok (.aload_n 0, 1) := by decide +kernel
theorem d3_2 : decode prog_34_method_3_code 2 = .ok (.getfield 7, 3) := by decide +kernel
theorem d3_5 : decode prog_34_method_3_code 5 = .ok (.iconst 2, 1) := by decide +kernel
theorem d3_6 : decode prog_34_method_3_code 6 = .ok (.iload_n 1, 1) := by decide +kernel
theorem d3_7 : decode prog_34_method_3_code 7 = .ok (.imul, 1) := by decide +kernel
theorem d3_8 : decode prog_34_method_3_code 8 = .ok (.invokestatic 20, 3) := by decide +kernel
theorem d3_11 : decode prog_34_method_3_code 11 = .ok (.putfield 7, 3) := by decide +kernel
theorem d3_14 : decode prog_34_method_3_code 14 = .ok (.return_, 1) := by decide +kernel
theorem pn_3 : plainName "com/example/loadgate/loadgate/NodeOrder" = true := by first | (simp [plainName, overriddenIn]; done) | decide +kernel
theorem ef_3 (m : MethodId) (x0 : Addr) (x1 : Int32) : entryFrame m #[(.ref x0), (.int x1)] 2 = mkF m 0 #[.val (.ref x0), .val (.int x1)] [] := by first | (simp [entryFrame, mkF, argsToLocals, Value.category]; done) | rfl
def Q3 (Z : State) (a1 : Addr) (el nw : Int32) (h0 : Heap) (n0 : Nat) (v : Option Value) (h : Heap) (L : List Loc) : Prop := v = none ∧ Fr n0 L ∧ ∃ (b : Addr) (kb : ClassId), n0 ≤ b ∧ b ≠ a1 ∧ own_S Z h a1 b kb el nw [0, 0, 0, 0, 0, 0, 0, 0]
set_option maxRecDepth 65536 in
set_option maxHeartbeats 40000000 in
theorem rm3 (l : Launch) (Z : State) (a0 : Array Value) (hw : ∀ d ∈ tables_1, d.before a0 Z = true) (ws : List Jvm.Cond) (a1 : Addr) (p2 : Int32) (b0 : Addr) (k0 : ClassId) (el nw : Int32) (h0 : Heap) (n0 : Nat) (Z0 : n0 ≤ h0.size) (E : Exa Z h0 a1 "com/example/loadgate/loadgate/NodeOrder") (F_links : Fld Z h0 a1 "com/example/loadgate/loadgate/NodeOrder" "links" "[I" (.ref b0)) (F_eldest : Fld Z h0 a1 "com/example/loadgate/loadgate/NodeOrder" "eldest" "I" (.int el)) (F_newest : Fld Z h0 a1 "com/example/loadgate/loadgate/NodeOrder" "newest" "I" (.int nw)) (V0 : Arv Z h0 b0 k0 .int (0 : Int32) [] (.int (0 : Int32))) (ga : n0 ≤ a1) (hp : p2 = 4) :
    MetFree l (⟨"com/example/loadgate/loadgate/NodeOrder", "resize", "(I)V"⟩ : MethodName) (head1 (Jvm.Cond.code (⟨"com/example/loadgate/loadgate/NodeOrder", "resize", "(I)V"⟩ : MethodName) prog_34_method_3_code 2 none :: ws) ({ frames := 2, cells := 1, slots := 8, locals := 33 } : Room)) (fun a U => a = #[(.ref a1), (.int p2)] ∧ Z.Warmed39 U.vm ∧ U.heap = h0) (fun _ _ _ _ _ => True) (fun _ U o U' => ∃ v L, o = .returned v ∧ Q3 Z a1 el nw h0 n0 v U'.heap L ∧ FrameEnd U o U' L ({ frames := 2, cells := 1, slots := 8, locals := 33 } : Room).cells ({ frames := 2, cells := 1, slots := 8, locals := 33 } : Room).slots) := by
  refine MetFree.of_bodySF (plainFor_of_name pn_3) hisR ?_
  intro p e s m args below meth c s₁ Bd hml0 hP hK
  obtain ⟨rfl, hZ, hh⟩ := hP
  have hx := Bd.exec
  have hby := Bd.bytes
  have hml : c.maxLocals = 2 := hml0
  have hown : s.vm.findClass "com/example/loadgate/loadgate/NodeOrder" = some m.cls := findClass_of_methodNamed Bd.named
  have hnm := (name_of_methodNamed Bd.named Bd.method).1
  have X0 : Stand p l e ({ frames := 2, cells := 1, slots := 8, locals := 33 } : Room) s m #[(.ref a1), (.int p2)] below meth c s₁ [] 0 0 := Stand.of_body Bd
  have e0 : s₁.heap = h0 := by rw [← hh, Bd.state]; rfl
  have N0 := Fr.nil n0
  have pre0 : ∀ t, Steps p.tables e below (s₁.setTop (mkF m 0 #[.val (.ref a1), .val (.int p2)] [])) t → Steps p.tables e below (s₁.setTop (entryFrame m #[(.ref a1), (.int p2)] 2)) t := fun t k => castTop (ef_3 m a1 p2) k
  refine own_go pre0 ?_
  have go1 : ∀ t, Steps p.tables e below (s₁.setTop (mkF m 2 #[.val (.ref a1), .val (.int p2)] [(.ref a1), (.ref a1)])) t → Steps p.tables e below (s₁.setTop (mkF m 0 #[.val (.ref a1), .val (.int p2)] [])) t := by
    intro t kt
    show Steps p.tables e below (s₁.setTop (mkF m 0 #[.val (.ref a1), .val (.int p2)] [])) _
    refine XS.aloadN X0.here hx rfl (hb hby d3_0) rfl rfl ?_
    show Steps p.tables e below (s₁.setTop (mkF m 1 #[.val (.ref a1), .val (.int p2)] [(.ref a1)])) _
    refine XS.aloadN X0.here hx rfl (hb hby d3_1) rfl rfl ?_
    exact kt
  refine own_go go1 ?_
  obtain ⟨T2, X2, e2, st2⟩ := getF X0 hx hZ hown (host := "") (Or.inl (hw _ (List.mem_of_getElem? (i := 11) rfl))) Via.refl e0 F_links (g := (mkF m 2 #[.val (.ref a1), .val (.int p2)] [(.ref a1), (.ref a1)])) rfl rfl (hb hby d3_2)
  refine own_go (S' := T2.setTop (mkF m 5 #[.val (.ref a1), .val (.int p2)] [(.ref b0), (.ref a1)])) st2 ?_
  have go3 : ∀ t, Steps p.tables e below (T2.setTop (mkF m 8 #[.val (.ref a1), .val (.int p2)] [(.int ((2 : Int32) * p2)), (.ref b0), (.ref a1)])) t → Steps p.tables e below (T2.setTop (mkF m 5 #[.val (.ref a1), .val (.int p2)] [(.ref b0), (.ref a1)])) t := by
    intro t kt
    show Steps p.tables e below (T2.setTop (mkF m 5 #[.val (.ref a1), .val (.int p2)] [(.ref b0), (.ref a1)])) _
    refine XS.iconst X2.here hx rfl (hb hby d3_5) ?_
    show Steps p.tables e below (T2.setTop (mkF m 6 #[.val (.ref a1), .val (.int p2)] [(.int (2 : Int32)), (.ref b0), (.ref a1)])) _
    refine XS.iloadN X2.here hx rfl (hb hby d3_6) rfl ?_
    show Steps p.tables e below (T2.setTop (mkF m 7 #[.val (.ref a1), .val (.int p2)] [(.int p2), (.int (2 : Int32)), (.ref b0), (.ref a1)])) _
    refine XS.imul X2.here hx rfl (hb hby d3_7) rfl ?_
    exact kt
  refine own_go go3 ?_
  obtain ⟨_, _, ⟨T4, L4, k4, n4⟩, -, X4, ⟨Lc4, hQ4, l4, y4, z4⟩, st4⟩ := Jvm.LawKit.callS X2 hx (y := (⟨"java/util/Arrays", "copyOf", "([II)[I"⟩ : MethodName)) hown (mvT hZ (hw _ (List.mem_of_getElem? (i := 22) rfl))) (mvT hZ (hw _ (List.mem_of_getElem? (i := 23) rfl))) (mvT hZ (hw _ (List.mem_of_getElem? (i := 24) rfl))) (mvT hZ (hw _ (List.mem_of_getElem? (i := 25) rfl))) (by decide) (backOf (W := 1) (rm4 l Z a0 hw [] b0 ((2 : Int32) * p2) k0 h0 n0 Z0 V0 (own_48 p2 hp)) hZ (hw _ (List.mem_of_getElem? (i := 25) rfl)) (hw _ (List.mem_of_getElem? (i := 24) rfl)) (by decide) (by decide)) (g := (mkF m 8 #[.val (.ref a1), .val (.int p2)] [(.int ((2 : Int32) * p2)), (.ref b0), (.ref a1)])) rfl (by rw [hml]; rfl) (argsL := [(.ref b0), (.int ((2 : Int32) * p2))]) (rest := [(.ref a1)]) (lenOf pd_1 rfl) rfl (by show 2 * 0 + _ ≤ _; exact Nat.le_of_eq rfl) (hb hby d3_8) (fun _ _ => ⟨rfl, e2, (by decide : 0 + 1 ≤ _), (by decide : 0 + 8 ≤ _)⟩)
  dsimp only [Pt.U, Pt.locs, Pt.cells, Pt.slots] at X4 l4 y4 z4 st4 hQ4
  subst l4 y4 z4
  obtain ⟨b, kb, rfl, N4q, gb, szb, KC, VC⟩ := hQ4
  have N4 := Fr.app N0 N4q
  refine own_go (S' := T4.setTop (mkF m 11 #[.val (.ref a1), .val (.int p2)] [(.ref b), (.ref a1)])) st4 ?_
  have G_links := F_links.keep KC nin0
  have G_eldest := F_eldest.keep KC nin0
  have G_newest := F_newest.keep KC nin0
  have GE := E.keep KC
  have nb : b ≠ a1 := Ne.symm (Nat.ne_of_lt (Nat.lt_of_lt_of_le E.lt szb))
  have VD : Arv Z T4.heap b kb .int (8 : Int32) (([0, 0, 0, 0, 0, 0, 0, 0] : List Int32).map Value.int) (.int (0 : Int32)) := by
    have z := VC
    rw [own_48 p2 hp] at z
    exact z
  obtain ⟨T5, h5, X5, e5, W5, st5⟩ := putF X4 hx hZ hown (host := "") (Or.inl (hw _ (List.mem_of_getElem? (i := 11) rfl))) Via.refl rfl G_links GE (Or.inl (hw _ (List.mem_of_getElem? (i := 12) rfl))) (hw _ (List.mem_of_getElem? (i := 2) rfl)) (ty := (.array .int)) (by decide) rfl rfl (g := (mkF m 11 #[.val (.ref a1), .val (.int p2)] [(.ref b), (.ref a1)])) rfl rfl (hb hby d3_11)
  have F5_a1_links : Fld Z h5 a1 "com/example/loadgate/loadgate/NodeOrder" "links" "[I" (.ref b) := G_links.same W5
  have F5_a1_eldest : Fld Z h5 a1 "com/example/loadgate/loadgate/NodeOrder" "eldest" "I" (.int el) := G_eldest.other W5 (Or.inr (slot_ne (Or.inl (hw _ (List.mem_of_getElem? (i := 14) rfl))) (Or.inl (hw _ (List.mem_of_getElem? (i := 12) rfl))) (by decide) (t := .int) (t' := (.array .int)) (by decide) (by decide)))
  have F5_a1_newest : Fld Z h5 a1 "com/example/loadgate/loadgate/NodeOrder" "newest" "I" (.int nw) := G_newest.other W5 (Or.inr (slot_ne (Or.inl (hw _ (List.mem_of_getElem? (i := 16) rfl))) (Or.inl (hw _ (List.mem_of_getElem? (i := 12) rfl))) (by decide) (t := .int) (t' := (.array .int)) (by decide) (by decide)))
  have E5_a1 : Exa Z h5 a1 "com/example/loadgate/loadgate/NodeOrder" := GE.wr W5
  have V5_b : Arv Z h5 b kb .int (8 : Int32) (([0, 0, 0, 0, 0, 0, 0, 0] : List Int32).map Value.int) (.int (0 : Int32)) := VD.other W5 nb
  have N5 := Fr.snoc X5 N4 ga
  refine own_go (S' := T5.setTop (mkF m 14 #[.val (.ref a1), .val (.int p2)] [])) st5 ?_
  obtain ⟨fs, hr, hrun, hended, hW, hsame⟩ := X5.leave (v := none) (fun _ => rfl)
  refine ⟨_, _, X5.returnOut hx Bd.returns (hb hby d3_14) hr, hrun, hended, _, _, rfl, ?_, ⟨_, rfl⟩, hW, hsame.mono (by decide) (by decide)⟩
  show Q3 Z a1 el nw h0 n0 _ T5.heap _
  rw [e5]
  exact ⟨rfl, N5, b, kb, gb, nb, E5_a1, F5_a1_links, F5_a1_eldest, F5_a1_newest, V5_b⟩
def QS (Z : State) (a1 b : Addr) (kb : ClassId) (el nw : Int32) (vs : List Int32) (h0 : Heap) (n0 : Nat) (v : Option Value) (h : Heap) (L : List Loc) : Prop := v = none ∧ Fr n0 L ∧ own_S Z h a1 b kb el nw vs
theorem d7_0 : decode prog_34_method_8_code 0 = .ok (.iload_n 1, 1) := by decide +kernel
theorem d7_1 : decode prog_34_method_8_code 1 = .ok (.iconst (-1), 1) := by decide +kernel
theorem d7_2 : decode prog_34_method_8_code 2 = .ok (.if_icmp .ne 11, 3) := by decide +kernel
theorem d7_5 : decode prog_34_method_8_code 5 = .ok (.aload_n 0, 1) := by decide +kernel
theorem d7_6 : decode prog_34_method_8_code 6 = .ok (.iload_n 2, 1) := by decide +kernel
theorem d7_7 : decode prog_34_method_8_code 7 = .ok (.putfield 13, 3) := by decide +kernel
theorem d7_10 : decode prog_34_method_8_code 10 = .ok (.goto 14, 3) := by decide +kernel
theorem d7_13 : decode prog_34_method_8_code 13 = .ok (.aload_n 0, 1) := by decide +kernel
theorem d7_14 : decode prog_34_method_8_code 14 = .ok (.getfield 7, 3) := by decide +kernel
theorem d7_17 : decode prog_34_method_8_code 17 = .ok (.iconst 2, 1) := by decide +kernel
theorem d7_18 : decode prog_34_method_8_code 18 = .ok (.iload_n 1, 1) := by decide +kernel
theorem d7_19 : decode prog_34_method_8_code 19 = .ok (.imul, 1) := by decide +kernel
theorem d7_20 : decode prog_34_method_8_code 20 = .ok (.iconst 1, 1) := by decide +kernel
theorem d7_21 : decode prog_34_method_8_code 21 = .ok (.iadd, 1) := by decide +kernel
theorem d7_22 : decode prog_34_method_8_code 22 = .ok (.iload_n 2, 1) := by decide +kernel
theorem d7_23 : decode prog_34_method_8_code 23 = .ok (.iastore, 1) := by decide +kernel
theorem d7_24 : decode prog_34_method_8_code 24 = .ok (.return_, 1) := by decide +kernel
theorem pn_7 : plainName "com/example/loadgate/loadgate/NodeOrder" = true := by first | (simp [plainName, overriddenIn]; done) | decide +kernel
theorem ef_7 (m : MethodId) (x0 : Addr) (x1 : Int32) (x2 : Int32) : entryFrame m #[(.ref x0), (.int x1), (.int x2)] 3 = mkF m 0 #[.val (.ref x0), .val (.int x1), .val (.int x2)] [] := by first | (simp [entryFrame, mkF, argsToLocals, Value.category]; done) | rfl
set_option maxRecDepth 65536 in
set_option maxHeartbeats 40000000 in
theorem rm7 (l : Launch) (Z : State) (a0 : Array Value) (hw : ∀ d ∈ tables_1, d.before a0 Z = true) (ws : List Jvm.Cond) (a1 : Addr) (p2 : Int32) (p3 : Int32) (b : Addr) (kb : ClassId) (el nw : Int32) (vs : List Int32) (h0 : Heap) (n0 : Nat) (Z0 : n0 ≤ h0.size) (HS : own_S Z h0 a1 b kb el nw vs) (hl : vs.length = 8) (ga : n0 ≤ a1) (gb : n0 ≤ b) (nb : b ≠ a1) (hj : own_jn p2 = true) :
    MetFree l (⟨"com/example/loadgate/loadgate/NodeOrder", "setAfter", "(II)V"⟩ : MethodName) (head1 (Jvm.Cond.code (⟨"com/example/loadgate/loadgate/NodeOrder", "setAfter", "(II)V"⟩ : MethodName) prog_34_method_8_code 3 none :: ws) ({ frames := 0, cells := 0, slots := 0, locals := 0 } : Room)) (fun a U => a = #[(.ref a1), (.int p2), (.int p3)] ∧ Z.Warmed39 U.vm ∧ U.heap = h0) (fun _ _ _ _ _ => True) (fun _ U o U' => ∃ v L, o = .returned v ∧ QS Z a1 b kb (own_aE p2 p3 el) nw (own_aV p2 p3 vs) h0 n0 v U'.heap L ∧ FrameEnd U o U' L ({ frames := 0, cells := 0, slots := 0, locals := 0 } : Room).cells ({ frames := 0, cells := 0, slots := 0, locals := 0 } : Room).slots) := by
  refine MetFree.of_bodySF (plainFor_of_name pn_7) hisR ?_
  intro p e s m args below meth c s₁ Bd hml0 hP hK
  obtain ⟨rfl, hZ, hh⟩ := hP
  have hx := Bd.exec
  have hby := Bd.bytes
  have hml : c.maxLocals = 3 := hml0
  have hown : s.vm.findClass "com/example/loadgate/loadgate/NodeOrder" = some m.cls := findClass_of_methodNamed Bd.named
  have hnm := (name_of_methodNamed Bd.named Bd.method).1
  have X0 : Stand p l e ({ frames := 0, cells := 0, slots := 0, locals := 0 } : Room) s m #[(.ref a1), (.int p2), (.int p3)] below meth c s₁ [] 0 0 := Stand.of_body Bd
  have e0 : s₁.heap = h0 := by rw [← hh, Bd.state]; rfl
  have N0 := Fr.nil n0
  have pre0 : ∀ t, Steps p.tables e below (s₁.setTop (mkF m 0 #[.val (.ref a1), .val (.int p2), .val (.int p3)] [])) t → Steps p.tables e below (s₁.setTop (entryFrame m #[(.ref a1), (.int p2), (.int p3)] 3)) t := fun t k => castTop (ef_7 m a1 p2 p3) k
  refine own_go pre0 ?_
  obtain ⟨E, F_links, F_eldest, F_newest, VB⟩ := HS
  have go1 : ∀ t, Steps p.tables e below (s₁.setTop (mkF m 2 #[.val (.ref a1), .val (.int p2), .val (.int p3)] [(.int (-1 : Int32)), (.int p2)])) t → Steps p.tables e below (s₁.setTop (mkF m 0 #[.val (.ref a1), .val (.int p2), .val (.int p3)] [])) t := by
    intro t kt
    show Steps p.tables e below (s₁.setTop (mkF m 0 #[.val (.ref a1), .val (.int p2), .val (.int p3)] [])) _
    refine XS.iloadN X0.here hx rfl (hb hby d7_0) rfl ?_
    show Steps p.tables e below (s₁.setTop (mkF m 1 #[.val (.ref a1), .val (.int p2), .val (.int p3)] [(.int p2)])) _
    refine XS.iconst X0.here hx rfl (hb hby d7_1) ?_
    exact kt
  refine own_go go1 ?_
  rcases Classical.em (p2 = (-1 : Int32)) with hc2 | hc2
  · have go2 : ∀ t, Steps p.tables e below (s₁.setTop (mkF m 7 #[.val (.ref a1), .val (.int p2), .val (.int p3)] [(.int p3), (.ref a1)])) t → Steps p.tables e below (s₁.setTop (mkF m 2 #[.val (.ref a1), .val (.int p2), .val (.int p3)] [(.int (-1 : Int32)), (.int p2)])) t := by
      intro t kt
      show Steps p.tables e below (s₁.setTop (mkF m 2 #[.val (.ref a1), .val (.int p2), .val (.int p3)] [(.int (-1 : Int32)), (.int p2)])) _
      refine XS.icmpNo X0.here hx rfl (hb hby d7_2) rfl (teq hc2).2 ?_
      show Steps p.tables e below (s₁.setTop (mkF m 5 #[.val (.ref a1), .val (.int p2), .val (.int p3)] [])) _
      refine XS.aloadN X0.here hx rfl (hb hby d7_5) rfl rfl ?_
      show Steps p.tables e below (s₁.setTop (mkF m 6 #[.val (.ref a1), .val (.int p2), .val (.int p3)] [(.ref a1)])) _
      refine XS.iloadN X0.here hx rfl (hb hby d7_6) rfl ?_
      exact kt
    refine own_go go2 ?_
    obtain ⟨T3, h3, X3, e3, W3, st3⟩ := putF X0 hx hZ hown (host := "") (Or.inl (hw _ (List.mem_of_getElem? (i := 13) rfl))) Via.refl e0 F_eldest E (Or.inl (hw _ (List.mem_of_getElem? (i := 14) rfl))) (hw _ (List.mem_of_getElem? (i := 2) rfl)) (ty := .int) (by decide) rfl rfl (g := (mkF m 7 #[.val (.ref a1), .val (.int p2), .val (.int p3)] [(.int p3), (.ref a1)])) rfl rfl (hb hby d7_7)
    have F3_a1_links : Fld Z h3 a1 "com/example/loadgate/loadgate/NodeOrder" "links" "[I" (.ref b) := F_links.other W3 (Or.inr (slot_ne (Or.inl (hw _ (List.mem_of_getElem? (i := 12) rfl))) (Or.inl (hw _ (List.mem_of_getElem? (i := 14) rfl))) (by decide) (t := (.array .int)) (t' := .int) (by decide) (by decide)))
    have F3_a1_eldest : Fld Z h3 a1 "com/example/loadgate/loadgate/NodeOrder" "eldest" "I" (.int p3) := F_eldest.same W3
    have F3_a1_newest : Fld Z h3 a1 "com/example/loadgate/loadgate/NodeOrder" "newest" "I" (.int nw) := F_newest.other W3 (Or.inr (slot_ne (Or.inl (hw _ (List.mem_of_getElem? (i := 16) rfl))) (Or.inl (hw _ (List.mem_of_getElem? (i := 14) rfl))) (by decide) (t := .int) (t' := .int) (by decide) (by decide)))
    have E3_a1 : Exa Z h3 a1 "com/example/loadgate/loadgate/NodeOrder" := E.wr W3
    have V3_b : Arv Z h3 b kb .int (8 : Int32) (vs.map Value.int) (.int (0 : Int32)) := VB.other W3 nb
    have N3 := Fr.snoc X3 N0 ga
    refine own_go (S' := T3.setTop (mkF m 10 #[.val (.ref a1), .val (.int p2), .val (.int p3)] [])) st3 ?_
    have go4 : ∀ t, Steps p.tables e below (T3.setTop (mkF m 24 #[.val (.ref a1), .val (.int p2), .val (.int p3)] [])) t → Steps p.tables e below (T3.setTop (mkF m 10 #[.val (.ref a1), .val (.int p2), .val (.int p3)] [])) t := by
      intro t kt
      show Steps p.tables e below (T3.setTop (mkF m 10 #[.val (.ref a1), .val (.int p2), .val (.int p3)] [])) _
      refine XS.goto X3.here hx rfl (pc0 := 10) (pc' := 24) rfl (hb hby d7_10) (by decide) (by decide) ?_
      exact kt
    refine own_go go4 ?_
    have z1 := (show own_aE p2 p3 el = p3 from by first | (simp only [own_aE, hc2, not_true_eq_false, not_false_eq_true, and_true, true_and, and_false, false_and, or_true, true_or, or_false, false_or, and_self, or_self, eq_self, if_true, if_false]; done) | (simp [own_aE, hc2]; done))
    have z2 := (show own_aV p2 p3 vs = vs from by first | (simp only [own_aV, hc2, not_true_eq_false, not_false_eq_true, and_true, true_and, and_false, false_and, or_true, true_or, or_false, false_or, and_self, or_self, eq_self, if_true, if_false]; done) | (simp [own_aV, hc2]; done))
    obtain ⟨fs, hr, hrun, hended, hW, hsame⟩ := X3.leave (v := none) (fun _ => rfl)
    refine ⟨_, _, X3.returnOut hx Bd.returns (hb hby d7_24) hr, hrun, hended, _, _, rfl, ?_, ⟨_, rfl⟩, hW, hsame.mono (by decide) (by decide)⟩
    show QS Z a1 b kb (own_aE p2 p3 el) nw (own_aV p2 p3 vs) h0 n0 _ T3.heap _
    rw [e3]
    exact ⟨rfl, N3, E3_a1, F3_a1_links, (by rw [z1]; exact F3_a1_eldest), F3_a1_newest, (by rw [z2]; exact V3_b)⟩
  · have go5 : ∀ t, Steps p.tables e below (s₁.setTop (mkF m 14 #[.val (.ref a1), .val (.int p2), .val (.int p3)] [(.ref a1)])) t → Steps p.tables e below (s₁.setTop (mkF m 2 #[.val (.ref a1), .val (.int p2), .val (.int p3)] [(.int (-1 : Int32)), (.int p2)])) t := by
      intro t kt
      show Steps p.tables e below (s₁.setTop (mkF m 2 #[.val (.ref a1), .val (.int p2), .val (.int p3)] [(.int (-1 : Int32)), (.int p2)])) _
      refine XS.icmpYes X0.here hx rfl (pc0 := 2) (pc' := 13) rfl (hb hby d7_2) rfl (feq hc2).2 (by decide) (by decide) ?_
      show Steps p.tables e below (s₁.setTop (mkF m 13 #[.val (.ref a1), .val (.int p2), .val (.int p3)] [])) _
      refine XS.aloadN X0.here hx rfl (hb hby d7_13) rfl rfl ?_
      exact kt
    refine own_go go5 ?_
    obtain ⟨T6, X6, e6, st6⟩ := getF X0 hx hZ hown (host := "") (Or.inl (hw _ (List.mem_of_getElem? (i := 11) rfl))) Via.refl e0 F_links (g := (mkF m 14 #[.val (.ref a1), .val (.int p2), .val (.int p3)] [(.ref a1)])) rfl rfl (hb hby d7_14)
    refine own_go (S' := T6.setTop (mkF m 17 #[.val (.ref a1), .val (.int p2), .val (.int p3)] [(.ref b)])) st6 ?_
    have go7 : ∀ t, Steps p.tables e below (T6.setTop (mkF m 23 #[.val (.ref a1), .val (.int p2), .val (.int p3)] [(.int p3), (.int (((2 : Int32) * p2) + (1 : Int32))), (.ref b)])) t → Steps p.tables e below (T6.setTop (mkF m 17 #[.val (.ref a1), .val (.int p2), .val (.int p3)] [(.ref b)])) t := by
      intro t kt
      show Steps p.tables e below (T6.setTop (mkF m 17 #[.val (.ref a1), .val (.int p2), .val (.int p3)] [(.ref b)])) _
      refine XS.iconst X6.here hx rfl (hb hby d7_17) ?_
      show Steps p.tables e below (T6.setTop (mkF m 18 #[.val (.ref a1), .val (.int p2), .val (.int p3)] [(.int (2 : Int32)), (.ref b)])) _
      refine XS.iloadN X6.here hx rfl (hb hby d7_18) rfl ?_
      show Steps p.tables e below (T6.setTop (mkF m 19 #[.val (.ref a1), .val (.int p2), .val (.int p3)] [(.int p2), (.int (2 : Int32)), (.ref b)])) _
      refine XS.imul X6.here hx rfl (hb hby d7_19) rfl ?_
      show Steps p.tables e below (T6.setTop (mkF m 20 #[.val (.ref a1), .val (.int p2), .val (.int p3)] [(.int ((2 : Int32) * p2)), (.ref b)])) _
      refine XS.iconst X6.here hx rfl (hb hby d7_20) ?_
      show Steps p.tables e below (T6.setTop (mkF m 21 #[.val (.ref a1), .val (.int p2), .val (.int p3)] [(.int (1 : Int32)), (.int ((2 : Int32) * p2)), (.ref b)])) _
      refine XS.iadd X6.here hx rfl (hb hby d7_21) rfl ?_
      show Steps p.tables e below (T6.setTop (mkF m 22 #[.val (.ref a1), .val (.int p2), .val (.int p3)] [(.int (((2 : Int32) * p2) + (1 : Int32))), (.ref b)])) _
      refine XS.iloadN X6.here hx rfl (hb hby d7_22) rfl ?_
      exact kt
    refine own_go go7 ?_
    have Vo8 := VB
    obtain ⟨cl8, Ar8, qk8, Sz8, Nz8, Hh8, Gf8⟩ := Vo8
    have hin8 : ¬ ((((2 : Int32) * p2) + (1 : Int32)) < 0 ∨ cl8.slots.size ≤ ((((2 : Int32) * p2) + (1 : Int32))).toNatClampNeg) := inb_of Sz8 (own_o p2 (own_j1 p2 hj hc2))
    obtain ⟨T9, h9, X9, e9, W9, st9⟩ := stI X6 hx hZ e6 Ar8 (j := (((2 : Int32) * p2) + (1 : Int32))) hin8 (g := (mkF m 23 #[.val (.ref a1), .val (.int p2), .val (.int p3)] [(.int p3), (.int (((2 : Int32) * p2) + (1 : Int32))), (.ref b)])) rfl rfl (hb hby d7_23)
    have V9_b : Arv Z h9 b kb .int (8 : Int32) ((vs.set ((((2 : Int32) * p2) + (1 : Int32))).toNatClampNeg p3).map Value.int) (.int (0 : Int32)) := (by rw [List.map_set]; exact Arv.set Ar8 qk8 Sz8 Nz8 Hh8 Gf8 rfl W9 ((((2 : Int32) * p2) + (1 : Int32))).toNatClampNeg rfl (own_ln hl (own_o p2 (own_j1 p2 hj hc2))))
    have F9_a1_links : Fld Z h9 a1 "com/example/loadgate/loadgate/NodeOrder" "links" "[I" (.ref b) := F_links.other W9 (Or.inl (Ne.symm nb))
    have F9_a1_eldest : Fld Z h9 a1 "com/example/loadgate/loadgate/NodeOrder" "eldest" "I" (.int el) := F_eldest.other W9 (Or.inl (Ne.symm nb))
    have F9_a1_newest : Fld Z h9 a1 "com/example/loadgate/loadgate/NodeOrder" "newest" "I" (.int nw) := F_newest.other W9 (Or.inl (Ne.symm nb))
    have E9_a1 : Exa Z h9 a1 "com/example/loadgate/loadgate/NodeOrder" := E.wr W9
    have N9 := Fr.snoc X9 N0 gb
    refine own_go (S' := T9.setTop (mkF m 24 #[.val (.ref a1), .val (.int p2), .val (.int p3)] [])) st9 ?_
    have z1 := (show own_aE p2 p3 el = el from by first | (simp only [own_aE, hc2, not_true_eq_false, not_false_eq_true, and_true, true_and, and_false, false_and, or_true, true_or, or_false, false_or, and_self, or_self, eq_self, if_true, if_false]; done) | (simp [own_aE, hc2]; done))
    have z2 := (show own_aV p2 p3 vs = (vs.set ((((2 : Int32) * p2) + (1 : Int32))).toNatClampNeg p3) from by first | (simp only [own_aV, hc2, not_true_eq_false, not_false_eq_true, and_true, true_and, and_false, false_and, or_true, true_or, or_false, false_or, and_self, or_self, eq_self, if_true, if_false]; done) | (simp [own_aV, hc2]; done))
    obtain ⟨fs, hr, hrun, hended, hW, hsame⟩ := X9.leave (v := none) (fun _ => rfl)
    refine ⟨_, _, X9.returnOut hx Bd.returns (hb hby d7_24) hr, hrun, hended, _, _, rfl, ?_, ⟨_, rfl⟩, hW, hsame.mono (by decide) (by decide)⟩
    show QS Z a1 b kb (own_aE p2 p3 el) nw (own_aV p2 p3 vs) h0 n0 _ T9.heap _
    rw [e9]
    exact ⟨rfl, N9, E9_a1, F9_a1_links, (by rw [z1]; exact F9_a1_eldest), F9_a1_newest, (by rw [z2]; exact V9_b)⟩
theorem d10_0 : decode prog_34_method_9_code 0 = .ok (.iload_n 1, 1) := by decide +kernel
theorem d10_1 : decode prog_34_method_9_code 1 = .ok (.iconst (-1), 1) := by decide +kernel
theorem d10_2 : decode prog_34_method_9_code 2 = .ok (.if_icmp .ne 11, 3) := by decide +kernel
theorem d10_5 : decode prog_34_method_9_code 5 = .ok (.aload_n 0, 1) := by decide +kernel
theorem d10_6 : decode prog_34_method_9_code 6 = .ok (.iload_n 2, 1) := by decide +kernel
theorem d10_7 : decode prog_34_method_9_code 7 = .ok (.putfield 17, 3) := by decide +kernel
theorem d10_10 : decode prog_34_method_9_code 10 = .ok (.goto 12, 3) := by decide +kernel
theorem d10_13 : decode prog_34_method_9_code 13 = .ok (.aload_n 0, 1) := by decide +kernel
theorem d10_14 : decode prog_34_method_9_code 14 = .ok (.getfield 7, 3) := by decide +kernel
theorem d10_17 : decode prog_34_method_9_code 17 = .ok (.iconst 2, 1) := by decide +kernel
theorem d10_18 : decode prog_34_method_9_code 18 = .ok (.iload_n 1, 1) := by decide +kernel
theorem d10_19 : decode prog_34_method_9_code 19 = .ok (.imul, 1) := by decide +kernel
theorem d10_20 : decode prog_34_method_9_code 20 = .ok (.iload_n 2, 1) := by decide +kernel
theorem d10_21 : decode prog_34_method_9_code 21 = .ok (.iastore, 1) := by decide +kernel
theorem d10_22 : decode prog_34_method_9_code 22 = .ok (.return_, 1) := by decide +kernel
theorem pn_10 : plainName "com/example/loadgate/loadgate/NodeOrder" = true := by first | (simp [plainName, overriddenIn]; done) | decide +kernel
theorem ef_10 (m : MethodId) (x0 : Addr) (x1 : Int32) (x2 : Int32) : entryFrame m #[(.ref x0), (.int x1), (.int x2)] 3 = mkF m 0 #[.val (.ref x0), .val (.int x1), .val (.int x2)] [] := by first | (simp [entryFrame, mkF, argsToLocals, Value.category]; done) | rfl
set_option maxRecDepth 65536 in
set_option maxHeartbeats 40000000 in
theorem rm10 (l : Launch) (Z : State) (a0 : Array Value) (hw : ∀ d ∈ tables_1, d.before a0 Z = true) (ws : List Jvm.Cond) (a1 : Addr) (p2 : Int32) (p3 : Int32) (b : Addr) (kb : ClassId) (el nw : Int32) (vs : List Int32) (h0 : Heap) (n0 : Nat) (Z0 : n0 ≤ h0.size) (HS : own_S Z h0 a1 b kb el nw vs) (hl : vs.length = 8) (ga : n0 ≤ a1) (gb : n0 ≤ b) (nb : b ≠ a1) (hj : own_jn p2 = true) :
    MetFree l (⟨"com/example/loadgate/loadgate/NodeOrder", "setBefore", "(II)V"⟩ : MethodName) (head1 (Jvm.Cond.code (⟨"com/example/loadgate/loadgate/NodeOrder", "setBefore", "(II)V"⟩ : MethodName) prog_34_method_9_code 3 none :: ws) ({ frames := 0, cells := 0, slots := 0, locals := 0 } : Room)) (fun a U => a = #[(.ref a1), (.int p2), (.int p3)] ∧ Z.Warmed39 U.vm ∧ U.heap = h0) (fun _ _ _ _ _ => True) (fun _ U o U' => ∃ v L, o = .returned v ∧ QS Z a1 b kb el (own_aE p2 p3 nw) (own_bV p2 p3 vs) h0 n0 v U'.heap L ∧ FrameEnd U o U' L ({ frames := 0, cells := 0, slots := 0, locals := 0 } : Room).cells ({ frames := 0, cells := 0, slots := 0, locals := 0 } : Room).slots) := by
  refine MetFree.of_bodySF (plainFor_of_name pn_10) hisR ?_
  intro p e s m args below meth c s₁ Bd hml0 hP hK
  obtain ⟨rfl, hZ, hh⟩ := hP
  have hx := Bd.exec
  have hby := Bd.bytes
  have hml : c.maxLocals = 3 := hml0
  have hown : s.vm.findClass "com/example/loadgate/loadgate/NodeOrder" = some m.cls := findClass_of_methodNamed Bd.named
  have hnm := (name_of_methodNamed Bd.named Bd.method).1
  have X0 : Stand p l e ({ frames := 0, cells := 0, slots := 0, locals := 0 } : Room) s m #[(.ref a1), (.int p2), (.int p3)] below meth c s₁ [] 0 0 := Stand.of_body Bd
  have e0 : s₁.heap = h0 := by rw [← hh, Bd.state]; rfl
  have N0 := Fr.nil n0
  have pre0 : ∀ t, Steps p.tables e below (s₁.setTop (mkF m 0 #[.val (.ref a1), .val (.int p2), .val (.int p3)] [])) t → Steps p.tables e below (s₁.setTop (entryFrame m #[(.ref a1), (.int p2), (.int p3)] 3)) t := fun t k => castTop (ef_10 m a1 p2 p3) k
  refine own_go pre0 ?_
  obtain ⟨E, F_links, F_eldest, F_newest, VB⟩ := HS
  have go1 : ∀ t, Steps p.tables e below (s₁.setTop (mkF m 2 #[.val (.ref a1), .val (.int p2), .val (.int p3)] [(.int (-1 : Int32)), (.int p2)])) t → Steps p.tables e below (s₁.setTop (mkF m 0 #[.val (.ref a1), .val (.int p2), .val (.int p3)] [])) t := by
    intro t kt
    show Steps p.tables e below (s₁.setTop (mkF m 0 #[.val (.ref a1), .val (.int p2), .val (.int p3)] [])) _
    refine XS.iloadN X0.here hx rfl (hb hby d10_0) rfl ?_
    show Steps p.tables e below (s₁.setTop (mkF m 1 #[.val (.ref a1), .val (.int p2), .val (.int p3)] [(.int p2)])) _
    refine XS.iconst X0.here hx rfl (hb hby d10_1) ?_
    exact kt
  refine own_go go1 ?_
  rcases Classical.em (p2 = (-1 : Int32)) with hc2 | hc2
  · have go2 : ∀ t, Steps p.tables e below (s₁.setTop (mkF m 7 #[.val (.ref a1), .val (.int p2), .val (.int p3)] [(.int p3), (.ref a1)])) t → Steps p.tables e below (s₁.setTop (mkF m 2 #[.val (.ref a1), .val (.int p2), .val (.int p3)] [(.int (-1 : Int32)), (.int p2)])) t := by
      intro t kt
      show Steps p.tables e below (s₁.setTop (mkF m 2 #[.val (.ref a1), .val (.int p2), .val (.int p3)] [(.int (-1 : Int32)), (.int p2)])) _
      refine XS.icmpNo X0.here hx rfl (hb hby d10_2) rfl (teq hc2).2 ?_
      show Steps p.tables e below (s₁.setTop (mkF m 5 #[.val (.ref a1), .val (.int p2), .val (.int p3)] [])) _
      refine XS.aloadN X0.here hx rfl (hb hby d10_5) rfl rfl ?_
      show Steps p.tables e below (s₁.setTop (mkF m 6 #[.val (.ref a1), .val (.int p2), .val (.int p3)] [(.ref a1)])) _
      refine XS.iloadN X0.here hx rfl (hb hby d10_6) rfl ?_
      exact kt
    refine own_go go2 ?_
    obtain ⟨T3, h3, X3, e3, W3, st3⟩ := putF X0 hx hZ hown (host := "") (Or.inl (hw _ (List.mem_of_getElem? (i := 15) rfl))) Via.refl e0 F_newest E (Or.inl (hw _ (List.mem_of_getElem? (i := 16) rfl))) (hw _ (List.mem_of_getElem? (i := 2) rfl)) (ty := .int) (by decide) rfl rfl (g := (mkF m 7 #[.val (.ref a1), .val (.int p2), .val (.int p3)] [(.int p3), (.ref a1)])) rfl rfl (hb hby d10_7)
    have F3_a1_links : Fld Z h3 a1 "com/example/loadgate/loadgate/NodeOrder" "links" "[I" (.ref b) := F_links.other W3 (Or.inr (slot_ne (Or.inl (hw _ (List.mem_of_getElem? (i := 12) rfl))) (Or.inl (hw _ (List.mem_of_getElem? (i := 16) rfl))) (by decide) (t := (.array .int)) (t' := .int) (by decide) (by decide)))
    have F3_a1_eldest : Fld Z h3 a1 "com/example/loadgate/loadgate/NodeOrder" "eldest" "I" (.int el) := F_eldest.other W3 (Or.inr (slot_ne (Or.inl (hw _ (List.mem_of_getElem? (i := 14) rfl))) (Or.inl (hw _ (List.mem_of_getElem? (i := 16) rfl))) (by decide) (t := .int) (t' := .int) (by decide) (by decide)))
    have F3_a1_newest : Fld Z h3 a1 "com/example/loadgate/loadgate/NodeOrder" "newest" "I" (.int p3) := F_newest.same W3
    have E3_a1 : Exa Z h3 a1 "com/example/loadgate/loadgate/NodeOrder" := E.wr W3
    have V3_b : Arv Z h3 b kb .int (8 : Int32) (vs.map Value.int) (.int (0 : Int32)) := VB.other W3 nb
    have N3 := Fr.snoc X3 N0 ga
    refine own_go (S' := T3.setTop (mkF m 10 #[.val (.ref a1), .val (.int p2), .val (.int p3)] [])) st3 ?_
    have go4 : ∀ t, Steps p.tables e below (T3.setTop (mkF m 22 #[.val (.ref a1), .val (.int p2), .val (.int p3)] [])) t → Steps p.tables e below (T3.setTop (mkF m 10 #[.val (.ref a1), .val (.int p2), .val (.int p3)] [])) t := by
      intro t kt
      show Steps p.tables e below (T3.setTop (mkF m 10 #[.val (.ref a1), .val (.int p2), .val (.int p3)] [])) _
      refine XS.goto X3.here hx rfl (pc0 := 10) (pc' := 22) rfl (hb hby d10_10) (by decide) (by decide) ?_
      exact kt
    refine own_go go4 ?_
    have z1 := (show own_aE p2 p3 nw = p3 from by first | (simp only [own_aE, hc2, not_true_eq_false, not_false_eq_true, and_true, true_and, and_false, false_and, or_true, true_or, or_false, false_or, and_self, or_self, eq_self, if_true, if_false]; done) | (simp [own_aE, hc2]; done))
    have z2 := (show own_bV p2 p3 vs = vs from by first | (simp only [own_bV, hc2, not_true_eq_false, not_false_eq_true, and_true, true_and, and_false, false_and, or_true, true_or, or_false, false_or, and_self, or_self, eq_self, if_true, if_false]; done) | (simp [own_bV, hc2]; done))
    obtain ⟨fs, hr, hrun, hended, hW, hsame⟩ := X3.leave (v := none) (fun _ => rfl)
    refine ⟨_, _, X3.returnOut hx Bd.returns (hb hby d10_22) hr, hrun, hended, _, _, rfl, ?_, ⟨_, rfl⟩, hW, hsame.mono (by decide) (by decide)⟩
    show QS Z a1 b kb el (own_aE p2 p3 nw) (own_bV p2 p3 vs) h0 n0 _ T3.heap _
    rw [e3]
    exact ⟨rfl, N3, E3_a1, F3_a1_links, F3_a1_eldest, (by rw [z1]; exact F3_a1_newest), (by rw [z2]; exact V3_b)⟩
  · have go5 : ∀ t, Steps p.tables e below (s₁.setTop (mkF m 14 #[.val (.ref a1), .val (.int p2), .val (.int p3)] [(.ref a1)])) t → Steps p.tables e below (s₁.setTop (mkF m 2 #[.val (.ref a1), .val (.int p2), .val (.int p3)] [(.int (-1 : Int32)), (.int p2)])) t := by
      intro t kt
      show Steps p.tables e below (s₁.setTop (mkF m 2 #[.val (.ref a1), .val (.int p2), .val (.int p3)] [(.int (-1 : Int32)), (.int p2)])) _
      refine XS.icmpYes X0.here hx rfl (pc0 := 2) (pc' := 13) rfl (hb hby d10_2) rfl (feq hc2).2 (by decide) (by decide) ?_
      show Steps p.tables e below (s₁.setTop (mkF m 13 #[.val (.ref a1), .val (.int p2), .val (.int p3)] [])) _
      refine XS.aloadN X0.here hx rfl (hb hby d10_13) rfl rfl ?_
      exact kt
    refine own_go go5 ?_
    obtain ⟨T6, X6, e6, st6⟩ := getF X0 hx hZ hown (host := "") (Or.inl (hw _ (List.mem_of_getElem? (i := 11) rfl))) Via.refl e0 F_links (g := (mkF m 14 #[.val (.ref a1), .val (.int p2), .val (.int p3)] [(.ref a1)])) rfl rfl (hb hby d10_14)
    refine own_go (S' := T6.setTop (mkF m 17 #[.val (.ref a1), .val (.int p2), .val (.int p3)] [(.ref b)])) st6 ?_
    have go7 : ∀ t, Steps p.tables e below (T6.setTop (mkF m 21 #[.val (.ref a1), .val (.int p2), .val (.int p3)] [(.int p3), (.int ((2 : Int32) * p2)), (.ref b)])) t → Steps p.tables e below (T6.setTop (mkF m 17 #[.val (.ref a1), .val (.int p2), .val (.int p3)] [(.ref b)])) t := by
      intro t kt
      show Steps p.tables e below (T6.setTop (mkF m 17 #[.val (.ref a1), .val (.int p2), .val (.int p3)] [(.ref b)])) _
      refine XS.iconst X6.here hx rfl (hb hby d10_17) ?_
      show Steps p.tables e below (T6.setTop (mkF m 18 #[.val (.ref a1), .val (.int p2), .val (.int p3)] [(.int (2 : Int32)), (.ref b)])) _
      refine XS.iloadN X6.here hx rfl (hb hby d10_18) rfl ?_
      show Steps p.tables e below (T6.setTop (mkF m 19 #[.val (.ref a1), .val (.int p2), .val (.int p3)] [(.int p2), (.int (2 : Int32)), (.ref b)])) _
      refine XS.imul X6.here hx rfl (hb hby d10_19) rfl ?_
      show Steps p.tables e below (T6.setTop (mkF m 20 #[.val (.ref a1), .val (.int p2), .val (.int p3)] [(.int ((2 : Int32) * p2)), (.ref b)])) _
      refine XS.iloadN X6.here hx rfl (hb hby d10_20) rfl ?_
      exact kt
    refine own_go go7 ?_
    have Vo8 := VB
    obtain ⟨cl8, Ar8, qk8, Sz8, Nz8, Hh8, Gf8⟩ := Vo8
    have hin8 : ¬ (((2 : Int32) * p2) < 0 ∨ cl8.slots.size ≤ (((2 : Int32) * p2)).toNatClampNeg) := inb_of Sz8 (own_e p2 (own_j1 p2 hj hc2))
    obtain ⟨T9, h9, X9, e9, W9, st9⟩ := stI X6 hx hZ e6 Ar8 (j := ((2 : Int32) * p2)) hin8 (g := (mkF m 21 #[.val (.ref a1), .val (.int p2), .val (.int p3)] [(.int p3), (.int ((2 : Int32) * p2)), (.ref b)])) rfl rfl (hb hby d10_21)
    have V9_b : Arv Z h9 b kb .int (8 : Int32) ((vs.set (((2 : Int32) * p2)).toNatClampNeg p3).map Value.int) (.int (0 : Int32)) := (by rw [List.map_set]; exact Arv.set Ar8 qk8 Sz8 Nz8 Hh8 Gf8 rfl W9 (((2 : Int32) * p2)).toNatClampNeg rfl (own_ln hl (own_e p2 (own_j1 p2 hj hc2))))
    have F9_a1_links : Fld Z h9 a1 "com/example/loadgate/loadgate/NodeOrder" "links" "[I" (.ref b) := F_links.other W9 (Or.inl (Ne.symm nb))
    have F9_a1_eldest : Fld Z h9 a1 "com/example/loadgate/loadgate/NodeOrder" "eldest" "I" (.int el) := F_eldest.other W9 (Or.inl (Ne.symm nb))
    have F9_a1_newest : Fld Z h9 a1 "com/example/loadgate/loadgate/NodeOrder" "newest" "I" (.int nw) := F_newest.other W9 (Or.inl (Ne.symm nb))
    have E9_a1 : Exa Z h9 a1 "com/example/loadgate/loadgate/NodeOrder" := E.wr W9
    have N9 := Fr.snoc X9 N0 gb
    refine own_go (S' := T9.setTop (mkF m 22 #[.val (.ref a1), .val (.int p2), .val (.int p3)] [])) st9 ?_
    have z1 := (show own_aE p2 p3 nw = nw from by first | (simp only [own_aE, hc2, not_true_eq_false, not_false_eq_true, and_true, true_and, and_false, false_and, or_true, true_or, or_false, false_or, and_self, or_self, eq_self, if_true, if_false]; done) | (simp [own_aE, hc2]; done))
    have z2 := (show own_bV p2 p3 vs = (vs.set (((2 : Int32) * p2)).toNatClampNeg p3) from by first | (simp only [own_bV, hc2, not_true_eq_false, not_false_eq_true, and_true, true_and, and_false, false_and, or_true, true_or, or_false, false_or, and_self, or_self, eq_self, if_true, if_false]; done) | (simp [own_bV, hc2]; done))
    obtain ⟨fs, hr, hrun, hended, hW, hsame⟩ := X9.leave (v := none) (fun _ => rfl)
    refine ⟨_, _, X9.returnOut hx Bd.returns (hb hby d10_22) hr, hrun, hended, _, _, rfl, ?_, ⟨_, rfl⟩, hW, hsame.mono (by decide) (by decide)⟩
    show QS Z a1 b kb el (own_aE p2 p3 nw) (own_bV p2 p3 vs) h0 n0 _ T9.heap _
    rw [e9]
    exact ⟨rfl, N9, E9_a1, F9_a1_links, F9_a1_eldest, (by rw [z1]; exact F9_a1_newest), (by rw [z2]; exact V9_b)⟩
theorem d8_0 : decode prog_34_method_2_code 0 = .ok (.aload_n 0, 1) := by decide +kernel
theorem d8_1 : decode prog_34_method_2_code 1 = .ok (.getfield 13, 3) := by decide +kernel
theorem d8_4 : decode prog_34_method_2_code 4 = .ok (.ireturn, 1) := by decide +kernel
theorem pn_8 : plainName "com/example/loadgate/loadgate/NodeOrder" = true := by first | (simp [plainName, overriddenIn]; done) | decide +kernel
theorem ef_8 (m : MethodId) (x0 : Addr) : entryFrame m #[(.ref x0)] 1 = mkF m 0 #[.val (.ref x0)] [] := by first | (simp [entryFrame, mkF, argsToLocals, Value.category]; done) | rfl
set_option maxRecDepth 65536 in
set_option maxHeartbeats 40000000 in
theorem rm8 (l : Launch) (Z : State) (a0 : Array Value) (hw : ∀ d ∈ tables_1, d.before a0 Z = true) (ws : List Jvm.Cond) (a1 : Addr) (b : Addr) (kb : ClassId) (el nw : Int32) (vs : List Int32) (h0 : Heap) (n0 : Nat) (Z0 : n0 ≤ h0.size) (HS : own_S Z h0 a1 b kb el nw vs) :
    MetFree l (⟨"com/example/loadgate/loadgate/NodeOrder", "eldest", "()I"⟩ : MethodName) (head1 (Jvm.Cond.code (⟨"com/example/loadgate/loadgate/NodeOrder", "eldest", "()I"⟩ : MethodName) prog_34_method_2_code 1 (some .int) :: ws) ({ frames := 0, cells := 0, slots := 0, locals := 0 } : Room)) (fun a U => a = #[(.ref a1)] ∧ Z.Warmed39 U.vm ∧ U.heap = h0) (fun _ _ _ _ _ => True) (fun _ U o U' => ∃ v L, o = .returned v ∧ Q5 Z el h0 n0 v U'.heap L ∧ FrameEnd U o U' L ({ frames := 0, cells := 0, slots := 0, locals := 0 } : Room).cells ({ frames := 0, cells := 0, slots := 0, locals := 0 } : Room).slots) := by
  refine MetFree.of_bodySF (plainFor_of_name pn_8) hisR ?_
  intro p e s m args below meth c s₁ Bd hml0 hP hK
  obtain ⟨rfl, hZ, hh⟩ := hP
  have hx := Bd.exec
  have hby := Bd.bytes
  have hml : c.maxLocals = 1 := hml0
  have hown : s.vm.findClass "com/example/loadgate/loadgate/NodeOrder" = some m.cls := findClass_of_methodNamed Bd.named
  have hnm := (name_of_methodNamed Bd.named Bd.method).1
  have X0 : Stand p l e ({ frames := 0, cells := 0, slots := 0, locals := 0 } : Room) s m #[(.ref a1)] below meth c s₁ [] 0 0 := Stand.of_body Bd
  have e0 : s₁.heap = h0 := by rw [← hh, Bd.state]; rfl
  have N0 := Fr.nil n0
  have pre0 : ∀ t, Steps p.tables e below (s₁.setTop (mkF m 0 #[.val (.ref a1)] [])) t → Steps p.tables e below (s₁.setTop (entryFrame m #[(.ref a1)] 1)) t := fun t k => castTop (ef_8 m a1) k
  refine own_go pre0 ?_
  have F_eldest := HS.2.2.1
  have go1 : ∀ t, Steps p.tables e below (s₁.setTop (mkF m 1 #[.val (.ref a1)] [(.ref a1)])) t → Steps p.tables e below (s₁.setTop (mkF m 0 #[.val (.ref a1)] [])) t := by
    intro t kt
    show Steps p.tables e below (s₁.setTop (mkF m 0 #[.val (.ref a1)] [])) _
    refine XS.aloadN X0.here hx rfl (hb hby d8_0) rfl rfl ?_
    exact kt
  refine own_go go1 ?_
  obtain ⟨T2, X2, e2, st2⟩ := getF X0 hx hZ hown (host := "") (Or.inl (hw _ (List.mem_of_getElem? (i := 13) rfl))) Via.refl e0 F_eldest (g := (mkF m 1 #[.val (.ref a1)] [(.ref a1)])) rfl rfl (hb hby d8_1)
  refine own_go (S' := T2.setTop (mkF m 4 #[.val (.ref a1)] [(.int el)])) st2 ?_
  obtain ⟨fs, hr, hrun, hended, hW, hsame⟩ := X2.leave (v := some (.int el)) (fun h => by rw [Bd.returns] at h; cases h)
  refine ⟨_, _, retOut X2 hx Bd.returns rfl (Or.inl ⟨rfl, Or.inl rfl, _, rfl⟩) (hb hby d8_4) hr, hrun, hended, _, _, rfl, ?_, ⟨_, rfl⟩, hW, hsame.mono (by decide) (by decide)⟩
  show Q5 Z el h0 n0 _ T2.heap _
  rw [e2]
  exact ⟨rfl, N0, rfl⟩
theorem d6_0 : decode prog_34_method_4_code 0 = .ok (.aload_n 0, 1) := by decide +kernel
theorem d6_1 : decode prog_34_method_4_code 1 = .ok (.getfield 7, 3) := by decide +kernel
theorem d6_4 : decode prog_34_method_4_code 4 = .ok (.iconst 2, 1) := by decide +kernel
theorem d6_5 : decode prog_34_method_4_code 5 = .ok (.iload_n 1, 1) := by decide +kernel
theorem d6_6 : decode prog_34_method_4_code 6 = .ok (.imul, 1) := by decide +kernel
theorem d6_7 : decode prog_34_method_4_code 7 = .ok (.aload_n 0, 1) := by decide +kernel
theorem d6_8 : decode prog_34_method_4_code 8 = .ok (.getfield 17, 3) := by decide +kernel
theorem d6_11 : decode prog_34_method_4_code 11 = .ok (.iastore, 1) := by decide +kernel
theorem d6_12 : decode prog_34_method_4_code 12 = .ok (.aload_n 0, 1) := by decide +kernel
theorem d6_13 : decode prog_34_method_4_code 13 = .ok (.getfield 7, 3) := by decide +kernel
theorem d6_16 : decode prog_34_method_4_code 16 = .ok (.iconst 2, 1) := by decide +kernel
theorem d6_17 : decode prog_34_method_4_code 17 = .ok (.iload_n 1, 1) := by decide +kernel
theorem d6_18 : decode prog_34_method_4_code 18 = .ok (.imul, 1) := by decide +kernel
theorem d6_19 : decode prog_34_method_4_code 19 = .ok (.iconst 1, 1) := by decide +kernel
theorem d6_20 : decode prog_34_method_4_code 20 = .ok (.iadd, 1) := by decide +kernel
theorem d6_21 : decode prog_34_method_4_code 21 = .ok (.iconst (-1), 1) := by decide +kernel
theorem d6_22 : decode prog_34_method_4_code 22 = .ok (.iastore, 1) := by decide +kernel
theorem d6_23 : decode prog_34_method_4_code 23 = .ok (.aload_n 0, 1) := by decide +kernel
theorem d6_24 : decode prog_34_method_4_code 24 = .ok (.aload_n 0, 1) := by decide +kernel
theorem d6_25 : decode prog_34_method_4_code 25 = .ok (.getfield 17, 3) := by decide +kernel
theorem d6_28 : decode prog_34_method_4_code 28 = .ok (.iload_n 1, 1) := by decide +kernel
theorem d6_29 : decode prog_34_method_4_code 29 = .ok (.invokevirtual 26, 3) := by decide +kernel
theorem d6_32 : decode prog_34_method_4_code 32 = .ok (.aload_n 0, 1) := by decide +kernel
theorem d6_33 : decode prog_34_method_4_code 33 = .ok (.iload_n 1, 1) := by decide +kernel
theorem d6_34 : decode prog_34_method_4_code 34 = .ok (.putfield 17, 3) := by decide +kernel
theorem d6_37 : decode prog_34_method_4_code 37 = .ok (.return_, 1) := by decide +kernel
theorem pn_6 : plainName "com/example/loadgate/loadgate/NodeOrder" = true := by first | (simp [plainName, overriddenIn]; done) | decide +kernel
theorem ef_6 (m : MethodId) (x0 : Addr) (x1 : Int32) : entryFrame m #[(.ref x0), (.int x1)] 2 = mkF m 0 #[.val (.ref x0), .val (.int x1)] [] := by first | (simp [entryFrame, mkF, argsToLocals, Value.category]; done) | rfl
set_option maxRecDepth 65536 in
set_option maxHeartbeats 40000000 in
theorem rm6 (l : Launch) (Z : State) (a0 : Array Value) (hw : ∀ d ∈ tables_1, d.before a0 Z = true) (ws : List Jvm.Cond) (a1 : Addr) (p2 : Int32) (b : Addr) (kb : ClassId) (el nw : Int32) (vs : List Int32) (h0 : Heap) (n0 : Nat) (Z0 : n0 ≤ h0.size) (HS : own_S Z h0 a1 b kb el nw vs) (hl : vs.length = 8) (ga : n0 ≤ a1) (gb : n0 ≤ b) (nb : b ≠ a1) (hi : own_jb p2 = true) (hj : own_jn nw = true) :
    MetFree l (⟨"com/example/loadgate/loadgate/NodeOrder", "append", "(I)V"⟩ : MethodName) (head1 (Jvm.Cond.code (⟨"com/example/loadgate/loadgate/NodeOrder", "append", "(I)V"⟩ : MethodName) prog_34_method_4_code 2 none :: ws) ({ frames := 1, cells := 0, slots := 0, locals := 14 } : Room)) (fun a U => a = #[(.ref a1), (.int p2)] ∧ Z.Warmed39 U.vm ∧ U.heap = h0) (fun _ _ _ _ _ => True) (fun _ U o U' => ∃ v L, o = .returned v ∧ QS Z a1 b kb (own_aE nw p2 el) p2 (own_aV nw p2 (own_pre nw p2 vs)) h0 n0 v U'.heap L ∧ FrameEnd U o U' L ({ frames := 1, cells := 0, slots := 0, locals := 14 } : Room).cells ({ frames := 1, cells := 0, slots := 0, locals := 14 } : Room).slots) := by
  refine MetFree.of_bodySF (plainFor_of_name pn_6) hisR ?_
  intro p e s m args below meth c s₁ Bd hml0 hP hK
  obtain ⟨rfl, hZ, hh⟩ := hP
  have hx := Bd.exec
  have hby := Bd.bytes
  have hml : c.maxLocals = 2 := hml0
  have hown : s.vm.findClass "com/example/loadgate/loadgate/NodeOrder" = some m.cls := findClass_of_methodNamed Bd.named
  have hnm := (name_of_methodNamed Bd.named Bd.method).1
  have X0 : Stand p l e ({ frames := 1, cells := 0, slots := 0, locals := 14 } : Room) s m #[(.ref a1), (.int p2)] below meth c s₁ [] 0 0 := Stand.of_body Bd
  have e0 : s₁.heap = h0 := by rw [← hh, Bd.state]; rfl
  have N0 := Fr.nil n0
  have pre0 : ∀ t, Steps p.tables e below (s₁.setTop (mkF m 0 #[.val (.ref a1), .val (.int p2)] [])) t → Steps p.tables e below (s₁.setTop (entryFrame m #[(.ref a1), (.int p2)] 2)) t := fun t k => castTop (ef_6 m a1 p2) k
  refine own_go pre0 ?_
  obtain ⟨E, F_links, F_eldest, F_newest, VB⟩ := HS
  have go1 : ∀ t, Steps p.tables e below (s₁.setTop (mkF m 1 #[.val (.ref a1), .val (.int p2)] [(.ref a1)])) t → Steps p.tables e below (s₁.setTop (mkF m 0 #[.val (.ref a1), .val (.int p2)] [])) t := by
    intro t kt
    show Steps p.tables e below (s₁.setTop (mkF m 0 #[.val (.ref a1), .val (.int p2)] [])) _
    refine XS.aloadN X0.here hx rfl (hb hby d6_0) rfl rfl ?_
    exact kt
  refine own_go go1 ?_
  obtain ⟨T2, X2, e2, st2⟩ := getF X0 hx hZ hown (host := "") (Or.inl (hw _ (List.mem_of_getElem? (i := 11) rfl))) Via.refl e0 F_links (g := (mkF m 1 #[.val (.ref a1), .val (.int p2)] [(.ref a1)])) rfl rfl (hb hby d6_1)
  refine own_go (S' := T2.setTop (mkF m 4 #[.val (.ref a1), .val (.int p2)] [(.ref b)])) st2 ?_
  have go3 : ∀ t, Steps p.tables e below (T2.setTop (mkF m 8 #[.val (.ref a1), .val (.int p2)] [(.ref a1), (.int ((2 : Int32) * p2)), (.ref b)])) t → Steps p.tables e below (T2.setTop (mkF m 4 #[.val (.ref a1), .val (.int p2)] [(.ref b)])) t := by
    intro t kt
    show Steps p.tables e below (T2.setTop (mkF m 4 #[.val (.ref a1), .val (.int p2)] [(.ref b)])) _
    refine XS.iconst X2.here hx rfl (hb hby d6_4) ?_
    show Steps p.tables e below (T2.setTop (mkF m 5 #[.val (.ref a1), .val (.int p2)] [(.int (2 : Int32)), (.ref b)])) _
    refine XS.iloadN X2.here hx rfl (hb hby d6_5) rfl ?_
    show Steps p.tables e below (T2.setTop (mkF m 6 #[.val (.ref a1), .val (.int p2)] [(.int p2), (.int (2 : Int32)), (.ref b)])) _
    refine XS.imul X2.here hx rfl (hb hby d6_6) rfl ?_
    show Steps p.tables e below (T2.setTop (mkF m 7 #[.val (.ref a1), .val (.int p2)] [(.int ((2 : Int32) * p2)), (.ref b)])) _
    refine XS.aloadN X2.here hx rfl (hb hby d6_7) rfl rfl ?_
    exact kt
  refine own_go go3 ?_
  obtain ⟨T4, X4, e4, st4⟩ := getF X2 hx hZ hown (host := "") (Or.inl (hw _ (List.mem_of_getElem? (i := 15) rfl))) Via.refl e2 F_newest (g := (mkF m 8 #[.val (.ref a1), .val (.int p2)] [(.ref a1), (.int ((2 : Int32) * p2)), (.ref b)])) rfl rfl (hb hby d6_8)
  refine own_go (S' := T4.setTop (mkF m 11 #[.val (.ref a1), .val (.int p2)] [(.int nw), (.int ((2 : Int32) * p2)), (.ref b)])) st4 ?_
  have Vo5 := VB
  obtain ⟨cl5, Ar5, qk5, Sz5, Nz5, Hh5, Gf5⟩ := Vo5
  have hin5 : ¬ (((2 : Int32) * p2) < 0 ∨ cl5.slots.size ≤ (((2 : Int32) * p2)).toNatClampNeg) := inb_of Sz5 (own_e p2 hi)
  obtain ⟨T6, h6, X6, e6, W6, st6⟩ := stI X4 hx hZ e4 Ar5 (j := ((2 : Int32) * p2)) hin5 (g := (mkF m 11 #[.val (.ref a1), .val (.int p2)] [(.int nw), (.int ((2 : Int32) * p2)), (.ref b)])) rfl rfl (hb hby d6_11)
  have V6_b : Arv Z h6 b kb .int (8 : Int32) ((vs.set (((2 : Int32) * p2)).toNatClampNeg nw).map Value.int) (.int (0 : Int32)) := (by rw [List.map_set]; exact Arv.set Ar5 qk5 Sz5 Nz5 Hh5 Gf5 rfl W6 (((2 : Int32) * p2)).toNatClampNeg rfl (own_ln hl (own_e p2 hi)))
  have F6_a1_links : Fld Z h6 a1 "com/example/loadgate/loadgate/NodeOrder" "links" "[I" (.ref b) := F_links.other W6 (Or.inl (Ne.symm nb))
  have F6_a1_eldest : Fld Z h6 a1 "com/example/loadgate/loadgate/NodeOrder" "eldest" "I" (.int el) := F_eldest.other W6 (Or.inl (Ne.symm nb))
  have F6_a1_newest : Fld Z h6 a1 "com/example/loadgate/loadgate/NodeOrder" "newest" "I" (.int nw) := F_newest.other W6 (Or.inl (Ne.symm nb))
  have E6_a1 : Exa Z h6 a1 "com/example/loadgate/loadgate/NodeOrder" := E.wr W6
  have N6 := Fr.snoc X6 N0 gb
  refine own_go (S' := T6.setTop (mkF m 12 #[.val (.ref a1), .val (.int p2)] [])) st6 ?_
  have go7 : ∀ t, Steps p.tables e below (T6.setTop (mkF m 13 #[.val (.ref a1), .val (.int p2)] [(.ref a1)])) t → Steps p.tables e below (T6.setTop (mkF m 12 #[.val (.ref a1), .val (.int p2)] [])) t := by
    intro t kt
    show Steps p.tables e below (T6.setTop (mkF m 12 #[.val (.ref a1), .val (.int p2)] [])) _
    refine XS.aloadN X6.here hx rfl (hb hby d6_12) rfl rfl ?_
    exact kt
  refine own_go go7 ?_
  obtain ⟨T8, X8, e8, st8⟩ := getF X6 hx hZ hown (host := "") (Or.inl (hw _ (List.mem_of_getElem? (i := 11) rfl))) Via.refl e6 F6_a1_links (g := (mkF m 13 #[.val (.ref a1), .val (.int p2)] [(.ref a1)])) rfl rfl (hb hby d6_13)
  refine own_go (S' := T8.setTop (mkF m 16 #[.val (.ref a1), .val (.int p2)] [(.ref b)])) st8 ?_
  have go9 : ∀ t, Steps p.tables e below (T8.setTop (mkF m 22 #[.val (.ref a1), .val (.int p2)] [(.int (-1 : Int32)), (.int (((2 : Int32) * p2) + (1 : Int32))), (.ref b)])) t → Steps p.tables e below (T8.setTop (mkF m 16 #[.val (.ref a1), .val (.int p2)] [(.ref b)])) t := by
    intro t kt
    show Steps p.tables e below (T8.setTop (mkF m 16 #[.val (.ref a1), .val (.int p2)] [(.ref b)])) _
    refine XS.iconst X8.here hx rfl (hb hby d6_16) ?_
    show Steps p.tables e below (T8.setTop (mkF m 17 #[.val (.ref a1), .val (.int p2)] [(.int (2 : Int32)), (.ref b)])) _
    refine XS.iloadN X8.here hx rfl (hb hby d6_17) rfl ?_
    show Steps p.tables e below (T8.setTop (mkF m 18 #[.val (.ref a1), .val (.int p2)] [(.int p2), (.int (2 : Int32)), (.ref b)])) _
    refine XS.imul X8.here hx rfl (hb hby d6_18) rfl ?_
    show Steps p.tables e below (T8.setTop (mkF m 19 #[.val (.ref a1), .val (.int p2)] [(.int ((2 : Int32) * p2)), (.ref b)])) _
    refine XS.iconst X8.here hx rfl (hb hby d6_19) ?_
    show Steps p.tables e below (T8.setTop (mkF m 20 #[.val (.ref a1), .val (.int p2)] [(.int (1 : Int32)), (.int ((2 : Int32) * p2)), (.ref b)])) _
    refine XS.iadd X8.here hx rfl (hb hby d6_20) rfl ?_
    show Steps p.tables e below (T8.setTop (mkF m 21 #[.val (.ref a1), .val (.int p2)] [(.int (((2 : Int32) * p2) + (1 : Int32))), (.ref b)])) _
    refine XS.iconst X8.here hx rfl (hb hby d6_21) ?_
    exact kt
  refine own_go go9 ?_
  have Vo10 := V6_b
  obtain ⟨cl10, Ar10, qk10, Sz10, Nz10, Hh10, Gf10⟩ := Vo10
  have hin10 : ¬ ((((2 : Int32) * p2) + (1 : Int32)) < 0 ∨ cl10.slots.size ≤ ((((2 : Int32) * p2) + (1 : Int32))).toNatClampNeg) := inb_of Sz10 (own_o p2 hi)
  obtain ⟨T11, h11, X11, e11, W11, st11⟩ := stI X8 hx hZ e8 Ar10 (j := (((2 : Int32) * p2) + (1 : Int32))) hin10 (g := (mkF m 22 #[.val (.ref a1), .val (.int p2)] [(.int (-1 : Int32)), (.int (((2 : Int32) * p2) + (1 : Int32))), (.ref b)])) rfl rfl (hb hby d6_22)
  have V11_b : Arv Z h11 b kb .int (8 : Int32) (((vs.set (((2 : Int32) * p2)).toNatClampNeg nw).set ((((2 : Int32) * p2) + (1 : Int32))).toNatClampNeg (-1 : Int32)).map Value.int) (.int (0 : Int32)) := (by rw [List.map_set]; exact Arv.set Ar10 qk10 Sz10 Nz10 Hh10 Gf10 rfl W11 ((((2 : Int32) * p2) + (1 : Int32))).toNatClampNeg rfl (own_ln (by rw [List.length_set]; exact hl) (own_o p2 hi)))
  have F11_a1_links : Fld Z h11 a1 "com/example/loadgate/loadgate/NodeOrder" "links" "[I" (.ref b) := F6_a1_links.other W11 (Or.inl (Ne.symm nb))
  have F11_a1_eldest : Fld Z h11 a1 "com/example/loadgate/loadgate/NodeOrder" "eldest" "I" (.int el) := F6_a1_eldest.other W11 (Or.inl (Ne.symm nb))
  have F11_a1_newest : Fld Z h11 a1 "com/example/loadgate/loadgate/NodeOrder" "newest" "I" (.int nw) := F6_a1_newest.other W11 (Or.inl (Ne.symm nb))
  have E11_a1 : Exa Z h11 a1 "com/example/loadgate/loadgate/NodeOrder" := E6_a1.wr W11
  have N11 := Fr.snoc X11 N6 gb
  refine own_go (S' := T11.setTop (mkF m 23 #[.val (.ref a1), .val (.int p2)] [])) st11 ?_
  have go12 : ∀ t, Steps p.tables e below (T11.setTop (mkF m 25 #[.val (.ref a1), .val (.int p2)] [(.ref a1), (.ref a1)])) t → Steps p.tables e below (T11.setTop (mkF m 23 #[.val (.ref a1), .val (.int p2)] [])) t := by
    intro t kt
    show Steps p.tables e below (T11.setTop (mkF m 23 #[.val (.ref a1), .val (.int p2)] [])) _
    refine XS.aloadN X11.here hx rfl (hb hby d6_23) rfl rfl ?_
    show Steps p.tables e below (T11.setTop (mkF m 24 #[.val (.ref a1), .val (.int p2)] [(.ref a1)])) _
    refine XS.aloadN X11.here hx rfl (hb hby d6_24) rfl rfl ?_
    exact kt
  refine own_go go12 ?_
  obtain ⟨T13, X13, e13, st13⟩ := getF X11 hx hZ hown (host := "") (Or.inl (hw _ (List.mem_of_getElem? (i := 15) rfl))) Via.refl e11 F11_a1_newest (g := (mkF m 25 #[.val (.ref a1), .val (.int p2)] [(.ref a1), (.ref a1)])) rfl rfl (hb hby d6_25)
  refine own_go (S' := T13.setTop (mkF m 28 #[.val (.ref a1), .val (.int p2)] [(.int nw), (.ref a1)])) st13 ?_
  have go14 : ∀ t, Steps p.tables e below (T13.setTop (mkF m 29 #[.val (.ref a1), .val (.int p2)] [(.int p2), (.int nw), (.ref a1)])) t → Steps p.tables e below (T13.setTop (mkF m 28 #[.val (.ref a1), .val (.int p2)] [(.int nw), (.ref a1)])) t := by
    intro t kt
    show Steps p.tables e below (T13.setTop (mkF m 28 #[.val (.ref a1), .val (.int p2)] [(.int nw), (.ref a1)])) _
    refine XS.iloadN X13.here hx rfl (hb hby d6_28) rfl ?_
    exact kt
  refine own_go go14 ?_
  have HA : own_S Z h11 a1 b kb el nw ((vs.set (((2 : Int32) * p2)).toNatClampNeg nw).set ((((2 : Int32) * p2) + (1 : Int32))).toNatClampNeg (-1 : Int32)) := ⟨E11_a1, F11_a1_links, F11_a1_eldest, F11_a1_newest, V11_b⟩
  obtain ⟨cq15, q15, q15'⟩ := E11_a1.cell
  obtain ⟨_, _, ⟨T15, L15, k15, n15⟩, -, X15, ⟨Lc15, hQ15, l15, y15, z15⟩, st15⟩ := X13.privateBack hx (y := (⟨"com/example/loadgate/loadgate/NodeOrder", "setAfter", "(II)V"⟩ : MethodName)) hown (mvT hZ (hw _ (List.mem_of_getElem? (i := 39) rfl))) (mvT hZ (hw _ (List.mem_of_getElem? (i := 40) rfl))) (own_psel hZ (hw _ (List.mem_of_getElem? (i := 2) rfl)) (hw _ (List.mem_of_getElem? (i := 41) rfl)) (hw _ (List.mem_of_getElem? (i := 40) rfl)) (by decide)) (Cond.privateMethod_at (mvP hZ (hw _ (List.mem_of_getElem? (i := 41) rfl)) (args := #[]))) (mvT hZ (hw _ (List.mem_of_getElem? (i := 42) rfl))) (by decide) (backOf (W := 0) (rm7 l Z a0 hw [] a1 nw p2 b kb el nw ((vs.set (((2 : Int32) * p2)).toNatClampNeg nw).set ((((2 : Int32) * p2) + (1 : Int32))).toNatClampNeg (-1 : Int32)) h11 n0 (own_szH ga E11_a1) HA (by rw [List.length_set, List.length_set]; exact hl) ga gb nb hj) hZ (hw _ (List.mem_of_getElem? (i := 42) rfl)) (hw _ (List.mem_of_getElem? (i := 3) rfl)) (by decide) (by decide)) (g := (mkF m 29 #[.val (.ref a1), .val (.int p2)] [(.int p2), (.int nw), (.ref a1)])) rfl (by rw [hml]; rfl) (Steps.refl _) (a := a1) (by rw [e13]; exact q15) q15' (argsL := [(.int nw), (.int p2)]) (rest := []) (lenOf pd_2 rfl) rfl (by show 2 * 0 + _ ≤ _; exact Nat.le_of_eq rfl) (hb hby d6_29) (fun _ _ => ⟨rfl, e13, (by decide : 0 + 0 ≤ _), (by decide : 0 + 0 ≤ _)⟩)
  dsimp only [Pt.U, Pt.locs, Pt.cells, Pt.slots] at X15 l15 y15 z15 st15 hQ15
  subst l15 y15 z15
  obtain ⟨rfl, N15q, HB⟩ := hQ15
  have N15 := Fr.app N11 N15q
  refine own_go (S' := T15.setTop (mkF m 32 #[.val (.ref a1), .val (.int p2)] [])) (fun t k => st15.trans k) ?_
  obtain ⟨E_b, F_links_b, F_eldest_b, F_newest_b, VB_b⟩ := HB
  have go16 : ∀ t, Steps p.tables e below (T15.setTop (mkF m 34 #[.val (.ref a1), .val (.int p2)] [(.int p2), (.ref a1)])) t → Steps p.tables e below (T15.setTop (mkF m 32 #[.val (.ref a1), .val (.int p2)] [])) t := by
    intro t kt
    show Steps p.tables e below (T15.setTop (mkF m 32 #[.val (.ref a1), .val (.int p2)] [])) _
    refine XS.aloadN X15.here hx rfl (hb hby d6_32) rfl rfl ?_
    show Steps p.tables e below (T15.setTop (mkF m 33 #[.val (.ref a1), .val (.int p2)] [(.ref a1)])) _
    refine XS.iloadN X15.here hx rfl (hb hby d6_33) rfl ?_
    exact kt
  refine own_go go16 ?_
  obtain ⟨T17, h17, X17, e17, W17, st17⟩ := putF X15 hx hZ hown (host := "") (Or.inl (hw _ (List.mem_of_getElem? (i := 15) rfl))) Via.refl rfl F_newest_b E_b (Or.inl (hw _ (List.mem_of_getElem? (i := 16) rfl))) (hw _ (List.mem_of_getElem? (i := 2) rfl)) (ty := .int) (by decide) rfl rfl (g := (mkF m 34 #[.val (.ref a1), .val (.int p2)] [(.int p2), (.ref a1)])) rfl rfl (hb hby d6_34)
  have F17_a1_links : Fld Z h17 a1 "com/example/loadgate/loadgate/NodeOrder" "links" "[I" (.ref b) := F_links_b.other W17 (Or.inr (slot_ne (Or.inl (hw _ (List.mem_of_getElem? (i := 12) rfl))) (Or.inl (hw _ (List.mem_of_getElem? (i := 16) rfl))) (by decide) (t := (.array .int)) (t' := .int) (by decide) (by decide)))
  have F17_a1_eldest : Fld Z h17 a1 "com/example/loadgate/loadgate/NodeOrder" "eldest" "I" (.int (own_aE nw p2 el)) := F_eldest_b.other W17 (Or.inr (slot_ne (Or.inl (hw _ (List.mem_of_getElem? (i := 14) rfl))) (Or.inl (hw _ (List.mem_of_getElem? (i := 16) rfl))) (by decide) (t := .int) (t' := .int) (by decide) (by decide)))
  have F17_a1_newest : Fld Z h17 a1 "com/example/loadgate/loadgate/NodeOrder" "newest" "I" (.int p2) := F_newest_b.same W17
  have E17_a1 : Exa Z h17 a1 "com/example/loadgate/loadgate/NodeOrder" := E_b.wr W17
  have V17_b : Arv Z h17 b kb .int (8 : Int32) ((own_aV nw p2 ((vs.set (((2 : Int32) * p2)).toNatClampNeg nw).set ((((2 : Int32) * p2) + (1 : Int32))).toNatClampNeg (-1 : Int32))).map Value.int) (.int (0 : Int32)) := VB_b.other W17 nb
  have N17 := Fr.snoc X17 N15 ga
  refine own_go (S' := T17.setTop (mkF m 37 #[.val (.ref a1), .val (.int p2)] [])) st17 ?_
  obtain ⟨fs, hr, hrun, hended, hW, hsame⟩ := X17.leave (v := none) (fun _ => rfl)
  refine ⟨_, _, X17.returnOut hx Bd.returns (hb hby d6_37) hr, hrun, hended, _, _, rfl, ?_, ⟨_, rfl⟩, hW, hsame.mono (by decide) (by decide)⟩
  show QS Z a1 b kb (own_aE nw p2 el) p2 (own_aV nw p2 (own_pre nw p2 vs)) h0 n0 _ T17.heap _
  rw [e17]
  exact ⟨rfl, N17, ⟨E17_a1, F17_a1_links, F17_a1_eldest, F17_a1_newest, V17_b⟩⟩
theorem d9_0 : decode prog_34_method_5_code 0 = .ok (.aload_n 0, 1) := by decide +kernel
theorem d9_1 : decode prog_34_method_5_code 1 = .ok (.getfield 7, 3) := by decide +kernel
theorem d9_4 : decode prog_34_method_5_code 4 = .ok (.iconst 2, 1) := by decide +kernel
theorem d9_5 : decode prog_34_method_5_code 5 = .ok (.iload_n 1, 1) := by decide +kernel
theorem d9_6 : decode prog_34_method_5_code 6 = .ok (.imul, 1) := by decide +kernel
theorem d9_7 : decode prog_34_method_5_code 7 = .ok (.iaload, 1) := by decide +kernel
theorem d9_8 : decode prog_34_method_5_code 8 = .ok (.istore_n 2, 1) := by decide +kernel
theorem d9_9 : decode prog_34_method_5_code 9 = .ok (.aload_n 0, 1) := by decide +kernel
theorem d9_10 : decode prog_34_method_5_code 10 = .ok (.getfield 7, 3) := by decide +kernel
theorem d9_13 : decode prog_34_method_5_code 13 = .ok (.iconst 2, 1) := by decide +kernel
theorem d9_14 : decode prog_34_method_5_code 14 = .ok (.iload_n 1, 1) := by decide +kernel
theorem d9_15 : decode prog_34_method_5_code 15 = .ok (.imul, 1) := by decide +kernel
theorem d9_16 : decode prog_34_method_5_code 16 = .ok (.iconst 1, 1) := by decide +kernel
theorem d9_17 : decode prog_34_method_5_code 17 = .ok (.iadd, 1) := by decide +kernel
theorem d9_18 : decode prog_34_method_5_code 18 = .ok (.iaload, 1) := by decide +kernel
theorem d9_19 : decode prog_34_method_5_code 19 = .ok (.istore_n 3, 1) := by decide +kernel
theorem d9_20 : decode prog_34_method_5_code 20 = .ok (.aload_n 0, 1) := by decide +kernel
theorem d9_21 : decode prog_34_method_5_code 21 = .ok (.iload_n 2, 1) := by decide +kernel
theorem d9_22 : decode prog_34_method_5_code 22 = .ok (.iload_n 3, 1) := by decide +kernel
theorem d9_23 : decode prog_34_method_5_code 23 = .ok (.invokevirtual 26, 3) := by decide +kernel
theorem d9_26 : decode prog_34_method_5_code 26 = .ok (.aload_n 0, 1) := by decide +kernel
theorem d9_27 : decode prog_34_method_5_code 27 = .ok (.iload_n 3, 1) := by decide +kernel
theorem d9_28 : decode prog_34_method_5_code 28 = .ok (.iload_n 2, 1) := by decide +kernel
theorem d9_29 : decode prog_34_method_5_code 29 = .ok (.invokevirtual 30, 3) := by decide +kernel
theorem d9_32 : decode prog_34_method_5_code 32 = .ok (.return_, 1) := by decide +kernel
theorem pn_9 : plainName "com/example/loadgate/loadgate/NodeOrder" = true := by first | (simp [plainName, overriddenIn]; done) | decide +kernel
theorem ef_9 (m : MethodId) (x0 : Addr) (x1 : Int32) : entryFrame m #[(.ref x0), (.int x1)] 4 = mkF m 0 #[.val (.ref x0), .val (.int x1), .unset, .unset] [] := by first | (simp [entryFrame, mkF, argsToLocals, Value.category]; done) | rfl
set_option maxRecDepth 65536 in
set_option maxHeartbeats 40000000 in
theorem rm9 (l : Launch) (Z : State) (a0 : Array Value) (hw : ∀ d ∈ tables_1, d.before a0 Z = true) (ws : List Jvm.Cond) (a1 : Addr) (p2 : Int32) (b : Addr) (kb : ClassId) (el nw : Int32) (vs : List Int32) (h0 : Heap) (n0 : Nat) (Z0 : n0 ≤ h0.size) (HS : own_S Z h0 a1 b kb el nw vs) (hl : vs.length = 8) (ga : n0 ≤ a1) (gb : n0 ≤ b) (nb : b ≠ a1) (hi : own_jb p2 = true) (hX : own_jn (vs.getD (((2 : Int32) * p2)).toNatClampNeg 0) = true) (hY : own_jn (vs.getD ((((2 : Int32) * p2) + (1 : Int32))).toNatClampNeg 0) = true) :
    MetFree l (⟨"com/example/loadgate/loadgate/NodeOrder", "unlink", "(I)V"⟩ : MethodName) (head1 (Jvm.Cond.code (⟨"com/example/loadgate/loadgate/NodeOrder", "unlink", "(I)V"⟩ : MethodName) prog_34_method_5_code 4 none :: ws) ({ frames := 1, cells := 0, slots := 0, locals := 14 } : Room)) (fun a U => a = #[(.ref a1), (.int p2)] ∧ Z.Warmed39 U.vm ∧ U.heap = h0) (fun _ _ _ _ _ => True) (fun _ U o U' => ∃ v L, o = .returned v ∧ QS Z a1 b kb (own_aE (vs.getD (((2 : Int32) * p2)).toNatClampNeg 0) (vs.getD ((((2 : Int32) * p2) + (1 : Int32))).toNatClampNeg 0) el) (own_aE (vs.getD ((((2 : Int32) * p2) + (1 : Int32))).toNatClampNeg 0) (vs.getD (((2 : Int32) * p2)).toNatClampNeg 0) nw) (own_bV (vs.getD ((((2 : Int32) * p2) + (1 : Int32))).toNatClampNeg 0) (vs.getD (((2 : Int32) * p2)).toNatClampNeg 0) (own_aV (vs.getD (((2 : Int32) * p2)).toNatClampNeg 0) (vs.getD ((((2 : Int32) * p2) + (1 : Int32))).toNatClampNeg 0) vs)) h0 n0 v U'.heap L ∧ FrameEnd U o U' L ({ frames := 1, cells := 0, slots := 0, locals := 14 } : Room).cells ({ frames := 1, cells := 0, slots := 0, locals := 14 } : Room).slots) := by
  refine MetFree.of_bodySF (plainFor_of_name pn_9) hisR ?_
  intro p e s m args below meth c s₁ Bd hml0 hP hK
  obtain ⟨rfl, hZ, hh⟩ := hP
  have hx := Bd.exec
  have hby := Bd.bytes
  have hml : c.maxLocals = 4 := hml0
  have hown : s.vm.findClass "com/example/loadgate/loadgate/NodeOrder" = some m.cls := findClass_of_methodNamed Bd.named
  have hnm := (name_of_methodNamed Bd.named Bd.method).1
  have X0 : Stand p l e ({ frames := 1, cells := 0, slots := 0, locals := 14 } : Room) s m #[(.ref a1), (.int p2)] below meth c s₁ [] 0 0 := Stand.of_body Bd
  have e0 : s₁.heap = h0 := by rw [← hh, Bd.state]; rfl
  have N0 := Fr.nil n0
  have pre0 : ∀ t, Steps p.tables e below (s₁.setTop (mkF m 0 #[.val (.ref a1), .val (.int p2), .unset, .unset] [])) t → Steps p.tables e below (s₁.setTop (entryFrame m #[(.ref a1), (.int p2)] 4)) t := fun t k => castTop (ef_9 m a1 p2) k
  refine own_go pre0 ?_
  have HS0 := HS
  obtain ⟨E, F_links, F_eldest, F_newest, VB⟩ := HS
  have go1 : ∀ t, Steps p.tables e below (s₁.setTop (mkF m 1 #[.val (.ref a1), .val (.int p2), .unset, .unset] [(.ref a1)])) t → Steps p.tables e below (s₁.setTop (mkF m 0 #[.val (.ref a1), .val (.int p2), .unset, .unset] [])) t := by
    intro t kt
    show Steps p.tables e below (s₁.setTop (mkF m 0 #[.val (.ref a1), .val (.int p2), .unset, .unset] [])) _
    refine XS.aloadN X0.here hx rfl (hb hby d9_0) rfl rfl ?_
    exact kt
  refine own_go go1 ?_
  obtain ⟨T2, X2, e2, st2⟩ := getF X0 hx hZ hown (host := "") (Or.inl (hw _ (List.mem_of_getElem? (i := 11) rfl))) Via.refl e0 F_links (g := (mkF m 1 #[.val (.ref a1), .val (.int p2), .unset, .unset] [(.ref a1)])) rfl rfl (hb hby d9_1)
  refine own_go (S' := T2.setTop (mkF m 4 #[.val (.ref a1), .val (.int p2), .unset, .unset] [(.ref b)])) st2 ?_
  have go3 : ∀ t, Steps p.tables e below (T2.setTop (mkF m 7 #[.val (.ref a1), .val (.int p2), .unset, .unset] [(.int ((2 : Int32) * p2)), (.ref b)])) t → Steps p.tables e below (T2.setTop (mkF m 4 #[.val (.ref a1), .val (.int p2), .unset, .unset] [(.ref b)])) t := by
    intro t kt
    show Steps p.tables e below (T2.setTop (mkF m 4 #[.val (.ref a1), .val (.int p2), .unset, .unset] [(.ref b)])) _
    refine XS.iconst X2.here hx rfl (hb hby d9_4) ?_
    show Steps p.tables e below (T2.setTop (mkF m 5 #[.val (.ref a1), .val (.int p2), .unset, .unset] [(.int (2 : Int32)), (.ref b)])) _
    refine XS.iloadN X2.here hx rfl (hb hby d9_5) rfl ?_
    show Steps p.tables e below (T2.setTop (mkF m 6 #[.val (.ref a1), .val (.int p2), .unset, .unset] [(.int p2), (.int (2 : Int32)), (.ref b)])) _
    refine XS.imul X2.here hx rfl (hb hby d9_6) rfl ?_
    exact kt
  refine own_go go3 ?_
  have Vo4 := VB
  obtain ⟨cl4, Ar4, qk4, Sz4, Nz4, Hh4, Gf4⟩ := Vo4
  have hin4 : ¬ (((2 : Int32) * p2) < 0 ∨ cl4.slots.size ≤ (((2 : Int32) * p2)).toNatClampNeg) := inb_of Sz4 (own_e p2 hi)
  have hat4 : cl4.slots[(((2 : Int32) * p2)).toNatClampNeg]? = some (.int (vs.getD (((2 : Int32) * p2)).toNatClampNeg 0)) := Has.at Hh4 hin4 (own_gd vs _)
  have go5 : ∀ t, Steps p.tables e below (T2.setTop (mkF m 8 #[.val (.ref a1), .val (.int p2), .unset, .unset] [(.int (vs.getD (((2 : Int32) * p2)).toNatClampNeg 0))])) t → Steps p.tables e below (T2.setTop (mkF m 7 #[.val (.ref a1), .val (.int p2), .unset, .unset] [(.int ((2 : Int32) * p2)), (.ref b)])) t := fun t kt => X2.iaload hx (j := ((2 : Int32) * p2)) (v := (.int (vs.getD (((2 : Int32) * p2)).toNatClampNeg 0))) (by rw [e2]; exact Ar4.1) (State.isArrayOf_alike hZ.alike Ar4.2.1) Ar4.2.2 hin4 hat4 (g := (mkF m 7 #[.val (.ref a1), .val (.int p2), .unset, .unset] [(.int ((2 : Int32) * p2)), (.ref b)])) rfl rfl (hb hby d9_7) _ kt
  refine own_go go5 ?_
  have go6 : ∀ t, Steps p.tables e below (T2.setTop (mkF m 10 #[.val (.ref a1), .val (.int p2), .val (.int (vs.getD (((2 : Int32) * p2)).toNatClampNeg 0)), .unset] [(.ref a1)])) t → Steps p.tables e below (T2.setTop (mkF m 8 #[.val (.ref a1), .val (.int p2), .unset, .unset] [(.int (vs.getD (((2 : Int32) * p2)).toNatClampNeg 0))])) t := by
    intro t kt
    show Steps p.tables e below (T2.setTop (mkF m 8 #[.val (.ref a1), .val (.int p2), .unset, .unset] [(.int (vs.getD (((2 : Int32) * p2)).toNatClampNeg 0))])) _
    refine XS.istoreN X2.here hx rfl (hb hby d9_8) rfl (l' := #[.val (.ref a1), .val (.int p2), .val (.int (vs.getD (((2 : Int32) * p2)).toNatClampNeg 0)), .unset]) rfl ?_
    show Steps p.tables e below (T2.setTop (mkF m 9 #[.val (.ref a1), .val (.int p2), .val (.int (vs.getD (((2 : Int32) * p2)).toNatClampNeg 0)), .unset] [])) _
    refine XS.aloadN X2.here hx rfl (hb hby d9_9) rfl rfl ?_
    exact kt
  refine own_go go6 ?_
  obtain ⟨T7, X7, e7, st7⟩ := getF X2 hx hZ hown (host := "") (Or.inl (hw _ (List.mem_of_getElem? (i := 11) rfl))) Via.refl e2 F_links (g := (mkF m 10 #[.val (.ref a1), .val (.int p2), .val (.int (vs.getD (((2 : Int32) * p2)).toNatClampNeg 0)), .unset] [(.ref a1)])) rfl rfl (hb hby d9_10)
  refine own_go (S' := T7.setTop (mkF m 13 #[.val (.ref a1), .val (.int p2), .val (.int (vs.getD (((2 : Int32) * p2)).toNatClampNeg 0)), .unset] [(.ref b)])) st7 ?_
  have go8 : ∀ t, Steps p.tables e below (T7.setTop (mkF m 18 #[.val (.ref a1), .val (.int p2), .val (.int (vs.getD (((2 : Int32) * p2)).toNatClampNeg 0)), .unset] [(.int (((2 : Int32) * p2) + (1 : Int32))), (.ref b)])) t → Steps p.tables e below (T7.setTop (mkF m 13 #[.val (.ref a1), .val (.int p2), .val (.int (vs.getD (((2 : Int32) * p2)).toNatClampNeg 0)), .unset] [(.ref b)])) t := by
    intro t kt
    show Steps p.tables e below (T7.setTop (mkF m 13 #[.val (.ref a1), .val (.int p2), .val (.int (vs.getD (((2 : Int32) * p2)).toNatClampNeg 0)), .unset] [(.ref b)])) _
    refine XS.iconst X7.here hx rfl (hb hby d9_13) ?_
    show Steps p.tables e below (T7.setTop (mkF m 14 #[.val (.ref a1), .val (.int p2), .val (.int (vs.getD (((2 : Int32) * p2)).toNatClampNeg 0)), .unset] [(.int (2 : Int32)), (.ref b)])) _
    refine XS.iloadN X7.here hx rfl (hb hby d9_14) rfl ?_
    show Steps p.tables e below (T7.setTop (mkF m 15 #[.val (.ref a1), .val (.int p2), .val (.int (vs.getD (((2 : Int32) * p2)).toNatClampNeg 0)), .unset] [(.int p2), (.int (2 : Int32)), (.ref b)])) _
    refine XS.imul X7.here hx rfl (hb hby d9_15) rfl ?_
    show Steps p.tables e below (T7.setTop (mkF m 16 #[.val (.ref a1), .val (.int p2), .val (.int (vs.getD (((2 : Int32) * p2)).toNatClampNeg 0)), .unset] [(.int ((2 : Int32) * p2)), (.ref b)])) _
    refine XS.iconst X7.here hx rfl (hb hby d9_16) ?_
    show Steps p.tables e below (T7.setTop (mkF m 17 #[.val (.ref a1), .val (.int p2), .val (.int (vs.getD (((2 : Int32) * p2)).toNatClampNeg 0)), .unset] [(.int (1 : Int32)), (.int ((2 : Int32) * p2)), (.ref b)])) _
    refine XS.iadd X7.here hx rfl (hb hby d9_17) rfl ?_
    exact kt
  refine own_go go8 ?_
  have Vo9 := VB
  obtain ⟨cl9, Ar9, qk9, Sz9, Nz9, Hh9, Gf9⟩ := Vo9
  have hin9 : ¬ ((((2 : Int32) * p2) + (1 : Int32)) < 0 ∨ cl9.slots.size ≤ ((((2 : Int32) * p2) + (1 : Int32))).toNatClampNeg) := inb_of Sz9 (own_o p2 hi)
  have hat9 : cl9.slots[((((2 : Int32) * p2) + (1 : Int32))).toNatClampNeg]? = some (.int (vs.getD ((((2 : Int32) * p2) + (1 : Int32))).toNatClampNeg 0)) := Has.at Hh9 hin9 (own_gd vs _)
  have go10 : ∀ t, Steps p.tables e below (T7.setTop (mkF m 19 #[.val (.ref a1), .val (.int p2), .val (.int (vs.getD (((2 : Int32) * p2)).toNatClampNeg 0)), .unset] [(.int (vs.getD ((((2 : Int32) * p2) + (1 : Int32))).toNatClampNeg 0))])) t → Steps p.tables e below (T7.setTop (mkF m 18 #[.val (.ref a1), .val (.int p2), .val (.int (vs.getD (((2 : Int32) * p2)).toNatClampNeg 0)), .unset] [(.int (((2 : Int32) * p2) + (1 : Int32))), (.ref b)])) t := fun t kt => X7.iaload hx (j := (((2 : Int32) * p2) + (1 : Int32))) (v := (.int (vs.getD ((((2 : Int32) * p2) + (1 : Int32))).toNatClampNeg 0))) (by rw [e7]; exact Ar9.1) (State.isArrayOf_alike hZ.alike Ar9.2.1) Ar9.2.2 hin9 hat9 (g := (mkF m 18 #[.val (.ref a1), .val (.int p2), .val (.int (vs.getD (((2 : Int32) * p2)).toNatClampNeg 0)), .unset] [(.int (((2 : Int32) * p2) + (1 : Int32))), (.ref b)])) rfl rfl (hb hby d9_18) _ kt
  refine own_go go10 ?_
  have go11 : ∀ t, Steps p.tables e below (T7.setTop (mkF m 23 #[.val (.ref a1), .val (.int p2), .val (.int (vs.getD (((2 : Int32) * p2)).toNatClampNeg 0)), .val (.int (vs.getD ((((2 : Int32) * p2) + (1 : Int32))).toNatClampNeg 0))] [(.int (vs.getD ((((2 : Int32) * p2) + (1 : Int32))).toNatClampNeg 0)), (.int (vs.getD (((2 : Int32) * p2)).toNatClampNeg 0)), (.ref a1)])) t → Steps p.tables e below (T7.setTop (mkF m 19 #[.val (.ref a1), .val (.int p2), .val (.int (vs.getD (((2 : Int32) * p2)).toNatClampNeg 0)), .unset] [(.int (vs.getD ((((2 : Int32) * p2) + (1 : Int32))).toNatClampNeg 0))])) t := by
    intro t kt
    show Steps p.tables e below (T7.setTop (mkF m 19 #[.val (.ref a1), .val (.int p2), .val (.int (vs.getD (((2 : Int32) * p2)).toNatClampNeg 0)), .unset] [(.int (vs.getD ((((2 : Int32) * p2) + (1 : Int32))).toNatClampNeg 0))])) _
    refine XS.istoreN X7.here hx rfl (hb hby d9_19) rfl (l' := #[.val (.ref a1), .val (.int p2), .val (.int (vs.getD (((2 : Int32) * p2)).toNatClampNeg 0)), .val (.int (vs.getD ((((2 : Int32) * p2) + (1 : Int32))).toNatClampNeg 0))]) rfl ?_
    show Steps p.tables e below (T7.setTop (mkF m 20 #[.val (.ref a1), .val (.int p2), .val (.int (vs.getD (((2 : Int32) * p2)).toNatClampNeg 0)), .val (.int (vs.getD ((((2 : Int32) * p2) + (1 : Int32))).toNatClampNeg 0))] [])) _
    refine XS.aloadN X7.here hx rfl (hb hby d9_20) rfl rfl ?_
    show Steps p.tables e below (T7.setTop (mkF m 21 #[.val (.ref a1), .val (.int p2), .val (.int (vs.getD (((2 : Int32) * p2)).toNatClampNeg 0)), .val (.int (vs.getD ((((2 : Int32) * p2) + (1 : Int32))).toNatClampNeg 0))] [(.ref a1)])) _
    refine XS.iloadN X7.here hx rfl (hb hby d9_21) rfl ?_
    show Steps p.tables e below (T7.setTop (mkF m 22 #[.val (.ref a1), .val (.int p2), .val (.int (vs.getD (((2 : Int32) * p2)).toNatClampNeg 0)), .val (.int (vs.getD ((((2 : Int32) * p2) + (1 : Int32))).toNatClampNeg 0))] [(.int (vs.getD (((2 : Int32) * p2)).toNatClampNeg 0)), (.ref a1)])) _
    refine XS.iloadN X7.here hx rfl (hb hby d9_22) rfl ?_
    exact kt
  refine own_go go11 ?_
  obtain ⟨cq12, q12, q12'⟩ := E.cell
  obtain ⟨_, _, ⟨T12, L12, k12, n12⟩, -, X12, ⟨Lc12, hQ12, l12, y12, z12⟩, st12⟩ := X7.privateBack hx (y := (⟨"com/example/loadgate/loadgate/NodeOrder", "setAfter", "(II)V"⟩ : MethodName)) hown (mvT hZ (hw _ (List.mem_of_getElem? (i := 39) rfl))) (mvT hZ (hw _ (List.mem_of_getElem? (i := 40) rfl))) (own_psel hZ (hw _ (List.mem_of_getElem? (i := 2) rfl)) (hw _ (List.mem_of_getElem? (i := 41) rfl)) (hw _ (List.mem_of_getElem? (i := 40) rfl)) (by decide)) (Cond.privateMethod_at (mvP hZ (hw _ (List.mem_of_getElem? (i := 41) rfl)) (args := #[]))) (mvT hZ (hw _ (List.mem_of_getElem? (i := 42) rfl))) (by decide) (backOf (W := 0) (rm7 l Z a0 hw [] a1 (vs.getD (((2 : Int32) * p2)).toNatClampNeg 0) (vs.getD ((((2 : Int32) * p2) + (1 : Int32))).toNatClampNeg 0) b kb el nw vs h0 n0 Z0 HS0 hl ga gb nb hX) hZ (hw _ (List.mem_of_getElem? (i := 42) rfl)) (hw _ (List.mem_of_getElem? (i := 3) rfl)) (by decide) (by decide)) (g := (mkF m 23 #[.val (.ref a1), .val (.int p2), .val (.int (vs.getD (((2 : Int32) * p2)).toNatClampNeg 0)), .val (.int (vs.getD ((((2 : Int32) * p2) + (1 : Int32))).toNatClampNeg 0))] [(.int (vs.getD ((((2 : Int32) * p2) + (1 : Int32))).toNatClampNeg 0)), (.int (vs.getD (((2 : Int32) * p2)).toNatClampNeg 0)), (.ref a1)])) rfl (by rw [hml]; rfl) (Steps.refl _) (a := a1) (by rw [e7]; exact q12) q12' (argsL := [(.int (vs.getD (((2 : Int32) * p2)).toNatClampNeg 0)), (.int (vs.getD ((((2 : Int32) * p2) + (1 : Int32))).toNatClampNeg 0))]) (rest := []) (lenOf pd_2 rfl) rfl (by show 2 * 0 + _ ≤ _; exact Nat.le_of_eq rfl) (hb hby d9_23) (fun _ _ => ⟨rfl, e7, (by decide : 0 + 0 ≤ _), (by decide : 0 + 0 ≤ _)⟩)
  dsimp only [Pt.U, Pt.locs, Pt.cells, Pt.slots] at X12 l12 y12 z12 st12 hQ12
  subst l12 y12 z12
  obtain ⟨rfl, N12q, HB⟩ := hQ12
  have N12 := Fr.app N0 N12q
  refine own_go (S' := T12.setTop (mkF m 26 #[.val (.ref a1), .val (.int p2), .val (.int (vs.getD (((2 : Int32) * p2)).toNatClampNeg 0)), .val (.int (vs.getD ((((2 : Int32) * p2) + (1 : Int32))).toNatClampNeg 0))] [])) (fun t k => st12.trans k) ?_
  obtain ⟨E_b, F_links_b, F_eldest_b, F_newest_b, VB_b⟩ := (own_id HB)
  have go13 : ∀ t, Steps p.tables e below (T12.setTop (mkF m 29 #[.val (.ref a1), .val (.int p2), .val (.int (vs.getD (((2 : Int32) * p2)).toNatClampNeg 0)), .val (.int (vs.getD ((((2 : Int32) * p2) + (1 : Int32))).toNatClampNeg 0))] [(.int (vs.getD (((2 : Int32) * p2)).toNatClampNeg 0)), (.int (vs.getD ((((2 : Int32) * p2) + (1 : Int32))).toNatClampNeg 0)), (.ref a1)])) t → Steps p.tables e below (T12.setTop (mkF m 26 #[.val (.ref a1), .val (.int p2), .val (.int (vs.getD (((2 : Int32) * p2)).toNatClampNeg 0)), .val (.int (vs.getD ((((2 : Int32) * p2) + (1 : Int32))).toNatClampNeg 0))] [])) t := by
    intro t kt
    show Steps p.tables e below (T12.setTop (mkF m 26 #[.val (.ref a1), .val (.int p2), .val (.int (vs.getD (((2 : Int32) * p2)).toNatClampNeg 0)), .val (.int (vs.getD ((((2 : Int32) * p2) + (1 : Int32))).toNatClampNeg 0))] [])) _
    refine XS.aloadN X12.here hx rfl (hb hby d9_26) rfl rfl ?_
    show Steps p.tables e below (T12.setTop (mkF m 27 #[.val (.ref a1), .val (.int p2), .val (.int (vs.getD (((2 : Int32) * p2)).toNatClampNeg 0)), .val (.int (vs.getD ((((2 : Int32) * p2) + (1 : Int32))).toNatClampNeg 0))] [(.ref a1)])) _
    refine XS.iloadN X12.here hx rfl (hb hby d9_27) rfl ?_
    show Steps p.tables e below (T12.setTop (mkF m 28 #[.val (.ref a1), .val (.int p2), .val (.int (vs.getD (((2 : Int32) * p2)).toNatClampNeg 0)), .val (.int (vs.getD ((((2 : Int32) * p2) + (1 : Int32))).toNatClampNeg 0))] [(.int (vs.getD ((((2 : Int32) * p2) + (1 : Int32))).toNatClampNeg 0)), (.ref a1)])) _
    refine XS.iloadN X12.here hx rfl (hb hby d9_28) rfl ?_
    exact kt
  refine own_go go13 ?_
  obtain ⟨cq14, q14, q14'⟩ := E_b.cell
  obtain ⟨_, _, ⟨T14, L14, k14, n14⟩, -, X14, ⟨Lc14, hQ14, l14, y14, z14⟩, st14⟩ := X12.privateBack hx (y := (⟨"com/example/loadgate/loadgate/NodeOrder", "setBefore", "(II)V"⟩ : MethodName)) hown (mvT hZ (hw _ (List.mem_of_getElem? (i := 53) rfl))) (mvT hZ (hw _ (List.mem_of_getElem? (i := 54) rfl))) (own_psel hZ (hw _ (List.mem_of_getElem? (i := 2) rfl)) (hw _ (List.mem_of_getElem? (i := 55) rfl)) (hw _ (List.mem_of_getElem? (i := 54) rfl)) (by decide)) (Cond.privateMethod_at (mvP hZ (hw _ (List.mem_of_getElem? (i := 55) rfl)) (args := #[]))) (mvT hZ (hw _ (List.mem_of_getElem? (i := 56) rfl))) (by decide) (backOf (W := 0) (rm10 l Z a0 hw [] a1 (vs.getD ((((2 : Int32) * p2) + (1 : Int32))).toNatClampNeg 0) (vs.getD (((2 : Int32) * p2)).toNatClampNeg 0) b kb (own_aE (vs.getD (((2 : Int32) * p2)).toNatClampNeg 0) (vs.getD ((((2 : Int32) * p2) + (1 : Int32))).toNatClampNeg 0) el) nw (own_aV (vs.getD (((2 : Int32) * p2)).toNatClampNeg 0) (vs.getD ((((2 : Int32) * p2) + (1 : Int32))).toNatClampNeg 0) vs) T12.heap n0 (own_szH ga E_b) HB (own_lA _ _ _ hl) ga gb nb hY) hZ (hw _ (List.mem_of_getElem? (i := 56) rfl)) (hw _ (List.mem_of_getElem? (i := 3) rfl)) (by decide) (by decide)) (g := (mkF m 29 #[.val (.ref a1), .val (.int p2), .val (.int (vs.getD (((2 : Int32) * p2)).toNatClampNeg 0)), .val (.int (vs.getD ((((2 : Int32) * p2) + (1 : Int32))).toNatClampNeg 0))] [(.int (vs.getD (((2 : Int32) * p2)).toNatClampNeg 0)), (.int (vs.getD ((((2 : Int32) * p2) + (1 : Int32))).toNatClampNeg 0)), (.ref a1)])) rfl (by rw [hml]; rfl) (Steps.refl _) (a := a1) q14 q14' (argsL := [(.int (vs.getD ((((2 : Int32) * p2) + (1 : Int32))).toNatClampNeg 0)), (.int (vs.getD (((2 : Int32) * p2)).toNatClampNeg 0))]) (rest := []) (lenOf pd_2 rfl) rfl (by show 2 * 0 + _ ≤ _; exact Nat.le_of_eq rfl) (hb hby d9_29) (fun _ _ => ⟨rfl, rfl, (by decide : 0 + 0 ≤ _), (by decide : 0 + 0 ≤ _)⟩)
  dsimp only [Pt.U, Pt.locs, Pt.cells, Pt.slots] at X14 l14 y14 z14 st14 hQ14
  subst l14 y14 z14
  obtain ⟨rfl, N14q, HC⟩ := hQ14
  have N14 := Fr.app N12 N14q
  refine own_go (S' := T14.setTop (mkF m 32 #[.val (.ref a1), .val (.int p2), .val (.int (vs.getD (((2 : Int32) * p2)).toNatClampNeg 0)), .val (.int (vs.getD ((((2 : Int32) * p2) + (1 : Int32))).toNatClampNeg 0))] [])) (fun t k => st14.trans k) ?_
  obtain ⟨fs, hr, hrun, hended, hW, hsame⟩ := X14.leave (v := none) (fun _ => rfl)
  refine ⟨_, _, X14.returnOut hx Bd.returns (hb hby d9_32) hr, hrun, hended, _, _, rfl, ?_, ⟨_, rfl⟩, hW, hsame.mono (by decide) (by decide)⟩
  show QS Z a1 b kb (own_aE (vs.getD (((2 : Int32) * p2)).toNatClampNeg 0) (vs.getD ((((2 : Int32) * p2) + (1 : Int32))).toNatClampNeg 0) el) (own_aE (vs.getD ((((2 : Int32) * p2) + (1 : Int32))).toNatClampNeg 0) (vs.getD (((2 : Int32) * p2)).toNatClampNeg 0) nw) (own_bV (vs.getD ((((2 : Int32) * p2) + (1 : Int32))).toNatClampNeg 0) (vs.getD (((2 : Int32) * p2)).toNatClampNeg 0) (own_aV (vs.getD (((2 : Int32) * p2)).toNatClampNeg 0) (vs.getD ((((2 : Int32) * p2) + (1 : Int32))).toNatClampNeg 0) vs)) h0 n0 _ T14.heap _
  exact ⟨rfl, N14, HC⟩
theorem pn_0 : plainName "com/example/loadgate/loadgate/NodeOrderAppendPinLaw" = true := by first | (simp [plainName, overriddenIn]; done) | decide +kernel
theorem ef_0 (m : MethodId) (x0 : Int32) (x1 : Int32) (x2 : Int32) (x3 : Int32) : entryFrame m #[(.int x0), (.int x1), (.int x2), (.int x3)] maxLocals = mkF m 0 #[.val (.int x0), .val (.int x1), .val (.int x2), .val (.int x3), .unset, .unset, .unset, .unset, .unset, .unset, .unset, .unset, .unset, .unset, .unset, .unset] [] := by first | (simp [entryFrame, mkF, argsToLocals, Value.category, maxLocals]; done) | rfl
def Q0 (Z : State) (h0 : Heap) (n0 : Nat) (v : Option Value) (h : Heap) (L : List Loc) : Prop := v = some (.int (1 : Int32)) ∧ Fr n0 L
set_option maxRecDepth 65536 in
set_option maxHeartbeats 40000000 in
theorem rm0 (l : Launch) (Z : State) (a0 : Array Value) (hw : ∀ d ∈ tables_1, d.before a0 Z = true) (ws : List Jvm.Cond) (p1 : Int32) (p2 : Int32) (p3 : Int32) (p4 : Int32) (h0 : Heap) (n0 : Nat) (Z0 : n0 ≤ h0.size) :
    MetFree l x (head1 (Jvm.Cond.code x code maxLocals ret :: ws) room_1) (fun a U => a = #[(.int p1), (.int p2), (.int p3), (.int p4)] ∧ Z.Warmed39 U.vm ∧ U.heap = h0) (fun _ _ _ _ _ => True) (fun _ U o U' => ∃ v L, o = .returned v ∧ Q0 Z  h0 n0 v U'.heap L ∧ FrameEnd U o U' L room_1.cells room_1.slots) := by
  refine MetFree.of_bodySF (plainFor_of_name pn_0) hisR ?_
  intro p e s m args below meth c s₁ Bd hml0 hP hK
  obtain ⟨rfl, hZ, hh⟩ := hP
  have hx := Bd.exec
  have hby := Bd.bytes
  have hml : c.maxLocals = 16 := hml0
  have hown : s.vm.findClass "com/example/loadgate/loadgate/NodeOrderAppendPinLaw" = some m.cls := findClass_of_methodNamed Bd.named
  have hnm := (name_of_methodNamed Bd.named Bd.method).1
  have X0 : Stand p l e room_1 s m #[(.int p1), (.int p2), (.int p3), (.int p4)] below meth c s₁ [] 0 0 := Stand.of_body Bd
  have e0 : s₁.heap = h0 := by rw [← hh, Bd.state]; rfl
  have N0 := Fr.nil n0
  have pre0 : ∀ t, Steps p.tables e below (s₁.setTop (mkF m 0 #[.val (.int p1), .val (.int p2), .val (.int p3), .val (.int p4), .unset, .unset, .unset, .unset, .unset, .unset, .unset, .unset, .unset, .unset, .unset, .unset] [])) t → Steps p.tables e below (s₁.setTop (entryFrame m #[(.int p1), (.int p2), (.int p3), (.int p4)] maxLocals)) t := fun t k => castTop (ef_0 m p1 p2 p3 p4) k
  refine own_go pre0 ?_
  obtain ⟨va, hva, go1⟩ : ∃ va : Int32, (0 ≤ va.toInt ∧ va.toInt < 4) ∧ ∀ t, Steps p.tables e below (s₁.setTop (mkF m 5 #[.val (.int p1), .val (.int p2), .val (.int p3), .val (.int p4), .val (.int va), .unset, .unset, .unset, .unset, .unset, .unset, .unset, .unset, .unset, .unset, .unset] [])) t → Steps p.tables e below (s₁.setTop (mkF m 0 #[.val (.int p1), .val (.int p2), .val (.int p3), .val (.int p4), .unset, .unset, .unset, .unset, .unset, .unset, .unset, .unset, .unset, .unset, .unset, .unset] [])) t := by
    have go2 : ∀ t, Steps p.tables e below (s₁.setTop (mkF m 5 #[.val (.int p1), .val (.int p2), .val (.int p3), .val (.int p4), .val (.int (p1 &&& (3 : Int32))), .unset, .unset, .unset, .unset, .unset, .unset, .unset, .unset, .unset, .unset, .unset] [])) t → Steps p.tables e below (s₁.setTop (mkF m 0 #[.val (.int p1), .val (.int p2), .val (.int p3), .val (.int p4), .unset, .unset, .unset, .unset, .unset, .unset, .unset, .unset, .unset, .unset, .unset, .unset] [])) t := by
      intro t kt
      show Steps p.tables e below (s₁.setTop (mkF m 0 #[.val (.int p1), .val (.int p2), .val (.int p3), .val (.int p4), .unset, .unset, .unset, .unset, .unset, .unset, .unset, .unset, .unset, .unset, .unset, .unset] [])) _
      refine XS.iloadN X0.here hx rfl (hb hby at_0) rfl ?_
      show Steps p.tables e below (s₁.setTop (mkF m 1 #[.val (.int p1), .val (.int p2), .val (.int p3), .val (.int p4), .unset, .unset, .unset, .unset, .unset, .unset, .unset, .unset, .unset, .unset, .unset, .unset] [(.int p1)])) _
      refine XS.iconst X0.here hx rfl (hb hby at_1) ?_
      show Steps p.tables e below (s₁.setTop (mkF m 2 #[.val (.int p1), .val (.int p2), .val (.int p3), .val (.int p4), .unset, .unset, .unset, .unset, .unset, .unset, .unset, .unset, .unset, .unset, .unset, .unset] [(.int (3 : Int32)), (.int p1)])) _
      refine XS.iand X0.here hx rfl (hb hby at_2) rfl ?_
      show Steps p.tables e below (s₁.setTop (mkF m 3 #[.val (.int p1), .val (.int p2), .val (.int p3), .val (.int p4), .unset, .unset, .unset, .unset, .unset, .unset, .unset, .unset, .unset, .unset, .unset, .unset] [(.int (p1 &&& (3 : Int32)))])) _
      refine XS.istore X0.here hx rfl (hb hby at_3) rfl (l' := #[.val (.int p1), .val (.int p2), .val (.int p3), .val (.int p4), .val (.int (p1 &&& (3 : Int32))), .unset, .unset, .unset, .unset, .unset, .unset, .unset, .unset, .unset, .unset, .unset]) rfl ?_
      exact kt
    exact ⟨(p1 &&& (3 : Int32)), own_m3 p1, fun t kt => (go2 t kt)⟩
  refine own_go go1 ?_
  obtain ⟨d1, hd1, go3⟩ : ∃ d1 : Int32, (d1 = 1 ∨ d1 = 2 ∨ d1 = 3) ∧ ∀ t, Steps p.tables e below (s₁.setTop (mkF m 15 #[.val (.int p1), .val (.int p2), .val (.int p3), .val (.int p4), .val (.int va), .val (.int d1), .unset, .unset, .unset, .unset, .unset, .unset, .unset, .unset, .unset, .unset] [])) t → Steps p.tables e below (s₁.setTop (mkF m 5 #[.val (.int p1), .val (.int p2), .val (.int p3), .val (.int p4), .val (.int va), .unset, .unset, .unset, .unset, .unset, .unset, .unset, .unset, .unset, .unset, .unset] [])) t := by
    have go4 : ∀ t, Steps p.tables e below (s₁.setTop (mkF m 15 #[.val (.int p1), .val (.int p2), .val (.int p3), .val (.int p4), .val (.int va), .val (.int ((1 : Int32) + ((p2 &&& (2147483647 : Int32)) % (3 : Int32)))), .unset, .unset, .unset, .unset, .unset, .unset, .unset, .unset, .unset, .unset] [])) t → Steps p.tables e below (s₁.setTop (mkF m 5 #[.val (.int p1), .val (.int p2), .val (.int p3), .val (.int p4), .val (.int va), .unset, .unset, .unset, .unset, .unset, .unset, .unset, .unset, .unset, .unset, .unset] [])) t := by
      intro t kt
      show Steps p.tables e below (s₁.setTop (mkF m 5 #[.val (.int p1), .val (.int p2), .val (.int p3), .val (.int p4), .val (.int va), .unset, .unset, .unset, .unset, .unset, .unset, .unset, .unset, .unset, .unset, .unset] [])) _
      refine XS.iconst X0.here hx rfl (hb hby at_5) ?_
      show Steps p.tables e below (s₁.setTop (mkF m 6 #[.val (.int p1), .val (.int p2), .val (.int p3), .val (.int p4), .val (.int va), .unset, .unset, .unset, .unset, .unset, .unset, .unset, .unset, .unset, .unset, .unset] [(.int (1 : Int32))])) _
      refine XS.iloadN X0.here hx rfl (hb hby at_6) rfl ?_
      show Steps p.tables e below (s₁.setTop (mkF m 7 #[.val (.int p1), .val (.int p2), .val (.int p3), .val (.int p4), .val (.int va), .unset, .unset, .unset, .unset, .unset, .unset, .unset, .unset, .unset, .unset, .unset] [(.int p2), (.int (1 : Int32))])) _
      refine X0.ldcInt hx hown (mvT hZ (hw _ (List.mem_of_getElem? (i := 0) rfl))) (g := (mkF m 7 #[.val (.int p1), .val (.int p2), .val (.int p3), .val (.int p4), .val (.int va), .unset, .unset, .unset, .unset, .unset, .unset, .unset, .unset, .unset, .unset, .unset] [(.int p2), (.int (1 : Int32))])) rfl (hb hby at_7) _ ?_
      show Steps p.tables e below (s₁.setTop (mkF m 9 #[.val (.int p1), .val (.int p2), .val (.int p3), .val (.int p4), .val (.int va), .unset, .unset, .unset, .unset, .unset, .unset, .unset, .unset, .unset, .unset, .unset] [(.int (2147483647 : Int32)), (.int p2), (.int (1 : Int32))])) _
      refine XS.iand X0.here hx rfl (hb hby at_9) rfl ?_
      show Steps p.tables e below (s₁.setTop (mkF m 10 #[.val (.int p1), .val (.int p2), .val (.int p3), .val (.int p4), .val (.int va), .unset, .unset, .unset, .unset, .unset, .unset, .unset, .unset, .unset, .unset, .unset] [(.int (p2 &&& (2147483647 : Int32))), (.int (1 : Int32))])) _
      refine XS.iconst X0.here hx rfl (hb hby at_10) ?_
      show Steps p.tables e below (s₁.setTop (mkF m 11 #[.val (.int p1), .val (.int p2), .val (.int p3), .val (.int p4), .val (.int va), .unset, .unset, .unset, .unset, .unset, .unset, .unset, .unset, .unset, .unset, .unset] [(.int (3 : Int32)), (.int (p2 &&& (2147483647 : Int32))), (.int (1 : Int32))])) _
      refine iremM X0 hx rfl (hb hby at_11) rfl (by decide) ?_
      show Steps p.tables e below (s₁.setTop (mkF m 12 #[.val (.int p1), .val (.int p2), .val (.int p3), .val (.int p4), .val (.int va), .unset, .unset, .unset, .unset, .unset, .unset, .unset, .unset, .unset, .unset, .unset] [(.int ((p2 &&& (2147483647 : Int32)) % (3 : Int32))), (.int (1 : Int32))])) _
      refine XS.iadd X0.here hx rfl (hb hby at_12) rfl ?_
      show Steps p.tables e below (s₁.setTop (mkF m 13 #[.val (.int p1), .val (.int p2), .val (.int p3), .val (.int p4), .val (.int va), .unset, .unset, .unset, .unset, .unset, .unset, .unset, .unset, .unset, .unset, .unset] [(.int ((1 : Int32) + ((p2 &&& (2147483647 : Int32)) % (3 : Int32))))])) _
      refine XS.istore X0.here hx rfl (hb hby at_13) rfl (l' := #[.val (.int p1), .val (.int p2), .val (.int p3), .val (.int p4), .val (.int va), .val (.int ((1 : Int32) + ((p2 &&& (2147483647 : Int32)) % (3 : Int32)))), .unset, .unset, .unset, .unset, .unset, .unset, .unset, .unset, .unset, .unset]) rfl ?_
      exact kt
    exact ⟨((1 : Int32) + ((p2 &&& (2147483647 : Int32)) % (3 : Int32))), own_d1 p2, fun t kt => (go4 t kt)⟩
  refine own_go go3 ?_
  obtain ⟨of, hof, go5⟩ : ∃ of : Int32, ((of = 1 ∨ of = 2 ∨ of = 3) ∧ of ≠ d1) ∧ ∀ t, Steps p.tables e below (s₁.setTop (mkF m 50 #[.val (.int p1), .val (.int p2), .val (.int p3), .val (.int p4), .val (.int va), .val (.int d1), .val (.int of), .unset, .unset, .unset, .unset, .unset, .unset, .unset, .unset, .unset] [])) t → Steps p.tables e below (s₁.setTop (mkF m 15 #[.val (.int p1), .val (.int p2), .val (.int p3), .val (.int p4), .val (.int va), .val (.int d1), .unset, .unset, .unset, .unset, .unset, .unset, .unset, .unset, .unset, .unset] [])) t := by
    have go6 : ∀ t, Steps p.tables e below (s₁.setTop (mkF m 18 #[.val (.int p1), .val (.int p2), .val (.int p3), .val (.int p4), .val (.int va), .val (.int d1), .unset, .unset, .unset, .unset, .unset, .unset, .unset, .unset, .unset, .unset] [(.int (p3 &&& (1 : Int32)))])) t → Steps p.tables e below (s₁.setTop (mkF m 15 #[.val (.int p1), .val (.int p2), .val (.int p3), .val (.int p4), .val (.int va), .val (.int d1), .unset, .unset, .unset, .unset, .unset, .unset, .unset, .unset, .unset, .unset] [])) t := by
      intro t kt
      show Steps p.tables e below (s₁.setTop (mkF m 15 #[.val (.int p1), .val (.int p2), .val (.int p3), .val (.int p4), .val (.int va), .val (.int d1), .unset, .unset, .unset, .unset, .unset, .unset, .unset, .unset, .unset, .unset] [])) _
      refine XS.iloadN X0.here hx rfl (hb hby at_15) rfl ?_
      show Steps p.tables e below (s₁.setTop (mkF m 16 #[.val (.int p1), .val (.int p2), .val (.int p3), .val (.int p4), .val (.int va), .val (.int d1), .unset, .unset, .unset, .unset, .unset, .unset, .unset, .unset, .unset, .unset] [(.int p3)])) _
      refine XS.iconst X0.here hx rfl (hb hby at_16) ?_
      show Steps p.tables e below (s₁.setTop (mkF m 17 #[.val (.int p1), .val (.int p2), .val (.int p3), .val (.int p4), .val (.int va), .val (.int d1), .unset, .unset, .unset, .unset, .unset, .unset, .unset, .unset, .unset, .unset] [(.int (1 : Int32)), (.int p3)])) _
      refine XS.iand X0.here hx rfl (hb hby at_17) rfl ?_
      exact kt
    rcases Classical.em ((p3 &&& (1 : Int32)) = (0 : Int32)) with hc18 | hc18
    · have go7 : ∀ t, Steps p.tables e below (s₁.setTop (mkF m 24 #[.val (.int p1), .val (.int p2), .val (.int p3), .val (.int p4), .val (.int va), .val (.int d1), .unset, .unset, .unset, .unset, .unset, .unset, .unset, .unset, .unset, .unset] [(.int (1 : Int32)), (.int d1)])) t → Steps p.tables e below (s₁.setTop (mkF m 18 #[.val (.int p1), .val (.int p2), .val (.int p3), .val (.int p4), .val (.int va), .val (.int d1), .unset, .unset, .unset, .unset, .unset, .unset, .unset, .unset, .unset, .unset] [(.int (p3 &&& (1 : Int32)))])) t := by
        intro t kt
        show Steps p.tables e below (s₁.setTop (mkF m 18 #[.val (.int p1), .val (.int p2), .val (.int p3), .val (.int p4), .val (.int va), .val (.int d1), .unset, .unset, .unset, .unset, .unset, .unset, .unset, .unset, .unset, .unset] [(.int (p3 &&& (1 : Int32)))])) _
        refine XS.ifNo X0.here hx rfl (hb hby at_18) rfl ((if0 _ _).trans (teq hc18).2) ?_
        show Steps p.tables e below (s₁.setTop (mkF m 21 #[.val (.int p1), .val (.int p2), .val (.int p3), .val (.int p4), .val (.int va), .val (.int d1), .unset, .unset, .unset, .unset, .unset, .unset, .unset, .unset, .unset, .unset] [])) _
        refine XS.iload X0.here hx rfl (hb hby at_21) rfl ?_
        show Steps p.tables e below (s₁.setTop (mkF m 23 #[.val (.int p1), .val (.int p2), .val (.int p3), .val (.int p4), .val (.int va), .val (.int d1), .unset, .unset, .unset, .unset, .unset, .unset, .unset, .unset, .unset, .unset] [(.int d1)])) _
        refine XS.iconst X0.here hx rfl (hb hby at_23) ?_
        exact kt
      rcases Classical.em (d1 = (1 : Int32)) with hc24 | hc24
      · have go8 : ∀ t, Steps p.tables e below (s₁.setTop (mkF m 50 #[.val (.int p1), .val (.int p2), .val (.int p3), .val (.int p4), .val (.int va), .val (.int d1), .val (.int (2 : Int32)), .unset, .unset, .unset, .unset, .unset, .unset, .unset, .unset, .unset] [])) t → Steps p.tables e below (s₁.setTop (mkF m 24 #[.val (.int p1), .val (.int p2), .val (.int p3), .val (.int p4), .val (.int va), .val (.int d1), .unset, .unset, .unset, .unset, .unset, .unset, .unset, .unset, .unset, .unset] [(.int (1 : Int32)), (.int d1)])) t := by
          intro t kt
          show Steps p.tables e below (s₁.setTop (mkF m 24 #[.val (.int p1), .val (.int p2), .val (.int p3), .val (.int p4), .val (.int va), .val (.int d1), .unset, .unset, .unset, .unset, .unset, .unset, .unset, .unset, .unset, .unset] [(.int (1 : Int32)), (.int d1)])) _
          refine XS.icmpNo X0.here hx rfl (hb hby at_24) rfl (teq hc24).2 ?_
          show Steps p.tables e below (s₁.setTop (mkF m 27 #[.val (.int p1), .val (.int p2), .val (.int p3), .val (.int p4), .val (.int va), .val (.int d1), .unset, .unset, .unset, .unset, .unset, .unset, .unset, .unset, .unset, .unset] [])) _
          refine XS.iconst X0.here hx rfl (hb hby at_27) ?_
          show Steps p.tables e below (s₁.setTop (mkF m 28 #[.val (.int p1), .val (.int p2), .val (.int p3), .val (.int p4), .val (.int va), .val (.int d1), .unset, .unset, .unset, .unset, .unset, .unset, .unset, .unset, .unset, .unset] [(.int (2 : Int32))])) _
          refine XS.goto X0.here hx rfl (pc0 := 28) (pc' := 32) rfl (hb hby at_28) (by decide) (by decide) ?_
          show Steps p.tables e below (s₁.setTop (mkF m 32 #[.val (.int p1), .val (.int p2), .val (.int p3), .val (.int p4), .val (.int va), .val (.int d1), .unset, .unset, .unset, .unset, .unset, .unset, .unset, .unset, .unset, .unset] [(.int (2 : Int32))])) _
          refine XS.istore X0.here hx rfl (hb hby at_32) rfl (l' := #[.val (.int p1), .val (.int p2), .val (.int p3), .val (.int p4), .val (.int va), .val (.int d1), .val (.int (2 : Int32)), .unset, .unset, .unset, .unset, .unset, .unset, .unset, .unset, .unset]) rfl ?_
          show Steps p.tables e below (s₁.setTop (mkF m 34 #[.val (.int p1), .val (.int p2), .val (.int p3), .val (.int p4), .val (.int va), .val (.int d1), .val (.int (2 : Int32)), .unset, .unset, .unset, .unset, .unset, .unset, .unset, .unset, .unset] [])) _
          refine XS.goto X0.here hx rfl (pc0 := 34) (pc' := 50) rfl (hb hby at_34) (by decide) (by decide) ?_
          exact kt
        exact ⟨(2 : Int32), ⟨by decide, by rw [hc24]; decide⟩, fun t kt => (go6 t (go7 t (go8 t kt)))⟩
      · have go9 : ∀ t, Steps p.tables e below (s₁.setTop (mkF m 50 #[.val (.int p1), .val (.int p2), .val (.int p3), .val (.int p4), .val (.int va), .val (.int d1), .val (.int (1 : Int32)), .unset, .unset, .unset, .unset, .unset, .unset, .unset, .unset, .unset] [])) t → Steps p.tables e below (s₁.setTop (mkF m 24 #[.val (.int p1), .val (.int p2), .val (.int p3), .val (.int p4), .val (.int va), .val (.int d1), .unset, .unset, .unset, .unset, .unset, .unset, .unset, .unset, .unset, .unset] [(.int (1 : Int32)), (.int d1)])) t := by
          intro t kt
          show Steps p.tables e below (s₁.setTop (mkF m 24 #[.val (.int p1), .val (.int p2), .val (.int p3), .val (.int p4), .val (.int va), .val (.int d1), .unset, .unset, .unset, .unset, .unset, .unset, .unset, .unset, .unset, .unset] [(.int (1 : Int32)), (.int d1)])) _
          refine XS.icmpYes X0.here hx rfl (pc0 := 24) (pc' := 31) rfl (hb hby at_24) rfl (feq hc24).2 (by decide) (by decide) ?_
          show Steps p.tables e below (s₁.setTop (mkF m 31 #[.val (.int p1), .val (.int p2), .val (.int p3), .val (.int p4), .val (.int va), .val (.int d1), .unset, .unset, .unset, .unset, .unset, .unset, .unset, .unset, .unset, .unset] [])) _
          refine XS.iconst X0.here hx rfl (hb hby at_31) ?_
          show Steps p.tables e below (s₁.setTop (mkF m 32 #[.val (.int p1), .val (.int p2), .val (.int p3), .val (.int p4), .val (.int va), .val (.int d1), .unset, .unset, .unset, .unset, .unset, .unset, .unset, .unset, .unset, .unset] [(.int (1 : Int32))])) _
          refine XS.istore X0.here hx rfl (hb hby at_32) rfl (l' := #[.val (.int p1), .val (.int p2), .val (.int p3), .val (.int p4), .val (.int va), .val (.int d1), .val (.int (1 : Int32)), .unset, .unset, .unset, .unset, .unset, .unset, .unset, .unset, .unset]) rfl ?_
          show Steps p.tables e below (s₁.setTop (mkF m 34 #[.val (.int p1), .val (.int p2), .val (.int p3), .val (.int p4), .val (.int va), .val (.int d1), .val (.int (1 : Int32)), .unset, .unset, .unset, .unset, .unset, .unset, .unset, .unset, .unset] [])) _
          refine XS.goto X0.here hx rfl (pc0 := 34) (pc' := 50) rfl (hb hby at_34) (by decide) (by decide) ?_
          exact kt
        exact ⟨(1 : Int32), ⟨by decide, fun q => hc24 q.symm⟩, fun t kt => (go6 t (go7 t (go9 t kt)))⟩
    · have go10 : ∀ t, Steps p.tables e below (s₁.setTop (mkF m 40 #[.val (.int p1), .val (.int p2), .val (.int p3), .val (.int p4), .val (.int va), .val (.int d1), .unset, .unset, .unset, .unset, .unset, .unset, .unset, .unset, .unset, .unset] [(.int (3 : Int32)), (.int d1)])) t → Steps p.tables e below (s₁.setTop (mkF m 18 #[.val (.int p1), .val (.int p2), .val (.int p3), .val (.int p4), .val (.int va), .val (.int d1), .unset, .unset, .unset, .unset, .unset, .unset, .unset, .unset, .unset, .unset] [(.int (p3 &&& (1 : Int32)))])) t := by
        intro t kt
        show Steps p.tables e below (s₁.setTop (mkF m 18 #[.val (.int p1), .val (.int p2), .val (.int p3), .val (.int p4), .val (.int va), .val (.int d1), .unset, .unset, .unset, .unset, .unset, .unset, .unset, .unset, .unset, .unset] [(.int (p3 &&& (1 : Int32)))])) _
        refine XS.ifYes X0.here hx rfl (pc0 := 18) (pc' := 37) rfl (hb hby at_18) rfl ((if0 _ _).trans (feq hc18).2) (by decide) (by decide) ?_
        show Steps p.tables e below (s₁.setTop (mkF m 37 #[.val (.int p1), .val (.int p2), .val (.int p3), .val (.int p4), .val (.int va), .val (.int d1), .unset, .unset, .unset, .unset, .unset, .unset, .unset, .unset, .unset, .unset] [])) _
        refine XS.iload X0.here hx rfl (hb hby at_37) rfl ?_
        show Steps p.tables e below (s₁.setTop (mkF m 39 #[.val (.int p1), .val (.int p2), .val (.int p3), .val (.int p4), .val (.int va), .val (.int d1), .unset, .unset, .unset, .unset, .unset, .unset, .unset, .unset, .unset, .unset] [(.int d1)])) _
        refine XS.iconst X0.here hx rfl (hb hby at_39) ?_
        exact kt
      rcases Classical.em (d1 = (3 : Int32)) with hc40 | hc40
      · have go11 : ∀ t, Steps p.tables e below (s₁.setTop (mkF m 50 #[.val (.int p1), .val (.int p2), .val (.int p3), .val (.int p4), .val (.int va), .val (.int d1), .val (.int (2 : Int32)), .unset, .unset, .unset, .unset, .unset, .unset, .unset, .unset, .unset] [])) t → Steps p.tables e below (s₁.setTop (mkF m 40 #[.val (.int p1), .val (.int p2), .val (.int p3), .val (.int p4), .val (.int va), .val (.int d1), .unset, .unset, .unset, .unset, .unset, .unset, .unset, .unset, .unset, .unset] [(.int (3 : Int32)), (.int d1)])) t := by
          intro t kt
          show Steps p.tables e below (s₁.setTop (mkF m 40 #[.val (.int p1), .val (.int p2), .val (.int p3), .val (.int p4), .val (.int va), .val (.int d1), .unset, .unset, .unset, .unset, .unset, .unset, .unset, .unset, .unset, .unset] [(.int (3 : Int32)), (.int d1)])) _
          refine XS.icmpNo X0.here hx rfl (hb hby at_40) rfl (teq hc40).2 ?_
          show Steps p.tables e below (s₁.setTop (mkF m 43 #[.val (.int p1), .val (.int p2), .val (.int p3), .val (.int p4), .val (.int va), .val (.int d1), .unset, .unset, .unset, .unset, .unset, .unset, .unset, .unset, .unset, .unset] [])) _
          refine XS.iconst X0.here hx rfl (hb hby at_43) ?_
          show Steps p.tables e below (s₁.setTop (mkF m 44 #[.val (.int p1), .val (.int p2), .val (.int p3), .val (.int p4), .val (.int va), .val (.int d1), .unset, .unset, .unset, .unset, .unset, .unset, .unset, .unset, .unset, .unset] [(.int (2 : Int32))])) _
          refine XS.goto X0.here hx rfl (pc0 := 44) (pc' := 48) rfl (hb hby at_44) (by decide) (by decide) ?_
          show Steps p.tables e below (s₁.setTop (mkF m 48 #[.val (.int p1), .val (.int p2), .val (.int p3), .val (.int p4), .val (.int va), .val (.int d1), .unset, .unset, .unset, .unset, .unset, .unset, .unset, .unset, .unset, .unset] [(.int (2 : Int32))])) _
          refine XS.istore X0.here hx rfl (hb hby at_48) rfl (l' := #[.val (.int p1), .val (.int p2), .val (.int p3), .val (.int p4), .val (.int va), .val (.int d1), .val (.int (2 : Int32)), .unset, .unset, .unset, .unset, .unset, .unset, .unset, .unset, .unset]) rfl ?_
          exact kt
        exact ⟨(2 : Int32), ⟨by decide, by rw [hc40]; decide⟩, fun t kt => (go6 t (go10 t (go11 t kt)))⟩
      · have go12 : ∀ t, Steps p.tables e below (s₁.setTop (mkF m 50 #[.val (.int p1), .val (.int p2), .val (.int p3), .val (.int p4), .val (.int va), .val (.int d1), .val (.int (3 : Int32)), .unset, .unset, .unset, .unset, .unset, .unset, .unset, .unset, .unset] [])) t → Steps p.tables e below (s₁.setTop (mkF m 40 #[.val (.int p1), .val (.int p2), .val (.int p3), .val (.int p4), .val (.int va), .val (.int d1), .unset, .unset, .unset, .unset, .unset, .unset, .unset, .unset, .unset, .unset] [(.int (3 : Int32)), (.int d1)])) t := by
          intro t kt
          show Steps p.tables e below (s₁.setTop (mkF m 40 #[.val (.int p1), .val (.int p2), .val (.int p3), .val (.int p4), .val (.int va), .val (.int d1), .unset, .unset, .unset, .unset, .unset, .unset, .unset, .unset, .unset, .unset] [(.int (3 : Int32)), (.int d1)])) _
          refine XS.icmpYes X0.here hx rfl (pc0 := 40) (pc' := 47) rfl (hb hby at_40) rfl (feq hc40).2 (by decide) (by decide) ?_
          show Steps p.tables e below (s₁.setTop (mkF m 47 #[.val (.int p1), .val (.int p2), .val (.int p3), .val (.int p4), .val (.int va), .val (.int d1), .unset, .unset, .unset, .unset, .unset, .unset, .unset, .unset, .unset, .unset] [])) _
          refine XS.iconst X0.here hx rfl (hb hby at_47) ?_
          show Steps p.tables e below (s₁.setTop (mkF m 48 #[.val (.int p1), .val (.int p2), .val (.int p3), .val (.int p4), .val (.int va), .val (.int d1), .unset, .unset, .unset, .unset, .unset, .unset, .unset, .unset, .unset, .unset] [(.int (3 : Int32))])) _
          refine XS.istore X0.here hx rfl (hb hby at_48) rfl (l' := #[.val (.int p1), .val (.int p2), .val (.int p3), .val (.int p4), .val (.int va), .val (.int d1), .val (.int (3 : Int32)), .unset, .unset, .unset, .unset, .unset, .unset, .unset, .unset, .unset]) rfl ?_
          exact kt
        exact ⟨(3 : Int32), ⟨by decide, fun q => hc40 q.symm⟩, fun t kt => (go6 t (go10 t (go12 t kt)))⟩
  refine own_go go5 ?_
  obtain ⟨vb, vc, hvb, go13⟩ : ∃ vb vc : Int32, (own_ok va vb vc) ∧ ∀ t, Steps p.tables e below (s₁.setTop (mkF m 68 #[.val (.int p1), .val (.int p2), .val (.int p3), .val (.int p4), .val (.int va), .val (.int d1), .val (.int of), .val (.int vb), .val (.int vc), .unset, .unset, .unset, .unset, .unset, .unset, .unset] [])) t → Steps p.tables e below (s₁.setTop (mkF m 50 #[.val (.int p1), .val (.int p2), .val (.int p3), .val (.int p4), .val (.int va), .val (.int d1), .val (.int of), .unset, .unset, .unset, .unset, .unset, .unset, .unset, .unset, .unset] [])) t := by
    have go14 : ∀ t, Steps p.tables e below (s₁.setTop (mkF m 68 #[.val (.int p1), .val (.int p2), .val (.int p3), .val (.int p4), .val (.int va), .val (.int d1), .val (.int of), .val (.int ((va + d1) &&& (3 : Int32))), .val (.int ((va + of) &&& (3 : Int32))), .unset, .unset, .unset, .unset, .unset, .unset, .unset] [])) t → Steps p.tables e below (s₁.setTop (mkF m 50 #[.val (.int p1), .val (.int p2), .val (.int p3), .val (.int p4), .val (.int va), .val (.int d1), .val (.int of), .unset, .unset, .unset, .unset, .unset, .unset, .unset, .unset, .unset] [])) t := by
      intro t kt
      show Steps p.tables e below (s₁.setTop (mkF m 50 #[.val (.int p1), .val (.int p2), .val (.int p3), .val (.int p4), .val (.int va), .val (.int d1), .val (.int of), .unset, .unset, .unset, .unset, .unset, .unset, .unset, .unset, .unset] [])) _
      refine XS.iload X0.here hx rfl (hb hby at_50) rfl ?_
      show Steps p.tables e below (s₁.setTop (mkF m 52 #[.val (.int p1), .val (.int p2), .val (.int p3), .val (.int p4), .val (.int va), .val (.int d1), .val (.int of), .unset, .unset, .unset, .unset, .unset, .unset, .unset, .unset, .unset] [(.int va)])) _
      refine XS.iload X0.here hx rfl (hb hby at_52) rfl ?_
      show Steps p.tables e below (s₁.setTop (mkF m 54 #[.val (.int p1), .val (.int p2), .val (.int p3), .val (.int p4), .val (.int va), .val (.int d1), .val (.int of), .unset, .unset, .unset, .unset, .unset, .unset, .unset, .unset, .unset] [(.int d1), (.int va)])) _
      refine XS.iadd X0.here hx rfl (hb hby at_54) rfl ?_
      show Steps p.tables e below (s₁.setTop (mkF m 55 #[.val (.int p1), .val (.int p2), .val (.int p3), .val (.int p4), .val (.int va), .val (.int d1), .val (.int of), .unset, .unset, .unset, .unset, .unset, .unset, .unset, .unset, .unset] [(.int (va + d1))])) _
      refine XS.iconst X0.here hx rfl (hb hby at_55) ?_
      show Steps p.tables e below (s₁.setTop (mkF m 56 #[.val (.int p1), .val (.int p2), .val (.int p3), .val (.int p4), .val (.int va), .val (.int d1), .val (.int of), .unset, .unset, .unset, .unset, .unset, .unset, .unset, .unset, .unset] [(.int (3 : Int32)), (.int (va + d1))])) _
      refine XS.iand X0.here hx rfl (hb hby at_56) rfl ?_
      show Steps p.tables e below (s₁.setTop (mkF m 57 #[.val (.int p1), .val (.int p2), .val (.int p3), .val (.int p4), .val (.int va), .val (.int d1), .val (.int of), .unset, .unset, .unset, .unset, .unset, .unset, .unset, .unset, .unset] [(.int ((va + d1) &&& (3 : Int32)))])) _
      refine XS.istore X0.here hx rfl (hb hby at_57) rfl (l' := #[.val (.int p1), .val (.int p2), .val (.int p3), .val (.int p4), .val (.int va), .val (.int d1), .val (.int of), .val (.int ((va + d1) &&& (3 : Int32))), .unset, .unset, .unset, .unset, .unset, .unset, .unset, .unset]) rfl ?_
      show Steps p.tables e below (s₁.setTop (mkF m 59 #[.val (.int p1), .val (.int p2), .val (.int p3), .val (.int p4), .val (.int va), .val (.int d1), .val (.int of), .val (.int ((va + d1) &&& (3 : Int32))), .unset, .unset, .unset, .unset, .unset, .unset, .unset, .unset] [])) _
      refine XS.iload X0.here hx rfl (hb hby at_59) rfl ?_
      show Steps p.tables e below (s₁.setTop (mkF m 61 #[.val (.int p1), .val (.int p2), .val (.int p3), .val (.int p4), .val (.int va), .val (.int d1), .val (.int of), .val (.int ((va + d1) &&& (3 : Int32))), .unset, .unset, .unset, .unset, .unset, .unset, .unset, .unset] [(.int va)])) _
      refine XS.iload X0.here hx rfl (hb hby at_61) rfl ?_
      show Steps p.tables e below (s₁.setTop (mkF m 63 #[.val (.int p1), .val (.int p2), .val (.int p3), .val (.int p4), .val (.int va), .val (.int d1), .val (.int of), .val (.int ((va + d1) &&& (3 : Int32))), .unset, .unset, .unset, .unset, .unset, .unset, .unset, .unset] [(.int of), (.int va)])) _
      refine XS.iadd X0.here hx rfl (hb hby at_63) rfl ?_
      show Steps p.tables e below (s₁.setTop (mkF m 64 #[.val (.int p1), .val (.int p2), .val (.int p3), .val (.int p4), .val (.int va), .val (.int d1), .val (.int of), .val (.int ((va + d1) &&& (3 : Int32))), .unset, .unset, .unset, .unset, .unset, .unset, .unset, .unset] [(.int (va + of))])) _
      refine XS.iconst X0.here hx rfl (hb hby at_64) ?_
      show Steps p.tables e below (s₁.setTop (mkF m 65 #[.val (.int p1), .val (.int p2), .val (.int p3), .val (.int p4), .val (.int va), .val (.int d1), .val (.int of), .val (.int ((va + d1) &&& (3 : Int32))), .unset, .unset, .unset, .unset, .unset, .unset, .unset, .unset] [(.int (3 : Int32)), (.int (va + of))])) _
      refine XS.iand X0.here hx rfl (hb hby at_65) rfl ?_
      show Steps p.tables e below (s₁.setTop (mkF m 66 #[.val (.int p1), .val (.int p2), .val (.int p3), .val (.int p4), .val (.int va), .val (.int d1), .val (.int of), .val (.int ((va + d1) &&& (3 : Int32))), .unset, .unset, .unset, .unset, .unset, .unset, .unset, .unset] [(.int ((va + of) &&& (3 : Int32)))])) _
      refine XS.istore X0.here hx rfl (hb hby at_66) rfl (l' := #[.val (.int p1), .val (.int p2), .val (.int p3), .val (.int p4), .val (.int va), .val (.int d1), .val (.int of), .val (.int ((va + d1) &&& (3 : Int32))), .val (.int ((va + of) &&& (3 : Int32))), .unset, .unset, .unset, .unset, .unset, .unset, .unset]) rfl ?_
      exact kt
    exact ⟨((va + d1) &&& (3 : Int32)), ((va + of) &&& (3 : Int32)), own_okp va d1 of hva hd1 hof, fun t kt => (go14 t kt)⟩
  refine own_go go13 ?_
  obtain ⟨mo, hmo, go15⟩ : ∃ mo : Int32, (True) ∧ ∀ t, Steps p.tables e below (s₁.setTop (mkF m 76 #[.val (.int p1), .val (.int p2), .val (.int p3), .val (.int p4), .val (.int va), .val (.int d1), .val (.int of), .val (.int vb), .val (.int vc), .val (.int mo), .unset, .unset, .unset, .unset, .unset, .unset] [])) t → Steps p.tables e below (s₁.setTop (mkF m 68 #[.val (.int p1), .val (.int p2), .val (.int p3), .val (.int p4), .val (.int va), .val (.int d1), .val (.int of), .val (.int vb), .val (.int vc), .unset, .unset, .unset, .unset, .unset, .unset, .unset] [])) t := by
    have go16 : ∀ t, Steps p.tables e below (s₁.setTop (mkF m 76 #[.val (.int p1), .val (.int p2), .val (.int p3), .val (.int p4), .val (.int va), .val (.int d1), .val (.int of), .val (.int vb), .val (.int vc), .val (.int ((p4 &&& (2147483647 : Int32)) % (3 : Int32))), .unset, .unset, .unset, .unset, .unset, .unset] [])) t → Steps p.tables e below (s₁.setTop (mkF m 68 #[.val (.int p1), .val (.int p2), .val (.int p3), .val (.int p4), .val (.int va), .val (.int d1), .val (.int of), .val (.int vb), .val (.int vc), .unset, .unset, .unset, .unset, .unset, .unset, .unset] [])) t := by
      intro t kt
      show Steps p.tables e below (s₁.setTop (mkF m 68 #[.val (.int p1), .val (.int p2), .val (.int p3), .val (.int p4), .val (.int va), .val (.int d1), .val (.int of), .val (.int vb), .val (.int vc), .unset, .unset, .unset, .unset, .unset, .unset, .unset] [])) _
      refine XS.iloadN X0.here hx rfl (hb hby at_68) rfl ?_
      show Steps p.tables e below (s₁.setTop (mkF m 69 #[.val (.int p1), .val (.int p2), .val (.int p3), .val (.int p4), .val (.int va), .val (.int d1), .val (.int of), .val (.int vb), .val (.int vc), .unset, .unset, .unset, .unset, .unset, .unset, .unset] [(.int p4)])) _
      refine X0.ldcInt hx hown (mvT hZ (hw _ (List.mem_of_getElem? (i := 0) rfl))) (g := (mkF m 69 #[.val (.int p1), .val (.int p2), .val (.int p3), .val (.int p4), .val (.int va), .val (.int d1), .val (.int of), .val (.int vb), .val (.int vc), .unset, .unset, .unset, .unset, .unset, .unset, .unset] [(.int p4)])) rfl (hb hby at_69) _ ?_
      show Steps p.tables e below (s₁.setTop (mkF m 71 #[.val (.int p1), .val (.int p2), .val (.int p3), .val (.int p4), .val (.int va), .val (.int d1), .val (.int of), .val (.int vb), .val (.int vc), .unset, .unset, .unset, .unset, .unset, .unset, .unset] [(.int (2147483647 : Int32)), (.int p4)])) _
      refine XS.iand X0.here hx rfl (hb hby at_71) rfl ?_
      show Steps p.tables e below (s₁.setTop (mkF m 72 #[.val (.int p1), .val (.int p2), .val (.int p3), .val (.int p4), .val (.int va), .val (.int d1), .val (.int of), .val (.int vb), .val (.int vc), .unset, .unset, .unset, .unset, .unset, .unset, .unset] [(.int (p4 &&& (2147483647 : Int32)))])) _
      refine XS.iconst X0.here hx rfl (hb hby at_72) ?_
      show Steps p.tables e below (s₁.setTop (mkF m 73 #[.val (.int p1), .val (.int p2), .val (.int p3), .val (.int p4), .val (.int va), .val (.int d1), .val (.int of), .val (.int vb), .val (.int vc), .unset, .unset, .unset, .unset, .unset, .unset, .unset] [(.int (3 : Int32)), (.int (p4 &&& (2147483647 : Int32)))])) _
      refine iremM X0 hx rfl (hb hby at_73) rfl (by decide) ?_
      show Steps p.tables e below (s₁.setTop (mkF m 74 #[.val (.int p1), .val (.int p2), .val (.int p3), .val (.int p4), .val (.int va), .val (.int d1), .val (.int of), .val (.int vb), .val (.int vc), .unset, .unset, .unset, .unset, .unset, .unset, .unset] [(.int ((p4 &&& (2147483647 : Int32)) % (3 : Int32)))])) _
      refine XS.istore X0.here hx rfl (hb hby at_74) rfl (l' := #[.val (.int p1), .val (.int p2), .val (.int p3), .val (.int p4), .val (.int va), .val (.int d1), .val (.int of), .val (.int vb), .val (.int vc), .val (.int ((p4 &&& (2147483647 : Int32)) % (3 : Int32))), .unset, .unset, .unset, .unset, .unset, .unset]) rfl ?_
      exact kt
    exact ⟨((p4 &&& (2147483647 : Int32)) % (3 : Int32)), trivial, fun t kt => (go16 t kt)⟩
  refine own_go go15 ?_
  obtain ⟨r1, x1, r2, x2, r3, hr1, go17⟩ : ∃ r1 x1 r2 x2 r3 : Int32, (own_chk va vb vc r1 x1 r2 x2 r3 = true) ∧ ∀ t, Steps p.tables e below (s₁.setTop (mkF m 153 #[.val (.int p1), .val (.int p2), .val (.int p3), .val (.int p4), .val (.int va), .val (.int d1), .val (.int of), .val (.int vb), .val (.int vc), .val (.int mo), .val (.int r1), .val (.int x1), .val (.int r2), .val (.int x2), .val (.int r3), .unset] [])) t → Steps p.tables e below (s₁.setTop (mkF m 76 #[.val (.int p1), .val (.int p2), .val (.int p3), .val (.int p4), .val (.int va), .val (.int d1), .val (.int of), .val (.int vb), .val (.int vc), .val (.int mo), .unset, .unset, .unset, .unset, .unset, .unset] [])) t := by
    have go18 : ∀ t, Steps p.tables e below (s₁.setTop (mkF m 78 #[.val (.int p1), .val (.int p2), .val (.int p3), .val (.int p4), .val (.int va), .val (.int d1), .val (.int of), .val (.int vb), .val (.int vc), .val (.int mo), .unset, .unset, .unset, .unset, .unset, .unset] [(.int mo)])) t → Steps p.tables e below (s₁.setTop (mkF m 76 #[.val (.int p1), .val (.int p2), .val (.int p3), .val (.int p4), .val (.int va), .val (.int d1), .val (.int of), .val (.int vb), .val (.int vc), .val (.int mo), .unset, .unset, .unset, .unset, .unset, .unset] [])) t := by
      intro t kt
      show Steps p.tables e below (s₁.setTop (mkF m 76 #[.val (.int p1), .val (.int p2), .val (.int p3), .val (.int p4), .val (.int va), .val (.int d1), .val (.int of), .val (.int vb), .val (.int vc), .val (.int mo), .unset, .unset, .unset, .unset, .unset, .unset] [])) _
      refine XS.iload X0.here hx rfl (hb hby at_76) rfl ?_
      exact kt
    rcases Classical.em (mo = (0 : Int32)) with hc78 | hc78
    · have go19 : ∀ t, Steps p.tables e below (s₁.setTop (mkF m 153 #[.val (.int p1), .val (.int p2), .val (.int p3), .val (.int p4), .val (.int va), .val (.int d1), .val (.int of), .val (.int vb), .val (.int vc), .val (.int mo), .val (.int va), .val (.int vb), .val (.int vb), .val (.int vc), .val (.int vc), .unset] [])) t → Steps p.tables e below (s₁.setTop (mkF m 78 #[.val (.int p1), .val (.int p2), .val (.int p3), .val (.int p4), .val (.int va), .val (.int d1), .val (.int of), .val (.int vb), .val (.int vc), .val (.int mo), .unset, .unset, .unset, .unset, .unset, .unset] [(.int mo)])) t := by
        intro t kt
        show Steps p.tables e below (s₁.setTop (mkF m 78 #[.val (.int p1), .val (.int p2), .val (.int p3), .val (.int p4), .val (.int va), .val (.int d1), .val (.int of), .val (.int vb), .val (.int vc), .val (.int mo), .unset, .unset, .unset, .unset, .unset, .unset] [(.int mo)])) _
        refine XS.ifNo X0.here hx rfl (hb hby at_78) rfl ((if0 _ _).trans (teq hc78).2) ?_
        show Steps p.tables e below (s₁.setTop (mkF m 81 #[.val (.int p1), .val (.int p2), .val (.int p3), .val (.int p4), .val (.int va), .val (.int d1), .val (.int of), .val (.int vb), .val (.int vc), .val (.int mo), .unset, .unset, .unset, .unset, .unset, .unset] [])) _
        refine XS.iload X0.here hx rfl (hb hby at_81) rfl ?_
        show Steps p.tables e below (s₁.setTop (mkF m 83 #[.val (.int p1), .val (.int p2), .val (.int p3), .val (.int p4), .val (.int va), .val (.int d1), .val (.int of), .val (.int vb), .val (.int vc), .val (.int mo), .unset, .unset, .unset, .unset, .unset, .unset] [(.int va)])) _
        refine XS.istore X0.here hx rfl (hb hby at_83) rfl (l' := #[.val (.int p1), .val (.int p2), .val (.int p3), .val (.int p4), .val (.int va), .val (.int d1), .val (.int of), .val (.int vb), .val (.int vc), .val (.int mo), .val (.int va), .unset, .unset, .unset, .unset, .unset]) rfl ?_
        show Steps p.tables e below (s₁.setTop (mkF m 85 #[.val (.int p1), .val (.int p2), .val (.int p3), .val (.int p4), .val (.int va), .val (.int d1), .val (.int of), .val (.int vb), .val (.int vc), .val (.int mo), .val (.int va), .unset, .unset, .unset, .unset, .unset] [])) _
        refine XS.iload X0.here hx rfl (hb hby at_85) rfl ?_
        show Steps p.tables e below (s₁.setTop (mkF m 87 #[.val (.int p1), .val (.int p2), .val (.int p3), .val (.int p4), .val (.int va), .val (.int d1), .val (.int of), .val (.int vb), .val (.int vc), .val (.int mo), .val (.int va), .unset, .unset, .unset, .unset, .unset] [(.int vb)])) _
        refine XS.istore X0.here hx rfl (hb hby at_87) rfl (l' := #[.val (.int p1), .val (.int p2), .val (.int p3), .val (.int p4), .val (.int va), .val (.int d1), .val (.int of), .val (.int vb), .val (.int vc), .val (.int mo), .val (.int va), .val (.int vb), .unset, .unset, .unset, .unset]) rfl ?_
        show Steps p.tables e below (s₁.setTop (mkF m 89 #[.val (.int p1), .val (.int p2), .val (.int p3), .val (.int p4), .val (.int va), .val (.int d1), .val (.int of), .val (.int vb), .val (.int vc), .val (.int mo), .val (.int va), .val (.int vb), .unset, .unset, .unset, .unset] [])) _
        refine XS.iload X0.here hx rfl (hb hby at_89) rfl ?_
        show Steps p.tables e below (s₁.setTop (mkF m 91 #[.val (.int p1), .val (.int p2), .val (.int p3), .val (.int p4), .val (.int va), .val (.int d1), .val (.int of), .val (.int vb), .val (.int vc), .val (.int mo), .val (.int va), .val (.int vb), .unset, .unset, .unset, .unset] [(.int vb)])) _
        refine XS.istore X0.here hx rfl (hb hby at_91) rfl (l' := #[.val (.int p1), .val (.int p2), .val (.int p3), .val (.int p4), .val (.int va), .val (.int d1), .val (.int of), .val (.int vb), .val (.int vc), .val (.int mo), .val (.int va), .val (.int vb), .val (.int vb), .unset, .unset, .unset]) rfl ?_
        show Steps p.tables e below (s₁.setTop (mkF m 93 #[.val (.int p1), .val (.int p2), .val (.int p3), .val (.int p4), .val (.int va), .val (.int d1), .val (.int of), .val (.int vb), .val (.int vc), .val (.int mo), .val (.int va), .val (.int vb), .val (.int vb), .unset, .unset, .unset] [])) _
        refine XS.iload X0.here hx rfl (hb hby at_93) rfl ?_
        show Steps p.tables e below (s₁.setTop (mkF m 95 #[.val (.int p1), .val (.int p2), .val (.int p3), .val (.int p4), .val (.int va), .val (.int d1), .val (.int of), .val (.int vb), .val (.int vc), .val (.int mo), .val (.int va), .val (.int vb), .val (.int vb), .unset, .unset, .unset] [(.int vc)])) _
        refine XS.istore X0.here hx rfl (hb hby at_95) rfl (l' := #[.val (.int p1), .val (.int p2), .val (.int p3), .val (.int p4), .val (.int va), .val (.int d1), .val (.int of), .val (.int vb), .val (.int vc), .val (.int mo), .val (.int va), .val (.int vb), .val (.int vb), .val (.int vc), .unset, .unset]) rfl ?_
        show Steps p.tables e below (s₁.setTop (mkF m 97 #[.val (.int p1), .val (.int p2), .val (.int p3), .val (.int p4), .val (.int va), .val (.int d1), .val (.int of), .val (.int vb), .val (.int vc), .val (.int mo), .val (.int va), .val (.int vb), .val (.int vb), .val (.int vc), .unset, .unset] [])) _
        refine XS.iload X0.here hx rfl (hb hby at_97) rfl ?_
        show Steps p.tables e below (s₁.setTop (mkF m 99 #[.val (.int p1), .val (.int p2), .val (.int p3), .val (.int p4), .val (.int va), .val (.int d1), .val (.int of), .val (.int vb), .val (.int vc), .val (.int mo), .val (.int va), .val (.int vb), .val (.int vb), .val (.int vc), .unset, .unset] [(.int vc)])) _
        refine XS.istore X0.here hx rfl (hb hby at_99) rfl (l' := #[.val (.int p1), .val (.int p2), .val (.int p3), .val (.int p4), .val (.int va), .val (.int d1), .val (.int of), .val (.int vb), .val (.int vc), .val (.int mo), .val (.int va), .val (.int vb), .val (.int vb), .val (.int vc), .val (.int vc), .unset]) rfl ?_
        show Steps p.tables e below (s₁.setTop (mkF m 101 #[.val (.int p1), .val (.int p2), .val (.int p3), .val (.int p4), .val (.int va), .val (.int d1), .val (.int of), .val (.int vb), .val (.int vc), .val (.int mo), .val (.int va), .val (.int vb), .val (.int vb), .val (.int vc), .val (.int vc), .unset] [])) _
        refine XS.goto X0.here hx rfl (pc0 := 101) (pc' := 153) rfl (hb hby at_101) (by decide) (by decide) ?_
        exact kt
      exact ⟨va, vb, vb, vc, vc, (own_all va vb vc hvb).1, fun t kt => (go18 t (go19 t kt))⟩
    · have go20 : ∀ t, Steps p.tables e below (s₁.setTop (mkF m 107 #[.val (.int p1), .val (.int p2), .val (.int p3), .val (.int p4), .val (.int va), .val (.int d1), .val (.int of), .val (.int vb), .val (.int vc), .val (.int mo), .unset, .unset, .unset, .unset, .unset, .unset] [(.int (1 : Int32)), (.int mo)])) t → Steps p.tables e below (s₁.setTop (mkF m 78 #[.val (.int p1), .val (.int p2), .val (.int p3), .val (.int p4), .val (.int va), .val (.int d1), .val (.int of), .val (.int vb), .val (.int vc), .val (.int mo), .unset, .unset, .unset, .unset, .unset, .unset] [(.int mo)])) t := by
        intro t kt
        show Steps p.tables e below (s₁.setTop (mkF m 78 #[.val (.int p1), .val (.int p2), .val (.int p3), .val (.int p4), .val (.int va), .val (.int d1), .val (.int of), .val (.int vb), .val (.int vc), .val (.int mo), .unset, .unset, .unset, .unset, .unset, .unset] [(.int mo)])) _
        refine XS.ifYes X0.here hx rfl (pc0 := 78) (pc' := 104) rfl (hb hby at_78) rfl ((if0 _ _).trans (feq hc78).2) (by decide) (by decide) ?_
        show Steps p.tables e below (s₁.setTop (mkF m 104 #[.val (.int p1), .val (.int p2), .val (.int p3), .val (.int p4), .val (.int va), .val (.int d1), .val (.int of), .val (.int vb), .val (.int vc), .val (.int mo), .unset, .unset, .unset, .unset, .unset, .unset] [])) _
        refine XS.iload X0.here hx rfl (hb hby at_104) rfl ?_
        show Steps p.tables e below (s₁.setTop (mkF m 106 #[.val (.int p1), .val (.int p2), .val (.int p3), .val (.int p4), .val (.int va), .val (.int d1), .val (.int of), .val (.int vb), .val (.int vc), .val (.int mo), .unset, .unset, .unset, .unset, .unset, .unset] [(.int mo)])) _
        refine XS.iconst X0.here hx rfl (hb hby at_106) ?_
        exact kt
      rcases Classical.em (mo = (1 : Int32)) with hc107 | hc107
      · have go21 : ∀ t, Steps p.tables e below (s₁.setTop (mkF m 153 #[.val (.int p1), .val (.int p2), .val (.int p3), .val (.int p4), .val (.int va), .val (.int d1), .val (.int of), .val (.int vb), .val (.int vc), .val (.int mo), .val (.int vb), .val (.int va), .val (.int va), .val (.int vc), .val (.int vc), .unset] [])) t → Steps p.tables e below (s₁.setTop (mkF m 107 #[.val (.int p1), .val (.int p2), .val (.int p3), .val (.int p4), .val (.int va), .val (.int d1), .val (.int of), .val (.int vb), .val (.int vc), .val (.int mo), .unset, .unset, .unset, .unset, .unset, .unset] [(.int (1 : Int32)), (.int mo)])) t := by
          intro t kt
          show Steps p.tables e below (s₁.setTop (mkF m 107 #[.val (.int p1), .val (.int p2), .val (.int p3), .val (.int p4), .val (.int va), .val (.int d1), .val (.int of), .val (.int vb), .val (.int vc), .val (.int mo), .unset, .unset, .unset, .unset, .unset, .unset] [(.int (1 : Int32)), (.int mo)])) _
          refine XS.icmpNo X0.here hx rfl (hb hby at_107) rfl (teq hc107).2 ?_
          show Steps p.tables e below (s₁.setTop (mkF m 110 #[.val (.int p1), .val (.int p2), .val (.int p3), .val (.int p4), .val (.int va), .val (.int d1), .val (.int of), .val (.int vb), .val (.int vc), .val (.int mo), .unset, .unset, .unset, .unset, .unset, .unset] [])) _
          refine XS.iload X0.here hx rfl (hb hby at_110) rfl ?_
          show Steps p.tables e below (s₁.setTop (mkF m 112 #[.val (.int p1), .val (.int p2), .val (.int p3), .val (.int p4), .val (.int va), .val (.int d1), .val (.int of), .val (.int vb), .val (.int vc), .val (.int mo), .unset, .unset, .unset, .unset, .unset, .unset] [(.int vb)])) _
          refine XS.istore X0.here hx rfl (hb hby at_112) rfl (l' := #[.val (.int p1), .val (.int p2), .val (.int p3), .val (.int p4), .val (.int va), .val (.int d1), .val (.int of), .val (.int vb), .val (.int vc), .val (.int mo), .val (.int vb), .unset, .unset, .unset, .unset, .unset]) rfl ?_
          show Steps p.tables e below (s₁.setTop (mkF m 114 #[.val (.int p1), .val (.int p2), .val (.int p3), .val (.int p4), .val (.int va), .val (.int d1), .val (.int of), .val (.int vb), .val (.int vc), .val (.int mo), .val (.int vb), .unset, .unset, .unset, .unset, .unset] [])) _
          refine XS.iload X0.here hx rfl (hb hby at_114) rfl ?_
          show Steps p.tables e below (s₁.setTop (mkF m 116 #[.val (.int p1), .val (.int p2), .val (.int p3), .val (.int p4), .val (.int va), .val (.int d1), .val (.int of), .val (.int vb), .val (.int vc), .val (.int mo), .val (.int vb), .unset, .unset, .unset, .unset, .unset] [(.int va)])) _
          refine XS.istore X0.here hx rfl (hb hby at_116) rfl (l' := #[.val (.int p1), .val (.int p2), .val (.int p3), .val (.int p4), .val (.int va), .val (.int d1), .val (.int of), .val (.int vb), .val (.int vc), .val (.int mo), .val (.int vb), .val (.int va), .unset, .unset, .unset, .unset]) rfl ?_
          show Steps p.tables e below (s₁.setTop (mkF m 118 #[.val (.int p1), .val (.int p2), .val (.int p3), .val (.int p4), .val (.int va), .val (.int d1), .val (.int of), .val (.int vb), .val (.int vc), .val (.int mo), .val (.int vb), .val (.int va), .unset, .unset, .unset, .unset] [])) _
          refine XS.iload X0.here hx rfl (hb hby at_118) rfl ?_
          show Steps p.tables e below (s₁.setTop (mkF m 120 #[.val (.int p1), .val (.int p2), .val (.int p3), .val (.int p4), .val (.int va), .val (.int d1), .val (.int of), .val (.int vb), .val (.int vc), .val (.int mo), .val (.int vb), .val (.int va), .unset, .unset, .unset, .unset] [(.int va)])) _
          refine XS.istore X0.here hx rfl (hb hby at_120) rfl (l' := #[.val (.int p1), .val (.int p2), .val (.int p3), .val (.int p4), .val (.int va), .val (.int d1), .val (.int of), .val (.int vb), .val (.int vc), .val (.int mo), .val (.int vb), .val (.int va), .val (.int va), .unset, .unset, .unset]) rfl ?_
          show Steps p.tables e below (s₁.setTop (mkF m 122 #[.val (.int p1), .val (.int p2), .val (.int p3), .val (.int p4), .val (.int va), .val (.int d1), .val (.int of), .val (.int vb), .val (.int vc), .val (.int mo), .val (.int vb), .val (.int va), .val (.int va), .unset, .unset, .unset] [])) _
          refine XS.iload X0.here hx rfl (hb hby at_122) rfl ?_
          show Steps p.tables e below (s₁.setTop (mkF m 124 #[.val (.int p1), .val (.int p2), .val (.int p3), .val (.int p4), .val (.int va), .val (.int d1), .val (.int of), .val (.int vb), .val (.int vc), .val (.int mo), .val (.int vb), .val (.int va), .val (.int va), .unset, .unset, .unset] [(.int vc)])) _
          refine XS.istore X0.here hx rfl (hb hby at_124) rfl (l' := #[.val (.int p1), .val (.int p2), .val (.int p3), .val (.int p4), .val (.int va), .val (.int d1), .val (.int of), .val (.int vb), .val (.int vc), .val (.int mo), .val (.int vb), .val (.int va), .val (.int va), .val (.int vc), .unset, .unset]) rfl ?_
          show Steps p.tables e below (s₁.setTop (mkF m 126 #[.val (.int p1), .val (.int p2), .val (.int p3), .val (.int p4), .val (.int va), .val (.int d1), .val (.int of), .val (.int vb), .val (.int vc), .val (.int mo), .val (.int vb), .val (.int va), .val (.int va), .val (.int vc), .unset, .unset] [])) _
          refine XS.iload X0.here hx rfl (hb hby at_126) rfl ?_
          show Steps p.tables e below (s₁.setTop (mkF m 128 #[.val (.int p1), .val (.int p2), .val (.int p3), .val (.int p4), .val (.int va), .val (.int d1), .val (.int of), .val (.int vb), .val (.int vc), .val (.int mo), .val (.int vb), .val (.int va), .val (.int va), .val (.int vc), .unset, .unset] [(.int vc)])) _
          refine XS.istore X0.here hx rfl (hb hby at_128) rfl (l' := #[.val (.int p1), .val (.int p2), .val (.int p3), .val (.int p4), .val (.int va), .val (.int d1), .val (.int of), .val (.int vb), .val (.int vc), .val (.int mo), .val (.int vb), .val (.int va), .val (.int va), .val (.int vc), .val (.int vc), .unset]) rfl ?_
          show Steps p.tables e below (s₁.setTop (mkF m 130 #[.val (.int p1), .val (.int p2), .val (.int p3), .val (.int p4), .val (.int va), .val (.int d1), .val (.int of), .val (.int vb), .val (.int vc), .val (.int mo), .val (.int vb), .val (.int va), .val (.int va), .val (.int vc), .val (.int vc), .unset] [])) _
          refine XS.goto X0.here hx rfl (pc0 := 130) (pc' := 153) rfl (hb hby at_130) (by decide) (by decide) ?_
          exact kt
        exact ⟨vb, va, va, vc, vc, (own_all va vb vc hvb).2.1, fun t kt => (go18 t (go20 t (go21 t kt)))⟩
      · have go22 : ∀ t, Steps p.tables e below (s₁.setTop (mkF m 153 #[.val (.int p1), .val (.int p2), .val (.int p3), .val (.int p4), .val (.int va), .val (.int d1), .val (.int of), .val (.int vb), .val (.int vc), .val (.int mo), .val (.int vc), .val (.int va), .val (.int va), .val (.int vb), .val (.int vb), .unset] [])) t → Steps p.tables e below (s₁.setTop (mkF m 107 #[.val (.int p1), .val (.int p2), .val (.int p3), .val (.int p4), .val (.int va), .val (.int d1), .val (.int of), .val (.int vb), .val (.int vc), .val (.int mo), .unset, .unset, .unset, .unset, .unset, .unset] [(.int (1 : Int32)), (.int mo)])) t := by
          intro t kt
          show Steps p.tables e below (s₁.setTop (mkF m 107 #[.val (.int p1), .val (.int p2), .val (.int p3), .val (.int p4), .val (.int va), .val (.int d1), .val (.int of), .val (.int vb), .val (.int vc), .val (.int mo), .unset, .unset, .unset, .unset, .unset, .unset] [(.int (1 : Int32)), (.int mo)])) _
          refine XS.icmpYes X0.here hx rfl (pc0 := 107) (pc' := 133) rfl (hb hby at_107) rfl (feq hc107).2 (by decide) (by decide) ?_
          show Steps p.tables e below (s₁.setTop (mkF m 133 #[.val (.int p1), .val (.int p2), .val (.int p3), .val (.int p4), .val (.int va), .val (.int d1), .val (.int of), .val (.int vb), .val (.int vc), .val (.int mo), .unset, .unset, .unset, .unset, .unset, .unset] [])) _
          refine XS.iload X0.here hx rfl (hb hby at_133) rfl ?_
          show Steps p.tables e below (s₁.setTop (mkF m 135 #[.val (.int p1), .val (.int p2), .val (.int p3), .val (.int p4), .val (.int va), .val (.int d1), .val (.int of), .val (.int vb), .val (.int vc), .val (.int mo), .unset, .unset, .unset, .unset, .unset, .unset] [(.int vc)])) _
          refine XS.istore X0.here hx rfl (hb hby at_135) rfl (l' := #[.val (.int p1), .val (.int p2), .val (.int p3), .val (.int p4), .val (.int va), .val (.int d1), .val (.int of), .val (.int vb), .val (.int vc), .val (.int mo), .val (.int vc), .unset, .unset, .unset, .unset, .unset]) rfl ?_
          show Steps p.tables e below (s₁.setTop (mkF m 137 #[.val (.int p1), .val (.int p2), .val (.int p3), .val (.int p4), .val (.int va), .val (.int d1), .val (.int of), .val (.int vb), .val (.int vc), .val (.int mo), .val (.int vc), .unset, .unset, .unset, .unset, .unset] [])) _
          refine XS.iload X0.here hx rfl (hb hby at_137) rfl ?_
          show Steps p.tables e below (s₁.setTop (mkF m 139 #[.val (.int p1), .val (.int p2), .val (.int p3), .val (.int p4), .val (.int va), .val (.int d1), .val (.int of), .val (.int vb), .val (.int vc), .val (.int mo), .val (.int vc), .unset, .unset, .unset, .unset, .unset] [(.int va)])) _
          refine XS.istore X0.here hx rfl (hb hby at_139) rfl (l' := #[.val (.int p1), .val (.int p2), .val (.int p3), .val (.int p4), .val (.int va), .val (.int d1), .val (.int of), .val (.int vb), .val (.int vc), .val (.int mo), .val (.int vc), .val (.int va), .unset, .unset, .unset, .unset]) rfl ?_
          show Steps p.tables e below (s₁.setTop (mkF m 141 #[.val (.int p1), .val (.int p2), .val (.int p3), .val (.int p4), .val (.int va), .val (.int d1), .val (.int of), .val (.int vb), .val (.int vc), .val (.int mo), .val (.int vc), .val (.int va), .unset, .unset, .unset, .unset] [])) _
          refine XS.iload X0.here hx rfl (hb hby at_141) rfl ?_
          show Steps p.tables e below (s₁.setTop (mkF m 143 #[.val (.int p1), .val (.int p2), .val (.int p3), .val (.int p4), .val (.int va), .val (.int d1), .val (.int of), .val (.int vb), .val (.int vc), .val (.int mo), .val (.int vc), .val (.int va), .unset, .unset, .unset, .unset] [(.int va)])) _
          refine XS.istore X0.here hx rfl (hb hby at_143) rfl (l' := #[.val (.int p1), .val (.int p2), .val (.int p3), .val (.int p4), .val (.int va), .val (.int d1), .val (.int of), .val (.int vb), .val (.int vc), .val (.int mo), .val (.int vc), .val (.int va), .val (.int va), .unset, .unset, .unset]) rfl ?_
          show Steps p.tables e below (s₁.setTop (mkF m 145 #[.val (.int p1), .val (.int p2), .val (.int p3), .val (.int p4), .val (.int va), .val (.int d1), .val (.int of), .val (.int vb), .val (.int vc), .val (.int mo), .val (.int vc), .val (.int va), .val (.int va), .unset, .unset, .unset] [])) _
          refine XS.iload X0.here hx rfl (hb hby at_145) rfl ?_
          show Steps p.tables e below (s₁.setTop (mkF m 147 #[.val (.int p1), .val (.int p2), .val (.int p3), .val (.int p4), .val (.int va), .val (.int d1), .val (.int of), .val (.int vb), .val (.int vc), .val (.int mo), .val (.int vc), .val (.int va), .val (.int va), .unset, .unset, .unset] [(.int vb)])) _
          refine XS.istore X0.here hx rfl (hb hby at_147) rfl (l' := #[.val (.int p1), .val (.int p2), .val (.int p3), .val (.int p4), .val (.int va), .val (.int d1), .val (.int of), .val (.int vb), .val (.int vc), .val (.int mo), .val (.int vc), .val (.int va), .val (.int va), .val (.int vb), .unset, .unset]) rfl ?_
          show Steps p.tables e below (s₁.setTop (mkF m 149 #[.val (.int p1), .val (.int p2), .val (.int p3), .val (.int p4), .val (.int va), .val (.int d1), .val (.int of), .val (.int vb), .val (.int vc), .val (.int mo), .val (.int vc), .val (.int va), .val (.int va), .val (.int vb), .unset, .unset] [])) _
          refine XS.iload X0.here hx rfl (hb hby at_149) rfl ?_
          show Steps p.tables e below (s₁.setTop (mkF m 151 #[.val (.int p1), .val (.int p2), .val (.int p3), .val (.int p4), .val (.int va), .val (.int d1), .val (.int of), .val (.int vb), .val (.int vc), .val (.int mo), .val (.int vc), .val (.int va), .val (.int va), .val (.int vb), .unset, .unset] [(.int vb)])) _
          refine XS.istore X0.here hx rfl (hb hby at_151) rfl (l' := #[.val (.int p1), .val (.int p2), .val (.int p3), .val (.int p4), .val (.int va), .val (.int d1), .val (.int of), .val (.int vb), .val (.int vc), .val (.int mo), .val (.int vc), .val (.int va), .val (.int va), .val (.int vb), .val (.int vb), .unset]) rfl ?_
          exact kt
        exact ⟨vc, va, va, vb, vb, (own_all va vb vc hvb).2.2, fun t kt => (go18 t (go20 t (go22 t kt)))⟩
  refine own_go go17 ?_
  obtain ⟨g100, hg100⟩ : ∃ g : Int32 × Int32 × List Int32, g = own_s0 := ⟨_, rfl⟩
  obtain ⟨g101, hg101⟩ : ∃ g : Int32 × Int32 × List Int32, g = own_app g100 va := ⟨_, rfl⟩
  obtain ⟨g102, hg102⟩ : ∃ g : Int32 × Int32 × List Int32, g = own_app g101 vb := ⟨_, rfl⟩
  obtain ⟨g103, hg103⟩ : ∃ g : Int32 × Int32 × List Int32, g = own_app g102 vc := ⟨_, rfl⟩
  obtain ⟨g104, hg104⟩ : ∃ g : Int32 × Int32 × List Int32, g = own_unl g103 r1 := ⟨_, rfl⟩
  obtain ⟨g105, hg105⟩ : ∃ g : Int32 × Int32 × List Int32, g = own_unl g104 r2 := ⟨_, rfl⟩
  obtain ⟨g106, hg106⟩ : ∃ g : Int32 × Int32 × List Int32, g = own_unl g105 r3 := ⟨_, rfl⟩
  obtain ⟨c0', c1', c2', c3', c4', c5', c6'⟩ := own_chk_g hr1 hg100 hg101 hg102 hg103 hg104 hg105 hg106
  obtain ⟨ja, jb, jc⟩ := own_okj hvb
  obtain ⟨T23, h23, X23, e23, E23, A23, D23, -, st23⟩ := newO X0 hx hZ hown (hw _ (List.mem_of_getElem? (i := 1) rfl)) (hw _ (List.mem_of_getElem? (i := 2) rfl)) (hw _ (List.mem_of_getElem? (i := 3) rfl)) e0 (g := (mkF m 153 #[.val (.int p1), .val (.int p2), .val (.int p3), .val (.int p4), .val (.int va), .val (.int d1), .val (.int of), .val (.int vb), .val (.int vc), .val (.int mo), .val (.int r1), .val (.int x1), .val (.int r2), .val (.int x2), .val (.int r3), .unset] [])) rfl (hb hby at_153) (by decide) (by decide)
  obtain ⟨r, g23⟩ : ∃ z, z = h0.size := ⟨_, rfl⟩
  rw [← g23] at A23 D23 st23
  have g_r : n0 ≤ r := Nat.le_trans Z0 (Nat.le_of_eq g23.symm)
  have F23_r_links : Fld Z h23 r "com/example/loadgate/loadgate/NodeOrder" "links" "[I" .null := D23 (Or.inl (hw _ (List.mem_of_getElem? (i := 12) rfl))) (ty := (.array .int)) (by decide)
  have F23_r_eldest : Fld Z h23 r "com/example/loadgate/loadgate/NodeOrder" "eldest" "I" (.int (0 : Int32)) := D23 (Or.inl (hw _ (List.mem_of_getElem? (i := 14) rfl))) (ty := .int) (by decide)
  have F23_r_newest : Fld Z h23 r "com/example/loadgate/loadgate/NodeOrder" "newest" "I" (.int (0 : Int32)) := D23 (Or.inl (hw _ (List.mem_of_getElem? (i := 16) rfl))) (ty := .int) (by decide)
  refine own_go (S' := T23.setTop (mkF m 156 #[.val (.int p1), .val (.int p2), .val (.int p3), .val (.int p4), .val (.int va), .val (.int d1), .val (.int of), .val (.int vb), .val (.int vc), .val (.int mo), .val (.int r1), .val (.int x1), .val (.int r2), .val (.int x2), .val (.int r3), .unset] [(.ref r)])) st23 ?_
  have go24 : ∀ t, Steps p.tables e below (T23.setTop (mkF m 157 #[.val (.int p1), .val (.int p2), .val (.int p3), .val (.int p4), .val (.int va), .val (.int d1), .val (.int of), .val (.int vb), .val (.int vc), .val (.int mo), .val (.int r1), .val (.int x1), .val (.int r2), .val (.int x2), .val (.int r3), .unset] [(.ref r), (.ref r)])) t → Steps p.tables e below (T23.setTop (mkF m 156 #[.val (.int p1), .val (.int p2), .val (.int p3), .val (.int p4), .val (.int va), .val (.int d1), .val (.int of), .val (.int vb), .val (.int vc), .val (.int mo), .val (.int r1), .val (.int x1), .val (.int r2), .val (.int x2), .val (.int r3), .unset] [(.ref r)])) t := by
    intro t kt
    show Steps p.tables e below (T23.setTop (mkF m 156 #[.val (.int p1), .val (.int p2), .val (.int p3), .val (.int p4), .val (.int va), .val (.int d1), .val (.int of), .val (.int vb), .val (.int vc), .val (.int mo), .val (.int r1), .val (.int x1), .val (.int r2), .val (.int x2), .val (.int r3), .unset] [(.ref r)])) _
    refine XS.dup X23.here hx rfl (hb hby at_156) rfl rfl ?_
    exact kt
  refine own_go go24 ?_
  obtain ⟨_, _, ⟨T25, L25, k25, n25⟩, -, X25, ⟨Lc25, hQ25, l25, y25, z25⟩, st25⟩ := X23.specialBack hx (y := (⟨"com/example/loadgate/loadgate/NodeOrder", "<init>", "()V"⟩ : MethodName)) rfl hown (mvT hZ (hw _ (List.mem_of_getElem? (i := 4) rfl))) (mvT hZ (hw _ (List.mem_of_getElem? (i := 5) rfl))) (mvT hZ (hw _ (List.mem_of_getElem? (i := 6) rfl))) (by decide) (backOf (W := 1) (rm1 l Z a0 hw [] r h23 n0 (Nat.le_trans Z0 E23.1) A23 F23_r_links F23_r_eldest F23_r_newest g_r) hZ (hw _ (List.mem_of_getElem? (i := 6) rfl)) (hw _ (List.mem_of_getElem? (i := 3) rfl)) (by decide) (by decide)) (g := (mkF m 157 #[.val (.int p1), .val (.int p2), .val (.int p3), .val (.int p4), .val (.int va), .val (.int d1), .val (.int of), .val (.int vb), .val (.int vc), .val (.int mo), .val (.int r1), .val (.int x1), .val (.int r2), .val (.int x2), .val (.int r3), .unset] [(.ref r), (.ref r)])) rfl (by rw [hml]; rfl) (Steps.refl _) (a := r) (argsL := []) (rest := [(.ref r)]) (lenOf pd_3 rfl) rfl (by show 2 * 0 + _ ≤ _; exact Nat.le_of_eq rfl) (hb hby at_157) (fun _ _ => ⟨rfl, e23, (by decide : 1 + 1 ≤ _), (by decide : 3 + 0 ≤ _)⟩)
  dsimp only [Pt.U, Pt.locs, Pt.cells, Pt.slots] at X25 l25 y25 z25 st25 hQ25
  subst l25 y25 z25
  obtain ⟨rfl, N25q, b0, k0, gb0, nb0, E1, Fl1, Fe1, Fn1, V1⟩ := hQ25
  have N25 := Fr.app N0 N25q
  refine own_go (S' := T25.setTop (mkF m 160 #[.val (.int p1), .val (.int p2), .val (.int p3), .val (.int p4), .val (.int va), .val (.int d1), .val (.int of), .val (.int vb), .val (.int vc), .val (.int mo), .val (.int r1), .val (.int x1), .val (.int r2), .val (.int x2), .val (.int r3), .unset] [(.ref r)])) (fun t k => st25.trans k) ?_
  have go26 : ∀ t, Steps p.tables e below (T25.setTop (mkF m 165 #[.val (.int p1), .val (.int p2), .val (.int p3), .val (.int p4), .val (.int va), .val (.int d1), .val (.int of), .val (.int vb), .val (.int vc), .val (.int mo), .val (.int r1), .val (.int x1), .val (.int r2), .val (.int x2), .val (.int r3), .val (.ref r)] [(.int (4 : Int32)), (.ref r)])) t → Steps p.tables e below (T25.setTop (mkF m 160 #[.val (.int p1), .val (.int p2), .val (.int p3), .val (.int p4), .val (.int va), .val (.int d1), .val (.int of), .val (.int vb), .val (.int vc), .val (.int mo), .val (.int r1), .val (.int x1), .val (.int r2), .val (.int x2), .val (.int r3), .unset] [(.ref r)])) t := by
    intro t kt
    show Steps p.tables e below (T25.setTop (mkF m 160 #[.val (.int p1), .val (.int p2), .val (.int p3), .val (.int p4), .val (.int va), .val (.int d1), .val (.int of), .val (.int vb), .val (.int vc), .val (.int mo), .val (.int r1), .val (.int x1), .val (.int r2), .val (.int x2), .val (.int r3), .unset] [(.ref r)])) _
    refine XS.astore X25.here hx rfl (hb hby at_160) rfl rfl (l' := #[.val (.int p1), .val (.int p2), .val (.int p3), .val (.int p4), .val (.int va), .val (.int d1), .val (.int of), .val (.int vb), .val (.int vc), .val (.int mo), .val (.int r1), .val (.int x1), .val (.int r2), .val (.int x2), .val (.int r3), .val (.ref r)]) rfl ?_
    show Steps p.tables e below (T25.setTop (mkF m 162 #[.val (.int p1), .val (.int p2), .val (.int p3), .val (.int p4), .val (.int va), .val (.int d1), .val (.int of), .val (.int vb), .val (.int vc), .val (.int mo), .val (.int r1), .val (.int x1), .val (.int r2), .val (.int x2), .val (.int r3), .val (.ref r)] [])) _
    refine XS.aload X25.here hx rfl (hb hby at_162) rfl rfl ?_
    show Steps p.tables e below (T25.setTop (mkF m 164 #[.val (.int p1), .val (.int p2), .val (.int p3), .val (.int p4), .val (.int va), .val (.int d1), .val (.int of), .val (.int vb), .val (.int vc), .val (.int mo), .val (.int r1), .val (.int x1), .val (.int r2), .val (.int x2), .val (.int r3), .val (.ref r)] [(.ref r)])) _
    refine XS.iconst X25.here hx rfl (hb hby at_164) ?_
    exact kt
  refine own_go go26 ?_
  obtain ⟨cq27, kq27, q27a, q27b, q27c⟩ := isOf hZ rfl E1
  obtain ⟨_, _, ⟨T27, L27, k27, n27⟩, -, X27, ⟨Lc27, hQ27, l27, y27, z27⟩, st27⟩ := X25.virtualBack hx (y := (⟨"com/example/loadgate/loadgate/NodeOrder", "resize", "(I)V"⟩ : MethodName)) (z := (⟨"com/example/loadgate/loadgate/NodeOrder", "resize", "(I)V"⟩ : MethodName)) hown (mvT hZ (hw _ (List.mem_of_getElem? (i := 17) rfl))) (mvT hZ (hw _ (List.mem_of_getElem? (i := 18) rfl))) (notFace_of_selects (args := #[]) (mvT hZ (hw _ (List.mem_of_getElem? (i := 20) rfl)))) (mvT hZ (hw _ (List.mem_of_getElem? (i := 20) rfl))) (mvT hZ (hw _ (List.mem_of_getElem? (i := 19) rfl))) (by decide) (backOf (W := 0) (rm3 l Z a0 hw [] r (4 : Int32) b0 k0 (-1 : Int32) (-1 : Int32) T25.heap n0 (own_szH g_r E1) E1 Fl1 Fe1 Fn1 V1 g_r rfl) hZ (hw _ (List.mem_of_getElem? (i := 21) rfl)) (hw _ (List.mem_of_getElem? (i := 3) rfl)) (by decide) (by decide)) q27a q27c (g := (mkF m 165 #[.val (.int p1), .val (.int p2), .val (.int p3), .val (.int p4), .val (.int va), .val (.int d1), .val (.int of), .val (.int vb), .val (.int vc), .val (.int mo), .val (.int r1), .val (.int x1), .val (.int r2), .val (.int x2), .val (.int r3), .val (.ref r)] [(.int (4 : Int32)), (.ref r)])) rfl (by rw [hml]; rfl) (Steps.refl _) (argsL := [(.int (4 : Int32))]) (rest := []) (lenOf pd_4 rfl) rfl (by show 2 * 0 + _ ≤ _; exact Nat.le_of_eq rfl) (hb hby at_165) (fun _ _ => ⟨rfl, rfl, (by decide : 2 + 1 ≤ _), (by decide : 3 + 8 ≤ _)⟩)
  dsimp only [Pt.U, Pt.locs, Pt.cells, Pt.slots] at X27 l27 y27 z27 st27 hQ27
  subst l27 y27 z27
  obtain ⟨rfl, N27q, b, kb, gb, nb, S0⟩ := hQ27
  have N27 := Fr.app N25 N27q
  refine own_go (S' := T27.setTop (mkF m 168 #[.val (.int p1), .val (.int p2), .val (.int p3), .val (.int p4), .val (.int va), .val (.int d1), .val (.int of), .val (.int vb), .val (.int vc), .val (.int mo), .val (.int r1), .val (.int x1), .val (.int r2), .val (.int x2), .val (.int r3), .val (.ref r)] [])) (fun t k => st27.trans k) ?_
  have R0 : own_S Z T27.heap r b kb g100.1 g100.2.1 g100.2.2 := by rw [hg100]; exact S0
  have ln0 : g100.2.2.length = 8 := by rw [hg100]; exact own_l0
  have go28 : ∀ t, Steps p.tables e below (T27.setTop (mkF m 172 #[.val (.int p1), .val (.int p2), .val (.int p3), .val (.int p4), .val (.int va), .val (.int d1), .val (.int of), .val (.int vb), .val (.int vc), .val (.int mo), .val (.int r1), .val (.int x1), .val (.int r2), .val (.int x2), .val (.int r3), .val (.ref r)] [(.int va), (.ref r)])) t → Steps p.tables e below (T27.setTop (mkF m 168 #[.val (.int p1), .val (.int p2), .val (.int p3), .val (.int p4), .val (.int va), .val (.int d1), .val (.int of), .val (.int vb), .val (.int vc), .val (.int mo), .val (.int r1), .val (.int x1), .val (.int r2), .val (.int x2), .val (.int r3), .val (.ref r)] [])) t := by
    intro t kt
    show Steps p.tables e below (T27.setTop (mkF m 168 #[.val (.int p1), .val (.int p2), .val (.int p3), .val (.int p4), .val (.int va), .val (.int d1), .val (.int of), .val (.int vb), .val (.int vc), .val (.int mo), .val (.int r1), .val (.int x1), .val (.int r2), .val (.int x2), .val (.int r3), .val (.ref r)] [])) _
    refine XS.aload X27.here hx rfl (hb hby at_168) rfl rfl ?_
    show Steps p.tables e below (T27.setTop (mkF m 170 #[.val (.int p1), .val (.int p2), .val (.int p3), .val (.int p4), .val (.int va), .val (.int d1), .val (.int of), .val (.int vb), .val (.int vc), .val (.int mo), .val (.int r1), .val (.int x1), .val (.int r2), .val (.int x2), .val (.int r3), .val (.ref r)] [(.ref r)])) _
    refine XS.iload X27.here hx rfl (hb hby at_170) rfl ?_
    exact kt
  refine own_go go28 ?_
  obtain ⟨cq29, kq29, q29a, q29b, q29c⟩ := isOf hZ rfl R0.1
  obtain ⟨_, _, ⟨T29, L29, k29, n29⟩, -, X29, ⟨Lc29, hQ29, l29, y29, z29⟩, st29⟩ := X27.virtualBack hx (y := (⟨"com/example/loadgate/loadgate/NodeOrder", "append", "(I)V"⟩ : MethodName)) (z := (⟨"com/example/loadgate/loadgate/NodeOrder", "append", "(I)V"⟩ : MethodName)) hown (mvT hZ (hw _ (List.mem_of_getElem? (i := 34) rfl))) (mvT hZ (hw _ (List.mem_of_getElem? (i := 35) rfl))) (notFace_of_selects (args := #[]) (mvT hZ (hw _ (List.mem_of_getElem? (i := 37) rfl)))) (mvT hZ (hw _ (List.mem_of_getElem? (i := 37) rfl))) (mvT hZ (hw _ (List.mem_of_getElem? (i := 36) rfl))) (by decide) (backOf (W := 0) (rm6 l Z a0 hw [] r va b kb g100.1 g100.2.1 g100.2.2 T27.heap n0 (own_szH g_r R0.1) R0 ln0 g_r gb nb ja (by rw [hg100]; decide)) hZ (hw _ (List.mem_of_getElem? (i := 38) rfl)) (hw _ (List.mem_of_getElem? (i := 3) rfl)) (by decide) (by decide)) q29a q29c (g := (mkF m 172 #[.val (.int p1), .val (.int p2), .val (.int p3), .val (.int p4), .val (.int va), .val (.int d1), .val (.int of), .val (.int vb), .val (.int vc), .val (.int mo), .val (.int r1), .val (.int x1), .val (.int r2), .val (.int x2), .val (.int r3), .val (.ref r)] [(.int va), (.ref r)])) rfl (by rw [hml]; rfl) (Steps.refl _) (argsL := [(.int va)]) (rest := []) (lenOf pd_4 rfl) rfl (by show 2 * 0 + _ ≤ _; exact Nat.le_of_eq rfl) (hb hby at_172) (fun _ _ => ⟨rfl, rfl, (by decide : 3 + 0 ≤ _), (by decide : 11 + 0 ≤ _)⟩)
  dsimp only [Pt.U, Pt.locs, Pt.cells, Pt.slots] at X29 l29 y29 z29 st29 hQ29
  subst l29 y29 z29
  obtain ⟨rfl, N29q, S1⟩ := hQ29
  have N29 := Fr.app N27 N29q
  refine own_go (S' := T29.setTop (mkF m 175 #[.val (.int p1), .val (.int p2), .val (.int p3), .val (.int p4), .val (.int va), .val (.int d1), .val (.int of), .val (.int vb), .val (.int vc), .val (.int mo), .val (.int r1), .val (.int x1), .val (.int r2), .val (.int x2), .val (.int r3), .val (.ref r)] [])) (fun t k => st29.trans k) ?_
  have R1 : own_S Z T29.heap r b kb g101.1 g101.2.1 g101.2.2 := by rw [hg101]; exact S1
  have ln1 : g101.2.2.length = 8 := by rw [hg101]; exact own_lApp _ _ ln0
  have go30 : ∀ t, Steps p.tables e below (T29.setTop (mkF m 179 #[.val (.int p1), .val (.int p2), .val (.int p3), .val (.int p4), .val (.int va), .val (.int d1), .val (.int of), .val (.int vb), .val (.int vc), .val (.int mo), .val (.int r1), .val (.int x1), .val (.int r2), .val (.int x2), .val (.int r3), .val (.ref r)] [(.int vb), (.ref r)])) t → Steps p.tables e below (T29.setTop (mkF m 175 #[.val (.int p1), .val (.int p2), .val (.int p3), .val (.int p4), .val (.int va), .val (.int d1), .val (.int of), .val (.int vb), .val (.int vc), .val (.int mo), .val (.int r1), .val (.int x1), .val (.int r2), .val (.int x2), .val (.int r3), .val (.ref r)] [])) t := by
    intro t kt
    show Steps p.tables e below (T29.setTop (mkF m 175 #[.val (.int p1), .val (.int p2), .val (.int p3), .val (.int p4), .val (.int va), .val (.int d1), .val (.int of), .val (.int vb), .val (.int vc), .val (.int mo), .val (.int r1), .val (.int x1), .val (.int r2), .val (.int x2), .val (.int r3), .val (.ref r)] [])) _
    refine XS.aload X29.here hx rfl (hb hby at_175) rfl rfl ?_
    show Steps p.tables e below (T29.setTop (mkF m 177 #[.val (.int p1), .val (.int p2), .val (.int p3), .val (.int p4), .val (.int va), .val (.int d1), .val (.int of), .val (.int vb), .val (.int vc), .val (.int mo), .val (.int r1), .val (.int x1), .val (.int r2), .val (.int x2), .val (.int r3), .val (.ref r)] [(.ref r)])) _
    refine XS.iload X29.here hx rfl (hb hby at_177) rfl ?_
    exact kt
  refine own_go go30 ?_
  obtain ⟨cq31, kq31, q31a, q31b, q31c⟩ := isOf hZ rfl R1.1
  obtain ⟨_, _, ⟨T31, L31, k31, n31⟩, -, X31, ⟨Lc31, hQ31, l31, y31, z31⟩, st31⟩ := X29.virtualBack hx (y := (⟨"com/example/loadgate/loadgate/NodeOrder", "append", "(I)V"⟩ : MethodName)) (z := (⟨"com/example/loadgate/loadgate/NodeOrder", "append", "(I)V"⟩ : MethodName)) hown (mvT hZ (hw _ (List.mem_of_getElem? (i := 34) rfl))) (mvT hZ (hw _ (List.mem_of_getElem? (i := 35) rfl))) (notFace_of_selects (args := #[]) (mvT hZ (hw _ (List.mem_of_getElem? (i := 37) rfl)))) (mvT hZ (hw _ (List.mem_of_getElem? (i := 37) rfl))) (mvT hZ (hw _ (List.mem_of_getElem? (i := 36) rfl))) (by decide) (backOf (W := 0) (rm6 l Z a0 hw [] r vb b kb g101.1 g101.2.1 g101.2.2 T29.heap n0 (own_szH g_r R1.1) R1 ln1 g_r gb nb jb (by rw [hg101]; exact own_jbn ja)) hZ (hw _ (List.mem_of_getElem? (i := 38) rfl)) (hw _ (List.mem_of_getElem? (i := 3) rfl)) (by decide) (by decide)) q31a q31c (g := (mkF m 179 #[.val (.int p1), .val (.int p2), .val (.int p3), .val (.int p4), .val (.int va), .val (.int d1), .val (.int of), .val (.int vb), .val (.int vc), .val (.int mo), .val (.int r1), .val (.int x1), .val (.int r2), .val (.int x2), .val (.int r3), .val (.ref r)] [(.int vb), (.ref r)])) rfl (by rw [hml]; rfl) (Steps.refl _) (argsL := [(.int vb)]) (rest := []) (lenOf pd_4 rfl) rfl (by show 2 * 0 + _ ≤ _; exact Nat.le_of_eq rfl) (hb hby at_179) (fun _ _ => ⟨rfl, rfl, (by decide : 3 + 0 ≤ _), (by decide : 11 + 0 ≤ _)⟩)
  dsimp only [Pt.U, Pt.locs, Pt.cells, Pt.slots] at X31 l31 y31 z31 st31 hQ31
  subst l31 y31 z31
  obtain ⟨rfl, N31q, S2⟩ := hQ31
  have N31 := Fr.app N29 N31q
  refine own_go (S' := T31.setTop (mkF m 182 #[.val (.int p1), .val (.int p2), .val (.int p3), .val (.int p4), .val (.int va), .val (.int d1), .val (.int of), .val (.int vb), .val (.int vc), .val (.int mo), .val (.int r1), .val (.int x1), .val (.int r2), .val (.int x2), .val (.int r3), .val (.ref r)] [])) (fun t k => st31.trans k) ?_
  have R2 : own_S Z T31.heap r b kb g102.1 g102.2.1 g102.2.2 := by rw [hg102]; exact S2
  have ln2 : g102.2.2.length = 8 := by rw [hg102]; exact own_lApp _ _ ln1
  have go32 : ∀ t, Steps p.tables e below (T31.setTop (mkF m 186 #[.val (.int p1), .val (.int p2), .val (.int p3), .val (.int p4), .val (.int va), .val (.int d1), .val (.int of), .val (.int vb), .val (.int vc), .val (.int mo), .val (.int r1), .val (.int x1), .val (.int r2), .val (.int x2), .val (.int r3), .val (.ref r)] [(.int vc), (.ref r)])) t → Steps p.tables e below (T31.setTop (mkF m 182 #[.val (.int p1), .val (.int p2), .val (.int p3), .val (.int p4), .val (.int va), .val (.int d1), .val (.int of), .val (.int vb), .val (.int vc), .val (.int mo), .val (.int r1), .val (.int x1), .val (.int r2), .val (.int x2), .val (.int r3), .val (.ref r)] [])) t := by
    intro t kt
    show Steps p.tables e below (T31.setTop (mkF m 182 #[.val (.int p1), .val (.int p2), .val (.int p3), .val (.int p4), .val (.int va), .val (.int d1), .val (.int of), .val (.int vb), .val (.int vc), .val (.int mo), .val (.int r1), .val (.int x1), .val (.int r2), .val (.int x2), .val (.int r3), .val (.ref r)] [])) _
    refine XS.aload X31.here hx rfl (hb hby at_182) rfl rfl ?_
    show Steps p.tables e below (T31.setTop (mkF m 184 #[.val (.int p1), .val (.int p2), .val (.int p3), .val (.int p4), .val (.int va), .val (.int d1), .val (.int of), .val (.int vb), .val (.int vc), .val (.int mo), .val (.int r1), .val (.int x1), .val (.int r2), .val (.int x2), .val (.int r3), .val (.ref r)] [(.ref r)])) _
    refine XS.iload X31.here hx rfl (hb hby at_184) rfl ?_
    exact kt
  refine own_go go32 ?_
  obtain ⟨cq33, kq33, q33a, q33b, q33c⟩ := isOf hZ rfl R2.1
  obtain ⟨_, _, ⟨T33, L33, k33, n33⟩, -, X33, ⟨Lc33, hQ33, l33, y33, z33⟩, st33⟩ := X31.virtualBack hx (y := (⟨"com/example/loadgate/loadgate/NodeOrder", "append", "(I)V"⟩ : MethodName)) (z := (⟨"com/example/loadgate/loadgate/NodeOrder", "append", "(I)V"⟩ : MethodName)) hown (mvT hZ (hw _ (List.mem_of_getElem? (i := 34) rfl))) (mvT hZ (hw _ (List.mem_of_getElem? (i := 35) rfl))) (notFace_of_selects (args := #[]) (mvT hZ (hw _ (List.mem_of_getElem? (i := 37) rfl)))) (mvT hZ (hw _ (List.mem_of_getElem? (i := 37) rfl))) (mvT hZ (hw _ (List.mem_of_getElem? (i := 36) rfl))) (by decide) (backOf (W := 0) (rm6 l Z a0 hw [] r vc b kb g102.1 g102.2.1 g102.2.2 T31.heap n0 (own_szH g_r R2.1) R2 ln2 g_r gb nb jc (by rw [hg102]; exact own_jbn jb)) hZ (hw _ (List.mem_of_getElem? (i := 38) rfl)) (hw _ (List.mem_of_getElem? (i := 3) rfl)) (by decide) (by decide)) q33a q33c (g := (mkF m 186 #[.val (.int p1), .val (.int p2), .val (.int p3), .val (.int p4), .val (.int va), .val (.int d1), .val (.int of), .val (.int vb), .val (.int vc), .val (.int mo), .val (.int r1), .val (.int x1), .val (.int r2), .val (.int x2), .val (.int r3), .val (.ref r)] [(.int vc), (.ref r)])) rfl (by rw [hml]; rfl) (Steps.refl _) (argsL := [(.int vc)]) (rest := []) (lenOf pd_4 rfl) rfl (by show 2 * 0 + _ ≤ _; exact Nat.le_of_eq rfl) (hb hby at_186) (fun _ _ => ⟨rfl, rfl, (by decide : 3 + 0 ≤ _), (by decide : 11 + 0 ≤ _)⟩)
  dsimp only [Pt.U, Pt.locs, Pt.cells, Pt.slots] at X33 l33 y33 z33 st33 hQ33
  subst l33 y33 z33
  obtain ⟨rfl, N33q, S3⟩ := hQ33
  have N33 := Fr.app N31 N33q
  refine own_go (S' := T33.setTop (mkF m 189 #[.val (.int p1), .val (.int p2), .val (.int p3), .val (.int p4), .val (.int va), .val (.int d1), .val (.int of), .val (.int vb), .val (.int vc), .val (.int mo), .val (.int r1), .val (.int x1), .val (.int r2), .val (.int x2), .val (.int r3), .val (.ref r)] [])) (fun t k => st33.trans k) ?_
  have R3 : own_S Z T33.heap r b kb g103.1 g103.2.1 g103.2.2 := by rw [hg103]; exact S3
  have ln3 : g103.2.2.length = 8 := by rw [hg103]; exact own_lApp _ _ ln2
  have go34 : ∀ t, Steps p.tables e below (T33.setTop (mkF m 191 #[.val (.int p1), .val (.int p2), .val (.int p3), .val (.int p4), .val (.int va), .val (.int d1), .val (.int of), .val (.int vb), .val (.int vc), .val (.int mo), .val (.int r1), .val (.int x1), .val (.int r2), .val (.int x2), .val (.int r3), .val (.ref r)] [(.ref r)])) t → Steps p.tables e below (T33.setTop (mkF m 189 #[.val (.int p1), .val (.int p2), .val (.int p3), .val (.int p4), .val (.int va), .val (.int d1), .val (.int of), .val (.int vb), .val (.int vc), .val (.int mo), .val (.int r1), .val (.int x1), .val (.int r2), .val (.int x2), .val (.int r3), .val (.ref r)] [])) t := by
    intro t kt
    show Steps p.tables e below (T33.setTop (mkF m 189 #[.val (.int p1), .val (.int p2), .val (.int p3), .val (.int p4), .val (.int va), .val (.int d1), .val (.int of), .val (.int vb), .val (.int vc), .val (.int mo), .val (.int r1), .val (.int x1), .val (.int r2), .val (.int x2), .val (.int r3), .val (.ref r)] [])) _
    refine XS.aload X33.here hx rfl (hb hby at_189) rfl rfl ?_
    exact kt
  refine own_go go34 ?_
  obtain ⟨cq35, kq35, q35a, q35b, q35c⟩ := isOf hZ rfl R3.1
  obtain ⟨_, _, ⟨T35, L35, k35, n35⟩, -, X35, ⟨Lc35, hQ35, l35, y35, z35⟩, st35⟩ := X33.virtualBack hx (y := (⟨"com/example/loadgate/loadgate/NodeOrder", "eldest", "()I"⟩ : MethodName)) (z := (⟨"com/example/loadgate/loadgate/NodeOrder", "eldest", "()I"⟩ : MethodName)) hown (mvT hZ (hw _ (List.mem_of_getElem? (i := 43) rfl))) (mvT hZ (hw _ (List.mem_of_getElem? (i := 44) rfl))) (notFace_of_selects (args := #[]) (mvT hZ (hw _ (List.mem_of_getElem? (i := 46) rfl)))) (mvT hZ (hw _ (List.mem_of_getElem? (i := 46) rfl))) (mvT hZ (hw _ (List.mem_of_getElem? (i := 45) rfl))) (by decide) (backOf (W := 0) (rm8 l Z a0 hw [] r b kb g103.1 g103.2.1 g103.2.2 T33.heap n0 (own_szH g_r R3.1) R3) hZ (hw _ (List.mem_of_getElem? (i := 47) rfl)) (hw _ (List.mem_of_getElem? (i := 3) rfl)) (by decide) (by decide)) q35a q35c (g := (mkF m 191 #[.val (.int p1), .val (.int p2), .val (.int p3), .val (.int p4), .val (.int va), .val (.int d1), .val (.int of), .val (.int vb), .val (.int vc), .val (.int mo), .val (.int r1), .val (.int x1), .val (.int r2), .val (.int x2), .val (.int r3), .val (.ref r)] [(.ref r)])) rfl (by rw [hml]; rfl) (Steps.refl _) (argsL := []) (rest := []) (lenOf pd_5 rfl) rfl (by show 2 * 0 + _ ≤ _; exact Nat.le_of_eq rfl) (hb hby at_191) (fun _ _ => ⟨rfl, rfl, (by decide : 3 + 0 ≤ _), (by decide : 11 + 0 ≤ _)⟩)
  dsimp only [Pt.U, Pt.locs, Pt.cells, Pt.slots] at X35 l35 y35 z35 st35 hQ35
  subst l35 y35 z35
  obtain ⟨rfl, N35q, q0⟩ := hQ35
  have N35 := Fr.app N33 N35q
  refine own_go (S' := T35.setTop (mkF m 194 #[.val (.int p1), .val (.int p2), .val (.int p3), .val (.int p4), .val (.int va), .val (.int d1), .val (.int of), .val (.int vb), .val (.int vc), .val (.int mo), .val (.int r1), .val (.int x1), .val (.int r2), .val (.int x2), .val (.int r3), .val (.ref r)] [(.int g103.1)])) (fun t k => st35.trans k) ?_
  have go36 : ∀ t, Steps p.tables e below (T35.setTop (mkF m 205 #[.val (.int p1), .val (.int p2), .val (.int p3), .val (.int p4), .val (.int va), .val (.int d1), .val (.int of), .val (.int vb), .val (.int vc), .val (.int mo), .val (.int r1), .val (.int x1), .val (.int r2), .val (.int x2), .val (.int r3), .val (.ref r)] [(.int r1), (.ref r)])) t → Steps p.tables e below (T35.setTop (mkF m 194 #[.val (.int p1), .val (.int p2), .val (.int p3), .val (.int p4), .val (.int va), .val (.int d1), .val (.int of), .val (.int vb), .val (.int vc), .val (.int mo), .val (.int r1), .val (.int x1), .val (.int r2), .val (.int x2), .val (.int r3), .val (.ref r)] [(.int g103.1)])) t := by
    intro t kt
    show Steps p.tables e below (T35.setTop (mkF m 194 #[.val (.int p1), .val (.int p2), .val (.int p3), .val (.int p4), .val (.int va), .val (.int d1), .val (.int of), .val (.int vb), .val (.int vc), .val (.int mo), .val (.int r1), .val (.int x1), .val (.int r2), .val (.int x2), .val (.int r3), .val (.ref r)] [(.int g103.1)])) _
    refine XS.iload X35.here hx rfl (hb hby at_194) rfl ?_
    show Steps p.tables e below (T35.setTop (mkF m 196 #[.val (.int p1), .val (.int p2), .val (.int p3), .val (.int p4), .val (.int va), .val (.int d1), .val (.int of), .val (.int vb), .val (.int vc), .val (.int mo), .val (.int r1), .val (.int x1), .val (.int r2), .val (.int x2), .val (.int r3), .val (.ref r)] [(.int va), (.int g103.1)])) _
    refine XS.icmpYes X35.here hx rfl (pc0 := 196) (pc' := 201) rfl (hb hby at_196) rfl (teq c0').1 (by decide) (by decide) ?_
    show Steps p.tables e below (T35.setTop (mkF m 201 #[.val (.int p1), .val (.int p2), .val (.int p3), .val (.int p4), .val (.int va), .val (.int d1), .val (.int of), .val (.int vb), .val (.int vc), .val (.int mo), .val (.int r1), .val (.int x1), .val (.int r2), .val (.int x2), .val (.int r3), .val (.ref r)] [])) _
    refine XS.aload X35.here hx rfl (hb hby at_201) rfl rfl ?_
    show Steps p.tables e below (T35.setTop (mkF m 203 #[.val (.int p1), .val (.int p2), .val (.int p3), .val (.int p4), .val (.int va), .val (.int d1), .val (.int of), .val (.int vb), .val (.int vc), .val (.int mo), .val (.int r1), .val (.int x1), .val (.int r2), .val (.int x2), .val (.int r3), .val (.ref r)] [(.ref r)])) _
    refine XS.iload X35.here hx rfl (hb hby at_203) rfl ?_
    exact kt
  refine own_go go36 ?_
  obtain ⟨cq37, kq37, q37a, q37b, q37c⟩ := isOf hZ q0 R3.1
  obtain ⟨_, _, ⟨T37, L37, k37, n37⟩, -, X37, ⟨Lc37, hQ37, l37, y37, z37⟩, st37⟩ := X35.virtualBack hx (y := (⟨"com/example/loadgate/loadgate/NodeOrder", "unlink", "(I)V"⟩ : MethodName)) (z := (⟨"com/example/loadgate/loadgate/NodeOrder", "unlink", "(I)V"⟩ : MethodName)) hown (mvT hZ (hw _ (List.mem_of_getElem? (i := 48) rfl))) (mvT hZ (hw _ (List.mem_of_getElem? (i := 49) rfl))) (notFace_of_selects (args := #[]) (mvT hZ (hw _ (List.mem_of_getElem? (i := 51) rfl)))) (mvT hZ (hw _ (List.mem_of_getElem? (i := 51) rfl))) (mvT hZ (hw _ (List.mem_of_getElem? (i := 50) rfl))) (by decide) (backOf (W := 0) (rm9 l Z a0 hw [] r r1 b kb g103.1 g103.2.1 g103.2.2 T33.heap n0 (own_szH g_r R3.1) R3 ln3 g_r gb nb (own_v1 c1') (own_v2 c1') (own_v3 c1')) hZ (hw _ (List.mem_of_getElem? (i := 52) rfl)) (hw _ (List.mem_of_getElem? (i := 3) rfl)) (by decide) (by decide)) q37a q37c (g := (mkF m 205 #[.val (.int p1), .val (.int p2), .val (.int p3), .val (.int p4), .val (.int va), .val (.int d1), .val (.int of), .val (.int vb), .val (.int vc), .val (.int mo), .val (.int r1), .val (.int x1), .val (.int r2), .val (.int x2), .val (.int r3), .val (.ref r)] [(.int r1), (.ref r)])) rfl (by rw [hml]; rfl) (Steps.refl _) (argsL := [(.int r1)]) (rest := []) (lenOf pd_4 rfl) rfl (by show 2 * 0 + _ ≤ _; exact Nat.le_of_eq rfl) (hb hby at_205) (fun _ _ => ⟨rfl, q0, (by decide : 3 + 0 ≤ _), (by decide : 11 + 0 ≤ _)⟩)
  dsimp only [Pt.U, Pt.locs, Pt.cells, Pt.slots] at X37 l37 y37 z37 st37 hQ37
  subst l37 y37 z37
  obtain ⟨rfl, N37q, S4⟩ := hQ37
  have N37 := Fr.app N35 N37q
  refine own_go (S' := T37.setTop (mkF m 208 #[.val (.int p1), .val (.int p2), .val (.int p3), .val (.int p4), .val (.int va), .val (.int d1), .val (.int of), .val (.int vb), .val (.int vc), .val (.int mo), .val (.int r1), .val (.int x1), .val (.int r2), .val (.int x2), .val (.int r3), .val (.ref r)] [])) (fun t k => st37.trans k) ?_
  have R4 : own_S Z T37.heap r b kb g104.1 g104.2.1 g104.2.2 := by rw [hg104]; exact S4
  have ln4 : g104.2.2.length = 8 := by rw [hg104]; exact own_lUnl _ _ ln3
  have go38 : ∀ t, Steps p.tables e below (T37.setTop (mkF m 210 #[.val (.int p1), .val (.int p2), .val (.int p3), .val (.int p4), .val (.int va), .val (.int d1), .val (.int of), .val (.int vb), .val (.int vc), .val (.int mo), .val (.int r1), .val (.int x1), .val (.int r2), .val (.int x2), .val (.int r3), .val (.ref r)] [(.ref r)])) t → Steps p.tables e below (T37.setTop (mkF m 208 #[.val (.int p1), .val (.int p2), .val (.int p3), .val (.int p4), .val (.int va), .val (.int d1), .val (.int of), .val (.int vb), .val (.int vc), .val (.int mo), .val (.int r1), .val (.int x1), .val (.int r2), .val (.int x2), .val (.int r3), .val (.ref r)] [])) t := by
    intro t kt
    show Steps p.tables e below (T37.setTop (mkF m 208 #[.val (.int p1), .val (.int p2), .val (.int p3), .val (.int p4), .val (.int va), .val (.int d1), .val (.int of), .val (.int vb), .val (.int vc), .val (.int mo), .val (.int r1), .val (.int x1), .val (.int r2), .val (.int x2), .val (.int r3), .val (.ref r)] [])) _
    refine XS.aload X37.here hx rfl (hb hby at_208) rfl rfl ?_
    exact kt
  refine own_go go38 ?_
  obtain ⟨cq39, kq39, q39a, q39b, q39c⟩ := isOf hZ rfl R4.1
  obtain ⟨_, _, ⟨T39, L39, k39, n39⟩, -, X39, ⟨Lc39, hQ39, l39, y39, z39⟩, st39⟩ := X37.virtualBack hx (y := (⟨"com/example/loadgate/loadgate/NodeOrder", "eldest", "()I"⟩ : MethodName)) (z := (⟨"com/example/loadgate/loadgate/NodeOrder", "eldest", "()I"⟩ : MethodName)) hown (mvT hZ (hw _ (List.mem_of_getElem? (i := 43) rfl))) (mvT hZ (hw _ (List.mem_of_getElem? (i := 44) rfl))) (notFace_of_selects (args := #[]) (mvT hZ (hw _ (List.mem_of_getElem? (i := 46) rfl)))) (mvT hZ (hw _ (List.mem_of_getElem? (i := 46) rfl))) (mvT hZ (hw _ (List.mem_of_getElem? (i := 45) rfl))) (by decide) (backOf (W := 0) (rm8 l Z a0 hw [] r b kb g104.1 g104.2.1 g104.2.2 T37.heap n0 (own_szH g_r R4.1) R4) hZ (hw _ (List.mem_of_getElem? (i := 47) rfl)) (hw _ (List.mem_of_getElem? (i := 3) rfl)) (by decide) (by decide)) q39a q39c (g := (mkF m 210 #[.val (.int p1), .val (.int p2), .val (.int p3), .val (.int p4), .val (.int va), .val (.int d1), .val (.int of), .val (.int vb), .val (.int vc), .val (.int mo), .val (.int r1), .val (.int x1), .val (.int r2), .val (.int x2), .val (.int r3), .val (.ref r)] [(.ref r)])) rfl (by rw [hml]; rfl) (Steps.refl _) (argsL := []) (rest := []) (lenOf pd_5 rfl) rfl (by show 2 * 0 + _ ≤ _; exact Nat.le_of_eq rfl) (hb hby at_210) (fun _ _ => ⟨rfl, rfl, (by decide : 3 + 0 ≤ _), (by decide : 11 + 0 ≤ _)⟩)
  dsimp only [Pt.U, Pt.locs, Pt.cells, Pt.slots] at X39 l39 y39 z39 st39 hQ39
  subst l39 y39 z39
  obtain ⟨rfl, N39q, q1⟩ := hQ39
  have N39 := Fr.app N37 N39q
  refine own_go (S' := T39.setTop (mkF m 213 #[.val (.int p1), .val (.int p2), .val (.int p3), .val (.int p4), .val (.int va), .val (.int d1), .val (.int of), .val (.int vb), .val (.int vc), .val (.int mo), .val (.int r1), .val (.int x1), .val (.int r2), .val (.int x2), .val (.int r3), .val (.ref r)] [(.int g104.1)])) (fun t k => st39.trans k) ?_
  have go40 : ∀ t, Steps p.tables e below (T39.setTop (mkF m 224 #[.val (.int p1), .val (.int p2), .val (.int p3), .val (.int p4), .val (.int va), .val (.int d1), .val (.int of), .val (.int vb), .val (.int vc), .val (.int mo), .val (.int r1), .val (.int x1), .val (.int r2), .val (.int x2), .val (.int r3), .val (.ref r)] [(.int r2), (.ref r)])) t → Steps p.tables e below (T39.setTop (mkF m 213 #[.val (.int p1), .val (.int p2), .val (.int p3), .val (.int p4), .val (.int va), .val (.int d1), .val (.int of), .val (.int vb), .val (.int vc), .val (.int mo), .val (.int r1), .val (.int x1), .val (.int r2), .val (.int x2), .val (.int r3), .val (.ref r)] [(.int g104.1)])) t := by
    intro t kt
    show Steps p.tables e below (T39.setTop (mkF m 213 #[.val (.int p1), .val (.int p2), .val (.int p3), .val (.int p4), .val (.int va), .val (.int d1), .val (.int of), .val (.int vb), .val (.int vc), .val (.int mo), .val (.int r1), .val (.int x1), .val (.int r2), .val (.int x2), .val (.int r3), .val (.ref r)] [(.int g104.1)])) _
    refine XS.iload X39.here hx rfl (hb hby at_213) rfl ?_
    show Steps p.tables e below (T39.setTop (mkF m 215 #[.val (.int p1), .val (.int p2), .val (.int p3), .val (.int p4), .val (.int va), .val (.int d1), .val (.int of), .val (.int vb), .val (.int vc), .val (.int mo), .val (.int r1), .val (.int x1), .val (.int r2), .val (.int x2), .val (.int r3), .val (.ref r)] [(.int x1), (.int g104.1)])) _
    refine XS.icmpYes X39.here hx rfl (pc0 := 215) (pc' := 220) rfl (hb hby at_215) rfl (teq c2').1 (by decide) (by decide) ?_
    show Steps p.tables e below (T39.setTop (mkF m 220 #[.val (.int p1), .val (.int p2), .val (.int p3), .val (.int p4), .val (.int va), .val (.int d1), .val (.int of), .val (.int vb), .val (.int vc), .val (.int mo), .val (.int r1), .val (.int x1), .val (.int r2), .val (.int x2), .val (.int r3), .val (.ref r)] [])) _
    refine XS.aload X39.here hx rfl (hb hby at_220) rfl rfl ?_
    show Steps p.tables e below (T39.setTop (mkF m 222 #[.val (.int p1), .val (.int p2), .val (.int p3), .val (.int p4), .val (.int va), .val (.int d1), .val (.int of), .val (.int vb), .val (.int vc), .val (.int mo), .val (.int r1), .val (.int x1), .val (.int r2), .val (.int x2), .val (.int r3), .val (.ref r)] [(.ref r)])) _
    refine XS.iload X39.here hx rfl (hb hby at_222) rfl ?_
    exact kt
  refine own_go go40 ?_
  obtain ⟨cq41, kq41, q41a, q41b, q41c⟩ := isOf hZ q1 R4.1
  obtain ⟨_, _, ⟨T41, L41, k41, n41⟩, -, X41, ⟨Lc41, hQ41, l41, y41, z41⟩, st41⟩ := X39.virtualBack hx (y := (⟨"com/example/loadgate/loadgate/NodeOrder", "unlink", "(I)V"⟩ : MethodName)) (z := (⟨"com/example/loadgate/loadgate/NodeOrder", "unlink", "(I)V"⟩ : MethodName)) hown (mvT hZ (hw _ (List.mem_of_getElem? (i := 48) rfl))) (mvT hZ (hw _ (List.mem_of_getElem? (i := 49) rfl))) (notFace_of_selects (args := #[]) (mvT hZ (hw _ (List.mem_of_getElem? (i := 51) rfl)))) (mvT hZ (hw _ (List.mem_of_getElem? (i := 51) rfl))) (mvT hZ (hw _ (List.mem_of_getElem? (i := 50) rfl))) (by decide) (backOf (W := 0) (rm9 l Z a0 hw [] r r2 b kb g104.1 g104.2.1 g104.2.2 T37.heap n0 (own_szH g_r R4.1) R4 ln4 g_r gb nb (own_v1 c3') (own_v2 c3') (own_v3 c3')) hZ (hw _ (List.mem_of_getElem? (i := 52) rfl)) (hw _ (List.mem_of_getElem? (i := 3) rfl)) (by decide) (by decide)) q41a q41c (g := (mkF m 224 #[.val (.int p1), .val (.int p2), .val (.int p3), .val (.int p4), .val (.int va), .val (.int d1), .val (.int of), .val (.int vb), .val (.int vc), .val (.int mo), .val (.int r1), .val (.int x1), .val (.int r2), .val (.int x2), .val (.int r3), .val (.ref r)] [(.int r2), (.ref r)])) rfl (by rw [hml]; rfl) (Steps.refl _) (argsL := [(.int r2)]) (rest := []) (lenOf pd_4 rfl) rfl (by show 2 * 0 + _ ≤ _; exact Nat.le_of_eq rfl) (hb hby at_224) (fun _ _ => ⟨rfl, q1, (by decide : 3 + 0 ≤ _), (by decide : 11 + 0 ≤ _)⟩)
  dsimp only [Pt.U, Pt.locs, Pt.cells, Pt.slots] at X41 l41 y41 z41 st41 hQ41
  subst l41 y41 z41
  obtain ⟨rfl, N41q, S5⟩ := hQ41
  have N41 := Fr.app N39 N41q
  refine own_go (S' := T41.setTop (mkF m 227 #[.val (.int p1), .val (.int p2), .val (.int p3), .val (.int p4), .val (.int va), .val (.int d1), .val (.int of), .val (.int vb), .val (.int vc), .val (.int mo), .val (.int r1), .val (.int x1), .val (.int r2), .val (.int x2), .val (.int r3), .val (.ref r)] [])) (fun t k => st41.trans k) ?_
  have R5 : own_S Z T41.heap r b kb g105.1 g105.2.1 g105.2.2 := by rw [hg105]; exact S5
  have ln5 : g105.2.2.length = 8 := by rw [hg105]; exact own_lUnl _ _ ln4
  have go42 : ∀ t, Steps p.tables e below (T41.setTop (mkF m 229 #[.val (.int p1), .val (.int p2), .val (.int p3), .val (.int p4), .val (.int va), .val (.int d1), .val (.int of), .val (.int vb), .val (.int vc), .val (.int mo), .val (.int r1), .val (.int x1), .val (.int r2), .val (.int x2), .val (.int r3), .val (.ref r)] [(.ref r)])) t → Steps p.tables e below (T41.setTop (mkF m 227 #[.val (.int p1), .val (.int p2), .val (.int p3), .val (.int p4), .val (.int va), .val (.int d1), .val (.int of), .val (.int vb), .val (.int vc), .val (.int mo), .val (.int r1), .val (.int x1), .val (.int r2), .val (.int x2), .val (.int r3), .val (.ref r)] [])) t := by
    intro t kt
    show Steps p.tables e below (T41.setTop (mkF m 227 #[.val (.int p1), .val (.int p2), .val (.int p3), .val (.int p4), .val (.int va), .val (.int d1), .val (.int of), .val (.int vb), .val (.int vc), .val (.int mo), .val (.int r1), .val (.int x1), .val (.int r2), .val (.int x2), .val (.int r3), .val (.ref r)] [])) _
    refine XS.aload X41.here hx rfl (hb hby at_227) rfl rfl ?_
    exact kt
  refine own_go go42 ?_
  obtain ⟨cq43, kq43, q43a, q43b, q43c⟩ := isOf hZ rfl R5.1
  obtain ⟨_, _, ⟨T43, L43, k43, n43⟩, -, X43, ⟨Lc43, hQ43, l43, y43, z43⟩, st43⟩ := X41.virtualBack hx (y := (⟨"com/example/loadgate/loadgate/NodeOrder", "eldest", "()I"⟩ : MethodName)) (z := (⟨"com/example/loadgate/loadgate/NodeOrder", "eldest", "()I"⟩ : MethodName)) hown (mvT hZ (hw _ (List.mem_of_getElem? (i := 43) rfl))) (mvT hZ (hw _ (List.mem_of_getElem? (i := 44) rfl))) (notFace_of_selects (args := #[]) (mvT hZ (hw _ (List.mem_of_getElem? (i := 46) rfl)))) (mvT hZ (hw _ (List.mem_of_getElem? (i := 46) rfl))) (mvT hZ (hw _ (List.mem_of_getElem? (i := 45) rfl))) (by decide) (backOf (W := 0) (rm8 l Z a0 hw [] r b kb g105.1 g105.2.1 g105.2.2 T41.heap n0 (own_szH g_r R5.1) R5) hZ (hw _ (List.mem_of_getElem? (i := 47) rfl)) (hw _ (List.mem_of_getElem? (i := 3) rfl)) (by decide) (by decide)) q43a q43c (g := (mkF m 229 #[.val (.int p1), .val (.int p2), .val (.int p3), .val (.int p4), .val (.int va), .val (.int d1), .val (.int of), .val (.int vb), .val (.int vc), .val (.int mo), .val (.int r1), .val (.int x1), .val (.int r2), .val (.int x2), .val (.int r3), .val (.ref r)] [(.ref r)])) rfl (by rw [hml]; rfl) (Steps.refl _) (argsL := []) (rest := []) (lenOf pd_5 rfl) rfl (by show 2 * 0 + _ ≤ _; exact Nat.le_of_eq rfl) (hb hby at_229) (fun _ _ => ⟨rfl, rfl, (by decide : 3 + 0 ≤ _), (by decide : 11 + 0 ≤ _)⟩)
  dsimp only [Pt.U, Pt.locs, Pt.cells, Pt.slots] at X43 l43 y43 z43 st43 hQ43
  subst l43 y43 z43
  obtain ⟨rfl, N43q, q2⟩ := hQ43
  have N43 := Fr.app N41 N43q
  refine own_go (S' := T43.setTop (mkF m 232 #[.val (.int p1), .val (.int p2), .val (.int p3), .val (.int p4), .val (.int va), .val (.int d1), .val (.int of), .val (.int vb), .val (.int vc), .val (.int mo), .val (.int r1), .val (.int x1), .val (.int r2), .val (.int x2), .val (.int r3), .val (.ref r)] [(.int g105.1)])) (fun t k => st43.trans k) ?_
  have go44 : ∀ t, Steps p.tables e below (T43.setTop (mkF m 243 #[.val (.int p1), .val (.int p2), .val (.int p3), .val (.int p4), .val (.int va), .val (.int d1), .val (.int of), .val (.int vb), .val (.int vc), .val (.int mo), .val (.int r1), .val (.int x1), .val (.int r2), .val (.int x2), .val (.int r3), .val (.ref r)] [(.int r3), (.ref r)])) t → Steps p.tables e below (T43.setTop (mkF m 232 #[.val (.int p1), .val (.int p2), .val (.int p3), .val (.int p4), .val (.int va), .val (.int d1), .val (.int of), .val (.int vb), .val (.int vc), .val (.int mo), .val (.int r1), .val (.int x1), .val (.int r2), .val (.int x2), .val (.int r3), .val (.ref r)] [(.int g105.1)])) t := by
    intro t kt
    show Steps p.tables e below (T43.setTop (mkF m 232 #[.val (.int p1), .val (.int p2), .val (.int p3), .val (.int p4), .val (.int va), .val (.int d1), .val (.int of), .val (.int vb), .val (.int vc), .val (.int mo), .val (.int r1), .val (.int x1), .val (.int r2), .val (.int x2), .val (.int r3), .val (.ref r)] [(.int g105.1)])) _
    refine XS.iload X43.here hx rfl (hb hby at_232) rfl ?_
    show Steps p.tables e below (T43.setTop (mkF m 234 #[.val (.int p1), .val (.int p2), .val (.int p3), .val (.int p4), .val (.int va), .val (.int d1), .val (.int of), .val (.int vb), .val (.int vc), .val (.int mo), .val (.int r1), .val (.int x1), .val (.int r2), .val (.int x2), .val (.int r3), .val (.ref r)] [(.int x2), (.int g105.1)])) _
    refine XS.icmpYes X43.here hx rfl (pc0 := 234) (pc' := 239) rfl (hb hby at_234) rfl (teq c4').1 (by decide) (by decide) ?_
    show Steps p.tables e below (T43.setTop (mkF m 239 #[.val (.int p1), .val (.int p2), .val (.int p3), .val (.int p4), .val (.int va), .val (.int d1), .val (.int of), .val (.int vb), .val (.int vc), .val (.int mo), .val (.int r1), .val (.int x1), .val (.int r2), .val (.int x2), .val (.int r3), .val (.ref r)] [])) _
    refine XS.aload X43.here hx rfl (hb hby at_239) rfl rfl ?_
    show Steps p.tables e below (T43.setTop (mkF m 241 #[.val (.int p1), .val (.int p2), .val (.int p3), .val (.int p4), .val (.int va), .val (.int d1), .val (.int of), .val (.int vb), .val (.int vc), .val (.int mo), .val (.int r1), .val (.int x1), .val (.int r2), .val (.int x2), .val (.int r3), .val (.ref r)] [(.ref r)])) _
    refine XS.iload X43.here hx rfl (hb hby at_241) rfl ?_
    exact kt
  refine own_go go44 ?_
  obtain ⟨cq45, kq45, q45a, q45b, q45c⟩ := isOf hZ q2 R5.1
  obtain ⟨_, _, ⟨T45, L45, k45, n45⟩, -, X45, ⟨Lc45, hQ45, l45, y45, z45⟩, st45⟩ := X43.virtualBack hx (y := (⟨"com/example/loadgate/loadgate/NodeOrder", "unlink", "(I)V"⟩ : MethodName)) (z := (⟨"com/example/loadgate/loadgate/NodeOrder", "unlink", "(I)V"⟩ : MethodName)) hown (mvT hZ (hw _ (List.mem_of_getElem? (i := 48) rfl))) (mvT hZ (hw _ (List.mem_of_getElem? (i := 49) rfl))) (notFace_of_selects (args := #[]) (mvT hZ (hw _ (List.mem_of_getElem? (i := 51) rfl)))) (mvT hZ (hw _ (List.mem_of_getElem? (i := 51) rfl))) (mvT hZ (hw _ (List.mem_of_getElem? (i := 50) rfl))) (by decide) (backOf (W := 0) (rm9 l Z a0 hw [] r r3 b kb g105.1 g105.2.1 g105.2.2 T41.heap n0 (own_szH g_r R5.1) R5 ln5 g_r gb nb (own_v1 c5') (own_v2 c5') (own_v3 c5')) hZ (hw _ (List.mem_of_getElem? (i := 52) rfl)) (hw _ (List.mem_of_getElem? (i := 3) rfl)) (by decide) (by decide)) q45a q45c (g := (mkF m 243 #[.val (.int p1), .val (.int p2), .val (.int p3), .val (.int p4), .val (.int va), .val (.int d1), .val (.int of), .val (.int vb), .val (.int vc), .val (.int mo), .val (.int r1), .val (.int x1), .val (.int r2), .val (.int x2), .val (.int r3), .val (.ref r)] [(.int r3), (.ref r)])) rfl (by rw [hml]; rfl) (Steps.refl _) (argsL := [(.int r3)]) (rest := []) (lenOf pd_4 rfl) rfl (by show 2 * 0 + _ ≤ _; exact Nat.le_of_eq rfl) (hb hby at_243) (fun _ _ => ⟨rfl, q2, (by decide : 3 + 0 ≤ _), (by decide : 11 + 0 ≤ _)⟩)
  dsimp only [Pt.U, Pt.locs, Pt.cells, Pt.slots] at X45 l45 y45 z45 st45 hQ45
  subst l45 y45 z45
  obtain ⟨rfl, N45q, S6⟩ := hQ45
  have N45 := Fr.app N43 N45q
  refine own_go (S' := T45.setTop (mkF m 246 #[.val (.int p1), .val (.int p2), .val (.int p3), .val (.int p4), .val (.int va), .val (.int d1), .val (.int of), .val (.int vb), .val (.int vc), .val (.int mo), .val (.int r1), .val (.int x1), .val (.int r2), .val (.int x2), .val (.int r3), .val (.ref r)] [])) (fun t k => st45.trans k) ?_
  have R6 : own_S Z T45.heap r b kb g106.1 g106.2.1 g106.2.2 := by rw [hg106]; exact S6
  have ln6 : g106.2.2.length = 8 := by rw [hg106]; exact own_lUnl _ _ ln5
  have go46 : ∀ t, Steps p.tables e below (T45.setTop (mkF m 248 #[.val (.int p1), .val (.int p2), .val (.int p3), .val (.int p4), .val (.int va), .val (.int d1), .val (.int of), .val (.int vb), .val (.int vc), .val (.int mo), .val (.int r1), .val (.int x1), .val (.int r2), .val (.int x2), .val (.int r3), .val (.ref r)] [(.ref r)])) t → Steps p.tables e below (T45.setTop (mkF m 246 #[.val (.int p1), .val (.int p2), .val (.int p3), .val (.int p4), .val (.int va), .val (.int d1), .val (.int of), .val (.int vb), .val (.int vc), .val (.int mo), .val (.int r1), .val (.int x1), .val (.int r2), .val (.int x2), .val (.int r3), .val (.ref r)] [])) t := by
    intro t kt
    show Steps p.tables e below (T45.setTop (mkF m 246 #[.val (.int p1), .val (.int p2), .val (.int p3), .val (.int p4), .val (.int va), .val (.int d1), .val (.int of), .val (.int vb), .val (.int vc), .val (.int mo), .val (.int r1), .val (.int x1), .val (.int r2), .val (.int x2), .val (.int r3), .val (.ref r)] [])) _
    refine XS.aload X45.here hx rfl (hb hby at_246) rfl rfl ?_
    exact kt
  refine own_go go46 ?_
  obtain ⟨cq47, kq47, q47a, q47b, q47c⟩ := isOf hZ rfl R6.1
  obtain ⟨_, _, ⟨T47, L47, k47, n47⟩, -, X47, ⟨Lc47, hQ47, l47, y47, z47⟩, st47⟩ := X45.virtualBack hx (y := (⟨"com/example/loadgate/loadgate/NodeOrder", "eldest", "()I"⟩ : MethodName)) (z := (⟨"com/example/loadgate/loadgate/NodeOrder", "eldest", "()I"⟩ : MethodName)) hown (mvT hZ (hw _ (List.mem_of_getElem? (i := 43) rfl))) (mvT hZ (hw _ (List.mem_of_getElem? (i := 44) rfl))) (notFace_of_selects (args := #[]) (mvT hZ (hw _ (List.mem_of_getElem? (i := 46) rfl)))) (mvT hZ (hw _ (List.mem_of_getElem? (i := 46) rfl))) (mvT hZ (hw _ (List.mem_of_getElem? (i := 45) rfl))) (by decide) (backOf (W := 0) (rm8 l Z a0 hw [] r b kb g106.1 g106.2.1 g106.2.2 T45.heap n0 (own_szH g_r R6.1) R6) hZ (hw _ (List.mem_of_getElem? (i := 47) rfl)) (hw _ (List.mem_of_getElem? (i := 3) rfl)) (by decide) (by decide)) q47a q47c (g := (mkF m 248 #[.val (.int p1), .val (.int p2), .val (.int p3), .val (.int p4), .val (.int va), .val (.int d1), .val (.int of), .val (.int vb), .val (.int vc), .val (.int mo), .val (.int r1), .val (.int x1), .val (.int r2), .val (.int x2), .val (.int r3), .val (.ref r)] [(.ref r)])) rfl (by rw [hml]; rfl) (Steps.refl _) (argsL := []) (rest := []) (lenOf pd_5 rfl) rfl (by show 2 * 0 + _ ≤ _; exact Nat.le_of_eq rfl) (hb hby at_248) (fun _ _ => ⟨rfl, rfl, (by decide : 3 + 0 ≤ _), (by decide : 11 + 0 ≤ _)⟩)
  dsimp only [Pt.U, Pt.locs, Pt.cells, Pt.slots] at X47 l47 y47 z47 st47 hQ47
  subst l47 y47 z47
  obtain ⟨rfl, N47q, q3⟩ := hQ47
  have N47 := Fr.app N45 N47q
  refine own_go (S' := T47.setTop (mkF m 251 #[.val (.int p1), .val (.int p2), .val (.int p3), .val (.int p4), .val (.int va), .val (.int d1), .val (.int of), .val (.int vb), .val (.int vc), .val (.int mo), .val (.int r1), .val (.int x1), .val (.int r2), .val (.int x2), .val (.int r3), .val (.ref r)] [(.int g106.1)])) (fun t k => st47.trans k) ?_
  have go48 : ∀ t, Steps p.tables e below (T47.setTop (mkF m 260 #[.val (.int p1), .val (.int p2), .val (.int p3), .val (.int p4), .val (.int va), .val (.int d1), .val (.int of), .val (.int vb), .val (.int vc), .val (.int mo), .val (.int r1), .val (.int x1), .val (.int r2), .val (.int x2), .val (.int r3), .val (.ref r)] [(.int (1 : Int32))])) t → Steps p.tables e below (T47.setTop (mkF m 251 #[.val (.int p1), .val (.int p2), .val (.int p3), .val (.int p4), .val (.int va), .val (.int d1), .val (.int of), .val (.int vb), .val (.int vc), .val (.int mo), .val (.int r1), .val (.int x1), .val (.int r2), .val (.int x2), .val (.int r3), .val (.ref r)] [(.int g106.1)])) t := by
    intro t kt
    show Steps p.tables e below (T47.setTop (mkF m 251 #[.val (.int p1), .val (.int p2), .val (.int p3), .val (.int p4), .val (.int va), .val (.int d1), .val (.int of), .val (.int vb), .val (.int vc), .val (.int mo), .val (.int r1), .val (.int x1), .val (.int r2), .val (.int x2), .val (.int r3), .val (.ref r)] [(.int g106.1)])) _
    refine XS.iconst X47.here hx rfl (hb hby at_251) ?_
    show Steps p.tables e below (T47.setTop (mkF m 252 #[.val (.int p1), .val (.int p2), .val (.int p3), .val (.int p4), .val (.int va), .val (.int d1), .val (.int of), .val (.int vb), .val (.int vc), .val (.int mo), .val (.int r1), .val (.int x1), .val (.int r2), .val (.int x2), .val (.int r3), .val (.ref r)] [(.int (-1 : Int32)), (.int g106.1)])) _
    refine XS.icmpNo X47.here hx rfl (hb hby at_252) rfl (teq c6').2 ?_
    show Steps p.tables e below (T47.setTop (mkF m 255 #[.val (.int p1), .val (.int p2), .val (.int p3), .val (.int p4), .val (.int va), .val (.int d1), .val (.int of), .val (.int vb), .val (.int vc), .val (.int mo), .val (.int r1), .val (.int x1), .val (.int r2), .val (.int x2), .val (.int r3), .val (.ref r)] [])) _
    refine XS.iconst X47.here hx rfl (hb hby at_255) ?_
    show Steps p.tables e below (T47.setTop (mkF m 256 #[.val (.int p1), .val (.int p2), .val (.int p3), .val (.int p4), .val (.int va), .val (.int d1), .val (.int of), .val (.int vb), .val (.int vc), .val (.int mo), .val (.int r1), .val (.int x1), .val (.int r2), .val (.int x2), .val (.int r3), .val (.ref r)] [(.int (1 : Int32))])) _
    refine XS.goto X47.here hx rfl (pc0 := 256) (pc' := 260) rfl (hb hby at_256) (by decide) (by decide) ?_
    exact kt
  refine own_go go48 ?_
  obtain ⟨fs, hr, hrun, hended, hW, hsame⟩ := X47.leave (v := some (.int (1 : Int32))) (fun h => by rw [Bd.returns] at h; cases h)
  refine ⟨_, _, retN X47 hx (t := .boolean) Bd.returns (by simp) (hb hby at_260) hr, hrun, hended, _, _, rfl, ?_, ⟨_, rfl⟩, hW, hsame.mono (by decide) (by decide)⟩
  show Q0 Z  h0 n0 _ T47.heap _
  rw [q3]
  exact ⟨rfl, N47⟩
set_option maxRecDepth 65536 in
set_option maxHeartbeats 40000000 in
theorem comes_1 {Post : Tables → Env → Array Value → State → Outcome → State → Prop} (hpost : ∀ tb e args s v u, (limb_1_1.after args s (.returned v) u = true ∧ limb_1_2.after args s (.returned v) u = true ∧ True) → FrameEnd s (.returned v) u (Jvm.fieldLocs frame_1_writes args s ++ Jvm.arrayLocs frame_1_arrays args s ++ Jvm.staticLocs frame_1_statics s) 16 128 → Post tb e args s (.returned v) u) :
    ArmFor flags0 classFile x code maxLocals ret World_1 tables_1 room_1 Calls_1 rest_1 Pre_1 Post := by
  intro l hfl _ _ p e ha hc hk s m args below hf hA hF happ hP
  obtain ⟨hcalls, hrest, hpre⟩ := hP
  obtain ⟨-, -, -, hnamed, -, -, -, hat⟩ := (Spec.applies_iff hf).mp happ
  obtain ⟨hg, hn⟩ := and_e (Cond.before_iff.mp (show (Jvm.Cond.and given_1 narrow_1).before args s = true from hpre))
  obtain ⟨gc, r0⟩ := and_e hg
  obtain ⟨g0, r1⟩ := and_e r0
  obtain ⟨g1, r2⟩ := and_e r1
  obtain ⟨g2, r3⟩ := and_e r2
  obtain ⟨w0, w1, w2, w3, rfl⟩ : ∃ w0 w1 w2 w3 : Value, args = #[w0, w1, w2, w3] := by
    have hs : args.size = 4 := by simpa [Cond.value, given_1] using gc
    obtain ⟨L⟩ := args
    match L, hs with
    | [w0, w1, w2, w3], _ => exact ⟨w0, w1, w2, w3, rfl⟩
  have hw := fun d (hd : d ∈ tables_1) => atoms_spec (ws := Jvm.Cond.code x code maxLocals ret :: tables_1) hat d (List.mem_cons_of_mem _ hd)
  obtain ⟨i0, ei0⟩ := is_v g0
  obtain rfl : w0 = (.int i0) := Option.some.inj ei0
  obtain ⟨i1, ei1⟩ := is_v g1
  obtain rfl : w1 = (.int i1) := Option.some.inj ei1
  obtain ⟨i2, ei2⟩ := is_v g2
  obtain rfl : w2 = (.int i2) := Option.some.inj ei2
  obtain ⟨i3, ei3⟩ := is_v r3
  obtain rfl : w3 = (.int i3) := Option.some.inj ei3
  obtain ⟨n, o, h1, h2, h3, _, L, rfl, ⟨rfl, N⟩, hq⟩ := rm0 l s _ hw tables_1 i0 i1 i2 i3 s.heap s.heap.size (Nat.le_refl _) p e ha hc hk s m _ below hf ((Spec.applies_iff_loose hf).mp happ).1 ⟨rfl, State.Warmed39.refl s, rfl⟩ trivial
  refine ⟨n, _, h1, h2, h3, hpost _ _ _ _ _ _ ⟨Cond.after_iff.mpr rfl, Cond.after_iff.mpr (eq_i res_at (Term.int_eval (1)) rfl), trivial⟩ ⟨hq.1, hq.2.1, (hq.2.2.sift fun y hy => Or.inr (N y hy)).mono (by decide) (by decide)⟩⟩
theorem main_1_1 : Claimed_1_1 := comes_1 fun _ _ _ _ _ _ h hF => ⟨h.1, hF⟩
theorem main_1_2 : Claimed_1_2 := comes_1 fun _ _ _ _ _ _ h hF => ⟨h.2.1, hF⟩
end Jvm.Pilot.@@N@@
namespace Jvm.Pilot.@@N@@
open Jvm Jvm.ClassFile Sem Op Lib Jvm.Free Jvm.Stand Jvm.Pilot.@@N@@.Jvm.D
/-! MADE BY PROGRAM (witnessworld.py) out of the Statement's table words and the real class files: 12 classes; the members and pool entries that the words name. The judged class is class 1, her method 1. -/
namespace start1
open Jvm.ClassFile
def u (s : String) : CpInfo := .utf8 (stringToUtf16 s)
/-- a pool by its gaps: so many unusable entries, then the entry; so many at the end -/
def gap : Nat → List CpInfo → List CpInfo
  | 0, r => r
  | n + 1, r => .unusable :: gap n r
def poolList (es : List (Nat × CpInfo)) (last : Nat) : List CpInfo := es.foldr (fun e r => gap e.1 (e.2 :: r)) (gap last [])
def pool (es : List (Nat × CpInfo)) (last : Nat) : Array CpInfo := ⟨poolList es last⟩
def fileOf (pool : Array CpInfo) (this : Nat) (attrs : Array Attribute := #[]) (ms : Array MethodInfo := #[]) (fl : Nat := 33) (sup : Nat := 0) (ifs : Array Nat := #[]) (fds : Array FieldInfo := #[]) : ClassFile where
  minorVersion := 0
  majorVersion := 65
  constantPool := pool
  accessFlags := fl
  thisClass := this
  superClass := sup
  interfaces := ifs
  fields := fds
  methods := ms
  attributes := attrs
def plain (name : String) (sup : Option ClassId) : Class where
  name := name
  kind := .ordinary
  loader := none
  accessFlags := 33
  super := sup
  interfaces := #[]
  cf := none
  fields := #[]
  methods := #[]
  instanceTypes := #[]
  staticTypes := #[]
  resolved := #[]
  callSites := []
  init := .initialized
  statics := none
  mirror := none

def pool0 : Array CpInfo := pool [(5, u "<init>"), (0, u "()V"), (1, .class_ 10), (1, u "java/lang/Object")] 113

def k0c0 : Code := { maxStack := 0, maxLocals := 1, code := object_method_1_code, exceptionTable := #[], attributes := #[] }
def k0m0 : Method := { name := "<init>", desc := "()V", sig := { parameters := [], returnType := none }, accessFlags := 1, code := some k0c0 }
/-- java/lang/Object -/
def k0 : Class := { plain "java/lang/Object" none with
  accessFlags := 33
  interfaces := #[]
  cf := some (fileOf pool0 8 #[] #[{ accessFlags := 1, nameIndex := 5, descriptorIndex := 6, attributes := #[] }] 33 0 #[] #[])
  fields := #[]
  methods := #[k0m0]
  instanceTypes := #[]
  staticTypes := #[]
  resolved := Array.replicate 124 none
  statics := none }

def pool1 : Array CpInfo := pool [(2, .class_ 4), (0, .nameAndType 5 6), (0, u "java/lang/Object"), (0, u "<init>"), (0, u "()V"), (0, .integer 2147483647), (0, .class_ 9), (0, u "com/example/loadgate/loadgate/NodeOrder"), (0, .methodref 8 3), (0, .methodref 8 12), (0, .nameAndType 13 14), (0, u "resize"), (0, u "(I)V"), (0, .methodref 8 16), (0, .nameAndType 17 14), (0, u "append"), (0, .methodref 8 19), (0, .nameAndType 20 21), (0, u "eldest"), (0, u "()I"), (0, .methodref 8 23), (0, .nameAndType 24 14), (0, u "unlink"), (0, .class_ 26), (0, u "com/example/loadgate/loadgate/NodeOrderAppendPinLaw"), (2, u "law"), (0, u "(IIII)Z")] 3

def k1m0 : Method := { name := "<init>", desc := "()V", sig := { parameters := [], returnType := none }, accessFlags := 1, code := none }
def k1c1 : Code := { maxStack := 3, maxLocals := 16, code := code, exceptionTable := #[], attributes := #[] }
def k1m1 : Method := { name := "law", desc := "(IIII)Z", sig := { parameters := [.int, .int, .int, .int], returnType := some .boolean }, accessFlags := 9, code := some k1c1 }
/-- com/example/loadgate/loadgate/NodeOrderAppendPinLaw -/
def k1 : Class := { plain "com/example/loadgate/loadgate/NodeOrderAppendPinLaw" (some 0) with
  accessFlags := 49
  interfaces := #[]
  cf := some (fileOf pool1 25 #[] #[{ accessFlags := 1, nameIndex := 5, descriptorIndex := 6, attributes := #[] }, { accessFlags := 9, nameIndex := 29, descriptorIndex := 30, attributes := #[] }] 49 2 #[] #[])
  fields := #[]
  methods := #[k1m0, k1m1]
  instanceTypes := #[]
  staticTypes := #[]
  resolved := Array.replicate 34 none
  statics := none }

def pool2 : Array CpInfo := pool [(1, .methodref 2 3), (0, .class_ 4), (0, .nameAndType 5 6), (0, u "java/lang/Object"), (0, u "<init>"), (0, u "()V"), (0, .fieldref 8 9), (0, .class_ 10), (0, .nameAndType 11 12), (0, u "com/example/loadgate/loadgate/NodeOrder"), (0, u "links"), (0, u "[I"), (0, .fieldref 8 14), (0, .nameAndType 15 16), (0, u "eldest"), (0, u "I"), (0, .fieldref 8 18), (0, .nameAndType 19 16), (0, u "newest"), (0, .methodref 21 22), (0, .class_ 23), (0, .nameAndType 24 25), (0, u "java/util/Arrays"), (0, u "copyOf"), (0, u "([II)[I"), (0, .methodref 8 27), (0, .nameAndType 28 29), (0, u "setAfter"), (0, u "(II)V"), (0, .methodref 8 31), (0, .nameAndType 32 29), (0, u "setBefore"), (2, u "unlink"), (0, u "(I)V"), (2, u "append"), (0, u "NONE"), (4, u "()I"), (0, u "resize")] 5

def k2c0 : Code := { maxStack := 2, maxLocals := 1, code := prog_34_method_1_code, exceptionTable := #[], attributes := #[] }
def k2m0 : Method := { name := "<init>", desc := "()V", sig := { parameters := [], returnType := none }, accessFlags := 0, code := some k2c0 }
def k2c1 : Code := { maxStack := 1, maxLocals := 1, code := prog_34_method_2_code, exceptionTable := #[], attributes := #[] }
def k2m1 : Method := { name := "eldest", desc := "()I", sig := { parameters := [], returnType := some .int }, accessFlags := 0, code := some k2c1 }
def k2c2 : Code := { maxStack := 4, maxLocals := 2, code := prog_34_method_3_code, exceptionTable := #[], attributes := #[] }
def k2m2 : Method := { name := "resize", desc := "(I)V", sig := { parameters := [.int], returnType := none }, accessFlags := 0, code := some k2c2 }
def k2c3 : Code := { maxStack := 3, maxLocals := 2, code := prog_34_method_4_code, exceptionTable := #[], attributes := #[] }
def k2m3 : Method := { name := "append", desc := "(I)V", sig := { parameters := [.int], returnType := none }, accessFlags := 0, code := some k2c3 }
def k2c4 : Code := { maxStack := 3, maxLocals := 4, code := prog_34_method_5_code, exceptionTable := #[], attributes := #[] }
def k2m4 : Method := { name := "unlink", desc := "(I)V", sig := { parameters := [.int], returnType := none }, accessFlags := 0, code := some k2c4 }
def k2c5 : Code := { maxStack := 3, maxLocals := 3, code := prog_34_method_8_code, exceptionTable := #[], attributes := #[] }
def k2m5 : Method := { name := "setAfter", desc := "(II)V", sig := { parameters := [.int, .int], returnType := none }, accessFlags := 2, code := some k2c5 }
def k2c6 : Code := { maxStack := 3, maxLocals := 3, code := prog_34_method_9_code, exceptionTable := #[], attributes := #[] }
def k2m6 : Method := { name := "setBefore", desc := "(II)V", sig := { parameters := [.int, .int], returnType := none }, accessFlags := 2, code := some k2c6 }
/-- com/example/loadgate/loadgate/NodeOrder -/
def k2 : Class := { plain "com/example/loadgate/loadgate/NodeOrder" (some 0) with
  accessFlags := 48
  interfaces := #[]
  cf := some (fileOf pool2 8 #[] #[{ accessFlags := 0, nameIndex := 5, descriptorIndex := 6, attributes := #[] }, { accessFlags := 0, nameIndex := 15, descriptorIndex := 45, attributes := #[] }, { accessFlags := 0, nameIndex := 46, descriptorIndex := 36, attributes := #[] }, { accessFlags := 0, nameIndex := 39, descriptorIndex := 36, attributes := #[] }, { accessFlags := 0, nameIndex := 35, descriptorIndex := 36, attributes := #[] }, { accessFlags := 2, nameIndex := 28, descriptorIndex := 29, attributes := #[] }, { accessFlags := 2, nameIndex := 32, descriptorIndex := 29, attributes := #[] }] 48 2 #[] #[{ accessFlags := 24, nameIndex := 40, descriptorIndex := 16, attributes := #[] }, { accessFlags := 2, nameIndex := 11, descriptorIndex := 12, attributes := #[] }, { accessFlags := 2, nameIndex := 15, descriptorIndex := 16, attributes := #[] }, { accessFlags := 2, nameIndex := 19, descriptorIndex := 16, attributes := #[] }])
  fields := #[{ name := "NONE", type := .int, accessFlags := 24, slot := 0, constantValue := 0 }, { name := "links", type := (.array .int), accessFlags := 2, slot := 0, constantValue := 0 }, { name := "eldest", type := .int, accessFlags := 2, slot := 1, constantValue := 0 }, { name := "newest", type := .int, accessFlags := 2, slot := 2, constantValue := 0 }]
  methods := #[k2m0, k2m1, k2m2, k2m3, k2m4, k2m5, k2m6]
  instanceTypes := #[(.array .int), .int, .int]
  staticTypes := #[.int]
  resolved := Array.replicate 52 none
  statics := none }

def pool3 : Array CpInfo := pool [(2, .class_ 4), (1, u "java/lang/Object"), (0, u "<init>"), (0, u "()V"), (7, .class_ 16), (1, u "java/util/Arrays"), (57, .class_ 76), (1, u "java/util/Arrays$NaturalOrder"), (36, .class_ 115), (1, u "java/util/Arrays$LegacyMergeSort"), (1, u "Z"), (32, .methodref 151 152), (0, .class_ 153), (0, .nameAndType 154 155), (0, u "java/lang/System"), (0, u "arraycopy"), (0, u "(Ljava/lang/Object;ILjava/lang/Object;II)V"), (146, u "copyOf"), (1, .methodref 305 306), (0, .class_ 307), (0, .nameAndType 308 309), (0, u "java/lang/Math"), (0, u "min"), (0, u "(II)I"), (65, .class_ 376), (0, u "java/util/Arrays$ArrayList"), (68, u "$assertionsDisabled"), (269, u "MIN_ARRAY_SORT_GRAN"), (0, u "I"), (2, u "INSERTIONSORT_THRESHOLD"), (151, u "([II)[I"), (103, .class_ 976), (0, u "java/util/Arrays$ArrayItr")] 52

def k3m0 : Method := { name := "<init>", desc := "()V", sig := { parameters := [], returnType := none }, accessFlags := 2, code := none }
def k3c1 : Code := { maxStack := 6, maxLocals := 3, code := jdk_65_method_123_code, exceptionTable := #[], attributes := #[] }
def k3m1 : Method := { name := "copyOf", desc := "([II)[I", sig := { parameters := [(.array .int), .int], returnType := some (.array .int) }, accessFlags := 9, code := some k3c1 }
/-- java/util/Arrays -/
def k3 : Class := { plain "java/util/Arrays" (some 0) with
  accessFlags := 49
  interfaces := #[]
  cf := some (fileOf pool3 14 #[.nestMembers #[975, 375, 113, 74]] #[{ accessFlags := 2, nameIndex := 5, descriptorIndex := 6, attributes := #[] }, { accessFlags := 9, nameIndex := 302, descriptorIndex := 871, attributes := #[] }] 49 2 #[] #[{ accessFlags := 26, nameIndex := 715, descriptorIndex := 716, attributes := #[] }, { accessFlags := 26, nameIndex := 719, descriptorIndex := 716, attributes := #[] }, { accessFlags := 4120, nameIndex := 445, descriptorIndex := 117, attributes := #[] }])
  fields := #[{ name := "MIN_ARRAY_SORT_GRAN", type := .int, accessFlags := 26, slot := 0, constantValue := 0 }, { name := "INSERTIONSORT_THRESHOLD", type := .int, accessFlags := 26, slot := 1, constantValue := 0 }, { name := "$assertionsDisabled", type := .boolean, accessFlags := 4120, slot := 2, constantValue := 0 }]
  methods := #[k3m0, k3m1]
  instanceTypes := #[]
  staticTypes := #[.int, .int, .boolean]
  resolved := Array.replicate 1029 none
  statics := none }

def pool4 : Array CpInfo := pool [(1, .class_ 2), (0, u "java/lang/Math"), (1, .class_ 6), (1, u "java/lang/Object"), (0, u "<init>"), (0, u "()V"), (89, .class_ 100), (1, u "java/lang/Math$RandomNumberGeneratorHolder"), (71, u "negativeZeroFloatBits"), (0, u "J"), (2, u "negativeZeroDoubleBits"), (24, u "min"), (43, u "$assertionsDisabled"), (0, u "Z"), (88, u "(II)I"), (2, u "twoToTheDoubleScaleDown"), (0, u "D"), (4, u "twoToTheDoubleScaleUp"), (9, u "E"), (3, u "PI"), (2, u "TAU"), (2, u "DEGREES_TO_RADIANS"), (0, u "RADIANS_TO_DEGREES")] 94

def k4m0 : Method := { name := "<init>", desc := "()V", sig := { parameters := [], returnType := none }, accessFlags := 2, code := none }
def k4c1 : Code := { maxStack := 2, maxLocals := 2, code := jdk_29_method_69_code, exceptionTable := #[], attributes := #[] }
def k4m1 : Method := { name := "min", desc := "(II)I", sig := { parameters := [.int, .int], returnType := some .int }, accessFlags := 9, code := some k4c1 }
/-- java/lang/Math -/
def k4 : Class := { plain "java/lang/Math" (some 0) with
  accessFlags := 49
  interfaces := #[]
  cf := some (fileOf pool4 1 #[.nestMembers #[98]] #[{ accessFlags := 2, nameIndex := 7, descriptorIndex := 8, attributes := #[] }, { accessFlags := 9, nameIndex := 201, descriptorIndex := 335, attributes := #[] }] 49 4 #[] #[{ accessFlags := 25, nameIndex := 354, descriptorIndex := 339, attributes := #[] }, { accessFlags := 25, nameIndex := 358, descriptorIndex := 339, attributes := #[] }, { accessFlags := 25, nameIndex := 361, descriptorIndex := 339, attributes := #[] }, { accessFlags := 26, nameIndex := 364, descriptorIndex := 339, attributes := #[] }, { accessFlags := 26, nameIndex := 365, descriptorIndex := 339, attributes := #[] }, { accessFlags := 26, nameIndex := 172, descriptorIndex := 173, attributes := #[] }, { accessFlags := 26, nameIndex := 176, descriptorIndex := 173, attributes := #[] }, { accessFlags := 8, nameIndex := 344, descriptorIndex := 339, attributes := #[] }, { accessFlags := 8, nameIndex := 338, descriptorIndex := 339, attributes := #[] }, { accessFlags := 4120, nameIndex := 245, descriptorIndex := 246, attributes := #[] }])
  fields := #[{ name := "E", type := .double, accessFlags := 25, slot := 0, constantValue := 0 }, { name := "PI", type := .double, accessFlags := 25, slot := 1, constantValue := 0 }, { name := "TAU", type := .double, accessFlags := 25, slot := 2, constantValue := 0 }, { name := "DEGREES_TO_RADIANS", type := .double, accessFlags := 26, slot := 3, constantValue := 0 }, { name := "RADIANS_TO_DEGREES", type := .double, accessFlags := 26, slot := 4, constantValue := 0 }, { name := "negativeZeroFloatBits", type := .long, accessFlags := 26, slot := 5, constantValue := 0 }, { name := "negativeZeroDoubleBits", type := .long, accessFlags := 26, slot := 6, constantValue := 0 }, { name := "twoToTheDoubleScaleUp", type := .double, accessFlags := 8, slot := 7, constantValue := 0 }, { name := "twoToTheDoubleScaleDown", type := .double, accessFlags := 8, slot := 8, constantValue := 0 }, { name := "$assertionsDisabled", type := .boolean, accessFlags := 4120, slot := 9, constantValue := 0 }]
  methods := #[k4m0, k4m1]
  instanceTypes := #[]
  staticTypes := #[.double, .double, .double, .double, .double, .long, .long, .double, .double, .boolean]
  resolved := Array.replicate 460 none
  statics := none }

def pool5 : Array CpInfo := pool [(2, .class_ 4), (1, u "java/lang/Object"), (0, u "<init>"), (0, u "()V"), (1, .class_ 10), (1, u "java/lang/System"), (0, u "allowSecurityManager"), (0, u "I"), (16, u "cons"), (0, u "Ljava/io/Console;"), (77, .class_ 110), (1, u "java/lang/System$CallersHolder"), (43, u "initialErrStream"), (0, u "Ljava/io/PrintStream;"), (19, u "security"), (0, u "Ljava/lang/SecurityManager;"), (31, .class_ 209), (0, u "java/lang/System$1"), (7, u "props"), (0, u "Ljava/util/Properties;"), (2, u "lineSeparator"), (0, u "Ljava/lang/String;"), (96, .class_ 321), (1, u "java/lang/System$LoggerFinder"), (5, .class_ 328), (0, u "java/lang/System$Logger"), (67, u "err"), (2, u "out"), (91, u "notSupportedJnuEncoding"), (15, u "in"), (17, u "initialIn"), (0, u "Ljava/io/InputStream;"), (35, u "bootLayer"), (0, u "Ljava/lang/ModuleLayer;"), (99, .class_ 664), (0, u "java/lang/System$2"), (9, u "NEVER"), (2, u "MAYBE"), (49, u "arraycopy"), (0, u "(Ljava/lang/Object;ILjava/lang/Object;II)V"), (72, .class_ 802), (0, u "java/lang/System$Logger$Level")] 31

def k5m0 : Method := { name := "<init>", desc := "()V", sig := { parameters := [], returnType := none }, accessFlags := 2, code := none }
def k5m1 : Method := { name := "arraycopy", desc := "(Ljava/lang/Object;ILjava/lang/Object;II)V", sig := { parameters := [(.object "java/lang/Object"), .int, (.object "java/lang/Object"), .int, .int], returnType := none }, accessFlags := 265, code := none }
/-- java/lang/System -/
def k5 : Class := { plain "java/lang/System" (some 0) with
  accessFlags := 49
  interfaces := #[]
  cf := some (fileOf pool5 8 #[.nestMembers #[319, 327, 801, 108, 663, 208]] #[{ accessFlags := 2, nameIndex := 5, descriptorIndex := 6, attributes := #[] }, { accessFlags := 265, nameIndex := 727, descriptorIndex := 728, attributes := #[] }] 49 2 #[] #[{ accessFlags := 25, nameIndex := 507, descriptorIndex := 526, attributes := #[] }, { accessFlags := 25, nameIndex := 399, descriptorIndex := 155, attributes := #[] }, { accessFlags := 25, nameIndex := 396, descriptorIndex := 155, attributes := #[] }, { accessFlags := 10, nameIndex := 525, descriptorIndex := 526, attributes := #[] }, { accessFlags := 26, nameIndex := 674, descriptorIndex := 12, attributes := #[] }, { accessFlags := 26, nameIndex := 677, descriptorIndex := 12, attributes := #[] }, { accessFlags := 10, nameIndex := 11, descriptorIndex := 12, attributes := #[] }, { accessFlags := 74, nameIndex := 175, descriptorIndex := 176, attributes := #[] }, { accessFlags := 10, nameIndex := 491, descriptorIndex := 222, attributes := #[] }, { accessFlags := 74, nameIndex := 29, descriptorIndex := 30, attributes := #[] }, { accessFlags := 74, nameIndex := 154, descriptorIndex := 155, attributes := #[] }, { accessFlags := 10, nameIndex := 217, descriptorIndex := 218, attributes := #[] }, { accessFlags := 10, nameIndex := 221, descriptorIndex := 222, attributes := #[] }, { accessFlags := 8, nameIndex := 562, descriptorIndex := 563, attributes := #[] }])
  fields := #[{ name := "in", type := (.object "java/io/InputStream"), accessFlags := 25, slot := 0, constantValue := 0 }, { name := "out", type := (.object "java/io/PrintStream"), accessFlags := 25, slot := 1, constantValue := 0 }, { name := "err", type := (.object "java/io/PrintStream"), accessFlags := 25, slot := 2, constantValue := 0 }, { name := "initialIn", type := (.object "java/io/InputStream"), accessFlags := 10, slot := 3, constantValue := 0 }, { name := "NEVER", type := .int, accessFlags := 26, slot := 4, constantValue := 0 }, { name := "MAYBE", type := .int, accessFlags := 26, slot := 5, constantValue := 0 }, { name := "allowSecurityManager", type := .int, accessFlags := 10, slot := 6, constantValue := 0 }, { name := "security", type := (.object "java/lang/SecurityManager"), accessFlags := 74, slot := 7, constantValue := 0 }, { name := "notSupportedJnuEncoding", type := (.object "java/lang/String"), accessFlags := 10, slot := 8, constantValue := 0 }, { name := "cons", type := (.object "java/io/Console"), accessFlags := 74, slot := 9, constantValue := 0 }, { name := "initialErrStream", type := (.object "java/io/PrintStream"), accessFlags := 74, slot := 10, constantValue := 0 }, { name := "props", type := (.object "java/util/Properties"), accessFlags := 10, slot := 11, constantValue := 0 }, { name := "lineSeparator", type := (.object "java/lang/String"), accessFlags := 10, slot := 12, constantValue := 0 }, { name := "bootLayer", type := (.object "java/lang/ModuleLayer"), accessFlags := 8, slot := 13, constantValue := 0 }]
  methods := #[k5m0, k5m1]
  instanceTypes := #[]
  staticTypes := #[(.object "java/io/InputStream"), (.object "java/io/PrintStream"), (.object "java/io/PrintStream"), (.object "java/io/InputStream"), .int, .int, .int, (.object "java/lang/SecurityManager"), (.object "java/lang/String"), (.object "java/io/Console"), (.object "java/io/PrintStream"), (.object "java/util/Properties"), (.object "java/lang/String"), (.object "java/lang/ModuleLayer")]
  resolved := Array.replicate 834 none
  statics := none }

def pool6 : Array CpInfo := pool [(1, u "java/lang/Cloneable"), (0, .class_ 1), (0, u "java/lang/Object"), (0, .class_ 3)] 3

/-- java/lang/Cloneable -/
def k6 : Class := { plain "java/lang/Cloneable" (some 0) with
  accessFlags := 1537
  interfaces := #[]
  cf := some (fileOf pool6 2 #[] #[] 1537 4 #[] #[])
  fields := #[]
  methods := #[]
  instanceTypes := #[]
  staticTypes := #[]
  resolved := Array.replicate 8 none
  statics := none }

def pool7 : Array CpInfo := pool [(1, u "java/io/Serializable"), (0, .class_ 1), (0, u "java/lang/Object"), (0, .class_ 3)] 3

/-- java/io/Serializable -/
def k7 : Class := { plain "java/io/Serializable" (some 0) with
  accessFlags := 1537
  interfaces := #[]
  cf := some (fileOf pool7 2 #[] #[] 1537 4 #[] #[])
  fields := #[]
  methods := #[]
  instanceTypes := #[]
  staticTypes := #[]
  resolved := Array.replicate 8 none
  statics := none }

/-- the primitive byte -/
def k8 : Class := { plain "byte" none with kind := .primitive 'B', accessFlags := 0x411 }
/-- [B -/
def k9 : Class := { plain "[B" (some 0) with kind := .array 8 .byte, interfaces := #[6, 7], accessFlags := 1041 }

/-- the primitive int -/
def k10 : Class := { plain "int" none with kind := .primitive 'I', accessFlags := 0x411 }
/-- [I -/
def k11 : Class := { plain "[I" (some 0) with kind := .array 10 .int, interfaces := #[6, 7], accessFlags := 1041 }

def heap : Heap := #[]
def classes : Array Class := #[k0, k1, k2, k3, k4, k5, k6, k7, k8, k9, k10, k11]
def interned : List (Array UInt16 × Addr) := []
def slotsUsed : Nat := 0
def theMethod : MethodId := ⟨1, 1⟩
def args0 : Array Value := #[.int 5, .int 3, .int 300, .int 3]
def aboutOver (below : List Frame) : State where
  vm := { classes := classes, interned := interned.toArray }
  heap := heap
  slotsUsed := slotsUsed
  threads := #[{ frames := .invoking theMethod args0 :: below }]
def below0 : List Frame := [.native { method := ⟨0, 0⟩, args := #[] }]
def about1 : State := aboutOver below0
def p0 : Program := .bare "" "" ""
def e0 : Env := launch0.env 0 0 0
theorem w_frames : about1.frames = Frame.invoking theMethod args0 :: below0 := rfl
set_option maxRecDepth 65536 in
theorem w_args : argsFit about1.vm theMethod args0 = true := by decide +kernel
set_option maxRecDepth 65536 in
theorem w_heap : heapFits about1 = true := by decide +kernel
set_option maxRecDepth 65536 in
theorem w_runnable : about1.curStatus? = some .runnable := by decide +kernel
set_option maxRecDepth 65536 in
theorem w_alone : about1.alone = true := by decide +kernel
set_option maxRecDepth 65536 in
theorem w_named : about1.methodNamed? x = some theMethod := by decide +kernel
set_option maxRecDepth 65536 in
theorem w_hears : about1.hears theMethod below0 = true := by decide +kernel
set_option maxRecDepth 65536 in
theorem w_ripe : about1.ripe theMethod args0 below0 = true := by decide +kernel
theorem w_running : about1.status = .running := rfl
set_option maxRecDepth 65536 in
theorem w_room : about1.hasRoom e0.platform room_1 = true :=
  launch0.hasRoom_least _ room_1 (by decide +kernel) (by decide +kernel) (by decide +kernel) (by decide +kernel) (by decide +kernel) (by decide +kernel)
theorem allAtoms_all (ts : List Jvm.Cond) (a : Array Jvm.Value) (st : Jvm.State) : (allAtoms ts).before a st = ts.all (fun c => c.before a st) := by
  induction ts with
  | nil => rfl
  | cons c t ih =>
    show (Jvm.Cond.and c (allAtoms t)).before a st = _
    rw [Jvm.Cond.before_and, ih, List.all_cons]
def words1 : List Jvm.Cond := Jvm.Cond.code x code maxLocals ret :: tables_1
/-- a 'code' word, met by the world's own term for the bytes: nothing is compared byte by byte -/
theorem code_word {y : MethodName} {bytes : ByteArray} {mx : Nat} {rt : Option FieldType} {a : Array Value} {s : State} {m : MethodId} {meth : Method} {c : Code} (h1 : s.methodNamed? y = some m) (h2 : s.vm.method? m = some meth) (h3 : meth.code = some c) (h4 : c.code = bytes)
    (h5 : (c.maxLocals == mx && c.exceptionTable.isEmpty && decide (c.maxStack ≤ mostOperands) && decide (meth.sig.returnType = rt) && !meth.locks && decide (parseMethodDescriptor y.desc = some meth.sig)) = true) : (Jvm.Cond.code y bytes mx rt).before a s = true := by
  simp only [Bool.and_eq_true, beq_iff_eq, Bool.not_eq_true', decide_eq_true_eq] at h5
  obtain ⟨⟨⟨⟨⟨g1, g2⟩, g3⟩, g4⟩, g5⟩, g6⟩ := h5
  simp [Cond.before, Cond.holds, Cond.value, h1, h2, h3, h4, g1, g2, g3, g4, g5, g6]
def isCode : Jvm.Cond → Bool
  | .code _ _ _ _ => true
  | _ => false
theorem all_split {L : List Jvm.Cond} {P : Jvm.Cond → Bool} (h1 : L.all (fun c => isCode c || P c) = true) (h2 : ∀ c ∈ L.filter isCode, P c = true) : L.all P = true := by
  refine List.all_eq_true.mpr fun c hc => ?_
  have h := List.all_eq_true.mp h1 c hc
  rcases Bool.eq_false_or_eq_true (isCode c) with hi | hi
  · exact h2 c (List.mem_filter.mpr ⟨hc, hi⟩)
  · simpa [hi] using h
set_option maxRecDepth 65536 in
theorem w_c0 : (Jvm.Cond.code x code maxLocals ret).before args0 about1 = true := code_word (m := ⟨1, 1⟩) (meth := k1m1) (c := k1c1) (by decide +kernel) rfl rfl rfl (by decide +kernel)
set_option maxRecDepth 65536 in
theorem w_c1 : (Jvm.Cond.code ({ cls := "com/example/loadgate/loadgate/NodeOrder", name := "<init>", desc := "()V" } : Jvm.MethodName) prog_34_method_1_code (1 : Nat) (Option.none : Option Jvm.ClassFile.FieldType)).before args0 about1 = true := code_word (m := ⟨2, 0⟩) (meth := k2m0) (c := k2c0) (by decide +kernel) rfl rfl rfl (by decide +kernel)
set_option maxRecDepth 65536 in
theorem w_c2 : (Jvm.Cond.code ({ cls := "java/lang/Object", name := "<init>", desc := "()V" } : Jvm.MethodName) object_method_1_code (1 : Nat) (Option.none : Option Jvm.ClassFile.FieldType)).before args0 about1 = true := code_word (m := ⟨0, 0⟩) (meth := k0m0) (c := k0c0) (by decide +kernel) rfl rfl rfl (by decide +kernel)
set_option maxRecDepth 65536 in
theorem w_c3 : (Jvm.Cond.code ({ cls := "com/example/loadgate/loadgate/NodeOrder", name := "resize", desc := "(I)V" } : Jvm.MethodName) prog_34_method_3_code (2 : Nat) (Option.none : Option Jvm.ClassFile.FieldType)).before args0 about1 = true := code_word (m := ⟨2, 2⟩) (meth := k2m2) (c := k2c2) (by decide +kernel) rfl rfl rfl (by decide +kernel)
set_option maxRecDepth 65536 in
theorem w_c4 : (Jvm.Cond.code ({ cls := "java/util/Arrays", name := "copyOf", desc := "([II)[I" } : Jvm.MethodName) jdk_65_method_123_code (3 : Nat) (Option.some (Jvm.ClassFile.FieldType.array Jvm.ClassFile.FieldType.int))).before args0 about1 = true := code_word (m := ⟨3, 1⟩) (meth := k3m1) (c := k3c1) (by decide +kernel) rfl rfl rfl (by decide +kernel)
set_option maxRecDepth 65536 in
theorem w_c5 : (Jvm.Cond.code ({ cls := "java/lang/Math", name := "min", desc := "(II)I" } : Jvm.MethodName) jdk_29_method_69_code (2 : Nat) (Option.some Jvm.ClassFile.FieldType.int)).before args0 about1 = true := code_word (m := ⟨4, 1⟩) (meth := k4m1) (c := k4c1) (by decide +kernel) rfl rfl rfl (by decide +kernel)
set_option maxRecDepth 65536 in
theorem w_c6 : (Jvm.Cond.code ({ cls := "com/example/loadgate/loadgate/NodeOrder", name := "append", desc := "(I)V" } : Jvm.MethodName) prog_34_method_4_code (2 : Nat) (Option.none : Option Jvm.ClassFile.FieldType)).before args0 about1 = true := code_word (m := ⟨2, 3⟩) (meth := k2m3) (c := k2c3) (by decide +kernel) rfl rfl rfl (by decide +kernel)
set_option maxRecDepth 65536 in
theorem w_c7 : (Jvm.Cond.code ({ cls := "com/example/loadgate/loadgate/NodeOrder", name := "setAfter", desc := "(II)V" } : Jvm.MethodName) prog_34_method_8_code (3 : Nat) (Option.none : Option Jvm.ClassFile.FieldType)).before args0 about1 = true := code_word (m := ⟨2, 5⟩) (meth := k2m5) (c := k2c5) (by decide +kernel) rfl rfl rfl (by decide +kernel)
set_option maxRecDepth 65536 in
theorem w_c8 : (Jvm.Cond.code ({ cls := "com/example/loadgate/loadgate/NodeOrder", name := "eldest", desc := "()I" } : Jvm.MethodName) prog_34_method_2_code (1 : Nat) (Option.some Jvm.ClassFile.FieldType.int)).before args0 about1 = true := code_word (m := ⟨2, 1⟩) (meth := k2m1) (c := k2c1) (by decide +kernel) rfl rfl rfl (by decide +kernel)
set_option maxRecDepth 65536 in
theorem w_c9 : (Jvm.Cond.code ({ cls := "com/example/loadgate/loadgate/NodeOrder", name := "unlink", desc := "(I)V" } : Jvm.MethodName) prog_34_method_5_code (4 : Nat) (Option.none : Option Jvm.ClassFile.FieldType)).before args0 about1 = true := code_word (m := ⟨2, 4⟩) (meth := k2m4) (c := k2c4) (by decide +kernel) rfl rfl rfl (by decide +kernel)
set_option maxRecDepth 65536 in
theorem w_c10 : (Jvm.Cond.code ({ cls := "com/example/loadgate/loadgate/NodeOrder", name := "setBefore", desc := "(II)V" } : Jvm.MethodName) prog_34_method_9_code (3 : Nat) (Option.none : Option Jvm.ClassFile.FieldType)).before args0 about1 = true := code_word (m := ⟨2, 6⟩) (meth := k2m6) (c := k2c6) (by decide +kernel) rfl rfl rfl (by decide +kernel)
def codes1 : List Jvm.Cond := [Jvm.Cond.code x code maxLocals ret, Jvm.Cond.code ({ cls := "com/example/loadgate/loadgate/NodeOrder", name := "<init>", desc := "()V" } : Jvm.MethodName) prog_34_method_1_code (1 : Nat) (Option.none : Option Jvm.ClassFile.FieldType), Jvm.Cond.code ({ cls := "java/lang/Object", name := "<init>", desc := "()V" } : Jvm.MethodName) object_method_1_code (1 : Nat) (Option.none : Option Jvm.ClassFile.FieldType), Jvm.Cond.code ({ cls := "com/example/loadgate/loadgate/NodeOrder", name := "resize", desc := "(I)V" } : Jvm.MethodName) prog_34_method_3_code (2 : Nat) (Option.none : Option Jvm.ClassFile.FieldType), Jvm.Cond.code ({ cls := "java/util/Arrays", name := "copyOf", desc := "([II)[I" } : Jvm.MethodName) jdk_65_method_123_code (3 : Nat) (Option.some (Jvm.ClassFile.FieldType.array Jvm.ClassFile.FieldType.int)), Jvm.Cond.code ({ cls := "java/lang/Math", name := "min", desc := "(II)I" } : Jvm.MethodName) jdk_29_method_69_code (2 : Nat) (Option.some Jvm.ClassFile.FieldType.int), Jvm.Cond.code ({ cls := "com/example/loadgate/loadgate/NodeOrder", name := "append", desc := "(I)V" } : Jvm.MethodName) prog_34_method_4_code (2 : Nat) (Option.none : Option Jvm.ClassFile.FieldType), Jvm.Cond.code ({ cls := "com/example/loadgate/loadgate/NodeOrder", name := "setAfter", desc := "(II)V" } : Jvm.MethodName) prog_34_method_8_code (3 : Nat) (Option.none : Option Jvm.ClassFile.FieldType), Jvm.Cond.code ({ cls := "com/example/loadgate/loadgate/NodeOrder", name := "eldest", desc := "()I" } : Jvm.MethodName) prog_34_method_2_code (1 : Nat) (Option.some Jvm.ClassFile.FieldType.int), Jvm.Cond.code ({ cls := "com/example/loadgate/loadgate/NodeOrder", name := "unlink", desc := "(I)V" } : Jvm.MethodName) prog_34_method_5_code (4 : Nat) (Option.none : Option Jvm.ClassFile.FieldType), Jvm.Cond.code ({ cls := "com/example/loadgate/loadgate/NodeOrder", name := "setBefore", desc := "(II)V" } : Jvm.MethodName) prog_34_method_9_code (3 : Nat) (Option.none : Option Jvm.ClassFile.FieldType)]
set_option maxRecDepth 65536 in
theorem codes_eq : words1.filter isCode = codes1 := rfl
theorem w_codes : ∀ c ∈ words1.filter isCode, c.before args0 about1 = true := by
  rw [codes_eq]
  intro c hc
  simp only [codes1, List.mem_cons, List.not_mem_nil, or_false] at hc
  rcases hc with rfl | rfl | rfl | rfl | rfl | rfl | rfl | rfl | rfl | rfl | rfl
  · exact w_c0
  · exact w_c1
  · exact w_c2
  · exact w_c3
  · exact w_c4
  · exact w_c5
  · exact w_c6
  · exact w_c7
  · exact w_c8
  · exact w_c9
  · exact w_c10
set_option maxRecDepth 65536 in
theorem w_t1 : (words1.take 24).all (fun c => isCode c || c.before args0 about1) = true := by decide +kernel
set_option maxRecDepth 65536 in
theorem w_t2 : ((words1.drop 24).take 24).all (fun c => isCode c || c.before args0 about1) = true := by decide +kernel
set_option maxRecDepth 65536 in
theorem w_t3 : ((words1.drop 24).drop 24).all (fun c => isCode c || c.before args0 about1) = true := by decide +kernel
theorem w_tables : (allAtoms (Jvm.Cond.code x code maxLocals ret :: tables_1)).before args0 about1 = true := by
  rw [allAtoms_all]
  show words1.all (fun c => c.before args0 about1) = true
  refine all_split ?_ w_codes
  rw [← List.take_append_drop 24 words1, List.all_append, w_t1, ← List.take_append_drop 24 (words1.drop 24), List.all_append, w_t2, w_t3]
  rfl
set_option maxRecDepth 65536 in
theorem w_case : (Jvm.Cond.and given_1 narrow_1).before args0 about1 = true := by decide +kernel
theorem w_applies : (headSpec (Jvm.Cond.code x code maxLocals ret :: tables_1) room_1).applies x e0.platform about1 = true :=
  (Spec.applies_iff w_frames).mpr ⟨w_running, w_runnable, w_alone, w_named, w_hears, w_ripe, w_room, w_tables⟩
theorem atStart : AtStart classFile x code maxLocals ret World_1 tables_1 room_1 Calls_1 rest_1 Pre_1 launch0 p0 e0 about1 theMethod args0 below0 :=
  ⟨lists_1, trivial, launch0.admits_env _ _ _, launch0.least_env, fairChoices_fair.cas, fairChoices_fair.clock, w_frames, w_args, w_heap, w_applies, trivial, trivial, w_case⟩
end start1
theorem witness_1 : WitnessClaimed_1 := ⟨start1.p0, start1.e0, start1.about1, start1.theMethod, start1.args0, start1.below0, start1.atStart⟩
end Jvm.Pilot.@@N@@
