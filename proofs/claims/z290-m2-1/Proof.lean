import JvmDerived
import JvmDerived.Pilot.@@N@@Statement
import JvmDerived.Pilot.@@N@@Code
set_option linter.unusedVariables false
set_option linter.unusedSimpArgs false
namespace Jvm.Pilot.@@N@@
open Jvm Jvm.ClassFile Sem Op Lib Jvm.Free Jvm.Stand Jvm.LawKit Jvm.RoadKit Bundle Jvm.Pilot.@@N@@.Jvm.D
/-- one stretch of the walk, then the rest of it -/
theorem own_go {tb : Tables} {e : Env} {below : List Frame} {S S' : State} {K : State → Outcome → Prop} (st : ∀ t, Steps tb e below S' t → Steps tb e below S t) (h : ∃ t o, Steps tb e below S' t ∧ K t o) : ∃ t o, Steps tb e below S t ∧ K t o := by
  obtain ⟨t, o, h1, h2⟩ := h
  exact ⟨t, o, st _ h1, h2⟩
theorem pd_0 : parseMethodDescriptor "()Z" = some ⟨[], some .boolean⟩ := by decide +kernel
theorem pd_1 : parseMethodDescriptor "(II)I" = some ⟨[.int, .int], some .int⟩ := by decide +kernel
theorem pd_2 : parseMethodDescriptor "(I)V" = some ⟨[.int], none⟩ := by decide +kernel
theorem pd_3 : parseMethodDescriptor "(Z)V" = some ⟨[.boolean], none⟩ := by decide +kernel
theorem pd_4 : parseMethodDescriptor "()V" = some ⟨[], none⟩ := by decide +kernel
def own_W (Z : State) (h : Heap) (a b : Addr) (kb : ClassId) (n nx hd fl : Int32) (vs : List Value) : Prop := Exa Z h a "com/example/shunt/shunt/core/OutcomeWindow" ∧ Fld Z h a "com/example/shunt/shunt/core/OutcomeWindow" "outcomes" "[Z" (.ref b) ∧ Fld Z h a "com/example/shunt/shunt/core/OutcomeWindow" "held" "I" (.int hd) ∧ Fld Z h a "com/example/shunt/shunt/core/OutcomeWindow" "next" "I" (.int nx) ∧ Fld Z h a "com/example/shunt/shunt/core/OutcomeWindow" "failures" "I" (.int fl) ∧ Arv Z h b kb .boolean n vs (.int (0 : Int32))
def own_I (Z : State) (h : Heap) (a b : Addr) (kb : ClassId) (n hd : Int32) : Prop := ∃ (nx fl : Int32) (vs : List Value), ¬ nx < 0 ∧ nx < n ∧ 4 ≤ vs.length ∧ own_W Z h a b kb n nx hd fl vs
theorem own_exa {Z : State} {h : Heap} {a b : Addr} {kb : ClassId} {n hd : Int32} (H : own_I Z h a b kb n hd) : Exa Z h a "com/example/shunt/shunt/core/OutcomeWindow" := by
  obtain ⟨_, _, _, -, -, -, E, -⟩ := H
  exact E
theorem own_szH {Z : State} {h : Heap} {a : Addr} {n0 : Nat} {C : String} (g : n0 ≤ a) (E : Exa Z h a C) : n0 ≤ h.size := Nat.le_trans g (Nat.le_of_lt E.lt)
theorem own_i0 : (0 : Int32).toInt = 0 := rfl
theorem own_nn (n : Int32) (h : 1 ≤ n.toInt ∧ n.toInt ≤ 4) : ¬ n < 0 := by rw [Int32.lt_iff_toInt_lt, own_i0]; omega
theorem own_pos (n : Int32) (h : 1 ≤ n.toInt ∧ n.toInt ≤ 4) : 0 < n := by rw [Int32.lt_iff_toInt_lt, own_i0]; omega
theorem own_cap (n : Int32) (h : 1 ≤ n.toInt ∧ n.toInt ≤ 4) : n.toNatClampNeg ≤ 4 := by simp only [Int32.toNatClampNeg]; omega
theorem own_n0 (n : Int32) (h : 1 ≤ n.toInt ∧ n.toInt ≤ 4) : n ≠ 0 := fun q => by rw [q, own_i0] at h; omega
theorem own_bool {Z : State} {h : Heap} {b : Addr} {kb : ClassId} {n nx : Int32} {vs : List Value} (A : Arv Z h b kb .boolean n vs (.int (0 : Int32))) (q : ¬ nx < 0 ∧ nx < n) : ∃ w : Int32, vs.getD nx.toNatClampNeg (.int (0 : Int32)) = .int w := by
  obtain ⟨cl, Ar, qk, Sz, Nz, Hh, Gf⟩ := A
  have hin := inb_of Sz q
  have f := Gf _ (Nat.lt_of_not_le fun y => hin (Or.inr y))
  cases hv : vs.getD nx.toNatClampNeg (.int (0 : Int32)) with
  | int w => exact ⟨w, rfl⟩
  | _ => rw [hv] at f; simp [fits] at f
theorem own_nat (n nx : Int32) (q : ¬ nx < 0 ∧ nx < n) : 0 ≤ nx.toInt ∧ nx.toInt < n.toInt := by
  simp only [Int32.lt_iff_toInt_lt, own_i0] at q
  omega
theorem own_len (nx n : Int32) (vs : List Value) (h : 1 ≤ n.toInt ∧ n.toInt ≤ 4) (q : ¬ nx < 0 ∧ nx < n) (l : 4 ≤ vs.length) : nx.toNatClampNeg < vs.length := by
  have := own_nat n nx q
  simp only [Int32.toNatClampNeg]
  omega
theorem own_nxr (nx n : Int32) (h : 1 ≤ n.toInt ∧ n.toInt ≤ 4) (q : ¬ nx < 0 ∧ nx < n) : 0 ≤ ((nx + (1 : Int32)) % n).toInt ∧ ((nx + (1 : Int32)) % n).toInt < n.toInt := by
  have a := own_nat n nx q
  have b := c_iadd nx 1
  have r := rng32 (nx + 1)
  rw [show (1 : Int32).toInt = 1 from rfl] at b
  have z := (c_iremV (nx + 1) n).1 (by omega) (by omega)
  exact ⟨z.1, z.2.1⟩
theorem own_nx0 (nx n : Int32) (h : 1 ≤ n.toInt ∧ n.toInt ≤ 4) (q : ¬ nx < 0 ∧ nx < n) : ¬ ((nx + (1 : Int32)) % n) < 0 := by
  have := own_nxr nx n h q
  rw [Int32.lt_iff_toInt_lt, own_i0]; omega
theorem own_nx1 (nx n : Int32) (h : 1 ≤ n.toInt ∧ n.toInt ≤ 4) (q : ¬ nx < 0 ∧ nx < n) : ((nx + (1 : Int32)) % n) < n := by
  have := own_nxr nx n h q
  rw [Int32.lt_iff_toInt_lt]; omega
theorem d1_0 : decode prog_20_method_1_code 0 = .ok (.aload_n 0, 1) := by decide +kernel
theorem d1_1 : decode prog_20_method_1_code 1 = .ok (.invokespecial 1, 3) := by decide +kernel
theorem d1_4 : decode prog_20_method_1_code 4 = .ok (.aload_n 0, 1) := by decide +kernel
theorem d1_5 : decode prog_20_method_1_code 5 = .ok (.iload_n 1, 1) := by decide +kernel
theorem d1_6 : decode prog_20_method_1_code 6 = .ok (.newarray .boolean, 2) := by decide +kernel
theorem d1_8 : decode prog_20_method_1_code 8 = .ok (.putfield 7, 3) := by decide +kernel
theorem d1_11 : decode prog_20_method_1_code 11 = .ok (.return_, 1) := by decide +kernel
theorem pn_1 : plainName "com/example/shunt/shunt/core/OutcomeWindow" = true := by first | (simp [plainName, overriddenIn]; done) | decide +kernel
theorem ef_1 (m : MethodId) (x0 : Addr) (x1 : Int32) : entryFrame m #[(.ref x0), (.int x1)] 2 = mkF m 0 #[.val (.ref x0), .val (.int x1)] [] := by first | (simp [entryFrame, mkF, argsToLocals, Value.category]; done) | rfl
def Q1 (Z : State) (a1 : Addr) (p2 : Int32) (h0 : Heap) (n0 : Nat) (v : Option Value) (h : Heap) (L : List Loc) : Prop := v = none ∧ Fr n0 L ∧ ∃ (b : Addr) (kb : ClassId), n0 ≤ b ∧ b ≠ a1 ∧ own_I Z h a1 b kb p2 0
set_option maxRecDepth 65536 in
set_option maxHeartbeats 40000000 in
theorem rm1 (l : Launch) (Z : State) (a0 : Array Value) (hw : ∀ d ∈ tables_1, d.before a0 Z = true) (ws : List Jvm.Cond) (a1 : Addr) (p2 : Int32) (h0 : Heap) (n0 : Nat) (Z0 : n0 ≤ h0.size) (E : Exa Z h0 a1 "com/example/shunt/shunt/core/OutcomeWindow") (F_outcomes : Fld Z h0 a1 "com/example/shunt/shunt/core/OutcomeWindow" "outcomes" "[Z" .null) (F_held : Fld Z h0 a1 "com/example/shunt/shunt/core/OutcomeWindow" "held" "I" (.int (0 : Int32))) (F_next : Fld Z h0 a1 "com/example/shunt/shunt/core/OutcomeWindow" "next" "I" (.int (0 : Int32))) (F_failures : Fld Z h0 a1 "com/example/shunt/shunt/core/OutcomeWindow" "failures" "I" (.int (0 : Int32))) (ga : n0 ≤ a1) (hn : 1 ≤ p2.toInt ∧ p2.toInt ≤ 4) :
    MetFree l (⟨"com/example/shunt/shunt/core/OutcomeWindow", "<init>", "(I)V"⟩ : MethodName) (head1 (Jvm.Cond.code (⟨"com/example/shunt/shunt/core/OutcomeWindow", "<init>", "(I)V"⟩ : MethodName) prog_20_method_1_code 2 none :: ws) ({ frames := 1, cells := 1, slots := 4, locals := 12 } : Room)) (fun a U => a = #[(.ref a1), (.int p2)] ∧ Z.Warmed39 U.vm ∧ U.heap = h0) (fun _ _ _ _ _ => True) (fun _ U o U' => ∃ v L, o = .returned v ∧ Q1 Z a1 p2 h0 n0 v U'.heap L ∧ FrameEnd U o U' L ({ frames := 1, cells := 1, slots := 4, locals := 12 } : Room).cells ({ frames := 1, cells := 1, slots := 4, locals := 12 } : Room).slots) := by
  refine MetFree.of_bodySF (plainFor_of_name pn_1) hisR ?_
  intro p e s m args below meth c s₁ Bd hml0 hP hK
  obtain ⟨rfl, hZ, hh⟩ := hP
  have hx := Bd.exec
  have hby := Bd.bytes
  have hml : c.maxLocals = 2 := hml0
  have hown : s.vm.findClass "com/example/shunt/shunt/core/OutcomeWindow" = some m.cls := findClass_of_methodNamed Bd.named
  have hnm := (name_of_methodNamed Bd.named Bd.method).1
  have X0 : Stand p l e ({ frames := 1, cells := 1, slots := 4, locals := 12 } : Room) s m #[(.ref a1), (.int p2)] below meth c s₁ [] 0 0 := Stand.of_body Bd
  have e0 : s₁.heap = h0 := by rw [← hh, Bd.state]; rfl
  have N0 := Fr.nil n0
  have pre0 : ∀ t, Steps p.tables e below (s₁.setTop (mkF m 0 #[.val (.ref a1), .val (.int p2)] [])) t → Steps p.tables e below (s₁.setTop (entryFrame m #[(.ref a1), (.int p2)] 2)) t := fun t k => castTop (ef_1 m a1 p2) k
  refine own_go pre0 ?_
  have go1 : ∀ t, Steps p.tables e below (s₁.setTop (mkF m 1 #[.val (.ref a1), .val (.int p2)] [(.ref a1)])) t → Steps p.tables e below (s₁.setTop (mkF m 0 #[.val (.ref a1), .val (.int p2)] [])) t := by
    intro t kt
    show Steps p.tables e below (s₁.setTop (mkF m 0 #[.val (.ref a1), .val (.int p2)] [])) _
    refine XS.aloadN X0.here hx rfl (hb hby d1_0) rfl rfl ?_
    exact kt
  refine own_go go1 ?_
  obtain ⟨T2, X2, e2, st2⟩ := initO X0 hx hZ hown (hw _ (List.mem_of_getElem? (i := 6) rfl)) (hw _ (List.mem_of_getElem? (i := 7) rfl)) (hw _ (List.mem_of_getElem? (i := 8) rfl)) e0 (g := (mkF m 1 #[.val (.ref a1), .val (.int p2)] [(.ref a1)])) rfl (by rw [hml]; rfl) rfl (hb hby d1_1) (by decide) (W := 0) (by show 2 * 0 + _ ≤ _; exact Nat.le_of_eq rfl) (by decide)
  refine own_go (S' := T2.setTop (mkF m 4 #[.val (.ref a1), .val (.int p2)] [])) st2 ?_
  have go3 : ∀ t, Steps p.tables e below (T2.setTop (mkF m 6 #[.val (.ref a1), .val (.int p2)] [(.int p2), (.ref a1)])) t → Steps p.tables e below (T2.setTop (mkF m 4 #[.val (.ref a1), .val (.int p2)] [])) t := by
    intro t kt
    show Steps p.tables e below (T2.setTop (mkF m 4 #[.val (.ref a1), .val (.int p2)] [])) _
    refine XS.aloadN X2.here hx rfl (hb hby d1_4) rfl rfl ?_
    show Steps p.tables e below (T2.setTop (mkF m 5 #[.val (.ref a1), .val (.int p2)] [(.ref a1)])) _
    refine XS.iloadN X2.here hx rfl (hb hby d1_5) rfl ?_
    exact kt
  refine own_go go3 ?_
  obtain ⟨T4, h4, k4, X4, e4, E4, A4, st4⟩ := newP X2 hx hZ (hw _ (List.mem_of_getElem? (i := 9) rfl)) e2 (g := (mkF m 6 #[.val (.ref a1), .val (.int p2)] [(.int p2), (.ref a1)])) rfl (hb hby d1_6) rfl (own_nn p2 hn) (cap := 4) (own_cap p2 hn) (by decide) (by decide) (by decide)
  obtain ⟨b, g4⟩ : ∃ z, z = h0.size := ⟨_, rfl⟩
  rw [← g4] at A4 st4
  have g_b : n0 ≤ b := Nat.le_trans Z0 (Nat.le_of_eq g4.symm)
  have ne_a1_b : a1 ≠ b := Nat.ne_of_lt (Nat.lt_of_lt_of_le E.lt (Nat.le_of_eq g4.symm))
  have F4_a1_outcomes : Fld Z h4 a1 "com/example/shunt/shunt/core/OutcomeWindow" "outcomes" "[Z" .null := F_outcomes.ext E4
  have F4_a1_held : Fld Z h4 a1 "com/example/shunt/shunt/core/OutcomeWindow" "held" "I" (.int (0 : Int32)) := F_held.ext E4
  have F4_a1_next : Fld Z h4 a1 "com/example/shunt/shunt/core/OutcomeWindow" "next" "I" (.int (0 : Int32)) := F_next.ext E4
  have F4_a1_failures : Fld Z h4 a1 "com/example/shunt/shunt/core/OutcomeWindow" "failures" "I" (.int (0 : Int32)) := F_failures.ext E4
  have E4_a1 : Exa Z h4 a1 "com/example/shunt/shunt/core/OutcomeWindow" := E.ext E4
  have V_b : Arv Z h4 b k4 .boolean p2 [(.int (0 : Int32)), (.int (0 : Int32)), (.int (0 : Int32)), (.int (0 : Int32))] (.int (0 : Int32)) := (Arv.new A4 (own_nn p2 hn)).pad (pad_rep [] (.int (0 : Int32)) 4)
  refine own_go (S' := T4.setTop (mkF m 8 #[.val (.ref a1), .val (.int p2)] [(.ref b), (.ref a1)])) st4 ?_
  obtain ⟨T5, h5, X5, e5, W5, st5⟩ := putF X4 hx hZ hown (host := "") (Or.inl (hw _ (List.mem_of_getElem? (i := 10) rfl))) Via.refl e4 F4_a1_outcomes E4_a1 (Or.inr ⟨(hw _ (List.mem_of_getElem? (i := 11) rfl)), rfl, hnm⟩) (hw _ (List.mem_of_getElem? (i := 1) rfl)) (ty := (.array .boolean)) (by decide) rfl rfl (g := (mkF m 8 #[.val (.ref a1), .val (.int p2)] [(.ref b), (.ref a1)])) rfl rfl (hb hby d1_8)
  have F5_a1_outcomes : Fld Z h5 a1 "com/example/shunt/shunt/core/OutcomeWindow" "outcomes" "[Z" (.ref b) := F4_a1_outcomes.same W5
  have F5_a1_held : Fld Z h5 a1 "com/example/shunt/shunt/core/OutcomeWindow" "held" "I" (.int (0 : Int32)) := F4_a1_held.other W5 (Or.inr (slot_ne (Or.inl (hw _ (List.mem_of_getElem? (i := 23) rfl))) (Or.inr (hw _ (List.mem_of_getElem? (i := 11) rfl))) (by decide) (t := .int) (t' := (.array .boolean)) (by decide) (by decide)))
  have F5_a1_next : Fld Z h5 a1 "com/example/shunt/shunt/core/OutcomeWindow" "next" "I" (.int (0 : Int32)) := F4_a1_next.other W5 (Or.inr (slot_ne (Or.inl (hw _ (List.mem_of_getElem? (i := 25) rfl))) (Or.inr (hw _ (List.mem_of_getElem? (i := 11) rfl))) (by decide) (t := .int) (t' := (.array .boolean)) (by decide) (by decide)))
  have F5_a1_failures : Fld Z h5 a1 "com/example/shunt/shunt/core/OutcomeWindow" "failures" "I" (.int (0 : Int32)) := F4_a1_failures.other W5 (Or.inr (slot_ne (Or.inl (hw _ (List.mem_of_getElem? (i := 31) rfl))) (Or.inr (hw _ (List.mem_of_getElem? (i := 11) rfl))) (by decide) (t := .int) (t' := (.array .boolean)) (by decide) (by decide)))
  have E5_a1 : Exa Z h5 a1 "com/example/shunt/shunt/core/OutcomeWindow" := E4_a1.wr W5
  have V5_b : Arv Z h5 b k4 .boolean p2 [(.int (0 : Int32)), (.int (0 : Int32)), (.int (0 : Int32)), (.int (0 : Int32))] (.int (0 : Int32)) := V_b.other W5 (Ne.symm ne_a1_b)
  have N5 := Fr.snoc X5 N0 ga
  refine own_go (S' := T5.setTop (mkF m 11 #[.val (.ref a1), .val (.int p2)] [])) st5 ?_
  obtain ⟨fs, hr, hrun, hended, hW, hsame⟩ := X5.leave (v := none) (fun _ => rfl)
  refine ⟨_, _, X5.returnOut hx Bd.returns (hb hby d1_11) hr, hrun, hended, _, _, rfl, ?_, ⟨_, rfl⟩, hW, hsame.mono (by decide) (by decide)⟩
  show Q1 Z a1 p2 h0 n0 _ T5.heap _
  rw [e5]
  exact ⟨rfl, N5, b, k4, g_b, Ne.symm ne_a1_b, 0, 0, _, by decide, own_pos p2 hn, by decide, E5_a1, F5_a1_outcomes, F5_a1_held, F5_a1_next, F5_a1_failures, V5_b⟩
theorem d4_0 : decode prog_20_method_3_code 0 = .ok (.aload_n 0, 1) := by decide +kernel
theorem d4_1 : decode prog_20_method_3_code 1 = .ok (.getfield 13, 3) := by decide +kernel
theorem d4_4 : decode prog_20_method_3_code 4 = .ok (.aload_n 0, 1) := by decide +kernel
theorem d4_5 : decode prog_20_method_3_code 5 = .ok (.getfield 7, 3) := by decide +kernel
theorem d4_8 : decode prog_20_method_3_code 8 = .ok (.arraylength, 1) := by decide +kernel
theorem d4_9 : decode prog_20_method_3_code 9 = .ok (.if_icmp .ne 7, 3) := by decide +kernel
theorem d4_12 : decode prog_20_method_3_code 12 = .ok (.iconst 1, 1) := by decide +kernel
theorem d4_13 : decode prog_20_method_3_code 13 = .ok (.goto 4, 3) := by decide +kernel
theorem d4_16 : decode prog_20_method_3_code 16 = .ok (.iconst 0, 1) := by decide +kernel
theorem d4_17 : decode prog_20_method_3_code 17 = .ok (.ireturn, 1) := by decide +kernel
theorem pn_4 : plainName "com/example/shunt/shunt/core/OutcomeWindow" = true := by first | (simp [plainName, overriddenIn]; done) | decide +kernel
theorem ef_4 (m : MethodId) (x0 : Addr) : entryFrame m #[(.ref x0)] 1 = mkF m 0 #[.val (.ref x0)] [] := by first | (simp [entryFrame, mkF, argsToLocals, Value.category]; done) | rfl
def own_full (hd n : Int32) : Int32 := if hd = n then 1 else 0
def Q4 (Z : State) (hd n : Int32) (h0 : Heap) (n0 : Nat) (v : Option Value) (h : Heap) (L : List Loc) : Prop := v = some (.int (own_full hd n)) ∧ Fr n0 L ∧ h = h0
set_option maxRecDepth 65536 in
set_option maxHeartbeats 40000000 in
theorem rm4 (l : Launch) (Z : State) (a0 : Array Value) (hw : ∀ d ∈ tables_1, d.before a0 Z = true) (ws : List Jvm.Cond) (a1 : Addr) (b : Addr) (kb : ClassId) (n hd : Int32) (h0 : Heap) (n0 : Nat) (Z0 : n0 ≤ h0.size) (HI : own_I Z h0 a1 b kb n hd) :
    MetFree l (⟨"com/example/shunt/shunt/core/OutcomeWindow", "isFull", "()Z"⟩ : MethodName) (head1 (Jvm.Cond.code (⟨"com/example/shunt/shunt/core/OutcomeWindow", "isFull", "()Z"⟩ : MethodName) prog_20_method_3_code 1 (some .boolean) :: ws) ({ frames := 0, cells := 0, slots := 0, locals := 0 } : Room)) (fun a U => a = #[(.ref a1)] ∧ Z.Warmed39 U.vm ∧ U.heap = h0) (fun _ _ _ _ _ => True) (fun _ U o U' => ∃ v L, o = .returned v ∧ Q4 Z hd n h0 n0 v U'.heap L ∧ FrameEnd U o U' L ({ frames := 0, cells := 0, slots := 0, locals := 0 } : Room).cells ({ frames := 0, cells := 0, slots := 0, locals := 0 } : Room).slots) := by
  refine MetFree.of_bodySF (plainFor_of_name pn_4) hisR ?_
  intro p e s m args below meth c s₁ Bd hml0 hP hK
  obtain ⟨rfl, hZ, hh⟩ := hP
  have hx := Bd.exec
  have hby := Bd.bytes
  have hml : c.maxLocals = 1 := hml0
  have hown : s.vm.findClass "com/example/shunt/shunt/core/OutcomeWindow" = some m.cls := findClass_of_methodNamed Bd.named
  have hnm := (name_of_methodNamed Bd.named Bd.method).1
  have X0 : Stand p l e ({ frames := 0, cells := 0, slots := 0, locals := 0 } : Room) s m #[(.ref a1)] below meth c s₁ [] 0 0 := Stand.of_body Bd
  have e0 : s₁.heap = h0 := by rw [← hh, Bd.state]; rfl
  have N0 := Fr.nil n0
  have pre0 : ∀ t, Steps p.tables e below (s₁.setTop (mkF m 0 #[.val (.ref a1)] [])) t → Steps p.tables e below (s₁.setTop (entryFrame m #[(.ref a1)] 1)) t := fun t k => castTop (ef_4 m a1) k
  refine own_go pre0 ?_
  obtain ⟨nx, fl, vs, jn0, jn1, jl, E, F_outcomes, F_held, F_next, F_failures, VB⟩ := HI
  have go1 : ∀ t, Steps p.tables e below (s₁.setTop (mkF m 1 #[.val (.ref a1)] [(.ref a1)])) t → Steps p.tables e below (s₁.setTop (mkF m 0 #[.val (.ref a1)] [])) t := by
    intro t kt
    show Steps p.tables e below (s₁.setTop (mkF m 0 #[.val (.ref a1)] [])) _
    refine XS.aloadN X0.here hx rfl (hb hby d4_0) rfl rfl ?_
    exact kt
  refine own_go go1 ?_
  obtain ⟨T2, X2, e2, st2⟩ := getF X0 hx hZ hown (host := "") (Or.inl (hw _ (List.mem_of_getElem? (i := 22) rfl))) Via.refl e0 F_held (g := (mkF m 1 #[.val (.ref a1)] [(.ref a1)])) rfl rfl (hb hby d4_1)
  refine own_go (S' := T2.setTop (mkF m 4 #[.val (.ref a1)] [(.int hd)])) st2 ?_
  have go3 : ∀ t, Steps p.tables e below (T2.setTop (mkF m 5 #[.val (.ref a1)] [(.ref a1), (.int hd)])) t → Steps p.tables e below (T2.setTop (mkF m 4 #[.val (.ref a1)] [(.int hd)])) t := by
    intro t kt
    show Steps p.tables e below (T2.setTop (mkF m 4 #[.val (.ref a1)] [(.int hd)])) _
    refine XS.aloadN X2.here hx rfl (hb hby d4_4) rfl rfl ?_
    exact kt
  refine own_go go3 ?_
  obtain ⟨T4, X4, e4, st4⟩ := getF X2 hx hZ hown (host := "") (Or.inl (hw _ (List.mem_of_getElem? (i := 10) rfl))) Via.refl e2 F_outcomes (g := (mkF m 5 #[.val (.ref a1)] [(.ref a1), (.int hd)])) rfl rfl (hb hby d4_5)
  refine own_go (S' := T4.setTop (mkF m 8 #[.val (.ref a1)] [(.ref b), (.int hd)])) st4 ?_
  have Vo5 := VB
  obtain ⟨cl5, Ar5, qk5, Sz5, Nz5, Hh5, Gf5⟩ := Vo5
  have go6 : ∀ t, Steps p.tables e below (T4.setTop (mkF m 9 #[.val (.ref a1)] [(.int n), (.int hd)])) t → Steps p.tables e below (T4.setTop (mkF m 8 #[.val (.ref a1)] [(.ref b), (.int hd)])) t := by
    intro t kt
    refine X4.arraylength hx (by rw [e4]; exact Ar5.1) (State.isArrayOf_alike hZ.alike Ar5.2.1) (g := (mkF m 8 #[.val (.ref a1)] [(.ref b), (.int hd)])) rfl rfl (hb hby d4_8) _ ?_
    rw [len_of Sz5 Nz5]
    exact kt
  refine own_go go6 ?_
  rcases Classical.em (hd = n) with hc9 | hc9
  · have go7 : ∀ t, Steps p.tables e below (T4.setTop (mkF m 17 #[.val (.ref a1)] [(.int (1 : Int32))])) t → Steps p.tables e below (T4.setTop (mkF m 9 #[.val (.ref a1)] [(.int n), (.int hd)])) t := by
      intro t kt
      show Steps p.tables e below (T4.setTop (mkF m 9 #[.val (.ref a1)] [(.int n), (.int hd)])) _
      refine XS.icmpNo X4.here hx rfl (hb hby d4_9) rfl (teq hc9).2 ?_
      show Steps p.tables e below (T4.setTop (mkF m 12 #[.val (.ref a1)] [])) _
      refine XS.iconst X4.here hx rfl (hb hby d4_12) ?_
      show Steps p.tables e below (T4.setTop (mkF m 13 #[.val (.ref a1)] [(.int (1 : Int32))])) _
      refine XS.goto X4.here hx rfl (pc0 := 13) (pc' := 17) rfl (hb hby d4_13) (by decide) (by decide) ?_
      exact kt
    refine own_go go7 ?_
    obtain ⟨fs, hr, hrun, hended, hW, hsame⟩ := X4.leave (v := some (.int (1 : Int32))) (fun h => by rw [Bd.returns] at h; cases h)
    refine ⟨_, _, retN X4 hx (t := .boolean) Bd.returns (by simp) (hb hby d4_17) hr, hrun, hended, _, _, rfl, ?_, ⟨_, rfl⟩, hW, hsame.mono (by decide) (by decide)⟩
    show Q4 Z hd n h0 n0 _ T4.heap _
    rw [e4]
    exact ⟨congrArg (fun z => some (Value.int z)) (show (1 : Int32) = own_full hd n from by first | (simp only [own_full, hc9, not_true_eq_false, not_false_eq_true, and_true, true_and, and_false, false_and, or_true, true_or, or_false, false_or, and_self, or_self, eq_self, if_true, if_false]; done) | (simp [own_full, hc9]; done)), N0, rfl⟩
  · have go8 : ∀ t, Steps p.tables e below (T4.setTop (mkF m 17 #[.val (.ref a1)] [(.int (0 : Int32))])) t → Steps p.tables e below (T4.setTop (mkF m 9 #[.val (.ref a1)] [(.int n), (.int hd)])) t := by
      intro t kt
      show Steps p.tables e below (T4.setTop (mkF m 9 #[.val (.ref a1)] [(.int n), (.int hd)])) _
      refine XS.icmpYes X4.here hx rfl (pc0 := 9) (pc' := 16) rfl (hb hby d4_9) rfl (feq hc9).2 (by decide) (by decide) ?_
      show Steps p.tables e below (T4.setTop (mkF m 16 #[.val (.ref a1)] [])) _
      refine XS.iconst X4.here hx rfl (hb hby d4_16) ?_
      exact kt
    refine own_go go8 ?_
    obtain ⟨fs, hr, hrun, hended, hW, hsame⟩ := X4.leave (v := some (.int (0 : Int32))) (fun h => by rw [Bd.returns] at h; cases h)
    refine ⟨_, _, retN X4 hx (t := .boolean) Bd.returns (by simp) (hb hby d4_17) hr, hrun, hended, _, _, rfl, ?_, ⟨_, rfl⟩, hW, hsame.mono (by decide) (by decide)⟩
    show Q4 Z hd n h0 n0 _ T4.heap _
    rw [e4]
    exact ⟨congrArg (fun z => some (Value.int z)) (show (0 : Int32) = own_full hd n from by first | (simp only [own_full, hc9, not_true_eq_false, not_false_eq_true, and_true, true_and, and_false, false_and, or_true, true_or, or_false, false_or, and_self, or_self, eq_self, if_true, if_false]; done) | (simp [own_full, hc9]; done)), N0, rfl⟩
theorem d5_0 : decode jdk_29_method_69_code 0 = .ok (.iload_n 0, 1) := by decide +kernel
theorem d5_1 : decode jdk_29_method_69_code 1 = .ok (.iload_n 1, 1) := by decide +kernel
theorem d5_2 : decode jdk_29_method_69_code 2 = .ok (.if_icmp .gt 7, 3) := by decide +kernel
theorem d5_5 : decode jdk_29_method_69_code 5 = .ok (.iload_n 0, 1) := by decide +kernel
theorem d5_6 : decode jdk_29_method_69_code 6 = .ok (.goto 4, 3) := by decide +kernel
theorem d5_9 : decode jdk_29_method_69_code 9 = .ok (.iload_n 1, 1) := by decide +kernel
theorem d5_10 : decode jdk_29_method_69_code 10 = .ok (.ireturn, 1) := by decide +kernel
theorem ef_5 (m : MethodId) (x0 : Int32) (x1 : Int32) : entryFrame m #[(.int x0), (.int x1)] 2 = mkF m 0 #[.val (.int x0), .val (.int x1)] [] := by first | (simp [entryFrame, mkF, argsToLocals, Value.category]; done) | rfl
def own_min (p1 p2 : Int32) : Int32 := if p2 < p1 then p2 else p1
def Q5 (Z : State) (p1 p2 : Int32) (h0 : Heap) (n0 : Nat) (v : Option Value) (h : Heap) (L : List Loc) : Prop := v = some (.int (own_min p1 p2)) ∧ Fr n0 L ∧ h = h0
set_option maxRecDepth 65536 in
set_option maxHeartbeats 40000000 in
theorem rm5 (l : Launch) (Z : State) (a0 : Array Value) (hw : ∀ d ∈ tables_1, d.before a0 Z = true) (ws : List Jvm.Cond) (p1 : Int32) (p2 : Int32) (h0 : Heap) (n0 : Nat) (Z0 : n0 ≤ h0.size) :
    MetFree l (⟨"java/lang/Math", "min", "(II)I"⟩ : MethodName) (head1 (Jvm.Cond.code (⟨"java/lang/Math", "min", "(II)I"⟩ : MethodName) jdk_29_method_69_code 2 (some .int) :: ws) ({ frames := 0, cells := 0, slots := 0, locals := 0 } : Room)) (fun a U => a = #[(.int p1), (.int p2)] ∧ Z.Warmed39 U.vm ∧ U.heap = h0) (fun _ _ _ _ _ => True) (fun _ U o U' => ∃ v L, o = .returned v ∧ Q5 Z p1 p2 h0 n0 v U'.heap L ∧ FrameEnd U o U' L ({ frames := 0, cells := 0, slots := 0, locals := 0 } : Room).cells ({ frames := 0, cells := 0, slots := 0, locals := 0 } : Room).slots) := by
  refine MetFree.of_bodySF (Jvm.Free.JP.mathPlain rfl (by decide +kernel)) hisR ?_
  intro p e s m args below meth c s₁ Bd hml0 hP hK
  obtain ⟨rfl, hZ, hh⟩ := hP
  have hx := Bd.exec
  have hby := Bd.bytes
  have hml : c.maxLocals = 2 := hml0
  have hown : s.vm.findClass "java/lang/Math" = some m.cls := findClass_of_methodNamed Bd.named
  have hnm := (name_of_methodNamed Bd.named Bd.method).1
  have X0 : Stand p l e ({ frames := 0, cells := 0, slots := 0, locals := 0 } : Room) s m #[(.int p1), (.int p2)] below meth c s₁ [] 0 0 := Stand.of_body Bd
  have e0 : s₁.heap = h0 := by rw [← hh, Bd.state]; rfl
  have N0 := Fr.nil n0
  have pre0 : ∀ t, Steps p.tables e below (s₁.setTop (mkF m 0 #[.val (.int p1), .val (.int p2)] [])) t → Steps p.tables e below (s₁.setTop (entryFrame m #[(.int p1), (.int p2)] 2)) t := fun t k => castTop (ef_5 m p1 p2) k
  refine own_go pre0 ?_
  have go1 : ∀ t, Steps p.tables e below (s₁.setTop (mkF m 2 #[.val (.int p1), .val (.int p2)] [(.int p2), (.int p1)])) t → Steps p.tables e below (s₁.setTop (mkF m 0 #[.val (.int p1), .val (.int p2)] [])) t := by
    intro t kt
    show Steps p.tables e below (s₁.setTop (mkF m 0 #[.val (.int p1), .val (.int p2)] [])) _
    refine XS.iloadN X0.here hx rfl (hb hby d5_0) rfl ?_
    show Steps p.tables e below (s₁.setTop (mkF m 1 #[.val (.int p1), .val (.int p2)] [(.int p1)])) _
    refine XS.iloadN X0.here hx rfl (hb hby d5_1) rfl ?_
    exact kt
  refine own_go go1 ?_
  rcases Classical.em (p2 < p1) with hc2 | hc2
  · have go2 : ∀ t, Steps p.tables e below (s₁.setTop (mkF m 10 #[.val (.int p1), .val (.int p2)] [(.int p2)])) t → Steps p.tables e below (s₁.setTop (mkF m 2 #[.val (.int p1), .val (.int p2)] [(.int p2), (.int p1)])) t := by
      intro t kt
      show Steps p.tables e below (s₁.setTop (mkF m 2 #[.val (.int p1), .val (.int p2)] [(.int p2), (.int p1)])) _
      refine XS.icmpYes X0.here hx rfl (pc0 := 2) (pc' := 9) rfl (hb hby d5_2) rfl (tlt hc2).2.2.1 (by decide) (by decide) ?_
      show Steps p.tables e below (s₁.setTop (mkF m 9 #[.val (.int p1), .val (.int p2)] [])) _
      refine XS.iloadN X0.here hx rfl (hb hby d5_9) rfl ?_
      exact kt
    refine own_go go2 ?_
    obtain ⟨fs, hr, hrun, hended, hW, hsame⟩ := X0.leave (v := some (.int p2)) (fun h => by rw [Bd.returns] at h; cases h)
    refine ⟨_, _, retOut X0 hx Bd.returns rfl (Or.inl ⟨rfl, Or.inl rfl, _, rfl⟩) (hb hby d5_10) hr, hrun, hended, _, _, rfl, ?_, ⟨_, rfl⟩, hW, hsame.mono (by decide) (by decide)⟩
    show Q5 Z p1 p2 h0 n0 _ s₁.heap _
    rw [e0]
    exact ⟨congrArg (fun z => some (Value.int z)) (show p2 = own_min p1 p2 from by first | (simp only [own_min, hc2, not_true_eq_false, not_false_eq_true, and_true, true_and, and_false, false_and, or_true, true_or, or_false, false_or, and_self, or_self, eq_self, if_true, if_false]; done) | (simp [own_min, hc2]; done)), N0, rfl⟩
  · have go3 : ∀ t, Steps p.tables e below (s₁.setTop (mkF m 10 #[.val (.int p1), .val (.int p2)] [(.int p1)])) t → Steps p.tables e below (s₁.setTop (mkF m 2 #[.val (.int p1), .val (.int p2)] [(.int p2), (.int p1)])) t := by
      intro t kt
      show Steps p.tables e below (s₁.setTop (mkF m 2 #[.val (.int p1), .val (.int p2)] [(.int p2), (.int p1)])) _
      refine XS.icmpNo X0.here hx rfl (hb hby d5_2) rfl (flt hc2).2.2.1 ?_
      show Steps p.tables e below (s₁.setTop (mkF m 5 #[.val (.int p1), .val (.int p2)] [])) _
      refine XS.iloadN X0.here hx rfl (hb hby d5_5) rfl ?_
      show Steps p.tables e below (s₁.setTop (mkF m 6 #[.val (.int p1), .val (.int p2)] [(.int p1)])) _
      refine XS.goto X0.here hx rfl (pc0 := 6) (pc' := 10) rfl (hb hby d5_6) (by decide) (by decide) ?_
      exact kt
    refine own_go go3 ?_
    obtain ⟨fs, hr, hrun, hended, hW, hsame⟩ := X0.leave (v := some (.int p1)) (fun h => by rw [Bd.returns] at h; cases h)
    refine ⟨_, _, retOut X0 hx Bd.returns rfl (Or.inl ⟨rfl, Or.inl rfl, _, rfl⟩) (hb hby d5_10) hr, hrun, hended, _, _, rfl, ?_, ⟨_, rfl⟩, hW, hsame.mono (by decide) (by decide)⟩
    show Q5 Z p1 p2 h0 n0 _ s₁.heap _
    rw [e0]
    exact ⟨congrArg (fun z => some (Value.int z)) (show p1 = own_min p1 p2 from by first | (simp only [own_min, hc2, not_true_eq_false, not_false_eq_true, and_true, true_and, and_false, false_and, or_true, true_or, or_false, false_or, and_self, or_self, eq_self, if_true, if_false]; done) | (simp [own_min, hc2]; done)), N0, rfl⟩
theorem d6_0 : decode prog_20_method_7_code 0 = .ok (.aload_n 0, 1) := by decide +kernel
theorem d6_1 : decode prog_20_method_7_code 1 = .ok (.iconst 0, 1) := by decide +kernel
theorem d6_2 : decode prog_20_method_7_code 2 = .ok (.putfield 13, 3) := by decide +kernel
theorem d6_5 : decode prog_20_method_7_code 5 = .ok (.aload_n 0, 1) := by decide +kernel
theorem d6_6 : decode prog_20_method_7_code 6 = .ok (.iconst 0, 1) := by decide +kernel
theorem d6_7 : decode prog_20_method_7_code 7 = .ok (.putfield 24, 3) := by decide +kernel
theorem d6_10 : decode prog_20_method_7_code 10 = .ok (.aload_n 0, 1) := by decide +kernel
theorem d6_11 : decode prog_20_method_7_code 11 = .ok (.iconst 0, 1) := by decide +kernel
theorem d6_12 : decode prog_20_method_7_code 12 = .ok (.putfield 17, 3) := by decide +kernel
theorem d6_15 : decode prog_20_method_7_code 15 = .ok (.return_, 1) := by decide +kernel
theorem pn_6 : plainName "com/example/shunt/shunt/core/OutcomeWindow" = true := by first | (simp [plainName, overriddenIn]; done) | decide +kernel
theorem ef_6 (m : MethodId) (x0 : Addr) : entryFrame m #[(.ref x0)] 1 = mkF m 0 #[.val (.ref x0)] [] := by first | (simp [entryFrame, mkF, argsToLocals, Value.category]; done) | rfl
def Q6 (Z : State) (a1 b : Addr) (kb : ClassId) (n hd : Int32) (h0 : Heap) (n0 : Nat) (v : Option Value) (h : Heap) (L : List Loc) : Prop := v = none ∧ Fr n0 L ∧ own_I Z h a1 b kb n hd
set_option maxRecDepth 65536 in
set_option maxHeartbeats 40000000 in
theorem rm6 (l : Launch) (Z : State) (a0 : Array Value) (hw : ∀ d ∈ tables_1, d.before a0 Z = true) (ws : List Jvm.Cond) (a1 : Addr) (b : Addr) (kb : ClassId) (n hd : Int32) (h0 : Heap) (n0 : Nat) (Z0 : n0 ≤ h0.size) (HI : own_I Z h0 a1 b kb n hd) (ga : n0 ≤ a1) (nb : b ≠ a1) (hn : 1 ≤ n.toInt ∧ n.toInt ≤ 4) :
    MetFree l (⟨"com/example/shunt/shunt/core/OutcomeWindow", "clear", "()V"⟩ : MethodName) (head1 (Jvm.Cond.code (⟨"com/example/shunt/shunt/core/OutcomeWindow", "clear", "()V"⟩ : MethodName) prog_20_method_7_code 1 none :: ws) ({ frames := 0, cells := 0, slots := 0, locals := 0 } : Room)) (fun a U => a = #[(.ref a1)] ∧ Z.Warmed39 U.vm ∧ U.heap = h0) (fun _ _ _ _ _ => True) (fun _ U o U' => ∃ v L, o = .returned v ∧ Q6 Z a1 b kb n 0 h0 n0 v U'.heap L ∧ FrameEnd U o U' L ({ frames := 0, cells := 0, slots := 0, locals := 0 } : Room).cells ({ frames := 0, cells := 0, slots := 0, locals := 0 } : Room).slots) := by
  refine MetFree.of_bodySF (plainFor_of_name pn_6) hisR ?_
  intro p e s m args below meth c s₁ Bd hml0 hP hK
  obtain ⟨rfl, hZ, hh⟩ := hP
  have hx := Bd.exec
  have hby := Bd.bytes
  have hml : c.maxLocals = 1 := hml0
  have hown : s.vm.findClass "com/example/shunt/shunt/core/OutcomeWindow" = some m.cls := findClass_of_methodNamed Bd.named
  have hnm := (name_of_methodNamed Bd.named Bd.method).1
  have X0 : Stand p l e ({ frames := 0, cells := 0, slots := 0, locals := 0 } : Room) s m #[(.ref a1)] below meth c s₁ [] 0 0 := Stand.of_body Bd
  have e0 : s₁.heap = h0 := by rw [← hh, Bd.state]; rfl
  have N0 := Fr.nil n0
  have pre0 : ∀ t, Steps p.tables e below (s₁.setTop (mkF m 0 #[.val (.ref a1)] [])) t → Steps p.tables e below (s₁.setTop (entryFrame m #[(.ref a1)] 1)) t := fun t k => castTop (ef_6 m a1) k
  refine own_go pre0 ?_
  obtain ⟨nx, fl, vs, jn0, jn1, jl, E, F_outcomes, F_held, F_next, F_failures, VB⟩ := HI
  have go1 : ∀ t, Steps p.tables e below (s₁.setTop (mkF m 2 #[.val (.ref a1)] [(.int (0 : Int32)), (.ref a1)])) t → Steps p.tables e below (s₁.setTop (mkF m 0 #[.val (.ref a1)] [])) t := by
    intro t kt
    show Steps p.tables e below (s₁.setTop (mkF m 0 #[.val (.ref a1)] [])) _
    refine XS.aloadN X0.here hx rfl (hb hby d6_0) rfl rfl ?_
    show Steps p.tables e below (s₁.setTop (mkF m 1 #[.val (.ref a1)] [(.ref a1)])) _
    refine XS.iconst X0.here hx rfl (hb hby d6_1) ?_
    exact kt
  refine own_go go1 ?_
  obtain ⟨T2, h2, X2, e2, W2, st2⟩ := putF X0 hx hZ hown (host := "") (Or.inl (hw _ (List.mem_of_getElem? (i := 22) rfl))) Via.refl e0 F_held E (Or.inl (hw _ (List.mem_of_getElem? (i := 23) rfl))) (hw _ (List.mem_of_getElem? (i := 1) rfl)) (ty := .int) (by decide) rfl rfl (g := (mkF m 2 #[.val (.ref a1)] [(.int (0 : Int32)), (.ref a1)])) rfl rfl (hb hby d6_2)
  have F2_a1_outcomes : Fld Z h2 a1 "com/example/shunt/shunt/core/OutcomeWindow" "outcomes" "[Z" (.ref b) := F_outcomes.other W2 (Or.inr (slot_ne (Or.inr (hw _ (List.mem_of_getElem? (i := 11) rfl))) (Or.inl (hw _ (List.mem_of_getElem? (i := 23) rfl))) (by decide) (t := (.array .boolean)) (t' := .int) (by decide) (by decide)))
  have F2_a1_held : Fld Z h2 a1 "com/example/shunt/shunt/core/OutcomeWindow" "held" "I" (.int (0 : Int32)) := F_held.same W2
  have F2_a1_next : Fld Z h2 a1 "com/example/shunt/shunt/core/OutcomeWindow" "next" "I" (.int nx) := F_next.other W2 (Or.inr (slot_ne (Or.inl (hw _ (List.mem_of_getElem? (i := 25) rfl))) (Or.inl (hw _ (List.mem_of_getElem? (i := 23) rfl))) (by decide) (t := .int) (t' := .int) (by decide) (by decide)))
  have F2_a1_failures : Fld Z h2 a1 "com/example/shunt/shunt/core/OutcomeWindow" "failures" "I" (.int fl) := F_failures.other W2 (Or.inr (slot_ne (Or.inl (hw _ (List.mem_of_getElem? (i := 31) rfl))) (Or.inl (hw _ (List.mem_of_getElem? (i := 23) rfl))) (by decide) (t := .int) (t' := .int) (by decide) (by decide)))
  have E2_a1 : Exa Z h2 a1 "com/example/shunt/shunt/core/OutcomeWindow" := E.wr W2
  have V2_b : Arv Z h2 b kb .boolean n vs (.int (0 : Int32)) := VB.other W2 nb
  have N2 := Fr.snoc X2 N0 ga
  refine own_go (S' := T2.setTop (mkF m 5 #[.val (.ref a1)] [])) st2 ?_
  have go3 : ∀ t, Steps p.tables e below (T2.setTop (mkF m 7 #[.val (.ref a1)] [(.int (0 : Int32)), (.ref a1)])) t → Steps p.tables e below (T2.setTop (mkF m 5 #[.val (.ref a1)] [])) t := by
    intro t kt
    show Steps p.tables e below (T2.setTop (mkF m 5 #[.val (.ref a1)] [])) _
    refine XS.aloadN X2.here hx rfl (hb hby d6_5) rfl rfl ?_
    show Steps p.tables e below (T2.setTop (mkF m 6 #[.val (.ref a1)] [(.ref a1)])) _
    refine XS.iconst X2.here hx rfl (hb hby d6_6) ?_
    exact kt
  refine own_go go3 ?_
  obtain ⟨T4, h4, X4, e4, W4, st4⟩ := putF X2 hx hZ hown (host := "") (Or.inl (hw _ (List.mem_of_getElem? (i := 24) rfl))) Via.refl e2 F2_a1_next E2_a1 (Or.inl (hw _ (List.mem_of_getElem? (i := 25) rfl))) (hw _ (List.mem_of_getElem? (i := 1) rfl)) (ty := .int) (by decide) rfl rfl (g := (mkF m 7 #[.val (.ref a1)] [(.int (0 : Int32)), (.ref a1)])) rfl rfl (hb hby d6_7)
  have F4_a1_outcomes : Fld Z h4 a1 "com/example/shunt/shunt/core/OutcomeWindow" "outcomes" "[Z" (.ref b) := F2_a1_outcomes.other W4 (Or.inr (slot_ne (Or.inr (hw _ (List.mem_of_getElem? (i := 11) rfl))) (Or.inl (hw _ (List.mem_of_getElem? (i := 25) rfl))) (by decide) (t := (.array .boolean)) (t' := .int) (by decide) (by decide)))
  have F4_a1_held : Fld Z h4 a1 "com/example/shunt/shunt/core/OutcomeWindow" "held" "I" (.int (0 : Int32)) := F2_a1_held.other W4 (Or.inr (slot_ne (Or.inl (hw _ (List.mem_of_getElem? (i := 23) rfl))) (Or.inl (hw _ (List.mem_of_getElem? (i := 25) rfl))) (by decide) (t := .int) (t' := .int) (by decide) (by decide)))
  have F4_a1_next : Fld Z h4 a1 "com/example/shunt/shunt/core/OutcomeWindow" "next" "I" (.int (0 : Int32)) := F2_a1_next.same W4
  have F4_a1_failures : Fld Z h4 a1 "com/example/shunt/shunt/core/OutcomeWindow" "failures" "I" (.int fl) := F2_a1_failures.other W4 (Or.inr (slot_ne (Or.inl (hw _ (List.mem_of_getElem? (i := 31) rfl))) (Or.inl (hw _ (List.mem_of_getElem? (i := 25) rfl))) (by decide) (t := .int) (t' := .int) (by decide) (by decide)))
  have E4_a1 : Exa Z h4 a1 "com/example/shunt/shunt/core/OutcomeWindow" := E2_a1.wr W4
  have V4_b : Arv Z h4 b kb .boolean n vs (.int (0 : Int32)) := V2_b.other W4 nb
  have N4 := Fr.snoc X4 N2 ga
  refine own_go (S' := T4.setTop (mkF m 10 #[.val (.ref a1)] [])) st4 ?_
  have go5 : ∀ t, Steps p.tables e below (T4.setTop (mkF m 12 #[.val (.ref a1)] [(.int (0 : Int32)), (.ref a1)])) t → Steps p.tables e below (T4.setTop (mkF m 10 #[.val (.ref a1)] [])) t := by
    intro t kt
    show Steps p.tables e below (T4.setTop (mkF m 10 #[.val (.ref a1)] [])) _
    refine XS.aloadN X4.here hx rfl (hb hby d6_10) rfl rfl ?_
    show Steps p.tables e below (T4.setTop (mkF m 11 #[.val (.ref a1)] [(.ref a1)])) _
    refine XS.iconst X4.here hx rfl (hb hby d6_11) ?_
    exact kt
  refine own_go go5 ?_
  obtain ⟨T6, h6, X6, e6, W6, st6⟩ := putF X4 hx hZ hown (host := "") (Or.inl (hw _ (List.mem_of_getElem? (i := 30) rfl))) Via.refl e4 F4_a1_failures E4_a1 (Or.inl (hw _ (List.mem_of_getElem? (i := 31) rfl))) (hw _ (List.mem_of_getElem? (i := 1) rfl)) (ty := .int) (by decide) rfl rfl (g := (mkF m 12 #[.val (.ref a1)] [(.int (0 : Int32)), (.ref a1)])) rfl rfl (hb hby d6_12)
  have F6_a1_outcomes : Fld Z h6 a1 "com/example/shunt/shunt/core/OutcomeWindow" "outcomes" "[Z" (.ref b) := F4_a1_outcomes.other W6 (Or.inr (slot_ne (Or.inr (hw _ (List.mem_of_getElem? (i := 11) rfl))) (Or.inl (hw _ (List.mem_of_getElem? (i := 31) rfl))) (by decide) (t := (.array .boolean)) (t' := .int) (by decide) (by decide)))
  have F6_a1_held : Fld Z h6 a1 "com/example/shunt/shunt/core/OutcomeWindow" "held" "I" (.int (0 : Int32)) := F4_a1_held.other W6 (Or.inr (slot_ne (Or.inl (hw _ (List.mem_of_getElem? (i := 23) rfl))) (Or.inl (hw _ (List.mem_of_getElem? (i := 31) rfl))) (by decide) (t := .int) (t' := .int) (by decide) (by decide)))
  have F6_a1_next : Fld Z h6 a1 "com/example/shunt/shunt/core/OutcomeWindow" "next" "I" (.int (0 : Int32)) := F4_a1_next.other W6 (Or.inr (slot_ne (Or.inl (hw _ (List.mem_of_getElem? (i := 25) rfl))) (Or.inl (hw _ (List.mem_of_getElem? (i := 31) rfl))) (by decide) (t := .int) (t' := .int) (by decide) (by decide)))
  have F6_a1_failures : Fld Z h6 a1 "com/example/shunt/shunt/core/OutcomeWindow" "failures" "I" (.int (0 : Int32)) := F4_a1_failures.same W6
  have E6_a1 : Exa Z h6 a1 "com/example/shunt/shunt/core/OutcomeWindow" := E4_a1.wr W6
  have V6_b : Arv Z h6 b kb .boolean n vs (.int (0 : Int32)) := V4_b.other W6 nb
  have N6 := Fr.snoc X6 N4 ga
  refine own_go (S' := T6.setTop (mkF m 15 #[.val (.ref a1)] [])) st6 ?_
  obtain ⟨fs, hr, hrun, hended, hW, hsame⟩ := X6.leave (v := none) (fun _ => rfl)
  refine ⟨_, _, X6.returnOut hx Bd.returns (hb hby d6_15) hr, hrun, hended, _, _, rfl, ?_, ⟨_, rfl⟩, hW, hsame.mono (by decide) (by decide)⟩
  show Q6 Z a1 b kb n 0 h0 n0 _ T6.heap _
  rw [e6]
  exact ⟨rfl, N6, ⟨_, _, _, (by decide), (own_pos n hn), jl, E6_a1, F6_a1_outcomes, F6_a1_held, F6_a1_next, F6_a1_failures, V6_b⟩⟩
theorem d3_0 : decode prog_20_method_6_code 0 = .ok (.aload_n 0, 1) := by decide +kernel
theorem d3_1 : decode prog_20_method_6_code 1 = .ok (.invokevirtual 20, 3) := by decide +kernel
theorem d3_4 : decode prog_20_method_6_code 4 = .ok (.ifCond .eq 25, 3) := by decide +kernel
theorem d3_7 : decode prog_20_method_6_code 7 = .ok (.aload_n 0, 1) := by decide +kernel
theorem d3_8 : decode prog_20_method_6_code 8 = .ok (.getfield 7, 3) := by decide +kernel
theorem d3_11 : decode prog_20_method_6_code 11 = .ok (.aload_n 0, 1) := by decide +kernel
theorem d3_12 : decode prog_20_method_6_code 12 = .ok (.getfield 24, 3) := by decide +kernel
theorem d3_15 : decode prog_20_method_6_code 15 = .ok (.baload, 1) := by decide +kernel
theorem d3_16 : decode prog_20_method_6_code 16 = .ok (.ifCond .eq 13, 3) := by decide +kernel
theorem d3_19 : decode prog_20_method_6_code 19 = .ok (.aload_n 0, 1) := by decide +kernel
theorem d3_20 : decode prog_20_method_6_code 20 = .ok (.dup, 1) := by decide +kernel
theorem d3_21 : decode prog_20_method_6_code 21 = .ok (.getfield 17, 3) := by decide +kernel
theorem d3_24 : decode prog_20_method_6_code 24 = .ok (.iconst 1, 1) := by decide +kernel
theorem d3_25 : decode prog_20_method_6_code 25 = .ok (.isub, 1) := by decide +kernel
theorem d3_26 : decode prog_20_method_6_code 26 = .ok (.putfield 17, 3) := by decide +kernel
theorem d3_29 : decode prog_20_method_6_code 29 = .ok (.aload_n 0, 1) := by decide +kernel
theorem d3_30 : decode prog_20_method_6_code 30 = .ok (.getfield 7, 3) := by decide +kernel
theorem d3_33 : decode prog_20_method_6_code 33 = .ok (.aload_n 0, 1) := by decide +kernel
theorem d3_34 : decode prog_20_method_6_code 34 = .ok (.getfield 24, 3) := by decide +kernel
theorem d3_37 : decode prog_20_method_6_code 37 = .ok (.iload_n 1, 1) := by decide +kernel
theorem d3_38 : decode prog_20_method_6_code 38 = .ok (.bastore, 1) := by decide +kernel
theorem d3_39 : decode prog_20_method_6_code 39 = .ok (.iload_n 1, 1) := by decide +kernel
theorem d3_40 : decode prog_20_method_6_code 40 = .ok (.ifCond .eq 13, 3) := by decide +kernel
theorem d3_43 : decode prog_20_method_6_code 43 = .ok (.aload_n 0, 1) := by decide +kernel
theorem d3_44 : decode prog_20_method_6_code 44 = .ok (.dup, 1) := by decide +kernel
theorem d3_45 : decode prog_20_method_6_code 45 = .ok (.getfield 17, 3) := by decide +kernel
theorem d3_48 : decode prog_20_method_6_code 48 = .ok (.iconst 1, 1) := by decide +kernel
theorem d3_49 : decode prog_20_method_6_code 49 = .ok (.iadd, 1) := by decide +kernel
theorem d3_50 : decode prog_20_method_6_code 50 = .ok (.putfield 17, 3) := by decide +kernel
theorem d3_53 : decode prog_20_method_6_code 53 = .ok (.aload_n 0, 1) := by decide +kernel
theorem d3_54 : decode prog_20_method_6_code 54 = .ok (.aload_n 0, 1) := by decide +kernel
theorem d3_55 : decode prog_20_method_6_code 55 = .ok (.getfield 24, 3) := by decide +kernel
theorem d3_58 : decode prog_20_method_6_code 58 = .ok (.iconst 1, 1) := by decide +kernel
theorem d3_59 : decode prog_20_method_6_code 59 = .ok (.iadd, 1) := by decide +kernel
theorem d3_60 : decode prog_20_method_6_code 60 = .ok (.aload_n 0, 1) := by decide +kernel
theorem d3_61 : decode prog_20_method_6_code 61 = .ok (.getfield 7, 3) := by decide +kernel
theorem d3_64 : decode prog_20_method_6_code 64 = .ok (.arraylength, 1) := by decide +kernel
theorem d3_65 : decode prog_20_method_6_code 65 = .ok (.irem, 1) := by decide +kernel
theorem d3_66 : decode prog_20_method_6_code 66 = .ok (.putfield 24, 3) := by decide +kernel
theorem d3_69 : decode prog_20_method_6_code 69 = .ok (.aload_n 0, 1) := by decide +kernel
theorem d3_70 : decode prog_20_method_6_code 70 = .ok (.aload_n 0, 1) := by decide +kernel
theorem d3_71 : decode prog_20_method_6_code 71 = .ok (.getfield 13, 3) := by decide +kernel
theorem d3_74 : decode prog_20_method_6_code 74 = .ok (.iconst 1, 1) := by decide +kernel
theorem d3_75 : decode prog_20_method_6_code 75 = .ok (.iadd, 1) := by decide +kernel
theorem d3_76 : decode prog_20_method_6_code 76 = .ok (.aload_n 0, 1) := by decide +kernel
theorem d3_77 : decode prog_20_method_6_code 77 = .ok (.getfield 7, 3) := by decide +kernel
theorem d3_80 : decode prog_20_method_6_code 80 = .ok (.arraylength, 1) := by decide +kernel
theorem d3_81 : decode prog_20_method_6_code 81 = .ok (.invokestatic 27, 3) := by decide +kernel
theorem d3_84 : decode prog_20_method_6_code 84 = .ok (.putfield 13, 3) := by decide +kernel
theorem d3_87 : decode prog_20_method_6_code 87 = .ok (.return_, 1) := by decide +kernel
theorem pn_3 : plainName "com/example/shunt/shunt/core/OutcomeWindow" = true := by first | (simp [plainName, overriddenIn]; done) | decide +kernel
theorem ef_3 (m : MethodId) (x0 : Addr) (x1 : Int32) : entryFrame m #[(.ref x0), (.int x1)] 2 = mkF m 0 #[.val (.ref x0), .val (.int x1)] [] := by first | (simp [entryFrame, mkF, argsToLocals, Value.category]; done) | rfl
set_option maxRecDepth 65536 in
set_option maxHeartbeats 40000000 in
theorem rm3 (l : Launch) (Z : State) (a0 : Array Value) (hw : ∀ d ∈ tables_1, d.before a0 Z = true) (ws : List Jvm.Cond) (a1 : Addr) (p2 : Int32) (b : Addr) (kb : ClassId) (n hd : Int32) (h0 : Heap) (n0 : Nat) (Z0 : n0 ≤ h0.size) (HI : own_I Z h0 a1 b kb n hd) (ga : n0 ≤ a1) (gb : n0 ≤ b) (nb : b ≠ a1) (hn : 1 ≤ n.toInt ∧ n.toInt ≤ 4) :
    MetFree l (⟨"com/example/shunt/shunt/core/OutcomeWindow", "add", "(Z)V"⟩ : MethodName) (head1 (Jvm.Cond.code (⟨"com/example/shunt/shunt/core/OutcomeWindow", "add", "(Z)V"⟩ : MethodName) prog_20_method_6_code 2 none :: ws) ({ frames := 1, cells := 0, slots := 0, locals := 14 } : Room)) (fun a U => a = #[(.ref a1), (.int p2)] ∧ Z.Warmed39 U.vm ∧ U.heap = h0) (fun _ _ _ _ _ => True) (fun _ U o U' => ∃ v L, o = .returned v ∧ Q6 Z a1 b kb n (own_min (hd + (1 : Int32)) n) h0 n0 v U'.heap L ∧ FrameEnd U o U' L ({ frames := 1, cells := 0, slots := 0, locals := 14 } : Room).cells ({ frames := 1, cells := 0, slots := 0, locals := 14 } : Room).slots) := by
  refine MetFree.of_bodySF (plainFor_of_name pn_3) hisR ?_
  intro p e s m args below meth c s₁ Bd hml0 hP hK
  obtain ⟨rfl, hZ, hh⟩ := hP
  have hx := Bd.exec
  have hby := Bd.bytes
  have hml : c.maxLocals = 2 := hml0
  have hown : s.vm.findClass "com/example/shunt/shunt/core/OutcomeWindow" = some m.cls := findClass_of_methodNamed Bd.named
  have hnm := (name_of_methodNamed Bd.named Bd.method).1
  have X0 : Stand p l e ({ frames := 1, cells := 0, slots := 0, locals := 14 } : Room) s m #[(.ref a1), (.int p2)] below meth c s₁ [] 0 0 := Stand.of_body Bd
  have e0 : s₁.heap = h0 := by rw [← hh, Bd.state]; rfl
  have N0 := Fr.nil n0
  have pre0 : ∀ t, Steps p.tables e below (s₁.setTop (mkF m 0 #[.val (.ref a1), .val (.int p2)] [])) t → Steps p.tables e below (s₁.setTop (entryFrame m #[(.ref a1), (.int p2)] 2)) t := fun t k => castTop (ef_3 m a1 p2) k
  refine own_go pre0 ?_
  have HI0 := HI
  obtain ⟨nx, fl, vs, jn0, jn1, jl, E, F_outcomes, F_held, F_next, F_failures, VB⟩ := HI
  obtain ⟨w0, hw0⟩ := own_bool VB ⟨jn0, jn1⟩
  have go1 : ∀ t, Steps p.tables e below (s₁.setTop (mkF m 1 #[.val (.ref a1), .val (.int p2)] [(.ref a1)])) t → Steps p.tables e below (s₁.setTop (mkF m 0 #[.val (.ref a1), .val (.int p2)] [])) t := by
    intro t kt
    show Steps p.tables e below (s₁.setTop (mkF m 0 #[.val (.ref a1), .val (.int p2)] [])) _
    refine XS.aloadN X0.here hx rfl (hb hby d3_0) rfl rfl ?_
    exact kt
  refine own_go go1 ?_
  obtain ⟨cq2, kq2, q2a, q2b, q2c⟩ := isOf hZ e0 E
  obtain ⟨_, _, ⟨T2, L2, k2, n2⟩, -, X2, ⟨Lc2, hQ2, l2, y2, z2⟩, st2⟩ := X0.virtualBack hx (y := (⟨"com/example/shunt/shunt/core/OutcomeWindow", "isFull", "()Z"⟩ : MethodName)) (z := (⟨"com/example/shunt/shunt/core/OutcomeWindow", "isFull", "()Z"⟩ : MethodName)) hown (mvT hZ (hw _ (List.mem_of_getElem? (i := 17) rfl))) (mvT hZ (hw _ (List.mem_of_getElem? (i := 18) rfl))) (notFace_of_selects (args := #[]) (mvT hZ (hw _ (List.mem_of_getElem? (i := 20) rfl)))) (mvT hZ (hw _ (List.mem_of_getElem? (i := 20) rfl))) (mvT hZ (hw _ (List.mem_of_getElem? (i := 19) rfl))) (by decide) (backOf (W := 0) (rm4 l Z a0 hw [] a1 b kb n hd h0 n0 Z0 HI0) hZ (hw _ (List.mem_of_getElem? (i := 21) rfl)) (hw _ (List.mem_of_getElem? (i := 2) rfl)) (by decide) (by decide)) q2a q2c (g := (mkF m 1 #[.val (.ref a1), .val (.int p2)] [(.ref a1)])) rfl (by rw [hml]; rfl) (Steps.refl _) (argsL := []) (rest := []) (lenOf pd_0 rfl) rfl (by show 2 * 0 + _ ≤ _; exact Nat.le_of_eq rfl) (hb hby d3_1) (fun _ _ => ⟨rfl, e0, (by decide : 0 + 0 ≤ _), (by decide : 0 + 0 ≤ _)⟩)
  dsimp only [Pt.U, Pt.locs, Pt.cells, Pt.slots] at X2 l2 y2 z2 st2 hQ2
  subst l2 y2 z2
  obtain ⟨rfl, N2q, ef⟩ := hQ2
  have N2 := Fr.app N0 N2q
  refine own_go (S' := T2.setTop (mkF m 4 #[.val (.ref a1), .val (.int p2)] [(.int (own_full hd n))])) (fun t k => st2.trans k) ?_
  rcases Classical.em ((own_full hd n) = (0 : Int32)) with hc4 | hc4
  · have go3 : ∀ t, Steps p.tables e below (T2.setTop (mkF m 30 #[.val (.ref a1), .val (.int p2)] [(.ref a1)])) t → Steps p.tables e below (T2.setTop (mkF m 4 #[.val (.ref a1), .val (.int p2)] [(.int (own_full hd n))])) t := by
      intro t kt
      show Steps p.tables e below (T2.setTop (mkF m 4 #[.val (.ref a1), .val (.int p2)] [(.int (own_full hd n))])) _
      refine XS.ifYes X2.here hx rfl (pc0 := 4) (pc' := 29) rfl (hb hby d3_4) rfl ((if0 _ _).trans (teq hc4).1) (by decide) (by decide) ?_
      show Steps p.tables e below (T2.setTop (mkF m 29 #[.val (.ref a1), .val (.int p2)] [])) _
      refine XS.aloadN X2.here hx rfl (hb hby d3_29) rfl rfl ?_
      exact kt
    refine own_go go3 ?_
    obtain ⟨T4, X4, e4, st4⟩ := getF X2 hx hZ hown (host := "") (Or.inl (hw _ (List.mem_of_getElem? (i := 10) rfl))) Via.refl ef F_outcomes (g := (mkF m 30 #[.val (.ref a1), .val (.int p2)] [(.ref a1)])) rfl rfl (hb hby d3_30)
    refine own_go (S' := T4.setTop (mkF m 33 #[.val (.ref a1), .val (.int p2)] [(.ref b)])) st4 ?_
    have go5 : ∀ t, Steps p.tables e below (T4.setTop (mkF m 34 #[.val (.ref a1), .val (.int p2)] [(.ref a1), (.ref b)])) t → Steps p.tables e below (T4.setTop (mkF m 33 #[.val (.ref a1), .val (.int p2)] [(.ref b)])) t := by
      intro t kt
      show Steps p.tables e below (T4.setTop (mkF m 33 #[.val (.ref a1), .val (.int p2)] [(.ref b)])) _
      refine XS.aloadN X4.here hx rfl (hb hby d3_33) rfl rfl ?_
      exact kt
    refine own_go go5 ?_
    obtain ⟨T6, X6, e6, st6⟩ := getF X4 hx hZ hown (host := "") (Or.inl (hw _ (List.mem_of_getElem? (i := 24) rfl))) Via.refl e4 F_next (g := (mkF m 34 #[.val (.ref a1), .val (.int p2)] [(.ref a1), (.ref b)])) rfl rfl (hb hby d3_34)
    refine own_go (S' := T6.setTop (mkF m 37 #[.val (.ref a1), .val (.int p2)] [(.int nx), (.ref b)])) st6 ?_
    have go7 : ∀ t, Steps p.tables e below (T6.setTop (mkF m 38 #[.val (.ref a1), .val (.int p2)] [(.int p2), (.int nx), (.ref b)])) t → Steps p.tables e below (T6.setTop (mkF m 37 #[.val (.ref a1), .val (.int p2)] [(.int nx), (.ref b)])) t := by
      intro t kt
      show Steps p.tables e below (T6.setTop (mkF m 37 #[.val (.ref a1), .val (.int p2)] [(.int nx), (.ref b)])) _
      refine XS.iloadN X6.here hx rfl (hb hby d3_37) rfl ?_
      exact kt
    refine own_go go7 ?_
    have Vo8 := VB
    obtain ⟨cl8, Ar8, qk8, Sz8, Nz8, Hh8, Gf8⟩ := Vo8
    have hin8 : ¬ (nx < 0 ∨ cl8.slots.size ≤ (nx).toNatClampNeg) := inb_of Sz8 ⟨jn0, jn1⟩
    obtain ⟨T9, h9, X9, e9, W9, st9⟩ := stZ X6 hx hZ e6 Ar8 (j := nx) hin8 (g := (mkF m 38 #[.val (.ref a1), .val (.int p2)] [(.int p2), (.int nx), (.ref b)])) rfl rfl (hb hby d3_38)
    have V9_b : Arv Z h9 b kb .boolean n (vs.set nx.toNatClampNeg (.int (nar .boolean p2))) (.int (0 : Int32)) := Arv.set Ar8 qk8 Sz8 Nz8 Hh8 Gf8 (fits_nar_bool _) W9 nx.toNatClampNeg rfl (own_len nx n vs hn ⟨jn0, jn1⟩ jl)
    have F9_a1_outcomes : Fld Z h9 a1 "com/example/shunt/shunt/core/OutcomeWindow" "outcomes" "[Z" (.ref b) := F_outcomes.other W9 (Or.inl (Ne.symm nb))
    have F9_a1_held : Fld Z h9 a1 "com/example/shunt/shunt/core/OutcomeWindow" "held" "I" (.int hd) := F_held.other W9 (Or.inl (Ne.symm nb))
    have F9_a1_next : Fld Z h9 a1 "com/example/shunt/shunt/core/OutcomeWindow" "next" "I" (.int nx) := F_next.other W9 (Or.inl (Ne.symm nb))
    have F9_a1_failures : Fld Z h9 a1 "com/example/shunt/shunt/core/OutcomeWindow" "failures" "I" (.int fl) := F_failures.other W9 (Or.inl (Ne.symm nb))
    have E9_a1 : Exa Z h9 a1 "com/example/shunt/shunt/core/OutcomeWindow" := E.wr W9
    have N9 := Fr.snoc X9 N2 gb
    refine own_go (S' := T9.setTop (mkF m 39 #[.val (.ref a1), .val (.int p2)] [])) st9 ?_
    have go10 : ∀ t, Steps p.tables e below (T9.setTop (mkF m 40 #[.val (.ref a1), .val (.int p2)] [(.int p2)])) t → Steps p.tables e below (T9.setTop (mkF m 39 #[.val (.ref a1), .val (.int p2)] [])) t := by
      intro t kt
      show Steps p.tables e below (T9.setTop (mkF m 39 #[.val (.ref a1), .val (.int p2)] [])) _
      refine XS.iloadN X9.here hx rfl (hb hby d3_39) rfl ?_
      exact kt
    refine own_go go10 ?_
    rcases Classical.em (p2 = (0 : Int32)) with hc40 | hc40
    · have go11 : ∀ t, Steps p.tables e below (T9.setTop (mkF m 55 #[.val (.ref a1), .val (.int p2)] [(.ref a1), (.ref a1)])) t → Steps p.tables e below (T9.setTop (mkF m 40 #[.val (.ref a1), .val (.int p2)] [(.int p2)])) t := by
        intro t kt
        show Steps p.tables e below (T9.setTop (mkF m 40 #[.val (.ref a1), .val (.int p2)] [(.int p2)])) _
        refine XS.ifYes X9.here hx rfl (pc0 := 40) (pc' := 53) rfl (hb hby d3_40) rfl ((if0 _ _).trans (teq hc40).1) (by decide) (by decide) ?_
        show Steps p.tables e below (T9.setTop (mkF m 53 #[.val (.ref a1), .val (.int p2)] [])) _
        refine XS.aloadN X9.here hx rfl (hb hby d3_53) rfl rfl ?_
        show Steps p.tables e below (T9.setTop (mkF m 54 #[.val (.ref a1), .val (.int p2)] [(.ref a1)])) _
        refine XS.aloadN X9.here hx rfl (hb hby d3_54) rfl rfl ?_
        exact kt
      refine own_go go11 ?_
      obtain ⟨T12, X12, e12, st12⟩ := getF X9 hx hZ hown (host := "") (Or.inl (hw _ (List.mem_of_getElem? (i := 24) rfl))) Via.refl e9 F9_a1_next (g := (mkF m 55 #[.val (.ref a1), .val (.int p2)] [(.ref a1), (.ref a1)])) rfl rfl (hb hby d3_55)
      refine own_go (S' := T12.setTop (mkF m 58 #[.val (.ref a1), .val (.int p2)] [(.int nx), (.ref a1)])) st12 ?_
      have go13 : ∀ t, Steps p.tables e below (T12.setTop (mkF m 61 #[.val (.ref a1), .val (.int p2)] [(.ref a1), (.int (nx + (1 : Int32))), (.ref a1)])) t → Steps p.tables e below (T12.setTop (mkF m 58 #[.val (.ref a1), .val (.int p2)] [(.int nx), (.ref a1)])) t := by
        intro t kt
        show Steps p.tables e below (T12.setTop (mkF m 58 #[.val (.ref a1), .val (.int p2)] [(.int nx), (.ref a1)])) _
        refine XS.iconst X12.here hx rfl (hb hby d3_58) ?_
        show Steps p.tables e below (T12.setTop (mkF m 59 #[.val (.ref a1), .val (.int p2)] [(.int (1 : Int32)), (.int nx), (.ref a1)])) _
        refine XS.iadd X12.here hx rfl (hb hby d3_59) rfl ?_
        show Steps p.tables e below (T12.setTop (mkF m 60 #[.val (.ref a1), .val (.int p2)] [(.int (nx + (1 : Int32))), (.ref a1)])) _
        refine XS.aloadN X12.here hx rfl (hb hby d3_60) rfl rfl ?_
        exact kt
      refine own_go go13 ?_
      obtain ⟨T14, X14, e14, st14⟩ := getF X12 hx hZ hown (host := "") (Or.inl (hw _ (List.mem_of_getElem? (i := 10) rfl))) Via.refl e12 F9_a1_outcomes (g := (mkF m 61 #[.val (.ref a1), .val (.int p2)] [(.ref a1), (.int (nx + (1 : Int32))), (.ref a1)])) rfl rfl (hb hby d3_61)
      refine own_go (S' := T14.setTop (mkF m 64 #[.val (.ref a1), .val (.int p2)] [(.ref b), (.int (nx + (1 : Int32))), (.ref a1)])) st14 ?_
      have Vo15 := V9_b
      obtain ⟨cl15, Ar15, qk15, Sz15, Nz15, Hh15, Gf15⟩ := Vo15
      have go16 : ∀ t, Steps p.tables e below (T14.setTop (mkF m 65 #[.val (.ref a1), .val (.int p2)] [(.int n), (.int (nx + (1 : Int32))), (.ref a1)])) t → Steps p.tables e below (T14.setTop (mkF m 64 #[.val (.ref a1), .val (.int p2)] [(.ref b), (.int (nx + (1 : Int32))), (.ref a1)])) t := by
        intro t kt
        refine X14.arraylength hx (by rw [e14]; exact Ar15.1) (State.isArrayOf_alike hZ.alike Ar15.2.1) (g := (mkF m 64 #[.val (.ref a1), .val (.int p2)] [(.ref b), (.int (nx + (1 : Int32))), (.ref a1)])) rfl rfl (hb hby d3_64) _ ?_
        rw [len_of Sz15 Nz15]
        exact kt
      refine own_go go16 ?_
      have go17 : ∀ t, Steps p.tables e below (T14.setTop (mkF m 66 #[.val (.ref a1), .val (.int p2)] [(.int ((nx + (1 : Int32)) % n)), (.ref a1)])) t → Steps p.tables e below (T14.setTop (mkF m 65 #[.val (.ref a1), .val (.int p2)] [(.int n), (.int (nx + (1 : Int32))), (.ref a1)])) t := by
        intro t kt
        show Steps p.tables e below (T14.setTop (mkF m 65 #[.val (.ref a1), .val (.int p2)] [(.int n), (.int (nx + (1 : Int32))), (.ref a1)])) _
        refine iremM X14 hx rfl (hb hby d3_65) rfl (own_n0 n hn) ?_
        exact kt
      refine own_go go17 ?_
      obtain ⟨T18, h18, X18, e18, W18, st18⟩ := putF X14 hx hZ hown (host := "") (Or.inl (hw _ (List.mem_of_getElem? (i := 24) rfl))) Via.refl e14 F9_a1_next E9_a1 (Or.inl (hw _ (List.mem_of_getElem? (i := 25) rfl))) (hw _ (List.mem_of_getElem? (i := 1) rfl)) (ty := .int) (by decide) rfl rfl (g := (mkF m 66 #[.val (.ref a1), .val (.int p2)] [(.int ((nx + (1 : Int32)) % n)), (.ref a1)])) rfl rfl (hb hby d3_66)
      have F18_a1_outcomes : Fld Z h18 a1 "com/example/shunt/shunt/core/OutcomeWindow" "outcomes" "[Z" (.ref b) := F9_a1_outcomes.other W18 (Or.inr (slot_ne (Or.inr (hw _ (List.mem_of_getElem? (i := 11) rfl))) (Or.inl (hw _ (List.mem_of_getElem? (i := 25) rfl))) (by decide) (t := (.array .boolean)) (t' := .int) (by decide) (by decide)))
      have F18_a1_held : Fld Z h18 a1 "com/example/shunt/shunt/core/OutcomeWindow" "held" "I" (.int hd) := F9_a1_held.other W18 (Or.inr (slot_ne (Or.inl (hw _ (List.mem_of_getElem? (i := 23) rfl))) (Or.inl (hw _ (List.mem_of_getElem? (i := 25) rfl))) (by decide) (t := .int) (t' := .int) (by decide) (by decide)))
      have F18_a1_next : Fld Z h18 a1 "com/example/shunt/shunt/core/OutcomeWindow" "next" "I" (.int ((nx + (1 : Int32)) % n)) := F9_a1_next.same W18
      have F18_a1_failures : Fld Z h18 a1 "com/example/shunt/shunt/core/OutcomeWindow" "failures" "I" (.int fl) := F9_a1_failures.other W18 (Or.inr (slot_ne (Or.inl (hw _ (List.mem_of_getElem? (i := 31) rfl))) (Or.inl (hw _ (List.mem_of_getElem? (i := 25) rfl))) (by decide) (t := .int) (t' := .int) (by decide) (by decide)))
      have E18_a1 : Exa Z h18 a1 "com/example/shunt/shunt/core/OutcomeWindow" := E9_a1.wr W18
      have V18_b : Arv Z h18 b kb .boolean n (vs.set nx.toNatClampNeg (.int (nar .boolean p2))) (.int (0 : Int32)) := V9_b.other W18 nb
      have N18 := Fr.snoc X18 N9 ga
      refine own_go (S' := T18.setTop (mkF m 69 #[.val (.ref a1), .val (.int p2)] [])) st18 ?_
      have go19 : ∀ t, Steps p.tables e below (T18.setTop (mkF m 71 #[.val (.ref a1), .val (.int p2)] [(.ref a1), (.ref a1)])) t → Steps p.tables e below (T18.setTop (mkF m 69 #[.val (.ref a1), .val (.int p2)] [])) t := by
        intro t kt
        show Steps p.tables e below (T18.setTop (mkF m 69 #[.val (.ref a1), .val (.int p2)] [])) _
        refine XS.aloadN X18.here hx rfl (hb hby d3_69) rfl rfl ?_
        show Steps p.tables e below (T18.setTop (mkF m 70 #[.val (.ref a1), .val (.int p2)] [(.ref a1)])) _
        refine XS.aloadN X18.here hx rfl (hb hby d3_70) rfl rfl ?_
        exact kt
      refine own_go go19 ?_
      obtain ⟨T20, X20, e20, st20⟩ := getF X18 hx hZ hown (host := "") (Or.inl (hw _ (List.mem_of_getElem? (i := 22) rfl))) Via.refl e18 F18_a1_held (g := (mkF m 71 #[.val (.ref a1), .val (.int p2)] [(.ref a1), (.ref a1)])) rfl rfl (hb hby d3_71)
      refine own_go (S' := T20.setTop (mkF m 74 #[.val (.ref a1), .val (.int p2)] [(.int hd), (.ref a1)])) st20 ?_
      have go21 : ∀ t, Steps p.tables e below (T20.setTop (mkF m 77 #[.val (.ref a1), .val (.int p2)] [(.ref a1), (.int (hd + (1 : Int32))), (.ref a1)])) t → Steps p.tables e below (T20.setTop (mkF m 74 #[.val (.ref a1), .val (.int p2)] [(.int hd), (.ref a1)])) t := by
        intro t kt
        show Steps p.tables e below (T20.setTop (mkF m 74 #[.val (.ref a1), .val (.int p2)] [(.int hd), (.ref a1)])) _
        refine XS.iconst X20.here hx rfl (hb hby d3_74) ?_
        show Steps p.tables e below (T20.setTop (mkF m 75 #[.val (.ref a1), .val (.int p2)] [(.int (1 : Int32)), (.int hd), (.ref a1)])) _
        refine XS.iadd X20.here hx rfl (hb hby d3_75) rfl ?_
        show Steps p.tables e below (T20.setTop (mkF m 76 #[.val (.ref a1), .val (.int p2)] [(.int (hd + (1 : Int32))), (.ref a1)])) _
        refine XS.aloadN X20.here hx rfl (hb hby d3_76) rfl rfl ?_
        exact kt
      refine own_go go21 ?_
      obtain ⟨T22, X22, e22, st22⟩ := getF X20 hx hZ hown (host := "") (Or.inl (hw _ (List.mem_of_getElem? (i := 10) rfl))) Via.refl e20 F18_a1_outcomes (g := (mkF m 77 #[.val (.ref a1), .val (.int p2)] [(.ref a1), (.int (hd + (1 : Int32))), (.ref a1)])) rfl rfl (hb hby d3_77)
      refine own_go (S' := T22.setTop (mkF m 80 #[.val (.ref a1), .val (.int p2)] [(.ref b), (.int (hd + (1 : Int32))), (.ref a1)])) st22 ?_
      have Vo23 := V18_b
      obtain ⟨cl23, Ar23, qk23, Sz23, Nz23, Hh23, Gf23⟩ := Vo23
      have go24 : ∀ t, Steps p.tables e below (T22.setTop (mkF m 81 #[.val (.ref a1), .val (.int p2)] [(.int n), (.int (hd + (1 : Int32))), (.ref a1)])) t → Steps p.tables e below (T22.setTop (mkF m 80 #[.val (.ref a1), .val (.int p2)] [(.ref b), (.int (hd + (1 : Int32))), (.ref a1)])) t := by
        intro t kt
        refine X22.arraylength hx (by rw [e22]; exact Ar23.1) (State.isArrayOf_alike hZ.alike Ar23.2.1) (g := (mkF m 80 #[.val (.ref a1), .val (.int p2)] [(.ref b), (.int (hd + (1 : Int32))), (.ref a1)])) rfl rfl (hb hby d3_80) _ ?_
        rw [len_of Sz23 Nz23]
        exact kt
      refine own_go go24 ?_
      obtain ⟨_, _, ⟨T25, L25, k25, n25⟩, -, X25, ⟨Lc25, hQ25, l25, y25, z25⟩, st25⟩ := Jvm.LawKit.callS X22 hx (y := (⟨"java/lang/Math", "min", "(II)I"⟩ : MethodName)) hown (mvT hZ (hw _ (List.mem_of_getElem? (i := 26) rfl))) (mvT hZ (hw _ (List.mem_of_getElem? (i := 27) rfl))) (mvT hZ (hw _ (List.mem_of_getElem? (i := 28) rfl))) (mvT hZ (hw _ (List.mem_of_getElem? (i := 29) rfl))) (by decide) (backOf (W := 1) (rm5 l Z a0 hw [] (hd + (1 : Int32)) n h18 n0 (own_szH ga E18_a1)) hZ (hw _ (List.mem_of_getElem? (i := 29) rfl)) (hw _ (List.mem_of_getElem? (i := 28) rfl)) (by decide) (by decide)) (g := (mkF m 81 #[.val (.ref a1), .val (.int p2)] [(.int n), (.int (hd + (1 : Int32))), (.ref a1)])) rfl (by rw [hml]; rfl) (argsL := [(.int (hd + (1 : Int32))), (.int n)]) (rest := [(.ref a1)]) (lenOf pd_1 rfl) rfl (by show 2 * 0 + _ ≤ _; exact Nat.le_of_eq rfl) (hb hby d3_81) (fun _ _ => ⟨rfl, e22, (by decide : 0 + 0 ≤ _), (by decide : 0 + 0 ≤ _)⟩)
      dsimp only [Pt.U, Pt.locs, Pt.cells, Pt.slots] at X25 l25 y25 z25 st25 hQ25
      subst l25 y25 z25
      obtain ⟨rfl, N25q, em⟩ := hQ25
      have N25 := Fr.app N18 N25q
      refine own_go (S' := T25.setTop (mkF m 84 #[.val (.ref a1), .val (.int p2)] [(.int (own_min (hd + (1 : Int32)) n)), (.ref a1)])) st25 ?_
      obtain ⟨T26, h26, X26, e26, W26, st26⟩ := putF X25 hx hZ hown (host := "") (Or.inl (hw _ (List.mem_of_getElem? (i := 22) rfl))) Via.refl em F18_a1_held E18_a1 (Or.inl (hw _ (List.mem_of_getElem? (i := 23) rfl))) (hw _ (List.mem_of_getElem? (i := 1) rfl)) (ty := .int) (by decide) rfl rfl (g := (mkF m 84 #[.val (.ref a1), .val (.int p2)] [(.int (own_min (hd + (1 : Int32)) n)), (.ref a1)])) rfl rfl (hb hby d3_84)
      have F26_a1_outcomes : Fld Z h26 a1 "com/example/shunt/shunt/core/OutcomeWindow" "outcomes" "[Z" (.ref b) := F18_a1_outcomes.other W26 (Or.inr (slot_ne (Or.inr (hw _ (List.mem_of_getElem? (i := 11) rfl))) (Or.inl (hw _ (List.mem_of_getElem? (i := 23) rfl))) (by decide) (t := (.array .boolean)) (t' := .int) (by decide) (by decide)))
      have F26_a1_held : Fld Z h26 a1 "com/example/shunt/shunt/core/OutcomeWindow" "held" "I" (.int (own_min (hd + (1 : Int32)) n)) := F18_a1_held.same W26
      have F26_a1_next : Fld Z h26 a1 "com/example/shunt/shunt/core/OutcomeWindow" "next" "I" (.int ((nx + (1 : Int32)) % n)) := F18_a1_next.other W26 (Or.inr (slot_ne (Or.inl (hw _ (List.mem_of_getElem? (i := 25) rfl))) (Or.inl (hw _ (List.mem_of_getElem? (i := 23) rfl))) (by decide) (t := .int) (t' := .int) (by decide) (by decide)))
      have F26_a1_failures : Fld Z h26 a1 "com/example/shunt/shunt/core/OutcomeWindow" "failures" "I" (.int fl) := F18_a1_failures.other W26 (Or.inr (slot_ne (Or.inl (hw _ (List.mem_of_getElem? (i := 31) rfl))) (Or.inl (hw _ (List.mem_of_getElem? (i := 23) rfl))) (by decide) (t := .int) (t' := .int) (by decide) (by decide)))
      have E26_a1 : Exa Z h26 a1 "com/example/shunt/shunt/core/OutcomeWindow" := E18_a1.wr W26
      have V26_b : Arv Z h26 b kb .boolean n (vs.set nx.toNatClampNeg (.int (nar .boolean p2))) (.int (0 : Int32)) := V18_b.other W26 nb
      have N26 := Fr.snoc X26 N25 ga
      refine own_go (S' := T26.setTop (mkF m 87 #[.val (.ref a1), .val (.int p2)] [])) st26 ?_
      obtain ⟨fs, hr, hrun, hended, hW, hsame⟩ := X26.leave (v := none) (fun _ => rfl)
      refine ⟨_, _, X26.returnOut hx Bd.returns (hb hby d3_87) hr, hrun, hended, _, _, rfl, ?_, ⟨_, rfl⟩, hW, hsame.mono (by decide) (by decide)⟩
      show Q6 Z a1 b kb n (own_min (hd + (1 : Int32)) n) h0 n0 _ T26.heap _
      rw [e26]
      exact ⟨rfl, N26, ⟨_, _, _, (own_nx0 nx n hn ⟨jn0, jn1⟩), (own_nx1 nx n hn ⟨jn0, jn1⟩), (by rw [List.length_set]; exact jl), E26_a1, F26_a1_outcomes, F26_a1_held, F26_a1_next, F26_a1_failures, V26_b⟩⟩
    · have go27 : ∀ t, Steps p.tables e below (T9.setTop (mkF m 45 #[.val (.ref a1), .val (.int p2)] [(.ref a1), (.ref a1)])) t → Steps p.tables e below (T9.setTop (mkF m 40 #[.val (.ref a1), .val (.int p2)] [(.int p2)])) t := by
        intro t kt
        show Steps p.tables e below (T9.setTop (mkF m 40 #[.val (.ref a1), .val (.int p2)] [(.int p2)])) _
        refine XS.ifNo X9.here hx rfl (hb hby d3_40) rfl ((if0 _ _).trans (feq hc40).1) ?_
        show Steps p.tables e below (T9.setTop (mkF m 43 #[.val (.ref a1), .val (.int p2)] [])) _
        refine XS.aloadN X9.here hx rfl (hb hby d3_43) rfl rfl ?_
        show Steps p.tables e below (T9.setTop (mkF m 44 #[.val (.ref a1), .val (.int p2)] [(.ref a1)])) _
        refine XS.dup X9.here hx rfl (hb hby d3_44) rfl rfl ?_
        exact kt
      refine own_go go27 ?_
      obtain ⟨T28, X28, e28, st28⟩ := getF X9 hx hZ hown (host := "") (Or.inl (hw _ (List.mem_of_getElem? (i := 30) rfl))) Via.refl e9 F9_a1_failures (g := (mkF m 45 #[.val (.ref a1), .val (.int p2)] [(.ref a1), (.ref a1)])) rfl rfl (hb hby d3_45)
      refine own_go (S' := T28.setTop (mkF m 48 #[.val (.ref a1), .val (.int p2)] [(.int fl), (.ref a1)])) st28 ?_
      have go29 : ∀ t, Steps p.tables e below (T28.setTop (mkF m 50 #[.val (.ref a1), .val (.int p2)] [(.int (fl + (1 : Int32))), (.ref a1)])) t → Steps p.tables e below (T28.setTop (mkF m 48 #[.val (.ref a1), .val (.int p2)] [(.int fl), (.ref a1)])) t := by
        intro t kt
        show Steps p.tables e below (T28.setTop (mkF m 48 #[.val (.ref a1), .val (.int p2)] [(.int fl), (.ref a1)])) _
        refine XS.iconst X28.here hx rfl (hb hby d3_48) ?_
        show Steps p.tables e below (T28.setTop (mkF m 49 #[.val (.ref a1), .val (.int p2)] [(.int (1 : Int32)), (.int fl), (.ref a1)])) _
        refine XS.iadd X28.here hx rfl (hb hby d3_49) rfl ?_
        exact kt
      refine own_go go29 ?_
      obtain ⟨T30, h30, X30, e30, W30, st30⟩ := putF X28 hx hZ hown (host := "") (Or.inl (hw _ (List.mem_of_getElem? (i := 30) rfl))) Via.refl e28 F9_a1_failures E9_a1 (Or.inl (hw _ (List.mem_of_getElem? (i := 31) rfl))) (hw _ (List.mem_of_getElem? (i := 1) rfl)) (ty := .int) (by decide) rfl rfl (g := (mkF m 50 #[.val (.ref a1), .val (.int p2)] [(.int (fl + (1 : Int32))), (.ref a1)])) rfl rfl (hb hby d3_50)
      have F30_a1_outcomes : Fld Z h30 a1 "com/example/shunt/shunt/core/OutcomeWindow" "outcomes" "[Z" (.ref b) := F9_a1_outcomes.other W30 (Or.inr (slot_ne (Or.inr (hw _ (List.mem_of_getElem? (i := 11) rfl))) (Or.inl (hw _ (List.mem_of_getElem? (i := 31) rfl))) (by decide) (t := (.array .boolean)) (t' := .int) (by decide) (by decide)))
      have F30_a1_held : Fld Z h30 a1 "com/example/shunt/shunt/core/OutcomeWindow" "held" "I" (.int hd) := F9_a1_held.other W30 (Or.inr (slot_ne (Or.inl (hw _ (List.mem_of_getElem? (i := 23) rfl))) (Or.inl (hw _ (List.mem_of_getElem? (i := 31) rfl))) (by decide) (t := .int) (t' := .int) (by decide) (by decide)))
      have F30_a1_next : Fld Z h30 a1 "com/example/shunt/shunt/core/OutcomeWindow" "next" "I" (.int nx) := F9_a1_next.other W30 (Or.inr (slot_ne (Or.inl (hw _ (List.mem_of_getElem? (i := 25) rfl))) (Or.inl (hw _ (List.mem_of_getElem? (i := 31) rfl))) (by decide) (t := .int) (t' := .int) (by decide) (by decide)))
      have F30_a1_failures : Fld Z h30 a1 "com/example/shunt/shunt/core/OutcomeWindow" "failures" "I" (.int (fl + (1 : Int32))) := F9_a1_failures.same W30
      have E30_a1 : Exa Z h30 a1 "com/example/shunt/shunt/core/OutcomeWindow" := E9_a1.wr W30
      have V30_b : Arv Z h30 b kb .boolean n (vs.set nx.toNatClampNeg (.int (nar .boolean p2))) (.int (0 : Int32)) := V9_b.other W30 nb
      have N30 := Fr.snoc X30 N9 ga
      refine own_go (S' := T30.setTop (mkF m 53 #[.val (.ref a1), .val (.int p2)] [])) st30 ?_
      have go31 : ∀ t, Steps p.tables e below (T30.setTop (mkF m 55 #[.val (.ref a1), .val (.int p2)] [(.ref a1), (.ref a1)])) t → Steps p.tables e below (T30.setTop (mkF m 53 #[.val (.ref a1), .val (.int p2)] [])) t := by
        intro t kt
        show Steps p.tables e below (T30.setTop (mkF m 53 #[.val (.ref a1), .val (.int p2)] [])) _
        refine XS.aloadN X30.here hx rfl (hb hby d3_53) rfl rfl ?_
        show Steps p.tables e below (T30.setTop (mkF m 54 #[.val (.ref a1), .val (.int p2)] [(.ref a1)])) _
        refine XS.aloadN X30.here hx rfl (hb hby d3_54) rfl rfl ?_
        exact kt
      refine own_go go31 ?_
      obtain ⟨T32, X32, e32, st32⟩ := getF X30 hx hZ hown (host := "") (Or.inl (hw _ (List.mem_of_getElem? (i := 24) rfl))) Via.refl e30 F30_a1_next (g := (mkF m 55 #[.val (.ref a1), .val (.int p2)] [(.ref a1), (.ref a1)])) rfl rfl (hb hby d3_55)
      refine own_go (S' := T32.setTop (mkF m 58 #[.val (.ref a1), .val (.int p2)] [(.int nx), (.ref a1)])) st32 ?_
      have go33 : ∀ t, Steps p.tables e below (T32.setTop (mkF m 61 #[.val (.ref a1), .val (.int p2)] [(.ref a1), (.int (nx + (1 : Int32))), (.ref a1)])) t → Steps p.tables e below (T32.setTop (mkF m 58 #[.val (.ref a1), .val (.int p2)] [(.int nx), (.ref a1)])) t := by
        intro t kt
        show Steps p.tables e below (T32.setTop (mkF m 58 #[.val (.ref a1), .val (.int p2)] [(.int nx), (.ref a1)])) _
        refine XS.iconst X32.here hx rfl (hb hby d3_58) ?_
        show Steps p.tables e below (T32.setTop (mkF m 59 #[.val (.ref a1), .val (.int p2)] [(.int (1 : Int32)), (.int nx), (.ref a1)])) _
        refine XS.iadd X32.here hx rfl (hb hby d3_59) rfl ?_
        show Steps p.tables e below (T32.setTop (mkF m 60 #[.val (.ref a1), .val (.int p2)] [(.int (nx + (1 : Int32))), (.ref a1)])) _
        refine XS.aloadN X32.here hx rfl (hb hby d3_60) rfl rfl ?_
        exact kt
      refine own_go go33 ?_
      obtain ⟨T34, X34, e34, st34⟩ := getF X32 hx hZ hown (host := "") (Or.inl (hw _ (List.mem_of_getElem? (i := 10) rfl))) Via.refl e32 F30_a1_outcomes (g := (mkF m 61 #[.val (.ref a1), .val (.int p2)] [(.ref a1), (.int (nx + (1 : Int32))), (.ref a1)])) rfl rfl (hb hby d3_61)
      refine own_go (S' := T34.setTop (mkF m 64 #[.val (.ref a1), .val (.int p2)] [(.ref b), (.int (nx + (1 : Int32))), (.ref a1)])) st34 ?_
      have Vo35 := V30_b
      obtain ⟨cl35, Ar35, qk35, Sz35, Nz35, Hh35, Gf35⟩ := Vo35
      have go36 : ∀ t, Steps p.tables e below (T34.setTop (mkF m 65 #[.val (.ref a1), .val (.int p2)] [(.int n), (.int (nx + (1 : Int32))), (.ref a1)])) t → Steps p.tables e below (T34.setTop (mkF m 64 #[.val (.ref a1), .val (.int p2)] [(.ref b), (.int (nx + (1 : Int32))), (.ref a1)])) t := by
        intro t kt
        refine X34.arraylength hx (by rw [e34]; exact Ar35.1) (State.isArrayOf_alike hZ.alike Ar35.2.1) (g := (mkF m 64 #[.val (.ref a1), .val (.int p2)] [(.ref b), (.int (nx + (1 : Int32))), (.ref a1)])) rfl rfl (hb hby d3_64) _ ?_
        rw [len_of Sz35 Nz35]
        exact kt
      refine own_go go36 ?_
      have go37 : ∀ t, Steps p.tables e below (T34.setTop (mkF m 66 #[.val (.ref a1), .val (.int p2)] [(.int ((nx + (1 : Int32)) % n)), (.ref a1)])) t → Steps p.tables e below (T34.setTop (mkF m 65 #[.val (.ref a1), .val (.int p2)] [(.int n), (.int (nx + (1 : Int32))), (.ref a1)])) t := by
        intro t kt
        show Steps p.tables e below (T34.setTop (mkF m 65 #[.val (.ref a1), .val (.int p2)] [(.int n), (.int (nx + (1 : Int32))), (.ref a1)])) _
        refine iremM X34 hx rfl (hb hby d3_65) rfl (own_n0 n hn) ?_
        exact kt
      refine own_go go37 ?_
      obtain ⟨T38, h38, X38, e38, W38, st38⟩ := putF X34 hx hZ hown (host := "") (Or.inl (hw _ (List.mem_of_getElem? (i := 24) rfl))) Via.refl e34 F30_a1_next E30_a1 (Or.inl (hw _ (List.mem_of_getElem? (i := 25) rfl))) (hw _ (List.mem_of_getElem? (i := 1) rfl)) (ty := .int) (by decide) rfl rfl (g := (mkF m 66 #[.val (.ref a1), .val (.int p2)] [(.int ((nx + (1 : Int32)) % n)), (.ref a1)])) rfl rfl (hb hby d3_66)
      have F38_a1_outcomes : Fld Z h38 a1 "com/example/shunt/shunt/core/OutcomeWindow" "outcomes" "[Z" (.ref b) := F30_a1_outcomes.other W38 (Or.inr (slot_ne (Or.inr (hw _ (List.mem_of_getElem? (i := 11) rfl))) (Or.inl (hw _ (List.mem_of_getElem? (i := 25) rfl))) (by decide) (t := (.array .boolean)) (t' := .int) (by decide) (by decide)))
      have F38_a1_held : Fld Z h38 a1 "com/example/shunt/shunt/core/OutcomeWindow" "held" "I" (.int hd) := F30_a1_held.other W38 (Or.inr (slot_ne (Or.inl (hw _ (List.mem_of_getElem? (i := 23) rfl))) (Or.inl (hw _ (List.mem_of_getElem? (i := 25) rfl))) (by decide) (t := .int) (t' := .int) (by decide) (by decide)))
      have F38_a1_next : Fld Z h38 a1 "com/example/shunt/shunt/core/OutcomeWindow" "next" "I" (.int ((nx + (1 : Int32)) % n)) := F30_a1_next.same W38
      have F38_a1_failures : Fld Z h38 a1 "com/example/shunt/shunt/core/OutcomeWindow" "failures" "I" (.int (fl + (1 : Int32))) := F30_a1_failures.other W38 (Or.inr (slot_ne (Or.inl (hw _ (List.mem_of_getElem? (i := 31) rfl))) (Or.inl (hw _ (List.mem_of_getElem? (i := 25) rfl))) (by decide) (t := .int) (t' := .int) (by decide) (by decide)))
      have E38_a1 : Exa Z h38 a1 "com/example/shunt/shunt/core/OutcomeWindow" := E30_a1.wr W38
      have V38_b : Arv Z h38 b kb .boolean n (vs.set nx.toNatClampNeg (.int (nar .boolean p2))) (.int (0 : Int32)) := V30_b.other W38 nb
      have N38 := Fr.snoc X38 N30 ga
      refine own_go (S' := T38.setTop (mkF m 69 #[.val (.ref a1), .val (.int p2)] [])) st38 ?_
      have go39 : ∀ t, Steps p.tables e below (T38.setTop (mkF m 71 #[.val (.ref a1), .val (.int p2)] [(.ref a1), (.ref a1)])) t → Steps p.tables e below (T38.setTop (mkF m 69 #[.val (.ref a1), .val (.int p2)] [])) t := by
        intro t kt
        show Steps p.tables e below (T38.setTop (mkF m 69 #[.val (.ref a1), .val (.int p2)] [])) _
        refine XS.aloadN X38.here hx rfl (hb hby d3_69) rfl rfl ?_
        show Steps p.tables e below (T38.setTop (mkF m 70 #[.val (.ref a1), .val (.int p2)] [(.ref a1)])) _
        refine XS.aloadN X38.here hx rfl (hb hby d3_70) rfl rfl ?_
        exact kt
      refine own_go go39 ?_
      obtain ⟨T40, X40, e40, st40⟩ := getF X38 hx hZ hown (host := "") (Or.inl (hw _ (List.mem_of_getElem? (i := 22) rfl))) Via.refl e38 F38_a1_held (g := (mkF m 71 #[.val (.ref a1), .val (.int p2)] [(.ref a1), (.ref a1)])) rfl rfl (hb hby d3_71)
      refine own_go (S' := T40.setTop (mkF m 74 #[.val (.ref a1), .val (.int p2)] [(.int hd), (.ref a1)])) st40 ?_
      have go41 : ∀ t, Steps p.tables e below (T40.setTop (mkF m 77 #[.val (.ref a1), .val (.int p2)] [(.ref a1), (.int (hd + (1 : Int32))), (.ref a1)])) t → Steps p.tables e below (T40.setTop (mkF m 74 #[.val (.ref a1), .val (.int p2)] [(.int hd), (.ref a1)])) t := by
        intro t kt
        show Steps p.tables e below (T40.setTop (mkF m 74 #[.val (.ref a1), .val (.int p2)] [(.int hd), (.ref a1)])) _
        refine XS.iconst X40.here hx rfl (hb hby d3_74) ?_
        show Steps p.tables e below (T40.setTop (mkF m 75 #[.val (.ref a1), .val (.int p2)] [(.int (1 : Int32)), (.int hd), (.ref a1)])) _
        refine XS.iadd X40.here hx rfl (hb hby d3_75) rfl ?_
        show Steps p.tables e below (T40.setTop (mkF m 76 #[.val (.ref a1), .val (.int p2)] [(.int (hd + (1 : Int32))), (.ref a1)])) _
        refine XS.aloadN X40.here hx rfl (hb hby d3_76) rfl rfl ?_
        exact kt
      refine own_go go41 ?_
      obtain ⟨T42, X42, e42, st42⟩ := getF X40 hx hZ hown (host := "") (Or.inl (hw _ (List.mem_of_getElem? (i := 10) rfl))) Via.refl e40 F38_a1_outcomes (g := (mkF m 77 #[.val (.ref a1), .val (.int p2)] [(.ref a1), (.int (hd + (1 : Int32))), (.ref a1)])) rfl rfl (hb hby d3_77)
      refine own_go (S' := T42.setTop (mkF m 80 #[.val (.ref a1), .val (.int p2)] [(.ref b), (.int (hd + (1 : Int32))), (.ref a1)])) st42 ?_
      have Vo43 := V38_b
      obtain ⟨cl43, Ar43, qk43, Sz43, Nz43, Hh43, Gf43⟩ := Vo43
      have go44 : ∀ t, Steps p.tables e below (T42.setTop (mkF m 81 #[.val (.ref a1), .val (.int p2)] [(.int n), (.int (hd + (1 : Int32))), (.ref a1)])) t → Steps p.tables e below (T42.setTop (mkF m 80 #[.val (.ref a1), .val (.int p2)] [(.ref b), (.int (hd + (1 : Int32))), (.ref a1)])) t := by
        intro t kt
        refine X42.arraylength hx (by rw [e42]; exact Ar43.1) (State.isArrayOf_alike hZ.alike Ar43.2.1) (g := (mkF m 80 #[.val (.ref a1), .val (.int p2)] [(.ref b), (.int (hd + (1 : Int32))), (.ref a1)])) rfl rfl (hb hby d3_80) _ ?_
        rw [len_of Sz43 Nz43]
        exact kt
      refine own_go go44 ?_
      obtain ⟨_, _, ⟨T45, L45, k45, n45⟩, -, X45, ⟨Lc45, hQ45, l45, y45, z45⟩, st45⟩ := Jvm.LawKit.callS X42 hx (y := (⟨"java/lang/Math", "min", "(II)I"⟩ : MethodName)) hown (mvT hZ (hw _ (List.mem_of_getElem? (i := 26) rfl))) (mvT hZ (hw _ (List.mem_of_getElem? (i := 27) rfl))) (mvT hZ (hw _ (List.mem_of_getElem? (i := 28) rfl))) (mvT hZ (hw _ (List.mem_of_getElem? (i := 29) rfl))) (by decide) (backOf (W := 1) (rm5 l Z a0 hw [] (hd + (1 : Int32)) n h38 n0 (own_szH ga E38_a1)) hZ (hw _ (List.mem_of_getElem? (i := 29) rfl)) (hw _ (List.mem_of_getElem? (i := 28) rfl)) (by decide) (by decide)) (g := (mkF m 81 #[.val (.ref a1), .val (.int p2)] [(.int n), (.int (hd + (1 : Int32))), (.ref a1)])) rfl (by rw [hml]; rfl) (argsL := [(.int (hd + (1 : Int32))), (.int n)]) (rest := [(.ref a1)]) (lenOf pd_1 rfl) rfl (by show 2 * 0 + _ ≤ _; exact Nat.le_of_eq rfl) (hb hby d3_81) (fun _ _ => ⟨rfl, e42, (by decide : 0 + 0 ≤ _), (by decide : 0 + 0 ≤ _)⟩)
      dsimp only [Pt.U, Pt.locs, Pt.cells, Pt.slots] at X45 l45 y45 z45 st45 hQ45
      subst l45 y45 z45
      obtain ⟨rfl, N45q, em⟩ := hQ45
      have N45 := Fr.app N38 N45q
      refine own_go (S' := T45.setTop (mkF m 84 #[.val (.ref a1), .val (.int p2)] [(.int (own_min (hd + (1 : Int32)) n)), (.ref a1)])) st45 ?_
      obtain ⟨T46, h46, X46, e46, W46, st46⟩ := putF X45 hx hZ hown (host := "") (Or.inl (hw _ (List.mem_of_getElem? (i := 22) rfl))) Via.refl em F38_a1_held E38_a1 (Or.inl (hw _ (List.mem_of_getElem? (i := 23) rfl))) (hw _ (List.mem_of_getElem? (i := 1) rfl)) (ty := .int) (by decide) rfl rfl (g := (mkF m 84 #[.val (.ref a1), .val (.int p2)] [(.int (own_min (hd + (1 : Int32)) n)), (.ref a1)])) rfl rfl (hb hby d3_84)
      have F46_a1_outcomes : Fld Z h46 a1 "com/example/shunt/shunt/core/OutcomeWindow" "outcomes" "[Z" (.ref b) := F38_a1_outcomes.other W46 (Or.inr (slot_ne (Or.inr (hw _ (List.mem_of_getElem? (i := 11) rfl))) (Or.inl (hw _ (List.mem_of_getElem? (i := 23) rfl))) (by decide) (t := (.array .boolean)) (t' := .int) (by decide) (by decide)))
      have F46_a1_held : Fld Z h46 a1 "com/example/shunt/shunt/core/OutcomeWindow" "held" "I" (.int (own_min (hd + (1 : Int32)) n)) := F38_a1_held.same W46
      have F46_a1_next : Fld Z h46 a1 "com/example/shunt/shunt/core/OutcomeWindow" "next" "I" (.int ((nx + (1 : Int32)) % n)) := F38_a1_next.other W46 (Or.inr (slot_ne (Or.inl (hw _ (List.mem_of_getElem? (i := 25) rfl))) (Or.inl (hw _ (List.mem_of_getElem? (i := 23) rfl))) (by decide) (t := .int) (t' := .int) (by decide) (by decide)))
      have F46_a1_failures : Fld Z h46 a1 "com/example/shunt/shunt/core/OutcomeWindow" "failures" "I" (.int (fl + (1 : Int32))) := F38_a1_failures.other W46 (Or.inr (slot_ne (Or.inl (hw _ (List.mem_of_getElem? (i := 31) rfl))) (Or.inl (hw _ (List.mem_of_getElem? (i := 23) rfl))) (by decide) (t := .int) (t' := .int) (by decide) (by decide)))
      have E46_a1 : Exa Z h46 a1 "com/example/shunt/shunt/core/OutcomeWindow" := E38_a1.wr W46
      have V46_b : Arv Z h46 b kb .boolean n (vs.set nx.toNatClampNeg (.int (nar .boolean p2))) (.int (0 : Int32)) := V38_b.other W46 nb
      have N46 := Fr.snoc X46 N45 ga
      refine own_go (S' := T46.setTop (mkF m 87 #[.val (.ref a1), .val (.int p2)] [])) st46 ?_
      obtain ⟨fs, hr, hrun, hended, hW, hsame⟩ := X46.leave (v := none) (fun _ => rfl)
      refine ⟨_, _, X46.returnOut hx Bd.returns (hb hby d3_87) hr, hrun, hended, _, _, rfl, ?_, ⟨_, rfl⟩, hW, hsame.mono (by decide) (by decide)⟩
      show Q6 Z a1 b kb n (own_min (hd + (1 : Int32)) n) h0 n0 _ T46.heap _
      rw [e46]
      exact ⟨rfl, N46, ⟨_, _, _, (own_nx0 nx n hn ⟨jn0, jn1⟩), (own_nx1 nx n hn ⟨jn0, jn1⟩), (by rw [List.length_set]; exact jl), E46_a1, F46_a1_outcomes, F46_a1_held, F46_a1_next, F46_a1_failures, V46_b⟩⟩
  · have go47 : ∀ t, Steps p.tables e below (T2.setTop (mkF m 8 #[.val (.ref a1), .val (.int p2)] [(.ref a1)])) t → Steps p.tables e below (T2.setTop (mkF m 4 #[.val (.ref a1), .val (.int p2)] [(.int (own_full hd n))])) t := by
      intro t kt
      show Steps p.tables e below (T2.setTop (mkF m 4 #[.val (.ref a1), .val (.int p2)] [(.int (own_full hd n))])) _
      refine XS.ifNo X2.here hx rfl (hb hby d3_4) rfl ((if0 _ _).trans (feq hc4).1) ?_
      show Steps p.tables e below (T2.setTop (mkF m 7 #[.val (.ref a1), .val (.int p2)] [])) _
      refine XS.aloadN X2.here hx rfl (hb hby d3_7) rfl rfl ?_
      exact kt
    refine own_go go47 ?_
    obtain ⟨T48, X48, e48, st48⟩ := getF X2 hx hZ hown (host := "") (Or.inl (hw _ (List.mem_of_getElem? (i := 10) rfl))) Via.refl ef F_outcomes (g := (mkF m 8 #[.val (.ref a1), .val (.int p2)] [(.ref a1)])) rfl rfl (hb hby d3_8)
    refine own_go (S' := T48.setTop (mkF m 11 #[.val (.ref a1), .val (.int p2)] [(.ref b)])) st48 ?_
    have go49 : ∀ t, Steps p.tables e below (T48.setTop (mkF m 12 #[.val (.ref a1), .val (.int p2)] [(.ref a1), (.ref b)])) t → Steps p.tables e below (T48.setTop (mkF m 11 #[.val (.ref a1), .val (.int p2)] [(.ref b)])) t := by
      intro t kt
      show Steps p.tables e below (T48.setTop (mkF m 11 #[.val (.ref a1), .val (.int p2)] [(.ref b)])) _
      refine XS.aloadN X48.here hx rfl (hb hby d3_11) rfl rfl ?_
      exact kt
    refine own_go go49 ?_
    obtain ⟨T50, X50, e50, st50⟩ := getF X48 hx hZ hown (host := "") (Or.inl (hw _ (List.mem_of_getElem? (i := 24) rfl))) Via.refl e48 F_next (g := (mkF m 12 #[.val (.ref a1), .val (.int p2)] [(.ref a1), (.ref b)])) rfl rfl (hb hby d3_12)
    refine own_go (S' := T50.setTop (mkF m 15 #[.val (.ref a1), .val (.int p2)] [(.int nx), (.ref b)])) st50 ?_
    have Vo51 := VB
    obtain ⟨cl51, Ar51, qk51, Sz51, Nz51, Hh51, Gf51⟩ := Vo51
    have hin51 : ¬ (nx < 0 ∨ cl51.slots.size ≤ (nx).toNatClampNeg) := inb_of Sz51 ⟨jn0, jn1⟩
    have hat51 : cl51.slots[(nx).toNatClampNeg]? = some (.int w0) := Has.at Hh51 hin51 hw0
    have go52 : ∀ t, Steps p.tables e below (T50.setTop (mkF m 16 #[.val (.ref a1), .val (.int p2)] [(.int w0)])) t → Steps p.tables e below (T50.setTop (mkF m 15 #[.val (.ref a1), .val (.int p2)] [(.int nx), (.ref b)])) t := fun t kt => X50.baloadBooleans hx (j := nx) (v := (.int w0)) (by rw [e50]; exact Ar51.1) (State.isArrayOf_alike hZ.alike Ar51.2.1) Ar51.2.2 hin51 hat51 (g := (mkF m 15 #[.val (.ref a1), .val (.int p2)] [(.int nx), (.ref b)])) rfl rfl (hb hby d3_15) _ kt
    refine own_go go52 ?_
    rcases Classical.em (w0 = (0 : Int32)) with hc16 | hc16
    · have go53 : ∀ t, Steps p.tables e below (T50.setTop (mkF m 30 #[.val (.ref a1), .val (.int p2)] [(.ref a1)])) t → Steps p.tables e below (T50.setTop (mkF m 16 #[.val (.ref a1), .val (.int p2)] [(.int w0)])) t := by
        intro t kt
        show Steps p.tables e below (T50.setTop (mkF m 16 #[.val (.ref a1), .val (.int p2)] [(.int w0)])) _
        refine XS.ifYes X50.here hx rfl (pc0 := 16) (pc' := 29) rfl (hb hby d3_16) rfl ((if0 _ _).trans (teq hc16).1) (by decide) (by decide) ?_
        show Steps p.tables e below (T50.setTop (mkF m 29 #[.val (.ref a1), .val (.int p2)] [])) _
        refine XS.aloadN X50.here hx rfl (hb hby d3_29) rfl rfl ?_
        exact kt
      refine own_go go53 ?_
      obtain ⟨T54, X54, e54, st54⟩ := getF X50 hx hZ hown (host := "") (Or.inl (hw _ (List.mem_of_getElem? (i := 10) rfl))) Via.refl e50 F_outcomes (g := (mkF m 30 #[.val (.ref a1), .val (.int p2)] [(.ref a1)])) rfl rfl (hb hby d3_30)
      refine own_go (S' := T54.setTop (mkF m 33 #[.val (.ref a1), .val (.int p2)] [(.ref b)])) st54 ?_
      have go55 : ∀ t, Steps p.tables e below (T54.setTop (mkF m 34 #[.val (.ref a1), .val (.int p2)] [(.ref a1), (.ref b)])) t → Steps p.tables e below (T54.setTop (mkF m 33 #[.val (.ref a1), .val (.int p2)] [(.ref b)])) t := by
        intro t kt
        show Steps p.tables e below (T54.setTop (mkF m 33 #[.val (.ref a1), .val (.int p2)] [(.ref b)])) _
        refine XS.aloadN X54.here hx rfl (hb hby d3_33) rfl rfl ?_
        exact kt
      refine own_go go55 ?_
      obtain ⟨T56, X56, e56, st56⟩ := getF X54 hx hZ hown (host := "") (Or.inl (hw _ (List.mem_of_getElem? (i := 24) rfl))) Via.refl e54 F_next (g := (mkF m 34 #[.val (.ref a1), .val (.int p2)] [(.ref a1), (.ref b)])) rfl rfl (hb hby d3_34)
      refine own_go (S' := T56.setTop (mkF m 37 #[.val (.ref a1), .val (.int p2)] [(.int nx), (.ref b)])) st56 ?_
      have go57 : ∀ t, Steps p.tables e below (T56.setTop (mkF m 38 #[.val (.ref a1), .val (.int p2)] [(.int p2), (.int nx), (.ref b)])) t → Steps p.tables e below (T56.setTop (mkF m 37 #[.val (.ref a1), .val (.int p2)] [(.int nx), (.ref b)])) t := by
        intro t kt
        show Steps p.tables e below (T56.setTop (mkF m 37 #[.val (.ref a1), .val (.int p2)] [(.int nx), (.ref b)])) _
        refine XS.iloadN X56.here hx rfl (hb hby d3_37) rfl ?_
        exact kt
      refine own_go go57 ?_
      have Vo58 := VB
      obtain ⟨cl58, Ar58, qk58, Sz58, Nz58, Hh58, Gf58⟩ := Vo58
      have hin58 : ¬ (nx < 0 ∨ cl58.slots.size ≤ (nx).toNatClampNeg) := inb_of Sz58 ⟨jn0, jn1⟩
      obtain ⟨T59, h59, X59, e59, W59, st59⟩ := stZ X56 hx hZ e56 Ar58 (j := nx) hin58 (g := (mkF m 38 #[.val (.ref a1), .val (.int p2)] [(.int p2), (.int nx), (.ref b)])) rfl rfl (hb hby d3_38)
      have V59_b : Arv Z h59 b kb .boolean n (vs.set nx.toNatClampNeg (.int (nar .boolean p2))) (.int (0 : Int32)) := Arv.set Ar58 qk58 Sz58 Nz58 Hh58 Gf58 (fits_nar_bool _) W59 nx.toNatClampNeg rfl (own_len nx n vs hn ⟨jn0, jn1⟩ jl)
      have F59_a1_outcomes : Fld Z h59 a1 "com/example/shunt/shunt/core/OutcomeWindow" "outcomes" "[Z" (.ref b) := F_outcomes.other W59 (Or.inl (Ne.symm nb))
      have F59_a1_held : Fld Z h59 a1 "com/example/shunt/shunt/core/OutcomeWindow" "held" "I" (.int hd) := F_held.other W59 (Or.inl (Ne.symm nb))
      have F59_a1_next : Fld Z h59 a1 "com/example/shunt/shunt/core/OutcomeWindow" "next" "I" (.int nx) := F_next.other W59 (Or.inl (Ne.symm nb))
      have F59_a1_failures : Fld Z h59 a1 "com/example/shunt/shunt/core/OutcomeWindow" "failures" "I" (.int fl) := F_failures.other W59 (Or.inl (Ne.symm nb))
      have E59_a1 : Exa Z h59 a1 "com/example/shunt/shunt/core/OutcomeWindow" := E.wr W59
      have N59 := Fr.snoc X59 N2 gb
      refine own_go (S' := T59.setTop (mkF m 39 #[.val (.ref a1), .val (.int p2)] [])) st59 ?_
      have go60 : ∀ t, Steps p.tables e below (T59.setTop (mkF m 40 #[.val (.ref a1), .val (.int p2)] [(.int p2)])) t → Steps p.tables e below (T59.setTop (mkF m 39 #[.val (.ref a1), .val (.int p2)] [])) t := by
        intro t kt
        show Steps p.tables e below (T59.setTop (mkF m 39 #[.val (.ref a1), .val (.int p2)] [])) _
        refine XS.iloadN X59.here hx rfl (hb hby d3_39) rfl ?_
        exact kt
      refine own_go go60 ?_
      rcases Classical.em (p2 = (0 : Int32)) with hc40 | hc40
      · have go61 : ∀ t, Steps p.tables e below (T59.setTop (mkF m 55 #[.val (.ref a1), .val (.int p2)] [(.ref a1), (.ref a1)])) t → Steps p.tables e below (T59.setTop (mkF m 40 #[.val (.ref a1), .val (.int p2)] [(.int p2)])) t := by
          intro t kt
          show Steps p.tables e below (T59.setTop (mkF m 40 #[.val (.ref a1), .val (.int p2)] [(.int p2)])) _
          refine XS.ifYes X59.here hx rfl (pc0 := 40) (pc' := 53) rfl (hb hby d3_40) rfl ((if0 _ _).trans (teq hc40).1) (by decide) (by decide) ?_
          show Steps p.tables e below (T59.setTop (mkF m 53 #[.val (.ref a1), .val (.int p2)] [])) _
          refine XS.aloadN X59.here hx rfl (hb hby d3_53) rfl rfl ?_
          show Steps p.tables e below (T59.setTop (mkF m 54 #[.val (.ref a1), .val (.int p2)] [(.ref a1)])) _
          refine XS.aloadN X59.here hx rfl (hb hby d3_54) rfl rfl ?_
          exact kt
        refine own_go go61 ?_
        obtain ⟨T62, X62, e62, st62⟩ := getF X59 hx hZ hown (host := "") (Or.inl (hw _ (List.mem_of_getElem? (i := 24) rfl))) Via.refl e59 F59_a1_next (g := (mkF m 55 #[.val (.ref a1), .val (.int p2)] [(.ref a1), (.ref a1)])) rfl rfl (hb hby d3_55)
        refine own_go (S' := T62.setTop (mkF m 58 #[.val (.ref a1), .val (.int p2)] [(.int nx), (.ref a1)])) st62 ?_
        have go63 : ∀ t, Steps p.tables e below (T62.setTop (mkF m 61 #[.val (.ref a1), .val (.int p2)] [(.ref a1), (.int (nx + (1 : Int32))), (.ref a1)])) t → Steps p.tables e below (T62.setTop (mkF m 58 #[.val (.ref a1), .val (.int p2)] [(.int nx), (.ref a1)])) t := by
          intro t kt
          show Steps p.tables e below (T62.setTop (mkF m 58 #[.val (.ref a1), .val (.int p2)] [(.int nx), (.ref a1)])) _
          refine XS.iconst X62.here hx rfl (hb hby d3_58) ?_
          show Steps p.tables e below (T62.setTop (mkF m 59 #[.val (.ref a1), .val (.int p2)] [(.int (1 : Int32)), (.int nx), (.ref a1)])) _
          refine XS.iadd X62.here hx rfl (hb hby d3_59) rfl ?_
          show Steps p.tables e below (T62.setTop (mkF m 60 #[.val (.ref a1), .val (.int p2)] [(.int (nx + (1 : Int32))), (.ref a1)])) _
          refine XS.aloadN X62.here hx rfl (hb hby d3_60) rfl rfl ?_
          exact kt
        refine own_go go63 ?_
        obtain ⟨T64, X64, e64, st64⟩ := getF X62 hx hZ hown (host := "") (Or.inl (hw _ (List.mem_of_getElem? (i := 10) rfl))) Via.refl e62 F59_a1_outcomes (g := (mkF m 61 #[.val (.ref a1), .val (.int p2)] [(.ref a1), (.int (nx + (1 : Int32))), (.ref a1)])) rfl rfl (hb hby d3_61)
        refine own_go (S' := T64.setTop (mkF m 64 #[.val (.ref a1), .val (.int p2)] [(.ref b), (.int (nx + (1 : Int32))), (.ref a1)])) st64 ?_
        have Vo65 := V59_b
        obtain ⟨cl65, Ar65, qk65, Sz65, Nz65, Hh65, Gf65⟩ := Vo65
        have go66 : ∀ t, Steps p.tables e below (T64.setTop (mkF m 65 #[.val (.ref a1), .val (.int p2)] [(.int n), (.int (nx + (1 : Int32))), (.ref a1)])) t → Steps p.tables e below (T64.setTop (mkF m 64 #[.val (.ref a1), .val (.int p2)] [(.ref b), (.int (nx + (1 : Int32))), (.ref a1)])) t := by
          intro t kt
          refine X64.arraylength hx (by rw [e64]; exact Ar65.1) (State.isArrayOf_alike hZ.alike Ar65.2.1) (g := (mkF m 64 #[.val (.ref a1), .val (.int p2)] [(.ref b), (.int (nx + (1 : Int32))), (.ref a1)])) rfl rfl (hb hby d3_64) _ ?_
          rw [len_of Sz65 Nz65]
          exact kt
        refine own_go go66 ?_
        have go67 : ∀ t, Steps p.tables e below (T64.setTop (mkF m 66 #[.val (.ref a1), .val (.int p2)] [(.int ((nx + (1 : Int32)) % n)), (.ref a1)])) t → Steps p.tables e below (T64.setTop (mkF m 65 #[.val (.ref a1), .val (.int p2)] [(.int n), (.int (nx + (1 : Int32))), (.ref a1)])) t := by
          intro t kt
          show Steps p.tables e below (T64.setTop (mkF m 65 #[.val (.ref a1), .val (.int p2)] [(.int n), (.int (nx + (1 : Int32))), (.ref a1)])) _
          refine iremM X64 hx rfl (hb hby d3_65) rfl (own_n0 n hn) ?_
          exact kt
        refine own_go go67 ?_
        obtain ⟨T68, h68, X68, e68, W68, st68⟩ := putF X64 hx hZ hown (host := "") (Or.inl (hw _ (List.mem_of_getElem? (i := 24) rfl))) Via.refl e64 F59_a1_next E59_a1 (Or.inl (hw _ (List.mem_of_getElem? (i := 25) rfl))) (hw _ (List.mem_of_getElem? (i := 1) rfl)) (ty := .int) (by decide) rfl rfl (g := (mkF m 66 #[.val (.ref a1), .val (.int p2)] [(.int ((nx + (1 : Int32)) % n)), (.ref a1)])) rfl rfl (hb hby d3_66)
        have F68_a1_outcomes : Fld Z h68 a1 "com/example/shunt/shunt/core/OutcomeWindow" "outcomes" "[Z" (.ref b) := F59_a1_outcomes.other W68 (Or.inr (slot_ne (Or.inr (hw _ (List.mem_of_getElem? (i := 11) rfl))) (Or.inl (hw _ (List.mem_of_getElem? (i := 25) rfl))) (by decide) (t := (.array .boolean)) (t' := .int) (by decide) (by decide)))
        have F68_a1_held : Fld Z h68 a1 "com/example/shunt/shunt/core/OutcomeWindow" "held" "I" (.int hd) := F59_a1_held.other W68 (Or.inr (slot_ne (Or.inl (hw _ (List.mem_of_getElem? (i := 23) rfl))) (Or.inl (hw _ (List.mem_of_getElem? (i := 25) rfl))) (by decide) (t := .int) (t' := .int) (by decide) (by decide)))
        have F68_a1_next : Fld Z h68 a1 "com/example/shunt/shunt/core/OutcomeWindow" "next" "I" (.int ((nx + (1 : Int32)) % n)) := F59_a1_next.same W68
        have F68_a1_failures : Fld Z h68 a1 "com/example/shunt/shunt/core/OutcomeWindow" "failures" "I" (.int fl) := F59_a1_failures.other W68 (Or.inr (slot_ne (Or.inl (hw _ (List.mem_of_getElem? (i := 31) rfl))) (Or.inl (hw _ (List.mem_of_getElem? (i := 25) rfl))) (by decide) (t := .int) (t' := .int) (by decide) (by decide)))
        have E68_a1 : Exa Z h68 a1 "com/example/shunt/shunt/core/OutcomeWindow" := E59_a1.wr W68
        have V68_b : Arv Z h68 b kb .boolean n (vs.set nx.toNatClampNeg (.int (nar .boolean p2))) (.int (0 : Int32)) := V59_b.other W68 nb
        have N68 := Fr.snoc X68 N59 ga
        refine own_go (S' := T68.setTop (mkF m 69 #[.val (.ref a1), .val (.int p2)] [])) st68 ?_
        have go69 : ∀ t, Steps p.tables e below (T68.setTop (mkF m 71 #[.val (.ref a1), .val (.int p2)] [(.ref a1), (.ref a1)])) t → Steps p.tables e below (T68.setTop (mkF m 69 #[.val (.ref a1), .val (.int p2)] [])) t := by
          intro t kt
          show Steps p.tables e below (T68.setTop (mkF m 69 #[.val (.ref a1), .val (.int p2)] [])) _
          refine XS.aloadN X68.here hx rfl (hb hby d3_69) rfl rfl ?_
          show Steps p.tables e below (T68.setTop (mkF m 70 #[.val (.ref a1), .val (.int p2)] [(.ref a1)])) _
          refine XS.aloadN X68.here hx rfl (hb hby d3_70) rfl rfl ?_
          exact kt
        refine own_go go69 ?_
        obtain ⟨T70, X70, e70, st70⟩ := getF X68 hx hZ hown (host := "") (Or.inl (hw _ (List.mem_of_getElem? (i := 22) rfl))) Via.refl e68 F68_a1_held (g := (mkF m 71 #[.val (.ref a1), .val (.int p2)] [(.ref a1), (.ref a1)])) rfl rfl (hb hby d3_71)
        refine own_go (S' := T70.setTop (mkF m 74 #[.val (.ref a1), .val (.int p2)] [(.int hd), (.ref a1)])) st70 ?_
        have go71 : ∀ t, Steps p.tables e below (T70.setTop (mkF m 77 #[.val (.ref a1), .val (.int p2)] [(.ref a1), (.int (hd + (1 : Int32))), (.ref a1)])) t → Steps p.tables e below (T70.setTop (mkF m 74 #[.val (.ref a1), .val (.int p2)] [(.int hd), (.ref a1)])) t := by
          intro t kt
          show Steps p.tables e below (T70.setTop (mkF m 74 #[.val (.ref a1), .val (.int p2)] [(.int hd), (.ref a1)])) _
          refine XS.iconst X70.here hx rfl (hb hby d3_74) ?_
          show Steps p.tables e below (T70.setTop (mkF m 75 #[.val (.ref a1), .val (.int p2)] [(.int (1 : Int32)), (.int hd), (.ref a1)])) _
          refine XS.iadd X70.here hx rfl (hb hby d3_75) rfl ?_
          show Steps p.tables e below (T70.setTop (mkF m 76 #[.val (.ref a1), .val (.int p2)] [(.int (hd + (1 : Int32))), (.ref a1)])) _
          refine XS.aloadN X70.here hx rfl (hb hby d3_76) rfl rfl ?_
          exact kt
        refine own_go go71 ?_
        obtain ⟨T72, X72, e72, st72⟩ := getF X70 hx hZ hown (host := "") (Or.inl (hw _ (List.mem_of_getElem? (i := 10) rfl))) Via.refl e70 F68_a1_outcomes (g := (mkF m 77 #[.val (.ref a1), .val (.int p2)] [(.ref a1), (.int (hd + (1 : Int32))), (.ref a1)])) rfl rfl (hb hby d3_77)
        refine own_go (S' := T72.setTop (mkF m 80 #[.val (.ref a1), .val (.int p2)] [(.ref b), (.int (hd + (1 : Int32))), (.ref a1)])) st72 ?_
        have Vo73 := V68_b
        obtain ⟨cl73, Ar73, qk73, Sz73, Nz73, Hh73, Gf73⟩ := Vo73
        have go74 : ∀ t, Steps p.tables e below (T72.setTop (mkF m 81 #[.val (.ref a1), .val (.int p2)] [(.int n), (.int (hd + (1 : Int32))), (.ref a1)])) t → Steps p.tables e below (T72.setTop (mkF m 80 #[.val (.ref a1), .val (.int p2)] [(.ref b), (.int (hd + (1 : Int32))), (.ref a1)])) t := by
          intro t kt
          refine X72.arraylength hx (by rw [e72]; exact Ar73.1) (State.isArrayOf_alike hZ.alike Ar73.2.1) (g := (mkF m 80 #[.val (.ref a1), .val (.int p2)] [(.ref b), (.int (hd + (1 : Int32))), (.ref a1)])) rfl rfl (hb hby d3_80) _ ?_
          rw [len_of Sz73 Nz73]
          exact kt
        refine own_go go74 ?_
        obtain ⟨_, _, ⟨T75, L75, k75, n75⟩, -, X75, ⟨Lc75, hQ75, l75, y75, z75⟩, st75⟩ := Jvm.LawKit.callS X72 hx (y := (⟨"java/lang/Math", "min", "(II)I"⟩ : MethodName)) hown (mvT hZ (hw _ (List.mem_of_getElem? (i := 26) rfl))) (mvT hZ (hw _ (List.mem_of_getElem? (i := 27) rfl))) (mvT hZ (hw _ (List.mem_of_getElem? (i := 28) rfl))) (mvT hZ (hw _ (List.mem_of_getElem? (i := 29) rfl))) (by decide) (backOf (W := 1) (rm5 l Z a0 hw [] (hd + (1 : Int32)) n h68 n0 (own_szH ga E68_a1)) hZ (hw _ (List.mem_of_getElem? (i := 29) rfl)) (hw _ (List.mem_of_getElem? (i := 28) rfl)) (by decide) (by decide)) (g := (mkF m 81 #[.val (.ref a1), .val (.int p2)] [(.int n), (.int (hd + (1 : Int32))), (.ref a1)])) rfl (by rw [hml]; rfl) (argsL := [(.int (hd + (1 : Int32))), (.int n)]) (rest := [(.ref a1)]) (lenOf pd_1 rfl) rfl (by show 2 * 0 + _ ≤ _; exact Nat.le_of_eq rfl) (hb hby d3_81) (fun _ _ => ⟨rfl, e72, (by decide : 0 + 0 ≤ _), (by decide : 0 + 0 ≤ _)⟩)
        dsimp only [Pt.U, Pt.locs, Pt.cells, Pt.slots] at X75 l75 y75 z75 st75 hQ75
        subst l75 y75 z75
        obtain ⟨rfl, N75q, em⟩ := hQ75
        have N75 := Fr.app N68 N75q
        refine own_go (S' := T75.setTop (mkF m 84 #[.val (.ref a1), .val (.int p2)] [(.int (own_min (hd + (1 : Int32)) n)), (.ref a1)])) st75 ?_
        obtain ⟨T76, h76, X76, e76, W76, st76⟩ := putF X75 hx hZ hown (host := "") (Or.inl (hw _ (List.mem_of_getElem? (i := 22) rfl))) Via.refl em F68_a1_held E68_a1 (Or.inl (hw _ (List.mem_of_getElem? (i := 23) rfl))) (hw _ (List.mem_of_getElem? (i := 1) rfl)) (ty := .int) (by decide) rfl rfl (g := (mkF m 84 #[.val (.ref a1), .val (.int p2)] [(.int (own_min (hd + (1 : Int32)) n)), (.ref a1)])) rfl rfl (hb hby d3_84)
        have F76_a1_outcomes : Fld Z h76 a1 "com/example/shunt/shunt/core/OutcomeWindow" "outcomes" "[Z" (.ref b) := F68_a1_outcomes.other W76 (Or.inr (slot_ne (Or.inr (hw _ (List.mem_of_getElem? (i := 11) rfl))) (Or.inl (hw _ (List.mem_of_getElem? (i := 23) rfl))) (by decide) (t := (.array .boolean)) (t' := .int) (by decide) (by decide)))
        have F76_a1_held : Fld Z h76 a1 "com/example/shunt/shunt/core/OutcomeWindow" "held" "I" (.int (own_min (hd + (1 : Int32)) n)) := F68_a1_held.same W76
        have F76_a1_next : Fld Z h76 a1 "com/example/shunt/shunt/core/OutcomeWindow" "next" "I" (.int ((nx + (1 : Int32)) % n)) := F68_a1_next.other W76 (Or.inr (slot_ne (Or.inl (hw _ (List.mem_of_getElem? (i := 25) rfl))) (Or.inl (hw _ (List.mem_of_getElem? (i := 23) rfl))) (by decide) (t := .int) (t' := .int) (by decide) (by decide)))
        have F76_a1_failures : Fld Z h76 a1 "com/example/shunt/shunt/core/OutcomeWindow" "failures" "I" (.int fl) := F68_a1_failures.other W76 (Or.inr (slot_ne (Or.inl (hw _ (List.mem_of_getElem? (i := 31) rfl))) (Or.inl (hw _ (List.mem_of_getElem? (i := 23) rfl))) (by decide) (t := .int) (t' := .int) (by decide) (by decide)))
        have E76_a1 : Exa Z h76 a1 "com/example/shunt/shunt/core/OutcomeWindow" := E68_a1.wr W76
        have V76_b : Arv Z h76 b kb .boolean n (vs.set nx.toNatClampNeg (.int (nar .boolean p2))) (.int (0 : Int32)) := V68_b.other W76 nb
        have N76 := Fr.snoc X76 N75 ga
        refine own_go (S' := T76.setTop (mkF m 87 #[.val (.ref a1), .val (.int p2)] [])) st76 ?_
        obtain ⟨fs, hr, hrun, hended, hW, hsame⟩ := X76.leave (v := none) (fun _ => rfl)
        refine ⟨_, _, X76.returnOut hx Bd.returns (hb hby d3_87) hr, hrun, hended, _, _, rfl, ?_, ⟨_, rfl⟩, hW, hsame.mono (by decide) (by decide)⟩
        show Q6 Z a1 b kb n (own_min (hd + (1 : Int32)) n) h0 n0 _ T76.heap _
        rw [e76]
        exact ⟨rfl, N76, ⟨_, _, _, (own_nx0 nx n hn ⟨jn0, jn1⟩), (own_nx1 nx n hn ⟨jn0, jn1⟩), (by rw [List.length_set]; exact jl), E76_a1, F76_a1_outcomes, F76_a1_held, F76_a1_next, F76_a1_failures, V76_b⟩⟩
      · have go77 : ∀ t, Steps p.tables e below (T59.setTop (mkF m 45 #[.val (.ref a1), .val (.int p2)] [(.ref a1), (.ref a1)])) t → Steps p.tables e below (T59.setTop (mkF m 40 #[.val (.ref a1), .val (.int p2)] [(.int p2)])) t := by
          intro t kt
          show Steps p.tables e below (T59.setTop (mkF m 40 #[.val (.ref a1), .val (.int p2)] [(.int p2)])) _
          refine XS.ifNo X59.here hx rfl (hb hby d3_40) rfl ((if0 _ _).trans (feq hc40).1) ?_
          show Steps p.tables e below (T59.setTop (mkF m 43 #[.val (.ref a1), .val (.int p2)] [])) _
          refine XS.aloadN X59.here hx rfl (hb hby d3_43) rfl rfl ?_
          show Steps p.tables e below (T59.setTop (mkF m 44 #[.val (.ref a1), .val (.int p2)] [(.ref a1)])) _
          refine XS.dup X59.here hx rfl (hb hby d3_44) rfl rfl ?_
          exact kt
        refine own_go go77 ?_
        obtain ⟨T78, X78, e78, st78⟩ := getF X59 hx hZ hown (host := "") (Or.inl (hw _ (List.mem_of_getElem? (i := 30) rfl))) Via.refl e59 F59_a1_failures (g := (mkF m 45 #[.val (.ref a1), .val (.int p2)] [(.ref a1), (.ref a1)])) rfl rfl (hb hby d3_45)
        refine own_go (S' := T78.setTop (mkF m 48 #[.val (.ref a1), .val (.int p2)] [(.int fl), (.ref a1)])) st78 ?_
        have go79 : ∀ t, Steps p.tables e below (T78.setTop (mkF m 50 #[.val (.ref a1), .val (.int p2)] [(.int (fl + (1 : Int32))), (.ref a1)])) t → Steps p.tables e below (T78.setTop (mkF m 48 #[.val (.ref a1), .val (.int p2)] [(.int fl), (.ref a1)])) t := by
          intro t kt
          show Steps p.tables e below (T78.setTop (mkF m 48 #[.val (.ref a1), .val (.int p2)] [(.int fl), (.ref a1)])) _
          refine XS.iconst X78.here hx rfl (hb hby d3_48) ?_
          show Steps p.tables e below (T78.setTop (mkF m 49 #[.val (.ref a1), .val (.int p2)] [(.int (1 : Int32)), (.int fl), (.ref a1)])) _
          refine XS.iadd X78.here hx rfl (hb hby d3_49) rfl ?_
          exact kt
        refine own_go go79 ?_
        obtain ⟨T80, h80, X80, e80, W80, st80⟩ := putF X78 hx hZ hown (host := "") (Or.inl (hw _ (List.mem_of_getElem? (i := 30) rfl))) Via.refl e78 F59_a1_failures E59_a1 (Or.inl (hw _ (List.mem_of_getElem? (i := 31) rfl))) (hw _ (List.mem_of_getElem? (i := 1) rfl)) (ty := .int) (by decide) rfl rfl (g := (mkF m 50 #[.val (.ref a1), .val (.int p2)] [(.int (fl + (1 : Int32))), (.ref a1)])) rfl rfl (hb hby d3_50)
        have F80_a1_outcomes : Fld Z h80 a1 "com/example/shunt/shunt/core/OutcomeWindow" "outcomes" "[Z" (.ref b) := F59_a1_outcomes.other W80 (Or.inr (slot_ne (Or.inr (hw _ (List.mem_of_getElem? (i := 11) rfl))) (Or.inl (hw _ (List.mem_of_getElem? (i := 31) rfl))) (by decide) (t := (.array .boolean)) (t' := .int) (by decide) (by decide)))
        have F80_a1_held : Fld Z h80 a1 "com/example/shunt/shunt/core/OutcomeWindow" "held" "I" (.int hd) := F59_a1_held.other W80 (Or.inr (slot_ne (Or.inl (hw _ (List.mem_of_getElem? (i := 23) rfl))) (Or.inl (hw _ (List.mem_of_getElem? (i := 31) rfl))) (by decide) (t := .int) (t' := .int) (by decide) (by decide)))
        have F80_a1_next : Fld Z h80 a1 "com/example/shunt/shunt/core/OutcomeWindow" "next" "I" (.int nx) := F59_a1_next.other W80 (Or.inr (slot_ne (Or.inl (hw _ (List.mem_of_getElem? (i := 25) rfl))) (Or.inl (hw _ (List.mem_of_getElem? (i := 31) rfl))) (by decide) (t := .int) (t' := .int) (by decide) (by decide)))
        have F80_a1_failures : Fld Z h80 a1 "com/example/shunt/shunt/core/OutcomeWindow" "failures" "I" (.int (fl + (1 : Int32))) := F59_a1_failures.same W80
        have E80_a1 : Exa Z h80 a1 "com/example/shunt/shunt/core/OutcomeWindow" := E59_a1.wr W80
        have V80_b : Arv Z h80 b kb .boolean n (vs.set nx.toNatClampNeg (.int (nar .boolean p2))) (.int (0 : Int32)) := V59_b.other W80 nb
        have N80 := Fr.snoc X80 N59 ga
        refine own_go (S' := T80.setTop (mkF m 53 #[.val (.ref a1), .val (.int p2)] [])) st80 ?_
        have go81 : ∀ t, Steps p.tables e below (T80.setTop (mkF m 55 #[.val (.ref a1), .val (.int p2)] [(.ref a1), (.ref a1)])) t → Steps p.tables e below (T80.setTop (mkF m 53 #[.val (.ref a1), .val (.int p2)] [])) t := by
          intro t kt
          show Steps p.tables e below (T80.setTop (mkF m 53 #[.val (.ref a1), .val (.int p2)] [])) _
          refine XS.aloadN X80.here hx rfl (hb hby d3_53) rfl rfl ?_
          show Steps p.tables e below (T80.setTop (mkF m 54 #[.val (.ref a1), .val (.int p2)] [(.ref a1)])) _
          refine XS.aloadN X80.here hx rfl (hb hby d3_54) rfl rfl ?_
          exact kt
        refine own_go go81 ?_
        obtain ⟨T82, X82, e82, st82⟩ := getF X80 hx hZ hown (host := "") (Or.inl (hw _ (List.mem_of_getElem? (i := 24) rfl))) Via.refl e80 F80_a1_next (g := (mkF m 55 #[.val (.ref a1), .val (.int p2)] [(.ref a1), (.ref a1)])) rfl rfl (hb hby d3_55)
        refine own_go (S' := T82.setTop (mkF m 58 #[.val (.ref a1), .val (.int p2)] [(.int nx), (.ref a1)])) st82 ?_
        have go83 : ∀ t, Steps p.tables e below (T82.setTop (mkF m 61 #[.val (.ref a1), .val (.int p2)] [(.ref a1), (.int (nx + (1 : Int32))), (.ref a1)])) t → Steps p.tables e below (T82.setTop (mkF m 58 #[.val (.ref a1), .val (.int p2)] [(.int nx), (.ref a1)])) t := by
          intro t kt
          show Steps p.tables e below (T82.setTop (mkF m 58 #[.val (.ref a1), .val (.int p2)] [(.int nx), (.ref a1)])) _
          refine XS.iconst X82.here hx rfl (hb hby d3_58) ?_
          show Steps p.tables e below (T82.setTop (mkF m 59 #[.val (.ref a1), .val (.int p2)] [(.int (1 : Int32)), (.int nx), (.ref a1)])) _
          refine XS.iadd X82.here hx rfl (hb hby d3_59) rfl ?_
          show Steps p.tables e below (T82.setTop (mkF m 60 #[.val (.ref a1), .val (.int p2)] [(.int (nx + (1 : Int32))), (.ref a1)])) _
          refine XS.aloadN X82.here hx rfl (hb hby d3_60) rfl rfl ?_
          exact kt
        refine own_go go83 ?_
        obtain ⟨T84, X84, e84, st84⟩ := getF X82 hx hZ hown (host := "") (Or.inl (hw _ (List.mem_of_getElem? (i := 10) rfl))) Via.refl e82 F80_a1_outcomes (g := (mkF m 61 #[.val (.ref a1), .val (.int p2)] [(.ref a1), (.int (nx + (1 : Int32))), (.ref a1)])) rfl rfl (hb hby d3_61)
        refine own_go (S' := T84.setTop (mkF m 64 #[.val (.ref a1), .val (.int p2)] [(.ref b), (.int (nx + (1 : Int32))), (.ref a1)])) st84 ?_
        have Vo85 := V80_b
        obtain ⟨cl85, Ar85, qk85, Sz85, Nz85, Hh85, Gf85⟩ := Vo85
        have go86 : ∀ t, Steps p.tables e below (T84.setTop (mkF m 65 #[.val (.ref a1), .val (.int p2)] [(.int n), (.int (nx + (1 : Int32))), (.ref a1)])) t → Steps p.tables e below (T84.setTop (mkF m 64 #[.val (.ref a1), .val (.int p2)] [(.ref b), (.int (nx + (1 : Int32))), (.ref a1)])) t := by
          intro t kt
          refine X84.arraylength hx (by rw [e84]; exact Ar85.1) (State.isArrayOf_alike hZ.alike Ar85.2.1) (g := (mkF m 64 #[.val (.ref a1), .val (.int p2)] [(.ref b), (.int (nx + (1 : Int32))), (.ref a1)])) rfl rfl (hb hby d3_64) _ ?_
          rw [len_of Sz85 Nz85]
          exact kt
        refine own_go go86 ?_
        have go87 : ∀ t, Steps p.tables e below (T84.setTop (mkF m 66 #[.val (.ref a1), .val (.int p2)] [(.int ((nx + (1 : Int32)) % n)), (.ref a1)])) t → Steps p.tables e below (T84.setTop (mkF m 65 #[.val (.ref a1), .val (.int p2)] [(.int n), (.int (nx + (1 : Int32))), (.ref a1)])) t := by
          intro t kt
          show Steps p.tables e below (T84.setTop (mkF m 65 #[.val (.ref a1), .val (.int p2)] [(.int n), (.int (nx + (1 : Int32))), (.ref a1)])) _
          refine iremM X84 hx rfl (hb hby d3_65) rfl (own_n0 n hn) ?_
          exact kt
        refine own_go go87 ?_
        obtain ⟨T88, h88, X88, e88, W88, st88⟩ := putF X84 hx hZ hown (host := "") (Or.inl (hw _ (List.mem_of_getElem? (i := 24) rfl))) Via.refl e84 F80_a1_next E80_a1 (Or.inl (hw _ (List.mem_of_getElem? (i := 25) rfl))) (hw _ (List.mem_of_getElem? (i := 1) rfl)) (ty := .int) (by decide) rfl rfl (g := (mkF m 66 #[.val (.ref a1), .val (.int p2)] [(.int ((nx + (1 : Int32)) % n)), (.ref a1)])) rfl rfl (hb hby d3_66)
        have F88_a1_outcomes : Fld Z h88 a1 "com/example/shunt/shunt/core/OutcomeWindow" "outcomes" "[Z" (.ref b) := F80_a1_outcomes.other W88 (Or.inr (slot_ne (Or.inr (hw _ (List.mem_of_getElem? (i := 11) rfl))) (Or.inl (hw _ (List.mem_of_getElem? (i := 25) rfl))) (by decide) (t := (.array .boolean)) (t' := .int) (by decide) (by decide)))
        have F88_a1_held : Fld Z h88 a1 "com/example/shunt/shunt/core/OutcomeWindow" "held" "I" (.int hd) := F80_a1_held.other W88 (Or.inr (slot_ne (Or.inl (hw _ (List.mem_of_getElem? (i := 23) rfl))) (Or.inl (hw _ (List.mem_of_getElem? (i := 25) rfl))) (by decide) (t := .int) (t' := .int) (by decide) (by decide)))
        have F88_a1_next : Fld Z h88 a1 "com/example/shunt/shunt/core/OutcomeWindow" "next" "I" (.int ((nx + (1 : Int32)) % n)) := F80_a1_next.same W88
        have F88_a1_failures : Fld Z h88 a1 "com/example/shunt/shunt/core/OutcomeWindow" "failures" "I" (.int (fl + (1 : Int32))) := F80_a1_failures.other W88 (Or.inr (slot_ne (Or.inl (hw _ (List.mem_of_getElem? (i := 31) rfl))) (Or.inl (hw _ (List.mem_of_getElem? (i := 25) rfl))) (by decide) (t := .int) (t' := .int) (by decide) (by decide)))
        have E88_a1 : Exa Z h88 a1 "com/example/shunt/shunt/core/OutcomeWindow" := E80_a1.wr W88
        have V88_b : Arv Z h88 b kb .boolean n (vs.set nx.toNatClampNeg (.int (nar .boolean p2))) (.int (0 : Int32)) := V80_b.other W88 nb
        have N88 := Fr.snoc X88 N80 ga
        refine own_go (S' := T88.setTop (mkF m 69 #[.val (.ref a1), .val (.int p2)] [])) st88 ?_
        have go89 : ∀ t, Steps p.tables e below (T88.setTop (mkF m 71 #[.val (.ref a1), .val (.int p2)] [(.ref a1), (.ref a1)])) t → Steps p.tables e below (T88.setTop (mkF m 69 #[.val (.ref a1), .val (.int p2)] [])) t := by
          intro t kt
          show Steps p.tables e below (T88.setTop (mkF m 69 #[.val (.ref a1), .val (.int p2)] [])) _
          refine XS.aloadN X88.here hx rfl (hb hby d3_69) rfl rfl ?_
          show Steps p.tables e below (T88.setTop (mkF m 70 #[.val (.ref a1), .val (.int p2)] [(.ref a1)])) _
          refine XS.aloadN X88.here hx rfl (hb hby d3_70) rfl rfl ?_
          exact kt
        refine own_go go89 ?_
        obtain ⟨T90, X90, e90, st90⟩ := getF X88 hx hZ hown (host := "") (Or.inl (hw _ (List.mem_of_getElem? (i := 22) rfl))) Via.refl e88 F88_a1_held (g := (mkF m 71 #[.val (.ref a1), .val (.int p2)] [(.ref a1), (.ref a1)])) rfl rfl (hb hby d3_71)
        refine own_go (S' := T90.setTop (mkF m 74 #[.val (.ref a1), .val (.int p2)] [(.int hd), (.ref a1)])) st90 ?_
        have go91 : ∀ t, Steps p.tables e below (T90.setTop (mkF m 77 #[.val (.ref a1), .val (.int p2)] [(.ref a1), (.int (hd + (1 : Int32))), (.ref a1)])) t → Steps p.tables e below (T90.setTop (mkF m 74 #[.val (.ref a1), .val (.int p2)] [(.int hd), (.ref a1)])) t := by
          intro t kt
          show Steps p.tables e below (T90.setTop (mkF m 74 #[.val (.ref a1), .val (.int p2)] [(.int hd), (.ref a1)])) _
          refine XS.iconst X90.here hx rfl (hb hby d3_74) ?_
          show Steps p.tables e below (T90.setTop (mkF m 75 #[.val (.ref a1), .val (.int p2)] [(.int (1 : Int32)), (.int hd), (.ref a1)])) _
          refine XS.iadd X90.here hx rfl (hb hby d3_75) rfl ?_
          show Steps p.tables e below (T90.setTop (mkF m 76 #[.val (.ref a1), .val (.int p2)] [(.int (hd + (1 : Int32))), (.ref a1)])) _
          refine XS.aloadN X90.here hx rfl (hb hby d3_76) rfl rfl ?_
          exact kt
        refine own_go go91 ?_
        obtain ⟨T92, X92, e92, st92⟩ := getF X90 hx hZ hown (host := "") (Or.inl (hw _ (List.mem_of_getElem? (i := 10) rfl))) Via.refl e90 F88_a1_outcomes (g := (mkF m 77 #[.val (.ref a1), .val (.int p2)] [(.ref a1), (.int (hd + (1 : Int32))), (.ref a1)])) rfl rfl (hb hby d3_77)
        refine own_go (S' := T92.setTop (mkF m 80 #[.val (.ref a1), .val (.int p2)] [(.ref b), (.int (hd + (1 : Int32))), (.ref a1)])) st92 ?_
        have Vo93 := V88_b
        obtain ⟨cl93, Ar93, qk93, Sz93, Nz93, Hh93, Gf93⟩ := Vo93
        have go94 : ∀ t, Steps p.tables e below (T92.setTop (mkF m 81 #[.val (.ref a1), .val (.int p2)] [(.int n), (.int (hd + (1 : Int32))), (.ref a1)])) t → Steps p.tables e below (T92.setTop (mkF m 80 #[.val (.ref a1), .val (.int p2)] [(.ref b), (.int (hd + (1 : Int32))), (.ref a1)])) t := by
          intro t kt
          refine X92.arraylength hx (by rw [e92]; exact Ar93.1) (State.isArrayOf_alike hZ.alike Ar93.2.1) (g := (mkF m 80 #[.val (.ref a1), .val (.int p2)] [(.ref b), (.int (hd + (1 : Int32))), (.ref a1)])) rfl rfl (hb hby d3_80) _ ?_
          rw [len_of Sz93 Nz93]
          exact kt
        refine own_go go94 ?_
        obtain ⟨_, _, ⟨T95, L95, k95, n95⟩, -, X95, ⟨Lc95, hQ95, l95, y95, z95⟩, st95⟩ := Jvm.LawKit.callS X92 hx (y := (⟨"java/lang/Math", "min", "(II)I"⟩ : MethodName)) hown (mvT hZ (hw _ (List.mem_of_getElem? (i := 26) rfl))) (mvT hZ (hw _ (List.mem_of_getElem? (i := 27) rfl))) (mvT hZ (hw _ (List.mem_of_getElem? (i := 28) rfl))) (mvT hZ (hw _ (List.mem_of_getElem? (i := 29) rfl))) (by decide) (backOf (W := 1) (rm5 l Z a0 hw [] (hd + (1 : Int32)) n h88 n0 (own_szH ga E88_a1)) hZ (hw _ (List.mem_of_getElem? (i := 29) rfl)) (hw _ (List.mem_of_getElem? (i := 28) rfl)) (by decide) (by decide)) (g := (mkF m 81 #[.val (.ref a1), .val (.int p2)] [(.int n), (.int (hd + (1 : Int32))), (.ref a1)])) rfl (by rw [hml]; rfl) (argsL := [(.int (hd + (1 : Int32))), (.int n)]) (rest := [(.ref a1)]) (lenOf pd_1 rfl) rfl (by show 2 * 0 + _ ≤ _; exact Nat.le_of_eq rfl) (hb hby d3_81) (fun _ _ => ⟨rfl, e92, (by decide : 0 + 0 ≤ _), (by decide : 0 + 0 ≤ _)⟩)
        dsimp only [Pt.U, Pt.locs, Pt.cells, Pt.slots] at X95 l95 y95 z95 st95 hQ95
        subst l95 y95 z95
        obtain ⟨rfl, N95q, em⟩ := hQ95
        have N95 := Fr.app N88 N95q
        refine own_go (S' := T95.setTop (mkF m 84 #[.val (.ref a1), .val (.int p2)] [(.int (own_min (hd + (1 : Int32)) n)), (.ref a1)])) st95 ?_
        obtain ⟨T96, h96, X96, e96, W96, st96⟩ := putF X95 hx hZ hown (host := "") (Or.inl (hw _ (List.mem_of_getElem? (i := 22) rfl))) Via.refl em F88_a1_held E88_a1 (Or.inl (hw _ (List.mem_of_getElem? (i := 23) rfl))) (hw _ (List.mem_of_getElem? (i := 1) rfl)) (ty := .int) (by decide) rfl rfl (g := (mkF m 84 #[.val (.ref a1), .val (.int p2)] [(.int (own_min (hd + (1 : Int32)) n)), (.ref a1)])) rfl rfl (hb hby d3_84)
        have F96_a1_outcomes : Fld Z h96 a1 "com/example/shunt/shunt/core/OutcomeWindow" "outcomes" "[Z" (.ref b) := F88_a1_outcomes.other W96 (Or.inr (slot_ne (Or.inr (hw _ (List.mem_of_getElem? (i := 11) rfl))) (Or.inl (hw _ (List.mem_of_getElem? (i := 23) rfl))) (by decide) (t := (.array .boolean)) (t' := .int) (by decide) (by decide)))
        have F96_a1_held : Fld Z h96 a1 "com/example/shunt/shunt/core/OutcomeWindow" "held" "I" (.int (own_min (hd + (1 : Int32)) n)) := F88_a1_held.same W96
        have F96_a1_next : Fld Z h96 a1 "com/example/shunt/shunt/core/OutcomeWindow" "next" "I" (.int ((nx + (1 : Int32)) % n)) := F88_a1_next.other W96 (Or.inr (slot_ne (Or.inl (hw _ (List.mem_of_getElem? (i := 25) rfl))) (Or.inl (hw _ (List.mem_of_getElem? (i := 23) rfl))) (by decide) (t := .int) (t' := .int) (by decide) (by decide)))
        have F96_a1_failures : Fld Z h96 a1 "com/example/shunt/shunt/core/OutcomeWindow" "failures" "I" (.int (fl + (1 : Int32))) := F88_a1_failures.other W96 (Or.inr (slot_ne (Or.inl (hw _ (List.mem_of_getElem? (i := 31) rfl))) (Or.inl (hw _ (List.mem_of_getElem? (i := 23) rfl))) (by decide) (t := .int) (t' := .int) (by decide) (by decide)))
        have E96_a1 : Exa Z h96 a1 "com/example/shunt/shunt/core/OutcomeWindow" := E88_a1.wr W96
        have V96_b : Arv Z h96 b kb .boolean n (vs.set nx.toNatClampNeg (.int (nar .boolean p2))) (.int (0 : Int32)) := V88_b.other W96 nb
        have N96 := Fr.snoc X96 N95 ga
        refine own_go (S' := T96.setTop (mkF m 87 #[.val (.ref a1), .val (.int p2)] [])) st96 ?_
        obtain ⟨fs, hr, hrun, hended, hW, hsame⟩ := X96.leave (v := none) (fun _ => rfl)
        refine ⟨_, _, X96.returnOut hx Bd.returns (hb hby d3_87) hr, hrun, hended, _, _, rfl, ?_, ⟨_, rfl⟩, hW, hsame.mono (by decide) (by decide)⟩
        show Q6 Z a1 b kb n (own_min (hd + (1 : Int32)) n) h0 n0 _ T96.heap _
        rw [e96]
        exact ⟨rfl, N96, ⟨_, _, _, (own_nx0 nx n hn ⟨jn0, jn1⟩), (own_nx1 nx n hn ⟨jn0, jn1⟩), (by rw [List.length_set]; exact jl), E96_a1, F96_a1_outcomes, F96_a1_held, F96_a1_next, F96_a1_failures, V96_b⟩⟩
    · have go97 : ∀ t, Steps p.tables e below (T50.setTop (mkF m 21 #[.val (.ref a1), .val (.int p2)] [(.ref a1), (.ref a1)])) t → Steps p.tables e below (T50.setTop (mkF m 16 #[.val (.ref a1), .val (.int p2)] [(.int w0)])) t := by
        intro t kt
        show Steps p.tables e below (T50.setTop (mkF m 16 #[.val (.ref a1), .val (.int p2)] [(.int w0)])) _
        refine XS.ifNo X50.here hx rfl (hb hby d3_16) rfl ((if0 _ _).trans (feq hc16).1) ?_
        show Steps p.tables e below (T50.setTop (mkF m 19 #[.val (.ref a1), .val (.int p2)] [])) _
        refine XS.aloadN X50.here hx rfl (hb hby d3_19) rfl rfl ?_
        show Steps p.tables e below (T50.setTop (mkF m 20 #[.val (.ref a1), .val (.int p2)] [(.ref a1)])) _
        refine XS.dup X50.here hx rfl (hb hby d3_20) rfl rfl ?_
        exact kt
      refine own_go go97 ?_
      obtain ⟨T98, X98, e98, st98⟩ := getF X50 hx hZ hown (host := "") (Or.inl (hw _ (List.mem_of_getElem? (i := 30) rfl))) Via.refl e50 F_failures (g := (mkF m 21 #[.val (.ref a1), .val (.int p2)] [(.ref a1), (.ref a1)])) rfl rfl (hb hby d3_21)
      refine own_go (S' := T98.setTop (mkF m 24 #[.val (.ref a1), .val (.int p2)] [(.int fl), (.ref a1)])) st98 ?_
      have go99 : ∀ t, Steps p.tables e below (T98.setTop (mkF m 26 #[.val (.ref a1), .val (.int p2)] [(.int (fl - (1 : Int32))), (.ref a1)])) t → Steps p.tables e below (T98.setTop (mkF m 24 #[.val (.ref a1), .val (.int p2)] [(.int fl), (.ref a1)])) t := by
        intro t kt
        show Steps p.tables e below (T98.setTop (mkF m 24 #[.val (.ref a1), .val (.int p2)] [(.int fl), (.ref a1)])) _
        refine XS.iconst X98.here hx rfl (hb hby d3_24) ?_
        show Steps p.tables e below (T98.setTop (mkF m 25 #[.val (.ref a1), .val (.int p2)] [(.int (1 : Int32)), (.int fl), (.ref a1)])) _
        refine XS.isub X98.here hx rfl (hb hby d3_25) rfl ?_
        exact kt
      refine own_go go99 ?_
      obtain ⟨T100, h100, X100, e100, W100, st100⟩ := putF X98 hx hZ hown (host := "") (Or.inl (hw _ (List.mem_of_getElem? (i := 30) rfl))) Via.refl e98 F_failures E (Or.inl (hw _ (List.mem_of_getElem? (i := 31) rfl))) (hw _ (List.mem_of_getElem? (i := 1) rfl)) (ty := .int) (by decide) rfl rfl (g := (mkF m 26 #[.val (.ref a1), .val (.int p2)] [(.int (fl - (1 : Int32))), (.ref a1)])) rfl rfl (hb hby d3_26)
      have F100_a1_outcomes : Fld Z h100 a1 "com/example/shunt/shunt/core/OutcomeWindow" "outcomes" "[Z" (.ref b) := F_outcomes.other W100 (Or.inr (slot_ne (Or.inr (hw _ (List.mem_of_getElem? (i := 11) rfl))) (Or.inl (hw _ (List.mem_of_getElem? (i := 31) rfl))) (by decide) (t := (.array .boolean)) (t' := .int) (by decide) (by decide)))
      have F100_a1_held : Fld Z h100 a1 "com/example/shunt/shunt/core/OutcomeWindow" "held" "I" (.int hd) := F_held.other W100 (Or.inr (slot_ne (Or.inl (hw _ (List.mem_of_getElem? (i := 23) rfl))) (Or.inl (hw _ (List.mem_of_getElem? (i := 31) rfl))) (by decide) (t := .int) (t' := .int) (by decide) (by decide)))
      have F100_a1_next : Fld Z h100 a1 "com/example/shunt/shunt/core/OutcomeWindow" "next" "I" (.int nx) := F_next.other W100 (Or.inr (slot_ne (Or.inl (hw _ (List.mem_of_getElem? (i := 25) rfl))) (Or.inl (hw _ (List.mem_of_getElem? (i := 31) rfl))) (by decide) (t := .int) (t' := .int) (by decide) (by decide)))
      have F100_a1_failures : Fld Z h100 a1 "com/example/shunt/shunt/core/OutcomeWindow" "failures" "I" (.int (fl - (1 : Int32))) := F_failures.same W100
      have E100_a1 : Exa Z h100 a1 "com/example/shunt/shunt/core/OutcomeWindow" := E.wr W100
      have V100_b : Arv Z h100 b kb .boolean n vs (.int (0 : Int32)) := VB.other W100 nb
      have N100 := Fr.snoc X100 N2 ga
      refine own_go (S' := T100.setTop (mkF m 29 #[.val (.ref a1), .val (.int p2)] [])) st100 ?_
      have go101 : ∀ t, Steps p.tables e below (T100.setTop (mkF m 30 #[.val (.ref a1), .val (.int p2)] [(.ref a1)])) t → Steps p.tables e below (T100.setTop (mkF m 29 #[.val (.ref a1), .val (.int p2)] [])) t := by
        intro t kt
        show Steps p.tables e below (T100.setTop (mkF m 29 #[.val (.ref a1), .val (.int p2)] [])) _
        refine XS.aloadN X100.here hx rfl (hb hby d3_29) rfl rfl ?_
        exact kt
      refine own_go go101 ?_
      obtain ⟨T102, X102, e102, st102⟩ := getF X100 hx hZ hown (host := "") (Or.inl (hw _ (List.mem_of_getElem? (i := 10) rfl))) Via.refl e100 F100_a1_outcomes (g := (mkF m 30 #[.val (.ref a1), .val (.int p2)] [(.ref a1)])) rfl rfl (hb hby d3_30)
      refine own_go (S' := T102.setTop (mkF m 33 #[.val (.ref a1), .val (.int p2)] [(.ref b)])) st102 ?_
      have go103 : ∀ t, Steps p.tables e below (T102.setTop (mkF m 34 #[.val (.ref a1), .val (.int p2)] [(.ref a1), (.ref b)])) t → Steps p.tables e below (T102.setTop (mkF m 33 #[.val (.ref a1), .val (.int p2)] [(.ref b)])) t := by
        intro t kt
        show Steps p.tables e below (T102.setTop (mkF m 33 #[.val (.ref a1), .val (.int p2)] [(.ref b)])) _
        refine XS.aloadN X102.here hx rfl (hb hby d3_33) rfl rfl ?_
        exact kt
      refine own_go go103 ?_
      obtain ⟨T104, X104, e104, st104⟩ := getF X102 hx hZ hown (host := "") (Or.inl (hw _ (List.mem_of_getElem? (i := 24) rfl))) Via.refl e102 F100_a1_next (g := (mkF m 34 #[.val (.ref a1), .val (.int p2)] [(.ref a1), (.ref b)])) rfl rfl (hb hby d3_34)
      refine own_go (S' := T104.setTop (mkF m 37 #[.val (.ref a1), .val (.int p2)] [(.int nx), (.ref b)])) st104 ?_
      have go105 : ∀ t, Steps p.tables e below (T104.setTop (mkF m 38 #[.val (.ref a1), .val (.int p2)] [(.int p2), (.int nx), (.ref b)])) t → Steps p.tables e below (T104.setTop (mkF m 37 #[.val (.ref a1), .val (.int p2)] [(.int nx), (.ref b)])) t := by
        intro t kt
        show Steps p.tables e below (T104.setTop (mkF m 37 #[.val (.ref a1), .val (.int p2)] [(.int nx), (.ref b)])) _
        refine XS.iloadN X104.here hx rfl (hb hby d3_37) rfl ?_
        exact kt
      refine own_go go105 ?_
      have Vo106 := V100_b
      obtain ⟨cl106, Ar106, qk106, Sz106, Nz106, Hh106, Gf106⟩ := Vo106
      have hin106 : ¬ (nx < 0 ∨ cl106.slots.size ≤ (nx).toNatClampNeg) := inb_of Sz106 ⟨jn0, jn1⟩
      obtain ⟨T107, h107, X107, e107, W107, st107⟩ := stZ X104 hx hZ e104 Ar106 (j := nx) hin106 (g := (mkF m 38 #[.val (.ref a1), .val (.int p2)] [(.int p2), (.int nx), (.ref b)])) rfl rfl (hb hby d3_38)
      have V107_b : Arv Z h107 b kb .boolean n (vs.set nx.toNatClampNeg (.int (nar .boolean p2))) (.int (0 : Int32)) := Arv.set Ar106 qk106 Sz106 Nz106 Hh106 Gf106 (fits_nar_bool _) W107 nx.toNatClampNeg rfl (own_len nx n vs hn ⟨jn0, jn1⟩ jl)
      have F107_a1_outcomes : Fld Z h107 a1 "com/example/shunt/shunt/core/OutcomeWindow" "outcomes" "[Z" (.ref b) := F100_a1_outcomes.other W107 (Or.inl (Ne.symm nb))
      have F107_a1_held : Fld Z h107 a1 "com/example/shunt/shunt/core/OutcomeWindow" "held" "I" (.int hd) := F100_a1_held.other W107 (Or.inl (Ne.symm nb))
      have F107_a1_next : Fld Z h107 a1 "com/example/shunt/shunt/core/OutcomeWindow" "next" "I" (.int nx) := F100_a1_next.other W107 (Or.inl (Ne.symm nb))
      have F107_a1_failures : Fld Z h107 a1 "com/example/shunt/shunt/core/OutcomeWindow" "failures" "I" (.int (fl - (1 : Int32))) := F100_a1_failures.other W107 (Or.inl (Ne.symm nb))
      have E107_a1 : Exa Z h107 a1 "com/example/shunt/shunt/core/OutcomeWindow" := E100_a1.wr W107
      have N107 := Fr.snoc X107 N100 gb
      refine own_go (S' := T107.setTop (mkF m 39 #[.val (.ref a1), .val (.int p2)] [])) st107 ?_
      have go108 : ∀ t, Steps p.tables e below (T107.setTop (mkF m 40 #[.val (.ref a1), .val (.int p2)] [(.int p2)])) t → Steps p.tables e below (T107.setTop (mkF m 39 #[.val (.ref a1), .val (.int p2)] [])) t := by
        intro t kt
        show Steps p.tables e below (T107.setTop (mkF m 39 #[.val (.ref a1), .val (.int p2)] [])) _
        refine XS.iloadN X107.here hx rfl (hb hby d3_39) rfl ?_
        exact kt
      refine own_go go108 ?_
      rcases Classical.em (p2 = (0 : Int32)) with hc40 | hc40
      · have go109 : ∀ t, Steps p.tables e below (T107.setTop (mkF m 55 #[.val (.ref a1), .val (.int p2)] [(.ref a1), (.ref a1)])) t → Steps p.tables e below (T107.setTop (mkF m 40 #[.val (.ref a1), .val (.int p2)] [(.int p2)])) t := by
          intro t kt
          show Steps p.tables e below (T107.setTop (mkF m 40 #[.val (.ref a1), .val (.int p2)] [(.int p2)])) _
          refine XS.ifYes X107.here hx rfl (pc0 := 40) (pc' := 53) rfl (hb hby d3_40) rfl ((if0 _ _).trans (teq hc40).1) (by decide) (by decide) ?_
          show Steps p.tables e below (T107.setTop (mkF m 53 #[.val (.ref a1), .val (.int p2)] [])) _
          refine XS.aloadN X107.here hx rfl (hb hby d3_53) rfl rfl ?_
          show Steps p.tables e below (T107.setTop (mkF m 54 #[.val (.ref a1), .val (.int p2)] [(.ref a1)])) _
          refine XS.aloadN X107.here hx rfl (hb hby d3_54) rfl rfl ?_
          exact kt
        refine own_go go109 ?_
        obtain ⟨T110, X110, e110, st110⟩ := getF X107 hx hZ hown (host := "") (Or.inl (hw _ (List.mem_of_getElem? (i := 24) rfl))) Via.refl e107 F107_a1_next (g := (mkF m 55 #[.val (.ref a1), .val (.int p2)] [(.ref a1), (.ref a1)])) rfl rfl (hb hby d3_55)
        refine own_go (S' := T110.setTop (mkF m 58 #[.val (.ref a1), .val (.int p2)] [(.int nx), (.ref a1)])) st110 ?_
        have go111 : ∀ t, Steps p.tables e below (T110.setTop (mkF m 61 #[.val (.ref a1), .val (.int p2)] [(.ref a1), (.int (nx + (1 : Int32))), (.ref a1)])) t → Steps p.tables e below (T110.setTop (mkF m 58 #[.val (.ref a1), .val (.int p2)] [(.int nx), (.ref a1)])) t := by
          intro t kt
          show Steps p.tables e below (T110.setTop (mkF m 58 #[.val (.ref a1), .val (.int p2)] [(.int nx), (.ref a1)])) _
          refine XS.iconst X110.here hx rfl (hb hby d3_58) ?_
          show Steps p.tables e below (T110.setTop (mkF m 59 #[.val (.ref a1), .val (.int p2)] [(.int (1 : Int32)), (.int nx), (.ref a1)])) _
          refine XS.iadd X110.here hx rfl (hb hby d3_59) rfl ?_
          show Steps p.tables e below (T110.setTop (mkF m 60 #[.val (.ref a1), .val (.int p2)] [(.int (nx + (1 : Int32))), (.ref a1)])) _
          refine XS.aloadN X110.here hx rfl (hb hby d3_60) rfl rfl ?_
          exact kt
        refine own_go go111 ?_
        obtain ⟨T112, X112, e112, st112⟩ := getF X110 hx hZ hown (host := "") (Or.inl (hw _ (List.mem_of_getElem? (i := 10) rfl))) Via.refl e110 F107_a1_outcomes (g := (mkF m 61 #[.val (.ref a1), .val (.int p2)] [(.ref a1), (.int (nx + (1 : Int32))), (.ref a1)])) rfl rfl (hb hby d3_61)
        refine own_go (S' := T112.setTop (mkF m 64 #[.val (.ref a1), .val (.int p2)] [(.ref b), (.int (nx + (1 : Int32))), (.ref a1)])) st112 ?_
        have Vo113 := V107_b
        obtain ⟨cl113, Ar113, qk113, Sz113, Nz113, Hh113, Gf113⟩ := Vo113
        have go114 : ∀ t, Steps p.tables e below (T112.setTop (mkF m 65 #[.val (.ref a1), .val (.int p2)] [(.int n), (.int (nx + (1 : Int32))), (.ref a1)])) t → Steps p.tables e below (T112.setTop (mkF m 64 #[.val (.ref a1), .val (.int p2)] [(.ref b), (.int (nx + (1 : Int32))), (.ref a1)])) t := by
          intro t kt
          refine X112.arraylength hx (by rw [e112]; exact Ar113.1) (State.isArrayOf_alike hZ.alike Ar113.2.1) (g := (mkF m 64 #[.val (.ref a1), .val (.int p2)] [(.ref b), (.int (nx + (1 : Int32))), (.ref a1)])) rfl rfl (hb hby d3_64) _ ?_
          rw [len_of Sz113 Nz113]
          exact kt
        refine own_go go114 ?_
        have go115 : ∀ t, Steps p.tables e below (T112.setTop (mkF m 66 #[.val (.ref a1), .val (.int p2)] [(.int ((nx + (1 : Int32)) % n)), (.ref a1)])) t → Steps p.tables e below (T112.setTop (mkF m 65 #[.val (.ref a1), .val (.int p2)] [(.int n), (.int (nx + (1 : Int32))), (.ref a1)])) t := by
          intro t kt
          show Steps p.tables e below (T112.setTop (mkF m 65 #[.val (.ref a1), .val (.int p2)] [(.int n), (.int (nx + (1 : Int32))), (.ref a1)])) _
          refine iremM X112 hx rfl (hb hby d3_65) rfl (own_n0 n hn) ?_
          exact kt
        refine own_go go115 ?_
        obtain ⟨T116, h116, X116, e116, W116, st116⟩ := putF X112 hx hZ hown (host := "") (Or.inl (hw _ (List.mem_of_getElem? (i := 24) rfl))) Via.refl e112 F107_a1_next E107_a1 (Or.inl (hw _ (List.mem_of_getElem? (i := 25) rfl))) (hw _ (List.mem_of_getElem? (i := 1) rfl)) (ty := .int) (by decide) rfl rfl (g := (mkF m 66 #[.val (.ref a1), .val (.int p2)] [(.int ((nx + (1 : Int32)) % n)), (.ref a1)])) rfl rfl (hb hby d3_66)
        have F116_a1_outcomes : Fld Z h116 a1 "com/example/shunt/shunt/core/OutcomeWindow" "outcomes" "[Z" (.ref b) := F107_a1_outcomes.other W116 (Or.inr (slot_ne (Or.inr (hw _ (List.mem_of_getElem? (i := 11) rfl))) (Or.inl (hw _ (List.mem_of_getElem? (i := 25) rfl))) (by decide) (t := (.array .boolean)) (t' := .int) (by decide) (by decide)))
        have F116_a1_held : Fld Z h116 a1 "com/example/shunt/shunt/core/OutcomeWindow" "held" "I" (.int hd) := F107_a1_held.other W116 (Or.inr (slot_ne (Or.inl (hw _ (List.mem_of_getElem? (i := 23) rfl))) (Or.inl (hw _ (List.mem_of_getElem? (i := 25) rfl))) (by decide) (t := .int) (t' := .int) (by decide) (by decide)))
        have F116_a1_next : Fld Z h116 a1 "com/example/shunt/shunt/core/OutcomeWindow" "next" "I" (.int ((nx + (1 : Int32)) % n)) := F107_a1_next.same W116
        have F116_a1_failures : Fld Z h116 a1 "com/example/shunt/shunt/core/OutcomeWindow" "failures" "I" (.int (fl - (1 : Int32))) := F107_a1_failures.other W116 (Or.inr (slot_ne (Or.inl (hw _ (List.mem_of_getElem? (i := 31) rfl))) (Or.inl (hw _ (List.mem_of_getElem? (i := 25) rfl))) (by decide) (t := .int) (t' := .int) (by decide) (by decide)))
        have E116_a1 : Exa Z h116 a1 "com/example/shunt/shunt/core/OutcomeWindow" := E107_a1.wr W116
        have V116_b : Arv Z h116 b kb .boolean n (vs.set nx.toNatClampNeg (.int (nar .boolean p2))) (.int (0 : Int32)) := V107_b.other W116 nb
        have N116 := Fr.snoc X116 N107 ga
        refine own_go (S' := T116.setTop (mkF m 69 #[.val (.ref a1), .val (.int p2)] [])) st116 ?_
        have go117 : ∀ t, Steps p.tables e below (T116.setTop (mkF m 71 #[.val (.ref a1), .val (.int p2)] [(.ref a1), (.ref a1)])) t → Steps p.tables e below (T116.setTop (mkF m 69 #[.val (.ref a1), .val (.int p2)] [])) t := by
          intro t kt
          show Steps p.tables e below (T116.setTop (mkF m 69 #[.val (.ref a1), .val (.int p2)] [])) _
          refine XS.aloadN X116.here hx rfl (hb hby d3_69) rfl rfl ?_
          show Steps p.tables e below (T116.setTop (mkF m 70 #[.val (.ref a1), .val (.int p2)] [(.ref a1)])) _
          refine XS.aloadN X116.here hx rfl (hb hby d3_70) rfl rfl ?_
          exact kt
        refine own_go go117 ?_
        obtain ⟨T118, X118, e118, st118⟩ := getF X116 hx hZ hown (host := "") (Or.inl (hw _ (List.mem_of_getElem? (i := 22) rfl))) Via.refl e116 F116_a1_held (g := (mkF m 71 #[.val (.ref a1), .val (.int p2)] [(.ref a1), (.ref a1)])) rfl rfl (hb hby d3_71)
        refine own_go (S' := T118.setTop (mkF m 74 #[.val (.ref a1), .val (.int p2)] [(.int hd), (.ref a1)])) st118 ?_
        have go119 : ∀ t, Steps p.tables e below (T118.setTop (mkF m 77 #[.val (.ref a1), .val (.int p2)] [(.ref a1), (.int (hd + (1 : Int32))), (.ref a1)])) t → Steps p.tables e below (T118.setTop (mkF m 74 #[.val (.ref a1), .val (.int p2)] [(.int hd), (.ref a1)])) t := by
          intro t kt
          show Steps p.tables e below (T118.setTop (mkF m 74 #[.val (.ref a1), .val (.int p2)] [(.int hd), (.ref a1)])) _
          refine XS.iconst X118.here hx rfl (hb hby d3_74) ?_
          show Steps p.tables e below (T118.setTop (mkF m 75 #[.val (.ref a1), .val (.int p2)] [(.int (1 : Int32)), (.int hd), (.ref a1)])) _
          refine XS.iadd X118.here hx rfl (hb hby d3_75) rfl ?_
          show Steps p.tables e below (T118.setTop (mkF m 76 #[.val (.ref a1), .val (.int p2)] [(.int (hd + (1 : Int32))), (.ref a1)])) _
          refine XS.aloadN X118.here hx rfl (hb hby d3_76) rfl rfl ?_
          exact kt
        refine own_go go119 ?_
        obtain ⟨T120, X120, e120, st120⟩ := getF X118 hx hZ hown (host := "") (Or.inl (hw _ (List.mem_of_getElem? (i := 10) rfl))) Via.refl e118 F116_a1_outcomes (g := (mkF m 77 #[.val (.ref a1), .val (.int p2)] [(.ref a1), (.int (hd + (1 : Int32))), (.ref a1)])) rfl rfl (hb hby d3_77)
        refine own_go (S' := T120.setTop (mkF m 80 #[.val (.ref a1), .val (.int p2)] [(.ref b), (.int (hd + (1 : Int32))), (.ref a1)])) st120 ?_
        have Vo121 := V116_b
        obtain ⟨cl121, Ar121, qk121, Sz121, Nz121, Hh121, Gf121⟩ := Vo121
        have go122 : ∀ t, Steps p.tables e below (T120.setTop (mkF m 81 #[.val (.ref a1), .val (.int p2)] [(.int n), (.int (hd + (1 : Int32))), (.ref a1)])) t → Steps p.tables e below (T120.setTop (mkF m 80 #[.val (.ref a1), .val (.int p2)] [(.ref b), (.int (hd + (1 : Int32))), (.ref a1)])) t := by
          intro t kt
          refine X120.arraylength hx (by rw [e120]; exact Ar121.1) (State.isArrayOf_alike hZ.alike Ar121.2.1) (g := (mkF m 80 #[.val (.ref a1), .val (.int p2)] [(.ref b), (.int (hd + (1 : Int32))), (.ref a1)])) rfl rfl (hb hby d3_80) _ ?_
          rw [len_of Sz121 Nz121]
          exact kt
        refine own_go go122 ?_
        obtain ⟨_, _, ⟨T123, L123, k123, n123⟩, -, X123, ⟨Lc123, hQ123, l123, y123, z123⟩, st123⟩ := Jvm.LawKit.callS X120 hx (y := (⟨"java/lang/Math", "min", "(II)I"⟩ : MethodName)) hown (mvT hZ (hw _ (List.mem_of_getElem? (i := 26) rfl))) (mvT hZ (hw _ (List.mem_of_getElem? (i := 27) rfl))) (mvT hZ (hw _ (List.mem_of_getElem? (i := 28) rfl))) (mvT hZ (hw _ (List.mem_of_getElem? (i := 29) rfl))) (by decide) (backOf (W := 1) (rm5 l Z a0 hw [] (hd + (1 : Int32)) n h116 n0 (own_szH ga E116_a1)) hZ (hw _ (List.mem_of_getElem? (i := 29) rfl)) (hw _ (List.mem_of_getElem? (i := 28) rfl)) (by decide) (by decide)) (g := (mkF m 81 #[.val (.ref a1), .val (.int p2)] [(.int n), (.int (hd + (1 : Int32))), (.ref a1)])) rfl (by rw [hml]; rfl) (argsL := [(.int (hd + (1 : Int32))), (.int n)]) (rest := [(.ref a1)]) (lenOf pd_1 rfl) rfl (by show 2 * 0 + _ ≤ _; exact Nat.le_of_eq rfl) (hb hby d3_81) (fun _ _ => ⟨rfl, e120, (by decide : 0 + 0 ≤ _), (by decide : 0 + 0 ≤ _)⟩)
        dsimp only [Pt.U, Pt.locs, Pt.cells, Pt.slots] at X123 l123 y123 z123 st123 hQ123
        subst l123 y123 z123
        obtain ⟨rfl, N123q, em⟩ := hQ123
        have N123 := Fr.app N116 N123q
        refine own_go (S' := T123.setTop (mkF m 84 #[.val (.ref a1), .val (.int p2)] [(.int (own_min (hd + (1 : Int32)) n)), (.ref a1)])) st123 ?_
        obtain ⟨T124, h124, X124, e124, W124, st124⟩ := putF X123 hx hZ hown (host := "") (Or.inl (hw _ (List.mem_of_getElem? (i := 22) rfl))) Via.refl em F116_a1_held E116_a1 (Or.inl (hw _ (List.mem_of_getElem? (i := 23) rfl))) (hw _ (List.mem_of_getElem? (i := 1) rfl)) (ty := .int) (by decide) rfl rfl (g := (mkF m 84 #[.val (.ref a1), .val (.int p2)] [(.int (own_min (hd + (1 : Int32)) n)), (.ref a1)])) rfl rfl (hb hby d3_84)
        have F124_a1_outcomes : Fld Z h124 a1 "com/example/shunt/shunt/core/OutcomeWindow" "outcomes" "[Z" (.ref b) := F116_a1_outcomes.other W124 (Or.inr (slot_ne (Or.inr (hw _ (List.mem_of_getElem? (i := 11) rfl))) (Or.inl (hw _ (List.mem_of_getElem? (i := 23) rfl))) (by decide) (t := (.array .boolean)) (t' := .int) (by decide) (by decide)))
        have F124_a1_held : Fld Z h124 a1 "com/example/shunt/shunt/core/OutcomeWindow" "held" "I" (.int (own_min (hd + (1 : Int32)) n)) := F116_a1_held.same W124
        have F124_a1_next : Fld Z h124 a1 "com/example/shunt/shunt/core/OutcomeWindow" "next" "I" (.int ((nx + (1 : Int32)) % n)) := F116_a1_next.other W124 (Or.inr (slot_ne (Or.inl (hw _ (List.mem_of_getElem? (i := 25) rfl))) (Or.inl (hw _ (List.mem_of_getElem? (i := 23) rfl))) (by decide) (t := .int) (t' := .int) (by decide) (by decide)))
        have F124_a1_failures : Fld Z h124 a1 "com/example/shunt/shunt/core/OutcomeWindow" "failures" "I" (.int (fl - (1 : Int32))) := F116_a1_failures.other W124 (Or.inr (slot_ne (Or.inl (hw _ (List.mem_of_getElem? (i := 31) rfl))) (Or.inl (hw _ (List.mem_of_getElem? (i := 23) rfl))) (by decide) (t := .int) (t' := .int) (by decide) (by decide)))
        have E124_a1 : Exa Z h124 a1 "com/example/shunt/shunt/core/OutcomeWindow" := E116_a1.wr W124
        have V124_b : Arv Z h124 b kb .boolean n (vs.set nx.toNatClampNeg (.int (nar .boolean p2))) (.int (0 : Int32)) := V116_b.other W124 nb
        have N124 := Fr.snoc X124 N123 ga
        refine own_go (S' := T124.setTop (mkF m 87 #[.val (.ref a1), .val (.int p2)] [])) st124 ?_
        obtain ⟨fs, hr, hrun, hended, hW, hsame⟩ := X124.leave (v := none) (fun _ => rfl)
        refine ⟨_, _, X124.returnOut hx Bd.returns (hb hby d3_87) hr, hrun, hended, _, _, rfl, ?_, ⟨_, rfl⟩, hW, hsame.mono (by decide) (by decide)⟩
        show Q6 Z a1 b kb n (own_min (hd + (1 : Int32)) n) h0 n0 _ T124.heap _
        rw [e124]
        exact ⟨rfl, N124, ⟨_, _, _, (own_nx0 nx n hn ⟨jn0, jn1⟩), (own_nx1 nx n hn ⟨jn0, jn1⟩), (by rw [List.length_set]; exact jl), E124_a1, F124_a1_outcomes, F124_a1_held, F124_a1_next, F124_a1_failures, V124_b⟩⟩
      · have go125 : ∀ t, Steps p.tables e below (T107.setTop (mkF m 45 #[.val (.ref a1), .val (.int p2)] [(.ref a1), (.ref a1)])) t → Steps p.tables e below (T107.setTop (mkF m 40 #[.val (.ref a1), .val (.int p2)] [(.int p2)])) t := by
          intro t kt
          show Steps p.tables e below (T107.setTop (mkF m 40 #[.val (.ref a1), .val (.int p2)] [(.int p2)])) _
          refine XS.ifNo X107.here hx rfl (hb hby d3_40) rfl ((if0 _ _).trans (feq hc40).1) ?_
          show Steps p.tables e below (T107.setTop (mkF m 43 #[.val (.ref a1), .val (.int p2)] [])) _
          refine XS.aloadN X107.here hx rfl (hb hby d3_43) rfl rfl ?_
          show Steps p.tables e below (T107.setTop (mkF m 44 #[.val (.ref a1), .val (.int p2)] [(.ref a1)])) _
          refine XS.dup X107.here hx rfl (hb hby d3_44) rfl rfl ?_
          exact kt
        refine own_go go125 ?_
        obtain ⟨T126, X126, e126, st126⟩ := getF X107 hx hZ hown (host := "") (Or.inl (hw _ (List.mem_of_getElem? (i := 30) rfl))) Via.refl e107 F107_a1_failures (g := (mkF m 45 #[.val (.ref a1), .val (.int p2)] [(.ref a1), (.ref a1)])) rfl rfl (hb hby d3_45)
        refine own_go (S' := T126.setTop (mkF m 48 #[.val (.ref a1), .val (.int p2)] [(.int (fl - (1 : Int32))), (.ref a1)])) st126 ?_
        have go127 : ∀ t, Steps p.tables e below (T126.setTop (mkF m 50 #[.val (.ref a1), .val (.int p2)] [(.int ((fl - (1 : Int32)) + (1 : Int32))), (.ref a1)])) t → Steps p.tables e below (T126.setTop (mkF m 48 #[.val (.ref a1), .val (.int p2)] [(.int (fl - (1 : Int32))), (.ref a1)])) t := by
          intro t kt
          show Steps p.tables e below (T126.setTop (mkF m 48 #[.val (.ref a1), .val (.int p2)] [(.int (fl - (1 : Int32))), (.ref a1)])) _
          refine XS.iconst X126.here hx rfl (hb hby d3_48) ?_
          show Steps p.tables e below (T126.setTop (mkF m 49 #[.val (.ref a1), .val (.int p2)] [(.int (1 : Int32)), (.int (fl - (1 : Int32))), (.ref a1)])) _
          refine XS.iadd X126.here hx rfl (hb hby d3_49) rfl ?_
          exact kt
        refine own_go go127 ?_
        obtain ⟨T128, h128, X128, e128, W128, st128⟩ := putF X126 hx hZ hown (host := "") (Or.inl (hw _ (List.mem_of_getElem? (i := 30) rfl))) Via.refl e126 F107_a1_failures E107_a1 (Or.inl (hw _ (List.mem_of_getElem? (i := 31) rfl))) (hw _ (List.mem_of_getElem? (i := 1) rfl)) (ty := .int) (by decide) rfl rfl (g := (mkF m 50 #[.val (.ref a1), .val (.int p2)] [(.int ((fl - (1 : Int32)) + (1 : Int32))), (.ref a1)])) rfl rfl (hb hby d3_50)
        have F128_a1_outcomes : Fld Z h128 a1 "com/example/shunt/shunt/core/OutcomeWindow" "outcomes" "[Z" (.ref b) := F107_a1_outcomes.other W128 (Or.inr (slot_ne (Or.inr (hw _ (List.mem_of_getElem? (i := 11) rfl))) (Or.inl (hw _ (List.mem_of_getElem? (i := 31) rfl))) (by decide) (t := (.array .boolean)) (t' := .int) (by decide) (by decide)))
        have F128_a1_held : Fld Z h128 a1 "com/example/shunt/shunt/core/OutcomeWindow" "held" "I" (.int hd) := F107_a1_held.other W128 (Or.inr (slot_ne (Or.inl (hw _ (List.mem_of_getElem? (i := 23) rfl))) (Or.inl (hw _ (List.mem_of_getElem? (i := 31) rfl))) (by decide) (t := .int) (t' := .int) (by decide) (by decide)))
        have F128_a1_next : Fld Z h128 a1 "com/example/shunt/shunt/core/OutcomeWindow" "next" "I" (.int nx) := F107_a1_next.other W128 (Or.inr (slot_ne (Or.inl (hw _ (List.mem_of_getElem? (i := 25) rfl))) (Or.inl (hw _ (List.mem_of_getElem? (i := 31) rfl))) (by decide) (t := .int) (t' := .int) (by decide) (by decide)))
        have F128_a1_failures : Fld Z h128 a1 "com/example/shunt/shunt/core/OutcomeWindow" "failures" "I" (.int ((fl - (1 : Int32)) + (1 : Int32))) := F107_a1_failures.same W128
        have E128_a1 : Exa Z h128 a1 "com/example/shunt/shunt/core/OutcomeWindow" := E107_a1.wr W128
        have V128_b : Arv Z h128 b kb .boolean n (vs.set nx.toNatClampNeg (.int (nar .boolean p2))) (.int (0 : Int32)) := V107_b.other W128 nb
        have N128 := Fr.snoc X128 N107 ga
        refine own_go (S' := T128.setTop (mkF m 53 #[.val (.ref a1), .val (.int p2)] [])) st128 ?_
        have go129 : ∀ t, Steps p.tables e below (T128.setTop (mkF m 55 #[.val (.ref a1), .val (.int p2)] [(.ref a1), (.ref a1)])) t → Steps p.tables e below (T128.setTop (mkF m 53 #[.val (.ref a1), .val (.int p2)] [])) t := by
          intro t kt
          show Steps p.tables e below (T128.setTop (mkF m 53 #[.val (.ref a1), .val (.int p2)] [])) _
          refine XS.aloadN X128.here hx rfl (hb hby d3_53) rfl rfl ?_
          show Steps p.tables e below (T128.setTop (mkF m 54 #[.val (.ref a1), .val (.int p2)] [(.ref a1)])) _
          refine XS.aloadN X128.here hx rfl (hb hby d3_54) rfl rfl ?_
          exact kt
        refine own_go go129 ?_
        obtain ⟨T130, X130, e130, st130⟩ := getF X128 hx hZ hown (host := "") (Or.inl (hw _ (List.mem_of_getElem? (i := 24) rfl))) Via.refl e128 F128_a1_next (g := (mkF m 55 #[.val (.ref a1), .val (.int p2)] [(.ref a1), (.ref a1)])) rfl rfl (hb hby d3_55)
        refine own_go (S' := T130.setTop (mkF m 58 #[.val (.ref a1), .val (.int p2)] [(.int nx), (.ref a1)])) st130 ?_
        have go131 : ∀ t, Steps p.tables e below (T130.setTop (mkF m 61 #[.val (.ref a1), .val (.int p2)] [(.ref a1), (.int (nx + (1 : Int32))), (.ref a1)])) t → Steps p.tables e below (T130.setTop (mkF m 58 #[.val (.ref a1), .val (.int p2)] [(.int nx), (.ref a1)])) t := by
          intro t kt
          show Steps p.tables e below (T130.setTop (mkF m 58 #[.val (.ref a1), .val (.int p2)] [(.int nx), (.ref a1)])) _
          refine XS.iconst X130.here hx rfl (hb hby d3_58) ?_
          show Steps p.tables e below (T130.setTop (mkF m 59 #[.val (.ref a1), .val (.int p2)] [(.int (1 : Int32)), (.int nx), (.ref a1)])) _
          refine XS.iadd X130.here hx rfl (hb hby d3_59) rfl ?_
          show Steps p.tables e below (T130.setTop (mkF m 60 #[.val (.ref a1), .val (.int p2)] [(.int (nx + (1 : Int32))), (.ref a1)])) _
          refine XS.aloadN X130.here hx rfl (hb hby d3_60) rfl rfl ?_
          exact kt
        refine own_go go131 ?_
        obtain ⟨T132, X132, e132, st132⟩ := getF X130 hx hZ hown (host := "") (Or.inl (hw _ (List.mem_of_getElem? (i := 10) rfl))) Via.refl e130 F128_a1_outcomes (g := (mkF m 61 #[.val (.ref a1), .val (.int p2)] [(.ref a1), (.int (nx + (1 : Int32))), (.ref a1)])) rfl rfl (hb hby d3_61)
        refine own_go (S' := T132.setTop (mkF m 64 #[.val (.ref a1), .val (.int p2)] [(.ref b), (.int (nx + (1 : Int32))), (.ref a1)])) st132 ?_
        have Vo133 := V128_b
        obtain ⟨cl133, Ar133, qk133, Sz133, Nz133, Hh133, Gf133⟩ := Vo133
        have go134 : ∀ t, Steps p.tables e below (T132.setTop (mkF m 65 #[.val (.ref a1), .val (.int p2)] [(.int n), (.int (nx + (1 : Int32))), (.ref a1)])) t → Steps p.tables e below (T132.setTop (mkF m 64 #[.val (.ref a1), .val (.int p2)] [(.ref b), (.int (nx + (1 : Int32))), (.ref a1)])) t := by
          intro t kt
          refine X132.arraylength hx (by rw [e132]; exact Ar133.1) (State.isArrayOf_alike hZ.alike Ar133.2.1) (g := (mkF m 64 #[.val (.ref a1), .val (.int p2)] [(.ref b), (.int (nx + (1 : Int32))), (.ref a1)])) rfl rfl (hb hby d3_64) _ ?_
          rw [len_of Sz133 Nz133]
          exact kt
        refine own_go go134 ?_
        have go135 : ∀ t, Steps p.tables e below (T132.setTop (mkF m 66 #[.val (.ref a1), .val (.int p2)] [(.int ((nx + (1 : Int32)) % n)), (.ref a1)])) t → Steps p.tables e below (T132.setTop (mkF m 65 #[.val (.ref a1), .val (.int p2)] [(.int n), (.int (nx + (1 : Int32))), (.ref a1)])) t := by
          intro t kt
          show Steps p.tables e below (T132.setTop (mkF m 65 #[.val (.ref a1), .val (.int p2)] [(.int n), (.int (nx + (1 : Int32))), (.ref a1)])) _
          refine iremM X132 hx rfl (hb hby d3_65) rfl (own_n0 n hn) ?_
          exact kt
        refine own_go go135 ?_
        obtain ⟨T136, h136, X136, e136, W136, st136⟩ := putF X132 hx hZ hown (host := "") (Or.inl (hw _ (List.mem_of_getElem? (i := 24) rfl))) Via.refl e132 F128_a1_next E128_a1 (Or.inl (hw _ (List.mem_of_getElem? (i := 25) rfl))) (hw _ (List.mem_of_getElem? (i := 1) rfl)) (ty := .int) (by decide) rfl rfl (g := (mkF m 66 #[.val (.ref a1), .val (.int p2)] [(.int ((nx + (1 : Int32)) % n)), (.ref a1)])) rfl rfl (hb hby d3_66)
        have F136_a1_outcomes : Fld Z h136 a1 "com/example/shunt/shunt/core/OutcomeWindow" "outcomes" "[Z" (.ref b) := F128_a1_outcomes.other W136 (Or.inr (slot_ne (Or.inr (hw _ (List.mem_of_getElem? (i := 11) rfl))) (Or.inl (hw _ (List.mem_of_getElem? (i := 25) rfl))) (by decide) (t := (.array .boolean)) (t' := .int) (by decide) (by decide)))
        have F136_a1_held : Fld Z h136 a1 "com/example/shunt/shunt/core/OutcomeWindow" "held" "I" (.int hd) := F128_a1_held.other W136 (Or.inr (slot_ne (Or.inl (hw _ (List.mem_of_getElem? (i := 23) rfl))) (Or.inl (hw _ (List.mem_of_getElem? (i := 25) rfl))) (by decide) (t := .int) (t' := .int) (by decide) (by decide)))
        have F136_a1_next : Fld Z h136 a1 "com/example/shunt/shunt/core/OutcomeWindow" "next" "I" (.int ((nx + (1 : Int32)) % n)) := F128_a1_next.same W136
        have F136_a1_failures : Fld Z h136 a1 "com/example/shunt/shunt/core/OutcomeWindow" "failures" "I" (.int ((fl - (1 : Int32)) + (1 : Int32))) := F128_a1_failures.other W136 (Or.inr (slot_ne (Or.inl (hw _ (List.mem_of_getElem? (i := 31) rfl))) (Or.inl (hw _ (List.mem_of_getElem? (i := 25) rfl))) (by decide) (t := .int) (t' := .int) (by decide) (by decide)))
        have E136_a1 : Exa Z h136 a1 "com/example/shunt/shunt/core/OutcomeWindow" := E128_a1.wr W136
        have V136_b : Arv Z h136 b kb .boolean n (vs.set nx.toNatClampNeg (.int (nar .boolean p2))) (.int (0 : Int32)) := V128_b.other W136 nb
        have N136 := Fr.snoc X136 N128 ga
        refine own_go (S' := T136.setTop (mkF m 69 #[.val (.ref a1), .val (.int p2)] [])) st136 ?_
        have go137 : ∀ t, Steps p.tables e below (T136.setTop (mkF m 71 #[.val (.ref a1), .val (.int p2)] [(.ref a1), (.ref a1)])) t → Steps p.tables e below (T136.setTop (mkF m 69 #[.val (.ref a1), .val (.int p2)] [])) t := by
          intro t kt
          show Steps p.tables e below (T136.setTop (mkF m 69 #[.val (.ref a1), .val (.int p2)] [])) _
          refine XS.aloadN X136.here hx rfl (hb hby d3_69) rfl rfl ?_
          show Steps p.tables e below (T136.setTop (mkF m 70 #[.val (.ref a1), .val (.int p2)] [(.ref a1)])) _
          refine XS.aloadN X136.here hx rfl (hb hby d3_70) rfl rfl ?_
          exact kt
        refine own_go go137 ?_
        obtain ⟨T138, X138, e138, st138⟩ := getF X136 hx hZ hown (host := "") (Or.inl (hw _ (List.mem_of_getElem? (i := 22) rfl))) Via.refl e136 F136_a1_held (g := (mkF m 71 #[.val (.ref a1), .val (.int p2)] [(.ref a1), (.ref a1)])) rfl rfl (hb hby d3_71)
        refine own_go (S' := T138.setTop (mkF m 74 #[.val (.ref a1), .val (.int p2)] [(.int hd), (.ref a1)])) st138 ?_
        have go139 : ∀ t, Steps p.tables e below (T138.setTop (mkF m 77 #[.val (.ref a1), .val (.int p2)] [(.ref a1), (.int (hd + (1 : Int32))), (.ref a1)])) t → Steps p.tables e below (T138.setTop (mkF m 74 #[.val (.ref a1), .val (.int p2)] [(.int hd), (.ref a1)])) t := by
          intro t kt
          show Steps p.tables e below (T138.setTop (mkF m 74 #[.val (.ref a1), .val (.int p2)] [(.int hd), (.ref a1)])) _
          refine XS.iconst X138.here hx rfl (hb hby d3_74) ?_
          show Steps p.tables e below (T138.setTop (mkF m 75 #[.val (.ref a1), .val (.int p2)] [(.int (1 : Int32)), (.int hd), (.ref a1)])) _
          refine XS.iadd X138.here hx rfl (hb hby d3_75) rfl ?_
          show Steps p.tables e below (T138.setTop (mkF m 76 #[.val (.ref a1), .val (.int p2)] [(.int (hd + (1 : Int32))), (.ref a1)])) _
          refine XS.aloadN X138.here hx rfl (hb hby d3_76) rfl rfl ?_
          exact kt
        refine own_go go139 ?_
        obtain ⟨T140, X140, e140, st140⟩ := getF X138 hx hZ hown (host := "") (Or.inl (hw _ (List.mem_of_getElem? (i := 10) rfl))) Via.refl e138 F136_a1_outcomes (g := (mkF m 77 #[.val (.ref a1), .val (.int p2)] [(.ref a1), (.int (hd + (1 : Int32))), (.ref a1)])) rfl rfl (hb hby d3_77)
        refine own_go (S' := T140.setTop (mkF m 80 #[.val (.ref a1), .val (.int p2)] [(.ref b), (.int (hd + (1 : Int32))), (.ref a1)])) st140 ?_
        have Vo141 := V136_b
        obtain ⟨cl141, Ar141, qk141, Sz141, Nz141, Hh141, Gf141⟩ := Vo141
        have go142 : ∀ t, Steps p.tables e below (T140.setTop (mkF m 81 #[.val (.ref a1), .val (.int p2)] [(.int n), (.int (hd + (1 : Int32))), (.ref a1)])) t → Steps p.tables e below (T140.setTop (mkF m 80 #[.val (.ref a1), .val (.int p2)] [(.ref b), (.int (hd + (1 : Int32))), (.ref a1)])) t := by
          intro t kt
          refine X140.arraylength hx (by rw [e140]; exact Ar141.1) (State.isArrayOf_alike hZ.alike Ar141.2.1) (g := (mkF m 80 #[.val (.ref a1), .val (.int p2)] [(.ref b), (.int (hd + (1 : Int32))), (.ref a1)])) rfl rfl (hb hby d3_80) _ ?_
          rw [len_of Sz141 Nz141]
          exact kt
        refine own_go go142 ?_
        obtain ⟨_, _, ⟨T143, L143, k143, n143⟩, -, X143, ⟨Lc143, hQ143, l143, y143, z143⟩, st143⟩ := Jvm.LawKit.callS X140 hx (y := (⟨"java/lang/Math", "min", "(II)I"⟩ : MethodName)) hown (mvT hZ (hw _ (List.mem_of_getElem? (i := 26) rfl))) (mvT hZ (hw _ (List.mem_of_getElem? (i := 27) rfl))) (mvT hZ (hw _ (List.mem_of_getElem? (i := 28) rfl))) (mvT hZ (hw _ (List.mem_of_getElem? (i := 29) rfl))) (by decide) (backOf (W := 1) (rm5 l Z a0 hw [] (hd + (1 : Int32)) n h136 n0 (own_szH ga E136_a1)) hZ (hw _ (List.mem_of_getElem? (i := 29) rfl)) (hw _ (List.mem_of_getElem? (i := 28) rfl)) (by decide) (by decide)) (g := (mkF m 81 #[.val (.ref a1), .val (.int p2)] [(.int n), (.int (hd + (1 : Int32))), (.ref a1)])) rfl (by rw [hml]; rfl) (argsL := [(.int (hd + (1 : Int32))), (.int n)]) (rest := [(.ref a1)]) (lenOf pd_1 rfl) rfl (by show 2 * 0 + _ ≤ _; exact Nat.le_of_eq rfl) (hb hby d3_81) (fun _ _ => ⟨rfl, e140, (by decide : 0 + 0 ≤ _), (by decide : 0 + 0 ≤ _)⟩)
        dsimp only [Pt.U, Pt.locs, Pt.cells, Pt.slots] at X143 l143 y143 z143 st143 hQ143
        subst l143 y143 z143
        obtain ⟨rfl, N143q, em⟩ := hQ143
        have N143 := Fr.app N136 N143q
        refine own_go (S' := T143.setTop (mkF m 84 #[.val (.ref a1), .val (.int p2)] [(.int (own_min (hd + (1 : Int32)) n)), (.ref a1)])) st143 ?_
        obtain ⟨T144, h144, X144, e144, W144, st144⟩ := putF X143 hx hZ hown (host := "") (Or.inl (hw _ (List.mem_of_getElem? (i := 22) rfl))) Via.refl em F136_a1_held E136_a1 (Or.inl (hw _ (List.mem_of_getElem? (i := 23) rfl))) (hw _ (List.mem_of_getElem? (i := 1) rfl)) (ty := .int) (by decide) rfl rfl (g := (mkF m 84 #[.val (.ref a1), .val (.int p2)] [(.int (own_min (hd + (1 : Int32)) n)), (.ref a1)])) rfl rfl (hb hby d3_84)
        have F144_a1_outcomes : Fld Z h144 a1 "com/example/shunt/shunt/core/OutcomeWindow" "outcomes" "[Z" (.ref b) := F136_a1_outcomes.other W144 (Or.inr (slot_ne (Or.inr (hw _ (List.mem_of_getElem? (i := 11) rfl))) (Or.inl (hw _ (List.mem_of_getElem? (i := 23) rfl))) (by decide) (t := (.array .boolean)) (t' := .int) (by decide) (by decide)))
        have F144_a1_held : Fld Z h144 a1 "com/example/shunt/shunt/core/OutcomeWindow" "held" "I" (.int (own_min (hd + (1 : Int32)) n)) := F136_a1_held.same W144
        have F144_a1_next : Fld Z h144 a1 "com/example/shunt/shunt/core/OutcomeWindow" "next" "I" (.int ((nx + (1 : Int32)) % n)) := F136_a1_next.other W144 (Or.inr (slot_ne (Or.inl (hw _ (List.mem_of_getElem? (i := 25) rfl))) (Or.inl (hw _ (List.mem_of_getElem? (i := 23) rfl))) (by decide) (t := .int) (t' := .int) (by decide) (by decide)))
        have F144_a1_failures : Fld Z h144 a1 "com/example/shunt/shunt/core/OutcomeWindow" "failures" "I" (.int ((fl - (1 : Int32)) + (1 : Int32))) := F136_a1_failures.other W144 (Or.inr (slot_ne (Or.inl (hw _ (List.mem_of_getElem? (i := 31) rfl))) (Or.inl (hw _ (List.mem_of_getElem? (i := 23) rfl))) (by decide) (t := .int) (t' := .int) (by decide) (by decide)))
        have E144_a1 : Exa Z h144 a1 "com/example/shunt/shunt/core/OutcomeWindow" := E136_a1.wr W144
        have V144_b : Arv Z h144 b kb .boolean n (vs.set nx.toNatClampNeg (.int (nar .boolean p2))) (.int (0 : Int32)) := V136_b.other W144 nb
        have N144 := Fr.snoc X144 N143 ga
        refine own_go (S' := T144.setTop (mkF m 87 #[.val (.ref a1), .val (.int p2)] [])) st144 ?_
        obtain ⟨fs, hr, hrun, hended, hW, hsame⟩ := X144.leave (v := none) (fun _ => rfl)
        refine ⟨_, _, X144.returnOut hx Bd.returns (hb hby d3_87) hr, hrun, hended, _, _, rfl, ?_, ⟨_, rfl⟩, hW, hsame.mono (by decide) (by decide)⟩
        show Q6 Z a1 b kb n (own_min (hd + (1 : Int32)) n) h0 n0 _ T144.heap _
        rw [e144]
        exact ⟨rfl, N144, ⟨_, _, _, (own_nx0 nx n hn ⟨jn0, jn1⟩), (own_nx1 nx n hn ⟨jn0, jn1⟩), (by rw [List.length_set]; exact jl), E144_a1, F144_a1_outcomes, F144_a1_held, F144_a1_next, F144_a1_failures, V144_b⟩⟩
def own_mn (a b : Int) : Int := if a ≤ b then a else b
def own_ge (k n : Int32) : Int32 := if k < n then 0 else 1
def own_is1 (n : Int32) : Int32 := if n = (1 : Int32) then 1 else 0
theorem own_nr (p : Int32) : 1 ≤ ((1 : Int32) + (p &&& (3 : Int32))).toInt ∧ ((1 : Int32) + (p &&& (3 : Int32))).toInt ≤ 4 := by
  have h1 := c_mask p 3 2 (by decide) (by decide)
  rw [show ((2 ^ 2 : Nat) : Int) = 4 from rfl] at h1
  have h2 := c_iadd 1 (p &&& (3 : Int32))
  have r := rng32 ((1 : Int32) + (p &&& (3 : Int32)))
  rw [show (1 : Int32).toInt = 1 from rfl] at h2
  omega
theorem own_kr (p : Int32) : 0 ≤ ((p &&& (7 : Int32)) % (6 : Int32)).toInt ∧ ((p &&& (7 : Int32)) % (6 : Int32)).toInt ≤ 5 := by
  have h1 := c_and p 7 (by decide)
  have z := (c_iremV (p &&& 7) 6).1 h1.1 (by decide)
  rw [show (6 : Int32).toInt = 6 from rfl] at z
  exact ⟨z.1, by omega⟩
theorem own_minI (hd n : Int32) (h0 : 0 ≤ hd.toInt ∧ hd.toInt ≤ 4) : (own_min (hd + (1 : Int32)) n).toInt = own_mn (hd.toInt + 1) n.toInt := by
  have b := c_iadd hd 1
  have r := rng32 (hd + 1)
  rw [show (1 : Int32).toInt = 1 from rfl] at b
  have e : (hd + 1).toInt = hd.toInt + 1 := by omega
  simp only [own_min, own_mn, Int32.lt_iff_toInt_lt]
  split <;> split <;> omega
theorem own_r0 (k n : Int32) (hk : 0 ≤ k.toInt ∧ k.toInt ≤ 5) (hn : 1 ≤ n.toInt ∧ n.toInt ≤ 4) : (0 : Int32).toInt = own_mn (own_mn k.toInt 0) n.toInt := by
  rw [own_i0]; simp only [own_mn]; split <;> split <;> omega
theorem own_rt0 (k n hd : Int32) (hk : 0 ≤ k.toInt ∧ k.toInt ≤ 5) (hn : 1 ≤ n.toInt ∧ n.toInt ≤ 4) (r : hd.toInt = own_mn (own_mn k.toInt 0) n.toInt) (h : (0 : Int32) < k) : (own_min (hd + (1 : Int32)) n).toInt = own_mn (own_mn k.toInt 1) n.toInt := by
  rw [Int32.lt_iff_toInt_lt, show ((0 : Int32)).toInt = 0 from rfl] at h
  have b : 0 ≤ hd.toInt ∧ hd.toInt ≤ 4 := by rw [r]; simp only [own_mn]; (repeat' split) <;> omega
  rw [own_minI hd n b, r]; simp only [own_mn]; (repeat' split) <;> omega
theorem own_rs0 (k n hd : Int32) (hk : 0 ≤ k.toInt ∧ k.toInt ≤ 5) (hn : 1 ≤ n.toInt ∧ n.toInt ≤ 4) (r : hd.toInt = own_mn (own_mn k.toInt 0) n.toInt) (h : ¬ (0 : Int32) < k) : hd.toInt = own_mn (own_mn k.toInt 1) n.toInt := by
  rw [Int32.lt_iff_toInt_lt, show ((0 : Int32)).toInt = 0 from rfl] at h
  rw [r]; simp only [own_mn]; (repeat' split) <;> omega
theorem own_rt1 (k n hd : Int32) (hk : 0 ≤ k.toInt ∧ k.toInt ≤ 5) (hn : 1 ≤ n.toInt ∧ n.toInt ≤ 4) (r : hd.toInt = own_mn (own_mn k.toInt 1) n.toInt) (h : (1 : Int32) < k) : (own_min (hd + (1 : Int32)) n).toInt = own_mn (own_mn k.toInt 2) n.toInt := by
  rw [Int32.lt_iff_toInt_lt, show ((1 : Int32)).toInt = 1 from rfl] at h
  have b : 0 ≤ hd.toInt ∧ hd.toInt ≤ 4 := by rw [r]; simp only [own_mn]; (repeat' split) <;> omega
  rw [own_minI hd n b, r]; simp only [own_mn]; (repeat' split) <;> omega
theorem own_rs1 (k n hd : Int32) (hk : 0 ≤ k.toInt ∧ k.toInt ≤ 5) (hn : 1 ≤ n.toInt ∧ n.toInt ≤ 4) (r : hd.toInt = own_mn (own_mn k.toInt 1) n.toInt) (h : ¬ (1 : Int32) < k) : hd.toInt = own_mn (own_mn k.toInt 2) n.toInt := by
  rw [Int32.lt_iff_toInt_lt, show ((1 : Int32)).toInt = 1 from rfl] at h
  rw [r]; simp only [own_mn]; (repeat' split) <;> omega
theorem own_rt2 (k n hd : Int32) (hk : 0 ≤ k.toInt ∧ k.toInt ≤ 5) (hn : 1 ≤ n.toInt ∧ n.toInt ≤ 4) (r : hd.toInt = own_mn (own_mn k.toInt 2) n.toInt) (h : (2 : Int32) < k) : (own_min (hd + (1 : Int32)) n).toInt = own_mn (own_mn k.toInt 3) n.toInt := by
  rw [Int32.lt_iff_toInt_lt, show ((2 : Int32)).toInt = 2 from rfl] at h
  have b : 0 ≤ hd.toInt ∧ hd.toInt ≤ 4 := by rw [r]; simp only [own_mn]; (repeat' split) <;> omega
  rw [own_minI hd n b, r]; simp only [own_mn]; (repeat' split) <;> omega
theorem own_rs2 (k n hd : Int32) (hk : 0 ≤ k.toInt ∧ k.toInt ≤ 5) (hn : 1 ≤ n.toInt ∧ n.toInt ≤ 4) (r : hd.toInt = own_mn (own_mn k.toInt 2) n.toInt) (h : ¬ (2 : Int32) < k) : hd.toInt = own_mn (own_mn k.toInt 3) n.toInt := by
  rw [Int32.lt_iff_toInt_lt, show ((2 : Int32)).toInt = 2 from rfl] at h
  rw [r]; simp only [own_mn]; (repeat' split) <;> omega
theorem own_rt3 (k n hd : Int32) (hk : 0 ≤ k.toInt ∧ k.toInt ≤ 5) (hn : 1 ≤ n.toInt ∧ n.toInt ≤ 4) (r : hd.toInt = own_mn (own_mn k.toInt 3) n.toInt) (h : (3 : Int32) < k) : (own_min (hd + (1 : Int32)) n).toInt = own_mn (own_mn k.toInt 4) n.toInt := by
  rw [Int32.lt_iff_toInt_lt, show ((3 : Int32)).toInt = 3 from rfl] at h
  have b : 0 ≤ hd.toInt ∧ hd.toInt ≤ 4 := by rw [r]; simp only [own_mn]; (repeat' split) <;> omega
  rw [own_minI hd n b, r]; simp only [own_mn]; (repeat' split) <;> omega
theorem own_rs3 (k n hd : Int32) (hk : 0 ≤ k.toInt ∧ k.toInt ≤ 5) (hn : 1 ≤ n.toInt ∧ n.toInt ≤ 4) (r : hd.toInt = own_mn (own_mn k.toInt 3) n.toInt) (h : ¬ (3 : Int32) < k) : hd.toInt = own_mn (own_mn k.toInt 4) n.toInt := by
  rw [Int32.lt_iff_toInt_lt, show ((3 : Int32)).toInt = 3 from rfl] at h
  rw [r]; simp only [own_mn]; (repeat' split) <;> omega
theorem own_rt4 (k n hd : Int32) (hk : 0 ≤ k.toInt ∧ k.toInt ≤ 5) (hn : 1 ≤ n.toInt ∧ n.toInt ≤ 4) (r : hd.toInt = own_mn (own_mn k.toInt 4) n.toInt) (h : (4 : Int32) < k) : (own_min (hd + (1 : Int32)) n).toInt = own_mn (own_mn k.toInt 5) n.toInt := by
  rw [Int32.lt_iff_toInt_lt, show ((4 : Int32)).toInt = 4 from rfl] at h
  have b : 0 ≤ hd.toInt ∧ hd.toInt ≤ 4 := by rw [r]; simp only [own_mn]; (repeat' split) <;> omega
  rw [own_minI hd n b, r]; simp only [own_mn]; (repeat' split) <;> omega
theorem own_rs4 (k n hd : Int32) (hk : 0 ≤ k.toInt ∧ k.toInt ≤ 5) (hn : 1 ≤ n.toInt ∧ n.toInt ≤ 4) (r : hd.toInt = own_mn (own_mn k.toInt 4) n.toInt) (h : ¬ (4 : Int32) < k) : hd.toInt = own_mn (own_mn k.toInt 5) n.toInt := by
  rw [Int32.lt_iff_toInt_lt, show ((4 : Int32)).toInt = 4 from rfl] at h
  rw [r]; simp only [own_mn]; (repeat' split) <;> omega
theorem own_fk (k n hd : Int32) (hk : 0 ≤ k.toInt ∧ k.toInt ≤ 5) (hn : 1 ≤ n.toInt ∧ n.toInt ≤ 4) (r : hd.toInt = own_mn (own_mn k.toInt 5) n.toInt) : own_full hd n = own_ge k n := by
  simp only [own_full, own_ge, Int32.lt_iff_toInt_lt, ← Int32.toInt_inj, r]
  simp only [own_mn]
  (repeat' split) <;> first | rfl | omega
theorem own_f0 (n : Int32) (hn : 1 ≤ n.toInt ∧ n.toInt ≤ 4) : own_full (0 : Int32) n = 0 := if_neg fun q => own_n0 n hn q.symm
theorem own_f1 (n : Int32) (hn : 1 ≤ n.toInt ∧ n.toInt ≤ 4) : own_full (own_min ((0 : Int32) + (1 : Int32)) n) n = own_is1 n := by
  have m := own_minI 0 n (by decide)
  rw [own_i0] at m
  simp only [own_full, own_is1, ← Int32.toInt_inj, m, show (1 : Int32).toInt = 1 from rfl]
  simp only [own_mn]
  (repeat' split) <;> first | rfl | omega
theorem pn_0 : plainName "com/example/shunt/shunt/core/OutcomeWindowIsFullPinLaw" = true := by first | (simp [plainName, overriddenIn]; done) | decide +kernel
theorem ef_0 (m : MethodId) (x0 : Int32) (x1 : Int32) (x2 : Int32) (x3 : Int32) : entryFrame m #[(.int x0), (.int x1), (.int x2), (.int x3)] maxLocals = mkF m 0 #[.val (.int x0), .val (.int x1), .val (.int x2), .val (.int x3), .unset, .unset, .unset, .unset, .unset] [] := by first | (simp [entryFrame, mkF, argsToLocals, Value.category, maxLocals]; done) | rfl
def Q0 (Z : State) (h0 : Heap) (n0 : Nat) (v : Option Value) (h : Heap) (L : List Loc) : Prop := v = some (.int (1 : Int32)) ∧ Fr n0 L
set_option maxRecDepth 65536 in
set_option maxHeartbeats 40000000 in
theorem rm0 (l : Launch) (Z : State) (a0 : Array Value) (hw : ∀ d ∈ tables_1, d.before a0 Z = true) (ws : List Jvm.Cond) (p1 : Int32) (p2 : Int32) (p3 : Int32) (p4 : Int32) (h0 : Heap) (n0 : Nat) (Z0 : n0 ≤ h0.size) :
    MetFree l x (head1 (Jvm.Cond.code x code maxLocals ret :: ws) room_1) (fun a U => a = #[(.int p1), (.int p2), (.int p3), (.int p4)] ∧ Z.Warmed39 U.vm ∧ U.heap = h0) (fun _ _ _ _ _ => True) (fun _ U o U' => ∃ v L, o = .returned v ∧ Q0 Z  h0 n0 v U'.heap L ∧ FrameEnd U o U' L room_1.cells room_1.slots) := by
  refine MetFree.of_bodySF (plainFor_of_name pn_0) hisR ?_
  intro p e s m args below meth c s₁ Bd hml0 hP hK
  obtain ⟨rfl, hZ, hh⟩ := hP
  have hx := Bd.exec
  have hby := Bd.bytes
  have hml : c.maxLocals = 9 := hml0
  have hown : s.vm.findClass "com/example/shunt/shunt/core/OutcomeWindowIsFullPinLaw" = some m.cls := findClass_of_methodNamed Bd.named
  have hnm := (name_of_methodNamed Bd.named Bd.method).1
  have X0 : Stand p l e room_1 s m #[(.int p1), (.int p2), (.int p3), (.int p4)] below meth c s₁ [] 0 0 := Stand.of_body Bd
  have e0 : s₁.heap = h0 := by rw [← hh, Bd.state]; rfl
  have N0 := Fr.nil n0
  have pre0 : ∀ t, Steps p.tables e below (s₁.setTop (mkF m 0 #[.val (.int p1), .val (.int p2), .val (.int p3), .val (.int p4), .unset, .unset, .unset, .unset, .unset] [])) t → Steps p.tables e below (s₁.setTop (entryFrame m #[(.int p1), (.int p2), (.int p3), (.int p4)] maxLocals)) t := fun t k => castTop (ef_0 m p1 p2 p3 p4) k
  refine own_go pre0 ?_
  obtain ⟨n, hn, go1⟩ : ∃ n : Int32, (1 ≤ n.toInt ∧ n.toInt ≤ 4) ∧ ∀ t, Steps p.tables e below (s₁.setTop (mkF m 7 #[.val (.int p1), .val (.int p2), .val (.int p3), .val (.int p4), .val (.int n), .unset, .unset, .unset, .unset] [])) t → Steps p.tables e below (s₁.setTop (mkF m 0 #[.val (.int p1), .val (.int p2), .val (.int p3), .val (.int p4), .unset, .unset, .unset, .unset, .unset] [])) t := by
    have go2 : ∀ t, Steps p.tables e below (s₁.setTop (mkF m 7 #[.val (.int p1), .val (.int p2), .val (.int p3), .val (.int p4), .val (.int ((1 : Int32) + (p1 &&& (3 : Int32)))), .unset, .unset, .unset, .unset] [])) t → Steps p.tables e below (s₁.setTop (mkF m 0 #[.val (.int p1), .val (.int p2), .val (.int p3), .val (.int p4), .unset, .unset, .unset, .unset, .unset] [])) t := by
      intro t kt
      show Steps p.tables e below (s₁.setTop (mkF m 0 #[.val (.int p1), .val (.int p2), .val (.int p3), .val (.int p4), .unset, .unset, .unset, .unset, .unset] [])) _
      refine XS.iconst X0.here hx rfl (hb hby at_0) ?_
      show Steps p.tables e below (s₁.setTop (mkF m 1 #[.val (.int p1), .val (.int p2), .val (.int p3), .val (.int p4), .unset, .unset, .unset, .unset, .unset] [(.int (1 : Int32))])) _
      refine XS.iloadN X0.here hx rfl (hb hby at_1) rfl ?_
      show Steps p.tables e below (s₁.setTop (mkF m 2 #[.val (.int p1), .val (.int p2), .val (.int p3), .val (.int p4), .unset, .unset, .unset, .unset, .unset] [(.int p1), (.int (1 : Int32))])) _
      refine XS.iconst X0.here hx rfl (hb hby at_2) ?_
      show Steps p.tables e below (s₁.setTop (mkF m 3 #[.val (.int p1), .val (.int p2), .val (.int p3), .val (.int p4), .unset, .unset, .unset, .unset, .unset] [(.int (3 : Int32)), (.int p1), (.int (1 : Int32))])) _
      refine XS.iand X0.here hx rfl (hb hby at_3) rfl ?_
      show Steps p.tables e below (s₁.setTop (mkF m 4 #[.val (.int p1), .val (.int p2), .val (.int p3), .val (.int p4), .unset, .unset, .unset, .unset, .unset] [(.int (p1 &&& (3 : Int32))), (.int (1 : Int32))])) _
      refine XS.iadd X0.here hx rfl (hb hby at_4) rfl ?_
      show Steps p.tables e below (s₁.setTop (mkF m 5 #[.val (.int p1), .val (.int p2), .val (.int p3), .val (.int p4), .unset, .unset, .unset, .unset, .unset] [(.int ((1 : Int32) + (p1 &&& (3 : Int32))))])) _
      refine XS.istore X0.here hx rfl (hb hby at_5) rfl (l' := #[.val (.int p1), .val (.int p2), .val (.int p3), .val (.int p4), .val (.int ((1 : Int32) + (p1 &&& (3 : Int32)))), .unset, .unset, .unset, .unset]) rfl ?_
      exact kt
    exact ⟨((1 : Int32) + (p1 &&& (3 : Int32))), own_nr p1, fun t kt => (go2 t kt)⟩
  refine own_go go1 ?_
  obtain ⟨k, hk, go3⟩ : ∃ k : Int32, (0 ≤ k.toInt ∧ k.toInt ≤ 5) ∧ ∀ t, Steps p.tables e below (s₁.setTop (mkF m 16 #[.val (.int p1), .val (.int p2), .val (.int p3), .val (.int p4), .val (.int n), .val (.int k), .unset, .unset, .unset] [])) t → Steps p.tables e below (s₁.setTop (mkF m 7 #[.val (.int p1), .val (.int p2), .val (.int p3), .val (.int p4), .val (.int n), .unset, .unset, .unset, .unset] [])) t := by
    have go4 : ∀ t, Steps p.tables e below (s₁.setTop (mkF m 16 #[.val (.int p1), .val (.int p2), .val (.int p3), .val (.int p4), .val (.int n), .val (.int ((p2 &&& (7 : Int32)) % (6 : Int32))), .unset, .unset, .unset] [])) t → Steps p.tables e below (s₁.setTop (mkF m 7 #[.val (.int p1), .val (.int p2), .val (.int p3), .val (.int p4), .val (.int n), .unset, .unset, .unset, .unset] [])) t := by
      intro t kt
      show Steps p.tables e below (s₁.setTop (mkF m 7 #[.val (.int p1), .val (.int p2), .val (.int p3), .val (.int p4), .val (.int n), .unset, .unset, .unset, .unset] [])) _
      refine XS.iloadN X0.here hx rfl (hb hby at_7) rfl ?_
      show Steps p.tables e below (s₁.setTop (mkF m 8 #[.val (.int p1), .val (.int p2), .val (.int p3), .val (.int p4), .val (.int n), .unset, .unset, .unset, .unset] [(.int p2)])) _
      refine XS.bipush X0.here hx rfl (hb hby at_8) ?_
      show Steps p.tables e below (s₁.setTop (mkF m 10 #[.val (.int p1), .val (.int p2), .val (.int p3), .val (.int p4), .val (.int n), .unset, .unset, .unset, .unset] [(.int (7 : Int32)), (.int p2)])) _
      refine XS.iand X0.here hx rfl (hb hby at_10) rfl ?_
      show Steps p.tables e below (s₁.setTop (mkF m 11 #[.val (.int p1), .val (.int p2), .val (.int p3), .val (.int p4), .val (.int n), .unset, .unset, .unset, .unset] [(.int (p2 &&& (7 : Int32)))])) _
      refine XS.bipush X0.here hx rfl (hb hby at_11) ?_
      show Steps p.tables e below (s₁.setTop (mkF m 13 #[.val (.int p1), .val (.int p2), .val (.int p3), .val (.int p4), .val (.int n), .unset, .unset, .unset, .unset] [(.int (6 : Int32)), (.int (p2 &&& (7 : Int32)))])) _
      refine iremM X0 hx rfl (hb hby at_13) rfl (by decide) ?_
      show Steps p.tables e below (s₁.setTop (mkF m 14 #[.val (.int p1), .val (.int p2), .val (.int p3), .val (.int p4), .val (.int n), .unset, .unset, .unset, .unset] [(.int ((p2 &&& (7 : Int32)) % (6 : Int32)))])) _
      refine XS.istore X0.here hx rfl (hb hby at_14) rfl (l' := #[.val (.int p1), .val (.int p2), .val (.int p3), .val (.int p4), .val (.int n), .val (.int ((p2 &&& (7 : Int32)) % (6 : Int32))), .unset, .unset, .unset]) rfl ?_
      exact kt
    exact ⟨((p2 &&& (7 : Int32)) % (6 : Int32)), own_kr p2, fun t kt => (go4 t kt)⟩
  refine own_go go3 ?_
  obtain ⟨T5, h5, X5, e5, E5, A5, D5, -, st5⟩ := newO X0 hx hZ hown (hw _ (List.mem_of_getElem? (i := 0) rfl)) (hw _ (List.mem_of_getElem? (i := 1) rfl)) (hw _ (List.mem_of_getElem? (i := 2) rfl)) e0 (g := (mkF m 16 #[.val (.int p1), .val (.int p2), .val (.int p3), .val (.int p4), .val (.int n), .val (.int k), .unset, .unset, .unset] [])) rfl (hb hby at_16) (by decide) (by decide)
  obtain ⟨r, g5⟩ : ∃ z, z = h0.size := ⟨_, rfl⟩
  rw [← g5] at A5 D5 st5
  have g_r : n0 ≤ r := Nat.le_trans Z0 (Nat.le_of_eq g5.symm)
  have F5_r_outcomes : Fld Z h5 r "com/example/shunt/shunt/core/OutcomeWindow" "outcomes" "[Z" .null := D5 (Or.inr (hw _ (List.mem_of_getElem? (i := 11) rfl))) (ty := (.array .boolean)) (by decide)
  have F5_r_held : Fld Z h5 r "com/example/shunt/shunt/core/OutcomeWindow" "held" "I" (.int (0 : Int32)) := D5 (Or.inl (hw _ (List.mem_of_getElem? (i := 23) rfl))) (ty := .int) (by decide)
  have F5_r_next : Fld Z h5 r "com/example/shunt/shunt/core/OutcomeWindow" "next" "I" (.int (0 : Int32)) := D5 (Or.inl (hw _ (List.mem_of_getElem? (i := 25) rfl))) (ty := .int) (by decide)
  have F5_r_failures : Fld Z h5 r "com/example/shunt/shunt/core/OutcomeWindow" "failures" "I" (.int (0 : Int32)) := D5 (Or.inl (hw _ (List.mem_of_getElem? (i := 31) rfl))) (ty := .int) (by decide)
  refine own_go (S' := T5.setTop (mkF m 19 #[.val (.int p1), .val (.int p2), .val (.int p3), .val (.int p4), .val (.int n), .val (.int k), .unset, .unset, .unset] [(.ref r)])) st5 ?_
  have go6 : ∀ t, Steps p.tables e below (T5.setTop (mkF m 22 #[.val (.int p1), .val (.int p2), .val (.int p3), .val (.int p4), .val (.int n), .val (.int k), .unset, .unset, .unset] [(.int n), (.ref r), (.ref r)])) t → Steps p.tables e below (T5.setTop (mkF m 19 #[.val (.int p1), .val (.int p2), .val (.int p3), .val (.int p4), .val (.int n), .val (.int k), .unset, .unset, .unset] [(.ref r)])) t := by
    intro t kt
    show Steps p.tables e below (T5.setTop (mkF m 19 #[.val (.int p1), .val (.int p2), .val (.int p3), .val (.int p4), .val (.int n), .val (.int k), .unset, .unset, .unset] [(.ref r)])) _
    refine XS.dup X5.here hx rfl (hb hby at_19) rfl rfl ?_
    show Steps p.tables e below (T5.setTop (mkF m 20 #[.val (.int p1), .val (.int p2), .val (.int p3), .val (.int p4), .val (.int n), .val (.int k), .unset, .unset, .unset] [(.ref r), (.ref r)])) _
    refine XS.iload X5.here hx rfl (hb hby at_20) rfl ?_
    exact kt
  refine own_go go6 ?_
  obtain ⟨_, _, ⟨T7, L7, k7, n7⟩, -, X7, ⟨Lc7, hQ7, l7, y7, z7⟩, st7⟩ := X5.specialBack hx (y := (⟨"com/example/shunt/shunt/core/OutcomeWindow", "<init>", "(I)V"⟩ : MethodName)) rfl hown (mvT hZ (hw _ (List.mem_of_getElem? (i := 3) rfl))) (mvT hZ (hw _ (List.mem_of_getElem? (i := 4) rfl))) (mvT hZ (hw _ (List.mem_of_getElem? (i := 5) rfl))) (by decide) (backOf (W := 1) (rm1 l Z a0 hw [] r n h5 n0 (Nat.le_trans Z0 E5.1) A5 F5_r_outcomes F5_r_held F5_r_next F5_r_failures g_r hn) hZ (hw _ (List.mem_of_getElem? (i := 5) rfl)) (hw _ (List.mem_of_getElem? (i := 2) rfl)) (by decide) (by decide)) (g := (mkF m 22 #[.val (.int p1), .val (.int p2), .val (.int p3), .val (.int p4), .val (.int n), .val (.int k), .unset, .unset, .unset] [(.int n), (.ref r), (.ref r)])) rfl (by rw [hml]; rfl) (Steps.refl _) (a := r) (argsL := [(.int n)]) (rest := [(.ref r)]) (lenOf pd_2 rfl) rfl (by show 2 * 0 + _ ≤ _; exact Nat.le_of_eq rfl) (hb hby at_22) (fun _ _ => ⟨rfl, e5, (by decide : 1 + 1 ≤ _), (by decide : 4 + 4 ≤ _)⟩)
  dsimp only [Pt.U, Pt.locs, Pt.cells, Pt.slots] at X7 l7 y7 z7 st7 hQ7
  subst l7 y7 z7
  obtain ⟨rfl, N7q, b, kb, gb, nb, HI⟩ := hQ7
  have N7 := Fr.app N0 N7q
  refine own_go (S' := T7.setTop (mkF m 25 #[.val (.int p1), .val (.int p2), .val (.int p3), .val (.int p4), .val (.int n), .val (.int k), .unset, .unset, .unset] [(.ref r)])) (fun t k => st7.trans k) ?_
  have go8 : ∀ t, Steps p.tables e below (T7.setTop (mkF m 27 #[.val (.int p1), .val (.int p2), .val (.int p3), .val (.int p4), .val (.int n), .val (.int k), .val (.ref r), .unset, .unset] [])) t → Steps p.tables e below (T7.setTop (mkF m 25 #[.val (.int p1), .val (.int p2), .val (.int p3), .val (.int p4), .val (.int n), .val (.int k), .unset, .unset, .unset] [(.ref r)])) t := by
    intro t kt
    show Steps p.tables e below (T7.setTop (mkF m 25 #[.val (.int p1), .val (.int p2), .val (.int p3), .val (.int p4), .val (.int n), .val (.int k), .unset, .unset, .unset] [(.ref r)])) _
    refine XS.astore X7.here hx rfl (hb hby at_25) rfl rfl (l' := #[.val (.int p1), .val (.int p2), .val (.int p3), .val (.int p4), .val (.int n), .val (.int k), .val (.ref r), .unset, .unset]) rfl ?_
    exact kt
  refine own_go go8 ?_
  obtain ⟨T9, L9, hd0, X9, N9, rp0, HI_0, go9⟩ : ∃ (T' : State) (L' : List Loc) (hd0 : Int32), Stand p l e room_1 s m #[(.int p1), (.int p2), (.int p3), (.int p4)] below meth c T' L' 2 8 ∧ Fr n0 L' ∧ (hd0.toInt = own_mn (own_mn k.toInt 1) n.toInt) ∧ own_I Z T'.heap r b kb n hd0 ∧ ∀ t, Steps p.tables e below (T'.setTop (mkF m 48 #[.val (.int p1), .val (.int p2), .val (.int p3), .val (.int p4), .val (.int n), .val (.int k), .val (.ref r), .unset, .unset] [])) t → Steps p.tables e below (T7.setTop (mkF m 27 #[.val (.int p1), .val (.int p2), .val (.int p3), .val (.int p4), .val (.int n), .val (.int k), .val (.ref r), .unset, .unset] [])) t := by
    have go10 : ∀ t, Steps p.tables e below (T7.setTop (mkF m 29 #[.val (.int p1), .val (.int p2), .val (.int p3), .val (.int p4), .val (.int n), .val (.int k), .val (.ref r), .unset, .unset] [(.int k)])) t → Steps p.tables e below (T7.setTop (mkF m 27 #[.val (.int p1), .val (.int p2), .val (.int p3), .val (.int p4), .val (.int n), .val (.int k), .val (.ref r), .unset, .unset] [])) t := by
      intro t kt
      show Steps p.tables e below (T7.setTop (mkF m 27 #[.val (.int p1), .val (.int p2), .val (.int p3), .val (.int p4), .val (.int n), .val (.int k), .val (.ref r), .unset, .unset] [])) _
      refine XS.iload X7.here hx rfl (hb hby at_27) rfl ?_
      exact kt
    rcases Classical.em ((0 : Int32) < k) with hc29 | hc29
    · have go11 : ∀ t, Steps p.tables e below (T7.setTop (mkF m 37 #[.val (.int p1), .val (.int p2), .val (.int p3), .val (.int p4), .val (.int n), .val (.int k), .val (.ref r), .unset, .unset] [(.int (p3 &&& (1 : Int32))), (.ref r)])) t → Steps p.tables e below (T7.setTop (mkF m 29 #[.val (.int p1), .val (.int p2), .val (.int p3), .val (.int p4), .val (.int n), .val (.int k), .val (.ref r), .unset, .unset] [(.int k)])) t := by
        intro t kt
        show Steps p.tables e below (T7.setTop (mkF m 29 #[.val (.int p1), .val (.int p2), .val (.int p3), .val (.int p4), .val (.int n), .val (.int k), .val (.ref r), .unset, .unset] [(.int k)])) _
        refine XS.ifNo X7.here hx rfl (hb hby at_29) rfl ((if0 _ _).trans (tlt hc29).2.2.2) ?_
        show Steps p.tables e below (T7.setTop (mkF m 32 #[.val (.int p1), .val (.int p2), .val (.int p3), .val (.int p4), .val (.int n), .val (.int k), .val (.ref r), .unset, .unset] [])) _
        refine XS.aload X7.here hx rfl (hb hby at_32) rfl rfl ?_
        show Steps p.tables e below (T7.setTop (mkF m 34 #[.val (.int p1), .val (.int p2), .val (.int p3), .val (.int p4), .val (.int n), .val (.int k), .val (.ref r), .unset, .unset] [(.ref r)])) _
        refine XS.iloadN X7.here hx rfl (hb hby at_34) rfl ?_
        show Steps p.tables e below (T7.setTop (mkF m 35 #[.val (.int p1), .val (.int p2), .val (.int p3), .val (.int p4), .val (.int n), .val (.int k), .val (.ref r), .unset, .unset] [(.int p3), (.ref r)])) _
        refine XS.iconst X7.here hx rfl (hb hby at_35) ?_
        show Steps p.tables e below (T7.setTop (mkF m 36 #[.val (.int p1), .val (.int p2), .val (.int p3), .val (.int p4), .val (.int n), .val (.int k), .val (.ref r), .unset, .unset] [(.int (1 : Int32)), (.int p3), (.ref r)])) _
        refine XS.iand X7.here hx rfl (hb hby at_36) rfl ?_
        exact kt
      rcases Classical.em ((p3 &&& (1 : Int32)) = (0 : Int32)) with hc37 | hc37
      · have go12 : ∀ t, Steps p.tables e below (T7.setTop (mkF m 45 #[.val (.int p1), .val (.int p2), .val (.int p3), .val (.int p4), .val (.int n), .val (.int k), .val (.ref r), .unset, .unset] [(.int (0 : Int32)), (.ref r)])) t → Steps p.tables e below (T7.setTop (mkF m 37 #[.val (.int p1), .val (.int p2), .val (.int p3), .val (.int p4), .val (.int n), .val (.int k), .val (.ref r), .unset, .unset] [(.int (p3 &&& (1 : Int32))), (.ref r)])) t := by
          intro t kt
          show Steps p.tables e below (T7.setTop (mkF m 37 #[.val (.int p1), .val (.int p2), .val (.int p3), .val (.int p4), .val (.int n), .val (.int k), .val (.ref r), .unset, .unset] [(.int (p3 &&& (1 : Int32))), (.ref r)])) _
          refine XS.ifYes X7.here hx rfl (pc0 := 37) (pc' := 44) rfl (hb hby at_37) rfl ((if0 _ _).trans (teq hc37).1) (by decide) (by decide) ?_
          show Steps p.tables e below (T7.setTop (mkF m 44 #[.val (.int p1), .val (.int p2), .val (.int p3), .val (.int p4), .val (.int n), .val (.int k), .val (.ref r), .unset, .unset] [(.ref r)])) _
          refine XS.iconst X7.here hx rfl (hb hby at_44) ?_
          exact kt
        obtain ⟨cq13, kq13, q13a, q13b, q13c⟩ := isOf hZ rfl (own_exa HI)
        obtain ⟨_, _, ⟨T13, L13, k13, n13⟩, -, X13, ⟨Lc13, hQ13, l13, y13, z13⟩, st13⟩ := X7.virtualBack hx (y := (⟨"com/example/shunt/shunt/core/OutcomeWindow", "add", "(Z)V"⟩ : MethodName)) (z := (⟨"com/example/shunt/shunt/core/OutcomeWindow", "add", "(Z)V"⟩ : MethodName)) hown (mvT hZ (hw _ (List.mem_of_getElem? (i := 12) rfl))) (mvT hZ (hw _ (List.mem_of_getElem? (i := 13) rfl))) (notFace_of_selects (args := #[]) (mvT hZ (hw _ (List.mem_of_getElem? (i := 15) rfl)))) (mvT hZ (hw _ (List.mem_of_getElem? (i := 15) rfl))) (mvT hZ (hw _ (List.mem_of_getElem? (i := 14) rfl))) (by decide) (backOf (W := 0) (rm3 l Z a0 hw [] r (0 : Int32) b kb n (0 : Int32) T7.heap n0 (own_szH g_r (own_exa HI)) HI g_r gb nb hn) hZ (hw _ (List.mem_of_getElem? (i := 16) rfl)) (hw _ (List.mem_of_getElem? (i := 2) rfl)) (by decide) (by decide)) q13a q13c (g := (mkF m 45 #[.val (.int p1), .val (.int p2), .val (.int p3), .val (.int p4), .val (.int n), .val (.int k), .val (.ref r), .unset, .unset] [(.int (0 : Int32)), (.ref r)])) rfl (by rw [hml]; rfl) (Steps.refl _) (argsL := [(.int (0 : Int32))]) (rest := []) (lenOf pd_3 rfl) rfl (by show 2 * 0 + _ ≤ _; exact Nat.le_of_eq rfl) (hb hby at_45) (fun _ _ => ⟨rfl, rfl, (by decide : 2 + 0 ≤ _), (by decide : 8 + 0 ≤ _)⟩)
        dsimp only [Pt.U, Pt.locs, Pt.cells, Pt.slots] at X13 l13 y13 z13 st13 hQ13
        subst l13 y13 z13
        obtain ⟨rfl, N13q, HI13⟩ := hQ13
        have N13 := Fr.app N7 N13q
        have go14 : ∀ t, Steps p.tables e below (T13.setTop (mkF m 48 #[.val (.int p1), .val (.int p2), .val (.int p3), .val (.int p4), .val (.int n), .val (.int k), .val (.ref r), .unset, .unset] [])) t → _ := (fun t k => st13.trans k)
        exact ⟨T13, _, (own_min ((0 : Int32) + (1 : Int32)) n), X13, N13, own_rt0 k n _ hk hn (own_r0 k n hk hn) hc29, HI13, fun t kt => (go10 t (go11 t (go12 t (go14 t kt))))⟩
      · have go15 : ∀ t, Steps p.tables e below (T7.setTop (mkF m 45 #[.val (.int p1), .val (.int p2), .val (.int p3), .val (.int p4), .val (.int n), .val (.int k), .val (.ref r), .unset, .unset] [(.int (1 : Int32)), (.ref r)])) t → Steps p.tables e below (T7.setTop (mkF m 37 #[.val (.int p1), .val (.int p2), .val (.int p3), .val (.int p4), .val (.int n), .val (.int k), .val (.ref r), .unset, .unset] [(.int (p3 &&& (1 : Int32))), (.ref r)])) t := by
          intro t kt
          show Steps p.tables e below (T7.setTop (mkF m 37 #[.val (.int p1), .val (.int p2), .val (.int p3), .val (.int p4), .val (.int n), .val (.int k), .val (.ref r), .unset, .unset] [(.int (p3 &&& (1 : Int32))), (.ref r)])) _
          refine XS.ifNo X7.here hx rfl (hb hby at_37) rfl ((if0 _ _).trans (feq hc37).1) ?_
          show Steps p.tables e below (T7.setTop (mkF m 40 #[.val (.int p1), .val (.int p2), .val (.int p3), .val (.int p4), .val (.int n), .val (.int k), .val (.ref r), .unset, .unset] [(.ref r)])) _
          refine XS.iconst X7.here hx rfl (hb hby at_40) ?_
          show Steps p.tables e below (T7.setTop (mkF m 41 #[.val (.int p1), .val (.int p2), .val (.int p3), .val (.int p4), .val (.int n), .val (.int k), .val (.ref r), .unset, .unset] [(.int (1 : Int32)), (.ref r)])) _
          refine XS.goto X7.here hx rfl (pc0 := 41) (pc' := 45) rfl (hb hby at_41) (by decide) (by decide) ?_
          exact kt
        obtain ⟨cq16, kq16, q16a, q16b, q16c⟩ := isOf hZ rfl (own_exa HI)
        obtain ⟨_, _, ⟨T16, L16, k16, n16⟩, -, X16, ⟨Lc16, hQ16, l16, y16, z16⟩, st16⟩ := X7.virtualBack hx (y := (⟨"com/example/shunt/shunt/core/OutcomeWindow", "add", "(Z)V"⟩ : MethodName)) (z := (⟨"com/example/shunt/shunt/core/OutcomeWindow", "add", "(Z)V"⟩ : MethodName)) hown (mvT hZ (hw _ (List.mem_of_getElem? (i := 12) rfl))) (mvT hZ (hw _ (List.mem_of_getElem? (i := 13) rfl))) (notFace_of_selects (args := #[]) (mvT hZ (hw _ (List.mem_of_getElem? (i := 15) rfl)))) (mvT hZ (hw _ (List.mem_of_getElem? (i := 15) rfl))) (mvT hZ (hw _ (List.mem_of_getElem? (i := 14) rfl))) (by decide) (backOf (W := 0) (rm3 l Z a0 hw [] r (1 : Int32) b kb n (0 : Int32) T7.heap n0 (own_szH g_r (own_exa HI)) HI g_r gb nb hn) hZ (hw _ (List.mem_of_getElem? (i := 16) rfl)) (hw _ (List.mem_of_getElem? (i := 2) rfl)) (by decide) (by decide)) q16a q16c (g := (mkF m 45 #[.val (.int p1), .val (.int p2), .val (.int p3), .val (.int p4), .val (.int n), .val (.int k), .val (.ref r), .unset, .unset] [(.int (1 : Int32)), (.ref r)])) rfl (by rw [hml]; rfl) (Steps.refl _) (argsL := [(.int (1 : Int32))]) (rest := []) (lenOf pd_3 rfl) rfl (by show 2 * 0 + _ ≤ _; exact Nat.le_of_eq rfl) (hb hby at_45) (fun _ _ => ⟨rfl, rfl, (by decide : 2 + 0 ≤ _), (by decide : 8 + 0 ≤ _)⟩)
        dsimp only [Pt.U, Pt.locs, Pt.cells, Pt.slots] at X16 l16 y16 z16 st16 hQ16
        subst l16 y16 z16
        obtain ⟨rfl, N16q, HI16⟩ := hQ16
        have N16 := Fr.app N7 N16q
        have go17 : ∀ t, Steps p.tables e below (T16.setTop (mkF m 48 #[.val (.int p1), .val (.int p2), .val (.int p3), .val (.int p4), .val (.int n), .val (.int k), .val (.ref r), .unset, .unset] [])) t → _ := (fun t k => st16.trans k)
        exact ⟨T16, _, (own_min ((0 : Int32) + (1 : Int32)) n), X16, N16, own_rt0 k n _ hk hn (own_r0 k n hk hn) hc29, HI16, fun t kt => (go10 t (go11 t (go15 t (go17 t kt))))⟩
    · have go18 : ∀ t, Steps p.tables e below (T7.setTop (mkF m 48 #[.val (.int p1), .val (.int p2), .val (.int p3), .val (.int p4), .val (.int n), .val (.int k), .val (.ref r), .unset, .unset] [])) t → Steps p.tables e below (T7.setTop (mkF m 29 #[.val (.int p1), .val (.int p2), .val (.int p3), .val (.int p4), .val (.int n), .val (.int k), .val (.ref r), .unset, .unset] [(.int k)])) t := by
        intro t kt
        show Steps p.tables e below (T7.setTop (mkF m 29 #[.val (.int p1), .val (.int p2), .val (.int p3), .val (.int p4), .val (.int n), .val (.int k), .val (.ref r), .unset, .unset] [(.int k)])) _
        refine XS.ifYes X7.here hx rfl (pc0 := 29) (pc' := 48) rfl (hb hby at_29) rfl ((if0 _ _).trans (flt hc29).2.2.2) (by decide) (by decide) ?_
        exact kt
      exact ⟨T7, _, (0 : Int32), X7, N7, own_rs0 k n _ hk hn (own_r0 k n hk hn) hc29, HI, fun t kt => (go10 t (go18 t kt))⟩
  refine own_go go9 ?_
  obtain ⟨T19, L19, hd1, X19, N19, rp1, HI_1, go19⟩ : ∃ (T' : State) (L' : List Loc) (hd1 : Int32), Stand p l e room_1 s m #[(.int p1), (.int p2), (.int p3), (.int p4)] below meth c T' L' 2 8 ∧ Fr n0 L' ∧ (hd1.toInt = own_mn (own_mn k.toInt 2) n.toInt) ∧ own_I Z T'.heap r b kb n hd1 ∧ ∀ t, Steps p.tables e below (T'.setTop (mkF m 70 #[.val (.int p1), .val (.int p2), .val (.int p3), .val (.int p4), .val (.int n), .val (.int k), .val (.ref r), .unset, .unset] [])) t → Steps p.tables e below (T9.setTop (mkF m 48 #[.val (.int p1), .val (.int p2), .val (.int p3), .val (.int p4), .val (.int n), .val (.int k), .val (.ref r), .unset, .unset] [])) t := by
    have go20 : ∀ t, Steps p.tables e below (T9.setTop (mkF m 51 #[.val (.int p1), .val (.int p2), .val (.int p3), .val (.int p4), .val (.int n), .val (.int k), .val (.ref r), .unset, .unset] [(.int (1 : Int32)), (.int k)])) t → Steps p.tables e below (T9.setTop (mkF m 48 #[.val (.int p1), .val (.int p2), .val (.int p3), .val (.int p4), .val (.int n), .val (.int k), .val (.ref r), .unset, .unset] [])) t := by
      intro t kt
      show Steps p.tables e below (T9.setTop (mkF m 48 #[.val (.int p1), .val (.int p2), .val (.int p3), .val (.int p4), .val (.int n), .val (.int k), .val (.ref r), .unset, .unset] [])) _
      refine XS.iload X9.here hx rfl (hb hby at_48) rfl ?_
      show Steps p.tables e below (T9.setTop (mkF m 50 #[.val (.int p1), .val (.int p2), .val (.int p3), .val (.int p4), .val (.int n), .val (.int k), .val (.ref r), .unset, .unset] [(.int k)])) _
      refine XS.iconst X9.here hx rfl (hb hby at_50) ?_
      exact kt
    rcases Classical.em ((1 : Int32) < k) with hc51 | hc51
    · have go21 : ∀ t, Steps p.tables e below (T9.setTop (mkF m 59 #[.val (.int p1), .val (.int p2), .val (.int p3), .val (.int p4), .val (.int n), .val (.int k), .val (.ref r), .unset, .unset] [(.int (p3 &&& (2 : Int32))), (.ref r)])) t → Steps p.tables e below (T9.setTop (mkF m 51 #[.val (.int p1), .val (.int p2), .val (.int p3), .val (.int p4), .val (.int n), .val (.int k), .val (.ref r), .unset, .unset] [(.int (1 : Int32)), (.int k)])) t := by
        intro t kt
        show Steps p.tables e below (T9.setTop (mkF m 51 #[.val (.int p1), .val (.int p2), .val (.int p3), .val (.int p4), .val (.int n), .val (.int k), .val (.ref r), .unset, .unset] [(.int (1 : Int32)), (.int k)])) _
        refine XS.icmpNo X9.here hx rfl (hb hby at_51) rfl (tlt hc51).2.2.2 ?_
        show Steps p.tables e below (T9.setTop (mkF m 54 #[.val (.int p1), .val (.int p2), .val (.int p3), .val (.int p4), .val (.int n), .val (.int k), .val (.ref r), .unset, .unset] [])) _
        refine XS.aload X9.here hx rfl (hb hby at_54) rfl rfl ?_
        show Steps p.tables e below (T9.setTop (mkF m 56 #[.val (.int p1), .val (.int p2), .val (.int p3), .val (.int p4), .val (.int n), .val (.int k), .val (.ref r), .unset, .unset] [(.ref r)])) _
        refine XS.iloadN X9.here hx rfl (hb hby at_56) rfl ?_
        show Steps p.tables e below (T9.setTop (mkF m 57 #[.val (.int p1), .val (.int p2), .val (.int p3), .val (.int p4), .val (.int n), .val (.int k), .val (.ref r), .unset, .unset] [(.int p3), (.ref r)])) _
        refine XS.iconst X9.here hx rfl (hb hby at_57) ?_
        show Steps p.tables e below (T9.setTop (mkF m 58 #[.val (.int p1), .val (.int p2), .val (.int p3), .val (.int p4), .val (.int n), .val (.int k), .val (.ref r), .unset, .unset] [(.int (2 : Int32)), (.int p3), (.ref r)])) _
        refine XS.iand X9.here hx rfl (hb hby at_58) rfl ?_
        exact kt
      rcases Classical.em ((p3 &&& (2 : Int32)) = (0 : Int32)) with hc59 | hc59
      · have go22 : ∀ t, Steps p.tables e below (T9.setTop (mkF m 67 #[.val (.int p1), .val (.int p2), .val (.int p3), .val (.int p4), .val (.int n), .val (.int k), .val (.ref r), .unset, .unset] [(.int (0 : Int32)), (.ref r)])) t → Steps p.tables e below (T9.setTop (mkF m 59 #[.val (.int p1), .val (.int p2), .val (.int p3), .val (.int p4), .val (.int n), .val (.int k), .val (.ref r), .unset, .unset] [(.int (p3 &&& (2 : Int32))), (.ref r)])) t := by
          intro t kt
          show Steps p.tables e below (T9.setTop (mkF m 59 #[.val (.int p1), .val (.int p2), .val (.int p3), .val (.int p4), .val (.int n), .val (.int k), .val (.ref r), .unset, .unset] [(.int (p3 &&& (2 : Int32))), (.ref r)])) _
          refine XS.ifYes X9.here hx rfl (pc0 := 59) (pc' := 66) rfl (hb hby at_59) rfl ((if0 _ _).trans (teq hc59).1) (by decide) (by decide) ?_
          show Steps p.tables e below (T9.setTop (mkF m 66 #[.val (.int p1), .val (.int p2), .val (.int p3), .val (.int p4), .val (.int n), .val (.int k), .val (.ref r), .unset, .unset] [(.ref r)])) _
          refine XS.iconst X9.here hx rfl (hb hby at_66) ?_
          exact kt
        obtain ⟨cq23, kq23, q23a, q23b, q23c⟩ := isOf hZ rfl (own_exa HI_0)
        obtain ⟨_, _, ⟨T23, L23, k23, n23⟩, -, X23, ⟨Lc23, hQ23, l23, y23, z23⟩, st23⟩ := X9.virtualBack hx (y := (⟨"com/example/shunt/shunt/core/OutcomeWindow", "add", "(Z)V"⟩ : MethodName)) (z := (⟨"com/example/shunt/shunt/core/OutcomeWindow", "add", "(Z)V"⟩ : MethodName)) hown (mvT hZ (hw _ (List.mem_of_getElem? (i := 12) rfl))) (mvT hZ (hw _ (List.mem_of_getElem? (i := 13) rfl))) (notFace_of_selects (args := #[]) (mvT hZ (hw _ (List.mem_of_getElem? (i := 15) rfl)))) (mvT hZ (hw _ (List.mem_of_getElem? (i := 15) rfl))) (mvT hZ (hw _ (List.mem_of_getElem? (i := 14) rfl))) (by decide) (backOf (W := 0) (rm3 l Z a0 hw [] r (0 : Int32) b kb n hd0 T9.heap n0 (own_szH g_r (own_exa HI_0)) HI_0 g_r gb nb hn) hZ (hw _ (List.mem_of_getElem? (i := 16) rfl)) (hw _ (List.mem_of_getElem? (i := 2) rfl)) (by decide) (by decide)) q23a q23c (g := (mkF m 67 #[.val (.int p1), .val (.int p2), .val (.int p3), .val (.int p4), .val (.int n), .val (.int k), .val (.ref r), .unset, .unset] [(.int (0 : Int32)), (.ref r)])) rfl (by rw [hml]; rfl) (Steps.refl _) (argsL := [(.int (0 : Int32))]) (rest := []) (lenOf pd_3 rfl) rfl (by show 2 * 0 + _ ≤ _; exact Nat.le_of_eq rfl) (hb hby at_67) (fun _ _ => ⟨rfl, rfl, (by decide : 2 + 0 ≤ _), (by decide : 8 + 0 ≤ _)⟩)
        dsimp only [Pt.U, Pt.locs, Pt.cells, Pt.slots] at X23 l23 y23 z23 st23 hQ23
        subst l23 y23 z23
        obtain ⟨rfl, N23q, HI23⟩ := hQ23
        have N23 := Fr.app N9 N23q
        have go24 : ∀ t, Steps p.tables e below (T23.setTop (mkF m 70 #[.val (.int p1), .val (.int p2), .val (.int p3), .val (.int p4), .val (.int n), .val (.int k), .val (.ref r), .unset, .unset] [])) t → _ := (fun t k => st23.trans k)
        exact ⟨T23, _, (own_min (hd0 + (1 : Int32)) n), X23, N23, own_rt1 k n _ hk hn rp0 hc51, HI23, fun t kt => (go20 t (go21 t (go22 t (go24 t kt))))⟩
      · have go25 : ∀ t, Steps p.tables e below (T9.setTop (mkF m 67 #[.val (.int p1), .val (.int p2), .val (.int p3), .val (.int p4), .val (.int n), .val (.int k), .val (.ref r), .unset, .unset] [(.int (1 : Int32)), (.ref r)])) t → Steps p.tables e below (T9.setTop (mkF m 59 #[.val (.int p1), .val (.int p2), .val (.int p3), .val (.int p4), .val (.int n), .val (.int k), .val (.ref r), .unset, .unset] [(.int (p3 &&& (2 : Int32))), (.ref r)])) t := by
          intro t kt
          show Steps p.tables e below (T9.setTop (mkF m 59 #[.val (.int p1), .val (.int p2), .val (.int p3), .val (.int p4), .val (.int n), .val (.int k), .val (.ref r), .unset, .unset] [(.int (p3 &&& (2 : Int32))), (.ref r)])) _
          refine XS.ifNo X9.here hx rfl (hb hby at_59) rfl ((if0 _ _).trans (feq hc59).1) ?_
          show Steps p.tables e below (T9.setTop (mkF m 62 #[.val (.int p1), .val (.int p2), .val (.int p3), .val (.int p4), .val (.int n), .val (.int k), .val (.ref r), .unset, .unset] [(.ref r)])) _
          refine XS.iconst X9.here hx rfl (hb hby at_62) ?_
          show Steps p.tables e below (T9.setTop (mkF m 63 #[.val (.int p1), .val (.int p2), .val (.int p3), .val (.int p4), .val (.int n), .val (.int k), .val (.ref r), .unset, .unset] [(.int (1 : Int32)), (.ref r)])) _
          refine XS.goto X9.here hx rfl (pc0 := 63) (pc' := 67) rfl (hb hby at_63) (by decide) (by decide) ?_
          exact kt
        obtain ⟨cq26, kq26, q26a, q26b, q26c⟩ := isOf hZ rfl (own_exa HI_0)
        obtain ⟨_, _, ⟨T26, L26, k26, n26⟩, -, X26, ⟨Lc26, hQ26, l26, y26, z26⟩, st26⟩ := X9.virtualBack hx (y := (⟨"com/example/shunt/shunt/core/OutcomeWindow", "add", "(Z)V"⟩ : MethodName)) (z := (⟨"com/example/shunt/shunt/core/OutcomeWindow", "add", "(Z)V"⟩ : MethodName)) hown (mvT hZ (hw _ (List.mem_of_getElem? (i := 12) rfl))) (mvT hZ (hw _ (List.mem_of_getElem? (i := 13) rfl))) (notFace_of_selects (args := #[]) (mvT hZ (hw _ (List.mem_of_getElem? (i := 15) rfl)))) (mvT hZ (hw _ (List.mem_of_getElem? (i := 15) rfl))) (mvT hZ (hw _ (List.mem_of_getElem? (i := 14) rfl))) (by decide) (backOf (W := 0) (rm3 l Z a0 hw [] r (1 : Int32) b kb n hd0 T9.heap n0 (own_szH g_r (own_exa HI_0)) HI_0 g_r gb nb hn) hZ (hw _ (List.mem_of_getElem? (i := 16) rfl)) (hw _ (List.mem_of_getElem? (i := 2) rfl)) (by decide) (by decide)) q26a q26c (g := (mkF m 67 #[.val (.int p1), .val (.int p2), .val (.int p3), .val (.int p4), .val (.int n), .val (.int k), .val (.ref r), .unset, .unset] [(.int (1 : Int32)), (.ref r)])) rfl (by rw [hml]; rfl) (Steps.refl _) (argsL := [(.int (1 : Int32))]) (rest := []) (lenOf pd_3 rfl) rfl (by show 2 * 0 + _ ≤ _; exact Nat.le_of_eq rfl) (hb hby at_67) (fun _ _ => ⟨rfl, rfl, (by decide : 2 + 0 ≤ _), (by decide : 8 + 0 ≤ _)⟩)
        dsimp only [Pt.U, Pt.locs, Pt.cells, Pt.slots] at X26 l26 y26 z26 st26 hQ26
        subst l26 y26 z26
        obtain ⟨rfl, N26q, HI26⟩ := hQ26
        have N26 := Fr.app N9 N26q
        have go27 : ∀ t, Steps p.tables e below (T26.setTop (mkF m 70 #[.val (.int p1), .val (.int p2), .val (.int p3), .val (.int p4), .val (.int n), .val (.int k), .val (.ref r), .unset, .unset] [])) t → _ := (fun t k => st26.trans k)
        exact ⟨T26, _, (own_min (hd0 + (1 : Int32)) n), X26, N26, own_rt1 k n _ hk hn rp0 hc51, HI26, fun t kt => (go20 t (go21 t (go25 t (go27 t kt))))⟩
    · have go28 : ∀ t, Steps p.tables e below (T9.setTop (mkF m 70 #[.val (.int p1), .val (.int p2), .val (.int p3), .val (.int p4), .val (.int n), .val (.int k), .val (.ref r), .unset, .unset] [])) t → Steps p.tables e below (T9.setTop (mkF m 51 #[.val (.int p1), .val (.int p2), .val (.int p3), .val (.int p4), .val (.int n), .val (.int k), .val (.ref r), .unset, .unset] [(.int (1 : Int32)), (.int k)])) t := by
        intro t kt
        show Steps p.tables e below (T9.setTop (mkF m 51 #[.val (.int p1), .val (.int p2), .val (.int p3), .val (.int p4), .val (.int n), .val (.int k), .val (.ref r), .unset, .unset] [(.int (1 : Int32)), (.int k)])) _
        refine XS.icmpYes X9.here hx rfl (pc0 := 51) (pc' := 70) rfl (hb hby at_51) rfl (flt hc51).2.2.2 (by decide) (by decide) ?_
        exact kt
      exact ⟨T9, _, hd0, X9, N9, own_rs1 k n _ hk hn rp0 hc51, HI_0, fun t kt => (go20 t (go28 t kt))⟩
  refine own_go go19 ?_
  obtain ⟨T29, L29, hd2, X29, N29, rp2, HI_2, go29⟩ : ∃ (T' : State) (L' : List Loc) (hd2 : Int32), Stand p l e room_1 s m #[(.int p1), (.int p2), (.int p3), (.int p4)] below meth c T' L' 2 8 ∧ Fr n0 L' ∧ (hd2.toInt = own_mn (own_mn k.toInt 3) n.toInt) ∧ own_I Z T'.heap r b kb n hd2 ∧ ∀ t, Steps p.tables e below (T'.setTop (mkF m 92 #[.val (.int p1), .val (.int p2), .val (.int p3), .val (.int p4), .val (.int n), .val (.int k), .val (.ref r), .unset, .unset] [])) t → Steps p.tables e below (T19.setTop (mkF m 70 #[.val (.int p1), .val (.int p2), .val (.int p3), .val (.int p4), .val (.int n), .val (.int k), .val (.ref r), .unset, .unset] [])) t := by
    have go30 : ∀ t, Steps p.tables e below (T19.setTop (mkF m 73 #[.val (.int p1), .val (.int p2), .val (.int p3), .val (.int p4), .val (.int n), .val (.int k), .val (.ref r), .unset, .unset] [(.int (2 : Int32)), (.int k)])) t → Steps p.tables e below (T19.setTop (mkF m 70 #[.val (.int p1), .val (.int p2), .val (.int p3), .val (.int p4), .val (.int n), .val (.int k), .val (.ref r), .unset, .unset] [])) t := by
      intro t kt
      show Steps p.tables e below (T19.setTop (mkF m 70 #[.val (.int p1), .val (.int p2), .val (.int p3), .val (.int p4), .val (.int n), .val (.int k), .val (.ref r), .unset, .unset] [])) _
      refine XS.iload X19.here hx rfl (hb hby at_70) rfl ?_
      show Steps p.tables e below (T19.setTop (mkF m 72 #[.val (.int p1), .val (.int p2), .val (.int p3), .val (.int p4), .val (.int n), .val (.int k), .val (.ref r), .unset, .unset] [(.int k)])) _
      refine XS.iconst X19.here hx rfl (hb hby at_72) ?_
      exact kt
    rcases Classical.em ((2 : Int32) < k) with hc73 | hc73
    · have go31 : ∀ t, Steps p.tables e below (T19.setTop (mkF m 81 #[.val (.int p1), .val (.int p2), .val (.int p3), .val (.int p4), .val (.int n), .val (.int k), .val (.ref r), .unset, .unset] [(.int (p3 &&& (4 : Int32))), (.ref r)])) t → Steps p.tables e below (T19.setTop (mkF m 73 #[.val (.int p1), .val (.int p2), .val (.int p3), .val (.int p4), .val (.int n), .val (.int k), .val (.ref r), .unset, .unset] [(.int (2 : Int32)), (.int k)])) t := by
        intro t kt
        show Steps p.tables e below (T19.setTop (mkF m 73 #[.val (.int p1), .val (.int p2), .val (.int p3), .val (.int p4), .val (.int n), .val (.int k), .val (.ref r), .unset, .unset] [(.int (2 : Int32)), (.int k)])) _
        refine XS.icmpNo X19.here hx rfl (hb hby at_73) rfl (tlt hc73).2.2.2 ?_
        show Steps p.tables e below (T19.setTop (mkF m 76 #[.val (.int p1), .val (.int p2), .val (.int p3), .val (.int p4), .val (.int n), .val (.int k), .val (.ref r), .unset, .unset] [])) _
        refine XS.aload X19.here hx rfl (hb hby at_76) rfl rfl ?_
        show Steps p.tables e below (T19.setTop (mkF m 78 #[.val (.int p1), .val (.int p2), .val (.int p3), .val (.int p4), .val (.int n), .val (.int k), .val (.ref r), .unset, .unset] [(.ref r)])) _
        refine XS.iloadN X19.here hx rfl (hb hby at_78) rfl ?_
        show Steps p.tables e below (T19.setTop (mkF m 79 #[.val (.int p1), .val (.int p2), .val (.int p3), .val (.int p4), .val (.int n), .val (.int k), .val (.ref r), .unset, .unset] [(.int p3), (.ref r)])) _
        refine XS.iconst X19.here hx rfl (hb hby at_79) ?_
        show Steps p.tables e below (T19.setTop (mkF m 80 #[.val (.int p1), .val (.int p2), .val (.int p3), .val (.int p4), .val (.int n), .val (.int k), .val (.ref r), .unset, .unset] [(.int (4 : Int32)), (.int p3), (.ref r)])) _
        refine XS.iand X19.here hx rfl (hb hby at_80) rfl ?_
        exact kt
      rcases Classical.em ((p3 &&& (4 : Int32)) = (0 : Int32)) with hc81 | hc81
      · have go32 : ∀ t, Steps p.tables e below (T19.setTop (mkF m 89 #[.val (.int p1), .val (.int p2), .val (.int p3), .val (.int p4), .val (.int n), .val (.int k), .val (.ref r), .unset, .unset] [(.int (0 : Int32)), (.ref r)])) t → Steps p.tables e below (T19.setTop (mkF m 81 #[.val (.int p1), .val (.int p2), .val (.int p3), .val (.int p4), .val (.int n), .val (.int k), .val (.ref r), .unset, .unset] [(.int (p3 &&& (4 : Int32))), (.ref r)])) t := by
          intro t kt
          show Steps p.tables e below (T19.setTop (mkF m 81 #[.val (.int p1), .val (.int p2), .val (.int p3), .val (.int p4), .val (.int n), .val (.int k), .val (.ref r), .unset, .unset] [(.int (p3 &&& (4 : Int32))), (.ref r)])) _
          refine XS.ifYes X19.here hx rfl (pc0 := 81) (pc' := 88) rfl (hb hby at_81) rfl ((if0 _ _).trans (teq hc81).1) (by decide) (by decide) ?_
          show Steps p.tables e below (T19.setTop (mkF m 88 #[.val (.int p1), .val (.int p2), .val (.int p3), .val (.int p4), .val (.int n), .val (.int k), .val (.ref r), .unset, .unset] [(.ref r)])) _
          refine XS.iconst X19.here hx rfl (hb hby at_88) ?_
          exact kt
        obtain ⟨cq33, kq33, q33a, q33b, q33c⟩ := isOf hZ rfl (own_exa HI_1)
        obtain ⟨_, _, ⟨T33, L33, k33, n33⟩, -, X33, ⟨Lc33, hQ33, l33, y33, z33⟩, st33⟩ := X19.virtualBack hx (y := (⟨"com/example/shunt/shunt/core/OutcomeWindow", "add", "(Z)V"⟩ : MethodName)) (z := (⟨"com/example/shunt/shunt/core/OutcomeWindow", "add", "(Z)V"⟩ : MethodName)) hown (mvT hZ (hw _ (List.mem_of_getElem? (i := 12) rfl))) (mvT hZ (hw _ (List.mem_of_getElem? (i := 13) rfl))) (notFace_of_selects (args := #[]) (mvT hZ (hw _ (List.mem_of_getElem? (i := 15) rfl)))) (mvT hZ (hw _ (List.mem_of_getElem? (i := 15) rfl))) (mvT hZ (hw _ (List.mem_of_getElem? (i := 14) rfl))) (by decide) (backOf (W := 0) (rm3 l Z a0 hw [] r (0 : Int32) b kb n hd1 T19.heap n0 (own_szH g_r (own_exa HI_1)) HI_1 g_r gb nb hn) hZ (hw _ (List.mem_of_getElem? (i := 16) rfl)) (hw _ (List.mem_of_getElem? (i := 2) rfl)) (by decide) (by decide)) q33a q33c (g := (mkF m 89 #[.val (.int p1), .val (.int p2), .val (.int p3), .val (.int p4), .val (.int n), .val (.int k), .val (.ref r), .unset, .unset] [(.int (0 : Int32)), (.ref r)])) rfl (by rw [hml]; rfl) (Steps.refl _) (argsL := [(.int (0 : Int32))]) (rest := []) (lenOf pd_3 rfl) rfl (by show 2 * 0 + _ ≤ _; exact Nat.le_of_eq rfl) (hb hby at_89) (fun _ _ => ⟨rfl, rfl, (by decide : 2 + 0 ≤ _), (by decide : 8 + 0 ≤ _)⟩)
        dsimp only [Pt.U, Pt.locs, Pt.cells, Pt.slots] at X33 l33 y33 z33 st33 hQ33
        subst l33 y33 z33
        obtain ⟨rfl, N33q, HI33⟩ := hQ33
        have N33 := Fr.app N19 N33q
        have go34 : ∀ t, Steps p.tables e below (T33.setTop (mkF m 92 #[.val (.int p1), .val (.int p2), .val (.int p3), .val (.int p4), .val (.int n), .val (.int k), .val (.ref r), .unset, .unset] [])) t → _ := (fun t k => st33.trans k)
        exact ⟨T33, _, (own_min (hd1 + (1 : Int32)) n), X33, N33, own_rt2 k n _ hk hn rp1 hc73, HI33, fun t kt => (go30 t (go31 t (go32 t (go34 t kt))))⟩
      · have go35 : ∀ t, Steps p.tables e below (T19.setTop (mkF m 89 #[.val (.int p1), .val (.int p2), .val (.int p3), .val (.int p4), .val (.int n), .val (.int k), .val (.ref r), .unset, .unset] [(.int (1 : Int32)), (.ref r)])) t → Steps p.tables e below (T19.setTop (mkF m 81 #[.val (.int p1), .val (.int p2), .val (.int p3), .val (.int p4), .val (.int n), .val (.int k), .val (.ref r), .unset, .unset] [(.int (p3 &&& (4 : Int32))), (.ref r)])) t := by
          intro t kt
          show Steps p.tables e below (T19.setTop (mkF m 81 #[.val (.int p1), .val (.int p2), .val (.int p3), .val (.int p4), .val (.int n), .val (.int k), .val (.ref r), .unset, .unset] [(.int (p3 &&& (4 : Int32))), (.ref r)])) _
          refine XS.ifNo X19.here hx rfl (hb hby at_81) rfl ((if0 _ _).trans (feq hc81).1) ?_
          show Steps p.tables e below (T19.setTop (mkF m 84 #[.val (.int p1), .val (.int p2), .val (.int p3), .val (.int p4), .val (.int n), .val (.int k), .val (.ref r), .unset, .unset] [(.ref r)])) _
          refine XS.iconst X19.here hx rfl (hb hby at_84) ?_
          show Steps p.tables e below (T19.setTop (mkF m 85 #[.val (.int p1), .val (.int p2), .val (.int p3), .val (.int p4), .val (.int n), .val (.int k), .val (.ref r), .unset, .unset] [(.int (1 : Int32)), (.ref r)])) _
          refine XS.goto X19.here hx rfl (pc0 := 85) (pc' := 89) rfl (hb hby at_85) (by decide) (by decide) ?_
          exact kt
        obtain ⟨cq36, kq36, q36a, q36b, q36c⟩ := isOf hZ rfl (own_exa HI_1)
        obtain ⟨_, _, ⟨T36, L36, k36, n36⟩, -, X36, ⟨Lc36, hQ36, l36, y36, z36⟩, st36⟩ := X19.virtualBack hx (y := (⟨"com/example/shunt/shunt/core/OutcomeWindow", "add", "(Z)V"⟩ : MethodName)) (z := (⟨"com/example/shunt/shunt/core/OutcomeWindow", "add", "(Z)V"⟩ : MethodName)) hown (mvT hZ (hw _ (List.mem_of_getElem? (i := 12) rfl))) (mvT hZ (hw _ (List.mem_of_getElem? (i := 13) rfl))) (notFace_of_selects (args := #[]) (mvT hZ (hw _ (List.mem_of_getElem? (i := 15) rfl)))) (mvT hZ (hw _ (List.mem_of_getElem? (i := 15) rfl))) (mvT hZ (hw _ (List.mem_of_getElem? (i := 14) rfl))) (by decide) (backOf (W := 0) (rm3 l Z a0 hw [] r (1 : Int32) b kb n hd1 T19.heap n0 (own_szH g_r (own_exa HI_1)) HI_1 g_r gb nb hn) hZ (hw _ (List.mem_of_getElem? (i := 16) rfl)) (hw _ (List.mem_of_getElem? (i := 2) rfl)) (by decide) (by decide)) q36a q36c (g := (mkF m 89 #[.val (.int p1), .val (.int p2), .val (.int p3), .val (.int p4), .val (.int n), .val (.int k), .val (.ref r), .unset, .unset] [(.int (1 : Int32)), (.ref r)])) rfl (by rw [hml]; rfl) (Steps.refl _) (argsL := [(.int (1 : Int32))]) (rest := []) (lenOf pd_3 rfl) rfl (by show 2 * 0 + _ ≤ _; exact Nat.le_of_eq rfl) (hb hby at_89) (fun _ _ => ⟨rfl, rfl, (by decide : 2 + 0 ≤ _), (by decide : 8 + 0 ≤ _)⟩)
        dsimp only [Pt.U, Pt.locs, Pt.cells, Pt.slots] at X36 l36 y36 z36 st36 hQ36
        subst l36 y36 z36
        obtain ⟨rfl, N36q, HI36⟩ := hQ36
        have N36 := Fr.app N19 N36q
        have go37 : ∀ t, Steps p.tables e below (T36.setTop (mkF m 92 #[.val (.int p1), .val (.int p2), .val (.int p3), .val (.int p4), .val (.int n), .val (.int k), .val (.ref r), .unset, .unset] [])) t → _ := (fun t k => st36.trans k)
        exact ⟨T36, _, (own_min (hd1 + (1 : Int32)) n), X36, N36, own_rt2 k n _ hk hn rp1 hc73, HI36, fun t kt => (go30 t (go31 t (go35 t (go37 t kt))))⟩
    · have go38 : ∀ t, Steps p.tables e below (T19.setTop (mkF m 92 #[.val (.int p1), .val (.int p2), .val (.int p3), .val (.int p4), .val (.int n), .val (.int k), .val (.ref r), .unset, .unset] [])) t → Steps p.tables e below (T19.setTop (mkF m 73 #[.val (.int p1), .val (.int p2), .val (.int p3), .val (.int p4), .val (.int n), .val (.int k), .val (.ref r), .unset, .unset] [(.int (2 : Int32)), (.int k)])) t := by
        intro t kt
        show Steps p.tables e below (T19.setTop (mkF m 73 #[.val (.int p1), .val (.int p2), .val (.int p3), .val (.int p4), .val (.int n), .val (.int k), .val (.ref r), .unset, .unset] [(.int (2 : Int32)), (.int k)])) _
        refine XS.icmpYes X19.here hx rfl (pc0 := 73) (pc' := 92) rfl (hb hby at_73) rfl (flt hc73).2.2.2 (by decide) (by decide) ?_
        exact kt
      exact ⟨T19, _, hd1, X19, N19, own_rs2 k n _ hk hn rp1 hc73, HI_1, fun t kt => (go30 t (go38 t kt))⟩
  refine own_go go29 ?_
  obtain ⟨T39, L39, hd3, X39, N39, rp3, HI_3, go39⟩ : ∃ (T' : State) (L' : List Loc) (hd3 : Int32), Stand p l e room_1 s m #[(.int p1), (.int p2), (.int p3), (.int p4)] below meth c T' L' 2 8 ∧ Fr n0 L' ∧ (hd3.toInt = own_mn (own_mn k.toInt 4) n.toInt) ∧ own_I Z T'.heap r b kb n hd3 ∧ ∀ t, Steps p.tables e below (T'.setTop (mkF m 115 #[.val (.int p1), .val (.int p2), .val (.int p3), .val (.int p4), .val (.int n), .val (.int k), .val (.ref r), .unset, .unset] [])) t → Steps p.tables e below (T29.setTop (mkF m 92 #[.val (.int p1), .val (.int p2), .val (.int p3), .val (.int p4), .val (.int n), .val (.int k), .val (.ref r), .unset, .unset] [])) t := by
    have go40 : ∀ t, Steps p.tables e below (T29.setTop (mkF m 95 #[.val (.int p1), .val (.int p2), .val (.int p3), .val (.int p4), .val (.int n), .val (.int k), .val (.ref r), .unset, .unset] [(.int (3 : Int32)), (.int k)])) t → Steps p.tables e below (T29.setTop (mkF m 92 #[.val (.int p1), .val (.int p2), .val (.int p3), .val (.int p4), .val (.int n), .val (.int k), .val (.ref r), .unset, .unset] [])) t := by
      intro t kt
      show Steps p.tables e below (T29.setTop (mkF m 92 #[.val (.int p1), .val (.int p2), .val (.int p3), .val (.int p4), .val (.int n), .val (.int k), .val (.ref r), .unset, .unset] [])) _
      refine XS.iload X29.here hx rfl (hb hby at_92) rfl ?_
      show Steps p.tables e below (T29.setTop (mkF m 94 #[.val (.int p1), .val (.int p2), .val (.int p3), .val (.int p4), .val (.int n), .val (.int k), .val (.ref r), .unset, .unset] [(.int k)])) _
      refine XS.iconst X29.here hx rfl (hb hby at_94) ?_
      exact kt
    rcases Classical.em ((3 : Int32) < k) with hc95 | hc95
    · have go41 : ∀ t, Steps p.tables e below (T29.setTop (mkF m 104 #[.val (.int p1), .val (.int p2), .val (.int p3), .val (.int p4), .val (.int n), .val (.int k), .val (.ref r), .unset, .unset] [(.int (p3 &&& (8 : Int32))), (.ref r)])) t → Steps p.tables e below (T29.setTop (mkF m 95 #[.val (.int p1), .val (.int p2), .val (.int p3), .val (.int p4), .val (.int n), .val (.int k), .val (.ref r), .unset, .unset] [(.int (3 : Int32)), (.int k)])) t := by
        intro t kt
        show Steps p.tables e below (T29.setTop (mkF m 95 #[.val (.int p1), .val (.int p2), .val (.int p3), .val (.int p4), .val (.int n), .val (.int k), .val (.ref r), .unset, .unset] [(.int (3 : Int32)), (.int k)])) _
        refine XS.icmpNo X29.here hx rfl (hb hby at_95) rfl (tlt hc95).2.2.2 ?_
        show Steps p.tables e below (T29.setTop (mkF m 98 #[.val (.int p1), .val (.int p2), .val (.int p3), .val (.int p4), .val (.int n), .val (.int k), .val (.ref r), .unset, .unset] [])) _
        refine XS.aload X29.here hx rfl (hb hby at_98) rfl rfl ?_
        show Steps p.tables e below (T29.setTop (mkF m 100 #[.val (.int p1), .val (.int p2), .val (.int p3), .val (.int p4), .val (.int n), .val (.int k), .val (.ref r), .unset, .unset] [(.ref r)])) _
        refine XS.iloadN X29.here hx rfl (hb hby at_100) rfl ?_
        show Steps p.tables e below (T29.setTop (mkF m 101 #[.val (.int p1), .val (.int p2), .val (.int p3), .val (.int p4), .val (.int n), .val (.int k), .val (.ref r), .unset, .unset] [(.int p3), (.ref r)])) _
        refine XS.bipush X29.here hx rfl (hb hby at_101) ?_
        show Steps p.tables e below (T29.setTop (mkF m 103 #[.val (.int p1), .val (.int p2), .val (.int p3), .val (.int p4), .val (.int n), .val (.int k), .val (.ref r), .unset, .unset] [(.int (8 : Int32)), (.int p3), (.ref r)])) _
        refine XS.iand X29.here hx rfl (hb hby at_103) rfl ?_
        exact kt
      rcases Classical.em ((p3 &&& (8 : Int32)) = (0 : Int32)) with hc104 | hc104
      · have go42 : ∀ t, Steps p.tables e below (T29.setTop (mkF m 112 #[.val (.int p1), .val (.int p2), .val (.int p3), .val (.int p4), .val (.int n), .val (.int k), .val (.ref r), .unset, .unset] [(.int (0 : Int32)), (.ref r)])) t → Steps p.tables e below (T29.setTop (mkF m 104 #[.val (.int p1), .val (.int p2), .val (.int p3), .val (.int p4), .val (.int n), .val (.int k), .val (.ref r), .unset, .unset] [(.int (p3 &&& (8 : Int32))), (.ref r)])) t := by
          intro t kt
          show Steps p.tables e below (T29.setTop (mkF m 104 #[.val (.int p1), .val (.int p2), .val (.int p3), .val (.int p4), .val (.int n), .val (.int k), .val (.ref r), .unset, .unset] [(.int (p3 &&& (8 : Int32))), (.ref r)])) _
          refine XS.ifYes X29.here hx rfl (pc0 := 104) (pc' := 111) rfl (hb hby at_104) rfl ((if0 _ _).trans (teq hc104).1) (by decide) (by decide) ?_
          show Steps p.tables e below (T29.setTop (mkF m 111 #[.val (.int p1), .val (.int p2), .val (.int p3), .val (.int p4), .val (.int n), .val (.int k), .val (.ref r), .unset, .unset] [(.ref r)])) _
          refine XS.iconst X29.here hx rfl (hb hby at_111) ?_
          exact kt
        obtain ⟨cq43, kq43, q43a, q43b, q43c⟩ := isOf hZ rfl (own_exa HI_2)
        obtain ⟨_, _, ⟨T43, L43, k43, n43⟩, -, X43, ⟨Lc43, hQ43, l43, y43, z43⟩, st43⟩ := X29.virtualBack hx (y := (⟨"com/example/shunt/shunt/core/OutcomeWindow", "add", "(Z)V"⟩ : MethodName)) (z := (⟨"com/example/shunt/shunt/core/OutcomeWindow", "add", "(Z)V"⟩ : MethodName)) hown (mvT hZ (hw _ (List.mem_of_getElem? (i := 12) rfl))) (mvT hZ (hw _ (List.mem_of_getElem? (i := 13) rfl))) (notFace_of_selects (args := #[]) (mvT hZ (hw _ (List.mem_of_getElem? (i := 15) rfl)))) (mvT hZ (hw _ (List.mem_of_getElem? (i := 15) rfl))) (mvT hZ (hw _ (List.mem_of_getElem? (i := 14) rfl))) (by decide) (backOf (W := 0) (rm3 l Z a0 hw [] r (0 : Int32) b kb n hd2 T29.heap n0 (own_szH g_r (own_exa HI_2)) HI_2 g_r gb nb hn) hZ (hw _ (List.mem_of_getElem? (i := 16) rfl)) (hw _ (List.mem_of_getElem? (i := 2) rfl)) (by decide) (by decide)) q43a q43c (g := (mkF m 112 #[.val (.int p1), .val (.int p2), .val (.int p3), .val (.int p4), .val (.int n), .val (.int k), .val (.ref r), .unset, .unset] [(.int (0 : Int32)), (.ref r)])) rfl (by rw [hml]; rfl) (Steps.refl _) (argsL := [(.int (0 : Int32))]) (rest := []) (lenOf pd_3 rfl) rfl (by show 2 * 0 + _ ≤ _; exact Nat.le_of_eq rfl) (hb hby at_112) (fun _ _ => ⟨rfl, rfl, (by decide : 2 + 0 ≤ _), (by decide : 8 + 0 ≤ _)⟩)
        dsimp only [Pt.U, Pt.locs, Pt.cells, Pt.slots] at X43 l43 y43 z43 st43 hQ43
        subst l43 y43 z43
        obtain ⟨rfl, N43q, HI43⟩ := hQ43
        have N43 := Fr.app N29 N43q
        have go44 : ∀ t, Steps p.tables e below (T43.setTop (mkF m 115 #[.val (.int p1), .val (.int p2), .val (.int p3), .val (.int p4), .val (.int n), .val (.int k), .val (.ref r), .unset, .unset] [])) t → _ := (fun t k => st43.trans k)
        exact ⟨T43, _, (own_min (hd2 + (1 : Int32)) n), X43, N43, own_rt3 k n _ hk hn rp2 hc95, HI43, fun t kt => (go40 t (go41 t (go42 t (go44 t kt))))⟩
      · have go45 : ∀ t, Steps p.tables e below (T29.setTop (mkF m 112 #[.val (.int p1), .val (.int p2), .val (.int p3), .val (.int p4), .val (.int n), .val (.int k), .val (.ref r), .unset, .unset] [(.int (1 : Int32)), (.ref r)])) t → Steps p.tables e below (T29.setTop (mkF m 104 #[.val (.int p1), .val (.int p2), .val (.int p3), .val (.int p4), .val (.int n), .val (.int k), .val (.ref r), .unset, .unset] [(.int (p3 &&& (8 : Int32))), (.ref r)])) t := by
          intro t kt
          show Steps p.tables e below (T29.setTop (mkF m 104 #[.val (.int p1), .val (.int p2), .val (.int p3), .val (.int p4), .val (.int n), .val (.int k), .val (.ref r), .unset, .unset] [(.int (p3 &&& (8 : Int32))), (.ref r)])) _
          refine XS.ifNo X29.here hx rfl (hb hby at_104) rfl ((if0 _ _).trans (feq hc104).1) ?_
          show Steps p.tables e below (T29.setTop (mkF m 107 #[.val (.int p1), .val (.int p2), .val (.int p3), .val (.int p4), .val (.int n), .val (.int k), .val (.ref r), .unset, .unset] [(.ref r)])) _
          refine XS.iconst X29.here hx rfl (hb hby at_107) ?_
          show Steps p.tables e below (T29.setTop (mkF m 108 #[.val (.int p1), .val (.int p2), .val (.int p3), .val (.int p4), .val (.int n), .val (.int k), .val (.ref r), .unset, .unset] [(.int (1 : Int32)), (.ref r)])) _
          refine XS.goto X29.here hx rfl (pc0 := 108) (pc' := 112) rfl (hb hby at_108) (by decide) (by decide) ?_
          exact kt
        obtain ⟨cq46, kq46, q46a, q46b, q46c⟩ := isOf hZ rfl (own_exa HI_2)
        obtain ⟨_, _, ⟨T46, L46, k46, n46⟩, -, X46, ⟨Lc46, hQ46, l46, y46, z46⟩, st46⟩ := X29.virtualBack hx (y := (⟨"com/example/shunt/shunt/core/OutcomeWindow", "add", "(Z)V"⟩ : MethodName)) (z := (⟨"com/example/shunt/shunt/core/OutcomeWindow", "add", "(Z)V"⟩ : MethodName)) hown (mvT hZ (hw _ (List.mem_of_getElem? (i := 12) rfl))) (mvT hZ (hw _ (List.mem_of_getElem? (i := 13) rfl))) (notFace_of_selects (args := #[]) (mvT hZ (hw _ (List.mem_of_getElem? (i := 15) rfl)))) (mvT hZ (hw _ (List.mem_of_getElem? (i := 15) rfl))) (mvT hZ (hw _ (List.mem_of_getElem? (i := 14) rfl))) (by decide) (backOf (W := 0) (rm3 l Z a0 hw [] r (1 : Int32) b kb n hd2 T29.heap n0 (own_szH g_r (own_exa HI_2)) HI_2 g_r gb nb hn) hZ (hw _ (List.mem_of_getElem? (i := 16) rfl)) (hw _ (List.mem_of_getElem? (i := 2) rfl)) (by decide) (by decide)) q46a q46c (g := (mkF m 112 #[.val (.int p1), .val (.int p2), .val (.int p3), .val (.int p4), .val (.int n), .val (.int k), .val (.ref r), .unset, .unset] [(.int (1 : Int32)), (.ref r)])) rfl (by rw [hml]; rfl) (Steps.refl _) (argsL := [(.int (1 : Int32))]) (rest := []) (lenOf pd_3 rfl) rfl (by show 2 * 0 + _ ≤ _; exact Nat.le_of_eq rfl) (hb hby at_112) (fun _ _ => ⟨rfl, rfl, (by decide : 2 + 0 ≤ _), (by decide : 8 + 0 ≤ _)⟩)
        dsimp only [Pt.U, Pt.locs, Pt.cells, Pt.slots] at X46 l46 y46 z46 st46 hQ46
        subst l46 y46 z46
        obtain ⟨rfl, N46q, HI46⟩ := hQ46
        have N46 := Fr.app N29 N46q
        have go47 : ∀ t, Steps p.tables e below (T46.setTop (mkF m 115 #[.val (.int p1), .val (.int p2), .val (.int p3), .val (.int p4), .val (.int n), .val (.int k), .val (.ref r), .unset, .unset] [])) t → _ := (fun t k => st46.trans k)
        exact ⟨T46, _, (own_min (hd2 + (1 : Int32)) n), X46, N46, own_rt3 k n _ hk hn rp2 hc95, HI46, fun t kt => (go40 t (go41 t (go45 t (go47 t kt))))⟩
    · have go48 : ∀ t, Steps p.tables e below (T29.setTop (mkF m 115 #[.val (.int p1), .val (.int p2), .val (.int p3), .val (.int p4), .val (.int n), .val (.int k), .val (.ref r), .unset, .unset] [])) t → Steps p.tables e below (T29.setTop (mkF m 95 #[.val (.int p1), .val (.int p2), .val (.int p3), .val (.int p4), .val (.int n), .val (.int k), .val (.ref r), .unset, .unset] [(.int (3 : Int32)), (.int k)])) t := by
        intro t kt
        show Steps p.tables e below (T29.setTop (mkF m 95 #[.val (.int p1), .val (.int p2), .val (.int p3), .val (.int p4), .val (.int n), .val (.int k), .val (.ref r), .unset, .unset] [(.int (3 : Int32)), (.int k)])) _
        refine XS.icmpYes X29.here hx rfl (pc0 := 95) (pc' := 115) rfl (hb hby at_95) rfl (flt hc95).2.2.2 (by decide) (by decide) ?_
        exact kt
      exact ⟨T29, _, hd2, X29, N29, own_rs3 k n _ hk hn rp2 hc95, HI_2, fun t kt => (go40 t (go48 t kt))⟩
  refine own_go go39 ?_
  obtain ⟨T49, L49, hd4, X49, N49, rp4, HI_4, go49⟩ : ∃ (T' : State) (L' : List Loc) (hd4 : Int32), Stand p l e room_1 s m #[(.int p1), (.int p2), (.int p3), (.int p4)] below meth c T' L' 2 8 ∧ Fr n0 L' ∧ (hd4.toInt = own_mn (own_mn k.toInt 5) n.toInt) ∧ own_I Z T'.heap r b kb n hd4 ∧ ∀ t, Steps p.tables e below (T'.setTop (mkF m 138 #[.val (.int p1), .val (.int p2), .val (.int p3), .val (.int p4), .val (.int n), .val (.int k), .val (.ref r), .unset, .unset] [])) t → Steps p.tables e below (T39.setTop (mkF m 115 #[.val (.int p1), .val (.int p2), .val (.int p3), .val (.int p4), .val (.int n), .val (.int k), .val (.ref r), .unset, .unset] [])) t := by
    have go50 : ∀ t, Steps p.tables e below (T39.setTop (mkF m 118 #[.val (.int p1), .val (.int p2), .val (.int p3), .val (.int p4), .val (.int n), .val (.int k), .val (.ref r), .unset, .unset] [(.int (4 : Int32)), (.int k)])) t → Steps p.tables e below (T39.setTop (mkF m 115 #[.val (.int p1), .val (.int p2), .val (.int p3), .val (.int p4), .val (.int n), .val (.int k), .val (.ref r), .unset, .unset] [])) t := by
      intro t kt
      show Steps p.tables e below (T39.setTop (mkF m 115 #[.val (.int p1), .val (.int p2), .val (.int p3), .val (.int p4), .val (.int n), .val (.int k), .val (.ref r), .unset, .unset] [])) _
      refine XS.iload X39.here hx rfl (hb hby at_115) rfl ?_
      show Steps p.tables e below (T39.setTop (mkF m 117 #[.val (.int p1), .val (.int p2), .val (.int p3), .val (.int p4), .val (.int n), .val (.int k), .val (.ref r), .unset, .unset] [(.int k)])) _
      refine XS.iconst X39.here hx rfl (hb hby at_117) ?_
      exact kt
    rcases Classical.em ((4 : Int32) < k) with hc118 | hc118
    · have go51 : ∀ t, Steps p.tables e below (T39.setTop (mkF m 127 #[.val (.int p1), .val (.int p2), .val (.int p3), .val (.int p4), .val (.int n), .val (.int k), .val (.ref r), .unset, .unset] [(.int (p3 &&& (16 : Int32))), (.ref r)])) t → Steps p.tables e below (T39.setTop (mkF m 118 #[.val (.int p1), .val (.int p2), .val (.int p3), .val (.int p4), .val (.int n), .val (.int k), .val (.ref r), .unset, .unset] [(.int (4 : Int32)), (.int k)])) t := by
        intro t kt
        show Steps p.tables e below (T39.setTop (mkF m 118 #[.val (.int p1), .val (.int p2), .val (.int p3), .val (.int p4), .val (.int n), .val (.int k), .val (.ref r), .unset, .unset] [(.int (4 : Int32)), (.int k)])) _
        refine XS.icmpNo X39.here hx rfl (hb hby at_118) rfl (tlt hc118).2.2.2 ?_
        show Steps p.tables e below (T39.setTop (mkF m 121 #[.val (.int p1), .val (.int p2), .val (.int p3), .val (.int p4), .val (.int n), .val (.int k), .val (.ref r), .unset, .unset] [])) _
        refine XS.aload X39.here hx rfl (hb hby at_121) rfl rfl ?_
        show Steps p.tables e below (T39.setTop (mkF m 123 #[.val (.int p1), .val (.int p2), .val (.int p3), .val (.int p4), .val (.int n), .val (.int k), .val (.ref r), .unset, .unset] [(.ref r)])) _
        refine XS.iloadN X39.here hx rfl (hb hby at_123) rfl ?_
        show Steps p.tables e below (T39.setTop (mkF m 124 #[.val (.int p1), .val (.int p2), .val (.int p3), .val (.int p4), .val (.int n), .val (.int k), .val (.ref r), .unset, .unset] [(.int p3), (.ref r)])) _
        refine XS.bipush X39.here hx rfl (hb hby at_124) ?_
        show Steps p.tables e below (T39.setTop (mkF m 126 #[.val (.int p1), .val (.int p2), .val (.int p3), .val (.int p4), .val (.int n), .val (.int k), .val (.ref r), .unset, .unset] [(.int (16 : Int32)), (.int p3), (.ref r)])) _
        refine XS.iand X39.here hx rfl (hb hby at_126) rfl ?_
        exact kt
      rcases Classical.em ((p3 &&& (16 : Int32)) = (0 : Int32)) with hc127 | hc127
      · have go52 : ∀ t, Steps p.tables e below (T39.setTop (mkF m 135 #[.val (.int p1), .val (.int p2), .val (.int p3), .val (.int p4), .val (.int n), .val (.int k), .val (.ref r), .unset, .unset] [(.int (0 : Int32)), (.ref r)])) t → Steps p.tables e below (T39.setTop (mkF m 127 #[.val (.int p1), .val (.int p2), .val (.int p3), .val (.int p4), .val (.int n), .val (.int k), .val (.ref r), .unset, .unset] [(.int (p3 &&& (16 : Int32))), (.ref r)])) t := by
          intro t kt
          show Steps p.tables e below (T39.setTop (mkF m 127 #[.val (.int p1), .val (.int p2), .val (.int p3), .val (.int p4), .val (.int n), .val (.int k), .val (.ref r), .unset, .unset] [(.int (p3 &&& (16 : Int32))), (.ref r)])) _
          refine XS.ifYes X39.here hx rfl (pc0 := 127) (pc' := 134) rfl (hb hby at_127) rfl ((if0 _ _).trans (teq hc127).1) (by decide) (by decide) ?_
          show Steps p.tables e below (T39.setTop (mkF m 134 #[.val (.int p1), .val (.int p2), .val (.int p3), .val (.int p4), .val (.int n), .val (.int k), .val (.ref r), .unset, .unset] [(.ref r)])) _
          refine XS.iconst X39.here hx rfl (hb hby at_134) ?_
          exact kt
        obtain ⟨cq53, kq53, q53a, q53b, q53c⟩ := isOf hZ rfl (own_exa HI_3)
        obtain ⟨_, _, ⟨T53, L53, k53, n53⟩, -, X53, ⟨Lc53, hQ53, l53, y53, z53⟩, st53⟩ := X39.virtualBack hx (y := (⟨"com/example/shunt/shunt/core/OutcomeWindow", "add", "(Z)V"⟩ : MethodName)) (z := (⟨"com/example/shunt/shunt/core/OutcomeWindow", "add", "(Z)V"⟩ : MethodName)) hown (mvT hZ (hw _ (List.mem_of_getElem? (i := 12) rfl))) (mvT hZ (hw _ (List.mem_of_getElem? (i := 13) rfl))) (notFace_of_selects (args := #[]) (mvT hZ (hw _ (List.mem_of_getElem? (i := 15) rfl)))) (mvT hZ (hw _ (List.mem_of_getElem? (i := 15) rfl))) (mvT hZ (hw _ (List.mem_of_getElem? (i := 14) rfl))) (by decide) (backOf (W := 0) (rm3 l Z a0 hw [] r (0 : Int32) b kb n hd3 T39.heap n0 (own_szH g_r (own_exa HI_3)) HI_3 g_r gb nb hn) hZ (hw _ (List.mem_of_getElem? (i := 16) rfl)) (hw _ (List.mem_of_getElem? (i := 2) rfl)) (by decide) (by decide)) q53a q53c (g := (mkF m 135 #[.val (.int p1), .val (.int p2), .val (.int p3), .val (.int p4), .val (.int n), .val (.int k), .val (.ref r), .unset, .unset] [(.int (0 : Int32)), (.ref r)])) rfl (by rw [hml]; rfl) (Steps.refl _) (argsL := [(.int (0 : Int32))]) (rest := []) (lenOf pd_3 rfl) rfl (by show 2 * 0 + _ ≤ _; exact Nat.le_of_eq rfl) (hb hby at_135) (fun _ _ => ⟨rfl, rfl, (by decide : 2 + 0 ≤ _), (by decide : 8 + 0 ≤ _)⟩)
        dsimp only [Pt.U, Pt.locs, Pt.cells, Pt.slots] at X53 l53 y53 z53 st53 hQ53
        subst l53 y53 z53
        obtain ⟨rfl, N53q, HI53⟩ := hQ53
        have N53 := Fr.app N39 N53q
        have go54 : ∀ t, Steps p.tables e below (T53.setTop (mkF m 138 #[.val (.int p1), .val (.int p2), .val (.int p3), .val (.int p4), .val (.int n), .val (.int k), .val (.ref r), .unset, .unset] [])) t → _ := (fun t k => st53.trans k)
        exact ⟨T53, _, (own_min (hd3 + (1 : Int32)) n), X53, N53, own_rt4 k n _ hk hn rp3 hc118, HI53, fun t kt => (go50 t (go51 t (go52 t (go54 t kt))))⟩
      · have go55 : ∀ t, Steps p.tables e below (T39.setTop (mkF m 135 #[.val (.int p1), .val (.int p2), .val (.int p3), .val (.int p4), .val (.int n), .val (.int k), .val (.ref r), .unset, .unset] [(.int (1 : Int32)), (.ref r)])) t → Steps p.tables e below (T39.setTop (mkF m 127 #[.val (.int p1), .val (.int p2), .val (.int p3), .val (.int p4), .val (.int n), .val (.int k), .val (.ref r), .unset, .unset] [(.int (p3 &&& (16 : Int32))), (.ref r)])) t := by
          intro t kt
          show Steps p.tables e below (T39.setTop (mkF m 127 #[.val (.int p1), .val (.int p2), .val (.int p3), .val (.int p4), .val (.int n), .val (.int k), .val (.ref r), .unset, .unset] [(.int (p3 &&& (16 : Int32))), (.ref r)])) _
          refine XS.ifNo X39.here hx rfl (hb hby at_127) rfl ((if0 _ _).trans (feq hc127).1) ?_
          show Steps p.tables e below (T39.setTop (mkF m 130 #[.val (.int p1), .val (.int p2), .val (.int p3), .val (.int p4), .val (.int n), .val (.int k), .val (.ref r), .unset, .unset] [(.ref r)])) _
          refine XS.iconst X39.here hx rfl (hb hby at_130) ?_
          show Steps p.tables e below (T39.setTop (mkF m 131 #[.val (.int p1), .val (.int p2), .val (.int p3), .val (.int p4), .val (.int n), .val (.int k), .val (.ref r), .unset, .unset] [(.int (1 : Int32)), (.ref r)])) _
          refine XS.goto X39.here hx rfl (pc0 := 131) (pc' := 135) rfl (hb hby at_131) (by decide) (by decide) ?_
          exact kt
        obtain ⟨cq56, kq56, q56a, q56b, q56c⟩ := isOf hZ rfl (own_exa HI_3)
        obtain ⟨_, _, ⟨T56, L56, k56, n56⟩, -, X56, ⟨Lc56, hQ56, l56, y56, z56⟩, st56⟩ := X39.virtualBack hx (y := (⟨"com/example/shunt/shunt/core/OutcomeWindow", "add", "(Z)V"⟩ : MethodName)) (z := (⟨"com/example/shunt/shunt/core/OutcomeWindow", "add", "(Z)V"⟩ : MethodName)) hown (mvT hZ (hw _ (List.mem_of_getElem? (i := 12) rfl))) (mvT hZ (hw _ (List.mem_of_getElem? (i := 13) rfl))) (notFace_of_selects (args := #[]) (mvT hZ (hw _ (List.mem_of_getElem? (i := 15) rfl)))) (mvT hZ (hw _ (List.mem_of_getElem? (i := 15) rfl))) (mvT hZ (hw _ (List.mem_of_getElem? (i := 14) rfl))) (by decide) (backOf (W := 0) (rm3 l Z a0 hw [] r (1 : Int32) b kb n hd3 T39.heap n0 (own_szH g_r (own_exa HI_3)) HI_3 g_r gb nb hn) hZ (hw _ (List.mem_of_getElem? (i := 16) rfl)) (hw _ (List.mem_of_getElem? (i := 2) rfl)) (by decide) (by decide)) q56a q56c (g := (mkF m 135 #[.val (.int p1), .val (.int p2), .val (.int p3), .val (.int p4), .val (.int n), .val (.int k), .val (.ref r), .unset, .unset] [(.int (1 : Int32)), (.ref r)])) rfl (by rw [hml]; rfl) (Steps.refl _) (argsL := [(.int (1 : Int32))]) (rest := []) (lenOf pd_3 rfl) rfl (by show 2 * 0 + _ ≤ _; exact Nat.le_of_eq rfl) (hb hby at_135) (fun _ _ => ⟨rfl, rfl, (by decide : 2 + 0 ≤ _), (by decide : 8 + 0 ≤ _)⟩)
        dsimp only [Pt.U, Pt.locs, Pt.cells, Pt.slots] at X56 l56 y56 z56 st56 hQ56
        subst l56 y56 z56
        obtain ⟨rfl, N56q, HI56⟩ := hQ56
        have N56 := Fr.app N39 N56q
        have go57 : ∀ t, Steps p.tables e below (T56.setTop (mkF m 138 #[.val (.int p1), .val (.int p2), .val (.int p3), .val (.int p4), .val (.int n), .val (.int k), .val (.ref r), .unset, .unset] [])) t → _ := (fun t k => st56.trans k)
        exact ⟨T56, _, (own_min (hd3 + (1 : Int32)) n), X56, N56, own_rt4 k n _ hk hn rp3 hc118, HI56, fun t kt => (go50 t (go51 t (go55 t (go57 t kt))))⟩
    · have go58 : ∀ t, Steps p.tables e below (T39.setTop (mkF m 138 #[.val (.int p1), .val (.int p2), .val (.int p3), .val (.int p4), .val (.int n), .val (.int k), .val (.ref r), .unset, .unset] [])) t → Steps p.tables e below (T39.setTop (mkF m 118 #[.val (.int p1), .val (.int p2), .val (.int p3), .val (.int p4), .val (.int n), .val (.int k), .val (.ref r), .unset, .unset] [(.int (4 : Int32)), (.int k)])) t := by
        intro t kt
        show Steps p.tables e below (T39.setTop (mkF m 118 #[.val (.int p1), .val (.int p2), .val (.int p3), .val (.int p4), .val (.int n), .val (.int k), .val (.ref r), .unset, .unset] [(.int (4 : Int32)), (.int k)])) _
        refine XS.icmpYes X39.here hx rfl (pc0 := 118) (pc' := 138) rfl (hb hby at_118) rfl (flt hc118).2.2.2 (by decide) (by decide) ?_
        exact kt
      exact ⟨T39, _, hd3, X39, N39, own_rs4 k n _ hk hn rp3 hc118, HI_3, fun t kt => (go50 t (go58 t kt))⟩
  refine own_go go49 ?_
  have go59 : ∀ t, Steps p.tables e below (T49.setTop (mkF m 140 #[.val (.int p1), .val (.int p2), .val (.int p3), .val (.int p4), .val (.int n), .val (.int k), .val (.ref r), .unset, .unset] [(.ref r)])) t → Steps p.tables e below (T49.setTop (mkF m 138 #[.val (.int p1), .val (.int p2), .val (.int p3), .val (.int p4), .val (.int n), .val (.int k), .val (.ref r), .unset, .unset] [])) t := by
    intro t kt
    show Steps p.tables e below (T49.setTop (mkF m 138 #[.val (.int p1), .val (.int p2), .val (.int p3), .val (.int p4), .val (.int n), .val (.int k), .val (.ref r), .unset, .unset] [])) _
    refine XS.aload X49.here hx rfl (hb hby at_138) rfl rfl ?_
    exact kt
  refine own_go go59 ?_
  obtain ⟨cq60, kq60, q60a, q60b, q60c⟩ := isOf hZ rfl (own_exa HI_4)
  obtain ⟨_, _, ⟨T60, L60, k60, n60⟩, -, X60, ⟨Lc60, hQ60, l60, y60, z60⟩, st60⟩ := X49.virtualBack hx (y := (⟨"com/example/shunt/shunt/core/OutcomeWindow", "isFull", "()Z"⟩ : MethodName)) (z := (⟨"com/example/shunt/shunt/core/OutcomeWindow", "isFull", "()Z"⟩ : MethodName)) hown (mvT hZ (hw _ (List.mem_of_getElem? (i := 32) rfl))) (mvT hZ (hw _ (List.mem_of_getElem? (i := 18) rfl))) (notFace_of_selects (args := #[]) (mvT hZ (hw _ (List.mem_of_getElem? (i := 20) rfl)))) (mvT hZ (hw _ (List.mem_of_getElem? (i := 20) rfl))) (mvT hZ (hw _ (List.mem_of_getElem? (i := 19) rfl))) (by decide) (backOf (W := 0) (rm4 l Z a0 hw [] r b kb n hd4 T49.heap n0 (own_szH g_r (own_exa HI_4)) HI_4) hZ (hw _ (List.mem_of_getElem? (i := 21) rfl)) (hw _ (List.mem_of_getElem? (i := 2) rfl)) (by decide) (by decide)) q60a q60c (g := (mkF m 140 #[.val (.int p1), .val (.int p2), .val (.int p3), .val (.int p4), .val (.int n), .val (.int k), .val (.ref r), .unset, .unset] [(.ref r)])) rfl (by rw [hml]; rfl) (Steps.refl _) (argsL := []) (rest := []) (lenOf pd_0 rfl) rfl (by show 2 * 0 + _ ≤ _; exact Nat.le_of_eq rfl) (hb hby at_140) (fun _ _ => ⟨rfl, rfl, (by decide : 2 + 0 ≤ _), (by decide : 8 + 0 ≤ _)⟩)
  dsimp only [Pt.U, Pt.locs, Pt.cells, Pt.slots] at X60 l60 y60 z60 st60 hQ60
  subst l60 y60 z60
  obtain ⟨rfl, N60q, ef1⟩ := hQ60
  have N60 := Fr.app N49 N60q
  refine own_go (S' := T60.setTop (mkF m 143 #[.val (.int p1), .val (.int p2), .val (.int p3), .val (.int p4), .val (.int n), .val (.int k), .val (.ref r), .unset, .unset] [(.int (own_full hd4 n))])) (fun t k => st60.trans k) ?_
  obtain ⟨kn, hkn, go61⟩ : ∃ kn : Int32, (kn = own_ge k n) ∧ ∀ t, Steps p.tables e below (T60.setTop (mkF m 155 #[.val (.int p1), .val (.int p2), .val (.int p3), .val (.int p4), .val (.int n), .val (.int k), .val (.ref r), .unset, .unset] [(.int kn), (.int (own_full hd4 n))])) t → Steps p.tables e below (T60.setTop (mkF m 143 #[.val (.int p1), .val (.int p2), .val (.int p3), .val (.int p4), .val (.int n), .val (.int k), .val (.ref r), .unset, .unset] [(.int (own_full hd4 n))])) t := by
    have go62 : ∀ t, Steps p.tables e below (T60.setTop (mkF m 147 #[.val (.int p1), .val (.int p2), .val (.int p3), .val (.int p4), .val (.int n), .val (.int k), .val (.ref r), .unset, .unset] [(.int n), (.int k), (.int (own_full hd4 n))])) t → Steps p.tables e below (T60.setTop (mkF m 143 #[.val (.int p1), .val (.int p2), .val (.int p3), .val (.int p4), .val (.int n), .val (.int k), .val (.ref r), .unset, .unset] [(.int (own_full hd4 n))])) t := by
      intro t kt
      show Steps p.tables e below (T60.setTop (mkF m 143 #[.val (.int p1), .val (.int p2), .val (.int p3), .val (.int p4), .val (.int n), .val (.int k), .val (.ref r), .unset, .unset] [(.int (own_full hd4 n))])) _
      refine XS.iload X60.here hx rfl (hb hby at_143) rfl ?_
      show Steps p.tables e below (T60.setTop (mkF m 145 #[.val (.int p1), .val (.int p2), .val (.int p3), .val (.int p4), .val (.int n), .val (.int k), .val (.ref r), .unset, .unset] [(.int k), (.int (own_full hd4 n))])) _
      refine XS.iload X60.here hx rfl (hb hby at_145) rfl ?_
      exact kt
    rcases Classical.em (k < n) with hc147 | hc147
    · have go63 : ∀ t, Steps p.tables e below (T60.setTop (mkF m 155 #[.val (.int p1), .val (.int p2), .val (.int p3), .val (.int p4), .val (.int n), .val (.int k), .val (.ref r), .unset, .unset] [(.int (0 : Int32)), (.int (own_full hd4 n))])) t → Steps p.tables e below (T60.setTop (mkF m 147 #[.val (.int p1), .val (.int p2), .val (.int p3), .val (.int p4), .val (.int n), .val (.int k), .val (.ref r), .unset, .unset] [(.int n), (.int k), (.int (own_full hd4 n))])) t := by
        intro t kt
        show Steps p.tables e below (T60.setTop (mkF m 147 #[.val (.int p1), .val (.int p2), .val (.int p3), .val (.int p4), .val (.int n), .val (.int k), .val (.ref r), .unset, .unset] [(.int n), (.int k), (.int (own_full hd4 n))])) _
        refine XS.icmpYes X60.here hx rfl (pc0 := 147) (pc' := 154) rfl (hb hby at_147) rfl (tlt hc147).1 (by decide) (by decide) ?_
        show Steps p.tables e below (T60.setTop (mkF m 154 #[.val (.int p1), .val (.int p2), .val (.int p3), .val (.int p4), .val (.int n), .val (.int k), .val (.ref r), .unset, .unset] [(.int (own_full hd4 n))])) _
        refine XS.iconst X60.here hx rfl (hb hby at_154) ?_
        exact kt
      exact ⟨(0 : Int32), by first | (simp only [own_ge, hc147, not_true_eq_false, not_false_eq_true, and_true, true_and, and_false, false_and, or_true, true_or, or_false, false_or, and_self, or_self, eq_self, if_true, if_false]; done) | (simp [own_ge, hc147]; done), fun t kt => (go62 t (go63 t kt))⟩
    · have go64 : ∀ t, Steps p.tables e below (T60.setTop (mkF m 155 #[.val (.int p1), .val (.int p2), .val (.int p3), .val (.int p4), .val (.int n), .val (.int k), .val (.ref r), .unset, .unset] [(.int (1 : Int32)), (.int (own_full hd4 n))])) t → Steps p.tables e below (T60.setTop (mkF m 147 #[.val (.int p1), .val (.int p2), .val (.int p3), .val (.int p4), .val (.int n), .val (.int k), .val (.ref r), .unset, .unset] [(.int n), (.int k), (.int (own_full hd4 n))])) t := by
        intro t kt
        show Steps p.tables e below (T60.setTop (mkF m 147 #[.val (.int p1), .val (.int p2), .val (.int p3), .val (.int p4), .val (.int n), .val (.int k), .val (.ref r), .unset, .unset] [(.int n), (.int k), (.int (own_full hd4 n))])) _
        refine XS.icmpNo X60.here hx rfl (hb hby at_147) rfl (flt hc147).1 ?_
        show Steps p.tables e below (T60.setTop (mkF m 150 #[.val (.int p1), .val (.int p2), .val (.int p3), .val (.int p4), .val (.int n), .val (.int k), .val (.ref r), .unset, .unset] [(.int (own_full hd4 n))])) _
        refine XS.iconst X60.here hx rfl (hb hby at_150) ?_
        show Steps p.tables e below (T60.setTop (mkF m 151 #[.val (.int p1), .val (.int p2), .val (.int p3), .val (.int p4), .val (.int n), .val (.int k), .val (.ref r), .unset, .unset] [(.int (1 : Int32)), (.int (own_full hd4 n))])) _
        refine XS.goto X60.here hx rfl (pc0 := 151) (pc' := 155) rfl (hb hby at_151) (by decide) (by decide) ?_
        exact kt
      exact ⟨(1 : Int32), by first | (simp only [own_ge, hc147, not_true_eq_false, not_false_eq_true, and_true, true_and, and_false, false_and, or_true, true_or, or_false, false_or, and_self, or_self, eq_self, if_true, if_false]; done) | (simp [own_ge, hc147]; done), fun t kt => (go62 t (go64 t kt))⟩
  refine own_go go61 ?_
  have go65 : ∀ t, Steps p.tables e below (T60.setTop (mkF m 168 #[.val (.int p1), .val (.int p2), .val (.int p3), .val (.int p4), .val (.int n), .val (.int k), .val (.ref r), .val (.int (1 : Int32)), .unset] [(.int (p4 &&& (1 : Int32)))])) t → Steps p.tables e below (T60.setTop (mkF m 155 #[.val (.int p1), .val (.int p2), .val (.int p3), .val (.int p4), .val (.int n), .val (.int k), .val (.ref r), .unset, .unset] [(.int kn), (.int (own_full hd4 n))])) t := by
    intro t kt
    show Steps p.tables e below (T60.setTop (mkF m 155 #[.val (.int p1), .val (.int p2), .val (.int p3), .val (.int p4), .val (.int n), .val (.int k), .val (.ref r), .unset, .unset] [(.int kn), (.int (own_full hd4 n))])) _
    refine XS.icmpNo X60.here hx rfl (hb hby at_155) rfl (teq ((own_fk k n hd4 hk hn rp4).trans hkn.symm)).2 ?_
    show Steps p.tables e below (T60.setTop (mkF m 158 #[.val (.int p1), .val (.int p2), .val (.int p3), .val (.int p4), .val (.int n), .val (.int k), .val (.ref r), .unset, .unset] [])) _
    refine XS.iconst X60.here hx rfl (hb hby at_158) ?_
    show Steps p.tables e below (T60.setTop (mkF m 159 #[.val (.int p1), .val (.int p2), .val (.int p3), .val (.int p4), .val (.int n), .val (.int k), .val (.ref r), .unset, .unset] [(.int (1 : Int32))])) _
    refine XS.goto X60.here hx rfl (pc0 := 159) (pc' := 163) rfl (hb hby at_159) (by decide) (by decide) ?_
    show Steps p.tables e below (T60.setTop (mkF m 163 #[.val (.int p1), .val (.int p2), .val (.int p3), .val (.int p4), .val (.int n), .val (.int k), .val (.ref r), .unset, .unset] [(.int (1 : Int32))])) _
    refine XS.istore X60.here hx rfl (hb hby at_163) rfl (l' := #[.val (.int p1), .val (.int p2), .val (.int p3), .val (.int p4), .val (.int n), .val (.int k), .val (.ref r), .val (.int (1 : Int32)), .unset]) rfl ?_
    show Steps p.tables e below (T60.setTop (mkF m 165 #[.val (.int p1), .val (.int p2), .val (.int p3), .val (.int p4), .val (.int n), .val (.int k), .val (.ref r), .val (.int (1 : Int32)), .unset] [])) _
    refine XS.iloadN X60.here hx rfl (hb hby at_165) rfl ?_
    show Steps p.tables e below (T60.setTop (mkF m 166 #[.val (.int p1), .val (.int p2), .val (.int p3), .val (.int p4), .val (.int n), .val (.int k), .val (.ref r), .val (.int (1 : Int32)), .unset] [(.int p4)])) _
    refine XS.iconst X60.here hx rfl (hb hby at_166) ?_
    show Steps p.tables e below (T60.setTop (mkF m 167 #[.val (.int p1), .val (.int p2), .val (.int p3), .val (.int p4), .val (.int n), .val (.int k), .val (.ref r), .val (.int (1 : Int32)), .unset] [(.int (1 : Int32)), (.int p4)])) _
    refine XS.iand X60.here hx rfl (hb hby at_167) rfl ?_
    exact kt
  refine own_go go65 ?_
  rcases Classical.em ((p4 &&& (1 : Int32)) = (0 : Int32)) with hc168 | hc168
  · have go66 : ∀ t, Steps p.tables e below (T60.setTop (mkF m 237 #[.val (.int p1), .val (.int p2), .val (.int p3), .val (.int p4), .val (.int n), .val (.int k), .val (.ref r), .val (.int (1 : Int32)), .unset] [(.int (1 : Int32))])) t → Steps p.tables e below (T60.setTop (mkF m 168 #[.val (.int p1), .val (.int p2), .val (.int p3), .val (.int p4), .val (.int n), .val (.int k), .val (.ref r), .val (.int (1 : Int32)), .unset] [(.int (p4 &&& (1 : Int32)))])) t := by
      intro t kt
      show Steps p.tables e below (T60.setTop (mkF m 168 #[.val (.int p1), .val (.int p2), .val (.int p3), .val (.int p4), .val (.int n), .val (.int k), .val (.ref r), .val (.int (1 : Int32)), .unset] [(.int (p4 &&& (1 : Int32)))])) _
      refine XS.ifYes X60.here hx rfl (pc0 := 168) (pc' := 235) rfl (hb hby at_168) rfl ((if0 _ _).trans (teq hc168).1) (by decide) (by decide) ?_
      show Steps p.tables e below (T60.setTop (mkF m 235 #[.val (.int p1), .val (.int p2), .val (.int p3), .val (.int p4), .val (.int n), .val (.int k), .val (.ref r), .val (.int (1 : Int32)), .unset] [])) _
      refine XS.iload X60.here hx rfl (hb hby at_235) rfl ?_
      exact kt
    refine own_go go66 ?_
    obtain ⟨fs, hr, hrun, hended, hW, hsame⟩ := X60.leave (v := some (.int (1 : Int32))) (fun h => by rw [Bd.returns] at h; cases h)
    refine ⟨_, _, retN X60 hx (t := .boolean) Bd.returns (by simp) (hb hby at_237) hr, hrun, hended, _, _, rfl, ?_, ⟨_, rfl⟩, hW, hsame.mono (by decide) (by decide)⟩
    show Q0 Z  h0 n0 _ T60.heap _
    rw [ef1]
    exact ⟨rfl, N60⟩
  · have go67 : ∀ t, Steps p.tables e below (T60.setTop (mkF m 173 #[.val (.int p1), .val (.int p2), .val (.int p3), .val (.int p4), .val (.int n), .val (.int k), .val (.ref r), .val (.int (1 : Int32)), .unset] [(.ref r)])) t → Steps p.tables e below (T60.setTop (mkF m 168 #[.val (.int p1), .val (.int p2), .val (.int p3), .val (.int p4), .val (.int n), .val (.int k), .val (.ref r), .val (.int (1 : Int32)), .unset] [(.int (p4 &&& (1 : Int32)))])) t := by
      intro t kt
      show Steps p.tables e below (T60.setTop (mkF m 168 #[.val (.int p1), .val (.int p2), .val (.int p3), .val (.int p4), .val (.int n), .val (.int k), .val (.ref r), .val (.int (1 : Int32)), .unset] [(.int (p4 &&& (1 : Int32)))])) _
      refine XS.ifNo X60.here hx rfl (hb hby at_168) rfl ((if0 _ _).trans (feq hc168).1) ?_
      show Steps p.tables e below (T60.setTop (mkF m 171 #[.val (.int p1), .val (.int p2), .val (.int p3), .val (.int p4), .val (.int n), .val (.int k), .val (.ref r), .val (.int (1 : Int32)), .unset] [])) _
      refine XS.aload X60.here hx rfl (hb hby at_171) rfl rfl ?_
      exact kt
    refine own_go go67 ?_
    obtain ⟨cq68, kq68, q68a, q68b, q68c⟩ := isOf hZ ef1 (own_exa HI_4)
    obtain ⟨_, _, ⟨T68, L68, k68, n68⟩, -, X68, ⟨Lc68, hQ68, l68, y68, z68⟩, st68⟩ := X60.virtualBack hx (y := (⟨"com/example/shunt/shunt/core/OutcomeWindow", "clear", "()V"⟩ : MethodName)) (z := (⟨"com/example/shunt/shunt/core/OutcomeWindow", "clear", "()V"⟩ : MethodName)) hown (mvT hZ (hw _ (List.mem_of_getElem? (i := 33) rfl))) (mvT hZ (hw _ (List.mem_of_getElem? (i := 34) rfl))) (notFace_of_selects (args := #[]) (mvT hZ (hw _ (List.mem_of_getElem? (i := 36) rfl)))) (mvT hZ (hw _ (List.mem_of_getElem? (i := 36) rfl))) (mvT hZ (hw _ (List.mem_of_getElem? (i := 35) rfl))) (by decide) (backOf (W := 0) (rm6 l Z a0 hw [] r b kb n hd4 T49.heap n0 (own_szH g_r (own_exa HI_4)) HI_4 g_r nb hn) hZ (hw _ (List.mem_of_getElem? (i := 37) rfl)) (hw _ (List.mem_of_getElem? (i := 2) rfl)) (by decide) (by decide)) q68a q68c (g := (mkF m 173 #[.val (.int p1), .val (.int p2), .val (.int p3), .val (.int p4), .val (.int n), .val (.int k), .val (.ref r), .val (.int (1 : Int32)), .unset] [(.ref r)])) rfl (by rw [hml]; rfl) (Steps.refl _) (argsL := []) (rest := []) (lenOf pd_4 rfl) rfl (by show 2 * 0 + _ ≤ _; exact Nat.le_of_eq rfl) (hb hby at_173) (fun _ _ => ⟨rfl, ef1, (by decide : 2 + 0 ≤ _), (by decide : 8 + 0 ≤ _)⟩)
    dsimp only [Pt.U, Pt.locs, Pt.cells, Pt.slots] at X68 l68 y68 z68 st68 hQ68
    subst l68 y68 z68
    obtain ⟨rfl, N68q, HIc⟩ := hQ68
    have N68 := Fr.app N60 N68q
    refine own_go (S' := T68.setTop (mkF m 176 #[.val (.int p1), .val (.int p2), .val (.int p3), .val (.int p4), .val (.int n), .val (.int k), .val (.ref r), .val (.int (1 : Int32)), .unset] [])) (fun t k => st68.trans k) ?_
    have go69 : ∀ t, Steps p.tables e below (T68.setTop (mkF m 178 #[.val (.int p1), .val (.int p2), .val (.int p3), .val (.int p4), .val (.int n), .val (.int k), .val (.ref r), .val (.int (1 : Int32)), .unset] [(.ref r)])) t → Steps p.tables e below (T68.setTop (mkF m 176 #[.val (.int p1), .val (.int p2), .val (.int p3), .val (.int p4), .val (.int n), .val (.int k), .val (.ref r), .val (.int (1 : Int32)), .unset] [])) t := by
      intro t kt
      show Steps p.tables e below (T68.setTop (mkF m 176 #[.val (.int p1), .val (.int p2), .val (.int p3), .val (.int p4), .val (.int n), .val (.int k), .val (.ref r), .val (.int (1 : Int32)), .unset] [])) _
      refine XS.aload X68.here hx rfl (hb hby at_176) rfl rfl ?_
      exact kt
    refine own_go go69 ?_
    obtain ⟨cq70, kq70, q70a, q70b, q70c⟩ := isOf hZ rfl (own_exa HIc)
    obtain ⟨_, _, ⟨T70, L70, k70, n70⟩, -, X70, ⟨Lc70, hQ70, l70, y70, z70⟩, st70⟩ := X68.virtualBack hx (y := (⟨"com/example/shunt/shunt/core/OutcomeWindow", "isFull", "()Z"⟩ : MethodName)) (z := (⟨"com/example/shunt/shunt/core/OutcomeWindow", "isFull", "()Z"⟩ : MethodName)) hown (mvT hZ (hw _ (List.mem_of_getElem? (i := 32) rfl))) (mvT hZ (hw _ (List.mem_of_getElem? (i := 18) rfl))) (notFace_of_selects (args := #[]) (mvT hZ (hw _ (List.mem_of_getElem? (i := 20) rfl)))) (mvT hZ (hw _ (List.mem_of_getElem? (i := 20) rfl))) (mvT hZ (hw _ (List.mem_of_getElem? (i := 19) rfl))) (by decide) (backOf (W := 0) (rm4 l Z a0 hw [] r b kb n (0 : Int32) T68.heap n0 (own_szH g_r (own_exa HIc)) HIc) hZ (hw _ (List.mem_of_getElem? (i := 21) rfl)) (hw _ (List.mem_of_getElem? (i := 2) rfl)) (by decide) (by decide)) q70a q70c (g := (mkF m 178 #[.val (.int p1), .val (.int p2), .val (.int p3), .val (.int p4), .val (.int n), .val (.int k), .val (.ref r), .val (.int (1 : Int32)), .unset] [(.ref r)])) rfl (by rw [hml]; rfl) (Steps.refl _) (argsL := []) (rest := []) (lenOf pd_0 rfl) rfl (by show 2 * 0 + _ ≤ _; exact Nat.le_of_eq rfl) (hb hby at_178) (fun _ _ => ⟨rfl, rfl, (by decide : 2 + 0 ≤ _), (by decide : 8 + 0 ≤ _)⟩)
    dsimp only [Pt.U, Pt.locs, Pt.cells, Pt.slots] at X70 l70 y70 z70 st70 hQ70
    subst l70 y70 z70
    obtain ⟨rfl, N70q, e178⟩ := hQ70
    have N70 := Fr.app N68 N70q
    refine own_go (S' := T70.setTop (mkF m 181 #[.val (.int p1), .val (.int p2), .val (.int p3), .val (.int p4), .val (.int n), .val (.int k), .val (.ref r), .val (.int (1 : Int32)), .unset] [(.int (own_full (0 : Int32) n))])) (fun t k => st70.trans k) ?_
    obtain ⟨d2, hd2, go71⟩ : ∃ d2 : Int32, (True) ∧ ∀ t, Steps p.tables e below (T70.setTop (mkF m 196 #[.val (.int p1), .val (.int p2), .val (.int p3), .val (.int p4), .val (.int n), .val (.int k), .val (.ref r), .val (.int (1 : Int32)), .val (.int (own_full (0 : Int32) n))] [(.int d2), (.ref r)])) t → Steps p.tables e below (T70.setTop (mkF m 181 #[.val (.int p1), .val (.int p2), .val (.int p3), .val (.int p4), .val (.int n), .val (.int k), .val (.ref r), .val (.int (1 : Int32)), .unset] [(.int (own_full (0 : Int32) n))])) t := by
      have go72 : ∀ t, Steps p.tables e below (T70.setTop (mkF m 188 #[.val (.int p1), .val (.int p2), .val (.int p3), .val (.int p4), .val (.int n), .val (.int k), .val (.ref r), .val (.int (1 : Int32)), .val (.int (own_full (0 : Int32) n))] [(.int (p4 &&& (2 : Int32))), (.ref r)])) t → Steps p.tables e below (T70.setTop (mkF m 181 #[.val (.int p1), .val (.int p2), .val (.int p3), .val (.int p4), .val (.int n), .val (.int k), .val (.ref r), .val (.int (1 : Int32)), .unset] [(.int (own_full (0 : Int32) n))])) t := by
        intro t kt
        show Steps p.tables e below (T70.setTop (mkF m 181 #[.val (.int p1), .val (.int p2), .val (.int p3), .val (.int p4), .val (.int n), .val (.int k), .val (.ref r), .val (.int (1 : Int32)), .unset] [(.int (own_full (0 : Int32) n))])) _
        refine XS.istore X70.here hx rfl (hb hby at_181) rfl (l' := #[.val (.int p1), .val (.int p2), .val (.int p3), .val (.int p4), .val (.int n), .val (.int k), .val (.ref r), .val (.int (1 : Int32)), .val (.int (own_full (0 : Int32) n))]) rfl ?_
        show Steps p.tables e below (T70.setTop (mkF m 183 #[.val (.int p1), .val (.int p2), .val (.int p3), .val (.int p4), .val (.int n), .val (.int k), .val (.ref r), .val (.int (1 : Int32)), .val (.int (own_full (0 : Int32) n))] [])) _
        refine XS.aload X70.here hx rfl (hb hby at_183) rfl rfl ?_
        show Steps p.tables e below (T70.setTop (mkF m 185 #[.val (.int p1), .val (.int p2), .val (.int p3), .val (.int p4), .val (.int n), .val (.int k), .val (.ref r), .val (.int (1 : Int32)), .val (.int (own_full (0 : Int32) n))] [(.ref r)])) _
        refine XS.iloadN X70.here hx rfl (hb hby at_185) rfl ?_
        show Steps p.tables e below (T70.setTop (mkF m 186 #[.val (.int p1), .val (.int p2), .val (.int p3), .val (.int p4), .val (.int n), .val (.int k), .val (.ref r), .val (.int (1 : Int32)), .val (.int (own_full (0 : Int32) n))] [(.int p4), (.ref r)])) _
        refine XS.iconst X70.here hx rfl (hb hby at_186) ?_
        show Steps p.tables e below (T70.setTop (mkF m 187 #[.val (.int p1), .val (.int p2), .val (.int p3), .val (.int p4), .val (.int n), .val (.int k), .val (.ref r), .val (.int (1 : Int32)), .val (.int (own_full (0 : Int32) n))] [(.int (2 : Int32)), (.int p4), (.ref r)])) _
        refine XS.iand X70.here hx rfl (hb hby at_187) rfl ?_
        exact kt
      rcases Classical.em ((p4 &&& (2 : Int32)) = (0 : Int32)) with hc188 | hc188
      · have go73 : ∀ t, Steps p.tables e below (T70.setTop (mkF m 196 #[.val (.int p1), .val (.int p2), .val (.int p3), .val (.int p4), .val (.int n), .val (.int k), .val (.ref r), .val (.int (1 : Int32)), .val (.int (own_full (0 : Int32) n))] [(.int (0 : Int32)), (.ref r)])) t → Steps p.tables e below (T70.setTop (mkF m 188 #[.val (.int p1), .val (.int p2), .val (.int p3), .val (.int p4), .val (.int n), .val (.int k), .val (.ref r), .val (.int (1 : Int32)), .val (.int (own_full (0 : Int32) n))] [(.int (p4 &&& (2 : Int32))), (.ref r)])) t := by
          intro t kt
          show Steps p.tables e below (T70.setTop (mkF m 188 #[.val (.int p1), .val (.int p2), .val (.int p3), .val (.int p4), .val (.int n), .val (.int k), .val (.ref r), .val (.int (1 : Int32)), .val (.int (own_full (0 : Int32) n))] [(.int (p4 &&& (2 : Int32))), (.ref r)])) _
          refine XS.ifYes X70.here hx rfl (pc0 := 188) (pc' := 195) rfl (hb hby at_188) rfl ((if0 _ _).trans (teq hc188).1) (by decide) (by decide) ?_
          show Steps p.tables e below (T70.setTop (mkF m 195 #[.val (.int p1), .val (.int p2), .val (.int p3), .val (.int p4), .val (.int n), .val (.int k), .val (.ref r), .val (.int (1 : Int32)), .val (.int (own_full (0 : Int32) n))] [(.ref r)])) _
          refine XS.iconst X70.here hx rfl (hb hby at_195) ?_
          exact kt
        exact ⟨(0 : Int32), trivial, fun t kt => (go72 t (go73 t kt))⟩
      · have go74 : ∀ t, Steps p.tables e below (T70.setTop (mkF m 196 #[.val (.int p1), .val (.int p2), .val (.int p3), .val (.int p4), .val (.int n), .val (.int k), .val (.ref r), .val (.int (1 : Int32)), .val (.int (own_full (0 : Int32) n))] [(.int (1 : Int32)), (.ref r)])) t → Steps p.tables e below (T70.setTop (mkF m 188 #[.val (.int p1), .val (.int p2), .val (.int p3), .val (.int p4), .val (.int n), .val (.int k), .val (.ref r), .val (.int (1 : Int32)), .val (.int (own_full (0 : Int32) n))] [(.int (p4 &&& (2 : Int32))), (.ref r)])) t := by
          intro t kt
          show Steps p.tables e below (T70.setTop (mkF m 188 #[.val (.int p1), .val (.int p2), .val (.int p3), .val (.int p4), .val (.int n), .val (.int k), .val (.ref r), .val (.int (1 : Int32)), .val (.int (own_full (0 : Int32) n))] [(.int (p4 &&& (2 : Int32))), (.ref r)])) _
          refine XS.ifNo X70.here hx rfl (hb hby at_188) rfl ((if0 _ _).trans (feq hc188).1) ?_
          show Steps p.tables e below (T70.setTop (mkF m 191 #[.val (.int p1), .val (.int p2), .val (.int p3), .val (.int p4), .val (.int n), .val (.int k), .val (.ref r), .val (.int (1 : Int32)), .val (.int (own_full (0 : Int32) n))] [(.ref r)])) _
          refine XS.iconst X70.here hx rfl (hb hby at_191) ?_
          show Steps p.tables e below (T70.setTop (mkF m 192 #[.val (.int p1), .val (.int p2), .val (.int p3), .val (.int p4), .val (.int n), .val (.int k), .val (.ref r), .val (.int (1 : Int32)), .val (.int (own_full (0 : Int32) n))] [(.int (1 : Int32)), (.ref r)])) _
          refine XS.goto X70.here hx rfl (pc0 := 192) (pc' := 196) rfl (hb hby at_192) (by decide) (by decide) ?_
          exact kt
        exact ⟨(1 : Int32), trivial, fun t kt => (go72 t (go74 t kt))⟩
    refine own_go go71 ?_
    obtain ⟨cq75, kq75, q75a, q75b, q75c⟩ := isOf hZ e178 (own_exa HIc)
    obtain ⟨_, _, ⟨T75, L75, k75, n75⟩, -, X75, ⟨Lc75, hQ75, l75, y75, z75⟩, st75⟩ := X70.virtualBack hx (y := (⟨"com/example/shunt/shunt/core/OutcomeWindow", "add", "(Z)V"⟩ : MethodName)) (z := (⟨"com/example/shunt/shunt/core/OutcomeWindow", "add", "(Z)V"⟩ : MethodName)) hown (mvT hZ (hw _ (List.mem_of_getElem? (i := 12) rfl))) (mvT hZ (hw _ (List.mem_of_getElem? (i := 13) rfl))) (notFace_of_selects (args := #[]) (mvT hZ (hw _ (List.mem_of_getElem? (i := 15) rfl)))) (mvT hZ (hw _ (List.mem_of_getElem? (i := 15) rfl))) (mvT hZ (hw _ (List.mem_of_getElem? (i := 14) rfl))) (by decide) (backOf (W := 0) (rm3 l Z a0 hw [] r d2 b kb n (0 : Int32) T68.heap n0 (own_szH g_r (own_exa HIc)) HIc g_r gb nb hn) hZ (hw _ (List.mem_of_getElem? (i := 16) rfl)) (hw _ (List.mem_of_getElem? (i := 2) rfl)) (by decide) (by decide)) q75a q75c (g := (mkF m 196 #[.val (.int p1), .val (.int p2), .val (.int p3), .val (.int p4), .val (.int n), .val (.int k), .val (.ref r), .val (.int (1 : Int32)), .val (.int (own_full (0 : Int32) n))] [(.int d2), (.ref r)])) rfl (by rw [hml]; rfl) (Steps.refl _) (argsL := [(.int d2)]) (rest := []) (lenOf pd_3 rfl) rfl (by show 2 * 0 + _ ≤ _; exact Nat.le_of_eq rfl) (hb hby at_196) (fun _ _ => ⟨rfl, e178, (by decide : 2 + 0 ≤ _), (by decide : 8 + 0 ≤ _)⟩)
    dsimp only [Pt.U, Pt.locs, Pt.cells, Pt.slots] at X75 l75 y75 z75 st75 hQ75
    subst l75 y75 z75
    obtain ⟨rfl, N75q, HI75⟩ := hQ75
    have N75 := Fr.app N70 N75q
    refine own_go (S' := T75.setTop (mkF m 199 #[.val (.int p1), .val (.int p2), .val (.int p3), .val (.int p4), .val (.int n), .val (.int k), .val (.ref r), .val (.int (1 : Int32)), .val (.int (own_full (0 : Int32) n))] [])) (fun t k => st75.trans k) ?_
    have go76 : ∀ t, Steps p.tables e below (T75.setTop (mkF m 211 #[.val (.int p1), .val (.int p2), .val (.int p3), .val (.int p4), .val (.int n), .val (.int k), .val (.ref r), .val (.int (1 : Int32)), .val (.int (own_full (0 : Int32) n))] [(.ref r)])) t → Steps p.tables e below (T75.setTop (mkF m 199 #[.val (.int p1), .val (.int p2), .val (.int p3), .val (.int p4), .val (.int n), .val (.int k), .val (.ref r), .val (.int (1 : Int32)), .val (.int (own_full (0 : Int32) n))] [])) t := by
      intro t kt
      show Steps p.tables e below (T75.setTop (mkF m 199 #[.val (.int p1), .val (.int p2), .val (.int p3), .val (.int p4), .val (.int n), .val (.int k), .val (.ref r), .val (.int (1 : Int32)), .val (.int (own_full (0 : Int32) n))] [])) _
      refine XS.iload X75.here hx rfl (hb hby at_199) rfl ?_
      show Steps p.tables e below (T75.setTop (mkF m 201 #[.val (.int p1), .val (.int p2), .val (.int p3), .val (.int p4), .val (.int n), .val (.int k), .val (.ref r), .val (.int (1 : Int32)), .val (.int (own_full (0 : Int32) n))] [(.int (1 : Int32))])) _
      refine XS.ifNo X75.here hx rfl (hb hby at_201) rfl ((if0 _ _).trans (feq (by decide)).1) ?_
      show Steps p.tables e below (T75.setTop (mkF m 204 #[.val (.int p1), .val (.int p2), .val (.int p3), .val (.int p4), .val (.int n), .val (.int k), .val (.ref r), .val (.int (1 : Int32)), .val (.int (own_full (0 : Int32) n))] [])) _
      refine XS.iload X75.here hx rfl (hb hby at_204) rfl ?_
      show Steps p.tables e below (T75.setTop (mkF m 206 #[.val (.int p1), .val (.int p2), .val (.int p3), .val (.int p4), .val (.int n), .val (.int k), .val (.ref r), .val (.int (1 : Int32)), .val (.int (own_full (0 : Int32) n))] [(.int (own_full (0 : Int32) n))])) _
      refine XS.ifNo X75.here hx rfl (hb hby at_206) rfl ((if0 _ _).trans (teq (own_f0 n hn)).2) ?_
      show Steps p.tables e below (T75.setTop (mkF m 209 #[.val (.int p1), .val (.int p2), .val (.int p3), .val (.int p4), .val (.int n), .val (.int k), .val (.ref r), .val (.int (1 : Int32)), .val (.int (own_full (0 : Int32) n))] [])) _
      refine XS.aload X75.here hx rfl (hb hby at_209) rfl rfl ?_
      exact kt
    refine own_go go76 ?_
    obtain ⟨cq77, kq77, q77a, q77b, q77c⟩ := isOf hZ rfl (own_exa HI75)
    obtain ⟨_, _, ⟨T77, L77, k77, n77⟩, -, X77, ⟨Lc77, hQ77, l77, y77, z77⟩, st77⟩ := X75.virtualBack hx (y := (⟨"com/example/shunt/shunt/core/OutcomeWindow", "isFull", "()Z"⟩ : MethodName)) (z := (⟨"com/example/shunt/shunt/core/OutcomeWindow", "isFull", "()Z"⟩ : MethodName)) hown (mvT hZ (hw _ (List.mem_of_getElem? (i := 32) rfl))) (mvT hZ (hw _ (List.mem_of_getElem? (i := 18) rfl))) (notFace_of_selects (args := #[]) (mvT hZ (hw _ (List.mem_of_getElem? (i := 20) rfl)))) (mvT hZ (hw _ (List.mem_of_getElem? (i := 20) rfl))) (mvT hZ (hw _ (List.mem_of_getElem? (i := 19) rfl))) (by decide) (backOf (W := 0) (rm4 l Z a0 hw [] r b kb n (own_min ((0 : Int32) + (1 : Int32)) n) T75.heap n0 (own_szH g_r (own_exa HI75)) HI75) hZ (hw _ (List.mem_of_getElem? (i := 21) rfl)) (hw _ (List.mem_of_getElem? (i := 2) rfl)) (by decide) (by decide)) q77a q77c (g := (mkF m 211 #[.val (.int p1), .val (.int p2), .val (.int p3), .val (.int p4), .val (.int n), .val (.int k), .val (.ref r), .val (.int (1 : Int32)), .val (.int (own_full (0 : Int32) n))] [(.ref r)])) rfl (by rw [hml]; rfl) (Steps.refl _) (argsL := []) (rest := []) (lenOf pd_0 rfl) rfl (by show 2 * 0 + _ ≤ _; exact Nat.le_of_eq rfl) (hb hby at_211) (fun _ _ => ⟨rfl, rfl, (by decide : 2 + 0 ≤ _), (by decide : 8 + 0 ≤ _)⟩)
    dsimp only [Pt.U, Pt.locs, Pt.cells, Pt.slots] at X77 l77 y77 z77 st77 hQ77
    subst l77 y77 z77
    obtain ⟨rfl, N77q, e211⟩ := hQ77
    have N77 := Fr.app N75 N77q
    refine own_go (S' := T77.setTop (mkF m 214 #[.val (.int p1), .val (.int p2), .val (.int p3), .val (.int p4), .val (.int n), .val (.int k), .val (.ref r), .val (.int (1 : Int32)), .val (.int (own_full (0 : Int32) n))] [(.int (own_full (own_min ((0 : Int32) + (1 : Int32)) n) n))])) (fun t k => st77.trans k) ?_
    obtain ⟨e1, he1, go78⟩ : ∃ e1 : Int32, (e1 = own_is1 n) ∧ ∀ t, Steps p.tables e below (T77.setTop (mkF m 225 #[.val (.int p1), .val (.int p2), .val (.int p3), .val (.int p4), .val (.int n), .val (.int k), .val (.ref r), .val (.int (1 : Int32)), .val (.int (own_full (0 : Int32) n))] [(.int e1), (.int (own_full (own_min ((0 : Int32) + (1 : Int32)) n) n))])) t → Steps p.tables e below (T77.setTop (mkF m 214 #[.val (.int p1), .val (.int p2), .val (.int p3), .val (.int p4), .val (.int n), .val (.int k), .val (.ref r), .val (.int (1 : Int32)), .val (.int (own_full (0 : Int32) n))] [(.int (own_full (own_min ((0 : Int32) + (1 : Int32)) n) n))])) t := by
      have go79 : ∀ t, Steps p.tables e below (T77.setTop (mkF m 217 #[.val (.int p1), .val (.int p2), .val (.int p3), .val (.int p4), .val (.int n), .val (.int k), .val (.ref r), .val (.int (1 : Int32)), .val (.int (own_full (0 : Int32) n))] [(.int (1 : Int32)), (.int n), (.int (own_full (own_min ((0 : Int32) + (1 : Int32)) n) n))])) t → Steps p.tables e below (T77.setTop (mkF m 214 #[.val (.int p1), .val (.int p2), .val (.int p3), .val (.int p4), .val (.int n), .val (.int k), .val (.ref r), .val (.int (1 : Int32)), .val (.int (own_full (0 : Int32) n))] [(.int (own_full (own_min ((0 : Int32) + (1 : Int32)) n) n))])) t := by
        intro t kt
        show Steps p.tables e below (T77.setTop (mkF m 214 #[.val (.int p1), .val (.int p2), .val (.int p3), .val (.int p4), .val (.int n), .val (.int k), .val (.ref r), .val (.int (1 : Int32)), .val (.int (own_full (0 : Int32) n))] [(.int (own_full (own_min ((0 : Int32) + (1 : Int32)) n) n))])) _
        refine XS.iload X77.here hx rfl (hb hby at_214) rfl ?_
        show Steps p.tables e below (T77.setTop (mkF m 216 #[.val (.int p1), .val (.int p2), .val (.int p3), .val (.int p4), .val (.int n), .val (.int k), .val (.ref r), .val (.int (1 : Int32)), .val (.int (own_full (0 : Int32) n))] [(.int n), (.int (own_full (own_min ((0 : Int32) + (1 : Int32)) n) n))])) _
        refine XS.iconst X77.here hx rfl (hb hby at_216) ?_
        exact kt
      rcases Classical.em (n = (1 : Int32)) with hc217 | hc217
      · have go80 : ∀ t, Steps p.tables e below (T77.setTop (mkF m 225 #[.val (.int p1), .val (.int p2), .val (.int p3), .val (.int p4), .val (.int n), .val (.int k), .val (.ref r), .val (.int (1 : Int32)), .val (.int (own_full (0 : Int32) n))] [(.int (1 : Int32)), (.int (own_full (own_min ((0 : Int32) + (1 : Int32)) n) n))])) t → Steps p.tables e below (T77.setTop (mkF m 217 #[.val (.int p1), .val (.int p2), .val (.int p3), .val (.int p4), .val (.int n), .val (.int k), .val (.ref r), .val (.int (1 : Int32)), .val (.int (own_full (0 : Int32) n))] [(.int (1 : Int32)), (.int n), (.int (own_full (own_min ((0 : Int32) + (1 : Int32)) n) n))])) t := by
          intro t kt
          show Steps p.tables e below (T77.setTop (mkF m 217 #[.val (.int p1), .val (.int p2), .val (.int p3), .val (.int p4), .val (.int n), .val (.int k), .val (.ref r), .val (.int (1 : Int32)), .val (.int (own_full (0 : Int32) n))] [(.int (1 : Int32)), (.int n), (.int (own_full (own_min ((0 : Int32) + (1 : Int32)) n) n))])) _
          refine XS.icmpNo X77.here hx rfl (hb hby at_217) rfl (teq hc217).2 ?_
          show Steps p.tables e below (T77.setTop (mkF m 220 #[.val (.int p1), .val (.int p2), .val (.int p3), .val (.int p4), .val (.int n), .val (.int k), .val (.ref r), .val (.int (1 : Int32)), .val (.int (own_full (0 : Int32) n))] [(.int (own_full (own_min ((0 : Int32) + (1 : Int32)) n) n))])) _
          refine XS.iconst X77.here hx rfl (hb hby at_220) ?_
          show Steps p.tables e below (T77.setTop (mkF m 221 #[.val (.int p1), .val (.int p2), .val (.int p3), .val (.int p4), .val (.int n), .val (.int k), .val (.ref r), .val (.int (1 : Int32)), .val (.int (own_full (0 : Int32) n))] [(.int (1 : Int32)), (.int (own_full (own_min ((0 : Int32) + (1 : Int32)) n) n))])) _
          refine XS.goto X77.here hx rfl (pc0 := 221) (pc' := 225) rfl (hb hby at_221) (by decide) (by decide) ?_
          exact kt
        exact ⟨(1 : Int32), by first | (simp only [own_is1, hc217, not_true_eq_false, not_false_eq_true, and_true, true_and, and_false, false_and, or_true, true_or, or_false, false_or, and_self, or_self, eq_self, if_true, if_false]; done) | (simp [own_is1, hc217]; done), fun t kt => (go79 t (go80 t kt))⟩
      · have go81 : ∀ t, Steps p.tables e below (T77.setTop (mkF m 225 #[.val (.int p1), .val (.int p2), .val (.int p3), .val (.int p4), .val (.int n), .val (.int k), .val (.ref r), .val (.int (1 : Int32)), .val (.int (own_full (0 : Int32) n))] [(.int (0 : Int32)), (.int (own_full (own_min ((0 : Int32) + (1 : Int32)) n) n))])) t → Steps p.tables e below (T77.setTop (mkF m 217 #[.val (.int p1), .val (.int p2), .val (.int p3), .val (.int p4), .val (.int n), .val (.int k), .val (.ref r), .val (.int (1 : Int32)), .val (.int (own_full (0 : Int32) n))] [(.int (1 : Int32)), (.int n), (.int (own_full (own_min ((0 : Int32) + (1 : Int32)) n) n))])) t := by
          intro t kt
          show Steps p.tables e below (T77.setTop (mkF m 217 #[.val (.int p1), .val (.int p2), .val (.int p3), .val (.int p4), .val (.int n), .val (.int k), .val (.ref r), .val (.int (1 : Int32)), .val (.int (own_full (0 : Int32) n))] [(.int (1 : Int32)), (.int n), (.int (own_full (own_min ((0 : Int32) + (1 : Int32)) n) n))])) _
          refine XS.icmpYes X77.here hx rfl (pc0 := 217) (pc' := 224) rfl (hb hby at_217) rfl (feq hc217).2 (by decide) (by decide) ?_
          show Steps p.tables e below (T77.setTop (mkF m 224 #[.val (.int p1), .val (.int p2), .val (.int p3), .val (.int p4), .val (.int n), .val (.int k), .val (.ref r), .val (.int (1 : Int32)), .val (.int (own_full (0 : Int32) n))] [(.int (own_full (own_min ((0 : Int32) + (1 : Int32)) n) n))])) _
          refine XS.iconst X77.here hx rfl (hb hby at_224) ?_
          exact kt
        exact ⟨(0 : Int32), by first | (simp only [own_is1, hc217, not_true_eq_false, not_false_eq_true, and_true, true_and, and_false, false_and, or_true, true_or, or_false, false_or, and_self, or_self, eq_self, if_true, if_false]; done) | (simp [own_is1, hc217]; done), fun t kt => (go79 t (go81 t kt))⟩
    refine own_go go78 ?_
    have go82 : ∀ t, Steps p.tables e below (T77.setTop (mkF m 237 #[.val (.int p1), .val (.int p2), .val (.int p3), .val (.int p4), .val (.int n), .val (.int k), .val (.ref r), .val (.int (1 : Int32)), .val (.int (own_full (0 : Int32) n))] [(.int (1 : Int32))])) t → Steps p.tables e below (T77.setTop (mkF m 225 #[.val (.int p1), .val (.int p2), .val (.int p3), .val (.int p4), .val (.int n), .val (.int k), .val (.ref r), .val (.int (1 : Int32)), .val (.int (own_full (0 : Int32) n))] [(.int e1), (.int (own_full (own_min ((0 : Int32) + (1 : Int32)) n) n))])) t := by
      intro t kt
      show Steps p.tables e below (T77.setTop (mkF m 225 #[.val (.int p1), .val (.int p2), .val (.int p3), .val (.int p4), .val (.int n), .val (.int k), .val (.ref r), .val (.int (1 : Int32)), .val (.int (own_full (0 : Int32) n))] [(.int e1), (.int (own_full (own_min ((0 : Int32) + (1 : Int32)) n) n))])) _
      refine XS.icmpNo X77.here hx rfl (hb hby at_225) rfl (teq ((own_f1 n hn).trans he1.symm)).2 ?_
      show Steps p.tables e below (T77.setTop (mkF m 228 #[.val (.int p1), .val (.int p2), .val (.int p3), .val (.int p4), .val (.int n), .val (.int k), .val (.ref r), .val (.int (1 : Int32)), .val (.int (own_full (0 : Int32) n))] [])) _
      refine XS.iconst X77.here hx rfl (hb hby at_228) ?_
      show Steps p.tables e below (T77.setTop (mkF m 229 #[.val (.int p1), .val (.int p2), .val (.int p3), .val (.int p4), .val (.int n), .val (.int k), .val (.ref r), .val (.int (1 : Int32)), .val (.int (own_full (0 : Int32) n))] [(.int (1 : Int32))])) _
      refine XS.goto X77.here hx rfl (pc0 := 229) (pc' := 233) rfl (hb hby at_229) (by decide) (by decide) ?_
      show Steps p.tables e below (T77.setTop (mkF m 233 #[.val (.int p1), .val (.int p2), .val (.int p3), .val (.int p4), .val (.int n), .val (.int k), .val (.ref r), .val (.int (1 : Int32)), .val (.int (own_full (0 : Int32) n))] [(.int (1 : Int32))])) _
      refine XS.istore X77.here hx rfl (hb hby at_233) rfl (l' := #[.val (.int p1), .val (.int p2), .val (.int p3), .val (.int p4), .val (.int n), .val (.int k), .val (.ref r), .val (.int (1 : Int32)), .val (.int (own_full (0 : Int32) n))]) rfl ?_
      show Steps p.tables e below (T77.setTop (mkF m 235 #[.val (.int p1), .val (.int p2), .val (.int p3), .val (.int p4), .val (.int n), .val (.int k), .val (.ref r), .val (.int (1 : Int32)), .val (.int (own_full (0 : Int32) n))] [])) _
      refine XS.iload X77.here hx rfl (hb hby at_235) rfl ?_
      exact kt
    refine own_go go82 ?_
    obtain ⟨fs, hr, hrun, hended, hW, hsame⟩ := X77.leave (v := some (.int (1 : Int32))) (fun h => by rw [Bd.returns] at h; cases h)
    refine ⟨_, _, retN X77 hx (t := .boolean) Bd.returns (by simp) (hb hby at_237) hr, hrun, hended, _, _, rfl, ?_, ⟨_, rfl⟩, hW, hsame.mono (by decide) (by decide)⟩
    show Q0 Z  h0 n0 _ T77.heap _
    rw [e211]
    exact ⟨rfl, N77⟩
set_option maxRecDepth 65536 in
set_option maxHeartbeats 40000000 in
theorem comes_1 {Post : Tables → Env → Array Value → State → Outcome → State → Prop} (hpost : ∀ tb e args s v u, (limb_1_1.after args s (.returned v) u = true ∧ limb_1_2.after args s (.returned v) u = true ∧ True) → FrameEnd s (.returned v) u (Jvm.fieldLocs frame_1_writes args s ++ Jvm.arrayLocs frame_1_arrays args s ++ Jvm.staticLocs frame_1_statics s) 16 128 → Post tb e args s (.returned v) u) :
    ArmFor flags0 classFile x code maxLocals ret World_1 tables_1 room_1 Calls_1 rest_1 Pre_1 Post := by
  intro l hfl _ _ p e ha hc hk s m args below hf hA hF happ hP
  obtain ⟨hcalls, hrest, hpre⟩ := hP
  obtain ⟨-, -, -, hnamed, -, -, -, hat⟩ := (Spec.applies_iff hf).mp happ
  obtain ⟨hg, hn⟩ := and_e (Cond.before_iff.mp (show (Jvm.Cond.and given_1 narrow_1).before args s = true from hpre))
  obtain ⟨gc, r0⟩ := and_e hg
  obtain ⟨g0, r1⟩ := and_e r0
  obtain ⟨g1, r2⟩ := and_e r1
  obtain ⟨g2, r3⟩ := and_e r2
  obtain ⟨w0, w1, w2, w3, rfl⟩ : ∃ w0 w1 w2 w3 : Value, args = #[w0, w1, w2, w3] := by
    have hs : args.size = 4 := by simpa [Cond.value, given_1] using gc
    obtain ⟨L⟩ := args
    match L, hs with
    | [w0, w1, w2, w3], _ => exact ⟨w0, w1, w2, w3, rfl⟩
  have hw := fun d (hd : d ∈ tables_1) => atoms_spec (ws := Jvm.Cond.code x code maxLocals ret :: tables_1) hat d (List.mem_cons_of_mem _ hd)
  obtain ⟨i0, ei0⟩ := is_v g0
  obtain rfl : w0 = (.int i0) := Option.some.inj ei0
  obtain ⟨i1, ei1⟩ := is_v g1
  obtain rfl : w1 = (.int i1) := Option.some.inj ei1
  obtain ⟨i2, ei2⟩ := is_v g2
  obtain rfl : w2 = (.int i2) := Option.some.inj ei2
  obtain ⟨i3, ei3⟩ := is_v r3
  obtain rfl : w3 = (.int i3) := Option.some.inj ei3
  obtain ⟨n, o, h1, h2, h3, _, L, rfl, ⟨rfl, N⟩, hq⟩ := rm0 l s _ hw tables_1 i0 i1 i2 i3 s.heap s.heap.size (Nat.le_refl _) p e ha hc hk s m _ below hf ((Spec.applies_iff_loose hf).mp happ).1 ⟨rfl, State.Warmed39.refl s, rfl⟩ trivial
  refine ⟨n, _, h1, h2, h3, hpost _ _ _ _ _ _ ⟨Cond.after_iff.mpr rfl, Cond.after_iff.mpr (eq_i res_at (Term.int_eval (1)) rfl), trivial⟩ ⟨hq.1, hq.2.1, (hq.2.2.sift fun y hy => Or.inr (N y hy)).mono (by decide) (by decide)⟩⟩
theorem main_1_1 : Claimed_1_1 := comes_1 fun _ _ _ _ _ _ h hF => ⟨h.1, hF⟩
theorem main_1_2 : Claimed_1_2 := comes_1 fun _ _ _ _ _ _ h hF => ⟨h.2.1, hF⟩
end Jvm.Pilot.@@N@@
namespace Jvm.Pilot.@@N@@
open Jvm Jvm.ClassFile Sem Op Lib Jvm.Free Jvm.Stand Jvm.Pilot.@@N@@.Jvm.D
/-! MADE BY PROGRAM (witnessworld.py) out of the Statement's table words and the real class files: 12 classes; the members and pool entries that the words name. The judged class is class 1, her method 1. -/
namespace start1
open Jvm.ClassFile
def u (s : String) : CpInfo := .utf8 (stringToUtf16 s)
/-- a pool by its gaps: so many unusable entries, then the entry; so many at the end -/
def gap : Nat → List CpInfo → List CpInfo
  | 0, r => r
  | n + 1, r => .unusable :: gap n r
def poolList (es : List (Nat × CpInfo)) (last : Nat) : List CpInfo := es.foldr (fun e r => gap e.1 (e.2 :: r)) (gap last [])
def pool (es : List (Nat × CpInfo)) (last : Nat) : Array CpInfo := ⟨poolList es last⟩
def fileOf (pool : Array CpInfo) (this : Nat) (attrs : Array Attribute := #[]) (ms : Array MethodInfo := #[]) (fl : Nat := 33) (sup : Nat := 0) (ifs : Array Nat := #[]) (fds : Array FieldInfo := #[]) : ClassFile where
  minorVersion := 0
  majorVersion := 65
  constantPool := pool
  accessFlags := fl
  thisClass := this
  superClass := sup
  interfaces := ifs
  fields := fds
  methods := ms
  attributes := attrs
def plain (name : String) (sup : Option ClassId) : Class where
  name := name
  kind := .ordinary
  loader := none
  accessFlags := 33
  super := sup
  interfaces := #[]
  cf := none
  fields := #[]
  methods := #[]
  instanceTypes := #[]
  staticTypes := #[]
  resolved := #[]
  callSites := []
  init := .initialized
  statics := none
  mirror := none

def pool0 : Array CpInfo := pool [(5, u "<init>"), (0, u "()V"), (1, .class_ 10), (1, u "java/lang/Object")] 113

def k0c0 : Code := { maxStack := 0, maxLocals := 1, code := object_method_1_code, exceptionTable := #[], attributes := #[] }
def k0m0 : Method := { name := "<init>", desc := "()V", sig := { parameters := [], returnType := none }, accessFlags := 1, code := some k0c0 }
/-- java/lang/Object -/
def k0 : Class := { plain "java/lang/Object" none with
  accessFlags := 33
  interfaces := #[]
  cf := some (fileOf pool0 8 #[] #[{ accessFlags := 1, nameIndex := 5, descriptorIndex := 6, attributes := #[] }] 33 0 #[] #[])
  fields := #[]
  methods := #[k0m0]
  instanceTypes := #[]
  staticTypes := #[]
  resolved := Array.replicate 124 none
  statics := none }

def pool1 : Array CpInfo := pool [(2, .class_ 4), (1, u "java/lang/Object"), (0, u "<init>"), (0, u "()V"), (0, .class_ 8), (0, u "com/example/shunt/shunt/core/OutcomeWindow"), (0, .methodref 7 10), (0, .nameAndType 5 11), (0, u "(I)V"), (0, .methodref 7 13), (0, .nameAndType 14 15), (0, u "add"), (0, u "(Z)V"), (0, .methodref 7 17), (0, .nameAndType 18 19), (0, u "isFull"), (0, u "()Z"), (0, .methodref 7 21), (0, .nameAndType 22 6), (0, u "clear"), (0, .class_ 24), (0, u "com/example/shunt/shunt/core/OutcomeWindowIsFullPinLaw"), (2, u "law"), (0, u "(IIII)Z")] 3

def k1m0 : Method := { name := "<init>", desc := "()V", sig := { parameters := [], returnType := none }, accessFlags := 1, code := none }
def k1c1 : Code := { maxStack := 3, maxLocals := 9, code := code, exceptionTable := #[], attributes := #[] }
def k1m1 : Method := { name := "law", desc := "(IIII)Z", sig := { parameters := [.int, .int, .int, .int], returnType := some .boolean }, accessFlags := 9, code := some k1c1 }
/-- com/example/shunt/shunt/core/OutcomeWindowIsFullPinLaw -/
def k1 : Class := { plain "com/example/shunt/shunt/core/OutcomeWindowIsFullPinLaw" (some 0) with
  accessFlags := 49
  interfaces := #[]
  cf := some (fileOf pool1 23 #[] #[{ accessFlags := 1, nameIndex := 5, descriptorIndex := 6, attributes := #[] }, { accessFlags := 9, nameIndex := 27, descriptorIndex := 28, attributes := #[] }] 49 2 #[] #[])
  fields := #[]
  methods := #[k1m0, k1m1]
  instanceTypes := #[]
  staticTypes := #[]
  resolved := Array.replicate 32 none
  statics := none }

def pool2 : Array CpInfo := pool [(1, .methodref 2 3), (0, .class_ 4), (0, .nameAndType 5 6), (0, u "java/lang/Object"), (0, u "<init>"), (0, u "()V"), (0, .fieldref 8 9), (0, .class_ 10), (0, .nameAndType 11 12), (0, u "com/example/shunt/shunt/core/OutcomeWindow"), (0, u "outcomes"), (0, u "[Z"), (0, .fieldref 8 14), (0, .nameAndType 15 16), (0, u "held"), (0, u "I"), (0, .fieldref 8 18), (0, .nameAndType 19 16), (0, u "failures"), (0, .methodref 8 21), (0, .nameAndType 22 23), (0, u "isFull"), (0, u "()Z"), (0, .fieldref 8 25), (0, .nameAndType 26 16), (0, u "next"), (0, .methodref 28 29), (0, .class_ 30), (0, .nameAndType 31 32), (0, u "java/lang/Math"), (0, u "min"), (0, u "(II)I"), (0, u "(I)V"), (7, u "add"), (0, u "(Z)V"), (0, u "clear")] 2

def k2c0 : Code := { maxStack := 2, maxLocals := 2, code := prog_20_method_1_code, exceptionTable := #[], attributes := #[] }
def k2m0 : Method := { name := "<init>", desc := "(I)V", sig := { parameters := [.int], returnType := none }, accessFlags := 0, code := some k2c0 }
def k2c1 : Code := { maxStack := 2, maxLocals := 1, code := prog_20_method_3_code, exceptionTable := #[], attributes := #[] }
def k2m1 : Method := { name := "isFull", desc := "()Z", sig := { parameters := [], returnType := some .boolean }, accessFlags := 0, code := some k2c1 }
def k2c2 : Code := { maxStack := 3, maxLocals := 2, code := prog_20_method_6_code, exceptionTable := #[], attributes := #[] }
def k2m2 : Method := { name := "add", desc := "(Z)V", sig := { parameters := [.boolean], returnType := none }, accessFlags := 0, code := some k2c2 }
def k2c3 : Code := { maxStack := 2, maxLocals := 1, code := prog_20_method_7_code, exceptionTable := #[], attributes := #[] }
def k2m3 : Method := { name := "clear", desc := "()V", sig := { parameters := [], returnType := none }, accessFlags := 0, code := some k2c3 }
/-- com/example/shunt/shunt/core/OutcomeWindow -/
def k2 : Class := { plain "com/example/shunt/shunt/core/OutcomeWindow" (some 0) with
  accessFlags := 32
  interfaces := #[]
  cf := some (fileOf pool2 8 #[] #[{ accessFlags := 0, nameIndex := 5, descriptorIndex := 33, attributes := #[] }, { accessFlags := 0, nameIndex := 22, descriptorIndex := 23, attributes := #[] }, { accessFlags := 0, nameIndex := 41, descriptorIndex := 42, attributes := #[] }, { accessFlags := 0, nameIndex := 43, descriptorIndex := 6, attributes := #[] }] 32 2 #[] #[{ accessFlags := 18, nameIndex := 11, descriptorIndex := 12, attributes := #[] }, { accessFlags := 2, nameIndex := 15, descriptorIndex := 16, attributes := #[] }, { accessFlags := 2, nameIndex := 26, descriptorIndex := 16, attributes := #[] }, { accessFlags := 2, nameIndex := 19, descriptorIndex := 16, attributes := #[] }])
  fields := #[{ name := "outcomes", type := (.array .boolean), accessFlags := 18, slot := 0, constantValue := 0 }, { name := "held", type := .int, accessFlags := 2, slot := 1, constantValue := 0 }, { name := "next", type := .int, accessFlags := 2, slot := 2, constantValue := 0 }, { name := "failures", type := .int, accessFlags := 2, slot := 3, constantValue := 0 }]
  methods := #[k2m0, k2m1, k2m2, k2m3]
  instanceTypes := #[(.array .boolean), .int, .int, .int]
  staticTypes := #[]
  resolved := Array.replicate 46 none
  statics := none }

def pool3 : Array CpInfo := pool [(1, .class_ 2), (0, u "java/lang/Math"), (1, .class_ 6), (1, u "java/lang/Object"), (0, u "<init>"), (0, u "()V"), (89, .class_ 100), (1, u "java/lang/Math$RandomNumberGeneratorHolder"), (71, u "negativeZeroFloatBits"), (0, u "J"), (2, u "negativeZeroDoubleBits"), (24, u "min"), (43, u "$assertionsDisabled"), (0, u "Z"), (88, u "(II)I"), (2, u "twoToTheDoubleScaleDown"), (0, u "D"), (4, u "twoToTheDoubleScaleUp"), (9, u "E"), (3, u "PI"), (2, u "TAU"), (2, u "DEGREES_TO_RADIANS"), (0, u "RADIANS_TO_DEGREES")] 94

def k3m0 : Method := { name := "<init>", desc := "()V", sig := { parameters := [], returnType := none }, accessFlags := 2, code := none }
def k3c1 : Code := { maxStack := 2, maxLocals := 2, code := jdk_29_method_69_code, exceptionTable := #[], attributes := #[] }
def k3m1 : Method := { name := "min", desc := "(II)I", sig := { parameters := [.int, .int], returnType := some .int }, accessFlags := 9, code := some k3c1 }
/-- java/lang/Math -/
def k3 : Class := { plain "java/lang/Math" (some 0) with
  accessFlags := 49
  interfaces := #[]
  cf := some (fileOf pool3 1 #[.nestMembers #[98]] #[{ accessFlags := 2, nameIndex := 7, descriptorIndex := 8, attributes := #[] }, { accessFlags := 9, nameIndex := 201, descriptorIndex := 335, attributes := #[] }] 49 4 #[] #[{ accessFlags := 25, nameIndex := 354, descriptorIndex := 339, attributes := #[] }, { accessFlags := 25, nameIndex := 358, descriptorIndex := 339, attributes := #[] }, { accessFlags := 25, nameIndex := 361, descriptorIndex := 339, attributes := #[] }, { accessFlags := 26, nameIndex := 364, descriptorIndex := 339, attributes := #[] }, { accessFlags := 26, nameIndex := 365, descriptorIndex := 339, attributes := #[] }, { accessFlags := 26, nameIndex := 172, descriptorIndex := 173, attributes := #[] }, { accessFlags := 26, nameIndex := 176, descriptorIndex := 173, attributes := #[] }, { accessFlags := 8, nameIndex := 344, descriptorIndex := 339, attributes := #[] }, { accessFlags := 8, nameIndex := 338, descriptorIndex := 339, attributes := #[] }, { accessFlags := 4120, nameIndex := 245, descriptorIndex := 246, attributes := #[] }])
  fields := #[{ name := "E", type := .double, accessFlags := 25, slot := 0, constantValue := 0 }, { name := "PI", type := .double, accessFlags := 25, slot := 1, constantValue := 0 }, { name := "TAU", type := .double, accessFlags := 25, slot := 2, constantValue := 0 }, { name := "DEGREES_TO_RADIANS", type := .double, accessFlags := 26, slot := 3, constantValue := 0 }, { name := "RADIANS_TO_DEGREES", type := .double, accessFlags := 26, slot := 4, constantValue := 0 }, { name := "negativeZeroFloatBits", type := .long, accessFlags := 26, slot := 5, constantValue := 0 }, { name := "negativeZeroDoubleBits", type := .long, accessFlags := 26, slot := 6, constantValue := 0 }, { name := "twoToTheDoubleScaleUp", type := .double, accessFlags := 8, slot := 7, constantValue := 0 }, { name := "twoToTheDoubleScaleDown", type := .double, accessFlags := 8, slot := 8, constantValue := 0 }, { name := "$assertionsDisabled", type := .boolean, accessFlags := 4120, slot := 9, constantValue := 0 }]
  methods := #[k3m0, k3m1]
  instanceTypes := #[]
  staticTypes := #[.double, .double, .double, .double, .double, .long, .long, .double, .double, .boolean]
  resolved := Array.replicate 460 none
  statics := none }

def pool4 : Array CpInfo := pool [(1, u "java/lang/Cloneable"), (0, .class_ 1), (0, u "java/lang/Object"), (0, .class_ 3)] 3

/-- java/lang/Cloneable -/
def k4 : Class := { plain "java/lang/Cloneable" (some 0) with
  accessFlags := 1537
  interfaces := #[]
  cf := some (fileOf pool4 2 #[] #[] 1537 4 #[] #[])
  fields := #[]
  methods := #[]
  instanceTypes := #[]
  staticTypes := #[]
  resolved := Array.replicate 8 none
  statics := none }

def pool5 : Array CpInfo := pool [(1, u "java/io/Serializable"), (0, .class_ 1), (0, u "java/lang/Object"), (0, .class_ 3)] 3

/-- java/io/Serializable -/
def k5 : Class := { plain "java/io/Serializable" (some 0) with
  accessFlags := 1537
  interfaces := #[]
  cf := some (fileOf pool5 2 #[] #[] 1537 4 #[] #[])
  fields := #[]
  methods := #[]
  instanceTypes := #[]
  staticTypes := #[]
  resolved := Array.replicate 8 none
  statics := none }

/-- the primitive boolean -/
def k6 : Class := { plain "boolean" none with kind := .primitive 'Z', accessFlags := 0x411 }
/-- [Z -/
def k7 : Class := { plain "[Z" (some 0) with kind := .array 6 .boolean, interfaces := #[4, 5], accessFlags := 1041 }

/-- the primitive byte -/
def k8 : Class := { plain "byte" none with kind := .primitive 'B', accessFlags := 0x411 }
/-- [B -/
def k9 : Class := { plain "[B" (some 0) with kind := .array 8 .byte, interfaces := #[4, 5], accessFlags := 1041 }

/-- the primitive int -/
def k10 : Class := { plain "int" none with kind := .primitive 'I', accessFlags := 0x411 }
/-- [I -/
def k11 : Class := { plain "[I" (some 0) with kind := .array 10 .int, interfaces := #[4, 5], accessFlags := 1041 }

def heap : Heap := #[]
def classes : Array Class := #[k0, k1, k2, k3, k4, k5, k6, k7, k8, k9, k10, k11]
def interned : List (Array UInt16 × Addr) := []
def slotsUsed : Nat := 0
def theMethod : MethodId := ⟨1, 1⟩
def args0 : Array Value := #[.int 5, .int 3, .int 300, .int 3]
def aboutOver (below : List Frame) : State where
  vm := { classes := classes, interned := interned.toArray }
  heap := heap
  slotsUsed := slotsUsed
  threads := #[{ frames := .invoking theMethod args0 :: below }]
def below0 : List Frame := [.native { method := ⟨0, 0⟩, args := #[] }]
def about1 : State := aboutOver below0
def p0 : Program := .bare "" "" ""
def e0 : Env := launch0.env 0 0 0
theorem w_frames : about1.frames = Frame.invoking theMethod args0 :: below0 := rfl
set_option maxRecDepth 65536 in
theorem w_args : argsFit about1.vm theMethod args0 = true := by decide +kernel
set_option maxRecDepth 65536 in
theorem w_heap : heapFits about1 = true := by decide +kernel
set_option maxRecDepth 65536 in
theorem w_runnable : about1.curStatus? = some .runnable := by decide +kernel
set_option maxRecDepth 65536 in
theorem w_alone : about1.alone = true := by decide +kernel
set_option maxRecDepth 65536 in
theorem w_named : about1.methodNamed? x = some theMethod := by decide +kernel
set_option maxRecDepth 65536 in
theorem w_hears : about1.hears theMethod below0 = true := by decide +kernel
set_option maxRecDepth 65536 in
theorem w_ripe : about1.ripe theMethod args0 below0 = true := by decide +kernel
theorem w_running : about1.status = .running := rfl
set_option maxRecDepth 65536 in
theorem w_room : about1.hasRoom e0.platform room_1 = true :=
  launch0.hasRoom_least _ room_1 (by decide +kernel) (by decide +kernel) (by decide +kernel) (by decide +kernel) (by decide +kernel) (by decide +kernel)
theorem allAtoms_all (ts : List Jvm.Cond) (a : Array Jvm.Value) (st : Jvm.State) : (allAtoms ts).before a st = ts.all (fun c => c.before a st) := by
  induction ts with
  | nil => rfl
  | cons c t ih =>
    show (Jvm.Cond.and c (allAtoms t)).before a st = _
    rw [Jvm.Cond.before_and, ih, List.all_cons]
def words1 : List Jvm.Cond := Jvm.Cond.code x code maxLocals ret :: tables_1
/-- a 'code' word, met by the world's own term for the bytes: nothing is compared byte by byte -/
theorem code_word {y : MethodName} {bytes : ByteArray} {mx : Nat} {rt : Option FieldType} {a : Array Value} {s : State} {m : MethodId} {meth : Method} {c : Code} (h1 : s.methodNamed? y = some m) (h2 : s.vm.method? m = some meth) (h3 : meth.code = some c) (h4 : c.code = bytes)
    (h5 : (c.maxLocals == mx && c.exceptionTable.isEmpty && decide (c.maxStack ≤ mostOperands) && decide (meth.sig.returnType = rt) && !meth.locks && decide (parseMethodDescriptor y.desc = some meth.sig)) = true) : (Jvm.Cond.code y bytes mx rt).before a s = true := by
  simp only [Bool.and_eq_true, beq_iff_eq, Bool.not_eq_true', decide_eq_true_eq] at h5
  obtain ⟨⟨⟨⟨⟨g1, g2⟩, g3⟩, g4⟩, g5⟩, g6⟩ := h5
  simp [Cond.before, Cond.holds, Cond.value, h1, h2, h3, h4, g1, g2, g3, g4, g5, g6]
def isCode : Jvm.Cond → Bool
  | .code _ _ _ _ => true
  | _ => false
theorem all_split {L : List Jvm.Cond} {P : Jvm.Cond → Bool} (h1 : L.all (fun c => isCode c || P c) = true) (h2 : ∀ c ∈ L.filter isCode, P c = true) : L.all P = true := by
  refine List.all_eq_true.mpr fun c hc => ?_
  have h := List.all_eq_true.mp h1 c hc
  rcases Bool.eq_false_or_eq_true (isCode c) with hi | hi
  · exact h2 c (List.mem_filter.mpr ⟨hc, hi⟩)
  · simpa [hi] using h
set_option maxRecDepth 65536 in
theorem w_c0 : (Jvm.Cond.code x code maxLocals ret).before args0 about1 = true := code_word (m := ⟨1, 1⟩) (meth := k1m1) (c := k1c1) (by decide +kernel) rfl rfl rfl (by decide +kernel)
set_option maxRecDepth 65536 in
theorem w_c1 : (Jvm.Cond.code ({ cls := "com/example/shunt/shunt/core/OutcomeWindow", name := "<init>", desc := "(I)V" } : Jvm.MethodName) prog_20_method_1_code (2 : Nat) (Option.none : Option Jvm.ClassFile.FieldType)).before args0 about1 = true := code_word (m := ⟨2, 0⟩) (meth := k2m0) (c := k2c0) (by decide +kernel) rfl rfl rfl (by decide +kernel)
set_option maxRecDepth 65536 in
theorem w_c2 : (Jvm.Cond.code ({ cls := "java/lang/Object", name := "<init>", desc := "()V" } : Jvm.MethodName) object_method_1_code (1 : Nat) (Option.none : Option Jvm.ClassFile.FieldType)).before args0 about1 = true := code_word (m := ⟨0, 0⟩) (meth := k0m0) (c := k0c0) (by decide +kernel) rfl rfl rfl (by decide +kernel)
set_option maxRecDepth 65536 in
theorem w_c3 : (Jvm.Cond.code ({ cls := "com/example/shunt/shunt/core/OutcomeWindow", name := "add", desc := "(Z)V" } : Jvm.MethodName) prog_20_method_6_code (2 : Nat) (Option.none : Option Jvm.ClassFile.FieldType)).before args0 about1 = true := code_word (m := ⟨2, 2⟩) (meth := k2m2) (c := k2c2) (by decide +kernel) rfl rfl rfl (by decide +kernel)
set_option maxRecDepth 65536 in
theorem w_c4 : (Jvm.Cond.code ({ cls := "com/example/shunt/shunt/core/OutcomeWindow", name := "isFull", desc := "()Z" } : Jvm.MethodName) prog_20_method_3_code (1 : Nat) (Option.some Jvm.ClassFile.FieldType.boolean)).before args0 about1 = true := code_word (m := ⟨2, 1⟩) (meth := k2m1) (c := k2c1) (by decide +kernel) rfl rfl rfl (by decide +kernel)
set_option maxRecDepth 65536 in
theorem w_c5 : (Jvm.Cond.code ({ cls := "java/lang/Math", name := "min", desc := "(II)I" } : Jvm.MethodName) jdk_29_method_69_code (2 : Nat) (Option.some Jvm.ClassFile.FieldType.int)).before args0 about1 = true := code_word (m := ⟨3, 1⟩) (meth := k3m1) (c := k3c1) (by decide +kernel) rfl rfl rfl (by decide +kernel)
set_option maxRecDepth 65536 in
theorem w_c6 : (Jvm.Cond.code ({ cls := "com/example/shunt/shunt/core/OutcomeWindow", name := "clear", desc := "()V" } : Jvm.MethodName) prog_20_method_7_code (1 : Nat) (Option.none : Option Jvm.ClassFile.FieldType)).before args0 about1 = true := code_word (m := ⟨2, 3⟩) (meth := k2m3) (c := k2c3) (by decide +kernel) rfl rfl rfl (by decide +kernel)
def codes1 : List Jvm.Cond := [Jvm.Cond.code x code maxLocals ret, Jvm.Cond.code ({ cls := "com/example/shunt/shunt/core/OutcomeWindow", name := "<init>", desc := "(I)V" } : Jvm.MethodName) prog_20_method_1_code (2 : Nat) (Option.none : Option Jvm.ClassFile.FieldType), Jvm.Cond.code ({ cls := "java/lang/Object", name := "<init>", desc := "()V" } : Jvm.MethodName) object_method_1_code (1 : Nat) (Option.none : Option Jvm.ClassFile.FieldType), Jvm.Cond.code ({ cls := "com/example/shunt/shunt/core/OutcomeWindow", name := "add", desc := "(Z)V" } : Jvm.MethodName) prog_20_method_6_code (2 : Nat) (Option.none : Option Jvm.ClassFile.FieldType), Jvm.Cond.code ({ cls := "com/example/shunt/shunt/core/OutcomeWindow", name := "isFull", desc := "()Z" } : Jvm.MethodName) prog_20_method_3_code (1 : Nat) (Option.some Jvm.ClassFile.FieldType.boolean), Jvm.Cond.code ({ cls := "java/lang/Math", name := "min", desc := "(II)I" } : Jvm.MethodName) jdk_29_method_69_code (2 : Nat) (Option.some Jvm.ClassFile.FieldType.int), Jvm.Cond.code ({ cls := "com/example/shunt/shunt/core/OutcomeWindow", name := "clear", desc := "()V" } : Jvm.MethodName) prog_20_method_7_code (1 : Nat) (Option.none : Option Jvm.ClassFile.FieldType)]
set_option maxRecDepth 65536 in
theorem codes_eq : words1.filter isCode = codes1 := rfl
theorem w_codes : ∀ c ∈ words1.filter isCode, c.before args0 about1 = true := by
  rw [codes_eq]
  intro c hc
  simp only [codes1, List.mem_cons, List.not_mem_nil, or_false] at hc
  rcases hc with rfl | rfl | rfl | rfl | rfl | rfl | rfl
  · exact w_c0
  · exact w_c1
  · exact w_c2
  · exact w_c3
  · exact w_c4
  · exact w_c5
  · exact w_c6
set_option maxRecDepth 65536 in
theorem w_t1 : (words1.take 24).all (fun c => isCode c || c.before args0 about1) = true := by decide +kernel
set_option maxRecDepth 65536 in
theorem w_t2 : (words1.drop 24).all (fun c => isCode c || c.before args0 about1) = true := by decide +kernel
theorem w_tables : (allAtoms (Jvm.Cond.code x code maxLocals ret :: tables_1)).before args0 about1 = true := by
  rw [allAtoms_all]
  show words1.all (fun c => c.before args0 about1) = true
  refine all_split ?_ w_codes
  rw [← List.take_append_drop 24 words1, List.all_append, w_t1, w_t2]
  rfl
set_option maxRecDepth 65536 in
theorem w_case : (Jvm.Cond.and given_1 narrow_1).before args0 about1 = true := by decide +kernel
theorem w_applies : (headSpec (Jvm.Cond.code x code maxLocals ret :: tables_1) room_1).applies x e0.platform about1 = true :=
  (Spec.applies_iff w_frames).mpr ⟨w_running, w_runnable, w_alone, w_named, w_hears, w_ripe, w_room, w_tables⟩
theorem atStart : AtStart classFile x code maxLocals ret World_1 tables_1 room_1 Calls_1 rest_1 Pre_1 launch0 p0 e0 about1 theMethod args0 below0 :=
  ⟨lists_1, trivial, launch0.admits_env _ _ _, launch0.least_env, fairChoices_fair.cas, fairChoices_fair.clock, w_frames, w_args, w_heap, w_applies, trivial, trivial, w_case⟩
end start1
theorem witness_1 : WitnessClaimed_1 := ⟨start1.p0, start1.e0, start1.about1, start1.theMethod, start1.args0, start1.below0, start1.atStart⟩
end Jvm.Pilot.@@N@@
