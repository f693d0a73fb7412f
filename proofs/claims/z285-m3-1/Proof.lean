import JvmDerived
import JvmDerived.Pilot.@@N@@Statement
import JvmDerived.Pilot.@@N@@Code
set_option linter.unusedVariables false
set_option linter.unusedSimpArgs false
namespace Jvm.Pilot.@@N@@
open Jvm Jvm.ClassFile Sem Op Lib Jvm.Free Jvm.Stand Jvm.LawKit Jvm.RoadKit Bundle Jvm.Pilot.@@N@@.Jvm.D
/-- one stretch of the walk, then the rest of it -/
theorem own_go {tb : Tables} {e : Env} {below : List Frame} {S S' : State} {K : State → Outcome → Prop} (st : ∀ t, Steps tb e below S' t → Steps tb e below S t) (h : ∃ t o, Steps tb e below S' t ∧ K t o) : ∃ t o, Steps tb e below S t ∧ K t o := by
  obtain ⟨t, o, h1, h2⟩ := h
  exact ⟨t, o, st _ h1, h2⟩
theorem pd_0 : parseMethodDescriptor "(JJ)V" = some ⟨[.long, .long], none⟩ := by decide +kernel
theorem pd_1 : parseMethodDescriptor "(ZJ)V" = some ⟨[.boolean, .long], none⟩ := by decide +kernel
theorem pd_2 : parseMethodDescriptor "()J" = some ⟨[], some .long⟩ := by decide +kernel
def own_emp (f : Int32) (t emp : Int64) : Int64 := if f = (0 : Int32) then t else emp
def own_beh (f : Int32) (t lim emp beh : Int64) : Int64 := if ¬ f = (0 : Int32) ∧ (0 : Int32) < (lcmpW (t - emp) lim) then t else beh
def own_Q (Z : State) (a : Addr) (lim emp beh : Int64) (h0 : Heap) (n0 : Nat) (v : Option Value) (h : Heap) (L : List Loc) : Prop := v = none ∧ Fr n0 L ∧ Keep h0 h [a] ∧ Exa Z h a "com/example/tocsin/tocsin/net/Backlog" ∧ Fld Z h a "com/example/tocsin/tocsin/net/Backlog" "limit" "J" (.long lim) ∧ Fld Z h a "com/example/tocsin/tocsin/net/Backlog" "emptyAt" "J" (.long emp) ∧ Fld Z h a "com/example/tocsin/tocsin/net/Backlog" "behindAt" "J" (.long beh)
theorem d1_0 : decode prog_83_method_1_code 0 = .ok (.aload_n 0, 1) := by decide +kernel
theorem d1_1 : decode prog_83_method_1_code 1 = .ok (.invokespecial 1, 3) := by decide +kernel
theorem d1_4 : decode prog_83_method_1_code 4 = .ok (.aload_n 0, 1) := by decide +kernel
theorem d1_5 : decode prog_83_method_1_code 5 = .ok (.lload_n 1, 1) := by decide +kernel
theorem d1_6 : decode prog_83_method_1_code 6 = .ok (.putfield 7, 3) := by decide +kernel
theorem d1_9 : decode prog_83_method_1_code 9 = .ok (.aload_n 0, 1) := by decide +kernel
theorem d1_10 : decode prog_83_method_1_code 10 = .ok (.lload_n 3, 1) := by decide +kernel
theorem d1_11 : decode prog_83_method_1_code 11 = .ok (.putfield 13, 3) := by decide +kernel
theorem d1_14 : decode prog_83_method_1_code 14 = .ok (.aload_n 0, 1) := by decide +kernel
theorem d1_15 : decode prog_83_method_1_code 15 = .ok (.ldc2_w 18, 3) := by decide +kernel
theorem d1_18 : decode prog_83_method_1_code 18 = .ok (.putfield 20, 3) := by decide +kernel
theorem d1_21 : decode prog_83_method_1_code 21 = .ok (.return_, 1) := by decide +kernel
theorem pn_1 : plainName "com/example/tocsin/tocsin/net/Backlog" = true := by first | (simp [plainName, overriddenIn]; done) | decide +kernel
theorem ef_1 (m : MethodId) (x0 : Addr) (x1 : Int64) (x2 : Int64) : entryFrame m #[(.ref x0), (.long x1), (.long x2)] 5 = mkF m 0 #[.val (.ref x0), .val (.long x1), .second, .val (.long x2), .second] [] := by first | (simp [entryFrame, mkF, argsToLocals, Value.category]; done) | rfl
set_option maxRecDepth 65536 in
set_option maxHeartbeats 40000000 in
theorem rm1 (l : Launch) (Z : State) (a0 : Array Value) (hw : ∀ d ∈ tables_1, d.before a0 Z = true) (ws : List Jvm.Cond) (a1 : Addr) (q2 : Int64) (q3 : Int64) (h0 : Heap) (n0 : Nat) (Z0 : n0 ≤ h0.size) (E : Exa Z h0 a1 "com/example/tocsin/tocsin/net/Backlog") (F_limit : Fld Z h0 a1 "com/example/tocsin/tocsin/net/Backlog" "limit" "J" (.long (0 : Int64))) (F_emptyAt : Fld Z h0 a1 "com/example/tocsin/tocsin/net/Backlog" "emptyAt" "J" (.long (0 : Int64))) (F_behindAt : Fld Z h0 a1 "com/example/tocsin/tocsin/net/Backlog" "behindAt" "J" (.long (0 : Int64))) (ga : n0 ≤ a1) :
    MetFree l (⟨"com/example/tocsin/tocsin/net/Backlog", "<init>", "(JJ)V"⟩ : MethodName) (head1 (Jvm.Cond.code (⟨"com/example/tocsin/tocsin/net/Backlog", "<init>", "(JJ)V"⟩ : MethodName) prog_83_method_1_code 5 none :: ws) ({ frames := 1, cells := 0, slots := 0, locals := 12 } : Room)) (fun a U => a = #[(.ref a1), (.long q2), (.long q3)] ∧ Z.Warmed39 U.vm ∧ U.heap = h0) (fun _ _ _ _ _ => True) (fun _ U o U' => ∃ v L, o = .returned v ∧ own_Q Z a1 q2 q3 (-9223372036854775808 : Int64) h0 n0 v U'.heap L ∧ FrameEnd U o U' L ({ frames := 1, cells := 0, slots := 0, locals := 12 } : Room).cells ({ frames := 1, cells := 0, slots := 0, locals := 12 } : Room).slots) := by
  refine MetFree.of_bodySF (plainFor_of_name pn_1) hisR ?_
  intro p e s m args below meth c s₁ Bd hml0 hP hK
  obtain ⟨rfl, hZ, hh⟩ := hP
  have hx := Bd.exec
  have hby := Bd.bytes
  have hml : c.maxLocals = 5 := hml0
  have hown : s.vm.findClass "com/example/tocsin/tocsin/net/Backlog" = some m.cls := findClass_of_methodNamed Bd.named
  have hnm := (name_of_methodNamed Bd.named Bd.method).1
  have X0 : Stand p l e ({ frames := 1, cells := 0, slots := 0, locals := 12 } : Room) s m #[(.ref a1), (.long q2), (.long q3)] below meth c s₁ [] 0 0 := Stand.of_body Bd
  have e0 : s₁.heap = h0 := by rw [← hh, Bd.state]; rfl
  have N0 := Fr.nil n0
  have pre0 : ∀ t, Steps p.tables e below (s₁.setTop (mkF m 0 #[.val (.ref a1), .val (.long q2), .second, .val (.long q3), .second] [])) t → Steps p.tables e below (s₁.setTop (entryFrame m #[(.ref a1), (.long q2), (.long q3)] 5)) t := fun t k => castTop (ef_1 m a1 q2 q3) k
  refine own_go pre0 ?_
  have go1 : ∀ t, Steps p.tables e below (s₁.setTop (mkF m 1 #[.val (.ref a1), .val (.long q2), .second, .val (.long q3), .second] [(.ref a1)])) t → Steps p.tables e below (s₁.setTop (mkF m 0 #[.val (.ref a1), .val (.long q2), .second, .val (.long q3), .second] [])) t := by
    intro t kt
    show Steps p.tables e below (s₁.setTop (mkF m 0 #[.val (.ref a1), .val (.long q2), .second, .val (.long q3), .second] [])) _
    refine XS.aloadN X0.here hx rfl (hb hby d1_0) rfl rfl ?_
    exact kt
  refine own_go go1 ?_
  obtain ⟨T2, X2, e2, st2⟩ := initO X0 hx hZ hown (hw _ (List.mem_of_getElem? (i := 6) rfl)) (hw _ (List.mem_of_getElem? (i := 7) rfl)) (hw _ (List.mem_of_getElem? (i := 8) rfl)) e0 (g := (mkF m 1 #[.val (.ref a1), .val (.long q2), .second, .val (.long q3), .second] [(.ref a1)])) rfl (by rw [hml]; rfl) rfl (hb hby d1_1) (by decide) (W := 0) (by show 2 * 0 + _ ≤ _; exact Nat.le_of_eq rfl) (by decide)
  refine own_go (S' := T2.setTop (mkF m 4 #[.val (.ref a1), .val (.long q2), .second, .val (.long q3), .second] [])) st2 ?_
  have go3 : ∀ t, Steps p.tables e below (T2.setTop (mkF m 6 #[.val (.ref a1), .val (.long q2), .second, .val (.long q3), .second] [(.long q2), (.ref a1)])) t → Steps p.tables e below (T2.setTop (mkF m 4 #[.val (.ref a1), .val (.long q2), .second, .val (.long q3), .second] [])) t := by
    intro t kt
    show Steps p.tables e below (T2.setTop (mkF m 4 #[.val (.ref a1), .val (.long q2), .second, .val (.long q3), .second] [])) _
    refine XS.aloadN X2.here hx rfl (hb hby d1_4) rfl rfl ?_
    show Steps p.tables e below (T2.setTop (mkF m 5 #[.val (.ref a1), .val (.long q2), .second, .val (.long q3), .second] [(.ref a1)])) _
    refine XS.lloadN X2.here hx rfl (hb hby d1_5) rfl ?_
    exact kt
  refine own_go go3 ?_
  obtain ⟨T4, h4, X4, e4, W4, st4⟩ := putF X2 hx hZ hown (host := "") (Or.inl (hw _ (List.mem_of_getElem? (i := 9) rfl))) Via.refl e2 F_limit E (Or.inr ⟨(hw _ (List.mem_of_getElem? (i := 10) rfl)), rfl, hnm⟩) (hw _ (List.mem_of_getElem? (i := 1) rfl)) (ty := .long) (by decide) rfl rfl (g := (mkF m 6 #[.val (.ref a1), .val (.long q2), .second, .val (.long q3), .second] [(.long q2), (.ref a1)])) rfl rfl (hb hby d1_6)
  have F4_a1_limit : Fld Z h4 a1 "com/example/tocsin/tocsin/net/Backlog" "limit" "J" (.long q2) := F_limit.same W4
  have F4_a1_emptyAt : Fld Z h4 a1 "com/example/tocsin/tocsin/net/Backlog" "emptyAt" "J" (.long (0 : Int64)) := F_emptyAt.other W4 (Or.inr (slot_ne (Or.inl (hw _ (List.mem_of_getElem? (i := 12) rfl))) (Or.inr (hw _ (List.mem_of_getElem? (i := 10) rfl))) (by decide) (t := .long) (t' := .long) (by decide) (by decide)))
  have F4_a1_behindAt : Fld Z h4 a1 "com/example/tocsin/tocsin/net/Backlog" "behindAt" "J" (.long (0 : Int64)) := F_behindAt.other W4 (Or.inr (slot_ne (Or.inl (hw _ (List.mem_of_getElem? (i := 15) rfl))) (Or.inr (hw _ (List.mem_of_getElem? (i := 10) rfl))) (by decide) (t := .long) (t' := .long) (by decide) (by decide)))
  have E4_a1 : Exa Z h4 a1 "com/example/tocsin/tocsin/net/Backlog" := E.wr W4
  have N4 := Fr.snoc X4 N0 ga
  have K4 : Keep h0 h4 [a1] := (Keep.refl h0 [a1]).wr W4 (Or.inl (List.mem_of_getElem? (i := 0) rfl))
  refine own_go (S' := T4.setTop (mkF m 9 #[.val (.ref a1), .val (.long q2), .second, .val (.long q3), .second] [])) st4 ?_
  have go5 : ∀ t, Steps p.tables e below (T4.setTop (mkF m 11 #[.val (.ref a1), .val (.long q2), .second, .val (.long q3), .second] [(.long q3), (.ref a1)])) t → Steps p.tables e below (T4.setTop (mkF m 9 #[.val (.ref a1), .val (.long q2), .second, .val (.long q3), .second] [])) t := by
    intro t kt
    show Steps p.tables e below (T4.setTop (mkF m 9 #[.val (.ref a1), .val (.long q2), .second, .val (.long q3), .second] [])) _
    refine XS.aloadN X4.here hx rfl (hb hby d1_9) rfl rfl ?_
    show Steps p.tables e below (T4.setTop (mkF m 10 #[.val (.ref a1), .val (.long q2), .second, .val (.long q3), .second] [(.ref a1)])) _
    refine XS.lloadN X4.here hx rfl (hb hby d1_10) rfl ?_
    exact kt
  refine own_go go5 ?_
  obtain ⟨T6, h6, X6, e6, W6, st6⟩ := putF X4 hx hZ hown (host := "") (Or.inl (hw _ (List.mem_of_getElem? (i := 11) rfl))) Via.refl e4 F4_a1_emptyAt E4_a1 (Or.inl (hw _ (List.mem_of_getElem? (i := 12) rfl))) (hw _ (List.mem_of_getElem? (i := 1) rfl)) (ty := .long) (by decide) rfl rfl (g := (mkF m 11 #[.val (.ref a1), .val (.long q2), .second, .val (.long q3), .second] [(.long q3), (.ref a1)])) rfl rfl (hb hby d1_11)
  have F6_a1_limit : Fld Z h6 a1 "com/example/tocsin/tocsin/net/Backlog" "limit" "J" (.long q2) := F4_a1_limit.other W6 (Or.inr (slot_ne (Or.inr (hw _ (List.mem_of_getElem? (i := 10) rfl))) (Or.inl (hw _ (List.mem_of_getElem? (i := 12) rfl))) (by decide) (t := .long) (t' := .long) (by decide) (by decide)))
  have F6_a1_emptyAt : Fld Z h6 a1 "com/example/tocsin/tocsin/net/Backlog" "emptyAt" "J" (.long q3) := F4_a1_emptyAt.same W6
  have F6_a1_behindAt : Fld Z h6 a1 "com/example/tocsin/tocsin/net/Backlog" "behindAt" "J" (.long (0 : Int64)) := F4_a1_behindAt.other W6 (Or.inr (slot_ne (Or.inl (hw _ (List.mem_of_getElem? (i := 15) rfl))) (Or.inl (hw _ (List.mem_of_getElem? (i := 12) rfl))) (by decide) (t := .long) (t' := .long) (by decide) (by decide)))
  have E6_a1 : Exa Z h6 a1 "com/example/tocsin/tocsin/net/Backlog" := E4_a1.wr W6
  have N6 := Fr.snoc X6 N4 ga
  have K6 : Keep h0 h6 [a1] := K4.wr W6 (Or.inl (List.mem_of_getElem? (i := 0) rfl))
  refine own_go (S' := T6.setTop (mkF m 14 #[.val (.ref a1), .val (.long q2), .second, .val (.long q3), .second] [])) st6 ?_
  have go7 : ∀ t, Steps p.tables e below (T6.setTop (mkF m 18 #[.val (.ref a1), .val (.long q2), .second, .val (.long q3), .second] [(.long (-9223372036854775808 : Int64)), (.ref a1)])) t → Steps p.tables e below (T6.setTop (mkF m 14 #[.val (.ref a1), .val (.long q2), .second, .val (.long q3), .second] [])) t := by
    intro t kt
    show Steps p.tables e below (T6.setTop (mkF m 14 #[.val (.ref a1), .val (.long q2), .second, .val (.long q3), .second] [])) _
    refine XS.aloadN X6.here hx rfl (hb hby d1_14) rfl rfl ?_
    show Steps p.tables e below (T6.setTop (mkF m 15 #[.val (.ref a1), .val (.long q2), .second, .val (.long q3), .second] [(.ref a1)])) _
    refine X6.ldc2Long hx hown (mvT hZ (hw _ (List.mem_of_getElem? (i := 13) rfl))) (g := (mkF m 15 #[.val (.ref a1), .val (.long q2), .second, .val (.long q3), .second] [(.ref a1)])) rfl (hb hby d1_15) _ ?_
    exact kt
  refine own_go go7 ?_
  obtain ⟨T8, h8, X8, e8, W8, st8⟩ := putF X6 hx hZ hown (host := "") (Or.inl (hw _ (List.mem_of_getElem? (i := 14) rfl))) Via.refl e6 F6_a1_behindAt E6_a1 (Or.inl (hw _ (List.mem_of_getElem? (i := 15) rfl))) (hw _ (List.mem_of_getElem? (i := 1) rfl)) (ty := .long) (by decide) rfl rfl (g := (mkF m 18 #[.val (.ref a1), .val (.long q2), .second, .val (.long q3), .second] [(.long (-9223372036854775808 : Int64)), (.ref a1)])) rfl rfl (hb hby d1_18)
  have F8_a1_limit : Fld Z h8 a1 "com/example/tocsin/tocsin/net/Backlog" "limit" "J" (.long q2) := F6_a1_limit.other W8 (Or.inr (slot_ne (Or.inr (hw _ (List.mem_of_getElem? (i := 10) rfl))) (Or.inl (hw _ (List.mem_of_getElem? (i := 15) rfl))) (by decide) (t := .long) (t' := .long) (by decide) (by decide)))
  have F8_a1_emptyAt : Fld Z h8 a1 "com/example/tocsin/tocsin/net/Backlog" "emptyAt" "J" (.long q3) := F6_a1_emptyAt.other W8 (Or.inr (slot_ne (Or.inl (hw _ (List.mem_of_getElem? (i := 12) rfl))) (Or.inl (hw _ (List.mem_of_getElem? (i := 15) rfl))) (by decide) (t := .long) (t' := .long) (by decide) (by decide)))
  have F8_a1_behindAt : Fld Z h8 a1 "com/example/tocsin/tocsin/net/Backlog" "behindAt" "J" (.long (-9223372036854775808 : Int64)) := F6_a1_behindAt.same W8
  have E8_a1 : Exa Z h8 a1 "com/example/tocsin/tocsin/net/Backlog" := E6_a1.wr W8
  have N8 := Fr.snoc X8 N6 ga
  have K8 : Keep h0 h8 [a1] := K6.wr W8 (Or.inl (List.mem_of_getElem? (i := 0) rfl))
  refine own_go (S' := T8.setTop (mkF m 21 #[.val (.ref a1), .val (.long q2), .second, .val (.long q3), .second] [])) st8 ?_
  obtain ⟨fs, hr, hrun, hended, hW, hsame⟩ := X8.leave (v := none) (fun _ => rfl)
  refine ⟨_, _, X8.returnOut hx Bd.returns (hb hby d1_21) hr, hrun, hended, _, _, rfl, ?_, ⟨_, rfl⟩, hW, hsame.mono (by decide) (by decide)⟩
  show own_Q Z a1 q2 q3 (-9223372036854775808 : Int64) h0 n0 _ T8.heap _
  rw [e8]
  exact ⟨rfl, N8, K8, E8_a1, F8_a1_limit, F8_a1_emptyAt, F8_a1_behindAt⟩
theorem d3_0 : decode prog_83_method_2_code 0 = .ok (.iload_n 1, 1) := by decide +kernel
theorem d3_1 : decode prog_83_method_2_code 1 = .ok (.ifCond .ne 11, 3) := by decide +kernel
theorem d3_4 : decode prog_83_method_2_code 4 = .ok (.aload_n 0, 1) := by decide +kernel
theorem d3_5 : decode prog_83_method_2_code 5 = .ok (.lload_n 2, 1) := by decide +kernel
theorem d3_6 : decode prog_83_method_2_code 6 = .ok (.putfield 13, 3) := by decide +kernel
theorem d3_9 : decode prog_83_method_2_code 9 = .ok (.goto 22, 3) := by decide +kernel
theorem d3_12 : decode prog_83_method_2_code 12 = .ok (.lload_n 2, 1) := by decide +kernel
theorem d3_13 : decode prog_83_method_2_code 13 = .ok (.aload_n 0, 1) := by decide +kernel
theorem d3_14 : decode prog_83_method_2_code 14 = .ok (.getfield 13, 3) := by decide +kernel
theorem d3_17 : decode prog_83_method_2_code 17 = .ok (.lsub, 1) := by decide +kernel
theorem d3_18 : decode prog_83_method_2_code 18 = .ok (.aload_n 0, 1) := by decide +kernel
theorem d3_19 : decode prog_83_method_2_code 19 = .ok (.getfield 7, 3) := by decide +kernel
theorem d3_22 : decode prog_83_method_2_code 22 = .ok (.lcmp, 1) := by decide +kernel
theorem d3_23 : decode prog_83_method_2_code 23 = .ok (.ifCond .le 8, 3) := by decide +kernel
theorem d3_26 : decode prog_83_method_2_code 26 = .ok (.aload_n 0, 1) := by decide +kernel
theorem d3_27 : decode prog_83_method_2_code 27 = .ok (.lload_n 2, 1) := by decide +kernel
theorem d3_28 : decode prog_83_method_2_code 28 = .ok (.putfield 20, 3) := by decide +kernel
theorem d3_31 : decode prog_83_method_2_code 31 = .ok (.return_, 1) := by decide +kernel
theorem pn_3 : plainName "com/example/tocsin/tocsin/net/Backlog" = true := by first | (simp [plainName, overriddenIn]; done) | decide +kernel
theorem ef_3 (m : MethodId) (x0 : Addr) (x1 : Int32) (x2 : Int64) : entryFrame m #[(.ref x0), (.int x1), (.long x2)] 4 = mkF m 0 #[.val (.ref x0), .val (.int x1), .val (.long x2), .second] [] := by first | (simp [entryFrame, mkF, argsToLocals, Value.category]; done) | rfl
set_option maxRecDepth 65536 in
set_option maxHeartbeats 40000000 in
theorem rm3 (l : Launch) (Z : State) (a0 : Array Value) (hw : ∀ d ∈ tables_1, d.before a0 Z = true) (ws : List Jvm.Cond) (a1 : Addr) (p2 : Int32) (q3 : Int64) (lim emp beh : Int64) (h0 : Heap) (n0 : Nat) (Z0 : n0 ≤ h0.size) (E : Exa Z h0 a1 "com/example/tocsin/tocsin/net/Backlog") (F_limit : Fld Z h0 a1 "com/example/tocsin/tocsin/net/Backlog" "limit" "J" (.long lim)) (F_emptyAt : Fld Z h0 a1 "com/example/tocsin/tocsin/net/Backlog" "emptyAt" "J" (.long emp)) (F_behindAt : Fld Z h0 a1 "com/example/tocsin/tocsin/net/Backlog" "behindAt" "J" (.long beh)) (ga : n0 ≤ a1) :
    MetFree l (⟨"com/example/tocsin/tocsin/net/Backlog", "looked", "(ZJ)V"⟩ : MethodName) (head1 (Jvm.Cond.code (⟨"com/example/tocsin/tocsin/net/Backlog", "looked", "(ZJ)V"⟩ : MethodName) prog_83_method_2_code 4 none :: ws) ({ frames := 0, cells := 0, slots := 0, locals := 0 } : Room)) (fun a U => a = #[(.ref a1), (.int p2), (.long q3)] ∧ Z.Warmed39 U.vm ∧ U.heap = h0) (fun _ _ _ _ _ => True) (fun _ U o U' => ∃ v L, o = .returned v ∧ own_Q Z a1 lim (own_emp p2 q3 emp) (own_beh p2 q3 lim emp beh) h0 n0 v U'.heap L ∧ FrameEnd U o U' L ({ frames := 0, cells := 0, slots := 0, locals := 0 } : Room).cells ({ frames := 0, cells := 0, slots := 0, locals := 0 } : Room).slots) := by
  refine MetFree.of_bodySF (plainFor_of_name pn_3) hisR ?_
  intro p e s m args below meth c s₁ Bd hml0 hP hK
  obtain ⟨rfl, hZ, hh⟩ := hP
  have hx := Bd.exec
  have hby := Bd.bytes
  have hml : c.maxLocals = 4 := hml0
  have hown : s.vm.findClass "com/example/tocsin/tocsin/net/Backlog" = some m.cls := findClass_of_methodNamed Bd.named
  have hnm := (name_of_methodNamed Bd.named Bd.method).1
  have X0 : Stand p l e ({ frames := 0, cells := 0, slots := 0, locals := 0 } : Room) s m #[(.ref a1), (.int p2), (.long q3)] below meth c s₁ [] 0 0 := Stand.of_body Bd
  have e0 : s₁.heap = h0 := by rw [← hh, Bd.state]; rfl
  have N0 := Fr.nil n0
  have pre0 : ∀ t, Steps p.tables e below (s₁.setTop (mkF m 0 #[.val (.ref a1), .val (.int p2), .val (.long q3), .second] [])) t → Steps p.tables e below (s₁.setTop (entryFrame m #[(.ref a1), (.int p2), (.long q3)] 4)) t := fun t k => castTop (ef_3 m a1 p2 q3) k
  refine own_go pre0 ?_
  have go1 : ∀ t, Steps p.tables e below (s₁.setTop (mkF m 1 #[.val (.ref a1), .val (.int p2), .val (.long q3), .second] [(.int p2)])) t → Steps p.tables e below (s₁.setTop (mkF m 0 #[.val (.ref a1), .val (.int p2), .val (.long q3), .second] [])) t := by
    intro t kt
    show Steps p.tables e below (s₁.setTop (mkF m 0 #[.val (.ref a1), .val (.int p2), .val (.long q3), .second] [])) _
    refine XS.iloadN X0.here hx rfl (hb hby d3_0) rfl ?_
    exact kt
  refine own_go go1 ?_
  rcases Classical.em (p2 = (0 : Int32)) with hc1 | hc1
  · have go2 : ∀ t, Steps p.tables e below (s₁.setTop (mkF m 6 #[.val (.ref a1), .val (.int p2), .val (.long q3), .second] [(.long q3), (.ref a1)])) t → Steps p.tables e below (s₁.setTop (mkF m 1 #[.val (.ref a1), .val (.int p2), .val (.long q3), .second] [(.int p2)])) t := by
      intro t kt
      show Steps p.tables e below (s₁.setTop (mkF m 1 #[.val (.ref a1), .val (.int p2), .val (.long q3), .second] [(.int p2)])) _
      refine XS.ifNo X0.here hx rfl (hb hby d3_1) rfl ((if0 _ _).trans (teq hc1).2) ?_
      show Steps p.tables e below (s₁.setTop (mkF m 4 #[.val (.ref a1), .val (.int p2), .val (.long q3), .second] [])) _
      refine XS.aloadN X0.here hx rfl (hb hby d3_4) rfl rfl ?_
      show Steps p.tables e below (s₁.setTop (mkF m 5 #[.val (.ref a1), .val (.int p2), .val (.long q3), .second] [(.ref a1)])) _
      refine XS.lloadN X0.here hx rfl (hb hby d3_5) rfl ?_
      exact kt
    refine own_go go2 ?_
    obtain ⟨T3, h3, X3, e3, W3, st3⟩ := putF X0 hx hZ hown (host := "") (Or.inl (hw _ (List.mem_of_getElem? (i := 11) rfl))) Via.refl e0 F_emptyAt E (Or.inl (hw _ (List.mem_of_getElem? (i := 12) rfl))) (hw _ (List.mem_of_getElem? (i := 1) rfl)) (ty := .long) (by decide) rfl rfl (g := (mkF m 6 #[.val (.ref a1), .val (.int p2), .val (.long q3), .second] [(.long q3), (.ref a1)])) rfl rfl (hb hby d3_6)
    have F3_a1_limit : Fld Z h3 a1 "com/example/tocsin/tocsin/net/Backlog" "limit" "J" (.long lim) := F_limit.other W3 (Or.inr (slot_ne (Or.inr (hw _ (List.mem_of_getElem? (i := 10) rfl))) (Or.inl (hw _ (List.mem_of_getElem? (i := 12) rfl))) (by decide) (t := .long) (t' := .long) (by decide) (by decide)))
    have F3_a1_emptyAt : Fld Z h3 a1 "com/example/tocsin/tocsin/net/Backlog" "emptyAt" "J" (.long q3) := F_emptyAt.same W3
    have F3_a1_behindAt : Fld Z h3 a1 "com/example/tocsin/tocsin/net/Backlog" "behindAt" "J" (.long beh) := F_behindAt.other W3 (Or.inr (slot_ne (Or.inl (hw _ (List.mem_of_getElem? (i := 15) rfl))) (Or.inl (hw _ (List.mem_of_getElem? (i := 12) rfl))) (by decide) (t := .long) (t' := .long) (by decide) (by decide)))
    have E3_a1 : Exa Z h3 a1 "com/example/tocsin/tocsin/net/Backlog" := E.wr W3
    have N3 := Fr.snoc X3 N0 ga
    have K3 : Keep h0 h3 [a1] := (Keep.refl h0 [a1]).wr W3 (Or.inl (List.mem_of_getElem? (i := 0) rfl))
    refine own_go (S' := T3.setTop (mkF m 9 #[.val (.ref a1), .val (.int p2), .val (.long q3), .second] [])) st3 ?_
    have go4 : ∀ t, Steps p.tables e below (T3.setTop (mkF m 31 #[.val (.ref a1), .val (.int p2), .val (.long q3), .second] [])) t → Steps p.tables e below (T3.setTop (mkF m 9 #[.val (.ref a1), .val (.int p2), .val (.long q3), .second] [])) t := by
      intro t kt
      show Steps p.tables e below (T3.setTop (mkF m 9 #[.val (.ref a1), .val (.int p2), .val (.long q3), .second] [])) _
      refine XS.goto X3.here hx rfl (pc0 := 9) (pc' := 31) rfl (hb hby d3_9) (by decide) (by decide) ?_
      exact kt
    refine own_go go4 ?_
    obtain ⟨fs, hr, hrun, hended, hW, hsame⟩ := X3.leave (v := none) (fun _ => rfl)
    refine ⟨_, _, X3.returnOut hx Bd.returns (hb hby d3_31) hr, hrun, hended, _, _, rfl, ?_, ⟨_, rfl⟩, hW, hsame.mono (by decide) (by decide)⟩
    show own_Q Z a1 lim (own_emp p2 q3 emp) (own_beh p2 q3 lim emp beh) h0 n0 _ T3.heap _
    rw [e3]
    exact ⟨rfl, N3, K3, E3_a1, F3_a1_limit, (by rw [show own_emp p2 q3 emp = q3 from by first | (simp only [own_emp, hc1, not_true_eq_false, not_false_eq_true, and_true, true_and, and_false, false_and, or_true, true_or, or_false, false_or, and_self, or_self, eq_self, if_true, if_false]; done) | (simp [own_emp, hc1]; done)]; exact F3_a1_emptyAt), (by rw [show own_beh p2 q3 lim emp beh = beh from by first | (simp only [own_beh, hc1, not_true_eq_false, not_false_eq_true, and_true, true_and, and_false, false_and, or_true, true_or, or_false, false_or, and_self, or_self, eq_self, if_true, if_false]; done) | (simp [own_beh, hc1]; done)]; exact F3_a1_behindAt)⟩
  · have go5 : ∀ t, Steps p.tables e below (s₁.setTop (mkF m 14 #[.val (.ref a1), .val (.int p2), .val (.long q3), .second] [(.ref a1), (.long q3)])) t → Steps p.tables e below (s₁.setTop (mkF m 1 #[.val (.ref a1), .val (.int p2), .val (.long q3), .second] [(.int p2)])) t := by
      intro t kt
      show Steps p.tables e below (s₁.setTop (mkF m 1 #[.val (.ref a1), .val (.int p2), .val (.long q3), .second] [(.int p2)])) _
      refine XS.ifYes X0.here hx rfl (pc0 := 1) (pc' := 12) rfl (hb hby d3_1) rfl ((if0 _ _).trans (feq hc1).2) (by decide) (by decide) ?_
      show Steps p.tables e below (s₁.setTop (mkF m 12 #[.val (.ref a1), .val (.int p2), .val (.long q3), .second] [])) _
      refine XS.lloadN X0.here hx rfl (hb hby d3_12) rfl ?_
      show Steps p.tables e below (s₁.setTop (mkF m 13 #[.val (.ref a1), .val (.int p2), .val (.long q3), .second] [(.long q3)])) _
      refine XS.aloadN X0.here hx rfl (hb hby d3_13) rfl rfl ?_
      exact kt
    refine own_go go5 ?_
    obtain ⟨T6, X6, e6, st6⟩ := getF X0 hx hZ hown (host := "") (Or.inl (hw _ (List.mem_of_getElem? (i := 11) rfl))) Via.refl e0 F_emptyAt (g := (mkF m 14 #[.val (.ref a1), .val (.int p2), .val (.long q3), .second] [(.ref a1), (.long q3)])) rfl rfl (hb hby d3_14)
    refine own_go (S' := T6.setTop (mkF m 17 #[.val (.ref a1), .val (.int p2), .val (.long q3), .second] [(.long emp), (.long q3)])) st6 ?_
    have go7 : ∀ t, Steps p.tables e below (T6.setTop (mkF m 19 #[.val (.ref a1), .val (.int p2), .val (.long q3), .second] [(.ref a1), (.long (q3 - emp))])) t → Steps p.tables e below (T6.setTop (mkF m 17 #[.val (.ref a1), .val (.int p2), .val (.long q3), .second] [(.long emp), (.long q3)])) t := by
      intro t kt
      show Steps p.tables e below (T6.setTop (mkF m 17 #[.val (.ref a1), .val (.int p2), .val (.long q3), .second] [(.long emp), (.long q3)])) _
      refine XS.lsub X6.here hx rfl (hb hby d3_17) rfl ?_
      show Steps p.tables e below (T6.setTop (mkF m 18 #[.val (.ref a1), .val (.int p2), .val (.long q3), .second] [(.long (q3 - emp))])) _
      refine XS.aloadN X6.here hx rfl (hb hby d3_18) rfl rfl ?_
      exact kt
    refine own_go go7 ?_
    obtain ⟨T8, X8, e8, st8⟩ := getF X6 hx hZ hown (host := "") (Or.inl (hw _ (List.mem_of_getElem? (i := 9) rfl))) Via.refl e6 F_limit (g := (mkF m 19 #[.val (.ref a1), .val (.int p2), .val (.long q3), .second] [(.ref a1), (.long (q3 - emp))])) rfl rfl (hb hby d3_19)
    refine own_go (S' := T8.setTop (mkF m 22 #[.val (.ref a1), .val (.int p2), .val (.long q3), .second] [(.long lim), (.long (q3 - emp))])) st8 ?_
    have go9 : ∀ t, Steps p.tables e below (T8.setTop (mkF m 23 #[.val (.ref a1), .val (.int p2), .val (.long q3), .second] [(.int (lcmpW (q3 - emp) lim))])) t → Steps p.tables e below (T8.setTop (mkF m 22 #[.val (.ref a1), .val (.int p2), .val (.long q3), .second] [(.long lim), (.long (q3 - emp))])) t := by
      intro t kt
      show Steps p.tables e below (T8.setTop (mkF m 22 #[.val (.ref a1), .val (.int p2), .val (.long q3), .second] [(.long lim), (.long (q3 - emp))])) _
      refine XS.lcmp X8.here hx rfl (hb hby d3_22) rfl ?_
      exact kt
    refine own_go go9 ?_
    rcases Classical.em ((0 : Int32) < (lcmpW (q3 - emp) lim)) with hc23 | hc23
    · have go10 : ∀ t, Steps p.tables e below (T8.setTop (mkF m 28 #[.val (.ref a1), .val (.int p2), .val (.long q3), .second] [(.long q3), (.ref a1)])) t → Steps p.tables e below (T8.setTop (mkF m 23 #[.val (.ref a1), .val (.int p2), .val (.long q3), .second] [(.int (lcmpW (q3 - emp) lim))])) t := by
        intro t kt
        show Steps p.tables e below (T8.setTop (mkF m 23 #[.val (.ref a1), .val (.int p2), .val (.long q3), .second] [(.int (lcmpW (q3 - emp) lim))])) _
        refine XS.ifNo X8.here hx rfl (hb hby d3_23) rfl ((if0 _ _).trans (tlt hc23).2.2.2) ?_
        show Steps p.tables e below (T8.setTop (mkF m 26 #[.val (.ref a1), .val (.int p2), .val (.long q3), .second] [])) _
        refine XS.aloadN X8.here hx rfl (hb hby d3_26) rfl rfl ?_
        show Steps p.tables e below (T8.setTop (mkF m 27 #[.val (.ref a1), .val (.int p2), .val (.long q3), .second] [(.ref a1)])) _
        refine XS.lloadN X8.here hx rfl (hb hby d3_27) rfl ?_
        exact kt
      refine own_go go10 ?_
      obtain ⟨T11, h11, X11, e11, W11, st11⟩ := putF X8 hx hZ hown (host := "") (Or.inl (hw _ (List.mem_of_getElem? (i := 14) rfl))) Via.refl e8 F_behindAt E (Or.inl (hw _ (List.mem_of_getElem? (i := 15) rfl))) (hw _ (List.mem_of_getElem? (i := 1) rfl)) (ty := .long) (by decide) rfl rfl (g := (mkF m 28 #[.val (.ref a1), .val (.int p2), .val (.long q3), .second] [(.long q3), (.ref a1)])) rfl rfl (hb hby d3_28)
      have F11_a1_limit : Fld Z h11 a1 "com/example/tocsin/tocsin/net/Backlog" "limit" "J" (.long lim) := F_limit.other W11 (Or.inr (slot_ne (Or.inr (hw _ (List.mem_of_getElem? (i := 10) rfl))) (Or.inl (hw _ (List.mem_of_getElem? (i := 15) rfl))) (by decide) (t := .long) (t' := .long) (by decide) (by decide)))
      have F11_a1_emptyAt : Fld Z h11 a1 "com/example/tocsin/tocsin/net/Backlog" "emptyAt" "J" (.long emp) := F_emptyAt.other W11 (Or.inr (slot_ne (Or.inl (hw _ (List.mem_of_getElem? (i := 12) rfl))) (Or.inl (hw _ (List.mem_of_getElem? (i := 15) rfl))) (by decide) (t := .long) (t' := .long) (by decide) (by decide)))
      have F11_a1_behindAt : Fld Z h11 a1 "com/example/tocsin/tocsin/net/Backlog" "behindAt" "J" (.long q3) := F_behindAt.same W11
      have E11_a1 : Exa Z h11 a1 "com/example/tocsin/tocsin/net/Backlog" := E.wr W11
      have N11 := Fr.snoc X11 N0 ga
      have K11 : Keep h0 h11 [a1] := (Keep.refl h0 [a1]).wr W11 (Or.inl (List.mem_of_getElem? (i := 0) rfl))
      refine own_go (S' := T11.setTop (mkF m 31 #[.val (.ref a1), .val (.int p2), .val (.long q3), .second] [])) st11 ?_
      obtain ⟨fs, hr, hrun, hended, hW, hsame⟩ := X11.leave (v := none) (fun _ => rfl)
      refine ⟨_, _, X11.returnOut hx Bd.returns (hb hby d3_31) hr, hrun, hended, _, _, rfl, ?_, ⟨_, rfl⟩, hW, hsame.mono (by decide) (by decide)⟩
      show own_Q Z a1 lim (own_emp p2 q3 emp) (own_beh p2 q3 lim emp beh) h0 n0 _ T11.heap _
      rw [e11]
      exact ⟨rfl, N11, K11, E11_a1, F11_a1_limit, (by rw [show own_emp p2 q3 emp = emp from by first | (simp only [own_emp, hc1, hc23, not_true_eq_false, not_false_eq_true, and_true, true_and, and_false, false_and, or_true, true_or, or_false, false_or, and_self, or_self, eq_self, if_true, if_false]; done) | (simp [own_emp, hc1, hc23]; done)]; exact F11_a1_emptyAt), (by rw [show own_beh p2 q3 lim emp beh = q3 from by first | (simp only [own_beh, hc1, hc23, not_true_eq_false, not_false_eq_true, and_true, true_and, and_false, false_and, or_true, true_or, or_false, false_or, and_self, or_self, eq_self, if_true, if_false]; done) | (simp [own_beh, hc1, hc23]; done)]; exact F11_a1_behindAt)⟩
    · have go12 : ∀ t, Steps p.tables e below (T8.setTop (mkF m 31 #[.val (.ref a1), .val (.int p2), .val (.long q3), .second] [])) t → Steps p.tables e below (T8.setTop (mkF m 23 #[.val (.ref a1), .val (.int p2), .val (.long q3), .second] [(.int (lcmpW (q3 - emp) lim))])) t := by
        intro t kt
        show Steps p.tables e below (T8.setTop (mkF m 23 #[.val (.ref a1), .val (.int p2), .val (.long q3), .second] [(.int (lcmpW (q3 - emp) lim))])) _
        refine XS.ifYes X8.here hx rfl (pc0 := 23) (pc' := 31) rfl (hb hby d3_23) rfl ((if0 _ _).trans (flt hc23).2.2.2) (by decide) (by decide) ?_
        exact kt
      refine own_go go12 ?_
      obtain ⟨fs, hr, hrun, hended, hW, hsame⟩ := X8.leave (v := none) (fun _ => rfl)
      refine ⟨_, _, X8.returnOut hx Bd.returns (hb hby d3_31) hr, hrun, hended, _, _, rfl, ?_, ⟨_, rfl⟩, hW, hsame.mono (by decide) (by decide)⟩
      show own_Q Z a1 lim (own_emp p2 q3 emp) (own_beh p2 q3 lim emp beh) h0 n0 _ T8.heap _
      rw [e8]
      exact ⟨rfl, N0, (Keep.refl h0 [a1]), E, F_limit, (by rw [show own_emp p2 q3 emp = emp from by first | (simp only [own_emp, hc1, hc23, not_true_eq_false, not_false_eq_true, and_true, true_and, and_false, false_and, or_true, true_or, or_false, false_or, and_self, or_self, eq_self, if_true, if_false]; done) | (simp [own_emp, hc1, hc23]; done)]; exact F_emptyAt), (by rw [show own_beh p2 q3 lim emp beh = beh from by first | (simp only [own_beh, hc1, hc23, not_true_eq_false, not_false_eq_true, and_true, true_and, and_false, false_and, or_true, true_or, or_false, false_or, and_self, or_self, eq_self, if_true, if_false]; done) | (simp [own_beh, hc1, hc23]; done)]; exact F_behindAt)⟩
theorem d4_0 : decode prog_83_method_3_code 0 = .ok (.aload_n 0, 1) := by decide +kernel
theorem d4_1 : decode prog_83_method_3_code 1 = .ok (.getfield 20, 3) := by decide +kernel
theorem d4_4 : decode prog_83_method_3_code 4 = .ok (.lreturn, 1) := by decide +kernel
theorem pn_4 : plainName "com/example/tocsin/tocsin/net/Backlog" = true := by first | (simp [plainName, overriddenIn]; done) | decide +kernel
theorem ef_4 (m : MethodId) (x0 : Addr) : entryFrame m #[(.ref x0)] 1 = mkF m 0 #[.val (.ref x0)] [] := by first | (simp [entryFrame, mkF, argsToLocals, Value.category]; done) | rfl
def Q4 (Z : State) (beh : Int64) (h0 : Heap) (n0 : Nat) (v : Option Value) (h : Heap) (L : List Loc) : Prop := v = some (.long beh) ∧ Fr n0 L ∧ h = h0
set_option maxRecDepth 65536 in
set_option maxHeartbeats 40000000 in
theorem rm4 (l : Launch) (Z : State) (a0 : Array Value) (hw : ∀ d ∈ tables_1, d.before a0 Z = true) (ws : List Jvm.Cond) (a1 : Addr) (beh : Int64) (h0 : Heap) (n0 : Nat) (Z0 : n0 ≤ h0.size) (F_behindAt : Fld Z h0 a1 "com/example/tocsin/tocsin/net/Backlog" "behindAt" "J" (.long beh)) :
    MetFree l (⟨"com/example/tocsin/tocsin/net/Backlog", "behindAt", "()J"⟩ : MethodName) (head1 (Jvm.Cond.code (⟨"com/example/tocsin/tocsin/net/Backlog", "behindAt", "()J"⟩ : MethodName) prog_83_method_3_code 1 (some .long) :: ws) ({ frames := 0, cells := 0, slots := 0, locals := 0 } : Room)) (fun a U => a = #[(.ref a1)] ∧ Z.Warmed39 U.vm ∧ U.heap = h0) (fun _ _ _ _ _ => True) (fun _ U o U' => ∃ v L, o = .returned v ∧ Q4 Z beh h0 n0 v U'.heap L ∧ FrameEnd U o U' L ({ frames := 0, cells := 0, slots := 0, locals := 0 } : Room).cells ({ frames := 0, cells := 0, slots := 0, locals := 0 } : Room).slots) := by
  refine MetFree.of_bodySF (plainFor_of_name pn_4) hisR ?_
  intro p e s m args below meth c s₁ Bd hml0 hP hK
  obtain ⟨rfl, hZ, hh⟩ := hP
  have hx := Bd.exec
  have hby := Bd.bytes
  have hml : c.maxLocals = 1 := hml0
  have hown : s.vm.findClass "com/example/tocsin/tocsin/net/Backlog" = some m.cls := findClass_of_methodNamed Bd.named
  have hnm := (name_of_methodNamed Bd.named Bd.method).1
  have X0 : Stand p l e ({ frames := 0, cells := 0, slots := 0, locals := 0 } : Room) s m #[(.ref a1)] below meth c s₁ [] 0 0 := Stand.of_body Bd
  have e0 : s₁.heap = h0 := by rw [← hh, Bd.state]; rfl
  have N0 := Fr.nil n0
  have pre0 : ∀ t, Steps p.tables e below (s₁.setTop (mkF m 0 #[.val (.ref a1)] [])) t → Steps p.tables e below (s₁.setTop (entryFrame m #[(.ref a1)] 1)) t := fun t k => castTop (ef_4 m a1) k
  refine own_go pre0 ?_
  have go1 : ∀ t, Steps p.tables e below (s₁.setTop (mkF m 1 #[.val (.ref a1)] [(.ref a1)])) t → Steps p.tables e below (s₁.setTop (mkF m 0 #[.val (.ref a1)] [])) t := by
    intro t kt
    show Steps p.tables e below (s₁.setTop (mkF m 0 #[.val (.ref a1)] [])) _
    refine XS.aloadN X0.here hx rfl (hb hby d4_0) rfl rfl ?_
    exact kt
  refine own_go go1 ?_
  obtain ⟨T2, X2, e2, st2⟩ := getF X0 hx hZ hown (host := "") (Or.inl (hw _ (List.mem_of_getElem? (i := 14) rfl))) Via.refl e0 F_behindAt (g := (mkF m 1 #[.val (.ref a1)] [(.ref a1)])) rfl rfl (hb hby d4_1)
  refine own_go (S' := T2.setTop (mkF m 4 #[.val (.ref a1)] [(.long beh)])) st2 ?_
  obtain ⟨fs, hr, hrun, hended, hW, hsame⟩ := X2.leave (v := some (.long beh)) (fun h => by rw [Bd.returns] at h; cases h)
  refine ⟨_, _, retOut X2 hx Bd.returns rfl (Or.inr (Or.inl ⟨rfl, rfl, _, rfl⟩)) (hb hby d4_4) hr, hrun, hended, _, _, rfl, ?_, ⟨_, rfl⟩, hW, hsame.mono (by decide) (by decide)⟩
  show Q4 Z beh h0 n0 _ T2.heap _
  rw [e2]
  exact ⟨rfl, N0, rfl⟩
theorem pn_0 : plainName "com/example/tocsin/tocsin/net/BacklogLookedPinLaw" = true := by first | (simp [plainName, overriddenIn]; done) | decide +kernel
theorem ef_0 (m : MethodId) (x0 : Int64) (x1 : Int64) (x2 : Int64) (x3 : Int64) (x4 : Int32) : entryFrame m #[(.long x0), (.long x1), (.long x2), (.long x3), (.int x4)] maxLocals = mkF m 0 #[.val (.long x0), .second, .val (.long x1), .second, .val (.long x2), .second, .val (.long x3), .second, .val (.int x4), .unset, .unset, .unset, .unset, .unset, .unset, .unset, .unset, .unset, .unset, .unset, .unset, .unset] [] := by first | (simp [entryFrame, mkF, argsToLocals, Value.category, maxLocals]; done) | rfl
def Q0 (Z : State) (h0 : Heap) (n0 : Nat) (v : Option Value) (h : Heap) (L : List Loc) : Prop := v = some (.int (1 : Int32)) ∧ Fr n0 L
set_option maxRecDepth 65536 in
set_option maxHeartbeats 40000000 in
theorem rm0 (l : Launch) (Z : State) (a0 : Array Value) (hw : ∀ d ∈ tables_1, d.before a0 Z = true) (ws : List Jvm.Cond) (q1 : Int64) (q2 : Int64) (q3 : Int64) (q4 : Int64) (p5 : Int32) (h0 : Heap) (n0 : Nat) (Z0 : n0 ≤ h0.size) :
    MetFree l x (head1 (Jvm.Cond.code x code maxLocals ret :: ws) room_1) (fun a U => a = #[(.long q1), (.long q2), (.long q3), (.long q4), (.int p5)] ∧ Z.Warmed39 U.vm ∧ U.heap = h0) (fun _ _ _ _ _ => True) (fun _ U o U' => ∃ v L, o = .returned v ∧ Q0 Z  h0 n0 v U'.heap L ∧ FrameEnd U o U' L room_1.cells room_1.slots) := by
  refine MetFree.of_bodySF (plainFor_of_name pn_0) hisR ?_
  intro p e s m args below meth c s₁ Bd hml0 hP hK
  obtain ⟨rfl, hZ, hh⟩ := hP
  have hx := Bd.exec
  have hby := Bd.bytes
  have hml : c.maxLocals = 22 := hml0
  have hown : s.vm.findClass "com/example/tocsin/tocsin/net/BacklogLookedPinLaw" = some m.cls := findClass_of_methodNamed Bd.named
  have hnm := (name_of_methodNamed Bd.named Bd.method).1
  have X0 : Stand p l e room_1 s m #[(.long q1), (.long q2), (.long q3), (.long q4), (.int p5)] below meth c s₁ [] 0 0 := Stand.of_body Bd
  have e0 : s₁.heap = h0 := by rw [← hh, Bd.state]; rfl
  have N0 := Fr.nil n0
  have pre0 : ∀ t, Steps p.tables e below (s₁.setTop (mkF m 0 #[.val (.long q1), .second, .val (.long q2), .second, .val (.long q3), .second, .val (.long q4), .second, .val (.int p5), .unset, .unset, .unset, .unset, .unset, .unset, .unset, .unset, .unset, .unset, .unset, .unset, .unset] [])) t → Steps p.tables e below (s₁.setTop (entryFrame m #[(.long q1), (.long q2), (.long q3), (.long q4), (.int p5)] maxLocals)) t := fun t k => castTop (ef_0 m q1 q2 q3 q4 p5) k
  refine own_go pre0 ?_
  obtain ⟨f, hf, go1⟩ : ∃ f : Int32, (True) ∧ ∀ t, Steps p.tables e below (s₁.setTop (mkF m 12 #[.val (.long q1), .second, .val (.long q2), .second, .val (.long q3), .second, .val (.long q4), .second, .val (.int p5), .unset, .unset, .unset, .unset, .unset, .unset, .unset, .unset, .unset, .unset, .unset, .unset, .unset] [(.int f)])) t → Steps p.tables e below (s₁.setTop (mkF m 0 #[.val (.long q1), .second, .val (.long q2), .second, .val (.long q3), .second, .val (.long q4), .second, .val (.int p5), .unset, .unset, .unset, .unset, .unset, .unset, .unset, .unset, .unset, .unset, .unset, .unset, .unset] [])) t := by
    have go2 : ∀ t, Steps p.tables e below (s₁.setTop (mkF m 4 #[.val (.long q1), .second, .val (.long q2), .second, .val (.long q3), .second, .val (.long q4), .second, .val (.int p5), .unset, .unset, .unset, .unset, .unset, .unset, .unset, .unset, .unset, .unset, .unset, .unset, .unset] [(.int (p5 &&& (1 : Int32)))])) t → Steps p.tables e below (s₁.setTop (mkF m 0 #[.val (.long q1), .second, .val (.long q2), .second, .val (.long q3), .second, .val (.long q4), .second, .val (.int p5), .unset, .unset, .unset, .unset, .unset, .unset, .unset, .unset, .unset, .unset, .unset, .unset, .unset] [])) t := by
      intro t kt
      show Steps p.tables e below (s₁.setTop (mkF m 0 #[.val (.long q1), .second, .val (.long q2), .second, .val (.long q3), .second, .val (.long q4), .second, .val (.int p5), .unset, .unset, .unset, .unset, .unset, .unset, .unset, .unset, .unset, .unset, .unset, .unset, .unset] [])) _
      refine XS.iload X0.here hx rfl (hb hby at_0) rfl ?_
      show Steps p.tables e below (s₁.setTop (mkF m 2 #[.val (.long q1), .second, .val (.long q2), .second, .val (.long q3), .second, .val (.long q4), .second, .val (.int p5), .unset, .unset, .unset, .unset, .unset, .unset, .unset, .unset, .unset, .unset, .unset, .unset, .unset] [(.int p5)])) _
      refine XS.iconst X0.here hx rfl (hb hby at_2) ?_
      show Steps p.tables e below (s₁.setTop (mkF m 3 #[.val (.long q1), .second, .val (.long q2), .second, .val (.long q3), .second, .val (.long q4), .second, .val (.int p5), .unset, .unset, .unset, .unset, .unset, .unset, .unset, .unset, .unset, .unset, .unset, .unset, .unset] [(.int (1 : Int32)), (.int p5)])) _
      refine XS.iand X0.here hx rfl (hb hby at_3) rfl ?_
      exact kt
    rcases Classical.em ((p5 &&& (1 : Int32)) = (0 : Int32)) with hc4 | hc4
    · have go3 : ∀ t, Steps p.tables e below (s₁.setTop (mkF m 12 #[.val (.long q1), .second, .val (.long q2), .second, .val (.long q3), .second, .val (.long q4), .second, .val (.int p5), .unset, .unset, .unset, .unset, .unset, .unset, .unset, .unset, .unset, .unset, .unset, .unset, .unset] [(.int (0 : Int32))])) t → Steps p.tables e below (s₁.setTop (mkF m 4 #[.val (.long q1), .second, .val (.long q2), .second, .val (.long q3), .second, .val (.long q4), .second, .val (.int p5), .unset, .unset, .unset, .unset, .unset, .unset, .unset, .unset, .unset, .unset, .unset, .unset, .unset] [(.int (p5 &&& (1 : Int32)))])) t := by
        intro t kt
        show Steps p.tables e below (s₁.setTop (mkF m 4 #[.val (.long q1), .second, .val (.long q2), .second, .val (.long q3), .second, .val (.long q4), .second, .val (.int p5), .unset, .unset, .unset, .unset, .unset, .unset, .unset, .unset, .unset, .unset, .unset, .unset, .unset] [(.int (p5 &&& (1 : Int32)))])) _
        refine XS.ifYes X0.here hx rfl (pc0 := 4) (pc' := 11) rfl (hb hby at_4) rfl ((if0 _ _).trans (teq hc4).1) (by decide) (by decide) ?_
        show Steps p.tables e below (s₁.setTop (mkF m 11 #[.val (.long q1), .second, .val (.long q2), .second, .val (.long q3), .second, .val (.long q4), .second, .val (.int p5), .unset, .unset, .unset, .unset, .unset, .unset, .unset, .unset, .unset, .unset, .unset, .unset, .unset] [])) _
        refine XS.iconst X0.here hx rfl (hb hby at_11) ?_
        exact kt
      exact ⟨(0 : Int32), trivial, fun t kt => (go2 t (go3 t kt))⟩
    · have go4 : ∀ t, Steps p.tables e below (s₁.setTop (mkF m 12 #[.val (.long q1), .second, .val (.long q2), .second, .val (.long q3), .second, .val (.long q4), .second, .val (.int p5), .unset, .unset, .unset, .unset, .unset, .unset, .unset, .unset, .unset, .unset, .unset, .unset, .unset] [(.int (1 : Int32))])) t → Steps p.tables e below (s₁.setTop (mkF m 4 #[.val (.long q1), .second, .val (.long q2), .second, .val (.long q3), .second, .val (.long q4), .second, .val (.int p5), .unset, .unset, .unset, .unset, .unset, .unset, .unset, .unset, .unset, .unset, .unset, .unset, .unset] [(.int (p5 &&& (1 : Int32)))])) t := by
        intro t kt
        show Steps p.tables e below (s₁.setTop (mkF m 4 #[.val (.long q1), .second, .val (.long q2), .second, .val (.long q3), .second, .val (.long q4), .second, .val (.int p5), .unset, .unset, .unset, .unset, .unset, .unset, .unset, .unset, .unset, .unset, .unset, .unset, .unset] [(.int (p5 &&& (1 : Int32)))])) _
        refine XS.ifNo X0.here hx rfl (hb hby at_4) rfl ((if0 _ _).trans (feq hc4).1) ?_
        show Steps p.tables e below (s₁.setTop (mkF m 7 #[.val (.long q1), .second, .val (.long q2), .second, .val (.long q3), .second, .val (.long q4), .second, .val (.int p5), .unset, .unset, .unset, .unset, .unset, .unset, .unset, .unset, .unset, .unset, .unset, .unset, .unset] [])) _
        refine XS.iconst X0.here hx rfl (hb hby at_7) ?_
        show Steps p.tables e below (s₁.setTop (mkF m 8 #[.val (.long q1), .second, .val (.long q2), .second, .val (.long q3), .second, .val (.long q4), .second, .val (.int p5), .unset, .unset, .unset, .unset, .unset, .unset, .unset, .unset, .unset, .unset, .unset, .unset, .unset] [(.int (1 : Int32))])) _
        refine XS.goto X0.here hx rfl (pc0 := 8) (pc' := 12) rfl (hb hby at_8) (by decide) (by decide) ?_
        exact kt
      exact ⟨(1 : Int32), trivial, fun t kt => (go2 t (go4 t kt))⟩
  refine own_go go1 ?_
  obtain ⟨f2, hf2, go5⟩ : ∃ f2 : Int32, (True) ∧ ∀ t, Steps p.tables e below (s₁.setTop (mkF m 26 #[.val (.long q1), .second, .val (.long q2), .second, .val (.long q3), .second, .val (.long q4), .second, .val (.int p5), .val (.int f), .unset, .unset, .unset, .unset, .unset, .unset, .unset, .unset, .unset, .unset, .unset, .unset] [(.int f2)])) t → Steps p.tables e below (s₁.setTop (mkF m 12 #[.val (.long q1), .second, .val (.long q2), .second, .val (.long q3), .second, .val (.long q4), .second, .val (.int p5), .unset, .unset, .unset, .unset, .unset, .unset, .unset, .unset, .unset, .unset, .unset, .unset, .unset] [(.int f)])) t := by
    have go6 : ∀ t, Steps p.tables e below (s₁.setTop (mkF m 18 #[.val (.long q1), .second, .val (.long q2), .second, .val (.long q3), .second, .val (.long q4), .second, .val (.int p5), .val (.int f), .unset, .unset, .unset, .unset, .unset, .unset, .unset, .unset, .unset, .unset, .unset, .unset] [(.int (p5 &&& (2 : Int32)))])) t → Steps p.tables e below (s₁.setTop (mkF m 12 #[.val (.long q1), .second, .val (.long q2), .second, .val (.long q3), .second, .val (.long q4), .second, .val (.int p5), .unset, .unset, .unset, .unset, .unset, .unset, .unset, .unset, .unset, .unset, .unset, .unset, .unset] [(.int f)])) t := by
      intro t kt
      show Steps p.tables e below (s₁.setTop (mkF m 12 #[.val (.long q1), .second, .val (.long q2), .second, .val (.long q3), .second, .val (.long q4), .second, .val (.int p5), .unset, .unset, .unset, .unset, .unset, .unset, .unset, .unset, .unset, .unset, .unset, .unset, .unset] [(.int f)])) _
      refine XS.istore X0.here hx rfl (hb hby at_12) rfl (l' := #[.val (.long q1), .second, .val (.long q2), .second, .val (.long q3), .second, .val (.long q4), .second, .val (.int p5), .val (.int f), .unset, .unset, .unset, .unset, .unset, .unset, .unset, .unset, .unset, .unset, .unset, .unset]) rfl ?_
      show Steps p.tables e below (s₁.setTop (mkF m 14 #[.val (.long q1), .second, .val (.long q2), .second, .val (.long q3), .second, .val (.long q4), .second, .val (.int p5), .val (.int f), .unset, .unset, .unset, .unset, .unset, .unset, .unset, .unset, .unset, .unset, .unset, .unset] [])) _
      refine XS.iload X0.here hx rfl (hb hby at_14) rfl ?_
      show Steps p.tables e below (s₁.setTop (mkF m 16 #[.val (.long q1), .second, .val (.long q2), .second, .val (.long q3), .second, .val (.long q4), .second, .val (.int p5), .val (.int f), .unset, .unset, .unset, .unset, .unset, .unset, .unset, .unset, .unset, .unset, .unset, .unset] [(.int p5)])) _
      refine XS.iconst X0.here hx rfl (hb hby at_16) ?_
      show Steps p.tables e below (s₁.setTop (mkF m 17 #[.val (.long q1), .second, .val (.long q2), .second, .val (.long q3), .second, .val (.long q4), .second, .val (.int p5), .val (.int f), .unset, .unset, .unset, .unset, .unset, .unset, .unset, .unset, .unset, .unset, .unset, .unset] [(.int (2 : Int32)), (.int p5)])) _
      refine XS.iand X0.here hx rfl (hb hby at_17) rfl ?_
      exact kt
    rcases Classical.em ((p5 &&& (2 : Int32)) = (0 : Int32)) with hc18 | hc18
    · have go7 : ∀ t, Steps p.tables e below (s₁.setTop (mkF m 26 #[.val (.long q1), .second, .val (.long q2), .second, .val (.long q3), .second, .val (.long q4), .second, .val (.int p5), .val (.int f), .unset, .unset, .unset, .unset, .unset, .unset, .unset, .unset, .unset, .unset, .unset, .unset] [(.int (0 : Int32))])) t → Steps p.tables e below (s₁.setTop (mkF m 18 #[.val (.long q1), .second, .val (.long q2), .second, .val (.long q3), .second, .val (.long q4), .second, .val (.int p5), .val (.int f), .unset, .unset, .unset, .unset, .unset, .unset, .unset, .unset, .unset, .unset, .unset, .unset] [(.int (p5 &&& (2 : Int32)))])) t := by
        intro t kt
        show Steps p.tables e below (s₁.setTop (mkF m 18 #[.val (.long q1), .second, .val (.long q2), .second, .val (.long q3), .second, .val (.long q4), .second, .val (.int p5), .val (.int f), .unset, .unset, .unset, .unset, .unset, .unset, .unset, .unset, .unset, .unset, .unset, .unset] [(.int (p5 &&& (2 : Int32)))])) _
        refine XS.ifYes X0.here hx rfl (pc0 := 18) (pc' := 25) rfl (hb hby at_18) rfl ((if0 _ _).trans (teq hc18).1) (by decide) (by decide) ?_
        show Steps p.tables e below (s₁.setTop (mkF m 25 #[.val (.long q1), .second, .val (.long q2), .second, .val (.long q3), .second, .val (.long q4), .second, .val (.int p5), .val (.int f), .unset, .unset, .unset, .unset, .unset, .unset, .unset, .unset, .unset, .unset, .unset, .unset] [])) _
        refine XS.iconst X0.here hx rfl (hb hby at_25) ?_
        exact kt
      exact ⟨(0 : Int32), trivial, fun t kt => (go6 t (go7 t kt))⟩
    · have go8 : ∀ t, Steps p.tables e below (s₁.setTop (mkF m 26 #[.val (.long q1), .second, .val (.long q2), .second, .val (.long q3), .second, .val (.long q4), .second, .val (.int p5), .val (.int f), .unset, .unset, .unset, .unset, .unset, .unset, .unset, .unset, .unset, .unset, .unset, .unset] [(.int (1 : Int32))])) t → Steps p.tables e below (s₁.setTop (mkF m 18 #[.val (.long q1), .second, .val (.long q2), .second, .val (.long q3), .second, .val (.long q4), .second, .val (.int p5), .val (.int f), .unset, .unset, .unset, .unset, .unset, .unset, .unset, .unset, .unset, .unset, .unset, .unset] [(.int (p5 &&& (2 : Int32)))])) t := by
        intro t kt
        show Steps p.tables e below (s₁.setTop (mkF m 18 #[.val (.long q1), .second, .val (.long q2), .second, .val (.long q3), .second, .val (.long q4), .second, .val (.int p5), .val (.int f), .unset, .unset, .unset, .unset, .unset, .unset, .unset, .unset, .unset, .unset, .unset, .unset] [(.int (p5 &&& (2 : Int32)))])) _
        refine XS.ifNo X0.here hx rfl (hb hby at_18) rfl ((if0 _ _).trans (feq hc18).1) ?_
        show Steps p.tables e below (s₁.setTop (mkF m 21 #[.val (.long q1), .second, .val (.long q2), .second, .val (.long q3), .second, .val (.long q4), .second, .val (.int p5), .val (.int f), .unset, .unset, .unset, .unset, .unset, .unset, .unset, .unset, .unset, .unset, .unset, .unset] [])) _
        refine XS.iconst X0.here hx rfl (hb hby at_21) ?_
        show Steps p.tables e below (s₁.setTop (mkF m 22 #[.val (.long q1), .second, .val (.long q2), .second, .val (.long q3), .second, .val (.long q4), .second, .val (.int p5), .val (.int f), .unset, .unset, .unset, .unset, .unset, .unset, .unset, .unset, .unset, .unset, .unset, .unset] [(.int (1 : Int32))])) _
        refine XS.goto X0.here hx rfl (pc0 := 22) (pc' := 26) rfl (hb hby at_22) (by decide) (by decide) ?_
        exact kt
      exact ⟨(1 : Int32), trivial, fun t kt => (go6 t (go8 t kt))⟩
  refine own_go go5 ?_
  have go9 : ∀ t, Steps p.tables e below (s₁.setTop (mkF m 28 #[.val (.long q1), .second, .val (.long q2), .second, .val (.long q3), .second, .val (.long q4), .second, .val (.int p5), .val (.int f), .val (.int f2), .unset, .unset, .unset, .unset, .unset, .unset, .unset, .unset, .unset, .unset, .unset] [])) t → Steps p.tables e below (s₁.setTop (mkF m 26 #[.val (.long q1), .second, .val (.long q2), .second, .val (.long q3), .second, .val (.long q4), .second, .val (.int p5), .val (.int f), .unset, .unset, .unset, .unset, .unset, .unset, .unset, .unset, .unset, .unset, .unset, .unset] [(.int f2)])) t := by
    intro t kt
    show Steps p.tables e below (s₁.setTop (mkF m 26 #[.val (.long q1), .second, .val (.long q2), .second, .val (.long q3), .second, .val (.long q4), .second, .val (.int p5), .val (.int f), .unset, .unset, .unset, .unset, .unset, .unset, .unset, .unset, .unset, .unset, .unset, .unset] [(.int f2)])) _
    refine XS.istore X0.here hx rfl (hb hby at_26) rfl (l' := #[.val (.long q1), .second, .val (.long q2), .second, .val (.long q3), .second, .val (.long q4), .second, .val (.int p5), .val (.int f), .val (.int f2), .unset, .unset, .unset, .unset, .unset, .unset, .unset, .unset, .unset, .unset, .unset]) rfl ?_
    exact kt
  refine own_go go9 ?_
  obtain ⟨T10, h10, X10, e10, E10, A10, D10, -, st10⟩ := newO X0 hx hZ hown (hw _ (List.mem_of_getElem? (i := 0) rfl)) (hw _ (List.mem_of_getElem? (i := 1) rfl)) (hw _ (List.mem_of_getElem? (i := 2) rfl)) e0 (g := (mkF m 28 #[.val (.long q1), .second, .val (.long q2), .second, .val (.long q3), .second, .val (.long q4), .second, .val (.int p5), .val (.int f), .val (.int f2), .unset, .unset, .unset, .unset, .unset, .unset, .unset, .unset, .unset, .unset, .unset] [])) rfl (hb hby at_28) (by decide) (by decide)
  obtain ⟨b, g10⟩ : ∃ z, z = h0.size := ⟨_, rfl⟩
  rw [← g10] at A10 D10 st10
  have g_b : n0 ≤ b := Nat.le_trans Z0 (Nat.le_of_eq g10.symm)
  have F10_b_limit : Fld Z h10 b "com/example/tocsin/tocsin/net/Backlog" "limit" "J" (.long (0 : Int64)) := D10 (Or.inr (hw _ (List.mem_of_getElem? (i := 10) rfl))) (ty := .long) (by decide)
  have F10_b_emptyAt : Fld Z h10 b "com/example/tocsin/tocsin/net/Backlog" "emptyAt" "J" (.long (0 : Int64)) := D10 (Or.inl (hw _ (List.mem_of_getElem? (i := 12) rfl))) (ty := .long) (by decide)
  have F10_b_behindAt : Fld Z h10 b "com/example/tocsin/tocsin/net/Backlog" "behindAt" "J" (.long (0 : Int64)) := D10 (Or.inl (hw _ (List.mem_of_getElem? (i := 15) rfl))) (ty := .long) (by decide)
  refine own_go (S' := T10.setTop (mkF m 31 #[.val (.long q1), .second, .val (.long q2), .second, .val (.long q3), .second, .val (.long q4), .second, .val (.int p5), .val (.int f), .val (.int f2), .unset, .unset, .unset, .unset, .unset, .unset, .unset, .unset, .unset, .unset, .unset] [(.ref b)])) st10 ?_
  have go11 : ∀ t, Steps p.tables e below (T10.setTop (mkF m 34 #[.val (.long q1), .second, .val (.long q2), .second, .val (.long q3), .second, .val (.long q4), .second, .val (.int p5), .val (.int f), .val (.int f2), .unset, .unset, .unset, .unset, .unset, .unset, .unset, .unset, .unset, .unset, .unset] [(.long q2), (.long q1), (.ref b), (.ref b)])) t → Steps p.tables e below (T10.setTop (mkF m 31 #[.val (.long q1), .second, .val (.long q2), .second, .val (.long q3), .second, .val (.long q4), .second, .val (.int p5), .val (.int f), .val (.int f2), .unset, .unset, .unset, .unset, .unset, .unset, .unset, .unset, .unset, .unset, .unset] [(.ref b)])) t := by
    intro t kt
    show Steps p.tables e below (T10.setTop (mkF m 31 #[.val (.long q1), .second, .val (.long q2), .second, .val (.long q3), .second, .val (.long q4), .second, .val (.int p5), .val (.int f), .val (.int f2), .unset, .unset, .unset, .unset, .unset, .unset, .unset, .unset, .unset, .unset, .unset] [(.ref b)])) _
    refine XS.dup X10.here hx rfl (hb hby at_31) rfl rfl ?_
    show Steps p.tables e below (T10.setTop (mkF m 32 #[.val (.long q1), .second, .val (.long q2), .second, .val (.long q3), .second, .val (.long q4), .second, .val (.int p5), .val (.int f), .val (.int f2), .unset, .unset, .unset, .unset, .unset, .unset, .unset, .unset, .unset, .unset, .unset] [(.ref b), (.ref b)])) _
    refine XS.lloadN X10.here hx rfl (hb hby at_32) rfl ?_
    show Steps p.tables e below (T10.setTop (mkF m 33 #[.val (.long q1), .second, .val (.long q2), .second, .val (.long q3), .second, .val (.long q4), .second, .val (.int p5), .val (.int f), .val (.int f2), .unset, .unset, .unset, .unset, .unset, .unset, .unset, .unset, .unset, .unset, .unset] [(.long q1), (.ref b), (.ref b)])) _
    refine XS.lloadN X10.here hx rfl (hb hby at_33) rfl ?_
    exact kt
  refine own_go go11 ?_
  obtain ⟨_, _, ⟨T12, L12, k12, n12⟩, -, X12, ⟨Lc12, hQ12, l12, y12, z12⟩, st12⟩ := X10.specialBack hx (y := (⟨"com/example/tocsin/tocsin/net/Backlog", "<init>", "(JJ)V"⟩ : MethodName)) rfl hown (mvT hZ (hw _ (List.mem_of_getElem? (i := 3) rfl))) (mvT hZ (hw _ (List.mem_of_getElem? (i := 4) rfl))) (mvT hZ (hw _ (List.mem_of_getElem? (i := 5) rfl))) (by decide) (backOf (W := 1) (rm1 l Z a0 hw [] b q1 q2 h10 n0 (Nat.le_trans Z0 E10.1) A10 F10_b_limit F10_b_emptyAt F10_b_behindAt g_b) hZ (hw _ (List.mem_of_getElem? (i := 5) rfl)) (hw _ (List.mem_of_getElem? (i := 2) rfl)) (by decide) (by decide)) (g := (mkF m 34 #[.val (.long q1), .second, .val (.long q2), .second, .val (.long q3), .second, .val (.long q4), .second, .val (.int p5), .val (.int f), .val (.int f2), .unset, .unset, .unset, .unset, .unset, .unset, .unset, .unset, .unset, .unset, .unset] [(.long q2), (.long q1), (.ref b), (.ref b)])) rfl (by rw [hml]; rfl) (Steps.refl _) (a := b) (argsL := [(.long q1), (.long q2)]) (rest := [(.ref b)]) (lenOf pd_0 rfl) rfl (by show 2 * 0 + _ ≤ _; exact Nat.le_of_eq rfl) (hb hby at_34) (fun _ _ => ⟨rfl, e10, (by decide : 1 + 0 ≤ _), (by decide : 3 + 0 ≤ _)⟩)
  dsimp only [Pt.U, Pt.locs, Pt.cells, Pt.slots] at X12 l12 y12 z12 st12 hQ12
  subst l12 y12 z12
  obtain ⟨rfl, N12q, K1, E1, Fl1, Fe1, Fb1⟩ := hQ12
  have N12 := Fr.app N0 N12q
  refine own_go (S' := T12.setTop (mkF m 37 #[.val (.long q1), .second, .val (.long q2), .second, .val (.long q3), .second, .val (.long q4), .second, .val (.int p5), .val (.int f), .val (.int f2), .unset, .unset, .unset, .unset, .unset, .unset, .unset, .unset, .unset, .unset, .unset] [(.ref b)])) (fun t k => st12.trans k) ?_
  have go13 : ∀ t, Steps p.tables e below (T12.setTop (mkF m 45 #[.val (.long q1), .second, .val (.long q2), .second, .val (.long q3), .second, .val (.long q4), .second, .val (.int p5), .val (.int f), .val (.int f2), .val (.ref b), .unset, .unset, .unset, .unset, .unset, .unset, .unset, .unset, .unset, .unset] [(.long q3), (.int f), (.ref b)])) t → Steps p.tables e below (T12.setTop (mkF m 37 #[.val (.long q1), .second, .val (.long q2), .second, .val (.long q3), .second, .val (.long q4), .second, .val (.int p5), .val (.int f), .val (.int f2), .unset, .unset, .unset, .unset, .unset, .unset, .unset, .unset, .unset, .unset, .unset] [(.ref b)])) t := by
    intro t kt
    show Steps p.tables e below (T12.setTop (mkF m 37 #[.val (.long q1), .second, .val (.long q2), .second, .val (.long q3), .second, .val (.long q4), .second, .val (.int p5), .val (.int f), .val (.int f2), .unset, .unset, .unset, .unset, .unset, .unset, .unset, .unset, .unset, .unset, .unset] [(.ref b)])) _
    refine XS.astore X12.here hx rfl (hb hby at_37) rfl rfl (l' := #[.val (.long q1), .second, .val (.long q2), .second, .val (.long q3), .second, .val (.long q4), .second, .val (.int p5), .val (.int f), .val (.int f2), .val (.ref b), .unset, .unset, .unset, .unset, .unset, .unset, .unset, .unset, .unset, .unset]) rfl ?_
    show Steps p.tables e below (T12.setTop (mkF m 39 #[.val (.long q1), .second, .val (.long q2), .second, .val (.long q3), .second, .val (.long q4), .second, .val (.int p5), .val (.int f), .val (.int f2), .val (.ref b), .unset, .unset, .unset, .unset, .unset, .unset, .unset, .unset, .unset, .unset] [])) _
    refine XS.aload X12.here hx rfl (hb hby at_39) rfl rfl ?_
    show Steps p.tables e below (T12.setTop (mkF m 41 #[.val (.long q1), .second, .val (.long q2), .second, .val (.long q3), .second, .val (.long q4), .second, .val (.int p5), .val (.int f), .val (.int f2), .val (.ref b), .unset, .unset, .unset, .unset, .unset, .unset, .unset, .unset, .unset, .unset] [(.ref b)])) _
    refine XS.iload X12.here hx rfl (hb hby at_41) rfl ?_
    show Steps p.tables e below (T12.setTop (mkF m 43 #[.val (.long q1), .second, .val (.long q2), .second, .val (.long q3), .second, .val (.long q4), .second, .val (.int p5), .val (.int f), .val (.int f2), .val (.ref b), .unset, .unset, .unset, .unset, .unset, .unset, .unset, .unset, .unset, .unset] [(.int f), (.ref b)])) _
    refine XS.lload X12.here hx rfl (hb hby at_43) rfl ?_
    exact kt
  refine own_go go13 ?_
  obtain ⟨cq14, kq14, q14a, q14b, q14c⟩ := isOf hZ rfl E1
  obtain ⟨_, _, ⟨T14, L14, k14, n14⟩, -, X14, ⟨Lc14, hQ14, l14, y14, z14⟩, st14⟩ := X12.virtualBack hx (y := (⟨"com/example/tocsin/tocsin/net/Backlog", "looked", "(ZJ)V"⟩ : MethodName)) (z := (⟨"com/example/tocsin/tocsin/net/Backlog", "looked", "(ZJ)V"⟩ : MethodName)) hown (mvT hZ (hw _ (List.mem_of_getElem? (i := 16) rfl))) (mvT hZ (hw _ (List.mem_of_getElem? (i := 17) rfl))) (notFace_of_selects (args := #[]) (mvT hZ (hw _ (List.mem_of_getElem? (i := 19) rfl)))) (mvT hZ (hw _ (List.mem_of_getElem? (i := 19) rfl))) (mvT hZ (hw _ (List.mem_of_getElem? (i := 18) rfl))) (by decide) (backOf (W := 0) (rm3 l Z a0 hw [] b f q3 q1 q2 (-9223372036854775808 : Int64) T12.heap n0 (Nat.le_trans (Nat.le_trans Z0 E10.1) K1.1) E1 Fl1 Fe1 Fb1 g_b) hZ (hw _ (List.mem_of_getElem? (i := 20) rfl)) (hw _ (List.mem_of_getElem? (i := 2) rfl)) (by decide) (by decide)) q14a q14c (g := (mkF m 45 #[.val (.long q1), .second, .val (.long q2), .second, .val (.long q3), .second, .val (.long q4), .second, .val (.int p5), .val (.int f), .val (.int f2), .val (.ref b), .unset, .unset, .unset, .unset, .unset, .unset, .unset, .unset, .unset, .unset] [(.long q3), (.int f), (.ref b)])) rfl (by rw [hml]; rfl) (Steps.refl _) (argsL := [(.int f), (.long q3)]) (rest := []) (lenOf pd_1 rfl) rfl (by show 2 * 0 + _ ≤ _; exact Nat.le_of_eq rfl) (hb hby at_45) (fun _ _ => ⟨rfl, rfl, (by decide : 1 + 0 ≤ _), (by decide : 3 + 0 ≤ _)⟩)
  dsimp only [Pt.U, Pt.locs, Pt.cells, Pt.slots] at X14 l14 y14 z14 st14 hQ14
  subst l14 y14 z14
  obtain ⟨rfl, N14q, K2, E2, Fl2, Fe2, Fb2⟩ := hQ14
  have N14 := Fr.app N12 N14q
  refine own_go (S' := T14.setTop (mkF m 48 #[.val (.long q1), .second, .val (.long q2), .second, .val (.long q3), .second, .val (.long q4), .second, .val (.int p5), .val (.int f), .val (.int f2), .val (.ref b), .unset, .unset, .unset, .unset, .unset, .unset, .unset, .unset, .unset, .unset] [])) (fun t k => st14.trans k) ?_
  have go15 : ∀ t, Steps p.tables e below (T14.setTop (mkF m 50 #[.val (.long q1), .second, .val (.long q2), .second, .val (.long q3), .second, .val (.long q4), .second, .val (.int p5), .val (.int f), .val (.int f2), .val (.ref b), .unset, .unset, .unset, .unset, .unset, .unset, .unset, .unset, .unset, .unset] [(.ref b)])) t → Steps p.tables e below (T14.setTop (mkF m 48 #[.val (.long q1), .second, .val (.long q2), .second, .val (.long q3), .second, .val (.long q4), .second, .val (.int p5), .val (.int f), .val (.int f2), .val (.ref b), .unset, .unset, .unset, .unset, .unset, .unset, .unset, .unset, .unset, .unset] [])) t := by
    intro t kt
    show Steps p.tables e below (T14.setTop (mkF m 48 #[.val (.long q1), .second, .val (.long q2), .second, .val (.long q3), .second, .val (.long q4), .second, .val (.int p5), .val (.int f), .val (.int f2), .val (.ref b), .unset, .unset, .unset, .unset, .unset, .unset, .unset, .unset, .unset, .unset] [])) _
    refine XS.aload X14.here hx rfl (hb hby at_48) rfl rfl ?_
    exact kt
  refine own_go go15 ?_
  obtain ⟨cq16, kq16, q16a, q16b, q16c⟩ := isOf hZ rfl E2
  obtain ⟨_, _, ⟨T16, L16, k16, n16⟩, -, X16, ⟨Lc16, hQ16, l16, y16, z16⟩, st16⟩ := X14.virtualBack hx (y := (⟨"com/example/tocsin/tocsin/net/Backlog", "behindAt", "()J"⟩ : MethodName)) (z := (⟨"com/example/tocsin/tocsin/net/Backlog", "behindAt", "()J"⟩ : MethodName)) hown (mvT hZ (hw _ (List.mem_of_getElem? (i := 21) rfl))) (mvT hZ (hw _ (List.mem_of_getElem? (i := 22) rfl))) (notFace_of_selects (args := #[]) (mvT hZ (hw _ (List.mem_of_getElem? (i := 24) rfl)))) (mvT hZ (hw _ (List.mem_of_getElem? (i := 24) rfl))) (mvT hZ (hw _ (List.mem_of_getElem? (i := 23) rfl))) (by decide) (backOf (W := 0) (rm4 l Z a0 hw [] b (own_beh f q3 q1 q2 (-9223372036854775808 : Int64)) T14.heap n0 (Nat.le_trans (Nat.le_trans (Nat.le_trans Z0 E10.1) K1.1) K2.1) Fb2) hZ (hw _ (List.mem_of_getElem? (i := 25) rfl)) (hw _ (List.mem_of_getElem? (i := 2) rfl)) (by decide) (by decide)) q16a q16c (g := (mkF m 50 #[.val (.long q1), .second, .val (.long q2), .second, .val (.long q3), .second, .val (.long q4), .second, .val (.int p5), .val (.int f), .val (.int f2), .val (.ref b), .unset, .unset, .unset, .unset, .unset, .unset, .unset, .unset, .unset, .unset] [(.ref b)])) rfl (by rw [hml]; rfl) (Steps.refl _) (argsL := []) (rest := []) (lenOf pd_2 rfl) rfl (by show 2 * 0 + _ ≤ _; exact Nat.le_of_eq rfl) (hb hby at_50) (fun _ _ => ⟨rfl, rfl, (by decide : 1 + 0 ≤ _), (by decide : 3 + 0 ≤ _)⟩)
  dsimp only [Pt.U, Pt.locs, Pt.cells, Pt.slots] at X16 l16 y16 z16 st16 hQ16
  subst l16 y16 z16
  obtain ⟨rfl, N16q, eg1⟩ := hQ16
  have N16 := Fr.app N14 N16q
  refine own_go (S' := T16.setTop (mkF m 53 #[.val (.long q1), .second, .val (.long q2), .second, .val (.long q3), .second, .val (.long q4), .second, .val (.int p5), .val (.int f), .val (.int f2), .val (.ref b), .unset, .unset, .unset, .unset, .unset, .unset, .unset, .unset, .unset, .unset] [(.long (own_beh f q3 q1 q2 (-9223372036854775808 : Int64)))])) (fun t k => st16.trans k) ?_
  have go17 : ∀ t, Steps p.tables e below (T16.setTop (mkF m 61 #[.val (.long q1), .second, .val (.long q2), .second, .val (.long q3), .second, .val (.long q4), .second, .val (.int p5), .val (.int f), .val (.int f2), .val (.ref b), .val (.long (own_beh f q3 q1 q2 (-9223372036854775808 : Int64))), .second, .unset, .unset, .unset, .unset, .unset, .unset, .unset, .unset] [(.long q4), (.int f2), (.ref b)])) t → Steps p.tables e below (T16.setTop (mkF m 53 #[.val (.long q1), .second, .val (.long q2), .second, .val (.long q3), .second, .val (.long q4), .second, .val (.int p5), .val (.int f), .val (.int f2), .val (.ref b), .unset, .unset, .unset, .unset, .unset, .unset, .unset, .unset, .unset, .unset] [(.long (own_beh f q3 q1 q2 (-9223372036854775808 : Int64)))])) t := by
    intro t kt
    show Steps p.tables e below (T16.setTop (mkF m 53 #[.val (.long q1), .second, .val (.long q2), .second, .val (.long q3), .second, .val (.long q4), .second, .val (.int p5), .val (.int f), .val (.int f2), .val (.ref b), .unset, .unset, .unset, .unset, .unset, .unset, .unset, .unset, .unset, .unset] [(.long (own_beh f q3 q1 q2 (-9223372036854775808 : Int64)))])) _
    refine XS.lstore X16.here hx rfl (hb hby at_53) rfl (l' := #[.val (.long q1), .second, .val (.long q2), .second, .val (.long q3), .second, .val (.long q4), .second, .val (.int p5), .val (.int f), .val (.int f2), .val (.ref b), .val (.long (own_beh f q3 q1 q2 (-9223372036854775808 : Int64))), .second, .unset, .unset, .unset, .unset, .unset, .unset, .unset, .unset]) rfl ?_
    show Steps p.tables e below (T16.setTop (mkF m 55 #[.val (.long q1), .second, .val (.long q2), .second, .val (.long q3), .second, .val (.long q4), .second, .val (.int p5), .val (.int f), .val (.int f2), .val (.ref b), .val (.long (own_beh f q3 q1 q2 (-9223372036854775808 : Int64))), .second, .unset, .unset, .unset, .unset, .unset, .unset, .unset, .unset] [])) _
    refine XS.aload X16.here hx rfl (hb hby at_55) rfl rfl ?_
    show Steps p.tables e below (T16.setTop (mkF m 57 #[.val (.long q1), .second, .val (.long q2), .second, .val (.long q3), .second, .val (.long q4), .second, .val (.int p5), .val (.int f), .val (.int f2), .val (.ref b), .val (.long (own_beh f q3 q1 q2 (-9223372036854775808 : Int64))), .second, .unset, .unset, .unset, .unset, .unset, .unset, .unset, .unset] [(.ref b)])) _
    refine XS.iload X16.here hx rfl (hb hby at_57) rfl ?_
    show Steps p.tables e below (T16.setTop (mkF m 59 #[.val (.long q1), .second, .val (.long q2), .second, .val (.long q3), .second, .val (.long q4), .second, .val (.int p5), .val (.int f), .val (.int f2), .val (.ref b), .val (.long (own_beh f q3 q1 q2 (-9223372036854775808 : Int64))), .second, .unset, .unset, .unset, .unset, .unset, .unset, .unset, .unset] [(.int f2), (.ref b)])) _
    refine XS.lload X16.here hx rfl (hb hby at_59) rfl ?_
    exact kt
  refine own_go go17 ?_
  obtain ⟨cq18, kq18, q18a, q18b, q18c⟩ := isOf hZ eg1 E2
  obtain ⟨_, _, ⟨T18, L18, k18, n18⟩, -, X18, ⟨Lc18, hQ18, l18, y18, z18⟩, st18⟩ := X16.virtualBack hx (y := (⟨"com/example/tocsin/tocsin/net/Backlog", "looked", "(ZJ)V"⟩ : MethodName)) (z := (⟨"com/example/tocsin/tocsin/net/Backlog", "looked", "(ZJ)V"⟩ : MethodName)) hown (mvT hZ (hw _ (List.mem_of_getElem? (i := 16) rfl))) (mvT hZ (hw _ (List.mem_of_getElem? (i := 17) rfl))) (notFace_of_selects (args := #[]) (mvT hZ (hw _ (List.mem_of_getElem? (i := 19) rfl)))) (mvT hZ (hw _ (List.mem_of_getElem? (i := 19) rfl))) (mvT hZ (hw _ (List.mem_of_getElem? (i := 18) rfl))) (by decide) (backOf (W := 0) (rm3 l Z a0 hw [] b f2 q4 q1 (own_emp f q3 q2) (own_beh f q3 q1 q2 (-9223372036854775808 : Int64)) T14.heap n0 (Nat.le_trans (Nat.le_trans (Nat.le_trans Z0 E10.1) K1.1) K2.1) E2 Fl2 Fe2 Fb2 g_b) hZ (hw _ (List.mem_of_getElem? (i := 20) rfl)) (hw _ (List.mem_of_getElem? (i := 2) rfl)) (by decide) (by decide)) q18a q18c (g := (mkF m 61 #[.val (.long q1), .second, .val (.long q2), .second, .val (.long q3), .second, .val (.long q4), .second, .val (.int p5), .val (.int f), .val (.int f2), .val (.ref b), .val (.long (own_beh f q3 q1 q2 (-9223372036854775808 : Int64))), .second, .unset, .unset, .unset, .unset, .unset, .unset, .unset, .unset] [(.long q4), (.int f2), (.ref b)])) rfl (by rw [hml]; rfl) (Steps.refl _) (argsL := [(.int f2), (.long q4)]) (rest := []) (lenOf pd_1 rfl) rfl (by show 2 * 0 + _ ≤ _; exact Nat.le_of_eq rfl) (hb hby at_61) (fun _ _ => ⟨rfl, eg1, (by decide : 1 + 0 ≤ _), (by decide : 3 + 0 ≤ _)⟩)
  dsimp only [Pt.U, Pt.locs, Pt.cells, Pt.slots] at X18 l18 y18 z18 st18 hQ18
  subst l18 y18 z18
  obtain ⟨rfl, N18q, K3, E3, Fl3, Fe3, Fb3⟩ := hQ18
  have N18 := Fr.app N16 N18q
  refine own_go (S' := T18.setTop (mkF m 64 #[.val (.long q1), .second, .val (.long q2), .second, .val (.long q3), .second, .val (.long q4), .second, .val (.int p5), .val (.int f), .val (.int f2), .val (.ref b), .val (.long (own_beh f q3 q1 q2 (-9223372036854775808 : Int64))), .second, .unset, .unset, .unset, .unset, .unset, .unset, .unset, .unset] [])) (fun t k => st18.trans k) ?_
  have go19 : ∀ t, Steps p.tables e below (T18.setTop (mkF m 66 #[.val (.long q1), .second, .val (.long q2), .second, .val (.long q3), .second, .val (.long q4), .second, .val (.int p5), .val (.int f), .val (.int f2), .val (.ref b), .val (.long (own_beh f q3 q1 q2 (-9223372036854775808 : Int64))), .second, .unset, .unset, .unset, .unset, .unset, .unset, .unset, .unset] [(.ref b)])) t → Steps p.tables e below (T18.setTop (mkF m 64 #[.val (.long q1), .second, .val (.long q2), .second, .val (.long q3), .second, .val (.long q4), .second, .val (.int p5), .val (.int f), .val (.int f2), .val (.ref b), .val (.long (own_beh f q3 q1 q2 (-9223372036854775808 : Int64))), .second, .unset, .unset, .unset, .unset, .unset, .unset, .unset, .unset] [])) t := by
    intro t kt
    show Steps p.tables e below (T18.setTop (mkF m 64 #[.val (.long q1), .second, .val (.long q2), .second, .val (.long q3), .second, .val (.long q4), .second, .val (.int p5), .val (.int f), .val (.int f2), .val (.ref b), .val (.long (own_beh f q3 q1 q2 (-9223372036854775808 : Int64))), .second, .unset, .unset, .unset, .unset, .unset, .unset, .unset, .unset] [])) _
    refine XS.aload X18.here hx rfl (hb hby at_64) rfl rfl ?_
    exact kt
  refine own_go go19 ?_
  obtain ⟨cq20, kq20, q20a, q20b, q20c⟩ := isOf hZ rfl E3
  obtain ⟨_, _, ⟨T20, L20, k20, n20⟩, -, X20, ⟨Lc20, hQ20, l20, y20, z20⟩, st20⟩ := X18.virtualBack hx (y := (⟨"com/example/tocsin/tocsin/net/Backlog", "behindAt", "()J"⟩ : MethodName)) (z := (⟨"com/example/tocsin/tocsin/net/Backlog", "behindAt", "()J"⟩ : MethodName)) hown (mvT hZ (hw _ (List.mem_of_getElem? (i := 21) rfl))) (mvT hZ (hw _ (List.mem_of_getElem? (i := 22) rfl))) (notFace_of_selects (args := #[]) (mvT hZ (hw _ (List.mem_of_getElem? (i := 24) rfl)))) (mvT hZ (hw _ (List.mem_of_getElem? (i := 24) rfl))) (mvT hZ (hw _ (List.mem_of_getElem? (i := 23) rfl))) (by decide) (backOf (W := 0) (rm4 l Z a0 hw [] b (own_beh f2 q4 q1 (own_emp f q3 q2) (own_beh f q3 q1 q2 (-9223372036854775808 : Int64))) T18.heap n0 (Nat.le_trans (Nat.le_trans (Nat.le_trans (Nat.le_trans Z0 E10.1) K1.1) K2.1) K3.1) Fb3) hZ (hw _ (List.mem_of_getElem? (i := 25) rfl)) (hw _ (List.mem_of_getElem? (i := 2) rfl)) (by decide) (by decide)) q20a q20c (g := (mkF m 66 #[.val (.long q1), .second, .val (.long q2), .second, .val (.long q3), .second, .val (.long q4), .second, .val (.int p5), .val (.int f), .val (.int f2), .val (.ref b), .val (.long (own_beh f q3 q1 q2 (-9223372036854775808 : Int64))), .second, .unset, .unset, .unset, .unset, .unset, .unset, .unset, .unset] [(.ref b)])) rfl (by rw [hml]; rfl) (Steps.refl _) (argsL := []) (rest := []) (lenOf pd_2 rfl) rfl (by show 2 * 0 + _ ≤ _; exact Nat.le_of_eq rfl) (hb hby at_66) (fun _ _ => ⟨rfl, rfl, (by decide : 1 + 0 ≤ _), (by decide : 3 + 0 ≤ _)⟩)
  dsimp only [Pt.U, Pt.locs, Pt.cells, Pt.slots] at X20 l20 y20 z20 st20 hQ20
  subst l20 y20 z20
  obtain ⟨rfl, N20q, eg2⟩ := hQ20
  have N20 := Fr.app N18 N20q
  refine own_go (S' := T20.setTop (mkF m 69 #[.val (.long q1), .second, .val (.long q2), .second, .val (.long q3), .second, .val (.long q4), .second, .val (.int p5), .val (.int f), .val (.int f2), .val (.ref b), .val (.long (own_beh f q3 q1 q2 (-9223372036854775808 : Int64))), .second, .unset, .unset, .unset, .unset, .unset, .unset, .unset, .unset] [(.long (own_beh f2 q4 q1 (own_emp f q3 q2) (own_beh f q3 q1 q2 (-9223372036854775808 : Int64))))])) (fun t k => st20.trans k) ?_
  have go21 : ∀ t, Steps p.tables e below (T20.setTop (mkF m 71 #[.val (.long q1), .second, .val (.long q2), .second, .val (.long q3), .second, .val (.long q4), .second, .val (.int p5), .val (.int f), .val (.int f2), .val (.ref b), .val (.long (own_beh f q3 q1 q2 (-9223372036854775808 : Int64))), .second, .val (.long (own_beh f2 q4 q1 (own_emp f q3 q2) (own_beh f q3 q1 q2 (-9223372036854775808 : Int64)))), .second, .unset, .unset, .unset, .unset, .unset, .unset] [])) t → Steps p.tables e below (T20.setTop (mkF m 69 #[.val (.long q1), .second, .val (.long q2), .second, .val (.long q3), .second, .val (.long q4), .second, .val (.int p5), .val (.int f), .val (.int f2), .val (.ref b), .val (.long (own_beh f q3 q1 q2 (-9223372036854775808 : Int64))), .second, .unset, .unset, .unset, .unset, .unset, .unset, .unset, .unset] [(.long (own_beh f2 q4 q1 (own_emp f q3 q2) (own_beh f q3 q1 q2 (-9223372036854775808 : Int64))))])) t := by
    intro t kt
    show Steps p.tables e below (T20.setTop (mkF m 69 #[.val (.long q1), .second, .val (.long q2), .second, .val (.long q3), .second, .val (.long q4), .second, .val (.int p5), .val (.int f), .val (.int f2), .val (.ref b), .val (.long (own_beh f q3 q1 q2 (-9223372036854775808 : Int64))), .second, .unset, .unset, .unset, .unset, .unset, .unset, .unset, .unset] [(.long (own_beh f2 q4 q1 (own_emp f q3 q2) (own_beh f q3 q1 q2 (-9223372036854775808 : Int64))))])) _
    refine XS.lstore X20.here hx rfl (hb hby at_69) rfl (l' := #[.val (.long q1), .second, .val (.long q2), .second, .val (.long q3), .second, .val (.long q4), .second, .val (.int p5), .val (.int f), .val (.int f2), .val (.ref b), .val (.long (own_beh f q3 q1 q2 (-9223372036854775808 : Int64))), .second, .val (.long (own_beh f2 q4 q1 (own_emp f q3 q2) (own_beh f q3 q1 q2 (-9223372036854775808 : Int64)))), .second, .unset, .unset, .unset, .unset, .unset, .unset]) rfl ?_
    exact kt
  refine own_go go21 ?_
  obtain ⟨v1, hv1, go22⟩ : ∃ v1 : Int64, (v1 = own_beh f q3 q1 q2 (-9223372036854775808 : Int64)) ∧ ∀ t, Steps p.tables e below (T20.setTop (mkF m 93 #[.val (.long q1), .second, .val (.long q2), .second, .val (.long q3), .second, .val (.long q4), .second, .val (.int p5), .val (.int f), .val (.int f2), .val (.ref b), .val (.long (own_beh f q3 q1 q2 (-9223372036854775808 : Int64))), .second, .val (.long (own_beh f2 q4 q1 (own_emp f q3 q2) (own_beh f q3 q1 q2 (-9223372036854775808 : Int64)))), .second, .unset, .unset, .unset, .unset, .unset, .unset] [(.long v1)])) t → Steps p.tables e below (T20.setTop (mkF m 71 #[.val (.long q1), .second, .val (.long q2), .second, .val (.long q3), .second, .val (.long q4), .second, .val (.int p5), .val (.int f), .val (.int f2), .val (.ref b), .val (.long (own_beh f q3 q1 q2 (-9223372036854775808 : Int64))), .second, .val (.long (own_beh f2 q4 q1 (own_emp f q3 q2) (own_beh f q3 q1 q2 (-9223372036854775808 : Int64)))), .second, .unset, .unset, .unset, .unset, .unset, .unset] [])) t := by
    have go23 : ∀ t, Steps p.tables e below (T20.setTop (mkF m 73 #[.val (.long q1), .second, .val (.long q2), .second, .val (.long q3), .second, .val (.long q4), .second, .val (.int p5), .val (.int f), .val (.int f2), .val (.ref b), .val (.long (own_beh f q3 q1 q2 (-9223372036854775808 : Int64))), .second, .val (.long (own_beh f2 q4 q1 (own_emp f q3 q2) (own_beh f q3 q1 q2 (-9223372036854775808 : Int64)))), .second, .unset, .unset, .unset, .unset, .unset, .unset] [(.int f)])) t → Steps p.tables e below (T20.setTop (mkF m 71 #[.val (.long q1), .second, .val (.long q2), .second, .val (.long q3), .second, .val (.long q4), .second, .val (.int p5), .val (.int f), .val (.int f2), .val (.ref b), .val (.long (own_beh f q3 q1 q2 (-9223372036854775808 : Int64))), .second, .val (.long (own_beh f2 q4 q1 (own_emp f q3 q2) (own_beh f q3 q1 q2 (-9223372036854775808 : Int64)))), .second, .unset, .unset, .unset, .unset, .unset, .unset] [])) t := by
      intro t kt
      show Steps p.tables e below (T20.setTop (mkF m 71 #[.val (.long q1), .second, .val (.long q2), .second, .val (.long q3), .second, .val (.long q4), .second, .val (.int p5), .val (.int f), .val (.int f2), .val (.ref b), .val (.long (own_beh f q3 q1 q2 (-9223372036854775808 : Int64))), .second, .val (.long (own_beh f2 q4 q1 (own_emp f q3 q2) (own_beh f q3 q1 q2 (-9223372036854775808 : Int64)))), .second, .unset, .unset, .unset, .unset, .unset, .unset] [])) _
      refine XS.iload X20.here hx rfl (hb hby at_71) rfl ?_
      exact kt
    rcases Classical.em (f = (0 : Int32)) with hc73 | hc73
    · have go24 : ∀ t, Steps p.tables e below (T20.setTop (mkF m 93 #[.val (.long q1), .second, .val (.long q2), .second, .val (.long q3), .second, .val (.long q4), .second, .val (.int p5), .val (.int f), .val (.int f2), .val (.ref b), .val (.long (own_beh f q3 q1 q2 (-9223372036854775808 : Int64))), .second, .val (.long (own_beh f2 q4 q1 (own_emp f q3 q2) (own_beh f q3 q1 q2 (-9223372036854775808 : Int64)))), .second, .unset, .unset, .unset, .unset, .unset, .unset] [(.long (-9223372036854775808 : Int64))])) t → Steps p.tables e below (T20.setTop (mkF m 73 #[.val (.long q1), .second, .val (.long q2), .second, .val (.long q3), .second, .val (.long q4), .second, .val (.int p5), .val (.int f), .val (.int f2), .val (.ref b), .val (.long (own_beh f q3 q1 q2 (-9223372036854775808 : Int64))), .second, .val (.long (own_beh f2 q4 q1 (own_emp f q3 q2) (own_beh f q3 q1 q2 (-9223372036854775808 : Int64)))), .second, .unset, .unset, .unset, .unset, .unset, .unset] [(.int f)])) t := by
        intro t kt
        show Steps p.tables e below (T20.setTop (mkF m 73 #[.val (.long q1), .second, .val (.long q2), .second, .val (.long q3), .second, .val (.long q4), .second, .val (.int p5), .val (.int f), .val (.int f2), .val (.ref b), .val (.long (own_beh f q3 q1 q2 (-9223372036854775808 : Int64))), .second, .val (.long (own_beh f2 q4 q1 (own_emp f q3 q2) (own_beh f q3 q1 q2 (-9223372036854775808 : Int64)))), .second, .unset, .unset, .unset, .unset, .unset, .unset] [(.int f)])) _
        refine XS.ifYes X20.here hx rfl (pc0 := 73) (pc' := 90) rfl (hb hby at_73) rfl ((if0 _ _).trans (teq hc73).1) (by decide) (by decide) ?_
        show Steps p.tables e below (T20.setTop (mkF m 90 #[.val (.long q1), .second, .val (.long q2), .second, .val (.long q3), .second, .val (.long q4), .second, .val (.int p5), .val (.int f), .val (.int f2), .val (.ref b), .val (.long (own_beh f q3 q1 q2 (-9223372036854775808 : Int64))), .second, .val (.long (own_beh f2 q4 q1 (own_emp f q3 q2) (own_beh f q3 q1 q2 (-9223372036854775808 : Int64)))), .second, .unset, .unset, .unset, .unset, .unset, .unset] [])) _
        refine X20.ldc2Long hx hown (mvT hZ (hw _ (List.mem_of_getElem? (i := 26) rfl))) (g := (mkF m 90 #[.val (.long q1), .second, .val (.long q2), .second, .val (.long q3), .second, .val (.long q4), .second, .val (.int p5), .val (.int f), .val (.int f2), .val (.ref b), .val (.long (own_beh f q3 q1 q2 (-9223372036854775808 : Int64))), .second, .val (.long (own_beh f2 q4 q1 (own_emp f q3 q2) (own_beh f q3 q1 q2 (-9223372036854775808 : Int64)))), .second, .unset, .unset, .unset, .unset, .unset, .unset] [])) rfl (hb hby at_90) _ ?_
        exact kt
      exact ⟨(-9223372036854775808 : Int64), by first | (simp only [own_beh, hc73, not_true_eq_false, not_false_eq_true, and_true, true_and, and_false, false_and, or_true, true_or, or_false, false_or, and_self, or_self, eq_self, if_true, if_false]; done) | (simp [own_beh, hc73]; done), fun t kt => (go23 t (go24 t kt))⟩
    · have go25 : ∀ t, Steps p.tables e below (T20.setTop (mkF m 82 #[.val (.long q1), .second, .val (.long q2), .second, .val (.long q3), .second, .val (.long q4), .second, .val (.int p5), .val (.int f), .val (.int f2), .val (.ref b), .val (.long (own_beh f q3 q1 q2 (-9223372036854775808 : Int64))), .second, .val (.long (own_beh f2 q4 q1 (own_emp f q3 q2) (own_beh f q3 q1 q2 (-9223372036854775808 : Int64)))), .second, .unset, .unset, .unset, .unset, .unset, .unset] [(.int (lcmpW (q3 - q2) q1))])) t → Steps p.tables e below (T20.setTop (mkF m 73 #[.val (.long q1), .second, .val (.long q2), .second, .val (.long q3), .second, .val (.long q4), .second, .val (.int p5), .val (.int f), .val (.int f2), .val (.ref b), .val (.long (own_beh f q3 q1 q2 (-9223372036854775808 : Int64))), .second, .val (.long (own_beh f2 q4 q1 (own_emp f q3 q2) (own_beh f q3 q1 q2 (-9223372036854775808 : Int64)))), .second, .unset, .unset, .unset, .unset, .unset, .unset] [(.int f)])) t := by
        intro t kt
        show Steps p.tables e below (T20.setTop (mkF m 73 #[.val (.long q1), .second, .val (.long q2), .second, .val (.long q3), .second, .val (.long q4), .second, .val (.int p5), .val (.int f), .val (.int f2), .val (.ref b), .val (.long (own_beh f q3 q1 q2 (-9223372036854775808 : Int64))), .second, .val (.long (own_beh f2 q4 q1 (own_emp f q3 q2) (own_beh f q3 q1 q2 (-9223372036854775808 : Int64)))), .second, .unset, .unset, .unset, .unset, .unset, .unset] [(.int f)])) _
        refine XS.ifNo X20.here hx rfl (hb hby at_73) rfl ((if0 _ _).trans (feq hc73).1) ?_
        show Steps p.tables e below (T20.setTop (mkF m 76 #[.val (.long q1), .second, .val (.long q2), .second, .val (.long q3), .second, .val (.long q4), .second, .val (.int p5), .val (.int f), .val (.int f2), .val (.ref b), .val (.long (own_beh f q3 q1 q2 (-9223372036854775808 : Int64))), .second, .val (.long (own_beh f2 q4 q1 (own_emp f q3 q2) (own_beh f q3 q1 q2 (-9223372036854775808 : Int64)))), .second, .unset, .unset, .unset, .unset, .unset, .unset] [])) _
        refine XS.lload X20.here hx rfl (hb hby at_76) rfl ?_
        show Steps p.tables e below (T20.setTop (mkF m 78 #[.val (.long q1), .second, .val (.long q2), .second, .val (.long q3), .second, .val (.long q4), .second, .val (.int p5), .val (.int f), .val (.int f2), .val (.ref b), .val (.long (own_beh f q3 q1 q2 (-9223372036854775808 : Int64))), .second, .val (.long (own_beh f2 q4 q1 (own_emp f q3 q2) (own_beh f q3 q1 q2 (-9223372036854775808 : Int64)))), .second, .unset, .unset, .unset, .unset, .unset, .unset] [(.long q3)])) _
        refine XS.lloadN X20.here hx rfl (hb hby at_78) rfl ?_
        show Steps p.tables e below (T20.setTop (mkF m 79 #[.val (.long q1), .second, .val (.long q2), .second, .val (.long q3), .second, .val (.long q4), .second, .val (.int p5), .val (.int f), .val (.int f2), .val (.ref b), .val (.long (own_beh f q3 q1 q2 (-9223372036854775808 : Int64))), .second, .val (.long (own_beh f2 q4 q1 (own_emp f q3 q2) (own_beh f q3 q1 q2 (-9223372036854775808 : Int64)))), .second, .unset, .unset, .unset, .unset, .unset, .unset] [(.long q2), (.long q3)])) _
        refine XS.lsub X20.here hx rfl (hb hby at_79) rfl ?_
        show Steps p.tables e below (T20.setTop (mkF m 80 #[.val (.long q1), .second, .val (.long q2), .second, .val (.long q3), .second, .val (.long q4), .second, .val (.int p5), .val (.int f), .val (.int f2), .val (.ref b), .val (.long (own_beh f q3 q1 q2 (-9223372036854775808 : Int64))), .second, .val (.long (own_beh f2 q4 q1 (own_emp f q3 q2) (own_beh f q3 q1 q2 (-9223372036854775808 : Int64)))), .second, .unset, .unset, .unset, .unset, .unset, .unset] [(.long (q3 - q2))])) _
        refine XS.lloadN X20.here hx rfl (hb hby at_80) rfl ?_
        show Steps p.tables e below (T20.setTop (mkF m 81 #[.val (.long q1), .second, .val (.long q2), .second, .val (.long q3), .second, .val (.long q4), .second, .val (.int p5), .val (.int f), .val (.int f2), .val (.ref b), .val (.long (own_beh f q3 q1 q2 (-9223372036854775808 : Int64))), .second, .val (.long (own_beh f2 q4 q1 (own_emp f q3 q2) (own_beh f q3 q1 q2 (-9223372036854775808 : Int64)))), .second, .unset, .unset, .unset, .unset, .unset, .unset] [(.long q1), (.long (q3 - q2))])) _
        refine XS.lcmp X20.here hx rfl (hb hby at_81) rfl ?_
        exact kt
      rcases Classical.em ((0 : Int32) < (lcmpW (q3 - q2) q1)) with hc82 | hc82
      · have go26 : ∀ t, Steps p.tables e below (T20.setTop (mkF m 93 #[.val (.long q1), .second, .val (.long q2), .second, .val (.long q3), .second, .val (.long q4), .second, .val (.int p5), .val (.int f), .val (.int f2), .val (.ref b), .val (.long (own_beh f q3 q1 q2 (-9223372036854775808 : Int64))), .second, .val (.long (own_beh f2 q4 q1 (own_emp f q3 q2) (own_beh f q3 q1 q2 (-9223372036854775808 : Int64)))), .second, .unset, .unset, .unset, .unset, .unset, .unset] [(.long q3)])) t → Steps p.tables e below (T20.setTop (mkF m 82 #[.val (.long q1), .second, .val (.long q2), .second, .val (.long q3), .second, .val (.long q4), .second, .val (.int p5), .val (.int f), .val (.int f2), .val (.ref b), .val (.long (own_beh f q3 q1 q2 (-9223372036854775808 : Int64))), .second, .val (.long (own_beh f2 q4 q1 (own_emp f q3 q2) (own_beh f q3 q1 q2 (-9223372036854775808 : Int64)))), .second, .unset, .unset, .unset, .unset, .unset, .unset] [(.int (lcmpW (q3 - q2) q1))])) t := by
          intro t kt
          show Steps p.tables e below (T20.setTop (mkF m 82 #[.val (.long q1), .second, .val (.long q2), .second, .val (.long q3), .second, .val (.long q4), .second, .val (.int p5), .val (.int f), .val (.int f2), .val (.ref b), .val (.long (own_beh f q3 q1 q2 (-9223372036854775808 : Int64))), .second, .val (.long (own_beh f2 q4 q1 (own_emp f q3 q2) (own_beh f q3 q1 q2 (-9223372036854775808 : Int64)))), .second, .unset, .unset, .unset, .unset, .unset, .unset] [(.int (lcmpW (q3 - q2) q1))])) _
          refine XS.ifNo X20.here hx rfl (hb hby at_82) rfl ((if0 _ _).trans (tlt hc82).2.2.2) ?_
          show Steps p.tables e below (T20.setTop (mkF m 85 #[.val (.long q1), .second, .val (.long q2), .second, .val (.long q3), .second, .val (.long q4), .second, .val (.int p5), .val (.int f), .val (.int f2), .val (.ref b), .val (.long (own_beh f q3 q1 q2 (-9223372036854775808 : Int64))), .second, .val (.long (own_beh f2 q4 q1 (own_emp f q3 q2) (own_beh f q3 q1 q2 (-9223372036854775808 : Int64)))), .second, .unset, .unset, .unset, .unset, .unset, .unset] [])) _
          refine XS.lload X20.here hx rfl (hb hby at_85) rfl ?_
          show Steps p.tables e below (T20.setTop (mkF m 87 #[.val (.long q1), .second, .val (.long q2), .second, .val (.long q3), .second, .val (.long q4), .second, .val (.int p5), .val (.int f), .val (.int f2), .val (.ref b), .val (.long (own_beh f q3 q1 q2 (-9223372036854775808 : Int64))), .second, .val (.long (own_beh f2 q4 q1 (own_emp f q3 q2) (own_beh f q3 q1 q2 (-9223372036854775808 : Int64)))), .second, .unset, .unset, .unset, .unset, .unset, .unset] [(.long q3)])) _
          refine XS.goto X20.here hx rfl (pc0 := 87) (pc' := 93) rfl (hb hby at_87) (by decide) (by decide) ?_
          exact kt
        exact ⟨q3, by first | (simp only [own_beh, hc73, hc82, not_true_eq_false, not_false_eq_true, and_true, true_and, and_false, false_and, or_true, true_or, or_false, false_or, and_self, or_self, eq_self, if_true, if_false]; done) | (simp [own_beh, hc73, hc82]; done), fun t kt => (go23 t (go25 t (go26 t kt)))⟩
      · have go27 : ∀ t, Steps p.tables e below (T20.setTop (mkF m 93 #[.val (.long q1), .second, .val (.long q2), .second, .val (.long q3), .second, .val (.long q4), .second, .val (.int p5), .val (.int f), .val (.int f2), .val (.ref b), .val (.long (own_beh f q3 q1 q2 (-9223372036854775808 : Int64))), .second, .val (.long (own_beh f2 q4 q1 (own_emp f q3 q2) (own_beh f q3 q1 q2 (-9223372036854775808 : Int64)))), .second, .unset, .unset, .unset, .unset, .unset, .unset] [(.long (-9223372036854775808 : Int64))])) t → Steps p.tables e below (T20.setTop (mkF m 82 #[.val (.long q1), .second, .val (.long q2), .second, .val (.long q3), .second, .val (.long q4), .second, .val (.int p5), .val (.int f), .val (.int f2), .val (.ref b), .val (.long (own_beh f q3 q1 q2 (-9223372036854775808 : Int64))), .second, .val (.long (own_beh f2 q4 q1 (own_emp f q3 q2) (own_beh f q3 q1 q2 (-9223372036854775808 : Int64)))), .second, .unset, .unset, .unset, .unset, .unset, .unset] [(.int (lcmpW (q3 - q2) q1))])) t := by
          intro t kt
          show Steps p.tables e below (T20.setTop (mkF m 82 #[.val (.long q1), .second, .val (.long q2), .second, .val (.long q3), .second, .val (.long q4), .second, .val (.int p5), .val (.int f), .val (.int f2), .val (.ref b), .val (.long (own_beh f q3 q1 q2 (-9223372036854775808 : Int64))), .second, .val (.long (own_beh f2 q4 q1 (own_emp f q3 q2) (own_beh f q3 q1 q2 (-9223372036854775808 : Int64)))), .second, .unset, .unset, .unset, .unset, .unset, .unset] [(.int (lcmpW (q3 - q2) q1))])) _
          refine XS.ifYes X20.here hx rfl (pc0 := 82) (pc' := 90) rfl (hb hby at_82) rfl ((if0 _ _).trans (flt hc82).2.2.2) (by decide) (by decide) ?_
          show Steps p.tables e below (T20.setTop (mkF m 90 #[.val (.long q1), .second, .val (.long q2), .second, .val (.long q3), .second, .val (.long q4), .second, .val (.int p5), .val (.int f), .val (.int f2), .val (.ref b), .val (.long (own_beh f q3 q1 q2 (-9223372036854775808 : Int64))), .second, .val (.long (own_beh f2 q4 q1 (own_emp f q3 q2) (own_beh f q3 q1 q2 (-9223372036854775808 : Int64)))), .second, .unset, .unset, .unset, .unset, .unset, .unset] [])) _
          refine X20.ldc2Long hx hown (mvT hZ (hw _ (List.mem_of_getElem? (i := 26) rfl))) (g := (mkF m 90 #[.val (.long q1), .second, .val (.long q2), .second, .val (.long q3), .second, .val (.long q4), .second, .val (.int p5), .val (.int f), .val (.int f2), .val (.ref b), .val (.long (own_beh f q3 q1 q2 (-9223372036854775808 : Int64))), .second, .val (.long (own_beh f2 q4 q1 (own_emp f q3 q2) (own_beh f q3 q1 q2 (-9223372036854775808 : Int64)))), .second, .unset, .unset, .unset, .unset, .unset, .unset] [])) rfl (hb hby at_90) _ ?_
          exact kt
        exact ⟨(-9223372036854775808 : Int64), by first | (simp only [own_beh, hc73, hc82, not_true_eq_false, not_false_eq_true, and_true, true_and, and_false, false_and, or_true, true_or, or_false, false_or, and_self, or_self, eq_self, if_true, if_false]; done) | (simp [own_beh, hc73, hc82]; done), fun t kt => (go23 t (go25 t (go27 t kt)))⟩
  refine own_go go22 ?_
  obtain ⟨va, hva, go28⟩ : ∃ va : Int64, (va = own_emp f q3 q2) ∧ ∀ t, Steps p.tables e below (T20.setTop (mkF m 106 #[.val (.long q1), .second, .val (.long q2), .second, .val (.long q3), .second, .val (.long q4), .second, .val (.int p5), .val (.int f), .val (.int f2), .val (.ref b), .val (.long (own_beh f q3 q1 q2 (-9223372036854775808 : Int64))), .second, .val (.long (own_beh f2 q4 q1 (own_emp f q3 q2) (own_beh f q3 q1 q2 (-9223372036854775808 : Int64)))), .second, .val (.long v1), .second, .unset, .unset, .unset, .unset] [(.long va)])) t → Steps p.tables e below (T20.setTop (mkF m 93 #[.val (.long q1), .second, .val (.long q2), .second, .val (.long q3), .second, .val (.long q4), .second, .val (.int p5), .val (.int f), .val (.int f2), .val (.ref b), .val (.long (own_beh f q3 q1 q2 (-9223372036854775808 : Int64))), .second, .val (.long (own_beh f2 q4 q1 (own_emp f q3 q2) (own_beh f q3 q1 q2 (-9223372036854775808 : Int64)))), .second, .unset, .unset, .unset, .unset, .unset, .unset] [(.long v1)])) t := by
    have go29 : ∀ t, Steps p.tables e below (T20.setTop (mkF m 97 #[.val (.long q1), .second, .val (.long q2), .second, .val (.long q3), .second, .val (.long q4), .second, .val (.int p5), .val (.int f), .val (.int f2), .val (.ref b), .val (.long (own_beh f q3 q1 q2 (-9223372036854775808 : Int64))), .second, .val (.long (own_beh f2 q4 q1 (own_emp f q3 q2) (own_beh f q3 q1 q2 (-9223372036854775808 : Int64)))), .second, .val (.long v1), .second, .unset, .unset, .unset, .unset] [(.int f)])) t → Steps p.tables e below (T20.setTop (mkF m 93 #[.val (.long q1), .second, .val (.long q2), .second, .val (.long q3), .second, .val (.long q4), .second, .val (.int p5), .val (.int f), .val (.int f2), .val (.ref b), .val (.long (own_beh f q3 q1 q2 (-9223372036854775808 : Int64))), .second, .val (.long (own_beh f2 q4 q1 (own_emp f q3 q2) (own_beh f q3 q1 q2 (-9223372036854775808 : Int64)))), .second, .unset, .unset, .unset, .unset, .unset, .unset] [(.long v1)])) t := by
      intro t kt
      show Steps p.tables e below (T20.setTop (mkF m 93 #[.val (.long q1), .second, .val (.long q2), .second, .val (.long q3), .second, .val (.long q4), .second, .val (.int p5), .val (.int f), .val (.int f2), .val (.ref b), .val (.long (own_beh f q3 q1 q2 (-9223372036854775808 : Int64))), .second, .val (.long (own_beh f2 q4 q1 (own_emp f q3 q2) (own_beh f q3 q1 q2 (-9223372036854775808 : Int64)))), .second, .unset, .unset, .unset, .unset, .unset, .unset] [(.long v1)])) _
      refine XS.lstore X20.here hx rfl (hb hby at_93) rfl (l' := #[.val (.long q1), .second, .val (.long q2), .second, .val (.long q3), .second, .val (.long q4), .second, .val (.int p5), .val (.int f), .val (.int f2), .val (.ref b), .val (.long (own_beh f q3 q1 q2 (-9223372036854775808 : Int64))), .second, .val (.long (own_beh f2 q4 q1 (own_emp f q3 q2) (own_beh f q3 q1 q2 (-9223372036854775808 : Int64)))), .second, .val (.long v1), .second, .unset, .unset, .unset, .unset]) rfl ?_
      show Steps p.tables e below (T20.setTop (mkF m 95 #[.val (.long q1), .second, .val (.long q2), .second, .val (.long q3), .second, .val (.long q4), .second, .val (.int p5), .val (.int f), .val (.int f2), .val (.ref b), .val (.long (own_beh f q3 q1 q2 (-9223372036854775808 : Int64))), .second, .val (.long (own_beh f2 q4 q1 (own_emp f q3 q2) (own_beh f q3 q1 q2 (-9223372036854775808 : Int64)))), .second, .val (.long v1), .second, .unset, .unset, .unset, .unset] [])) _
      refine XS.iload X20.here hx rfl (hb hby at_95) rfl ?_
      exact kt
    rcases Classical.em (f = (0 : Int32)) with hc97 | hc97
    · have go30 : ∀ t, Steps p.tables e below (T20.setTop (mkF m 106 #[.val (.long q1), .second, .val (.long q2), .second, .val (.long q3), .second, .val (.long q4), .second, .val (.int p5), .val (.int f), .val (.int f2), .val (.ref b), .val (.long (own_beh f q3 q1 q2 (-9223372036854775808 : Int64))), .second, .val (.long (own_beh f2 q4 q1 (own_emp f q3 q2) (own_beh f q3 q1 q2 (-9223372036854775808 : Int64)))), .second, .val (.long v1), .second, .unset, .unset, .unset, .unset] [(.long q3)])) t → Steps p.tables e below (T20.setTop (mkF m 97 #[.val (.long q1), .second, .val (.long q2), .second, .val (.long q3), .second, .val (.long q4), .second, .val (.int p5), .val (.int f), .val (.int f2), .val (.ref b), .val (.long (own_beh f q3 q1 q2 (-9223372036854775808 : Int64))), .second, .val (.long (own_beh f2 q4 q1 (own_emp f q3 q2) (own_beh f q3 q1 q2 (-9223372036854775808 : Int64)))), .second, .val (.long v1), .second, .unset, .unset, .unset, .unset] [(.int f)])) t := by
        intro t kt
        show Steps p.tables e below (T20.setTop (mkF m 97 #[.val (.long q1), .second, .val (.long q2), .second, .val (.long q3), .second, .val (.long q4), .second, .val (.int p5), .val (.int f), .val (.int f2), .val (.ref b), .val (.long (own_beh f q3 q1 q2 (-9223372036854775808 : Int64))), .second, .val (.long (own_beh f2 q4 q1 (own_emp f q3 q2) (own_beh f q3 q1 q2 (-9223372036854775808 : Int64)))), .second, .val (.long v1), .second, .unset, .unset, .unset, .unset] [(.int f)])) _
        refine XS.ifYes X20.here hx rfl (pc0 := 97) (pc' := 104) rfl (hb hby at_97) rfl ((if0 _ _).trans (teq hc97).1) (by decide) (by decide) ?_
        show Steps p.tables e below (T20.setTop (mkF m 104 #[.val (.long q1), .second, .val (.long q2), .second, .val (.long q3), .second, .val (.long q4), .second, .val (.int p5), .val (.int f), .val (.int f2), .val (.ref b), .val (.long (own_beh f q3 q1 q2 (-9223372036854775808 : Int64))), .second, .val (.long (own_beh f2 q4 q1 (own_emp f q3 q2) (own_beh f q3 q1 q2 (-9223372036854775808 : Int64)))), .second, .val (.long v1), .second, .unset, .unset, .unset, .unset] [])) _
        refine XS.lload X20.here hx rfl (hb hby at_104) rfl ?_
        exact kt
      exact ⟨q3, by first | (simp only [own_emp, hc97, not_true_eq_false, not_false_eq_true, and_true, true_and, and_false, false_and, or_true, true_or, or_false, false_or, and_self, or_self, eq_self, if_true, if_false]; done) | (simp [own_emp, hc97]; done), fun t kt => (go29 t (go30 t kt))⟩
    · have go31 : ∀ t, Steps p.tables e below (T20.setTop (mkF m 106 #[.val (.long q1), .second, .val (.long q2), .second, .val (.long q3), .second, .val (.long q4), .second, .val (.int p5), .val (.int f), .val (.int f2), .val (.ref b), .val (.long (own_beh f q3 q1 q2 (-9223372036854775808 : Int64))), .second, .val (.long (own_beh f2 q4 q1 (own_emp f q3 q2) (own_beh f q3 q1 q2 (-9223372036854775808 : Int64)))), .second, .val (.long v1), .second, .unset, .unset, .unset, .unset] [(.long q2)])) t → Steps p.tables e below (T20.setTop (mkF m 97 #[.val (.long q1), .second, .val (.long q2), .second, .val (.long q3), .second, .val (.long q4), .second, .val (.int p5), .val (.int f), .val (.int f2), .val (.ref b), .val (.long (own_beh f q3 q1 q2 (-9223372036854775808 : Int64))), .second, .val (.long (own_beh f2 q4 q1 (own_emp f q3 q2) (own_beh f q3 q1 q2 (-9223372036854775808 : Int64)))), .second, .val (.long v1), .second, .unset, .unset, .unset, .unset] [(.int f)])) t := by
        intro t kt
        show Steps p.tables e below (T20.setTop (mkF m 97 #[.val (.long q1), .second, .val (.long q2), .second, .val (.long q3), .second, .val (.long q4), .second, .val (.int p5), .val (.int f), .val (.int f2), .val (.ref b), .val (.long (own_beh f q3 q1 q2 (-9223372036854775808 : Int64))), .second, .val (.long (own_beh f2 q4 q1 (own_emp f q3 q2) (own_beh f q3 q1 q2 (-9223372036854775808 : Int64)))), .second, .val (.long v1), .second, .unset, .unset, .unset, .unset] [(.int f)])) _
        refine XS.ifNo X20.here hx rfl (hb hby at_97) rfl ((if0 _ _).trans (feq hc97).1) ?_
        show Steps p.tables e below (T20.setTop (mkF m 100 #[.val (.long q1), .second, .val (.long q2), .second, .val (.long q3), .second, .val (.long q4), .second, .val (.int p5), .val (.int f), .val (.int f2), .val (.ref b), .val (.long (own_beh f q3 q1 q2 (-9223372036854775808 : Int64))), .second, .val (.long (own_beh f2 q4 q1 (own_emp f q3 q2) (own_beh f q3 q1 q2 (-9223372036854775808 : Int64)))), .second, .val (.long v1), .second, .unset, .unset, .unset, .unset] [])) _
        refine XS.lloadN X20.here hx rfl (hb hby at_100) rfl ?_
        show Steps p.tables e below (T20.setTop (mkF m 101 #[.val (.long q1), .second, .val (.long q2), .second, .val (.long q3), .second, .val (.long q4), .second, .val (.int p5), .val (.int f), .val (.int f2), .val (.ref b), .val (.long (own_beh f q3 q1 q2 (-9223372036854775808 : Int64))), .second, .val (.long (own_beh f2 q4 q1 (own_emp f q3 q2) (own_beh f q3 q1 q2 (-9223372036854775808 : Int64)))), .second, .val (.long v1), .second, .unset, .unset, .unset, .unset] [(.long q2)])) _
        refine XS.goto X20.here hx rfl (pc0 := 101) (pc' := 106) rfl (hb hby at_101) (by decide) (by decide) ?_
        exact kt
      exact ⟨q2, by first | (simp only [own_emp, hc97, not_true_eq_false, not_false_eq_true, and_true, true_and, and_false, false_and, or_true, true_or, or_false, false_or, and_self, or_self, eq_self, if_true, if_false]; done) | (simp [own_emp, hc97]; done), fun t kt => (go29 t (go31 t kt))⟩
  refine own_go go28 ?_
  obtain ⟨v2, hv2, go32⟩ : ∃ v2 : Int64, (v2 = own_beh f2 q4 q1 va v1) ∧ ∀ t, Steps p.tables e below (T20.setTop (mkF m 130 #[.val (.long q1), .second, .val (.long q2), .second, .val (.long q3), .second, .val (.long q4), .second, .val (.int p5), .val (.int f), .val (.int f2), .val (.ref b), .val (.long (own_beh f q3 q1 q2 (-9223372036854775808 : Int64))), .second, .val (.long (own_beh f2 q4 q1 (own_emp f q3 q2) (own_beh f q3 q1 q2 (-9223372036854775808 : Int64)))), .second, .val (.long v1), .second, .val (.long va), .second, .unset, .unset] [(.long v2)])) t → Steps p.tables e below (T20.setTop (mkF m 106 #[.val (.long q1), .second, .val (.long q2), .second, .val (.long q3), .second, .val (.long q4), .second, .val (.int p5), .val (.int f), .val (.int f2), .val (.ref b), .val (.long (own_beh f q3 q1 q2 (-9223372036854775808 : Int64))), .second, .val (.long (own_beh f2 q4 q1 (own_emp f q3 q2) (own_beh f q3 q1 q2 (-9223372036854775808 : Int64)))), .second, .val (.long v1), .second, .unset, .unset, .unset, .unset] [(.long va)])) t := by
    have go33 : ∀ t, Steps p.tables e below (T20.setTop (mkF m 110 #[.val (.long q1), .second, .val (.long q2), .second, .val (.long q3), .second, .val (.long q4), .second, .val (.int p5), .val (.int f), .val (.int f2), .val (.ref b), .val (.long (own_beh f q3 q1 q2 (-9223372036854775808 : Int64))), .second, .val (.long (own_beh f2 q4 q1 (own_emp f q3 q2) (own_beh f q3 q1 q2 (-9223372036854775808 : Int64)))), .second, .val (.long v1), .second, .val (.long va), .second, .unset, .unset] [(.int f2)])) t → Steps p.tables e below (T20.setTop (mkF m 106 #[.val (.long q1), .second, .val (.long q2), .second, .val (.long q3), .second, .val (.long q4), .second, .val (.int p5), .val (.int f), .val (.int f2), .val (.ref b), .val (.long (own_beh f q3 q1 q2 (-9223372036854775808 : Int64))), .second, .val (.long (own_beh f2 q4 q1 (own_emp f q3 q2) (own_beh f q3 q1 q2 (-9223372036854775808 : Int64)))), .second, .val (.long v1), .second, .unset, .unset, .unset, .unset] [(.long va)])) t := by
      intro t kt
      show Steps p.tables e below (T20.setTop (mkF m 106 #[.val (.long q1), .second, .val (.long q2), .second, .val (.long q3), .second, .val (.long q4), .second, .val (.int p5), .val (.int f), .val (.int f2), .val (.ref b), .val (.long (own_beh f q3 q1 q2 (-9223372036854775808 : Int64))), .second, .val (.long (own_beh f2 q4 q1 (own_emp f q3 q2) (own_beh f q3 q1 q2 (-9223372036854775808 : Int64)))), .second, .val (.long v1), .second, .unset, .unset, .unset, .unset] [(.long va)])) _
      refine XS.lstore X20.here hx rfl (hb hby at_106) rfl (l' := #[.val (.long q1), .second, .val (.long q2), .second, .val (.long q3), .second, .val (.long q4), .second, .val (.int p5), .val (.int f), .val (.int f2), .val (.ref b), .val (.long (own_beh f q3 q1 q2 (-9223372036854775808 : Int64))), .second, .val (.long (own_beh f2 q4 q1 (own_emp f q3 q2) (own_beh f q3 q1 q2 (-9223372036854775808 : Int64)))), .second, .val (.long v1), .second, .val (.long va), .second, .unset, .unset]) rfl ?_
      show Steps p.tables e below (T20.setTop (mkF m 108 #[.val (.long q1), .second, .val (.long q2), .second, .val (.long q3), .second, .val (.long q4), .second, .val (.int p5), .val (.int f), .val (.int f2), .val (.ref b), .val (.long (own_beh f q3 q1 q2 (-9223372036854775808 : Int64))), .second, .val (.long (own_beh f2 q4 q1 (own_emp f q3 q2) (own_beh f q3 q1 q2 (-9223372036854775808 : Int64)))), .second, .val (.long v1), .second, .val (.long va), .second, .unset, .unset] [])) _
      refine XS.iload X20.here hx rfl (hb hby at_108) rfl ?_
      exact kt
    rcases Classical.em (f2 = (0 : Int32)) with hc110 | hc110
    · have go34 : ∀ t, Steps p.tables e below (T20.setTop (mkF m 130 #[.val (.long q1), .second, .val (.long q2), .second, .val (.long q3), .second, .val (.long q4), .second, .val (.int p5), .val (.int f), .val (.int f2), .val (.ref b), .val (.long (own_beh f q3 q1 q2 (-9223372036854775808 : Int64))), .second, .val (.long (own_beh f2 q4 q1 (own_emp f q3 q2) (own_beh f q3 q1 q2 (-9223372036854775808 : Int64)))), .second, .val (.long v1), .second, .val (.long va), .second, .unset, .unset] [(.long v1)])) t → Steps p.tables e below (T20.setTop (mkF m 110 #[.val (.long q1), .second, .val (.long q2), .second, .val (.long q3), .second, .val (.long q4), .second, .val (.int p5), .val (.int f), .val (.int f2), .val (.ref b), .val (.long (own_beh f q3 q1 q2 (-9223372036854775808 : Int64))), .second, .val (.long (own_beh f2 q4 q1 (own_emp f q3 q2) (own_beh f q3 q1 q2 (-9223372036854775808 : Int64)))), .second, .val (.long v1), .second, .val (.long va), .second, .unset, .unset] [(.int f2)])) t := by
        intro t kt
        show Steps p.tables e below (T20.setTop (mkF m 110 #[.val (.long q1), .second, .val (.long q2), .second, .val (.long q3), .second, .val (.long q4), .second, .val (.int p5), .val (.int f), .val (.int f2), .val (.ref b), .val (.long (own_beh f q3 q1 q2 (-9223372036854775808 : Int64))), .second, .val (.long (own_beh f2 q4 q1 (own_emp f q3 q2) (own_beh f q3 q1 q2 (-9223372036854775808 : Int64)))), .second, .val (.long v1), .second, .val (.long va), .second, .unset, .unset] [(.int f2)])) _
        refine XS.ifYes X20.here hx rfl (pc0 := 110) (pc' := 128) rfl (hb hby at_110) rfl ((if0 _ _).trans (teq hc110).1) (by decide) (by decide) ?_
        show Steps p.tables e below (T20.setTop (mkF m 128 #[.val (.long q1), .second, .val (.long q2), .second, .val (.long q3), .second, .val (.long q4), .second, .val (.int p5), .val (.int f), .val (.int f2), .val (.ref b), .val (.long (own_beh f q3 q1 q2 (-9223372036854775808 : Int64))), .second, .val (.long (own_beh f2 q4 q1 (own_emp f q3 q2) (own_beh f q3 q1 q2 (-9223372036854775808 : Int64)))), .second, .val (.long v1), .second, .val (.long va), .second, .unset, .unset] [])) _
        refine XS.lload X20.here hx rfl (hb hby at_128) rfl ?_
        exact kt
      exact ⟨v1, by first | (simp only [own_beh, hc110, not_true_eq_false, not_false_eq_true, and_true, true_and, and_false, false_and, or_true, true_or, or_false, false_or, and_self, or_self, eq_self, if_true, if_false]; done) | (simp [own_beh, hc110]; done), fun t kt => (go33 t (go34 t kt))⟩
    · have go35 : ∀ t, Steps p.tables e below (T20.setTop (mkF m 120 #[.val (.long q1), .second, .val (.long q2), .second, .val (.long q3), .second, .val (.long q4), .second, .val (.int p5), .val (.int f), .val (.int f2), .val (.ref b), .val (.long (own_beh f q3 q1 q2 (-9223372036854775808 : Int64))), .second, .val (.long (own_beh f2 q4 q1 (own_emp f q3 q2) (own_beh f q3 q1 q2 (-9223372036854775808 : Int64)))), .second, .val (.long v1), .second, .val (.long va), .second, .unset, .unset] [(.int (lcmpW (q4 - va) q1))])) t → Steps p.tables e below (T20.setTop (mkF m 110 #[.val (.long q1), .second, .val (.long q2), .second, .val (.long q3), .second, .val (.long q4), .second, .val (.int p5), .val (.int f), .val (.int f2), .val (.ref b), .val (.long (own_beh f q3 q1 q2 (-9223372036854775808 : Int64))), .second, .val (.long (own_beh f2 q4 q1 (own_emp f q3 q2) (own_beh f q3 q1 q2 (-9223372036854775808 : Int64)))), .second, .val (.long v1), .second, .val (.long va), .second, .unset, .unset] [(.int f2)])) t := by
        intro t kt
        show Steps p.tables e below (T20.setTop (mkF m 110 #[.val (.long q1), .second, .val (.long q2), .second, .val (.long q3), .second, .val (.long q4), .second, .val (.int p5), .val (.int f), .val (.int f2), .val (.ref b), .val (.long (own_beh f q3 q1 q2 (-9223372036854775808 : Int64))), .second, .val (.long (own_beh f2 q4 q1 (own_emp f q3 q2) (own_beh f q3 q1 q2 (-9223372036854775808 : Int64)))), .second, .val (.long v1), .second, .val (.long va), .second, .unset, .unset] [(.int f2)])) _
        refine XS.ifNo X20.here hx rfl (hb hby at_110) rfl ((if0 _ _).trans (feq hc110).1) ?_
        show Steps p.tables e below (T20.setTop (mkF m 113 #[.val (.long q1), .second, .val (.long q2), .second, .val (.long q3), .second, .val (.long q4), .second, .val (.int p5), .val (.int f), .val (.int f2), .val (.ref b), .val (.long (own_beh f q3 q1 q2 (-9223372036854775808 : Int64))), .second, .val (.long (own_beh f2 q4 q1 (own_emp f q3 q2) (own_beh f q3 q1 q2 (-9223372036854775808 : Int64)))), .second, .val (.long v1), .second, .val (.long va), .second, .unset, .unset] [])) _
        refine XS.lload X20.here hx rfl (hb hby at_113) rfl ?_
        show Steps p.tables e below (T20.setTop (mkF m 115 #[.val (.long q1), .second, .val (.long q2), .second, .val (.long q3), .second, .val (.long q4), .second, .val (.int p5), .val (.int f), .val (.int f2), .val (.ref b), .val (.long (own_beh f q3 q1 q2 (-9223372036854775808 : Int64))), .second, .val (.long (own_beh f2 q4 q1 (own_emp f q3 q2) (own_beh f q3 q1 q2 (-9223372036854775808 : Int64)))), .second, .val (.long v1), .second, .val (.long va), .second, .unset, .unset] [(.long q4)])) _
        refine XS.lload X20.here hx rfl (hb hby at_115) rfl ?_
        show Steps p.tables e below (T20.setTop (mkF m 117 #[.val (.long q1), .second, .val (.long q2), .second, .val (.long q3), .second, .val (.long q4), .second, .val (.int p5), .val (.int f), .val (.int f2), .val (.ref b), .val (.long (own_beh f q3 q1 q2 (-9223372036854775808 : Int64))), .second, .val (.long (own_beh f2 q4 q1 (own_emp f q3 q2) (own_beh f q3 q1 q2 (-9223372036854775808 : Int64)))), .second, .val (.long v1), .second, .val (.long va), .second, .unset, .unset] [(.long va), (.long q4)])) _
        refine XS.lsub X20.here hx rfl (hb hby at_117) rfl ?_
        show Steps p.tables e below (T20.setTop (mkF m 118 #[.val (.long q1), .second, .val (.long q2), .second, .val (.long q3), .second, .val (.long q4), .second, .val (.int p5), .val (.int f), .val (.int f2), .val (.ref b), .val (.long (own_beh f q3 q1 q2 (-9223372036854775808 : Int64))), .second, .val (.long (own_beh f2 q4 q1 (own_emp f q3 q2) (own_beh f q3 q1 q2 (-9223372036854775808 : Int64)))), .second, .val (.long v1), .second, .val (.long va), .second, .unset, .unset] [(.long (q4 - va))])) _
        refine XS.lloadN X20.here hx rfl (hb hby at_118) rfl ?_
        show Steps p.tables e below (T20.setTop (mkF m 119 #[.val (.long q1), .second, .val (.long q2), .second, .val (.long q3), .second, .val (.long q4), .second, .val (.int p5), .val (.int f), .val (.int f2), .val (.ref b), .val (.long (own_beh f q3 q1 q2 (-9223372036854775808 : Int64))), .second, .val (.long (own_beh f2 q4 q1 (own_emp f q3 q2) (own_beh f q3 q1 q2 (-9223372036854775808 : Int64)))), .second, .val (.long v1), .second, .val (.long va), .second, .unset, .unset] [(.long q1), (.long (q4 - va))])) _
        refine XS.lcmp X20.here hx rfl (hb hby at_119) rfl ?_
        exact kt
      rcases Classical.em ((0 : Int32) < (lcmpW (q4 - va) q1)) with hc120 | hc120
      · have go36 : ∀ t, Steps p.tables e below (T20.setTop (mkF m 130 #[.val (.long q1), .second, .val (.long q2), .second, .val (.long q3), .second, .val (.long q4), .second, .val (.int p5), .val (.int f), .val (.int f2), .val (.ref b), .val (.long (own_beh f q3 q1 q2 (-9223372036854775808 : Int64))), .second, .val (.long (own_beh f2 q4 q1 (own_emp f q3 q2) (own_beh f q3 q1 q2 (-9223372036854775808 : Int64)))), .second, .val (.long v1), .second, .val (.long va), .second, .unset, .unset] [(.long q4)])) t → Steps p.tables e below (T20.setTop (mkF m 120 #[.val (.long q1), .second, .val (.long q2), .second, .val (.long q3), .second, .val (.long q4), .second, .val (.int p5), .val (.int f), .val (.int f2), .val (.ref b), .val (.long (own_beh f q3 q1 q2 (-9223372036854775808 : Int64))), .second, .val (.long (own_beh f2 q4 q1 (own_emp f q3 q2) (own_beh f q3 q1 q2 (-9223372036854775808 : Int64)))), .second, .val (.long v1), .second, .val (.long va), .second, .unset, .unset] [(.int (lcmpW (q4 - va) q1))])) t := by
          intro t kt
          show Steps p.tables e below (T20.setTop (mkF m 120 #[.val (.long q1), .second, .val (.long q2), .second, .val (.long q3), .second, .val (.long q4), .second, .val (.int p5), .val (.int f), .val (.int f2), .val (.ref b), .val (.long (own_beh f q3 q1 q2 (-9223372036854775808 : Int64))), .second, .val (.long (own_beh f2 q4 q1 (own_emp f q3 q2) (own_beh f q3 q1 q2 (-9223372036854775808 : Int64)))), .second, .val (.long v1), .second, .val (.long va), .second, .unset, .unset] [(.int (lcmpW (q4 - va) q1))])) _
          refine XS.ifNo X20.here hx rfl (hb hby at_120) rfl ((if0 _ _).trans (tlt hc120).2.2.2) ?_
          show Steps p.tables e below (T20.setTop (mkF m 123 #[.val (.long q1), .second, .val (.long q2), .second, .val (.long q3), .second, .val (.long q4), .second, .val (.int p5), .val (.int f), .val (.int f2), .val (.ref b), .val (.long (own_beh f q3 q1 q2 (-9223372036854775808 : Int64))), .second, .val (.long (own_beh f2 q4 q1 (own_emp f q3 q2) (own_beh f q3 q1 q2 (-9223372036854775808 : Int64)))), .second, .val (.long v1), .second, .val (.long va), .second, .unset, .unset] [])) _
          refine XS.lload X20.here hx rfl (hb hby at_123) rfl ?_
          show Steps p.tables e below (T20.setTop (mkF m 125 #[.val (.long q1), .second, .val (.long q2), .second, .val (.long q3), .second, .val (.long q4), .second, .val (.int p5), .val (.int f), .val (.int f2), .val (.ref b), .val (.long (own_beh f q3 q1 q2 (-9223372036854775808 : Int64))), .second, .val (.long (own_beh f2 q4 q1 (own_emp f q3 q2) (own_beh f q3 q1 q2 (-9223372036854775808 : Int64)))), .second, .val (.long v1), .second, .val (.long va), .second, .unset, .unset] [(.long q4)])) _
          refine XS.goto X20.here hx rfl (pc0 := 125) (pc' := 130) rfl (hb hby at_125) (by decide) (by decide) ?_
          exact kt
        exact ⟨q4, by first | (simp only [own_beh, hc110, hc120, not_true_eq_false, not_false_eq_true, and_true, true_and, and_false, false_and, or_true, true_or, or_false, false_or, and_self, or_self, eq_self, if_true, if_false]; done) | (simp [own_beh, hc110, hc120]; done), fun t kt => (go33 t (go35 t (go36 t kt)))⟩
      · have go37 : ∀ t, Steps p.tables e below (T20.setTop (mkF m 130 #[.val (.long q1), .second, .val (.long q2), .second, .val (.long q3), .second, .val (.long q4), .second, .val (.int p5), .val (.int f), .val (.int f2), .val (.ref b), .val (.long (own_beh f q3 q1 q2 (-9223372036854775808 : Int64))), .second, .val (.long (own_beh f2 q4 q1 (own_emp f q3 q2) (own_beh f q3 q1 q2 (-9223372036854775808 : Int64)))), .second, .val (.long v1), .second, .val (.long va), .second, .unset, .unset] [(.long v1)])) t → Steps p.tables e below (T20.setTop (mkF m 120 #[.val (.long q1), .second, .val (.long q2), .second, .val (.long q3), .second, .val (.long q4), .second, .val (.int p5), .val (.int f), .val (.int f2), .val (.ref b), .val (.long (own_beh f q3 q1 q2 (-9223372036854775808 : Int64))), .second, .val (.long (own_beh f2 q4 q1 (own_emp f q3 q2) (own_beh f q3 q1 q2 (-9223372036854775808 : Int64)))), .second, .val (.long v1), .second, .val (.long va), .second, .unset, .unset] [(.int (lcmpW (q4 - va) q1))])) t := by
          intro t kt
          show Steps p.tables e below (T20.setTop (mkF m 120 #[.val (.long q1), .second, .val (.long q2), .second, .val (.long q3), .second, .val (.long q4), .second, .val (.int p5), .val (.int f), .val (.int f2), .val (.ref b), .val (.long (own_beh f q3 q1 q2 (-9223372036854775808 : Int64))), .second, .val (.long (own_beh f2 q4 q1 (own_emp f q3 q2) (own_beh f q3 q1 q2 (-9223372036854775808 : Int64)))), .second, .val (.long v1), .second, .val (.long va), .second, .unset, .unset] [(.int (lcmpW (q4 - va) q1))])) _
          refine XS.ifYes X20.here hx rfl (pc0 := 120) (pc' := 128) rfl (hb hby at_120) rfl ((if0 _ _).trans (flt hc120).2.2.2) (by decide) (by decide) ?_
          show Steps p.tables e below (T20.setTop (mkF m 128 #[.val (.long q1), .second, .val (.long q2), .second, .val (.long q3), .second, .val (.long q4), .second, .val (.int p5), .val (.int f), .val (.int f2), .val (.ref b), .val (.long (own_beh f q3 q1 q2 (-9223372036854775808 : Int64))), .second, .val (.long (own_beh f2 q4 q1 (own_emp f q3 q2) (own_beh f q3 q1 q2 (-9223372036854775808 : Int64)))), .second, .val (.long v1), .second, .val (.long va), .second, .unset, .unset] [])) _
          refine XS.lload X20.here hx rfl (hb hby at_128) rfl ?_
          exact kt
        exact ⟨v1, by first | (simp only [own_beh, hc110, hc120, not_true_eq_false, not_false_eq_true, and_true, true_and, and_false, false_and, or_true, true_or, or_false, false_or, and_self, or_self, eq_self, if_true, if_false]; done) | (simp [own_beh, hc110, hc120]; done), fun t kt => (go33 t (go35 t (go37 t kt)))⟩
  refine own_go go32 ?_
  have go38 : ∀ t, Steps p.tables e below (T20.setTop (mkF m 153 #[.val (.long q1), .second, .val (.long q2), .second, .val (.long q3), .second, .val (.long q4), .second, .val (.int p5), .val (.int f), .val (.int f2), .val (.ref b), .val (.long (own_beh f q3 q1 q2 (-9223372036854775808 : Int64))), .second, .val (.long (own_beh f2 q4 q1 (own_emp f q3 q2) (own_beh f q3 q1 q2 (-9223372036854775808 : Int64)))), .second, .val (.long v1), .second, .val (.long va), .second, .val (.long v2), .second] [(.int (1 : Int32))])) t → Steps p.tables e below (T20.setTop (mkF m 130 #[.val (.long q1), .second, .val (.long q2), .second, .val (.long q3), .second, .val (.long q4), .second, .val (.int p5), .val (.int f), .val (.int f2), .val (.ref b), .val (.long (own_beh f q3 q1 q2 (-9223372036854775808 : Int64))), .second, .val (.long (own_beh f2 q4 q1 (own_emp f q3 q2) (own_beh f q3 q1 q2 (-9223372036854775808 : Int64)))), .second, .val (.long v1), .second, .val (.long va), .second, .unset, .unset] [(.long v2)])) t := by
    intro t kt
    show Steps p.tables e below (T20.setTop (mkF m 130 #[.val (.long q1), .second, .val (.long q2), .second, .val (.long q3), .second, .val (.long q4), .second, .val (.int p5), .val (.int f), .val (.int f2), .val (.ref b), .val (.long (own_beh f q3 q1 q2 (-9223372036854775808 : Int64))), .second, .val (.long (own_beh f2 q4 q1 (own_emp f q3 q2) (own_beh f q3 q1 q2 (-9223372036854775808 : Int64)))), .second, .val (.long v1), .second, .val (.long va), .second, .unset, .unset] [(.long v2)])) _
    refine XS.lstore X20.here hx rfl (hb hby at_130) rfl (l' := #[.val (.long q1), .second, .val (.long q2), .second, .val (.long q3), .second, .val (.long q4), .second, .val (.int p5), .val (.int f), .val (.int f2), .val (.ref b), .val (.long (own_beh f q3 q1 q2 (-9223372036854775808 : Int64))), .second, .val (.long (own_beh f2 q4 q1 (own_emp f q3 q2) (own_beh f q3 q1 q2 (-9223372036854775808 : Int64)))), .second, .val (.long v1), .second, .val (.long va), .second, .val (.long v2), .second]) rfl ?_
    show Steps p.tables e below (T20.setTop (mkF m 132 #[.val (.long q1), .second, .val (.long q2), .second, .val (.long q3), .second, .val (.long q4), .second, .val (.int p5), .val (.int f), .val (.int f2), .val (.ref b), .val (.long (own_beh f q3 q1 q2 (-9223372036854775808 : Int64))), .second, .val (.long (own_beh f2 q4 q1 (own_emp f q3 q2) (own_beh f q3 q1 q2 (-9223372036854775808 : Int64)))), .second, .val (.long v1), .second, .val (.long va), .second, .val (.long v2), .second] [])) _
    refine XS.lload X20.here hx rfl (hb hby at_132) rfl ?_
    show Steps p.tables e below (T20.setTop (mkF m 134 #[.val (.long q1), .second, .val (.long q2), .second, .val (.long q3), .second, .val (.long q4), .second, .val (.int p5), .val (.int f), .val (.int f2), .val (.ref b), .val (.long (own_beh f q3 q1 q2 (-9223372036854775808 : Int64))), .second, .val (.long (own_beh f2 q4 q1 (own_emp f q3 q2) (own_beh f q3 q1 q2 (-9223372036854775808 : Int64)))), .second, .val (.long v1), .second, .val (.long va), .second, .val (.long v2), .second] [(.long (own_beh f q3 q1 q2 (-9223372036854775808 : Int64)))])) _
    refine XS.lload X20.here hx rfl (hb hby at_134) rfl ?_
    show Steps p.tables e below (T20.setTop (mkF m 136 #[.val (.long q1), .second, .val (.long q2), .second, .val (.long q3), .second, .val (.long q4), .second, .val (.int p5), .val (.int f), .val (.int f2), .val (.ref b), .val (.long (own_beh f q3 q1 q2 (-9223372036854775808 : Int64))), .second, .val (.long (own_beh f2 q4 q1 (own_emp f q3 q2) (own_beh f q3 q1 q2 (-9223372036854775808 : Int64)))), .second, .val (.long v1), .second, .val (.long va), .second, .val (.long v2), .second] [(.long v1), (.long (own_beh f q3 q1 q2 (-9223372036854775808 : Int64)))])) _
    refine XS.lcmp X20.here hx rfl (hb hby at_136) rfl ?_
    show Steps p.tables e below (T20.setTop (mkF m 137 #[.val (.long q1), .second, .val (.long q2), .second, .val (.long q3), .second, .val (.long q4), .second, .val (.int p5), .val (.int f), .val (.int f2), .val (.ref b), .val (.long (own_beh f q3 q1 q2 (-9223372036854775808 : Int64))), .second, .val (.long (own_beh f2 q4 q1 (own_emp f q3 q2) (own_beh f q3 q1 q2 (-9223372036854775808 : Int64)))), .second, .val (.long v1), .second, .val (.long va), .second, .val (.long v2), .second] [(.int (lcmpW (own_beh f q3 q1 q2 (-9223372036854775808 : Int64)) v1))])) _
    refine XS.ifNo X20.here hx rfl (hb hby at_137) rfl ((if0 _ _).trans (teq ((lw_eq _ _).mpr hv1.symm)).2) ?_
    show Steps p.tables e below (T20.setTop (mkF m 140 #[.val (.long q1), .second, .val (.long q2), .second, .val (.long q3), .second, .val (.long q4), .second, .val (.int p5), .val (.int f), .val (.int f2), .val (.ref b), .val (.long (own_beh f q3 q1 q2 (-9223372036854775808 : Int64))), .second, .val (.long (own_beh f2 q4 q1 (own_emp f q3 q2) (own_beh f q3 q1 q2 (-9223372036854775808 : Int64)))), .second, .val (.long v1), .second, .val (.long va), .second, .val (.long v2), .second] [])) _
    refine XS.lload X20.here hx rfl (hb hby at_140) rfl ?_
    show Steps p.tables e below (T20.setTop (mkF m 142 #[.val (.long q1), .second, .val (.long q2), .second, .val (.long q3), .second, .val (.long q4), .second, .val (.int p5), .val (.int f), .val (.int f2), .val (.ref b), .val (.long (own_beh f q3 q1 q2 (-9223372036854775808 : Int64))), .second, .val (.long (own_beh f2 q4 q1 (own_emp f q3 q2) (own_beh f q3 q1 q2 (-9223372036854775808 : Int64)))), .second, .val (.long v1), .second, .val (.long va), .second, .val (.long v2), .second] [(.long (own_beh f2 q4 q1 (own_emp f q3 q2) (own_beh f q3 q1 q2 (-9223372036854775808 : Int64))))])) _
    refine XS.lload X20.here hx rfl (hb hby at_142) rfl ?_
    show Steps p.tables e below (T20.setTop (mkF m 144 #[.val (.long q1), .second, .val (.long q2), .second, .val (.long q3), .second, .val (.long q4), .second, .val (.int p5), .val (.int f), .val (.int f2), .val (.ref b), .val (.long (own_beh f q3 q1 q2 (-9223372036854775808 : Int64))), .second, .val (.long (own_beh f2 q4 q1 (own_emp f q3 q2) (own_beh f q3 q1 q2 (-9223372036854775808 : Int64)))), .second, .val (.long v1), .second, .val (.long va), .second, .val (.long v2), .second] [(.long v2), (.long (own_beh f2 q4 q1 (own_emp f q3 q2) (own_beh f q3 q1 q2 (-9223372036854775808 : Int64))))])) _
    refine XS.lcmp X20.here hx rfl (hb hby at_144) rfl ?_
    show Steps p.tables e below (T20.setTop (mkF m 145 #[.val (.long q1), .second, .val (.long q2), .second, .val (.long q3), .second, .val (.long q4), .second, .val (.int p5), .val (.int f), .val (.int f2), .val (.ref b), .val (.long (own_beh f q3 q1 q2 (-9223372036854775808 : Int64))), .second, .val (.long (own_beh f2 q4 q1 (own_emp f q3 q2) (own_beh f q3 q1 q2 (-9223372036854775808 : Int64)))), .second, .val (.long v1), .second, .val (.long va), .second, .val (.long v2), .second] [(.int (lcmpW (own_beh f2 q4 q1 (own_emp f q3 q2) (own_beh f q3 q1 q2 (-9223372036854775808 : Int64))) v2))])) _
    refine XS.ifNo X20.here hx rfl (hb hby at_145) rfl ((if0 _ _).trans (teq ((lw_eq _ _).mpr (by rw [hv2, hv1, hva]))).2) ?_
    show Steps p.tables e below (T20.setTop (mkF m 148 #[.val (.long q1), .second, .val (.long q2), .second, .val (.long q3), .second, .val (.long q4), .second, .val (.int p5), .val (.int f), .val (.int f2), .val (.ref b), .val (.long (own_beh f q3 q1 q2 (-9223372036854775808 : Int64))), .second, .val (.long (own_beh f2 q4 q1 (own_emp f q3 q2) (own_beh f q3 q1 q2 (-9223372036854775808 : Int64)))), .second, .val (.long v1), .second, .val (.long va), .second, .val (.long v2), .second] [])) _
    refine XS.iconst X20.here hx rfl (hb hby at_148) ?_
    show Steps p.tables e below (T20.setTop (mkF m 149 #[.val (.long q1), .second, .val (.long q2), .second, .val (.long q3), .second, .val (.long q4), .second, .val (.int p5), .val (.int f), .val (.int f2), .val (.ref b), .val (.long (own_beh f q3 q1 q2 (-9223372036854775808 : Int64))), .second, .val (.long (own_beh f2 q4 q1 (own_emp f q3 q2) (own_beh f q3 q1 q2 (-9223372036854775808 : Int64)))), .second, .val (.long v1), .second, .val (.long va), .second, .val (.long v2), .second] [(.int (1 : Int32))])) _
    refine XS.goto X20.here hx rfl (pc0 := 149) (pc' := 153) rfl (hb hby at_149) (by decide) (by decide) ?_
    exact kt
  refine own_go go38 ?_
  obtain ⟨fs, hr, hrun, hended, hW, hsame⟩ := X20.leave (v := some (.int (1 : Int32))) (fun h => by rw [Bd.returns] at h; cases h)
  refine ⟨_, _, retN X20 hx (t := .boolean) Bd.returns (by simp) (hb hby at_153) hr, hrun, hended, _, _, rfl, ?_, ⟨_, rfl⟩, hW, hsame.mono (by decide) (by decide)⟩
  show Q0 Z  h0 n0 _ T20.heap _
  rw [eg2]
  exact ⟨rfl, N20⟩
set_option maxRecDepth 65536 in
set_option maxHeartbeats 40000000 in
theorem comes_1 {Post : Tables → Env → Array Value → State → Outcome → State → Prop} (hpost : ∀ tb e args s v u, (limb_1_1.after args s (.returned v) u = true ∧ limb_1_2.after args s (.returned v) u = true ∧ True) → FrameEnd s (.returned v) u (Jvm.fieldLocs frame_1_writes args s ++ Jvm.arrayLocs frame_1_arrays args s ++ Jvm.staticLocs frame_1_statics s) 16 128 → Post tb e args s (.returned v) u) :
    ArmFor flags0 classFile x code maxLocals ret World_1 tables_1 room_1 Calls_1 rest_1 Pre_1 Post := by
  intro l hfl _ _ p e ha hc hk s m args below hf hA hF happ hP
  obtain ⟨hcalls, hrest, hpre⟩ := hP
  obtain ⟨-, -, -, hnamed, -, -, -, hat⟩ := (Spec.applies_iff hf).mp happ
  obtain ⟨hg, hn⟩ := and_e (Cond.before_iff.mp (show (Jvm.Cond.and given_1 narrow_1).before args s = true from hpre))
  obtain ⟨gc, r0⟩ := and_e hg
  obtain ⟨g0, r1⟩ := and_e r0
  obtain ⟨g1, r2⟩ := and_e r1
  obtain ⟨g2, r3⟩ := and_e r2
  obtain ⟨g3, r4⟩ := and_e r3
  obtain ⟨w0, w1, w2, w3, w4, rfl⟩ : ∃ w0 w1 w2 w3 w4 : Value, args = #[w0, w1, w2, w3, w4] := by
    have hs : args.size = 5 := by simpa [Cond.value, given_1] using gc
    obtain ⟨L⟩ := args
    match L, hs with
    | [w0, w1, w2, w3, w4], _ => exact ⟨w0, w1, w2, w3, w4, rfl⟩
  have hw := fun d (hd : d ∈ tables_1) => atoms_spec (ws := Jvm.Cond.code x code maxLocals ret :: tables_1) hat d (List.mem_cons_of_mem _ hd)
  obtain ⟨i0, ei0⟩ := isL_v g0
  obtain rfl : w0 = (.long i0) := Option.some.inj ei0
  obtain ⟨i1, ei1⟩ := isL_v g1
  obtain rfl : w1 = (.long i1) := Option.some.inj ei1
  obtain ⟨i2, ei2⟩ := isL_v g2
  obtain rfl : w2 = (.long i2) := Option.some.inj ei2
  obtain ⟨i3, ei3⟩ := isL_v g3
  obtain rfl : w3 = (.long i3) := Option.some.inj ei3
  obtain ⟨i4, ei4⟩ := is_v r4
  obtain rfl : w4 = (.int i4) := Option.some.inj ei4
  obtain ⟨n, o, h1, h2, h3, _, L, rfl, ⟨rfl, N⟩, hq⟩ := rm0 l s _ hw tables_1 i0 i1 i2 i3 i4 s.heap s.heap.size (Nat.le_refl _) p e ha hc hk s m _ below hf ((Spec.applies_iff_loose hf).mp happ).1 ⟨rfl, State.Warmed39.refl s, rfl⟩ trivial
  refine ⟨n, _, h1, h2, h3, hpost _ _ _ _ _ _ ⟨Cond.after_iff.mpr rfl, Cond.after_iff.mpr (eq_i res_at (Term.int_eval (1)) rfl), trivial⟩ ⟨hq.1, hq.2.1, (hq.2.2.sift fun y hy => Or.inr (N y hy)).mono (by decide) (by decide)⟩⟩
theorem main_1_1 : Claimed_1_1 := comes_1 fun _ _ _ _ _ _ h hF => ⟨h.1, hF⟩
theorem main_1_2 : Claimed_1_2 := comes_1 fun _ _ _ _ _ _ h hF => ⟨h.2.1, hF⟩
end Jvm.Pilot.@@N@@
namespace Jvm.Pilot.@@N@@
open Jvm Jvm.ClassFile Sem Op Lib Jvm.Free Jvm.Stand Jvm.Pilot.@@N@@.Jvm.D
/-! MADE BY PROGRAM (witnessworld.py) out of the Statement's table words and the real class files: 9 classes; the members and pool entries that the words name. The judged class is class 1, her method 1. -/
namespace start1
open Jvm.ClassFile
def u (s : String) : CpInfo := .utf8 (stringToUtf16 s)
/-- a pool by its gaps: so many unusable entries, then the entry; so many at the end -/
def gap : Nat → List CpInfo → List CpInfo
  | 0, r => r
  | n + 1, r => .unusable :: gap n r
def poolList (es : List (Nat × CpInfo)) (last : Nat) : List CpInfo := es.foldr (fun e r => gap e.1 (e.2 :: r)) (gap last [])
def pool (es : List (Nat × CpInfo)) (last : Nat) : Array CpInfo := ⟨poolList es last⟩
def fileOf (pool : Array CpInfo) (this : Nat) (attrs : Array Attribute := #[]) (ms : Array MethodInfo := #[]) (fl : Nat := 33) (sup : Nat := 0) (ifs : Array Nat := #[]) (fds : Array FieldInfo := #[]) : ClassFile where
  minorVersion := 0
  majorVersion := 65
  constantPool := pool
  accessFlags := fl
  thisClass := this
  superClass := sup
  interfaces := ifs
  fields := fds
  methods := ms
  attributes := attrs
def plain (name : String) (sup : Option ClassId) : Class where
  name := name
  kind := .ordinary
  loader := none
  accessFlags := 33
  super := sup
  interfaces := #[]
  cf := none
  fields := #[]
  methods := #[]
  instanceTypes := #[]
  staticTypes := #[]
  resolved := #[]
  callSites := []
  init := .initialized
  statics := none
  mirror := none

def pool0 : Array CpInfo := pool [(5, u "<init>"), (0, u "()V"), (1, .class_ 10), (1, u "java/lang/Object")] 113

def k0c0 : Code := { maxStack := 0, maxLocals := 1, code := object_method_1_code, exceptionTable := #[], attributes := #[] }
def k0m0 : Method := { name := "<init>", desc := "()V", sig := { parameters := [], returnType := none }, accessFlags := 1, code := some k0c0 }
/-- java/lang/Object -/
def k0 : Class := { plain "java/lang/Object" none with
  accessFlags := 33
  interfaces := #[]
  cf := some (fileOf pool0 8 #[] #[{ accessFlags := 1, nameIndex := 5, descriptorIndex := 6, attributes := #[] }] 33 0 #[] #[])
  fields := #[]
  methods := #[k0m0]
  instanceTypes := #[]
  staticTypes := #[]
  resolved := Array.replicate 124 none
  statics := none }

def pool1 : Array CpInfo := pool [(2, .class_ 4), (1, u "java/lang/Object"), (0, u "<init>"), (0, u "()V"), (0, .class_ 8), (0, u "com/example/tocsin/tocsin/net/Backlog"), (0, .methodref 7 10), (0, .nameAndType 5 11), (0, u "(JJ)V"), (0, .methodref 7 13), (0, .nameAndType 14 15), (0, u "looked"), (0, u "(ZJ)V"), (0, .methodref 7 17), (0, .nameAndType 18 19), (0, u "behindAt"), (0, u "()J"), (2, .long 9223372036854775808), (1, .class_ 25), (0, u "com/example/tocsin/tocsin/net/BacklogLookedPinLaw"), (2, u "law"), (0, u "(JJJJI)Z")] 3

def k1m0 : Method := { name := "<init>", desc := "()V", sig := { parameters := [], returnType := none }, accessFlags := 1, code := none }
def k1c1 : Code := { maxStack := 6, maxLocals := 22, code := code, exceptionTable := #[], attributes := #[] }
def k1m1 : Method := { name := "law", desc := "(JJJJI)Z", sig := { parameters := [.long, .long, .long, .long, .int], returnType := some .boolean }, accessFlags := 9, code := some k1c1 }
/-- com/example/tocsin/tocsin/net/BacklogLookedPinLaw -/
def k1 : Class := { plain "com/example/tocsin/tocsin/net/BacklogLookedPinLaw" (some 0) with
  accessFlags := 49
  interfaces := #[]
  cf := some (fileOf pool1 24 #[] #[{ accessFlags := 1, nameIndex := 5, descriptorIndex := 6, attributes := #[] }, { accessFlags := 9, nameIndex := 28, descriptorIndex := 29, attributes := #[] }] 49 2 #[] #[])
  fields := #[]
  methods := #[k1m0, k1m1]
  instanceTypes := #[]
  staticTypes := #[]
  resolved := Array.replicate 33 none
  statics := none }

def pool2 : Array CpInfo := pool [(1, .methodref 2 3), (0, .class_ 4), (0, .nameAndType 5 6), (0, u "java/lang/Object"), (0, u "<init>"), (0, u "()V"), (0, .fieldref 8 9), (0, .class_ 10), (0, .nameAndType 11 12), (0, u "com/example/tocsin/tocsin/net/Backlog"), (0, u "limit"), (0, u "J"), (0, .fieldref 8 14), (0, .nameAndType 15 12), (0, u "emptyAt"), (2, .long 9223372036854775808), (1, .fieldref 8 21), (0, .nameAndType 22 12), (0, u "behindAt"), (0, u "(JJ)V"), (2, u "looked"), (0, u "(ZJ)V"), (1, u "()J")] 2

def k2c0 : Code := { maxStack := 3, maxLocals := 5, code := prog_83_method_1_code, exceptionTable := #[], attributes := #[] }
def k2m0 : Method := { name := "<init>", desc := "(JJ)V", sig := { parameters := [.long, .long], returnType := none }, accessFlags := 0, code := some k2c0 }
def k2c1 : Code := { maxStack := 4, maxLocals := 4, code := prog_83_method_2_code, exceptionTable := #[], attributes := #[] }
def k2m1 : Method := { name := "looked", desc := "(ZJ)V", sig := { parameters := [.boolean, .long], returnType := none }, accessFlags := 0, code := some k2c1 }
def k2c2 : Code := { maxStack := 2, maxLocals := 1, code := prog_83_method_3_code, exceptionTable := #[], attributes := #[] }
def k2m2 : Method := { name := "behindAt", desc := "()J", sig := { parameters := [], returnType := some .long }, accessFlags := 0, code := some k2c2 }
/-- com/example/tocsin/tocsin/net/Backlog -/
def k2 : Class := { plain "com/example/tocsin/tocsin/net/Backlog" (some 0) with
  accessFlags := 48
  interfaces := #[]
  cf := some (fileOf pool2 8 #[] #[{ accessFlags := 0, nameIndex := 5, descriptorIndex := 23, attributes := #[] }, { accessFlags := 0, nameIndex := 26, descriptorIndex := 27, attributes := #[] }, { accessFlags := 0, nameIndex := 22, descriptorIndex := 29, attributes := #[] }] 48 2 #[] #[{ accessFlags := 18, nameIndex := 11, descriptorIndex := 12, attributes := #[] }, { accessFlags := 2, nameIndex := 15, descriptorIndex := 12, attributes := #[] }, { accessFlags := 2, nameIndex := 22, descriptorIndex := 12, attributes := #[] }])
  fields := #[{ name := "limit", type := .long, accessFlags := 18, slot := 0, constantValue := 0 }, { name := "emptyAt", type := .long, accessFlags := 2, slot := 1, constantValue := 0 }, { name := "behindAt", type := .long, accessFlags := 2, slot := 2, constantValue := 0 }]
  methods := #[k2m0, k2m1, k2m2]
  instanceTypes := #[.long, .long, .long]
  staticTypes := #[]
  resolved := Array.replicate 32 none
  statics := none }

def pool3 : Array CpInfo := pool [(1, u "java/lang/Cloneable"), (0, .class_ 1), (0, u "java/lang/Object"), (0, .class_ 3)] 3

/-- java/lang/Cloneable -/
def k3 : Class := { plain "java/lang/Cloneable" (some 0) with
  accessFlags := 1537
  interfaces := #[]
  cf := some (fileOf pool3 2 #[] #[] 1537 4 #[] #[])
  fields := #[]
  methods := #[]
  instanceTypes := #[]
  staticTypes := #[]
  resolved := Array.replicate 8 none
  statics := none }

def pool4 : Array CpInfo := pool [(1, u "java/io/Serializable"), (0, .class_ 1), (0, u "java/lang/Object"), (0, .class_ 3)] 3

/-- java/io/Serializable -/
def k4 : Class := { plain "java/io/Serializable" (some 0) with
  accessFlags := 1537
  interfaces := #[]
  cf := some (fileOf pool4 2 #[] #[] 1537 4 #[] #[])
  fields := #[]
  methods := #[]
  instanceTypes := #[]
  staticTypes := #[]
  resolved := Array.replicate 8 none
  statics := none }

/-- the primitive byte -/
def k5 : Class := { plain "byte" none with kind := .primitive 'B', accessFlags := 0x411 }
/-- [B -/
def k6 : Class := { plain "[B" (some 0) with kind := .array 5 .byte, interfaces := #[3, 4], accessFlags := 1041 }

/-- the primitive int -/
def k7 : Class := { plain "int" none with kind := .primitive 'I', accessFlags := 0x411 }
/-- [I -/
def k8 : Class := { plain "[I" (some 0) with kind := .array 7 .int, interfaces := #[3, 4], accessFlags := 1041 }

def heap : Heap := #[]
def classes : Array Class := #[k0, k1, k2, k3, k4, k5, k6, k7, k8]
def interned : List (Array UInt16 × Addr) := []
def slotsUsed : Nat := 0
def theMethod : MethodId := ⟨1, 1⟩
def args0 : Array Value := #[.long 5, .long 7, .long 300, .long 301, .int 3]
def aboutOver (below : List Frame) : State where
  vm := { classes := classes, interned := interned.toArray }
  heap := heap
  slotsUsed := slotsUsed
  threads := #[{ frames := .invoking theMethod args0 :: below }]
def below0 : List Frame := [.native { method := ⟨0, 0⟩, args := #[] }]
def about1 : State := aboutOver below0
def p0 : Program := .bare "" "" ""
def e0 : Env := launch0.env 0 0 0
theorem w_frames : about1.frames = Frame.invoking theMethod args0 :: below0 := rfl
set_option maxRecDepth 65536 in
theorem w_args : argsFit about1.vm theMethod args0 = true := by decide +kernel
set_option maxRecDepth 65536 in
theorem w_heap : heapFits about1 = true := by decide +kernel
set_option maxRecDepth 65536 in
theorem w_runnable : about1.curStatus? = some .runnable := by decide +kernel
set_option maxRecDepth 65536 in
theorem w_alone : about1.alone = true := by decide +kernel
set_option maxRecDepth 65536 in
theorem w_named : about1.methodNamed? x = some theMethod := by decide +kernel
set_option maxRecDepth 65536 in
theorem w_hears : about1.hears theMethod below0 = true := by decide +kernel
set_option maxRecDepth 65536 in
theorem w_ripe : about1.ripe theMethod args0 below0 = true := by decide +kernel
theorem w_running : about1.status = .running := rfl
set_option maxRecDepth 65536 in
theorem w_room : about1.hasRoom e0.platform room_1 = true :=
  launch0.hasRoom_least _ room_1 (by decide +kernel) (by decide +kernel) (by decide +kernel) (by decide +kernel) (by decide +kernel) (by decide +kernel)
theorem allAtoms_all (ts : List Jvm.Cond) (a : Array Jvm.Value) (st : Jvm.State) : (allAtoms ts).before a st = ts.all (fun c => c.before a st) := by
  induction ts with
  | nil => rfl
  | cons c t ih =>
    show (Jvm.Cond.and c (allAtoms t)).before a st = _
    rw [Jvm.Cond.before_and, ih, List.all_cons]
def words1 : List Jvm.Cond := Jvm.Cond.code x code maxLocals ret :: tables_1
/-- a 'code' word, met by the world's own term for the bytes: nothing is compared byte by byte -/
theorem code_word {y : MethodName} {bytes : ByteArray} {mx : Nat} {rt : Option FieldType} {a : Array Value} {s : State} {m : MethodId} {meth : Method} {c : Code} (h1 : s.methodNamed? y = some m) (h2 : s.vm.method? m = some meth) (h3 : meth.code = some c) (h4 : c.code = bytes)
    (h5 : (c.maxLocals == mx && c.exceptionTable.isEmpty && decide (c.maxStack ≤ mostOperands) && decide (meth.sig.returnType = rt) && !meth.locks && decide (parseMethodDescriptor y.desc = some meth.sig)) = true) : (Jvm.Cond.code y bytes mx rt).before a s = true := by
  simp only [Bool.and_eq_true, beq_iff_eq, Bool.not_eq_true', decide_eq_true_eq] at h5
  obtain ⟨⟨⟨⟨⟨g1, g2⟩, g3⟩, g4⟩, g5⟩, g6⟩ := h5
  simp [Cond.before, Cond.holds, Cond.value, h1, h2, h3, h4, g1, g2, g3, g4, g5, g6]
def isCode : Jvm.Cond → Bool
  | .code _ _ _ _ => true
  | _ => false
theorem all_split {L : List Jvm.Cond} {P : Jvm.Cond → Bool} (h1 : L.all (fun c => isCode c || P c) = true) (h2 : ∀ c ∈ L.filter isCode, P c = true) : L.all P = true := by
  refine List.all_eq_true.mpr fun c hc => ?_
  have h := List.all_eq_true.mp h1 c hc
  rcases Bool.eq_false_or_eq_true (isCode c) with hi | hi
  · exact h2 c (List.mem_filter.mpr ⟨hc, hi⟩)
  · simpa [hi] using h
set_option maxRecDepth 65536 in
theorem w_c0 : (Jvm.Cond.code x code maxLocals ret).before args0 about1 = true := code_word (m := ⟨1, 1⟩) (meth := k1m1) (c := k1c1) (by decide +kernel) rfl rfl rfl (by decide +kernel)
set_option maxRecDepth 65536 in
theorem w_c1 : (Jvm.Cond.code ({ cls := "com/example/tocsin/tocsin/net/Backlog", name := "<init>", desc := "(JJ)V" } : Jvm.MethodName) prog_83_method_1_code (5 : Nat) (Option.none : Option Jvm.ClassFile.FieldType)).before args0 about1 = true := code_word (m := ⟨2, 0⟩) (meth := k2m0) (c := k2c0) (by decide +kernel) rfl rfl rfl (by decide +kernel)
set_option maxRecDepth 65536 in
theorem w_c2 : (Jvm.Cond.code ({ cls := "java/lang/Object", name := "<init>", desc := "()V" } : Jvm.MethodName) object_method_1_code (1 : Nat) (Option.none : Option Jvm.ClassFile.FieldType)).before args0 about1 = true := code_word (m := ⟨0, 0⟩) (meth := k0m0) (c := k0c0) (by decide +kernel) rfl rfl rfl (by decide +kernel)
set_option maxRecDepth 65536 in
theorem w_c3 : (Jvm.Cond.code ({ cls := "com/example/tocsin/tocsin/net/Backlog", name := "looked", desc := "(ZJ)V" } : Jvm.MethodName) prog_83_method_2_code (4 : Nat) (Option.none : Option Jvm.ClassFile.FieldType)).before args0 about1 = true := code_word (m := ⟨2, 1⟩) (meth := k2m1) (c := k2c1) (by decide +kernel) rfl rfl rfl (by decide +kernel)
set_option maxRecDepth 65536 in
theorem w_c4 : (Jvm.Cond.code ({ cls := "com/example/tocsin/tocsin/net/Backlog", name := "behindAt", desc := "()J" } : Jvm.MethodName) prog_83_method_3_code (1 : Nat) (Option.some Jvm.ClassFile.FieldType.long)).before args0 about1 = true := code_word (m := ⟨2, 2⟩) (meth := k2m2) (c := k2c2) (by decide +kernel) rfl rfl rfl (by decide +kernel)
def codes1 : List Jvm.Cond := [Jvm.Cond.code x code maxLocals ret, Jvm.Cond.code ({ cls := "com/example/tocsin/tocsin/net/Backlog", name := "<init>", desc := "(JJ)V" } : Jvm.MethodName) prog_83_method_1_code (5 : Nat) (Option.none : Option Jvm.ClassFile.FieldType), Jvm.Cond.code ({ cls := "java/lang/Object", name := "<init>", desc := "()V" } : Jvm.MethodName) object_method_1_code (1 : Nat) (Option.none : Option Jvm.ClassFile.FieldType), Jvm.Cond.code ({ cls := "com/example/tocsin/tocsin/net/Backlog", name := "looked", desc := "(ZJ)V" } : Jvm.MethodName) prog_83_method_2_code (4 : Nat) (Option.none : Option Jvm.ClassFile.FieldType), Jvm.Cond.code ({ cls := "com/example/tocsin/tocsin/net/Backlog", name := "behindAt", desc := "()J" } : Jvm.MethodName) prog_83_method_3_code (1 : Nat) (Option.some Jvm.ClassFile.FieldType.long)]
set_option maxRecDepth 65536 in
theorem codes_eq : words1.filter isCode = codes1 := rfl
theorem w_codes : ∀ c ∈ words1.filter isCode, c.before args0 about1 = true := by
  rw [codes_eq]
  intro c hc
  simp only [codes1, List.mem_cons, List.not_mem_nil, or_false] at hc
  rcases hc with rfl | rfl | rfl | rfl | rfl
  · exact w_c0
  · exact w_c1
  · exact w_c2
  · exact w_c3
  · exact w_c4
set_option maxRecDepth 65536 in
theorem w_t1 : (words1.take 24).all (fun c => isCode c || c.before args0 about1) = true := by decide +kernel
set_option maxRecDepth 65536 in
theorem w_t2 : (words1.drop 24).all (fun c => isCode c || c.before args0 about1) = true := by decide +kernel
theorem w_tables : (allAtoms (Jvm.Cond.code x code maxLocals ret :: tables_1)).before args0 about1 = true := by
  rw [allAtoms_all]
  show words1.all (fun c => c.before args0 about1) = true
  refine all_split ?_ w_codes
  rw [← List.take_append_drop 24 words1, List.all_append, w_t1, w_t2]
  rfl
set_option maxRecDepth 65536 in
theorem w_case : (Jvm.Cond.and given_1 narrow_1).before args0 about1 = true := by decide +kernel
theorem w_applies : (headSpec (Jvm.Cond.code x code maxLocals ret :: tables_1) room_1).applies x e0.platform about1 = true :=
  (Spec.applies_iff w_frames).mpr ⟨w_running, w_runnable, w_alone, w_named, w_hears, w_ripe, w_room, w_tables⟩
theorem atStart : AtStart classFile x code maxLocals ret World_1 tables_1 room_1 Calls_1 rest_1 Pre_1 launch0 p0 e0 about1 theMethod args0 below0 :=
  ⟨lists_1, trivial, launch0.admits_env _ _ _, launch0.least_env, fairChoices_fair.cas, fairChoices_fair.clock, w_frames, w_args, w_heap, w_applies, trivial, trivial, w_case⟩
end start1
theorem witness_1 : WitnessClaimed_1 := ⟨start1.p0, start1.e0, start1.about1, start1.theMethod, start1.args0, start1.below0, start1.atStart⟩
end Jvm.Pilot.@@N@@
