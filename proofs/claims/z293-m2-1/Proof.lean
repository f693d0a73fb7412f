import JvmDerived
import JvmDerived.Pilot.@@N@@Statement
import JvmDerived.Pilot.@@N@@Code
set_option linter.unusedVariables false
set_option linter.unusedSimpArgs false
namespace Jvm.Pilot.@@N@@
open Jvm Jvm.ClassFile Sem Op Lib Jvm.Free Jvm.Stand Jvm.LawKit Jvm.RoadKit Bundle Jvm.Pilot.@@N@@.Jvm.D
/-- one stretch of the walk, then the rest of it -/
theorem own_go {tb : Tables} {e : Env} {below : List Frame} {S S' : State} {K : State → Outcome → Prop} (st : ∀ t, Steps tb e below S' t → Steps tb e below S t) (h : ∃ t o, Steps tb e below S' t ∧ K t o) : ∃ t o, Steps tb e below S t ∧ K t o := by
  obtain ⟨t, o, h1, h2⟩ := h
  exact ⟨t, o, st _ h1, h2⟩
theorem pd_0 : parseMethodDescriptor "(C)Z" = some ⟨[.char], some .boolean⟩ := by decide +kernel
theorem pd_1 : parseMethodDescriptor "(CZ)Z" = some ⟨[.char, .boolean], some .boolean⟩ := by decide +kernel
theorem d2_0 : decode prog_33_method_9_code 0 = .ok (.iload_n 0, 1) := by decide +kernel
theorem d2_1 : decode prog_33_method_9_code 1 = .ok (.bipush 48, 2) := by decide +kernel
theorem d2_3 : decode prog_33_method_9_code 3 = .ok (.if_icmp .lt 13, 3) := by decide +kernel
theorem d2_6 : decode prog_33_method_9_code 6 = .ok (.iload_n 0, 1) := by decide +kernel
theorem d2_7 : decode prog_33_method_9_code 7 = .ok (.bipush 57, 2) := by decide +kernel
theorem d2_9 : decode prog_33_method_9_code 9 = .ok (.if_icmp .gt 7, 3) := by decide +kernel
theorem d2_12 : decode prog_33_method_9_code 12 = .ok (.iconst 1, 1) := by decide +kernel
theorem d2_13 : decode prog_33_method_9_code 13 = .ok (.goto 4, 3) := by decide +kernel
theorem d2_16 : decode prog_33_method_9_code 16 = .ok (.iconst 0, 1) := by decide +kernel
theorem d2_17 : decode prog_33_method_9_code 17 = .ok (.ireturn, 1) := by decide +kernel
theorem pn_2 : plainName "com/example/rowgraft/rowgraft/model/Parameter" = true := by first | (simp [plainName, overriddenIn]; done) | decide +kernel
theorem ef_2 (m : MethodId) (x0 : Int32) : entryFrame m #[(.int x0)] 1 = mkF m 0 #[.val (.int x0)] [] := by first | (simp [entryFrame, mkF, argsToLocals, Value.category]; done) | rfl
def own_D (p1 : Int32) : Int32 := if ¬ p1 < 48 ∧ ¬ 57 < p1 then 1 else 0
def Q2 (Z : State) (p1 : Int32) (h0 : Heap) (n0 : Nat) (v : Option Value) (h : Heap) (L : List Loc) : Prop := v = some (.int (own_D p1)) ∧ Fr n0 L ∧ h = h0
set_option maxRecDepth 65536 in
set_option maxHeartbeats 40000000 in
theorem rm2 (l : Launch) (Z : State) (a0 : Array Value) (hw : ∀ d ∈ tables_1, d.before a0 Z = true) (ws : List Jvm.Cond) (p1 : Int32) (h0 : Heap) (n0 : Nat) (Z0 : n0 ≤ h0.size) :
    MetFree l (⟨"com/example/rowgraft/rowgraft/model/Parameter", "isDigit", "(C)Z"⟩ : MethodName) (head1 (Jvm.Cond.code (⟨"com/example/rowgraft/rowgraft/model/Parameter", "isDigit", "(C)Z"⟩ : MethodName) prog_33_method_9_code 1 (some .boolean) :: ws) ({ frames := 0, cells := 0, slots := 0, locals := 0 } : Room)) (fun a U => a = #[(.int p1)] ∧ Z.Warmed39 U.vm ∧ U.heap = h0) (fun _ _ _ _ _ => True) (fun _ U o U' => ∃ v L, o = .returned v ∧ Q2 Z p1 h0 n0 v U'.heap L ∧ FrameEnd U o U' L ({ frames := 0, cells := 0, slots := 0, locals := 0 } : Room).cells ({ frames := 0, cells := 0, slots := 0, locals := 0 } : Room).slots) := by
  refine MetFree.of_bodySF (plainFor_of_name pn_2) hisR ?_
  intro p e s m args below meth c s₁ Bd hml0 hP hK
  obtain ⟨rfl, hZ, hh⟩ := hP
  have hx := Bd.exec
  have hby := Bd.bytes
  have hml : c.maxLocals = 1 := hml0
  have hown : s.vm.findClass "com/example/rowgraft/rowgraft/model/Parameter" = some m.cls := findClass_of_methodNamed Bd.named
  have hnm := (name_of_methodNamed Bd.named Bd.method).1
  have X0 : Stand p l e ({ frames := 0, cells := 0, slots := 0, locals := 0 } : Room) s m #[(.int p1)] below meth c s₁ [] 0 0 := Stand.of_body Bd
  have e0 : s₁.heap = h0 := by rw [← hh, Bd.state]; rfl
  have N0 := Fr.nil n0
  have pre0 : ∀ t, Steps p.tables e below (s₁.setTop (mkF m 0 #[.val (.int p1)] [])) t → Steps p.tables e below (s₁.setTop (entryFrame m #[(.int p1)] 1)) t := fun t k => castTop (ef_2 m p1) k
  refine own_go pre0 ?_
  have go1 : ∀ t, Steps p.tables e below (s₁.setTop (mkF m 3 #[.val (.int p1)] [(.int (48 : Int32)), (.int p1)])) t → Steps p.tables e below (s₁.setTop (mkF m 0 #[.val (.int p1)] [])) t := by
    intro t kt
    show Steps p.tables e below (s₁.setTop (mkF m 0 #[.val (.int p1)] [])) _
    refine XS.iloadN X0.here hx rfl (hb hby d2_0) rfl ?_
    show Steps p.tables e below (s₁.setTop (mkF m 1 #[.val (.int p1)] [(.int p1)])) _
    refine XS.bipush X0.here hx rfl (hb hby d2_1) ?_
    exact kt
  refine own_go go1 ?_
  rcases Classical.em (p1 < (48 : Int32)) with hc3 | hc3
  · have go2 : ∀ t, Steps p.tables e below (s₁.setTop (mkF m 17 #[.val (.int p1)] [(.int (0 : Int32))])) t → Steps p.tables e below (s₁.setTop (mkF m 3 #[.val (.int p1)] [(.int (48 : Int32)), (.int p1)])) t := by
      intro t kt
      show Steps p.tables e below (s₁.setTop (mkF m 3 #[.val (.int p1)] [(.int (48 : Int32)), (.int p1)])) _
      refine XS.icmpYes X0.here hx rfl (pc0 := 3) (pc' := 16) rfl (hb hby d2_3) rfl (tlt hc3).1 (by decide) (by decide) ?_
      show Steps p.tables e below (s₁.setTop (mkF m 16 #[.val (.int p1)] [])) _
      refine XS.iconst X0.here hx rfl (hb hby d2_16) ?_
      exact kt
    refine own_go go2 ?_
    obtain ⟨fs, hr, hrun, hended, hW, hsame⟩ := X0.leave (v := some (.int (0 : Int32))) (fun h => by rw [Bd.returns] at h; cases h)
    refine ⟨_, _, retN X0 hx (t := .boolean) Bd.returns (by simp) (hb hby d2_17) hr, hrun, hended, _, _, rfl, ?_, ⟨_, rfl⟩, hW, hsame.mono (by decide) (by decide)⟩
    show Q2 Z p1 h0 n0 _ s₁.heap _
    rw [e0]
    exact ⟨congrArg (fun z => some (Value.int z)) (show (0 : Int32) = own_D p1 from by first | (simp only [own_D, hc3, not_true_eq_false, not_false_eq_true, and_true, true_and, and_false, false_and, or_true, true_or, or_false, false_or, and_self, or_self, eq_self, if_true, if_false]; done) | (simp [own_D, hc3]; done)), N0, rfl⟩
  · have go3 : ∀ t, Steps p.tables e below (s₁.setTop (mkF m 9 #[.val (.int p1)] [(.int (57 : Int32)), (.int p1)])) t → Steps p.tables e below (s₁.setTop (mkF m 3 #[.val (.int p1)] [(.int (48 : Int32)), (.int p1)])) t := by
      intro t kt
      show Steps p.tables e below (s₁.setTop (mkF m 3 #[.val (.int p1)] [(.int (48 : Int32)), (.int p1)])) _
      refine XS.icmpNo X0.here hx rfl (hb hby d2_3) rfl (flt hc3).1 ?_
      show Steps p.tables e below (s₁.setTop (mkF m 6 #[.val (.int p1)] [])) _
      refine XS.iloadN X0.here hx rfl (hb hby d2_6) rfl ?_
      show Steps p.tables e below (s₁.setTop (mkF m 7 #[.val (.int p1)] [(.int p1)])) _
      refine XS.bipush X0.here hx rfl (hb hby d2_7) ?_
      exact kt
    refine own_go go3 ?_
    rcases Classical.em ((57 : Int32) < p1) with hc9 | hc9
    · have go4 : ∀ t, Steps p.tables e below (s₁.setTop (mkF m 17 #[.val (.int p1)] [(.int (0 : Int32))])) t → Steps p.tables e below (s₁.setTop (mkF m 9 #[.val (.int p1)] [(.int (57 : Int32)), (.int p1)])) t := by
        intro t kt
        show Steps p.tables e below (s₁.setTop (mkF m 9 #[.val (.int p1)] [(.int (57 : Int32)), (.int p1)])) _
        refine XS.icmpYes X0.here hx rfl (pc0 := 9) (pc' := 16) rfl (hb hby d2_9) rfl (tlt hc9).2.2.1 (by decide) (by decide) ?_
        show Steps p.tables e below (s₁.setTop (mkF m 16 #[.val (.int p1)] [])) _
        refine XS.iconst X0.here hx rfl (hb hby d2_16) ?_
        exact kt
      refine own_go go4 ?_
      obtain ⟨fs, hr, hrun, hended, hW, hsame⟩ := X0.leave (v := some (.int (0 : Int32))) (fun h => by rw [Bd.returns] at h; cases h)
      refine ⟨_, _, retN X0 hx (t := .boolean) Bd.returns (by simp) (hb hby d2_17) hr, hrun, hended, _, _, rfl, ?_, ⟨_, rfl⟩, hW, hsame.mono (by decide) (by decide)⟩
      show Q2 Z p1 h0 n0 _ s₁.heap _
      rw [e0]
      exact ⟨congrArg (fun z => some (Value.int z)) (show (0 : Int32) = own_D p1 from by first | (simp only [own_D, hc3, hc9, not_true_eq_false, not_false_eq_true, and_true, true_and, and_false, false_and, or_true, true_or, or_false, false_or, and_self, or_self, eq_self, if_true, if_false]; done) | (simp [own_D, hc3, hc9]; done)), N0, rfl⟩
    · have go5 : ∀ t, Steps p.tables e below (s₁.setTop (mkF m 17 #[.val (.int p1)] [(.int (1 : Int32))])) t → Steps p.tables e below (s₁.setTop (mkF m 9 #[.val (.int p1)] [(.int (57 : Int32)), (.int p1)])) t := by
        intro t kt
        show Steps p.tables e below (s₁.setTop (mkF m 9 #[.val (.int p1)] [(.int (57 : Int32)), (.int p1)])) _
        refine XS.icmpNo X0.here hx rfl (hb hby d2_9) rfl (flt hc9).2.2.1 ?_
        show Steps p.tables e below (s₁.setTop (mkF m 12 #[.val (.int p1)] [])) _
        refine XS.iconst X0.here hx rfl (hb hby d2_12) ?_
        show Steps p.tables e below (s₁.setTop (mkF m 13 #[.val (.int p1)] [(.int (1 : Int32))])) _
        refine XS.goto X0.here hx rfl (pc0 := 13) (pc' := 17) rfl (hb hby d2_13) (by decide) (by decide) ?_
        exact kt
      refine own_go go5 ?_
      obtain ⟨fs, hr, hrun, hended, hW, hsame⟩ := X0.leave (v := some (.int (1 : Int32))) (fun h => by rw [Bd.returns] at h; cases h)
      refine ⟨_, _, retN X0 hx (t := .boolean) Bd.returns (by simp) (hb hby d2_17) hr, hrun, hended, _, _, rfl, ?_, ⟨_, rfl⟩, hW, hsame.mono (by decide) (by decide)⟩
      show Q2 Z p1 h0 n0 _ s₁.heap _
      rw [e0]
      exact ⟨congrArg (fun z => some (Value.int z)) (show (1 : Int32) = own_D p1 from by first | (simp only [own_D, hc3, hc9, not_true_eq_false, not_false_eq_true, and_true, true_and, and_false, false_and, or_true, true_or, or_false, false_or, and_self, or_self, eq_self, if_true, if_false]; done) | (simp [own_D, hc3, hc9]; done)), N0, rfl⟩
theorem d1_0 : decode prog_33_method_3_code 0 = .ok (.iload_n 0, 1) := by decide +kernel
theorem d1_1 : decode prog_33_method_3_code 1 = .ok (.bipush 65, 2) := by decide +kernel
theorem d1_3 : decode prog_33_method_3_code 3 = .ok (.if_icmp .lt 9, 3) := by decide +kernel
theorem d1_6 : decode prog_33_method_3_code 6 = .ok (.iload_n 0, 1) := by decide +kernel
theorem d1_7 : decode prog_33_method_3_code 7 = .ok (.bipush 90, 2) := by decide +kernel
theorem d1_9 : decode prog_33_method_3_code 9 = .ok (.if_icmp .le 21, 3) := by decide +kernel
theorem d1_12 : decode prog_33_method_3_code 12 = .ok (.iload_n 0, 1) := by decide +kernel
theorem d1_13 : decode prog_33_method_3_code 13 = .ok (.bipush 97, 2) := by decide +kernel
theorem d1_15 : decode prog_33_method_3_code 15 = .ok (.if_icmp .lt 9, 3) := by decide +kernel
theorem d1_18 : decode prog_33_method_3_code 18 = .ok (.iload_n 0, 1) := by decide +kernel
theorem d1_19 : decode prog_33_method_3_code 19 = .ok (.bipush 122, 2) := by decide +kernel
theorem d1_21 : decode prog_33_method_3_code 21 = .ok (.if_icmp .le 9, 3) := by decide +kernel
theorem d1_24 : decode prog_33_method_3_code 24 = .ok (.iload_n 0, 1) := by decide +kernel
theorem d1_25 : decode prog_33_method_3_code 25 = .ok (.bipush 95, 2) := by decide +kernel
theorem d1_27 : decode prog_33_method_3_code 27 = .ok (.if_icmp .ne 7, 3) := by decide +kernel
theorem d1_30 : decode prog_33_method_3_code 30 = .ok (.iconst 1, 1) := by decide +kernel
theorem d1_31 : decode prog_33_method_3_code 31 = .ok (.goto 4, 3) := by decide +kernel
theorem d1_34 : decode prog_33_method_3_code 34 = .ok (.iconst 0, 1) := by decide +kernel
theorem d1_35 : decode prog_33_method_3_code 35 = .ok (.istore_n 2, 1) := by decide +kernel
theorem d1_36 : decode prog_33_method_3_code 36 = .ok (.iload_n 2, 1) := by decide +kernel
theorem d1_37 : decode prog_33_method_3_code 37 = .ok (.ifCond .ne 14, 3) := by decide +kernel
theorem d1_40 : decode prog_33_method_3_code 40 = .ok (.iload_n 1, 1) := by decide +kernel
theorem d1_41 : decode prog_33_method_3_code 41 = .ok (.ifCond .ne 14, 3) := by decide +kernel
theorem d1_44 : decode prog_33_method_3_code 44 = .ok (.iload_n 0, 1) := by decide +kernel
theorem d1_45 : decode prog_33_method_3_code 45 = .ok (.invokestatic 74, 3) := by decide +kernel
theorem d1_48 : decode prog_33_method_3_code 48 = .ok (.ifCond .eq 7, 3) := by decide +kernel
theorem d1_51 : decode prog_33_method_3_code 51 = .ok (.iconst 1, 1) := by decide +kernel
theorem d1_52 : decode prog_33_method_3_code 52 = .ok (.goto 4, 3) := by decide +kernel
theorem d1_55 : decode prog_33_method_3_code 55 = .ok (.iconst 0, 1) := by decide +kernel
theorem d1_56 : decode prog_33_method_3_code 56 = .ok (.ireturn, 1) := by decide +kernel
theorem pn_1 : plainName "com/example/rowgraft/rowgraft/model/Parameter" = true := by first | (simp [plainName, overriddenIn]; done) | decide +kernel
theorem ef_1 (m : MethodId) (x0 : Int32) (x1 : Int32) : entryFrame m #[(.int x0), (.int x1)] 3 = mkF m 0 #[.val (.int x0), .val (.int x1), .unset] [] := by first | (simp [entryFrame, mkF, argsToLocals, Value.category]; done) | rfl
def own_L (p1 : Int32) : Int32 := if (¬ p1 < 65 ∧ ¬ 90 < p1) ∨ (¬ p1 < 97 ∧ ¬ 122 < p1) ∨ p1 = 95 then 1 else 0
def own_N (p1 p2 : Int32) : Int32 := if ¬ own_L p1 = 0 ∨ (p2 = 0 ∧ ¬ own_D p1 = 0) then 1 else 0
def Q1 (Z : State) (p1 p2 : Int32) (h0 : Heap) (n0 : Nat) (v : Option Value) (h : Heap) (L : List Loc) : Prop := v = some (.int (own_N p1 p2)) ∧ Fr n0 L ∧ h = h0
set_option maxRecDepth 65536 in
set_option maxHeartbeats 40000000 in
theorem rm1 (l : Launch) (Z : State) (a0 : Array Value) (hw : ∀ d ∈ tables_1, d.before a0 Z = true) (ws : List Jvm.Cond) (p1 : Int32) (p2 : Int32) (h0 : Heap) (n0 : Nat) (Z0 : n0 ≤ h0.size) :
    MetFree l (⟨"com/example/rowgraft/rowgraft/model/Parameter", "isNameChar", "(CZ)Z"⟩ : MethodName) (head1 (Jvm.Cond.code (⟨"com/example/rowgraft/rowgraft/model/Parameter", "isNameChar", "(CZ)Z"⟩ : MethodName) prog_33_method_3_code 3 (some .boolean) :: ws) ({ frames := 1, cells := 0, slots := 0, locals := 12 } : Room)) (fun a U => a = #[(.int p1), (.int p2)] ∧ Z.Warmed39 U.vm ∧ U.heap = h0) (fun _ _ _ _ _ => True) (fun _ U o U' => ∃ v L, o = .returned v ∧ Q1 Z p1 p2 h0 n0 v U'.heap L ∧ FrameEnd U o U' L ({ frames := 1, cells := 0, slots := 0, locals := 12 } : Room).cells ({ frames := 1, cells := 0, slots := 0, locals := 12 } : Room).slots) := by
  refine MetFree.of_bodySF (plainFor_of_name pn_1) hisR ?_
  intro p e s m args below meth c s₁ Bd hml0 hP hK
  obtain ⟨rfl, hZ, hh⟩ := hP
  have hx := Bd.exec
  have hby := Bd.bytes
  have hml : c.maxLocals = 3 := hml0
  have hown : s.vm.findClass "com/example/rowgraft/rowgraft/model/Parameter" = some m.cls := findClass_of_methodNamed Bd.named
  have hnm := (name_of_methodNamed Bd.named Bd.method).1
  have X0 : Stand p l e ({ frames := 1, cells := 0, slots := 0, locals := 12 } : Room) s m #[(.int p1), (.int p2)] below meth c s₁ [] 0 0 := Stand.of_body Bd
  have e0 : s₁.heap = h0 := by rw [← hh, Bd.state]; rfl
  have N0 := Fr.nil n0
  have pre0 : ∀ t, Steps p.tables e below (s₁.setTop (mkF m 0 #[.val (.int p1), .val (.int p2), .unset] [])) t → Steps p.tables e below (s₁.setTop (entryFrame m #[(.int p1), (.int p2)] 3)) t := fun t k => castTop (ef_1 m p1 p2) k
  refine own_go pre0 ?_
  obtain ⟨lb, hlb, go1⟩ : ∃ lb : Int32, (lb = own_L p1) ∧ ∀ t, Steps p.tables e below (s₁.setTop (mkF m 35 #[.val (.int p1), .val (.int p2), .unset] [(.int lb)])) t → Steps p.tables e below (s₁.setTop (mkF m 0 #[.val (.int p1), .val (.int p2), .unset] [])) t := by
    have go2 : ∀ t, Steps p.tables e below (s₁.setTop (mkF m 3 #[.val (.int p1), .val (.int p2), .unset] [(.int (65 : Int32)), (.int p1)])) t → Steps p.tables e below (s₁.setTop (mkF m 0 #[.val (.int p1), .val (.int p2), .unset] [])) t := by
      intro t kt
      show Steps p.tables e below (s₁.setTop (mkF m 0 #[.val (.int p1), .val (.int p2), .unset] [])) _
      refine XS.iloadN X0.here hx rfl (hb hby d1_0) rfl ?_
      show Steps p.tables e below (s₁.setTop (mkF m 1 #[.val (.int p1), .val (.int p2), .unset] [(.int p1)])) _
      refine XS.bipush X0.here hx rfl (hb hby d1_1) ?_
      exact kt
    rcases Classical.em (p1 < (65 : Int32)) with hc3 | hc3
    · have go3 : ∀ t, Steps p.tables e below (s₁.setTop (mkF m 15 #[.val (.int p1), .val (.int p2), .unset] [(.int (97 : Int32)), (.int p1)])) t → Steps p.tables e below (s₁.setTop (mkF m 3 #[.val (.int p1), .val (.int p2), .unset] [(.int (65 : Int32)), (.int p1)])) t := by
        intro t kt
        show Steps p.tables e below (s₁.setTop (mkF m 3 #[.val (.int p1), .val (.int p2), .unset] [(.int (65 : Int32)), (.int p1)])) _
        refine XS.icmpYes X0.here hx rfl (pc0 := 3) (pc' := 12) rfl (hb hby d1_3) rfl (tlt hc3).1 (by decide) (by decide) ?_
        show Steps p.tables e below (s₁.setTop (mkF m 12 #[.val (.int p1), .val (.int p2), .unset] [])) _
        refine XS.iloadN X0.here hx rfl (hb hby d1_12) rfl ?_
        show Steps p.tables e below (s₁.setTop (mkF m 13 #[.val (.int p1), .val (.int p2), .unset] [(.int p1)])) _
        refine XS.bipush X0.here hx rfl (hb hby d1_13) ?_
        exact kt
      rcases Classical.em (p1 < (97 : Int32)) with hc15 | hc15
      · have go4 : ∀ t, Steps p.tables e below (s₁.setTop (mkF m 27 #[.val (.int p1), .val (.int p2), .unset] [(.int (95 : Int32)), (.int p1)])) t → Steps p.tables e below (s₁.setTop (mkF m 15 #[.val (.int p1), .val (.int p2), .unset] [(.int (97 : Int32)), (.int p1)])) t := by
          intro t kt
          show Steps p.tables e below (s₁.setTop (mkF m 15 #[.val (.int p1), .val (.int p2), .unset] [(.int (97 : Int32)), (.int p1)])) _
          refine XS.icmpYes X0.here hx rfl (pc0 := 15) (pc' := 24) rfl (hb hby d1_15) rfl (tlt hc15).1 (by decide) (by decide) ?_
          show Steps p.tables e below (s₁.setTop (mkF m 24 #[.val (.int p1), .val (.int p2), .unset] [])) _
          refine XS.iloadN X0.here hx rfl (hb hby d1_24) rfl ?_
          show Steps p.tables e below (s₁.setTop (mkF m 25 #[.val (.int p1), .val (.int p2), .unset] [(.int p1)])) _
          refine XS.bipush X0.here hx rfl (hb hby d1_25) ?_
          exact kt
        rcases Classical.em (p1 = (95 : Int32)) with hc27 | hc27
        · have go5 : ∀ t, Steps p.tables e below (s₁.setTop (mkF m 35 #[.val (.int p1), .val (.int p2), .unset] [(.int (1 : Int32))])) t → Steps p.tables e below (s₁.setTop (mkF m 27 #[.val (.int p1), .val (.int p2), .unset] [(.int (95 : Int32)), (.int p1)])) t := by
            intro t kt
            show Steps p.tables e below (s₁.setTop (mkF m 27 #[.val (.int p1), .val (.int p2), .unset] [(.int (95 : Int32)), (.int p1)])) _
            refine XS.icmpNo X0.here hx rfl (hb hby d1_27) rfl (teq hc27).2 ?_
            show Steps p.tables e below (s₁.setTop (mkF m 30 #[.val (.int p1), .val (.int p2), .unset] [])) _
            refine XS.iconst X0.here hx rfl (hb hby d1_30) ?_
            show Steps p.tables e below (s₁.setTop (mkF m 31 #[.val (.int p1), .val (.int p2), .unset] [(.int (1 : Int32))])) _
            refine XS.goto X0.here hx rfl (pc0 := 31) (pc' := 35) rfl (hb hby d1_31) (by decide) (by decide) ?_
            exact kt
          exact ⟨(1 : Int32), by first | (simp only [own_L, hc3, hc15, hc27, not_true_eq_false, not_false_eq_true, and_true, true_and, and_false, false_and, or_true, true_or, or_false, false_or, and_self, or_self, eq_self, if_true, if_false]; done) | (simp [own_L, hc3, hc15, hc27]; done), fun t kt => (go2 t (go3 t (go4 t (go5 t kt))))⟩
        · have go6 : ∀ t, Steps p.tables e below (s₁.setTop (mkF m 35 #[.val (.int p1), .val (.int p2), .unset] [(.int (0 : Int32))])) t → Steps p.tables e below (s₁.setTop (mkF m 27 #[.val (.int p1), .val (.int p2), .unset] [(.int (95 : Int32)), (.int p1)])) t := by
            intro t kt
            show Steps p.tables e below (s₁.setTop (mkF m 27 #[.val (.int p1), .val (.int p2), .unset] [(.int (95 : Int32)), (.int p1)])) _
            refine XS.icmpYes X0.here hx rfl (pc0 := 27) (pc' := 34) rfl (hb hby d1_27) rfl (feq hc27).2 (by decide) (by decide) ?_
            show Steps p.tables e below (s₁.setTop (mkF m 34 #[.val (.int p1), .val (.int p2), .unset] [])) _
            refine XS.iconst X0.here hx rfl (hb hby d1_34) ?_
            exact kt
          exact ⟨(0 : Int32), by first | (simp only [own_L, hc3, hc15, hc27, not_true_eq_false, not_false_eq_true, and_true, true_and, and_false, false_and, or_true, true_or, or_false, false_or, and_self, or_self, eq_self, if_true, if_false]; done) | (simp [own_L, hc3, hc15, hc27]; done), fun t kt => (go2 t (go3 t (go4 t (go6 t kt))))⟩
      · have go7 : ∀ t, Steps p.tables e below (s₁.setTop (mkF m 21 #[.val (.int p1), .val (.int p2), .unset] [(.int (122 : Int32)), (.int p1)])) t → Steps p.tables e below (s₁.setTop (mkF m 15 #[.val (.int p1), .val (.int p2), .unset] [(.int (97 : Int32)), (.int p1)])) t := by
          intro t kt
          show Steps p.tables e below (s₁.setTop (mkF m 15 #[.val (.int p1), .val (.int p2), .unset] [(.int (97 : Int32)), (.int p1)])) _
          refine XS.icmpNo X0.here hx rfl (hb hby d1_15) rfl (flt hc15).1 ?_
          show Steps p.tables e below (s₁.setTop (mkF m 18 #[.val (.int p1), .val (.int p2), .unset] [])) _
          refine XS.iloadN X0.here hx rfl (hb hby d1_18) rfl ?_
          show Steps p.tables e below (s₁.setTop (mkF m 19 #[.val (.int p1), .val (.int p2), .unset] [(.int p1)])) _
          refine XS.bipush X0.here hx rfl (hb hby d1_19) ?_
          exact kt
        rcases Classical.em ((122 : Int32) < p1) with hc21 | hc21
        · have go8 : ∀ t, Steps p.tables e below (s₁.setTop (mkF m 27 #[.val (.int p1), .val (.int p2), .unset] [(.int (95 : Int32)), (.int p1)])) t → Steps p.tables e below (s₁.setTop (mkF m 21 #[.val (.int p1), .val (.int p2), .unset] [(.int (122 : Int32)), (.int p1)])) t := by
            intro t kt
            show Steps p.tables e below (s₁.setTop (mkF m 21 #[.val (.int p1), .val (.int p2), .unset] [(.int (122 : Int32)), (.int p1)])) _
            refine XS.icmpNo X0.here hx rfl (hb hby d1_21) rfl (tlt hc21).2.2.2 ?_
            show Steps p.tables e below (s₁.setTop (mkF m 24 #[.val (.int p1), .val (.int p2), .unset] [])) _
            refine XS.iloadN X0.here hx rfl (hb hby d1_24) rfl ?_
            show Steps p.tables e below (s₁.setTop (mkF m 25 #[.val (.int p1), .val (.int p2), .unset] [(.int p1)])) _
            refine XS.bipush X0.here hx rfl (hb hby d1_25) ?_
            exact kt
          rcases Classical.em (p1 = (95 : Int32)) with hc27 | hc27
          · have go9 : ∀ t, Steps p.tables e below (s₁.setTop (mkF m 35 #[.val (.int p1), .val (.int p2), .unset] [(.int (1 : Int32))])) t → Steps p.tables e below (s₁.setTop (mkF m 27 #[.val (.int p1), .val (.int p2), .unset] [(.int (95 : Int32)), (.int p1)])) t := by
              intro t kt
              show Steps p.tables e below (s₁.setTop (mkF m 27 #[.val (.int p1), .val (.int p2), .unset] [(.int (95 : Int32)), (.int p1)])) _
              refine XS.icmpNo X0.here hx rfl (hb hby d1_27) rfl (teq hc27).2 ?_
              show Steps p.tables e below (s₁.setTop (mkF m 30 #[.val (.int p1), .val (.int p2), .unset] [])) _
              refine XS.iconst X0.here hx rfl (hb hby d1_30) ?_
              show Steps p.tables e below (s₁.setTop (mkF m 31 #[.val (.int p1), .val (.int p2), .unset] [(.int (1 : Int32))])) _
              refine XS.goto X0.here hx rfl (pc0 := 31) (pc' := 35) rfl (hb hby d1_31) (by decide) (by decide) ?_
              exact kt
            exact ⟨(1 : Int32), by first | (simp only [own_L, hc3, hc15, hc21, hc27, not_true_eq_false, not_false_eq_true, and_true, true_and, and_false, false_and, or_true, true_or, or_false, false_or, and_self, or_self, eq_self, if_true, if_false]; done) | (simp [own_L, hc3, hc15, hc21, hc27]; done), fun t kt => (go2 t (go3 t (go7 t (go8 t (go9 t kt)))))⟩
          · have go10 : ∀ t, Steps p.tables e below (s₁.setTop (mkF m 35 #[.val (.int p1), .val (.int p2), .unset] [(.int (0 : Int32))])) t → Steps p.tables e below (s₁.setTop (mkF m 27 #[.val (.int p1), .val (.int p2), .unset] [(.int (95 : Int32)), (.int p1)])) t := by
              intro t kt
              show Steps p.tables e below (s₁.setTop (mkF m 27 #[.val (.int p1), .val (.int p2), .unset] [(.int (95 : Int32)), (.int p1)])) _
              refine XS.icmpYes X0.here hx rfl (pc0 := 27) (pc' := 34) rfl (hb hby d1_27) rfl (feq hc27).2 (by decide) (by decide) ?_
              show Steps p.tables e below (s₁.setTop (mkF m 34 #[.val (.int p1), .val (.int p2), .unset] [])) _
              refine XS.iconst X0.here hx rfl (hb hby d1_34) ?_
              exact kt
            exact ⟨(0 : Int32), by first | (simp only [own_L, hc3, hc15, hc21, hc27, not_true_eq_false, not_false_eq_true, and_true, true_and, and_false, false_and, or_true, true_or, or_false, false_or, and_self, or_self, eq_self, if_true, if_false]; done) | (simp [own_L, hc3, hc15, hc21, hc27]; done), fun t kt => (go2 t (go3 t (go7 t (go8 t (go10 t kt)))))⟩
        · have go11 : ∀ t, Steps p.tables e below (s₁.setTop (mkF m 35 #[.val (.int p1), .val (.int p2), .unset] [(.int (1 : Int32))])) t → Steps p.tables e below (s₁.setTop (mkF m 21 #[.val (.int p1), .val (.int p2), .unset] [(.int (122 : Int32)), (.int p1)])) t := by
            intro t kt
            show Steps p.tables e below (s₁.setTop (mkF m 21 #[.val (.int p1), .val (.int p2), .unset] [(.int (122 : Int32)), (.int p1)])) _
            refine XS.icmpYes X0.here hx rfl (pc0 := 21) (pc' := 30) rfl (hb hby d1_21) rfl (flt hc21).2.2.2 (by decide) (by decide) ?_
            show Steps p.tables e below (s₁.setTop (mkF m 30 #[.val (.int p1), .val (.int p2), .unset] [])) _
            refine XS.iconst X0.here hx rfl (hb hby d1_30) ?_
            show Steps p.tables e below (s₁.setTop (mkF m 31 #[.val (.int p1), .val (.int p2), .unset] [(.int (1 : Int32))])) _
            refine XS.goto X0.here hx rfl (pc0 := 31) (pc' := 35) rfl (hb hby d1_31) (by decide) (by decide) ?_
            exact kt
          exact ⟨(1 : Int32), by first | (simp only [own_L, hc3, hc15, hc21, not_true_eq_false, not_false_eq_true, and_true, true_and, and_false, false_and, or_true, true_or, or_false, false_or, and_self, or_self, eq_self, if_true, if_false]; done) | (simp [own_L, hc3, hc15, hc21]; done), fun t kt => (go2 t (go3 t (go7 t (go11 t kt))))⟩
    · have go12 : ∀ t, Steps p.tables e below (s₁.setTop (mkF m 9 #[.val (.int p1), .val (.int p2), .unset] [(.int (90 : Int32)), (.int p1)])) t → Steps p.tables e below (s₁.setTop (mkF m 3 #[.val (.int p1), .val (.int p2), .unset] [(.int (65 : Int32)), (.int p1)])) t := by
        intro t kt
        show Steps p.tables e below (s₁.setTop (mkF m 3 #[.val (.int p1), .val (.int p2), .unset] [(.int (65 : Int32)), (.int p1)])) _
        refine XS.icmpNo X0.here hx rfl (hb hby d1_3) rfl (flt hc3).1 ?_
        show Steps p.tables e below (s₁.setTop (mkF m 6 #[.val (.int p1), .val (.int p2), .unset] [])) _
        refine XS.iloadN X0.here hx rfl (hb hby d1_6) rfl ?_
        show Steps p.tables e below (s₁.setTop (mkF m 7 #[.val (.int p1), .val (.int p2), .unset] [(.int p1)])) _
        refine XS.bipush X0.here hx rfl (hb hby d1_7) ?_
        exact kt
      rcases Classical.em ((90 : Int32) < p1) with hc9 | hc9
      · have go13 : ∀ t, Steps p.tables e below (s₁.setTop (mkF m 15 #[.val (.int p1), .val (.int p2), .unset] [(.int (97 : Int32)), (.int p1)])) t → Steps p.tables e below (s₁.setTop (mkF m 9 #[.val (.int p1), .val (.int p2), .unset] [(.int (90 : Int32)), (.int p1)])) t := by
          intro t kt
          show Steps p.tables e below (s₁.setTop (mkF m 9 #[.val (.int p1), .val (.int p2), .unset] [(.int (90 : Int32)), (.int p1)])) _
          refine XS.icmpNo X0.here hx rfl (hb hby d1_9) rfl (tlt hc9).2.2.2 ?_
          show Steps p.tables e below (s₁.setTop (mkF m 12 #[.val (.int p1), .val (.int p2), .unset] [])) _
          refine XS.iloadN X0.here hx rfl (hb hby d1_12) rfl ?_
          show Steps p.tables e below (s₁.setTop (mkF m 13 #[.val (.int p1), .val (.int p2), .unset] [(.int p1)])) _
          refine XS.bipush X0.here hx rfl (hb hby d1_13) ?_
          exact kt
        rcases Classical.em (p1 < (97 : Int32)) with hc15 | hc15
        · have go14 : ∀ t, Steps p.tables e below (s₁.setTop (mkF m 27 #[.val (.int p1), .val (.int p2), .unset] [(.int (95 : Int32)), (.int p1)])) t → Steps p.tables e below (s₁.setTop (mkF m 15 #[.val (.int p1), .val (.int p2), .unset] [(.int (97 : Int32)), (.int p1)])) t := by
            intro t kt
            show Steps p.tables e below (s₁.setTop (mkF m 15 #[.val (.int p1), .val (.int p2), .unset] [(.int (97 : Int32)), (.int p1)])) _
            refine XS.icmpYes X0.here hx rfl (pc0 := 15) (pc' := 24) rfl (hb hby d1_15) rfl (tlt hc15).1 (by decide) (by decide) ?_
            show Steps p.tables e below (s₁.setTop (mkF m 24 #[.val (.int p1), .val (.int p2), .unset] [])) _
            refine XS.iloadN X0.here hx rfl (hb hby d1_24) rfl ?_
            show Steps p.tables e below (s₁.setTop (mkF m 25 #[.val (.int p1), .val (.int p2), .unset] [(.int p1)])) _
            refine XS.bipush X0.here hx rfl (hb hby d1_25) ?_
            exact kt
          rcases Classical.em (p1 = (95 : Int32)) with hc27 | hc27
          · have go15 : ∀ t, Steps p.tables e below (s₁.setTop (mkF m 35 #[.val (.int p1), .val (.int p2), .unset] [(.int (1 : Int32))])) t → Steps p.tables e below (s₁.setTop (mkF m 27 #[.val (.int p1), .val (.int p2), .unset] [(.int (95 : Int32)), (.int p1)])) t := by
              intro t kt
              show Steps p.tables e below (s₁.setTop (mkF m 27 #[.val (.int p1), .val (.int p2), .unset] [(.int (95 : Int32)), (.int p1)])) _
              refine XS.icmpNo X0.here hx rfl (hb hby d1_27) rfl (teq hc27).2 ?_
              show Steps p.tables e below (s₁.setTop (mkF m 30 #[.val (.int p1), .val (.int p2), .unset] [])) _
              refine XS.iconst X0.here hx rfl (hb hby d1_30) ?_
              show Steps p.tables e below (s₁.setTop (mkF m 31 #[.val (.int p1), .val (.int p2), .unset] [(.int (1 : Int32))])) _
              refine XS.goto X0.here hx rfl (pc0 := 31) (pc' := 35) rfl (hb hby d1_31) (by decide) (by decide) ?_
              exact kt
            exact ⟨(1 : Int32), by first | (simp only [own_L, hc3, hc9, hc15, hc27, not_true_eq_false, not_false_eq_true, and_true, true_and, and_false, false_and, or_true, true_or, or_false, false_or, and_self, or_self, eq_self, if_true, if_false]; done) | (simp [own_L, hc3, hc9, hc15, hc27]; done), fun t kt => (go2 t (go12 t (go13 t (go14 t (go15 t kt)))))⟩
          · have go16 : ∀ t, Steps p.tables e below (s₁.setTop (mkF m 35 #[.val (.int p1), .val (.int p2), .unset] [(.int (0 : Int32))])) t → Steps p.tables e below (s₁.setTop (mkF m 27 #[.val (.int p1), .val (.int p2), .unset] [(.int (95 : Int32)), (.int p1)])) t := by
              intro t kt
              show Steps p.tables e below (s₁.setTop (mkF m 27 #[.val (.int p1), .val (.int p2), .unset] [(.int (95 : Int32)), (.int p1)])) _
              refine XS.icmpYes X0.here hx rfl (pc0 := 27) (pc' := 34) rfl (hb hby d1_27) rfl (feq hc27).2 (by decide) (by decide) ?_
              show Steps p.tables e below (s₁.setTop (mkF m 34 #[.val (.int p1), .val (.int p2), .unset] [])) _
              refine XS.iconst X0.here hx rfl (hb hby d1_34) ?_
              exact kt
            exact ⟨(0 : Int32), by first | (simp only [own_L, hc3, hc9, hc15, hc27, not_true_eq_false, not_false_eq_true, and_true, true_and, and_false, false_and, or_true, true_or, or_false, false_or, and_self, or_self, eq_self, if_true, if_false]; done) | (simp [own_L, hc3, hc9, hc15, hc27]; done), fun t kt => (go2 t (go12 t (go13 t (go14 t (go16 t kt)))))⟩
        · have go17 : ∀ t, Steps p.tables e below (s₁.setTop (mkF m 21 #[.val (.int p1), .val (.int p2), .unset] [(.int (122 : Int32)), (.int p1)])) t → Steps p.tables e below (s₁.setTop (mkF m 15 #[.val (.int p1), .val (.int p2), .unset] [(.int (97 : Int32)), (.int p1)])) t := by
            intro t kt
            show Steps p.tables e below (s₁.setTop (mkF m 15 #[.val (.int p1), .val (.int p2), .unset] [(.int (97 : Int32)), (.int p1)])) _
            refine XS.icmpNo X0.here hx rfl (hb hby d1_15) rfl (flt hc15).1 ?_
            show Steps p.tables e below (s₁.setTop (mkF m 18 #[.val (.int p1), .val (.int p2), .unset] [])) _
            refine XS.iloadN X0.here hx rfl (hb hby d1_18) rfl ?_
            show Steps p.tables e below (s₁.setTop (mkF m 19 #[.val (.int p1), .val (.int p2), .unset] [(.int p1)])) _
            refine XS.bipush X0.here hx rfl (hb hby d1_19) ?_
            exact kt
          rcases Classical.em ((122 : Int32) < p1) with hc21 | hc21
          · have go18 : ∀ t, Steps p.tables e below (s₁.setTop (mkF m 27 #[.val (.int p1), .val (.int p2), .unset] [(.int (95 : Int32)), (.int p1)])) t → Steps p.tables e below (s₁.setTop (mkF m 21 #[.val (.int p1), .val (.int p2), .unset] [(.int (122 : Int32)), (.int p1)])) t := by
              intro t kt
              show Steps p.tables e below (s₁.setTop (mkF m 21 #[.val (.int p1), .val (.int p2), .unset] [(.int (122 : Int32)), (.int p1)])) _
              refine XS.icmpNo X0.here hx rfl (hb hby d1_21) rfl (tlt hc21).2.2.2 ?_
              show Steps p.tables e below (s₁.setTop (mkF m 24 #[.val (.int p1), .val (.int p2), .unset] [])) _
              refine XS.iloadN X0.here hx rfl (hb hby d1_24) rfl ?_
              show Steps p.tables e below (s₁.setTop (mkF m 25 #[.val (.int p1), .val (.int p2), .unset] [(.int p1)])) _
              refine XS.bipush X0.here hx rfl (hb hby d1_25) ?_
              exact kt
            rcases Classical.em (p1 = (95 : Int32)) with hc27 | hc27
            · have go19 : ∀ t, Steps p.tables e below (s₁.setTop (mkF m 35 #[.val (.int p1), .val (.int p2), .unset] [(.int (1 : Int32))])) t → Steps p.tables e below (s₁.setTop (mkF m 27 #[.val (.int p1), .val (.int p2), .unset] [(.int (95 : Int32)), (.int p1)])) t := by
                intro t kt
                show Steps p.tables e below (s₁.setTop (mkF m 27 #[.val (.int p1), .val (.int p2), .unset] [(.int (95 : Int32)), (.int p1)])) _
                refine XS.icmpNo X0.here hx rfl (hb hby d1_27) rfl (teq hc27).2 ?_
                show Steps p.tables e below (s₁.setTop (mkF m 30 #[.val (.int p1), .val (.int p2), .unset] [])) _
                refine XS.iconst X0.here hx rfl (hb hby d1_30) ?_
                show Steps p.tables e below (s₁.setTop (mkF m 31 #[.val (.int p1), .val (.int p2), .unset] [(.int (1 : Int32))])) _
                refine XS.goto X0.here hx rfl (pc0 := 31) (pc' := 35) rfl (hb hby d1_31) (by decide) (by decide) ?_
                exact kt
              exact ⟨(1 : Int32), by first | (simp only [own_L, hc3, hc9, hc15, hc21, hc27, not_true_eq_false, not_false_eq_true, and_true, true_and, and_false, false_and, or_true, true_or, or_false, false_or, and_self, or_self, eq_self, if_true, if_false]; done) | (simp [own_L, hc3, hc9, hc15, hc21, hc27]; done), fun t kt => (go2 t (go12 t (go13 t (go17 t (go18 t (go19 t kt))))))⟩
            · have go20 : ∀ t, Steps p.tables e below (s₁.setTop (mkF m 35 #[.val (.int p1), .val (.int p2), .unset] [(.int (0 : Int32))])) t → Steps p.tables e below (s₁.setTop (mkF m 27 #[.val (.int p1), .val (.int p2), .unset] [(.int (95 : Int32)), (.int p1)])) t := by
                intro t kt
                show Steps p.tables e below (s₁.setTop (mkF m 27 #[.val (.int p1), .val (.int p2), .unset] [(.int (95 : Int32)), (.int p1)])) _
                refine XS.icmpYes X0.here hx rfl (pc0 := 27) (pc' := 34) rfl (hb hby d1_27) rfl (feq hc27).2 (by decide) (by decide) ?_
                show Steps p.tables e below (s₁.setTop (mkF m 34 #[.val (.int p1), .val (.int p2), .unset] [])) _
                refine XS.iconst X0.here hx rfl (hb hby d1_34) ?_
                exact kt
              exact ⟨(0 : Int32), by first | (simp only [own_L, hc3, hc9, hc15, hc21, hc27, not_true_eq_false, not_false_eq_true, and_true, true_and, and_false, false_and, or_true, true_or, or_false, false_or, and_self, or_self, eq_self, if_true, if_false]; done) | (simp [own_L, hc3, hc9, hc15, hc21, hc27]; done), fun t kt => (go2 t (go12 t (go13 t (go17 t (go18 t (go20 t kt))))))⟩
          · have go21 : ∀ t, Steps p.tables e below (s₁.setTop (mkF m 35 #[.val (.int p1), .val (.int p2), .unset] [(.int (1 : Int32))])) t → Steps p.tables e below (s₁.setTop (mkF m 21 #[.val (.int p1), .val (.int p2), .unset] [(.int (122 : Int32)), (.int p1)])) t := by
              intro t kt
              show Steps p.tables e below (s₁.setTop (mkF m 21 #[.val (.int p1), .val (.int p2), .unset] [(.int (122 : Int32)), (.int p1)])) _
              refine XS.icmpYes X0.here hx rfl (pc0 := 21) (pc' := 30) rfl (hb hby d1_21) rfl (flt hc21).2.2.2 (by decide) (by decide) ?_
              show Steps p.tables e below (s₁.setTop (mkF m 30 #[.val (.int p1), .val (.int p2), .unset] [])) _
              refine XS.iconst X0.here hx rfl (hb hby d1_30) ?_
              show Steps p.tables e below (s₁.setTop (mkF m 31 #[.val (.int p1), .val (.int p2), .unset] [(.int (1 : Int32))])) _
              refine XS.goto X0.here hx rfl (pc0 := 31) (pc' := 35) rfl (hb hby d1_31) (by decide) (by decide) ?_
              exact kt
            exact ⟨(1 : Int32), by first | (simp only [own_L, hc3, hc9, hc15, hc21, not_true_eq_false, not_false_eq_true, and_true, true_and, and_false, false_and, or_true, true_or, or_false, false_or, and_self, or_self, eq_self, if_true, if_false]; done) | (simp [own_L, hc3, hc9, hc15, hc21]; done), fun t kt => (go2 t (go12 t (go13 t (go17 t (go21 t kt)))))⟩
      · have go22 : ∀ t, Steps p.tables e below (s₁.setTop (mkF m 35 #[.val (.int p1), .val (.int p2), .unset] [(.int (1 : Int32))])) t → Steps p.tables e below (s₁.setTop (mkF m 9 #[.val (.int p1), .val (.int p2), .unset] [(.int (90 : Int32)), (.int p1)])) t := by
          intro t kt
          show Steps p.tables e below (s₁.setTop (mkF m 9 #[.val (.int p1), .val (.int p2), .unset] [(.int (90 : Int32)), (.int p1)])) _
          refine XS.icmpYes X0.here hx rfl (pc0 := 9) (pc' := 30) rfl (hb hby d1_9) rfl (flt hc9).2.2.2 (by decide) (by decide) ?_
          show Steps p.tables e below (s₁.setTop (mkF m 30 #[.val (.int p1), .val (.int p2), .unset] [])) _
          refine XS.iconst X0.here hx rfl (hb hby d1_30) ?_
          show Steps p.tables e below (s₁.setTop (mkF m 31 #[.val (.int p1), .val (.int p2), .unset] [(.int (1 : Int32))])) _
          refine XS.goto X0.here hx rfl (pc0 := 31) (pc' := 35) rfl (hb hby d1_31) (by decide) (by decide) ?_
          exact kt
        exact ⟨(1 : Int32), by first | (simp only [own_L, hc3, hc9, not_true_eq_false, not_false_eq_true, and_true, true_and, and_false, false_and, or_true, true_or, or_false, false_or, and_self, or_self, eq_self, if_true, if_false]; done) | (simp [own_L, hc3, hc9]; done), fun t kt => (go2 t (go12 t (go22 t kt)))⟩
  refine own_go go1 ?_
  have go23 : ∀ t, Steps p.tables e below (s₁.setTop (mkF m 37 #[.val (.int p1), .val (.int p2), .val (.int lb)] [(.int lb)])) t → Steps p.tables e below (s₁.setTop (mkF m 35 #[.val (.int p1), .val (.int p2), .unset] [(.int lb)])) t := by
    intro t kt
    show Steps p.tables e below (s₁.setTop (mkF m 35 #[.val (.int p1), .val (.int p2), .unset] [(.int lb)])) _
    refine XS.istoreN X0.here hx rfl (hb hby d1_35) rfl (l' := #[.val (.int p1), .val (.int p2), .val (.int lb)]) rfl ?_
    show Steps p.tables e below (s₁.setTop (mkF m 36 #[.val (.int p1), .val (.int p2), .val (.int lb)] [])) _
    refine XS.iloadN X0.here hx rfl (hb hby d1_36) rfl ?_
    exact kt
  refine own_go go23 ?_
  rcases Classical.em (lb = (0 : Int32)) with hc37 | hc37
  · have go24 : ∀ t, Steps p.tables e below (s₁.setTop (mkF m 41 #[.val (.int p1), .val (.int p2), .val (.int lb)] [(.int p2)])) t → Steps p.tables e below (s₁.setTop (mkF m 37 #[.val (.int p1), .val (.int p2), .val (.int lb)] [(.int lb)])) t := by
      intro t kt
      show Steps p.tables e below (s₁.setTop (mkF m 37 #[.val (.int p1), .val (.int p2), .val (.int lb)] [(.int lb)])) _
      refine XS.ifNo X0.here hx rfl (hb hby d1_37) rfl ((if0 _ _).trans (teq hc37).2) ?_
      show Steps p.tables e below (s₁.setTop (mkF m 40 #[.val (.int p1), .val (.int p2), .val (.int lb)] [])) _
      refine XS.iloadN X0.here hx rfl (hb hby d1_40) rfl ?_
      exact kt
    refine own_go go24 ?_
    rcases Classical.em (p2 = (0 : Int32)) with hc41 | hc41
    · have go25 : ∀ t, Steps p.tables e below (s₁.setTop (mkF m 45 #[.val (.int p1), .val (.int p2), .val (.int lb)] [(.int p1)])) t → Steps p.tables e below (s₁.setTop (mkF m 41 #[.val (.int p1), .val (.int p2), .val (.int lb)] [(.int p2)])) t := by
        intro t kt
        show Steps p.tables e below (s₁.setTop (mkF m 41 #[.val (.int p1), .val (.int p2), .val (.int lb)] [(.int p2)])) _
        refine XS.ifNo X0.here hx rfl (hb hby d1_41) rfl ((if0 _ _).trans (teq hc41).2) ?_
        show Steps p.tables e below (s₁.setTop (mkF m 44 #[.val (.int p1), .val (.int p2), .val (.int lb)] [])) _
        refine XS.iloadN X0.here hx rfl (hb hby d1_44) rfl ?_
        exact kt
      refine own_go go25 ?_
      obtain ⟨_, _, ⟨T26, L26, k26, n26⟩, -, X26, ⟨Lc26, hQ26, l26, y26, z26⟩, st26⟩ := Jvm.LawKit.callS X0 hx (y := (⟨"com/example/rowgraft/rowgraft/model/Parameter", "isDigit", "(C)Z"⟩ : MethodName)) hown (mvT hZ (hw _ (List.mem_of_getElem? (i := 4) rfl))) (mvT hZ (hw _ (List.mem_of_getElem? (i := 5) rfl))) (mvT hZ (hw _ (List.mem_of_getElem? (i := 2) rfl))) (mvT hZ (hw _ (List.mem_of_getElem? (i := 6) rfl))) (by decide) (backOf (W := 0) (rm2 l Z a0 hw [] p1 h0 n0 Z0) hZ (hw _ (List.mem_of_getElem? (i := 6) rfl)) (hw _ (List.mem_of_getElem? (i := 2) rfl)) (by decide) (by decide)) (g := (mkF m 45 #[.val (.int p1), .val (.int p2), .val (.int lb)] [(.int p1)])) rfl (by rw [hml]; rfl) (argsL := [(.int p1)]) (rest := []) (lenOf pd_0 rfl) rfl (by show 2 * 0 + _ ≤ _; exact Nat.le_of_eq rfl) (hb hby d1_45) (fun _ _ => ⟨rfl, e0, (by decide : 0 + 0 ≤ _), (by decide : 0 + 0 ≤ _)⟩)
      dsimp only [Pt.U, Pt.locs, Pt.cells, Pt.slots] at X26 l26 y26 z26 st26 hQ26
      subst l26 y26 z26
      obtain ⟨rfl, N26q, e_a⟩ := hQ26
      have N26 := Fr.app N0 N26q
      refine own_go (S' := T26.setTop (mkF m 48 #[.val (.int p1), .val (.int p2), .val (.int lb)] [(.int (own_D p1))])) st26 ?_
      rcases Classical.em ((own_D p1) = (0 : Int32)) with hc48 | hc48
      · have go27 : ∀ t, Steps p.tables e below (T26.setTop (mkF m 56 #[.val (.int p1), .val (.int p2), .val (.int lb)] [(.int (0 : Int32))])) t → Steps p.tables e below (T26.setTop (mkF m 48 #[.val (.int p1), .val (.int p2), .val (.int lb)] [(.int (own_D p1))])) t := by
          intro t kt
          show Steps p.tables e below (T26.setTop (mkF m 48 #[.val (.int p1), .val (.int p2), .val (.int lb)] [(.int (own_D p1))])) _
          refine XS.ifYes X26.here hx rfl (pc0 := 48) (pc' := 55) rfl (hb hby d1_48) rfl ((if0 _ _).trans (teq hc48).1) (by decide) (by decide) ?_
          show Steps p.tables e below (T26.setTop (mkF m 55 #[.val (.int p1), .val (.int p2), .val (.int lb)] [])) _
          refine XS.iconst X26.here hx rfl (hb hby d1_55) ?_
          exact kt
        refine own_go go27 ?_
        obtain ⟨fs, hr, hrun, hended, hW, hsame⟩ := X26.leave (v := some (.int (0 : Int32))) (fun h => by rw [Bd.returns] at h; cases h)
        refine ⟨_, _, retN X26 hx (t := .boolean) Bd.returns (by simp) (hb hby d1_56) hr, hrun, hended, _, _, rfl, ?_, ⟨_, rfl⟩, hW, hsame.mono (by decide) (by decide)⟩
        show Q1 Z p1 p2 h0 n0 _ T26.heap _
        rw [e_a]
        exact ⟨congrArg (fun z => some (Value.int z)) (show (0 : Int32) = own_N p1 p2 from by first | (simp only [own_N, hc37, hc41, hc48, ← hlb, not_true_eq_false, not_false_eq_true, and_true, true_and, and_false, false_and, or_true, true_or, or_false, false_or, and_self, or_self, eq_self, if_true, if_false]; done) | (simp [own_N, hc37, hc41, hc48, ← hlb]; done)), N26, rfl⟩
      · have go28 : ∀ t, Steps p.tables e below (T26.setTop (mkF m 56 #[.val (.int p1), .val (.int p2), .val (.int lb)] [(.int (1 : Int32))])) t → Steps p.tables e below (T26.setTop (mkF m 48 #[.val (.int p1), .val (.int p2), .val (.int lb)] [(.int (own_D p1))])) t := by
          intro t kt
          show Steps p.tables e below (T26.setTop (mkF m 48 #[.val (.int p1), .val (.int p2), .val (.int lb)] [(.int (own_D p1))])) _
          refine XS.ifNo X26.here hx rfl (hb hby d1_48) rfl ((if0 _ _).trans (feq hc48).1) ?_
          show Steps p.tables e below (T26.setTop (mkF m 51 #[.val (.int p1), .val (.int p2), .val (.int lb)] [])) _
          refine XS.iconst X26.here hx rfl (hb hby d1_51) ?_
          show Steps p.tables e below (T26.setTop (mkF m 52 #[.val (.int p1), .val (.int p2), .val (.int lb)] [(.int (1 : Int32))])) _
          refine XS.goto X26.here hx rfl (pc0 := 52) (pc' := 56) rfl (hb hby d1_52) (by decide) (by decide) ?_
          exact kt
        refine own_go go28 ?_
        obtain ⟨fs, hr, hrun, hended, hW, hsame⟩ := X26.leave (v := some (.int (1 : Int32))) (fun h => by rw [Bd.returns] at h; cases h)
        refine ⟨_, _, retN X26 hx (t := .boolean) Bd.returns (by simp) (hb hby d1_56) hr, hrun, hended, _, _, rfl, ?_, ⟨_, rfl⟩, hW, hsame.mono (by decide) (by decide)⟩
        show Q1 Z p1 p2 h0 n0 _ T26.heap _
        rw [e_a]
        exact ⟨congrArg (fun z => some (Value.int z)) (show (1 : Int32) = own_N p1 p2 from by first | (simp only [own_N, hc37, hc41, hc48, ← hlb, not_true_eq_false, not_false_eq_true, and_true, true_and, and_false, false_and, or_true, true_or, or_false, false_or, and_self, or_self, eq_self, if_true, if_false]; done) | (simp [own_N, hc37, hc41, hc48, ← hlb]; done)), N26, rfl⟩
    · have go29 : ∀ t, Steps p.tables e below (s₁.setTop (mkF m 56 #[.val (.int p1), .val (.int p2), .val (.int lb)] [(.int (0 : Int32))])) t → Steps p.tables e below (s₁.setTop (mkF m 41 #[.val (.int p1), .val (.int p2), .val (.int lb)] [(.int p2)])) t := by
        intro t kt
        show Steps p.tables e below (s₁.setTop (mkF m 41 #[.val (.int p1), .val (.int p2), .val (.int lb)] [(.int p2)])) _
        refine XS.ifYes X0.here hx rfl (pc0 := 41) (pc' := 55) rfl (hb hby d1_41) rfl ((if0 _ _).trans (feq hc41).2) (by decide) (by decide) ?_
        show Steps p.tables e below (s₁.setTop (mkF m 55 #[.val (.int p1), .val (.int p2), .val (.int lb)] [])) _
        refine XS.iconst X0.here hx rfl (hb hby d1_55) ?_
        exact kt
      refine own_go go29 ?_
      obtain ⟨fs, hr, hrun, hended, hW, hsame⟩ := X0.leave (v := some (.int (0 : Int32))) (fun h => by rw [Bd.returns] at h; cases h)
      refine ⟨_, _, retN X0 hx (t := .boolean) Bd.returns (by simp) (hb hby d1_56) hr, hrun, hended, _, _, rfl, ?_, ⟨_, rfl⟩, hW, hsame.mono (by decide) (by decide)⟩
      show Q1 Z p1 p2 h0 n0 _ s₁.heap _
      rw [e0]
      exact ⟨congrArg (fun z => some (Value.int z)) (show (0 : Int32) = own_N p1 p2 from by first | (simp only [own_N, hc37, hc41, ← hlb, not_true_eq_false, not_false_eq_true, and_true, true_and, and_false, false_and, or_true, true_or, or_false, false_or, and_self, or_self, eq_self, if_true, if_false]; done) | (simp [own_N, hc37, hc41, ← hlb]; done)), N0, rfl⟩
  · have go30 : ∀ t, Steps p.tables e below (s₁.setTop (mkF m 56 #[.val (.int p1), .val (.int p2), .val (.int lb)] [(.int (1 : Int32))])) t → Steps p.tables e below (s₁.setTop (mkF m 37 #[.val (.int p1), .val (.int p2), .val (.int lb)] [(.int lb)])) t := by
      intro t kt
      show Steps p.tables e below (s₁.setTop (mkF m 37 #[.val (.int p1), .val (.int p2), .val (.int lb)] [(.int lb)])) _
      refine XS.ifYes X0.here hx rfl (pc0 := 37) (pc' := 51) rfl (hb hby d1_37) rfl ((if0 _ _).trans (feq hc37).2) (by decide) (by decide) ?_
      show Steps p.tables e below (s₁.setTop (mkF m 51 #[.val (.int p1), .val (.int p2), .val (.int lb)] [])) _
      refine XS.iconst X0.here hx rfl (hb hby d1_51) ?_
      show Steps p.tables e below (s₁.setTop (mkF m 52 #[.val (.int p1), .val (.int p2), .val (.int lb)] [(.int (1 : Int32))])) _
      refine XS.goto X0.here hx rfl (pc0 := 52) (pc' := 56) rfl (hb hby d1_52) (by decide) (by decide) ?_
      exact kt
    refine own_go go30 ?_
    obtain ⟨fs, hr, hrun, hended, hW, hsame⟩ := X0.leave (v := some (.int (1 : Int32))) (fun h => by rw [Bd.returns] at h; cases h)
    refine ⟨_, _, retN X0 hx (t := .boolean) Bd.returns (by simp) (hb hby d1_56) hr, hrun, hended, _, _, rfl, ?_, ⟨_, rfl⟩, hW, hsame.mono (by decide) (by decide)⟩
    show Q1 Z p1 p2 h0 n0 _ s₁.heap _
    rw [e0]
    exact ⟨congrArg (fun z => some (Value.int z)) (show (1 : Int32) = own_N p1 p2 from by first | (simp only [own_N, hc37, ← hlb, not_true_eq_false, not_false_eq_true, and_true, true_and, and_false, false_and, or_true, true_or, or_false, false_or, and_self, or_self, eq_self, if_true, if_false]; done) | (simp [own_N, hc37, ← hlb]; done)), N0, rfl⟩
theorem own_or32 (n : Nat) : n ||| 32 = if n / 32 % 2 = 1 then n else n + 32 := by
  have h1 : n = 64 * (n / 64) + n % 64 := by omega
  have h2 : ∀ k : Fin 64, k.val ||| 32 = if k.val / 32 % 2 = 1 then k.val else k.val + 32 := by decide +kernel
  have h3 := h2 ⟨n % 64, Nat.mod_lt _ (by decide)⟩
  have h4 : n ||| 32 = 64 * (n / 64) + (n % 64 ||| 32) := by
    rw [show (64 : Nat) = 2 ^ 6 from rfl]
    have h5 : n = 2 ^ 6 * (n / 2 ^ 6) ||| n % 2 ^ 6 := by
      rw [← Nat.two_pow_add_eq_or_of_lt (Nat.mod_lt _ (by decide))]; omega
    have h6 : n % 2 ^ 6 ||| 32 < 2 ^ 6 := Nat.or_lt_two_pow (Nat.mod_lt _ (by decide)) (by decide)
    rw [Nat.two_pow_add_eq_or_of_lt h6, ← Nat.or_assoc, ← h5]
  simp only at h3
  rw [h4, h3]
  split <;> split <;> omega
theorem own_or (p : Int32) : (p ||| 32).toInt = if (p.toInt % 4294967296) / 32 % 2 = 1 then p.toInt else p.toInt + 32 := by
  have h1 : (p ||| 32).toBitVec.toNat = p.toBitVec.toNat ||| 32 := by
    show (p.toBitVec ||| (32 : Int32).toBitVec).toNat = _
    rw [BitVec.toNat_or]; rfl
  have h2 := p.toBitVec.isLt
  rw [own_or32] at h1
  show (p ||| 32).toBitVec.toInt = if (p.toBitVec.toInt % 4294967296) / 32 % 2 = 1 then p.toBitVec.toInt else p.toBitVec.toInt + 32
  have h3 := (p ||| 32).toBitVec.isLt
  rw [BitVec.toInt_eq_toNat_cond, BitVec.toInt_eq_toNat_cond]
  split at h1 <;> split <;> split <;> split <;> omega
def own_letter (k : Int32) : Int32 := if (¬ (k ||| (32 : Int32)) < (97 : Int32) ∧ ¬ (122 : Int32) < (k ||| (32 : Int32))) ∨ k = (95 : Int32) then 1 else 0
def own_digit (k : Int32) : Int32 := if ¬ (k - (48 : Int32)) < (0 : Int32) ∧ (k - (48 : Int32)) < (10 : Int32) then 1 else 0
def own_X (lt f dg : Int32) : Int32 := if ¬ lt = (0 : Int32) ∨ (f = (0 : Int32) ∧ ¬ dg = (0 : Int32)) then 1 else 0
theorem own_LL (k : Int32) (h : 0 ≤ k.toInt ∧ k.toInt < 65536) : own_L k = own_letter k := by
  have o := own_or k
  simp only [own_L, own_letter, Int32.lt_iff_toInt_lt, ← Int32.toInt_inj, show (97 : Int32).toInt = 97 from rfl, show (122 : Int32).toInt = 122 from rfl, show (65 : Int32).toInt = 65 from rfl, show (90 : Int32).toInt = 90 from rfl, show (95 : Int32).toInt = 95 from rfl, show (1 : Int32).toInt = 1 from rfl, show (0 : Int32).toInt = 0 from rfl]
  generalize (k ||| 32).toInt = f at *
  split at o <;> split <;> split <;> first | rfl | omega
theorem own_DD (k : Int32) (h : 0 ≤ k.toInt ∧ k.toInt < 65536) : own_D k = own_digit k := by
  have o := c_isub k 48
  have r := rng32 (k - 48)
  rw [show (48 : Int32).toInt = 48 from rfl] at o
  simp only [own_D, own_digit, Int32.lt_iff_toInt_lt, show (48 : Int32).toInt = 48 from rfl, show (57 : Int32).toInt = 57 from rfl, show (0 : Int32).toInt = 0 from rfl, show (10 : Int32).toInt = 10 from rfl]
  generalize (k - 48).toInt = f at *
  split <;> split <;> first | rfl | omega
theorem own_NE (k f : Int32) (h : 0 ≤ k.toInt ∧ k.toInt < 65536) : own_N k f = own_X (own_letter k) f (own_digit k) := by
  simp only [own_N, own_X, own_LL k h, own_DD k h]
theorem pn_0 : plainName "com/example/rowgraft/rowgraft/model/ParameterIsNameCharPinLaw" = true := by first | (simp [plainName, overriddenIn]; done) | decide +kernel
theorem ef_0 (m : MethodId) (x0 : Int32) (x1 : Int32) : entryFrame m #[(.int x0), (.int x1)] maxLocals = mkF m 0 #[.val (.int x0), .val (.int x1), .unset, .unset, .unset, .unset, .unset, .unset, .unset, .unset] [] := by first | (simp [entryFrame, mkF, argsToLocals, Value.category, maxLocals]; done) | rfl
def Q0 (Z : State) (h0 : Heap) (n0 : Nat) (v : Option Value) (h : Heap) (L : List Loc) : Prop := v = some (.int (1 : Int32)) ∧ Fr n0 L
set_option maxRecDepth 65536 in
set_option maxHeartbeats 40000000 in
theorem rm0 (l : Launch) (Z : State) (a0 : Array Value) (hw : ∀ d ∈ tables_1, d.before a0 Z = true) (ws : List Jvm.Cond) (p1 : Int32) (p2 : Int32) (h0 : Heap) (n0 : Nat) (Z0 : n0 ≤ h0.size) :
    MetFree l x (head1 (Jvm.Cond.code x code maxLocals ret :: ws) room_1) (fun a U => a = #[(.int p1), (.int p2)] ∧ Z.Warmed39 U.vm ∧ U.heap = h0) (fun _ _ _ _ _ => True) (fun _ U o U' => ∃ v L, o = .returned v ∧ Q0 Z  h0 n0 v U'.heap L ∧ FrameEnd U o U' L room_1.cells room_1.slots) := by
  refine MetFree.of_bodySF (plainFor_of_name pn_0) hisR ?_
  intro p e s m args below meth c s₁ Bd hml0 hP hK
  obtain ⟨rfl, hZ, hh⟩ := hP
  have hx := Bd.exec
  have hby := Bd.bytes
  have hml : c.maxLocals = 10 := hml0
  have hown : s.vm.findClass "com/example/rowgraft/rowgraft/model/ParameterIsNameCharPinLaw" = some m.cls := findClass_of_methodNamed Bd.named
  have hnm := (name_of_methodNamed Bd.named Bd.method).1
  have X0 : Stand p l e room_1 s m #[(.int p1), (.int p2)] below meth c s₁ [] 0 0 := Stand.of_body Bd
  have e0 : s₁.heap = h0 := by rw [← hh, Bd.state]; rfl
  have N0 := Fr.nil n0
  have pre0 : ∀ t, Steps p.tables e below (s₁.setTop (mkF m 0 #[.val (.int p1), .val (.int p2), .unset, .unset, .unset, .unset, .unset, .unset, .unset, .unset] [])) t → Steps p.tables e below (s₁.setTop (entryFrame m #[(.int p1), (.int p2)] maxLocals)) t := fun t k => castTop (ef_0 m p1 p2) k
  refine own_go pre0 ?_
  obtain ⟨k, hk, go1⟩ : ∃ k : Int32, (0 ≤ k.toInt ∧ k.toInt < 65536) ∧ ∀ t, Steps p.tables e below (s₁.setTop (mkF m 3 #[.val (.int p1), .val (.int p2), .val (.int k), .unset, .unset, .unset, .unset, .unset, .unset, .unset] [])) t → Steps p.tables e below (s₁.setTop (mkF m 0 #[.val (.int p1), .val (.int p2), .unset, .unset, .unset, .unset, .unset, .unset, .unset, .unset] [])) t := by
    have go2 : ∀ t, Steps p.tables e below (s₁.setTop (mkF m 3 #[.val (.int p1), .val (.int p2), .val (.int (p1.toUInt32.toUInt16.toUInt32.toInt32)), .unset, .unset, .unset, .unset, .unset, .unset, .unset] [])) t → Steps p.tables e below (s₁.setTop (mkF m 0 #[.val (.int p1), .val (.int p2), .unset, .unset, .unset, .unset, .unset, .unset, .unset, .unset] [])) t := by
      intro t kt
      show Steps p.tables e below (s₁.setTop (mkF m 0 #[.val (.int p1), .val (.int p2), .unset, .unset, .unset, .unset, .unset, .unset, .unset, .unset] [])) _
      refine XS.iloadN X0.here hx rfl (hb hby at_0) rfl ?_
      show Steps p.tables e below (s₁.setTop (mkF m 1 #[.val (.int p1), .val (.int p2), .unset, .unset, .unset, .unset, .unset, .unset, .unset, .unset] [(.int p1)])) _
      refine XS.i2c X0.here hx rfl (hb hby at_1) rfl ?_
      show Steps p.tables e below (s₁.setTop (mkF m 2 #[.val (.int p1), .val (.int p2), .unset, .unset, .unset, .unset, .unset, .unset, .unset, .unset] [(.int (p1.toUInt32.toUInt16.toUInt32.toInt32))])) _
      refine XS.istoreN X0.here hx rfl (hb hby at_2) rfl (l' := #[.val (.int p1), .val (.int p2), .val (.int (p1.toUInt32.toUInt16.toUInt32.toInt32)), .unset, .unset, .unset, .unset, .unset, .unset, .unset]) rfl ?_
      exact kt
    exact ⟨(p1.toUInt32.toUInt16.toUInt32.toInt32), (c_i2c _).2, fun t kt => (go2 t kt)⟩
  refine own_go go1 ?_
  obtain ⟨f, hf, go3⟩ : ∃ f : Int32, (True) ∧ ∀ t, Steps p.tables e below (s₁.setTop (mkF m 14 #[.val (.int p1), .val (.int p2), .val (.int k), .unset, .unset, .unset, .unset, .unset, .unset, .unset] [(.int f)])) t → Steps p.tables e below (s₁.setTop (mkF m 3 #[.val (.int p1), .val (.int p2), .val (.int k), .unset, .unset, .unset, .unset, .unset, .unset, .unset] [])) t := by
    have go4 : ∀ t, Steps p.tables e below (s₁.setTop (mkF m 6 #[.val (.int p1), .val (.int p2), .val (.int k), .unset, .unset, .unset, .unset, .unset, .unset, .unset] [(.int (p2 &&& (1 : Int32)))])) t → Steps p.tables e below (s₁.setTop (mkF m 3 #[.val (.int p1), .val (.int p2), .val (.int k), .unset, .unset, .unset, .unset, .unset, .unset, .unset] [])) t := by
      intro t kt
      show Steps p.tables e below (s₁.setTop (mkF m 3 #[.val (.int p1), .val (.int p2), .val (.int k), .unset, .unset, .unset, .unset, .unset, .unset, .unset] [])) _
      refine XS.iloadN X0.here hx rfl (hb hby at_3) rfl ?_
      show Steps p.tables e below (s₁.setTop (mkF m 4 #[.val (.int p1), .val (.int p2), .val (.int k), .unset, .unset, .unset, .unset, .unset, .unset, .unset] [(.int p2)])) _
      refine XS.iconst X0.here hx rfl (hb hby at_4) ?_
      show Steps p.tables e below (s₁.setTop (mkF m 5 #[.val (.int p1), .val (.int p2), .val (.int k), .unset, .unset, .unset, .unset, .unset, .unset, .unset] [(.int (1 : Int32)), (.int p2)])) _
      refine XS.iand X0.here hx rfl (hb hby at_5) rfl ?_
      exact kt
    rcases Classical.em ((p2 &&& (1 : Int32)) = (0 : Int32)) with hc6 | hc6
    · have go5 : ∀ t, Steps p.tables e below (s₁.setTop (mkF m 14 #[.val (.int p1), .val (.int p2), .val (.int k), .unset, .unset, .unset, .unset, .unset, .unset, .unset] [(.int (0 : Int32))])) t → Steps p.tables e below (s₁.setTop (mkF m 6 #[.val (.int p1), .val (.int p2), .val (.int k), .unset, .unset, .unset, .unset, .unset, .unset, .unset] [(.int (p2 &&& (1 : Int32)))])) t := by
        intro t kt
        show Steps p.tables e below (s₁.setTop (mkF m 6 #[.val (.int p1), .val (.int p2), .val (.int k), .unset, .unset, .unset, .unset, .unset, .unset, .unset] [(.int (p2 &&& (1 : Int32)))])) _
        refine XS.ifYes X0.here hx rfl (pc0 := 6) (pc' := 13) rfl (hb hby at_6) rfl ((if0 _ _).trans (teq hc6).1) (by decide) (by decide) ?_
        show Steps p.tables e below (s₁.setTop (mkF m 13 #[.val (.int p1), .val (.int p2), .val (.int k), .unset, .unset, .unset, .unset, .unset, .unset, .unset] [])) _
        refine XS.iconst X0.here hx rfl (hb hby at_13) ?_
        exact kt
      exact ⟨(0 : Int32), trivial, fun t kt => (go4 t (go5 t kt))⟩
    · have go6 : ∀ t, Steps p.tables e below (s₁.setTop (mkF m 14 #[.val (.int p1), .val (.int p2), .val (.int k), .unset, .unset, .unset, .unset, .unset, .unset, .unset] [(.int (1 : Int32))])) t → Steps p.tables e below (s₁.setTop (mkF m 6 #[.val (.int p1), .val (.int p2), .val (.int k), .unset, .unset, .unset, .unset, .unset, .unset, .unset] [(.int (p2 &&& (1 : Int32)))])) t := by
        intro t kt
        show Steps p.tables e below (s₁.setTop (mkF m 6 #[.val (.int p1), .val (.int p2), .val (.int k), .unset, .unset, .unset, .unset, .unset, .unset, .unset] [(.int (p2 &&& (1 : Int32)))])) _
        refine XS.ifNo X0.here hx rfl (hb hby at_6) rfl ((if0 _ _).trans (feq hc6).1) ?_
        show Steps p.tables e below (s₁.setTop (mkF m 9 #[.val (.int p1), .val (.int p2), .val (.int k), .unset, .unset, .unset, .unset, .unset, .unset, .unset] [])) _
        refine XS.iconst X0.here hx rfl (hb hby at_9) ?_
        show Steps p.tables e below (s₁.setTop (mkF m 10 #[.val (.int p1), .val (.int p2), .val (.int k), .unset, .unset, .unset, .unset, .unset, .unset, .unset] [(.int (1 : Int32))])) _
        refine XS.goto X0.here hx rfl (pc0 := 10) (pc' := 14) rfl (hb hby at_10) (by decide) (by decide) ?_
        exact kt
      exact ⟨(1 : Int32), trivial, fun t kt => (go4 t (go6 t kt))⟩
  refine own_go go3 ?_
  obtain ⟨lt, hlt, go7⟩ : ∃ lt : Int32, (lt = own_letter k) ∧ ∀ t, Steps p.tables e below (s₁.setTop (mkF m 46 #[.val (.int p1), .val (.int p2), .val (.int k), .val (.int f), .val (.int (k ||| (32 : Int32))), .unset, .unset, .unset, .unset, .unset] [(.int lt)])) t → Steps p.tables e below (s₁.setTop (mkF m 14 #[.val (.int p1), .val (.int p2), .val (.int k), .unset, .unset, .unset, .unset, .unset, .unset, .unset] [(.int f)])) t := by
    have go8 : ∀ t, Steps p.tables e below (s₁.setTop (mkF m 25 #[.val (.int p1), .val (.int p2), .val (.int k), .val (.int f), .val (.int (k ||| (32 : Int32))), .unset, .unset, .unset, .unset, .unset] [(.int (97 : Int32)), (.int (k ||| (32 : Int32)))])) t → Steps p.tables e below (s₁.setTop (mkF m 14 #[.val (.int p1), .val (.int p2), .val (.int k), .unset, .unset, .unset, .unset, .unset, .unset, .unset] [(.int f)])) t := by
      intro t kt
      show Steps p.tables e below (s₁.setTop (mkF m 14 #[.val (.int p1), .val (.int p2), .val (.int k), .unset, .unset, .unset, .unset, .unset, .unset, .unset] [(.int f)])) _
      refine XS.istoreN X0.here hx rfl (hb hby at_14) rfl (l' := #[.val (.int p1), .val (.int p2), .val (.int k), .val (.int f), .unset, .unset, .unset, .unset, .unset, .unset]) rfl ?_
      show Steps p.tables e below (s₁.setTop (mkF m 15 #[.val (.int p1), .val (.int p2), .val (.int k), .val (.int f), .unset, .unset, .unset, .unset, .unset, .unset] [])) _
      refine XS.iloadN X0.here hx rfl (hb hby at_15) rfl ?_
      show Steps p.tables e below (s₁.setTop (mkF m 16 #[.val (.int p1), .val (.int p2), .val (.int k), .val (.int f), .unset, .unset, .unset, .unset, .unset, .unset] [(.int k)])) _
      refine XS.bipush X0.here hx rfl (hb hby at_16) ?_
      show Steps p.tables e below (s₁.setTop (mkF m 18 #[.val (.int p1), .val (.int p2), .val (.int k), .val (.int f), .unset, .unset, .unset, .unset, .unset, .unset] [(.int (32 : Int32)), (.int k)])) _
      refine XS.ior X0.here hx rfl (hb hby at_18) rfl ?_
      show Steps p.tables e below (s₁.setTop (mkF m 19 #[.val (.int p1), .val (.int p2), .val (.int k), .val (.int f), .unset, .unset, .unset, .unset, .unset, .unset] [(.int (k ||| (32 : Int32)))])) _
      refine XS.istore X0.here hx rfl (hb hby at_19) rfl (l' := #[.val (.int p1), .val (.int p2), .val (.int k), .val (.int f), .val (.int (k ||| (32 : Int32))), .unset, .unset, .unset, .unset, .unset]) rfl ?_
      show Steps p.tables e below (s₁.setTop (mkF m 21 #[.val (.int p1), .val (.int p2), .val (.int k), .val (.int f), .val (.int (k ||| (32 : Int32))), .unset, .unset, .unset, .unset, .unset] [])) _
      refine XS.iload X0.here hx rfl (hb hby at_21) rfl ?_
      show Steps p.tables e below (s₁.setTop (mkF m 23 #[.val (.int p1), .val (.int p2), .val (.int k), .val (.int f), .val (.int (k ||| (32 : Int32))), .unset, .unset, .unset, .unset, .unset] [(.int (k ||| (32 : Int32)))])) _
      refine XS.bipush X0.here hx rfl (hb hby at_23) ?_
      exact kt
    rcases Classical.em ((k ||| (32 : Int32)) < (97 : Int32)) with hc25 | hc25
    · have go9 : ∀ t, Steps p.tables e below (s₁.setTop (mkF m 38 #[.val (.int p1), .val (.int p2), .val (.int k), .val (.int f), .val (.int (k ||| (32 : Int32))), .unset, .unset, .unset, .unset, .unset] [(.int (95 : Int32)), (.int k)])) t → Steps p.tables e below (s₁.setTop (mkF m 25 #[.val (.int p1), .val (.int p2), .val (.int k), .val (.int f), .val (.int (k ||| (32 : Int32))), .unset, .unset, .unset, .unset, .unset] [(.int (97 : Int32)), (.int (k ||| (32 : Int32)))])) t := by
        intro t kt
        show Steps p.tables e below (s₁.setTop (mkF m 25 #[.val (.int p1), .val (.int p2), .val (.int k), .val (.int f), .val (.int (k ||| (32 : Int32))), .unset, .unset, .unset, .unset, .unset] [(.int (97 : Int32)), (.int (k ||| (32 : Int32)))])) _
        refine XS.icmpYes X0.here hx rfl (pc0 := 25) (pc' := 35) rfl (hb hby at_25) rfl (tlt hc25).1 (by decide) (by decide) ?_
        show Steps p.tables e below (s₁.setTop (mkF m 35 #[.val (.int p1), .val (.int p2), .val (.int k), .val (.int f), .val (.int (k ||| (32 : Int32))), .unset, .unset, .unset, .unset, .unset] [])) _
        refine XS.iloadN X0.here hx rfl (hb hby at_35) rfl ?_
        show Steps p.tables e below (s₁.setTop (mkF m 36 #[.val (.int p1), .val (.int p2), .val (.int k), .val (.int f), .val (.int (k ||| (32 : Int32))), .unset, .unset, .unset, .unset, .unset] [(.int k)])) _
        refine XS.bipush X0.here hx rfl (hb hby at_36) ?_
        exact kt
      rcases Classical.em (k = (95 : Int32)) with hc38 | hc38
      · have go10 : ∀ t, Steps p.tables e below (s₁.setTop (mkF m 46 #[.val (.int p1), .val (.int p2), .val (.int k), .val (.int f), .val (.int (k ||| (32 : Int32))), .unset, .unset, .unset, .unset, .unset] [(.int (1 : Int32))])) t → Steps p.tables e below (s₁.setTop (mkF m 38 #[.val (.int p1), .val (.int p2), .val (.int k), .val (.int f), .val (.int (k ||| (32 : Int32))), .unset, .unset, .unset, .unset, .unset] [(.int (95 : Int32)), (.int k)])) t := by
          intro t kt
          show Steps p.tables e below (s₁.setTop (mkF m 38 #[.val (.int p1), .val (.int p2), .val (.int k), .val (.int f), .val (.int (k ||| (32 : Int32))), .unset, .unset, .unset, .unset, .unset] [(.int (95 : Int32)), (.int k)])) _
          refine XS.icmpNo X0.here hx rfl (hb hby at_38) rfl (teq hc38).2 ?_
          show Steps p.tables e below (s₁.setTop (mkF m 41 #[.val (.int p1), .val (.int p2), .val (.int k), .val (.int f), .val (.int (k ||| (32 : Int32))), .unset, .unset, .unset, .unset, .unset] [])) _
          refine XS.iconst X0.here hx rfl (hb hby at_41) ?_
          show Steps p.tables e below (s₁.setTop (mkF m 42 #[.val (.int p1), .val (.int p2), .val (.int k), .val (.int f), .val (.int (k ||| (32 : Int32))), .unset, .unset, .unset, .unset, .unset] [(.int (1 : Int32))])) _
          refine XS.goto X0.here hx rfl (pc0 := 42) (pc' := 46) rfl (hb hby at_42) (by decide) (by decide) ?_
          exact kt
        exact ⟨(1 : Int32), by first | (simp only [own_letter, hc25, hc38, not_true_eq_false, not_false_eq_true, and_true, true_and, and_false, false_and, or_true, true_or, or_false, false_or, and_self, or_self, eq_self, if_true, if_false]; done) | (simp [own_letter, hc25, hc38]; done), fun t kt => (go8 t (go9 t (go10 t kt)))⟩
      · have go11 : ∀ t, Steps p.tables e below (s₁.setTop (mkF m 46 #[.val (.int p1), .val (.int p2), .val (.int k), .val (.int f), .val (.int (k ||| (32 : Int32))), .unset, .unset, .unset, .unset, .unset] [(.int (0 : Int32))])) t → Steps p.tables e below (s₁.setTop (mkF m 38 #[.val (.int p1), .val (.int p2), .val (.int k), .val (.int f), .val (.int (k ||| (32 : Int32))), .unset, .unset, .unset, .unset, .unset] [(.int (95 : Int32)), (.int k)])) t := by
          intro t kt
          show Steps p.tables e below (s₁.setTop (mkF m 38 #[.val (.int p1), .val (.int p2), .val (.int k), .val (.int f), .val (.int (k ||| (32 : Int32))), .unset, .unset, .unset, .unset, .unset] [(.int (95 : Int32)), (.int k)])) _
          refine XS.icmpYes X0.here hx rfl (pc0 := 38) (pc' := 45) rfl (hb hby at_38) rfl (feq hc38).2 (by decide) (by decide) ?_
          show Steps p.tables e below (s₁.setTop (mkF m 45 #[.val (.int p1), .val (.int p2), .val (.int k), .val (.int f), .val (.int (k ||| (32 : Int32))), .unset, .unset, .unset, .unset, .unset] [])) _
          refine XS.iconst X0.here hx rfl (hb hby at_45) ?_
          exact kt
        exact ⟨(0 : Int32), by first | (simp only [own_letter, hc25, hc38, not_true_eq_false, not_false_eq_true, and_true, true_and, and_false, false_and, or_true, true_or, or_false, false_or, and_self, or_self, eq_self, if_true, if_false]; done) | (simp [own_letter, hc25, hc38]; done), fun t kt => (go8 t (go9 t (go11 t kt)))⟩
    · have go12 : ∀ t, Steps p.tables e below (s₁.setTop (mkF m 32 #[.val (.int p1), .val (.int p2), .val (.int k), .val (.int f), .val (.int (k ||| (32 : Int32))), .unset, .unset, .unset, .unset, .unset] [(.int (122 : Int32)), (.int (k ||| (32 : Int32)))])) t → Steps p.tables e below (s₁.setTop (mkF m 25 #[.val (.int p1), .val (.int p2), .val (.int k), .val (.int f), .val (.int (k ||| (32 : Int32))), .unset, .unset, .unset, .unset, .unset] [(.int (97 : Int32)), (.int (k ||| (32 : Int32)))])) t := by
        intro t kt
        show Steps p.tables e below (s₁.setTop (mkF m 25 #[.val (.int p1), .val (.int p2), .val (.int k), .val (.int f), .val (.int (k ||| (32 : Int32))), .unset, .unset, .unset, .unset, .unset] [(.int (97 : Int32)), (.int (k ||| (32 : Int32)))])) _
        refine XS.icmpNo X0.here hx rfl (hb hby at_25) rfl (flt hc25).1 ?_
        show Steps p.tables e below (s₁.setTop (mkF m 28 #[.val (.int p1), .val (.int p2), .val (.int k), .val (.int f), .val (.int (k ||| (32 : Int32))), .unset, .unset, .unset, .unset, .unset] [])) _
        refine XS.iload X0.here hx rfl (hb hby at_28) rfl ?_
        show Steps p.tables e below (s₁.setTop (mkF m 30 #[.val (.int p1), .val (.int p2), .val (.int k), .val (.int f), .val (.int (k ||| (32 : Int32))), .unset, .unset, .unset, .unset, .unset] [(.int (k ||| (32 : Int32)))])) _
        refine XS.bipush X0.here hx rfl (hb hby at_30) ?_
        exact kt
      rcases Classical.em ((122 : Int32) < (k ||| (32 : Int32))) with hc32 | hc32
      · have go13 : ∀ t, Steps p.tables e below (s₁.setTop (mkF m 38 #[.val (.int p1), .val (.int p2), .val (.int k), .val (.int f), .val (.int (k ||| (32 : Int32))), .unset, .unset, .unset, .unset, .unset] [(.int (95 : Int32)), (.int k)])) t → Steps p.tables e below (s₁.setTop (mkF m 32 #[.val (.int p1), .val (.int p2), .val (.int k), .val (.int f), .val (.int (k ||| (32 : Int32))), .unset, .unset, .unset, .unset, .unset] [(.int (122 : Int32)), (.int (k ||| (32 : Int32)))])) t := by
          intro t kt
          show Steps p.tables e below (s₁.setTop (mkF m 32 #[.val (.int p1), .val (.int p2), .val (.int k), .val (.int f), .val (.int (k ||| (32 : Int32))), .unset, .unset, .unset, .unset, .unset] [(.int (122 : Int32)), (.int (k ||| (32 : Int32)))])) _
          refine XS.icmpNo X0.here hx rfl (hb hby at_32) rfl (tlt hc32).2.2.2 ?_
          show Steps p.tables e below (s₁.setTop (mkF m 35 #[.val (.int p1), .val (.int p2), .val (.int k), .val (.int f), .val (.int (k ||| (32 : Int32))), .unset, .unset, .unset, .unset, .unset] [])) _
          refine XS.iloadN X0.here hx rfl (hb hby at_35) rfl ?_
          show Steps p.tables e below (s₁.setTop (mkF m 36 #[.val (.int p1), .val (.int p2), .val (.int k), .val (.int f), .val (.int (k ||| (32 : Int32))), .unset, .unset, .unset, .unset, .unset] [(.int k)])) _
          refine XS.bipush X0.here hx rfl (hb hby at_36) ?_
          exact kt
        rcases Classical.em (k = (95 : Int32)) with hc38 | hc38
        · have go14 : ∀ t, Steps p.tables e below (s₁.setTop (mkF m 46 #[.val (.int p1), .val (.int p2), .val (.int k), .val (.int f), .val (.int (k ||| (32 : Int32))), .unset, .unset, .unset, .unset, .unset] [(.int (1 : Int32))])) t → Steps p.tables e below (s₁.setTop (mkF m 38 #[.val (.int p1), .val (.int p2), .val (.int k), .val (.int f), .val (.int (k ||| (32 : Int32))), .unset, .unset, .unset, .unset, .unset] [(.int (95 : Int32)), (.int k)])) t := by
            intro t kt
            show Steps p.tables e below (s₁.setTop (mkF m 38 #[.val (.int p1), .val (.int p2), .val (.int k), .val (.int f), .val (.int (k ||| (32 : Int32))), .unset, .unset, .unset, .unset, .unset] [(.int (95 : Int32)), (.int k)])) _
            refine XS.icmpNo X0.here hx rfl (hb hby at_38) rfl (teq hc38).2 ?_
            show Steps p.tables e below (s₁.setTop (mkF m 41 #[.val (.int p1), .val (.int p2), .val (.int k), .val (.int f), .val (.int (k ||| (32 : Int32))), .unset, .unset, .unset, .unset, .unset] [])) _
            refine XS.iconst X0.here hx rfl (hb hby at_41) ?_
            show Steps p.tables e below (s₁.setTop (mkF m 42 #[.val (.int p1), .val (.int p2), .val (.int k), .val (.int f), .val (.int (k ||| (32 : Int32))), .unset, .unset, .unset, .unset, .unset] [(.int (1 : Int32))])) _
            refine XS.goto X0.here hx rfl (pc0 := 42) (pc' := 46) rfl (hb hby at_42) (by decide) (by decide) ?_
            exact kt
          exact ⟨(1 : Int32), by first | (simp only [own_letter, hc25, hc32, hc38, not_true_eq_false, not_false_eq_true, and_true, true_and, and_false, false_and, or_true, true_or, or_false, false_or, and_self, or_self, eq_self, if_true, if_false]; done) | (simp [own_letter, hc25, hc32, hc38]; done), fun t kt => (go8 t (go12 t (go13 t (go14 t kt))))⟩
        · have go15 : ∀ t, Steps p.tables e below (s₁.setTop (mkF m 46 #[.val (.int p1), .val (.int p2), .val (.int k), .val (.int f), .val (.int (k ||| (32 : Int32))), .unset, .unset, .unset, .unset, .unset] [(.int (0 : Int32))])) t → Steps p.tables e below (s₁.setTop (mkF m 38 #[.val (.int p1), .val (.int p2), .val (.int k), .val (.int f), .val (.int (k ||| (32 : Int32))), .unset, .unset, .unset, .unset, .unset] [(.int (95 : Int32)), (.int k)])) t := by
            intro t kt
            show Steps p.tables e below (s₁.setTop (mkF m 38 #[.val (.int p1), .val (.int p2), .val (.int k), .val (.int f), .val (.int (k ||| (32 : Int32))), .unset, .unset, .unset, .unset, .unset] [(.int (95 : Int32)), (.int k)])) _
            refine XS.icmpYes X0.here hx rfl (pc0 := 38) (pc' := 45) rfl (hb hby at_38) rfl (feq hc38).2 (by decide) (by decide) ?_
            show Steps p.tables e below (s₁.setTop (mkF m 45 #[.val (.int p1), .val (.int p2), .val (.int k), .val (.int f), .val (.int (k ||| (32 : Int32))), .unset, .unset, .unset, .unset, .unset] [])) _
            refine XS.iconst X0.here hx rfl (hb hby at_45) ?_
            exact kt
          exact ⟨(0 : Int32), by first | (simp only [own_letter, hc25, hc32, hc38, not_true_eq_false, not_false_eq_true, and_true, true_and, and_false, false_and, or_true, true_or, or_false, false_or, and_self, or_self, eq_self, if_true, if_false]; done) | (simp [own_letter, hc25, hc32, hc38]; done), fun t kt => (go8 t (go12 t (go13 t (go15 t kt))))⟩
      · have go16 : ∀ t, Steps p.tables e below (s₁.setTop (mkF m 46 #[.val (.int p1), .val (.int p2), .val (.int k), .val (.int f), .val (.int (k ||| (32 : Int32))), .unset, .unset, .unset, .unset, .unset] [(.int (1 : Int32))])) t → Steps p.tables e below (s₁.setTop (mkF m 32 #[.val (.int p1), .val (.int p2), .val (.int k), .val (.int f), .val (.int (k ||| (32 : Int32))), .unset, .unset, .unset, .unset, .unset] [(.int (122 : Int32)), (.int (k ||| (32 : Int32)))])) t := by
          intro t kt
          show Steps p.tables e below (s₁.setTop (mkF m 32 #[.val (.int p1), .val (.int p2), .val (.int k), .val (.int f), .val (.int (k ||| (32 : Int32))), .unset, .unset, .unset, .unset, .unset] [(.int (122 : Int32)), (.int (k ||| (32 : Int32)))])) _
          refine XS.icmpYes X0.here hx rfl (pc0 := 32) (pc' := 41) rfl (hb hby at_32) rfl (flt hc32).2.2.2 (by decide) (by decide) ?_
          show Steps p.tables e below (s₁.setTop (mkF m 41 #[.val (.int p1), .val (.int p2), .val (.int k), .val (.int f), .val (.int (k ||| (32 : Int32))), .unset, .unset, .unset, .unset, .unset] [])) _
          refine XS.iconst X0.here hx rfl (hb hby at_41) ?_
          show Steps p.tables e below (s₁.setTop (mkF m 42 #[.val (.int p1), .val (.int p2), .val (.int k), .val (.int f), .val (.int (k ||| (32 : Int32))), .unset, .unset, .unset, .unset, .unset] [(.int (1 : Int32))])) _
          refine XS.goto X0.here hx rfl (pc0 := 42) (pc' := 46) rfl (hb hby at_42) (by decide) (by decide) ?_
          exact kt
        exact ⟨(1 : Int32), by first | (simp only [own_letter, hc25, hc32, not_true_eq_false, not_false_eq_true, and_true, true_and, and_false, false_and, or_true, true_or, or_false, false_or, and_self, or_self, eq_self, if_true, if_false]; done) | (simp [own_letter, hc25, hc32]; done), fun t kt => (go8 t (go12 t (go16 t kt)))⟩
  refine own_go go7 ?_
  obtain ⟨dg, hdg, go17⟩ : ∃ dg : Int32, (dg = own_digit k) ∧ ∀ t, Steps p.tables e below (s₁.setTop (mkF m 71 #[.val (.int p1), .val (.int p2), .val (.int k), .val (.int f), .val (.int (k ||| (32 : Int32))), .val (.int lt), .val (.int (k - (48 : Int32))), .unset, .unset, .unset] [(.int dg)])) t → Steps p.tables e below (s₁.setTop (mkF m 46 #[.val (.int p1), .val (.int p2), .val (.int k), .val (.int f), .val (.int (k ||| (32 : Int32))), .unset, .unset, .unset, .unset, .unset] [(.int lt)])) t := by
    have go18 : ∀ t, Steps p.tables e below (s₁.setTop (mkF m 56 #[.val (.int p1), .val (.int p2), .val (.int k), .val (.int f), .val (.int (k ||| (32 : Int32))), .val (.int lt), .val (.int (k - (48 : Int32))), .unset, .unset, .unset] [(.int (k - (48 : Int32)))])) t → Steps p.tables e below (s₁.setTop (mkF m 46 #[.val (.int p1), .val (.int p2), .val (.int k), .val (.int f), .val (.int (k ||| (32 : Int32))), .unset, .unset, .unset, .unset, .unset] [(.int lt)])) t := by
      intro t kt
      show Steps p.tables e below (s₁.setTop (mkF m 46 #[.val (.int p1), .val (.int p2), .val (.int k), .val (.int f), .val (.int (k ||| (32 : Int32))), .unset, .unset, .unset, .unset, .unset] [(.int lt)])) _
      refine XS.istore X0.here hx rfl (hb hby at_46) rfl (l' := #[.val (.int p1), .val (.int p2), .val (.int k), .val (.int f), .val (.int (k ||| (32 : Int32))), .val (.int lt), .unset, .unset, .unset, .unset]) rfl ?_
      show Steps p.tables e below (s₁.setTop (mkF m 48 #[.val (.int p1), .val (.int p2), .val (.int k), .val (.int f), .val (.int (k ||| (32 : Int32))), .val (.int lt), .unset, .unset, .unset, .unset] [])) _
      refine XS.iloadN X0.here hx rfl (hb hby at_48) rfl ?_
      show Steps p.tables e below (s₁.setTop (mkF m 49 #[.val (.int p1), .val (.int p2), .val (.int k), .val (.int f), .val (.int (k ||| (32 : Int32))), .val (.int lt), .unset, .unset, .unset, .unset] [(.int k)])) _
      refine XS.bipush X0.here hx rfl (hb hby at_49) ?_
      show Steps p.tables e below (s₁.setTop (mkF m 51 #[.val (.int p1), .val (.int p2), .val (.int k), .val (.int f), .val (.int (k ||| (32 : Int32))), .val (.int lt), .unset, .unset, .unset, .unset] [(.int (48 : Int32)), (.int k)])) _
      refine XS.isub X0.here hx rfl (hb hby at_51) rfl ?_
      show Steps p.tables e below (s₁.setTop (mkF m 52 #[.val (.int p1), .val (.int p2), .val (.int k), .val (.int f), .val (.int (k ||| (32 : Int32))), .val (.int lt), .unset, .unset, .unset, .unset] [(.int (k - (48 : Int32)))])) _
      refine XS.istore X0.here hx rfl (hb hby at_52) rfl (l' := #[.val (.int p1), .val (.int p2), .val (.int k), .val (.int f), .val (.int (k ||| (32 : Int32))), .val (.int lt), .val (.int (k - (48 : Int32))), .unset, .unset, .unset]) rfl ?_
      show Steps p.tables e below (s₁.setTop (mkF m 54 #[.val (.int p1), .val (.int p2), .val (.int k), .val (.int f), .val (.int (k ||| (32 : Int32))), .val (.int lt), .val (.int (k - (48 : Int32))), .unset, .unset, .unset] [])) _
      refine XS.iload X0.here hx rfl (hb hby at_54) rfl ?_
      exact kt
    rcases Classical.em ((k - (48 : Int32)) < (0 : Int32)) with hc56 | hc56
    · have go19 : ∀ t, Steps p.tables e below (s₁.setTop (mkF m 71 #[.val (.int p1), .val (.int p2), .val (.int k), .val (.int f), .val (.int (k ||| (32 : Int32))), .val (.int lt), .val (.int (k - (48 : Int32))), .unset, .unset, .unset] [(.int (0 : Int32))])) t → Steps p.tables e below (s₁.setTop (mkF m 56 #[.val (.int p1), .val (.int p2), .val (.int k), .val (.int f), .val (.int (k ||| (32 : Int32))), .val (.int lt), .val (.int (k - (48 : Int32))), .unset, .unset, .unset] [(.int (k - (48 : Int32)))])) t := by
        intro t kt
        show Steps p.tables e below (s₁.setTop (mkF m 56 #[.val (.int p1), .val (.int p2), .val (.int k), .val (.int f), .val (.int (k ||| (32 : Int32))), .val (.int lt), .val (.int (k - (48 : Int32))), .unset, .unset, .unset] [(.int (k - (48 : Int32)))])) _
        refine XS.ifYes X0.here hx rfl (pc0 := 56) (pc' := 70) rfl (hb hby at_56) rfl ((if0 _ _).trans (tlt hc56).1) (by decide) (by decide) ?_
        show Steps p.tables e below (s₁.setTop (mkF m 70 #[.val (.int p1), .val (.int p2), .val (.int k), .val (.int f), .val (.int (k ||| (32 : Int32))), .val (.int lt), .val (.int (k - (48 : Int32))), .unset, .unset, .unset] [])) _
        refine XS.iconst X0.here hx rfl (hb hby at_70) ?_
        exact kt
      exact ⟨(0 : Int32), by first | (simp only [own_digit, hc56, not_true_eq_false, not_false_eq_true, and_true, true_and, and_false, false_and, or_true, true_or, or_false, false_or, and_self, or_self, eq_self, if_true, if_false]; done) | (simp [own_digit, hc56]; done), fun t kt => (go18 t (go19 t kt))⟩
    · have go20 : ∀ t, Steps p.tables e below (s₁.setTop (mkF m 63 #[.val (.int p1), .val (.int p2), .val (.int k), .val (.int f), .val (.int (k ||| (32 : Int32))), .val (.int lt), .val (.int (k - (48 : Int32))), .unset, .unset, .unset] [(.int (10 : Int32)), (.int (k - (48 : Int32)))])) t → Steps p.tables e below (s₁.setTop (mkF m 56 #[.val (.int p1), .val (.int p2), .val (.int k), .val (.int f), .val (.int (k ||| (32 : Int32))), .val (.int lt), .val (.int (k - (48 : Int32))), .unset, .unset, .unset] [(.int (k - (48 : Int32)))])) t := by
        intro t kt
        show Steps p.tables e below (s₁.setTop (mkF m 56 #[.val (.int p1), .val (.int p2), .val (.int k), .val (.int f), .val (.int (k ||| (32 : Int32))), .val (.int lt), .val (.int (k - (48 : Int32))), .unset, .unset, .unset] [(.int (k - (48 : Int32)))])) _
        refine XS.ifNo X0.here hx rfl (hb hby at_56) rfl ((if0 _ _).trans (flt hc56).1) ?_
        show Steps p.tables e below (s₁.setTop (mkF m 59 #[.val (.int p1), .val (.int p2), .val (.int k), .val (.int f), .val (.int (k ||| (32 : Int32))), .val (.int lt), .val (.int (k - (48 : Int32))), .unset, .unset, .unset] [])) _
        refine XS.iload X0.here hx rfl (hb hby at_59) rfl ?_
        show Steps p.tables e below (s₁.setTop (mkF m 61 #[.val (.int p1), .val (.int p2), .val (.int k), .val (.int f), .val (.int (k ||| (32 : Int32))), .val (.int lt), .val (.int (k - (48 : Int32))), .unset, .unset, .unset] [(.int (k - (48 : Int32)))])) _
        refine XS.bipush X0.here hx rfl (hb hby at_61) ?_
        exact kt
      rcases Classical.em ((k - (48 : Int32)) < (10 : Int32)) with hc63 | hc63
      · have go21 : ∀ t, Steps p.tables e below (s₁.setTop (mkF m 71 #[.val (.int p1), .val (.int p2), .val (.int k), .val (.int f), .val (.int (k ||| (32 : Int32))), .val (.int lt), .val (.int (k - (48 : Int32))), .unset, .unset, .unset] [(.int (1 : Int32))])) t → Steps p.tables e below (s₁.setTop (mkF m 63 #[.val (.int p1), .val (.int p2), .val (.int k), .val (.int f), .val (.int (k ||| (32 : Int32))), .val (.int lt), .val (.int (k - (48 : Int32))), .unset, .unset, .unset] [(.int (10 : Int32)), (.int (k - (48 : Int32)))])) t := by
          intro t kt
          show Steps p.tables e below (s₁.setTop (mkF m 63 #[.val (.int p1), .val (.int p2), .val (.int k), .val (.int f), .val (.int (k ||| (32 : Int32))), .val (.int lt), .val (.int (k - (48 : Int32))), .unset, .unset, .unset] [(.int (10 : Int32)), (.int (k - (48 : Int32)))])) _
          refine XS.icmpNo X0.here hx rfl (hb hby at_63) rfl (tlt hc63).2.1 ?_
          show Steps p.tables e below (s₁.setTop (mkF m 66 #[.val (.int p1), .val (.int p2), .val (.int k), .val (.int f), .val (.int (k ||| (32 : Int32))), .val (.int lt), .val (.int (k - (48 : Int32))), .unset, .unset, .unset] [])) _
          refine XS.iconst X0.here hx rfl (hb hby at_66) ?_
          show Steps p.tables e below (s₁.setTop (mkF m 67 #[.val (.int p1), .val (.int p2), .val (.int k), .val (.int f), .val (.int (k ||| (32 : Int32))), .val (.int lt), .val (.int (k - (48 : Int32))), .unset, .unset, .unset] [(.int (1 : Int32))])) _
          refine XS.goto X0.here hx rfl (pc0 := 67) (pc' := 71) rfl (hb hby at_67) (by decide) (by decide) ?_
          exact kt
        exact ⟨(1 : Int32), by first | (simp only [own_digit, hc56, hc63, not_true_eq_false, not_false_eq_true, and_true, true_and, and_false, false_and, or_true, true_or, or_false, false_or, and_self, or_self, eq_self, if_true, if_false]; done) | (simp [own_digit, hc56, hc63]; done), fun t kt => (go18 t (go20 t (go21 t kt)))⟩
      · have go22 : ∀ t, Steps p.tables e below (s₁.setTop (mkF m 71 #[.val (.int p1), .val (.int p2), .val (.int k), .val (.int f), .val (.int (k ||| (32 : Int32))), .val (.int lt), .val (.int (k - (48 : Int32))), .unset, .unset, .unset] [(.int (0 : Int32))])) t → Steps p.tables e below (s₁.setTop (mkF m 63 #[.val (.int p1), .val (.int p2), .val (.int k), .val (.int f), .val (.int (k ||| (32 : Int32))), .val (.int lt), .val (.int (k - (48 : Int32))), .unset, .unset, .unset] [(.int (10 : Int32)), (.int (k - (48 : Int32)))])) t := by
          intro t kt
          show Steps p.tables e below (s₁.setTop (mkF m 63 #[.val (.int p1), .val (.int p2), .val (.int k), .val (.int f), .val (.int (k ||| (32 : Int32))), .val (.int lt), .val (.int (k - (48 : Int32))), .unset, .unset, .unset] [(.int (10 : Int32)), (.int (k - (48 : Int32)))])) _
          refine XS.icmpYes X0.here hx rfl (pc0 := 63) (pc' := 70) rfl (hb hby at_63) rfl (flt hc63).2.1 (by decide) (by decide) ?_
          show Steps p.tables e below (s₁.setTop (mkF m 70 #[.val (.int p1), .val (.int p2), .val (.int k), .val (.int f), .val (.int (k ||| (32 : Int32))), .val (.int lt), .val (.int (k - (48 : Int32))), .unset, .unset, .unset] [])) _
          refine XS.iconst X0.here hx rfl (hb hby at_70) ?_
          exact kt
        exact ⟨(0 : Int32), by first | (simp only [own_digit, hc56, hc63, not_true_eq_false, not_false_eq_true, and_true, true_and, and_false, false_and, or_true, true_or, or_false, false_or, and_self, or_self, eq_self, if_true, if_false]; done) | (simp [own_digit, hc56, hc63]; done), fun t kt => (go18 t (go20 t (go22 t kt)))⟩
  refine own_go go17 ?_
  obtain ⟨ex, hex, go23⟩ : ∃ ex : Int32, (ex = own_X lt f dg) ∧ ∀ t, Steps p.tables e below (s₁.setTop (mkF m 92 #[.val (.int p1), .val (.int p2), .val (.int k), .val (.int f), .val (.int (k ||| (32 : Int32))), .val (.int lt), .val (.int (k - (48 : Int32))), .val (.int dg), .unset, .unset] [(.int ex)])) t → Steps p.tables e below (s₁.setTop (mkF m 71 #[.val (.int p1), .val (.int p2), .val (.int k), .val (.int f), .val (.int (k ||| (32 : Int32))), .val (.int lt), .val (.int (k - (48 : Int32))), .unset, .unset, .unset] [(.int dg)])) t := by
    have go24 : ∀ t, Steps p.tables e below (s₁.setTop (mkF m 75 #[.val (.int p1), .val (.int p2), .val (.int k), .val (.int f), .val (.int (k ||| (32 : Int32))), .val (.int lt), .val (.int (k - (48 : Int32))), .val (.int dg), .unset, .unset] [(.int lt)])) t → Steps p.tables e below (s₁.setTop (mkF m 71 #[.val (.int p1), .val (.int p2), .val (.int k), .val (.int f), .val (.int (k ||| (32 : Int32))), .val (.int lt), .val (.int (k - (48 : Int32))), .unset, .unset, .unset] [(.int dg)])) t := by
      intro t kt
      show Steps p.tables e below (s₁.setTop (mkF m 71 #[.val (.int p1), .val (.int p2), .val (.int k), .val (.int f), .val (.int (k ||| (32 : Int32))), .val (.int lt), .val (.int (k - (48 : Int32))), .unset, .unset, .unset] [(.int dg)])) _
      refine XS.istore X0.here hx rfl (hb hby at_71) rfl (l' := #[.val (.int p1), .val (.int p2), .val (.int k), .val (.int f), .val (.int (k ||| (32 : Int32))), .val (.int lt), .val (.int (k - (48 : Int32))), .val (.int dg), .unset, .unset]) rfl ?_
      show Steps p.tables e below (s₁.setTop (mkF m 73 #[.val (.int p1), .val (.int p2), .val (.int k), .val (.int f), .val (.int (k ||| (32 : Int32))), .val (.int lt), .val (.int (k - (48 : Int32))), .val (.int dg), .unset, .unset] [])) _
      refine XS.iload X0.here hx rfl (hb hby at_73) rfl ?_
      exact kt
    rcases Classical.em (lt = (0 : Int32)) with hc75 | hc75
    · have go25 : ∀ t, Steps p.tables e below (s₁.setTop (mkF m 79 #[.val (.int p1), .val (.int p2), .val (.int k), .val (.int f), .val (.int (k ||| (32 : Int32))), .val (.int lt), .val (.int (k - (48 : Int32))), .val (.int dg), .unset, .unset] [(.int f)])) t → Steps p.tables e below (s₁.setTop (mkF m 75 #[.val (.int p1), .val (.int p2), .val (.int k), .val (.int f), .val (.int (k ||| (32 : Int32))), .val (.int lt), .val (.int (k - (48 : Int32))), .val (.int dg), .unset, .unset] [(.int lt)])) t := by
        intro t kt
        show Steps p.tables e below (s₁.setTop (mkF m 75 #[.val (.int p1), .val (.int p2), .val (.int k), .val (.int f), .val (.int (k ||| (32 : Int32))), .val (.int lt), .val (.int (k - (48 : Int32))), .val (.int dg), .unset, .unset] [(.int lt)])) _
        refine XS.ifNo X0.here hx rfl (hb hby at_75) rfl ((if0 _ _).trans (teq hc75).2) ?_
        show Steps p.tables e below (s₁.setTop (mkF m 78 #[.val (.int p1), .val (.int p2), .val (.int k), .val (.int f), .val (.int (k ||| (32 : Int32))), .val (.int lt), .val (.int (k - (48 : Int32))), .val (.int dg), .unset, .unset] [])) _
        refine XS.iloadN X0.here hx rfl (hb hby at_78) rfl ?_
        exact kt
      rcases Classical.em (f = (0 : Int32)) with hc79 | hc79
      · have go26 : ∀ t, Steps p.tables e below (s₁.setTop (mkF m 84 #[.val (.int p1), .val (.int p2), .val (.int k), .val (.int f), .val (.int (k ||| (32 : Int32))), .val (.int lt), .val (.int (k - (48 : Int32))), .val (.int dg), .unset, .unset] [(.int dg)])) t → Steps p.tables e below (s₁.setTop (mkF m 79 #[.val (.int p1), .val (.int p2), .val (.int k), .val (.int f), .val (.int (k ||| (32 : Int32))), .val (.int lt), .val (.int (k - (48 : Int32))), .val (.int dg), .unset, .unset] [(.int f)])) t := by
          intro t kt
          show Steps p.tables e below (s₁.setTop (mkF m 79 #[.val (.int p1), .val (.int p2), .val (.int k), .val (.int f), .val (.int (k ||| (32 : Int32))), .val (.int lt), .val (.int (k - (48 : Int32))), .val (.int dg), .unset, .unset] [(.int f)])) _
          refine XS.ifNo X0.here hx rfl (hb hby at_79) rfl ((if0 _ _).trans (teq hc79).2) ?_
          show Steps p.tables e below (s₁.setTop (mkF m 82 #[.val (.int p1), .val (.int p2), .val (.int k), .val (.int f), .val (.int (k ||| (32 : Int32))), .val (.int lt), .val (.int (k - (48 : Int32))), .val (.int dg), .unset, .unset] [])) _
          refine XS.iload X0.here hx rfl (hb hby at_82) rfl ?_
          exact kt
        rcases Classical.em (dg = (0 : Int32)) with hc84 | hc84
        · have go27 : ∀ t, Steps p.tables e below (s₁.setTop (mkF m 92 #[.val (.int p1), .val (.int p2), .val (.int k), .val (.int f), .val (.int (k ||| (32 : Int32))), .val (.int lt), .val (.int (k - (48 : Int32))), .val (.int dg), .unset, .unset] [(.int (0 : Int32))])) t → Steps p.tables e below (s₁.setTop (mkF m 84 #[.val (.int p1), .val (.int p2), .val (.int k), .val (.int f), .val (.int (k ||| (32 : Int32))), .val (.int lt), .val (.int (k - (48 : Int32))), .val (.int dg), .unset, .unset] [(.int dg)])) t := by
            intro t kt
            show Steps p.tables e below (s₁.setTop (mkF m 84 #[.val (.int p1), .val (.int p2), .val (.int k), .val (.int f), .val (.int (k ||| (32 : Int32))), .val (.int lt), .val (.int (k - (48 : Int32))), .val (.int dg), .unset, .unset] [(.int dg)])) _
            refine XS.ifYes X0.here hx rfl (pc0 := 84) (pc' := 91) rfl (hb hby at_84) rfl ((if0 _ _).trans (teq hc84).1) (by decide) (by decide) ?_
            show Steps p.tables e below (s₁.setTop (mkF m 91 #[.val (.int p1), .val (.int p2), .val (.int k), .val (.int f), .val (.int (k ||| (32 : Int32))), .val (.int lt), .val (.int (k - (48 : Int32))), .val (.int dg), .unset, .unset] [])) _
            refine XS.iconst X0.here hx rfl (hb hby at_91) ?_
            exact kt
          exact ⟨(0 : Int32), by first | (simp only [own_X, hc75, hc79, hc84, not_true_eq_false, not_false_eq_true, and_true, true_and, and_false, false_and, or_true, true_or, or_false, false_or, and_self, or_self, eq_self, if_true, if_false]; done) | (simp [own_X, hc75, hc79, hc84]; done), fun t kt => (go24 t (go25 t (go26 t (go27 t kt))))⟩
        · have go28 : ∀ t, Steps p.tables e below (s₁.setTop (mkF m 92 #[.val (.int p1), .val (.int p2), .val (.int k), .val (.int f), .val (.int (k ||| (32 : Int32))), .val (.int lt), .val (.int (k - (48 : Int32))), .val (.int dg), .unset, .unset] [(.int (1 : Int32))])) t → Steps p.tables e below (s₁.setTop (mkF m 84 #[.val (.int p1), .val (.int p2), .val (.int k), .val (.int f), .val (.int (k ||| (32 : Int32))), .val (.int lt), .val (.int (k - (48 : Int32))), .val (.int dg), .unset, .unset] [(.int dg)])) t := by
            intro t kt
            show Steps p.tables e below (s₁.setTop (mkF m 84 #[.val (.int p1), .val (.int p2), .val (.int k), .val (.int f), .val (.int (k ||| (32 : Int32))), .val (.int lt), .val (.int (k - (48 : Int32))), .val (.int dg), .unset, .unset] [(.int dg)])) _
            refine XS.ifNo X0.here hx rfl (hb hby at_84) rfl ((if0 _ _).trans (feq hc84).1) ?_
            show Steps p.tables e below (s₁.setTop (mkF m 87 #[.val (.int p1), .val (.int p2), .val (.int k), .val (.int f), .val (.int (k ||| (32 : Int32))), .val (.int lt), .val (.int (k - (48 : Int32))), .val (.int dg), .unset, .unset] [])) _
            refine XS.iconst X0.here hx rfl (hb hby at_87) ?_
            show Steps p.tables e below (s₁.setTop (mkF m 88 #[.val (.int p1), .val (.int p2), .val (.int k), .val (.int f), .val (.int (k ||| (32 : Int32))), .val (.int lt), .val (.int (k - (48 : Int32))), .val (.int dg), .unset, .unset] [(.int (1 : Int32))])) _
            refine XS.goto X0.here hx rfl (pc0 := 88) (pc' := 92) rfl (hb hby at_88) (by decide) (by decide) ?_
            exact kt
          exact ⟨(1 : Int32), by first | (simp only [own_X, hc75, hc79, hc84, not_true_eq_false, not_false_eq_true, and_true, true_and, and_false, false_and, or_true, true_or, or_false, false_or, and_self, or_self, eq_self, if_true, if_false]; done) | (simp [own_X, hc75, hc79, hc84]; done), fun t kt => (go24 t (go25 t (go26 t (go28 t kt))))⟩
      · have go29 : ∀ t, Steps p.tables e below (s₁.setTop (mkF m 92 #[.val (.int p1), .val (.int p2), .val (.int k), .val (.int f), .val (.int (k ||| (32 : Int32))), .val (.int lt), .val (.int (k - (48 : Int32))), .val (.int dg), .unset, .unset] [(.int (0 : Int32))])) t → Steps p.tables e below (s₁.setTop (mkF m 79 #[.val (.int p1), .val (.int p2), .val (.int k), .val (.int f), .val (.int (k ||| (32 : Int32))), .val (.int lt), .val (.int (k - (48 : Int32))), .val (.int dg), .unset, .unset] [(.int f)])) t := by
          intro t kt
          show Steps p.tables e below (s₁.setTop (mkF m 79 #[.val (.int p1), .val (.int p2), .val (.int k), .val (.int f), .val (.int (k ||| (32 : Int32))), .val (.int lt), .val (.int (k - (48 : Int32))), .val (.int dg), .unset, .unset] [(.int f)])) _
          refine XS.ifYes X0.here hx rfl (pc0 := 79) (pc' := 91) rfl (hb hby at_79) rfl ((if0 _ _).trans (feq hc79).2) (by decide) (by decide) ?_
          show Steps p.tables e below (s₁.setTop (mkF m 91 #[.val (.int p1), .val (.int p2), .val (.int k), .val (.int f), .val (.int (k ||| (32 : Int32))), .val (.int lt), .val (.int (k - (48 : Int32))), .val (.int dg), .unset, .unset] [])) _
          refine XS.iconst X0.here hx rfl (hb hby at_91) ?_
          exact kt
        exact ⟨(0 : Int32), by first | (simp only [own_X, hc75, hc79, not_true_eq_false, not_false_eq_true, and_true, true_and, and_false, false_and, or_true, true_or, or_false, false_or, and_self, or_self, eq_self, if_true, if_false]; done) | (simp [own_X, hc75, hc79]; done), fun t kt => (go24 t (go25 t (go29 t kt)))⟩
    · have go30 : ∀ t, Steps p.tables e below (s₁.setTop (mkF m 92 #[.val (.int p1), .val (.int p2), .val (.int k), .val (.int f), .val (.int (k ||| (32 : Int32))), .val (.int lt), .val (.int (k - (48 : Int32))), .val (.int dg), .unset, .unset] [(.int (1 : Int32))])) t → Steps p.tables e below (s₁.setTop (mkF m 75 #[.val (.int p1), .val (.int p2), .val (.int k), .val (.int f), .val (.int (k ||| (32 : Int32))), .val (.int lt), .val (.int (k - (48 : Int32))), .val (.int dg), .unset, .unset] [(.int lt)])) t := by
        intro t kt
        show Steps p.tables e below (s₁.setTop (mkF m 75 #[.val (.int p1), .val (.int p2), .val (.int k), .val (.int f), .val (.int (k ||| (32 : Int32))), .val (.int lt), .val (.int (k - (48 : Int32))), .val (.int dg), .unset, .unset] [(.int lt)])) _
        refine XS.ifYes X0.here hx rfl (pc0 := 75) (pc' := 87) rfl (hb hby at_75) rfl ((if0 _ _).trans (feq hc75).2) (by decide) (by decide) ?_
        show Steps p.tables e below (s₁.setTop (mkF m 87 #[.val (.int p1), .val (.int p2), .val (.int k), .val (.int f), .val (.int (k ||| (32 : Int32))), .val (.int lt), .val (.int (k - (48 : Int32))), .val (.int dg), .unset, .unset] [])) _
        refine XS.iconst X0.here hx rfl (hb hby at_87) ?_
        show Steps p.tables e below (s₁.setTop (mkF m 88 #[.val (.int p1), .val (.int p2), .val (.int k), .val (.int f), .val (.int (k ||| (32 : Int32))), .val (.int lt), .val (.int (k - (48 : Int32))), .val (.int dg), .unset, .unset] [(.int (1 : Int32))])) _
        refine XS.goto X0.here hx rfl (pc0 := 88) (pc' := 92) rfl (hb hby at_88) (by decide) (by decide) ?_
        exact kt
      exact ⟨(1 : Int32), by first | (simp only [own_X, hc75, not_true_eq_false, not_false_eq_true, and_true, true_and, and_false, false_and, or_true, true_or, or_false, false_or, and_self, or_self, eq_self, if_true, if_false]; done) | (simp [own_X, hc75]; done), fun t kt => (go24 t (go30 t kt))⟩
  refine own_go go23 ?_
  have go31 : ∀ t, Steps p.tables e below (s₁.setTop (mkF m 96 #[.val (.int p1), .val (.int p2), .val (.int k), .val (.int f), .val (.int (k ||| (32 : Int32))), .val (.int lt), .val (.int (k - (48 : Int32))), .val (.int dg), .val (.int ex), .unset] [(.int f), (.int k)])) t → Steps p.tables e below (s₁.setTop (mkF m 92 #[.val (.int p1), .val (.int p2), .val (.int k), .val (.int f), .val (.int (k ||| (32 : Int32))), .val (.int lt), .val (.int (k - (48 : Int32))), .val (.int dg), .unset, .unset] [(.int ex)])) t := by
    intro t kt
    show Steps p.tables e below (s₁.setTop (mkF m 92 #[.val (.int p1), .val (.int p2), .val (.int k), .val (.int f), .val (.int (k ||| (32 : Int32))), .val (.int lt), .val (.int (k - (48 : Int32))), .val (.int dg), .unset, .unset] [(.int ex)])) _
    refine XS.istore X0.here hx rfl (hb hby at_92) rfl (l' := #[.val (.int p1), .val (.int p2), .val (.int k), .val (.int f), .val (.int (k ||| (32 : Int32))), .val (.int lt), .val (.int (k - (48 : Int32))), .val (.int dg), .val (.int ex), .unset]) rfl ?_
    show Steps p.tables e below (s₁.setTop (mkF m 94 #[.val (.int p1), .val (.int p2), .val (.int k), .val (.int f), .val (.int (k ||| (32 : Int32))), .val (.int lt), .val (.int (k - (48 : Int32))), .val (.int dg), .val (.int ex), .unset] [])) _
    refine XS.iloadN X0.here hx rfl (hb hby at_94) rfl ?_
    show Steps p.tables e below (s₁.setTop (mkF m 95 #[.val (.int p1), .val (.int p2), .val (.int k), .val (.int f), .val (.int (k ||| (32 : Int32))), .val (.int lt), .val (.int (k - (48 : Int32))), .val (.int dg), .val (.int ex), .unset] [(.int k)])) _
    refine XS.iloadN X0.here hx rfl (hb hby at_95) rfl ?_
    exact kt
  refine own_go go31 ?_
  obtain ⟨_, _, ⟨T32, L32, k32, n32⟩, -, X32, ⟨Lc32, hQ32, l32, y32, z32⟩, st32⟩ := Jvm.LawKit.callS X0 hx (y := (⟨"com/example/rowgraft/rowgraft/model/Parameter", "isNameChar", "(CZ)Z"⟩ : MethodName)) hown (mvT hZ (hw _ (List.mem_of_getElem? (i := 0) rfl))) (mvT hZ (hw _ (List.mem_of_getElem? (i := 1) rfl))) (mvT hZ (hw _ (List.mem_of_getElem? (i := 2) rfl))) (mvT hZ (hw _ (List.mem_of_getElem? (i := 3) rfl))) (by decide) (backOf (W := 0) (rm1 l Z a0 hw [] k f h0 n0 Z0) hZ (hw _ (List.mem_of_getElem? (i := 3) rfl)) (hw _ (List.mem_of_getElem? (i := 2) rfl)) (by decide) (by decide)) (g := (mkF m 96 #[.val (.int p1), .val (.int p2), .val (.int k), .val (.int f), .val (.int (k ||| (32 : Int32))), .val (.int lt), .val (.int (k - (48 : Int32))), .val (.int dg), .val (.int ex), .unset] [(.int f), (.int k)])) rfl (by rw [hml]; rfl) (argsL := [(.int k), (.int f)]) (rest := []) (lenOf pd_1 rfl) rfl (by show 2 * 0 + _ ≤ _; exact Nat.le_of_eq rfl) (hb hby at_96) (fun _ _ => ⟨rfl, e0, (by decide : 0 + 0 ≤ _), (by decide : 0 + 0 ≤ _)⟩)
  dsimp only [Pt.U, Pt.locs, Pt.cells, Pt.slots] at X32 l32 y32 z32 st32 hQ32
  subst l32 y32 z32
  obtain ⟨rfl, N32q, e_a⟩ := hQ32
  have N32 := Fr.app N0 N32q
  refine own_go (S' := T32.setTop (mkF m 99 #[.val (.int p1), .val (.int p2), .val (.int k), .val (.int f), .val (.int (k ||| (32 : Int32))), .val (.int lt), .val (.int (k - (48 : Int32))), .val (.int dg), .val (.int ex), .unset] [(.int (own_N k f))])) st32 ?_
  have go33 : ∀ t, Steps p.tables e below (T32.setTop (mkF m 113 #[.val (.int p1), .val (.int p2), .val (.int k), .val (.int f), .val (.int (k ||| (32 : Int32))), .val (.int lt), .val (.int (k - (48 : Int32))), .val (.int dg), .val (.int ex), .val (.int (own_N k f))] [(.int (1 : Int32))])) t → Steps p.tables e below (T32.setTop (mkF m 99 #[.val (.int p1), .val (.int p2), .val (.int k), .val (.int f), .val (.int (k ||| (32 : Int32))), .val (.int lt), .val (.int (k - (48 : Int32))), .val (.int dg), .val (.int ex), .unset] [(.int (own_N k f))])) t := by
    intro t kt
    show Steps p.tables e below (T32.setTop (mkF m 99 #[.val (.int p1), .val (.int p2), .val (.int k), .val (.int f), .val (.int (k ||| (32 : Int32))), .val (.int lt), .val (.int (k - (48 : Int32))), .val (.int dg), .val (.int ex), .unset] [(.int (own_N k f))])) _
    refine XS.istore X32.here hx rfl (hb hby at_99) rfl (l' := #[.val (.int p1), .val (.int p2), .val (.int k), .val (.int f), .val (.int (k ||| (32 : Int32))), .val (.int lt), .val (.int (k - (48 : Int32))), .val (.int dg), .val (.int ex), .val (.int (own_N k f))]) rfl ?_
    show Steps p.tables e below (T32.setTop (mkF m 101 #[.val (.int p1), .val (.int p2), .val (.int k), .val (.int f), .val (.int (k ||| (32 : Int32))), .val (.int lt), .val (.int (k - (48 : Int32))), .val (.int dg), .val (.int ex), .val (.int (own_N k f))] [])) _
    refine XS.iload X32.here hx rfl (hb hby at_101) rfl ?_
    show Steps p.tables e below (T32.setTop (mkF m 103 #[.val (.int p1), .val (.int p2), .val (.int k), .val (.int f), .val (.int (k ||| (32 : Int32))), .val (.int lt), .val (.int (k - (48 : Int32))), .val (.int dg), .val (.int ex), .val (.int (own_N k f))] [(.int (own_N k f))])) _
    refine XS.iload X32.here hx rfl (hb hby at_103) rfl ?_
    show Steps p.tables e below (T32.setTop (mkF m 105 #[.val (.int p1), .val (.int p2), .val (.int k), .val (.int f), .val (.int (k ||| (32 : Int32))), .val (.int lt), .val (.int (k - (48 : Int32))), .val (.int dg), .val (.int ex), .val (.int (own_N k f))] [(.int ex), (.int (own_N k f))])) _
    refine XS.icmpNo X32.here hx rfl (hb hby at_105) rfl (teq ((own_NE k f hk).trans (by rw [hex, hlt, hdg]))).2 ?_
    show Steps p.tables e below (T32.setTop (mkF m 108 #[.val (.int p1), .val (.int p2), .val (.int k), .val (.int f), .val (.int (k ||| (32 : Int32))), .val (.int lt), .val (.int (k - (48 : Int32))), .val (.int dg), .val (.int ex), .val (.int (own_N k f))] [])) _
    refine XS.iconst X32.here hx rfl (hb hby at_108) ?_
    show Steps p.tables e below (T32.setTop (mkF m 109 #[.val (.int p1), .val (.int p2), .val (.int k), .val (.int f), .val (.int (k ||| (32 : Int32))), .val (.int lt), .val (.int (k - (48 : Int32))), .val (.int dg), .val (.int ex), .val (.int (own_N k f))] [(.int (1 : Int32))])) _
    refine XS.goto X32.here hx rfl (pc0 := 109) (pc' := 113) rfl (hb hby at_109) (by decide) (by decide) ?_
    exact kt
  refine own_go go33 ?_
  obtain ⟨fs, hr, hrun, hended, hW, hsame⟩ := X32.leave (v := some (.int (1 : Int32))) (fun h => by rw [Bd.returns] at h; cases h)
  refine ⟨_, _, retN X32 hx (t := .boolean) Bd.returns (by simp) (hb hby at_113) hr, hrun, hended, _, _, rfl, ?_, ⟨_, rfl⟩, hW, hsame.mono (by decide) (by decide)⟩
  show Q0 Z  h0 n0 _ T32.heap _
  rw [e_a]
  exact ⟨rfl, N32⟩
set_option maxRecDepth 65536 in
set_option maxHeartbeats 40000000 in
theorem comes_1 {Post : Tables → Env → Array Value → State → Outcome → State → Prop} (hpost : ∀ tb e args s v u, (limb_1_1.after args s (.returned v) u = true ∧ limb_1_2.after args s (.returned v) u = true ∧ True) → FrameEnd s (.returned v) u (Jvm.fieldLocs frame_1_writes args s ++ Jvm.arrayLocs frame_1_arrays args s ++ Jvm.staticLocs frame_1_statics s) 0 0 → Post tb e args s (.returned v) u) :
    ArmFor flags0 classFile x code maxLocals ret World_1 tables_1 room_1 Calls_1 rest_1 Pre_1 Post := by
  intro l hfl _ _ p e ha hc hk s m args below hf hA hF happ hP
  obtain ⟨hcalls, hrest, hpre⟩ := hP
  obtain ⟨-, -, -, hnamed, -, -, -, hat⟩ := (Spec.applies_iff hf).mp happ
  obtain ⟨hg, hn⟩ := and_e (Cond.before_iff.mp (show (Jvm.Cond.and given_1 narrow_1).before args s = true from hpre))
  obtain ⟨gc, r0⟩ := and_e hg
  obtain ⟨g0, r1⟩ := and_e r0
  obtain ⟨w0, w1, rfl⟩ : ∃ w0 w1 : Value, args = #[w0, w1] := by
    have hs : args.size = 2 := by simpa [Cond.value, given_1] using gc
    obtain ⟨L⟩ := args
    match L, hs with
    | [w0, w1], _ => exact ⟨w0, w1, rfl⟩
  have hw := fun d (hd : d ∈ tables_1) => atoms_spec (ws := Jvm.Cond.code x code maxLocals ret :: tables_1) hat d (List.mem_cons_of_mem _ hd)
  obtain ⟨i0, ei0⟩ := is_v g0
  obtain rfl : w0 = (.int i0) := Option.some.inj ei0
  obtain ⟨i1, ei1⟩ := is_v r1
  obtain rfl : w1 = (.int i1) := Option.some.inj ei1
  obtain ⟨n, o, h1, h2, h3, _, L, rfl, ⟨rfl, N⟩, hq⟩ := rm0 l s _ hw tables_1 i0 i1 s.heap s.heap.size (Nat.le_refl _) p e ha hc hk s m _ below hf ((Spec.applies_iff_loose hf).mp happ).1 ⟨rfl, State.Warmed39.refl s, rfl⟩ trivial
  refine ⟨n, _, h1, h2, h3, hpost _ _ _ _ _ _ ⟨Cond.after_iff.mpr rfl, Cond.after_iff.mpr (eq_i res_at (Term.int_eval (1)) rfl), trivial⟩ ⟨hq.1, hq.2.1, (hq.2.2.sift fun y hy => Or.inr (N y hy)).mono (by decide) (by decide)⟩⟩
theorem main_1_1 : Claimed_1_1 := comes_1 fun _ _ _ _ _ _ h hF => ⟨h.1, hF⟩
theorem main_1_2 : Claimed_1_2 := comes_1 fun _ _ _ _ _ _ h hF => ⟨h.2.1, hF⟩
end Jvm.Pilot.@@N@@
namespace Jvm.Pilot.@@N@@
open Jvm Jvm.ClassFile Sem Op Lib Jvm.Free Jvm.Stand Jvm.Pilot.@@N@@.Jvm.D
/-! MADE BY PROGRAM (witnessworld.py) out of the Statement's table words and the real class files: 9 classes; the members and pool entries that the words name. The judged class is class 1, her method 1. -/
namespace start1
open Jvm.ClassFile
def u (s : String) : CpInfo := .utf8 (stringToUtf16 s)
/-- a pool by its gaps: so many unusable entries, then the entry; so many at the end -/
def gap : Nat → List CpInfo → List CpInfo
  | 0, r => r
  | n + 1, r => .unusable :: gap n r
def poolList (es : List (Nat × CpInfo)) (last : Nat) : List CpInfo := es.foldr (fun e r => gap e.1 (e.2 :: r)) (gap last [])
def pool (es : List (Nat × CpInfo)) (last : Nat) : Array CpInfo := ⟨poolList es last⟩
def fileOf (pool : Array CpInfo) (this : Nat) (attrs : Array Attribute := #[]) (ms : Array MethodInfo := #[]) (fl : Nat := 33) (sup : Nat := 0) (ifs : Array Nat := #[]) (fds : Array FieldInfo := #[]) : ClassFile where
  minorVersion := 0
  majorVersion := 65
  constantPool := pool
  accessFlags := fl
  thisClass := this
  superClass := sup
  interfaces := ifs
  fields := fds
  methods := ms
  attributes := attrs
def plain (name : String) (sup : Option ClassId) : Class where
  name := name
  kind := .ordinary
  loader := none
  accessFlags := 33
  super := sup
  interfaces := #[]
  cf := none
  fields := #[]
  methods := #[]
  instanceTypes := #[]
  staticTypes := #[]
  resolved := #[]
  callSites := []
  init := .initialized
  statics := none
  mirror := none

def pool0 : Array CpInfo := pool [(5, u "<init>"), (0, u "()V"), (1, .class_ 10), (1, u "java/lang/Object")] 113

def k0m0 : Method := { name := "<init>", desc := "()V", sig := { parameters := [], returnType := none }, accessFlags := 1, code := none }
/-- java/lang/Object -/
def k0 : Class := { plain "java/lang/Object" none with
  accessFlags := 33
  interfaces := #[]
  cf := some (fileOf pool0 8 #[] #[{ accessFlags := 1, nameIndex := 5, descriptorIndex := 6, attributes := #[] }] 33 0 #[] #[])
  fields := #[]
  methods := #[k0m0]
  instanceTypes := #[]
  staticTypes := #[]
  resolved := Array.replicate 124 none
  statics := none }

def pool1 : Array CpInfo := pool [(2, .class_ 4), (1, u "java/lang/Object"), (0, u "<init>"), (0, u "()V"), (0, .methodref 8 9), (0, .class_ 10), (0, .nameAndType 11 12), (0, u "com/example/rowgraft/rowgraft/model/Parameter"), (0, u "isNameChar"), (0, u "(CZ)Z"), (0, .class_ 14), (0, u "com/example/rowgraft/rowgraft/model/ParameterIsNameCharPinLaw"), (2, u "law"), (0, u "(II)Z")] 3

def k1m0 : Method := { name := "<init>", desc := "()V", sig := { parameters := [], returnType := none }, accessFlags := 2, code := none }
def k1c1 : Code := { maxStack := 2, maxLocals := 10, code := code, exceptionTable := #[], attributes := #[] }
def k1m1 : Method := { name := "law", desc := "(II)Z", sig := { parameters := [.int, .int], returnType := some .boolean }, accessFlags := 9, code := some k1c1 }
/-- com/example/rowgraft/rowgraft/model/ParameterIsNameCharPinLaw -/
def k1 : Class := { plain "com/example/rowgraft/rowgraft/model/ParameterIsNameCharPinLaw" (some 0) with
  accessFlags := 49
  interfaces := #[]
  cf := some (fileOf pool1 13 #[] #[{ accessFlags := 2, nameIndex := 5, descriptorIndex := 6, attributes := #[] }, { accessFlags := 9, nameIndex := 17, descriptorIndex := 18, attributes := #[] }] 49 2 #[] #[])
  fields := #[]
  methods := #[k1m0, k1m1]
  instanceTypes := #[]
  staticTypes := #[]
  resolved := Array.replicate 22 none
  statics := none }

def pool2 : Array CpInfo := pool [(2, .class_ 4), (1, u "java/lang/Object"), (3, .class_ 10), (1, u "com/example/rowgraft/rowgraft/model/Parameter"), (0, u "name"), (0, u "Ljava/lang/String;"), (2, u "value"), (0, u "Ljava/lang/Object;"), (57, .methodref 8 75), (0, .nameAndType 76 77), (0, u "isDigit"), (0, u "(C)Z"), (20, u "isNameChar"), (0, u "(CZ)Z")] 38

def k2c0 : Code := { maxStack := 2, maxLocals := 3, code := prog_33_method_3_code, exceptionTable := #[], attributes := #[] }
def k2m0 : Method := { name := "isNameChar", desc := "(CZ)Z", sig := { parameters := [.char, .boolean], returnType := some .boolean }, accessFlags := 9, code := some k2c0 }
def k2c1 : Code := { maxStack := 2, maxLocals := 1, code := prog_33_method_9_code, exceptionTable := #[], attributes := #[] }
def k2m1 : Method := { name := "isDigit", desc := "(C)Z", sig := { parameters := [.char], returnType := some .boolean }, accessFlags := 10, code := some k2c1 }
/-- com/example/rowgraft/rowgraft/model/Parameter -/
def k2 : Class := { plain "com/example/rowgraft/rowgraft/model/Parameter" (some 0) with
  accessFlags := 49
  interfaces := #[]
  cf := some (fileOf pool2 8 #[] #[{ accessFlags := 9, nameIndex := 98, descriptorIndex := 99, attributes := #[] }, { accessFlags := 10, nameIndex := 76, descriptorIndex := 77, attributes := #[] }] 49 2 #[] #[{ accessFlags := 18, nameIndex := 11, descriptorIndex := 12, attributes := #[] }, { accessFlags := 18, nameIndex := 15, descriptorIndex := 16, attributes := #[] }])
  fields := #[{ name := "name", type := (.object "java/lang/String"), accessFlags := 18, slot := 0, constantValue := 0 }, { name := "value", type := (.object "java/lang/Object"), accessFlags := 18, slot := 1, constantValue := 0 }]
  methods := #[k2m0, k2m1]
  instanceTypes := #[(.object "java/lang/String"), (.object "java/lang/Object")]
  staticTypes := #[]
  resolved := Array.replicate 138 none
  statics := none }

def pool3 : Array CpInfo := pool [(1, u "java/lang/Cloneable"), (0, .class_ 1), (0, u "java/lang/Object"), (0, .class_ 3)] 3

/-- java/lang/Cloneable -/
def k3 : Class := { plain "java/lang/Cloneable" (some 0) with
  accessFlags := 1537
  interfaces := #[]
  cf := some (fileOf pool3 2 #[] #[] 1537 4 #[] #[])
  fields := #[]
  methods := #[]
  instanceTypes := #[]
  staticTypes := #[]
  resolved := Array.replicate 8 none
  statics := none }

def pool4 : Array CpInfo := pool [(1, u "java/io/Serializable"), (0, .class_ 1), (0, u "java/lang/Object"), (0, .class_ 3)] 3

/-- java/io/Serializable -/
def k4 : Class := { plain "java/io/Serializable" (some 0) with
  accessFlags := 1537
  interfaces := #[]
  cf := some (fileOf pool4 2 #[] #[] 1537 4 #[] #[])
  fields := #[]
  methods := #[]
  instanceTypes := #[]
  staticTypes := #[]
  resolved := Array.replicate 8 none
  statics := none }

/-- the primitive byte -/
def k5 : Class := { plain "byte" none with kind := .primitive 'B', accessFlags := 0x411 }
/-- [B -/
def k6 : Class := { plain "[B" (some 0) with kind := .array 5 .byte, interfaces := #[3, 4], accessFlags := 1041 }

/-- the primitive int -/
def k7 : Class := { plain "int" none with kind := .primitive 'I', accessFlags := 0x411 }
/-- [I -/
def k8 : Class := { plain "[I" (some 0) with kind := .array 7 .int, interfaces := #[3, 4], accessFlags := 1041 }

def heap : Heap := #[]
def classes : Array Class := #[k0, k1, k2, k3, k4, k5, k6, k7, k8]
def interned : List (Array UInt16 × Addr) := []
def slotsUsed : Nat := 0
def theMethod : MethodId := ⟨1, 1⟩
def args0 : Array Value := #[.int 65, .int 1]
def aboutOver (below : List Frame) : State where
  vm := { classes := classes, interned := interned.toArray }
  heap := heap
  slotsUsed := slotsUsed
  threads := #[{ frames := .invoking theMethod args0 :: below }]
def below0 : List Frame := [.native { method := ⟨0, 0⟩, args := #[] }]
def about1 : State := aboutOver below0
def p0 : Program := .bare "" "" ""
def e0 : Env := launch0.env 0 0 0
theorem w_frames : about1.frames = Frame.invoking theMethod args0 :: below0 := rfl
set_option maxRecDepth 65536 in
theorem w_args : argsFit about1.vm theMethod args0 = true := by decide +kernel
set_option maxRecDepth 65536 in
theorem w_heap : heapFits about1 = true := by decide +kernel
set_option maxRecDepth 65536 in
theorem w_runnable : about1.curStatus? = some .runnable := by decide +kernel
set_option maxRecDepth 65536 in
theorem w_alone : about1.alone = true := by decide +kernel
set_option maxRecDepth 65536 in
theorem w_named : about1.methodNamed? x = some theMethod := by decide +kernel
set_option maxRecDepth 65536 in
theorem w_hears : about1.hears theMethod below0 = true := by decide +kernel
set_option maxRecDepth 65536 in
theorem w_ripe : about1.ripe theMethod args0 below0 = true := by decide +kernel
theorem w_running : about1.status = .running := rfl
set_option maxRecDepth 65536 in
theorem w_room : about1.hasRoom e0.platform room_1 = true :=
  launch0.hasRoom_least _ room_1 (by decide +kernel) (by decide +kernel) (by decide +kernel) (by decide +kernel) (by decide +kernel) (by decide +kernel)
theorem allAtoms_all (ts : List Jvm.Cond) (a : Array Jvm.Value) (st : Jvm.State) : (allAtoms ts).before a st = ts.all (fun c => c.before a st) := by
  induction ts with
  | nil => rfl
  | cons c t ih =>
    show (Jvm.Cond.and c (allAtoms t)).before a st = _
    rw [Jvm.Cond.before_and, ih, List.all_cons]
def words1 : List Jvm.Cond := Jvm.Cond.code x code maxLocals ret :: tables_1
/-- a 'code' word, met by the world's own term for the bytes: nothing is compared byte by byte -/
theorem code_word {y : MethodName} {bytes : ByteArray} {mx : Nat} {rt : Option FieldType} {a : Array Value} {s : State} {m : MethodId} {meth : Method} {c : Code} (h1 : s.methodNamed? y = some m) (h2 : s.vm.method? m = some meth) (h3 : meth.code = some c) (h4 : c.code = bytes)
    (h5 : (c.maxLocals == mx && c.exceptionTable.isEmpty && decide (c.maxStack ≤ mostOperands) && decide (meth.sig.returnType = rt) && !meth.locks && decide (parseMethodDescriptor y.desc = some meth.sig)) = true) : (Jvm.Cond.code y bytes mx rt).before a s = true := by
  simp only [Bool.and_eq_true, beq_iff_eq, Bool.not_eq_true', decide_eq_true_eq] at h5
  obtain ⟨⟨⟨⟨⟨g1, g2⟩, g3⟩, g4⟩, g5⟩, g6⟩ := h5
  simp [Cond.before, Cond.holds, Cond.value, h1, h2, h3, h4, g1, g2, g3, g4, g5, g6]
def isCode : Jvm.Cond → Bool
  | .code _ _ _ _ => true
  | _ => false
theorem all_split {L : List Jvm.Cond} {P : Jvm.Cond → Bool} (h1 : L.all (fun c => isCode c || P c) = true) (h2 : ∀ c ∈ L.filter isCode, P c = true) : L.all P = true := by
  refine List.all_eq_true.mpr fun c hc => ?_
  have h := List.all_eq_true.mp h1 c hc
  rcases Bool.eq_false_or_eq_true (isCode c) with hi | hi
  · exact h2 c (List.mem_filter.mpr ⟨hc, hi⟩)
  · simpa [hi] using h
set_option maxRecDepth 65536 in
theorem w_c0 : (Jvm.Cond.code x code maxLocals ret).before args0 about1 = true := code_word (m := ⟨1, 1⟩) (meth := k1m1) (c := k1c1) (by decide +kernel) rfl rfl rfl (by decide +kernel)
set_option maxRecDepth 65536 in
theorem w_c1 : (Jvm.Cond.code ({ cls := "com/example/rowgraft/rowgraft/model/Parameter", name := "isNameChar", desc := "(CZ)Z" } : Jvm.MethodName) prog_33_method_3_code (3 : Nat) (Option.some Jvm.ClassFile.FieldType.boolean)).before args0 about1 = true := code_word (m := ⟨2, 0⟩) (meth := k2m0) (c := k2c0) (by decide +kernel) rfl rfl rfl (by decide +kernel)
set_option maxRecDepth 65536 in
theorem w_c2 : (Jvm.Cond.code ({ cls := "com/example/rowgraft/rowgraft/model/Parameter", name := "isDigit", desc := "(C)Z" } : Jvm.MethodName) prog_33_method_9_code (1 : Nat) (Option.some Jvm.ClassFile.FieldType.boolean)).before args0 about1 = true := code_word (m := ⟨2, 1⟩) (meth := k2m1) (c := k2c1) (by decide +kernel) rfl rfl rfl (by decide +kernel)
def codes1 : List Jvm.Cond := [Jvm.Cond.code x code maxLocals ret, Jvm.Cond.code ({ cls := "com/example/rowgraft/rowgraft/model/Parameter", name := "isNameChar", desc := "(CZ)Z" } : Jvm.MethodName) prog_33_method_3_code (3 : Nat) (Option.some Jvm.ClassFile.FieldType.boolean), Jvm.Cond.code ({ cls := "com/example/rowgraft/rowgraft/model/Parameter", name := "isDigit", desc := "(C)Z" } : Jvm.MethodName) prog_33_method_9_code (1 : Nat) (Option.some Jvm.ClassFile.FieldType.boolean)]
set_option maxRecDepth 65536 in
theorem codes_eq : words1.filter isCode = codes1 := rfl
theorem w_codes : ∀ c ∈ words1.filter isCode, c.before args0 about1 = true := by
  rw [codes_eq]
  intro c hc
  simp only [codes1, List.mem_cons, List.not_mem_nil, or_false] at hc
  rcases hc with rfl | rfl | rfl
  · exact w_c0
  · exact w_c1
  · exact w_c2
set_option maxRecDepth 65536 in
theorem w_t1 : words1.all (fun c => isCode c || c.before args0 about1) = true := by decide +kernel
theorem w_tables : (allAtoms (Jvm.Cond.code x code maxLocals ret :: tables_1)).before args0 about1 = true := by
  rw [allAtoms_all]
  show words1.all (fun c => c.before args0 about1) = true
  refine all_split ?_ w_codes
  rw [w_t1]
set_option maxRecDepth 65536 in
theorem w_case : (Jvm.Cond.and given_1 narrow_1).before args0 about1 = true := by decide +kernel
theorem w_applies : (headSpec (Jvm.Cond.code x code maxLocals ret :: tables_1) room_1).applies x e0.platform about1 = true :=
  (Spec.applies_iff w_frames).mpr ⟨w_running, w_runnable, w_alone, w_named, w_hears, w_ripe, w_room, w_tables⟩
theorem atStart : AtStart classFile x code maxLocals ret World_1 tables_1 room_1 Calls_1 rest_1 Pre_1 launch0 p0 e0 about1 theMethod args0 below0 :=
  ⟨lists_1, trivial, launch0.admits_env _ _ _, launch0.least_env, fairChoices_fair.cas, fairChoices_fair.clock, w_frames, w_args, w_heap, w_applies, trivial, trivial, w_case⟩
end start1
theorem witness_1 : WitnessClaimed_1 := ⟨start1.p0, start1.e0, start1.about1, start1.theMethod, start1.args0, start1.below0, start1.atStart⟩
end Jvm.Pilot.@@N@@
