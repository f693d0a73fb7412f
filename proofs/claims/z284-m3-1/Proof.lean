import JvmDerived
import JvmDerived.Pilot.@@N@@Statement
import JvmDerived.Pilot.@@N@@Code
set_option linter.unusedVariables false
set_option linter.unusedSimpArgs false
namespace Jvm.Pilot.@@N@@
open Jvm Jvm.ClassFile Sem Op Lib Jvm.Free Jvm.Stand Jvm.LawKit Jvm.RoadKit Bundle Jvm.Pilot.@@N@@.Jvm.D
/-- one stretch of the walk, then the rest of it -/
theorem own_go {tb : Tables} {e : Env} {below : List Frame} {S S' : State} {K : State → Outcome → Prop} (st : ∀ t, Steps tb e below S' t → Steps tb e below S t) (h : ∃ t o, Steps tb e below S' t ∧ K t o) : ∃ t o, Steps tb e below S t ∧ K t o := by
  obtain ⟨t, o, h1, h2⟩ := h
  exact ⟨t, o, st _ h1, h2⟩
theorem pd_0 : parseMethodDescriptor "(JI)Z" = some ⟨[.long, .int], some .boolean⟩ := by decide +kernel
theorem pd_1 : parseMethodDescriptor "(J)Z" = some ⟨[.long], some .boolean⟩ := by decide +kernel
theorem d1_0 : decode method_2_code 0 = .ok (.lload_n 0, 1) := by decide +kernel
theorem d1_1 : decode method_2_code 1 = .ok (.bipush 8, 2) := by decide +kernel
theorem d1_3 : decode method_2_code 3 = .ok (.iload_n 2, 1) := by decide +kernel
theorem d1_4 : decode method_2_code 4 = .ok (.imul, 1) := by decide +kernel
theorem d1_5 : decode method_2_code 5 = .ok (.lushr, 1) := by decide +kernel
theorem d1_6 : decode method_2_code 6 = .ok (.ldc2_w 7, 3) := by decide +kernel
theorem d1_9 : decode method_2_code 9 = .ok (.land, 1) := by decide +kernel
theorem d1_10 : decode method_2_code 10 = .ok (.lstore_n 3, 1) := by decide +kernel
theorem d1_11 : decode method_2_code 11 = .ok (.lload_n 3, 1) := by decide +kernel
theorem d1_12 : decode method_2_code 12 = .ok (.ldc2_w 9, 3) := by decide +kernel
theorem d1_15 : decode method_2_code 15 = .ok (.lcmp, 1) := by decide +kernel
theorem d1_16 : decode method_2_code 16 = .ok (.ifCond .lt 15, 3) := by decide +kernel
theorem d1_19 : decode method_2_code 19 = .ok (.lload_n 3, 1) := by decide +kernel
theorem d1_20 : decode method_2_code 20 = .ok (.ldc2_w 11, 3) := by decide +kernel
theorem d1_23 : decode method_2_code 23 = .ok (.lcmp, 1) := by decide +kernel
theorem d1_24 : decode method_2_code 24 = .ok (.ifCond .gt 7, 3) := by decide +kernel
theorem d1_27 : decode method_2_code 27 = .ok (.iconst 1, 1) := by decide +kernel
theorem d1_28 : decode method_2_code 28 = .ok (.goto 4, 3) := by decide +kernel
theorem d1_31 : decode method_2_code 31 = .ok (.iconst 0, 1) := by decide +kernel
theorem d1_32 : decode method_2_code 32 = .ok (.ireturn, 1) := by decide +kernel
theorem pn_1 : plainName "com/example/tapereel/tapereel/xdp/BytesAreDigitsPinLaw" = true := by first | (simp [plainName, overriddenIn]; done) | decide +kernel
theorem ef_1 (m : MethodId) (x0 : Int64) (x1 : Int32) : entryFrame m #[(.long x0), (.int x1)] 5 = mkF m 0 #[.val (.long x0), .second, .val (.int x1), .unset, .unset] [] := by first | (simp [entryFrame, mkF, argsToLocals, Value.category]; done) | rfl
def own_D (q1 : Int64) (p2 : Int32) : Int32 := if ¬ (lcmpW (((q1.toUInt64 >>> (((8 : Int32) * p2) &&& 0x3f).toInt64.toUInt64).toInt64) &&& (255 : Int64)) (48 : Int64)) < (0 : Int32) ∧ ¬ (0 : Int32) < (lcmpW (((q1.toUInt64 >>> (((8 : Int32) * p2) &&& 0x3f).toInt64.toUInt64).toInt64) &&& (255 : Int64)) (57 : Int64)) then 1 else 0
def Q1 (Z : State) (q1 : Int64) (p2 : Int32) (h0 : Heap) (n0 : Nat) (v : Option Value) (h : Heap) (L : List Loc) : Prop := v = some (.int (own_D q1 p2)) ∧ Fr n0 L ∧ h = h0
set_option maxRecDepth 65536 in
set_option maxHeartbeats 40000000 in
theorem rm1 (l : Launch) (Z : State) (a0 : Array Value) (hw : ∀ d ∈ tables_1, d.before a0 Z = true) (ws : List Jvm.Cond) (q1 : Int64) (p2 : Int32) (h0 : Heap) (n0 : Nat) (Z0 : n0 ≤ h0.size) :
    MetFree l (⟨"com/example/tapereel/tapereel/xdp/BytesAreDigitsPinLaw", "isDigitByte", "(JI)Z"⟩ : MethodName) (head1 (Jvm.Cond.code (⟨"com/example/tapereel/tapereel/xdp/BytesAreDigitsPinLaw", "isDigitByte", "(JI)Z"⟩ : MethodName) method_2_code 5 (some .boolean) :: ws) ({ frames := 0, cells := 0, slots := 0, locals := 0 } : Room)) (fun a U => a = #[(.long q1), (.int p2)] ∧ Z.Warmed39 U.vm ∧ U.heap = h0) (fun _ _ _ _ _ => True) (fun _ U o U' => ∃ v L, o = .returned v ∧ Q1 Z q1 p2 h0 n0 v U'.heap L ∧ FrameEnd U o U' L ({ frames := 0, cells := 0, slots := 0, locals := 0 } : Room).cells ({ frames := 0, cells := 0, slots := 0, locals := 0 } : Room).slots) := by
  refine MetFree.of_bodySF (plainFor_of_name pn_1) hisR ?_
  intro p e s m args below meth c s₁ Bd hml0 hP hK
  obtain ⟨rfl, hZ, hh⟩ := hP
  have hx := Bd.exec
  have hby := Bd.bytes
  have hml : c.maxLocals = 5 := hml0
  have hown : s.vm.findClass "com/example/tapereel/tapereel/xdp/BytesAreDigitsPinLaw" = some m.cls := findClass_of_methodNamed Bd.named
  have hnm := (name_of_methodNamed Bd.named Bd.method).1
  have X0 : Stand p l e ({ frames := 0, cells := 0, slots := 0, locals := 0 } : Room) s m #[(.long q1), (.int p2)] below meth c s₁ [] 0 0 := Stand.of_body Bd
  have e0 : s₁.heap = h0 := by rw [← hh, Bd.state]; rfl
  have N0 := Fr.nil n0
  have pre0 : ∀ t, Steps p.tables e below (s₁.setTop (mkF m 0 #[.val (.long q1), .second, .val (.int p2), .unset, .unset] [])) t → Steps p.tables e below (s₁.setTop (entryFrame m #[(.long q1), (.int p2)] 5)) t := fun t k => castTop (ef_1 m q1 p2) k
  refine own_go pre0 ?_
  have go1 : ∀ t, Steps p.tables e below (s₁.setTop (mkF m 16 #[.val (.long q1), .second, .val (.int p2), .val (.long (((q1.toUInt64 >>> (((8 : Int32) * p2) &&& 0x3f).toInt64.toUInt64).toInt64) &&& (255 : Int64))), .second] [(.int (lcmpW (((q1.toUInt64 >>> (((8 : Int32) * p2) &&& 0x3f).toInt64.toUInt64).toInt64) &&& (255 : Int64)) (48 : Int64)))])) t → Steps p.tables e below (s₁.setTop (mkF m 0 #[.val (.long q1), .second, .val (.int p2), .unset, .unset] [])) t := by
    intro t kt
    show Steps p.tables e below (s₁.setTop (mkF m 0 #[.val (.long q1), .second, .val (.int p2), .unset, .unset] [])) _
    refine XS.lloadN X0.here hx rfl (hb hby d1_0) rfl ?_
    show Steps p.tables e below (s₁.setTop (mkF m 1 #[.val (.long q1), .second, .val (.int p2), .unset, .unset] [(.long q1)])) _
    refine XS.bipush X0.here hx rfl (hb hby d1_1) ?_
    show Steps p.tables e below (s₁.setTop (mkF m 3 #[.val (.long q1), .second, .val (.int p2), .unset, .unset] [(.int (8 : Int32)), (.long q1)])) _
    refine XS.iloadN X0.here hx rfl (hb hby d1_3) rfl ?_
    show Steps p.tables e below (s₁.setTop (mkF m 4 #[.val (.long q1), .second, .val (.int p2), .unset, .unset] [(.int p2), (.int (8 : Int32)), (.long q1)])) _
    refine XS.imul X0.here hx rfl (hb hby d1_4) rfl ?_
    show Steps p.tables e below (s₁.setTop (mkF m 5 #[.val (.long q1), .second, .val (.int p2), .unset, .unset] [(.int ((8 : Int32) * p2)), (.long q1)])) _
    refine XS.lushr X0.here hx rfl (hb hby d1_5) rfl ?_
    show Steps p.tables e below (s₁.setTop (mkF m 6 #[.val (.long q1), .second, .val (.int p2), .unset, .unset] [(.long ((q1.toUInt64 >>> (((8 : Int32) * p2) &&& 0x3f).toInt64.toUInt64).toInt64))])) _
    refine X0.ldc2Long hx hown (mvT hZ (hw _ (List.mem_of_getElem? (i := 7) rfl))) (g := (mkF m 6 #[.val (.long q1), .second, .val (.int p2), .unset, .unset] [(.long ((q1.toUInt64 >>> (((8 : Int32) * p2) &&& 0x3f).toInt64.toUInt64).toInt64))])) rfl (hb hby d1_6) _ ?_
    show Steps p.tables e below (s₁.setTop (mkF m 9 #[.val (.long q1), .second, .val (.int p2), .unset, .unset] [(.long (255 : Int64)), (.long ((q1.toUInt64 >>> (((8 : Int32) * p2) &&& 0x3f).toInt64.toUInt64).toInt64))])) _
    refine XS.land X0.here hx rfl (hb hby d1_9) rfl ?_
    show Steps p.tables e below (s₁.setTop (mkF m 10 #[.val (.long q1), .second, .val (.int p2), .unset, .unset] [(.long (((q1.toUInt64 >>> (((8 : Int32) * p2) &&& 0x3f).toInt64.toUInt64).toInt64) &&& (255 : Int64)))])) _
    refine XS.lstoreN X0.here hx rfl (hb hby d1_10) rfl (l' := #[.val (.long q1), .second, .val (.int p2), .val (.long (((q1.toUInt64 >>> (((8 : Int32) * p2) &&& 0x3f).toInt64.toUInt64).toInt64) &&& (255 : Int64))), .second]) rfl ?_
    show Steps p.tables e below (s₁.setTop (mkF m 11 #[.val (.long q1), .second, .val (.int p2), .val (.long (((q1.toUInt64 >>> (((8 : Int32) * p2) &&& 0x3f).toInt64.toUInt64).toInt64) &&& (255 : Int64))), .second] [])) _
    refine XS.lloadN X0.here hx rfl (hb hby d1_11) rfl ?_
    show Steps p.tables e below (s₁.setTop (mkF m 12 #[.val (.long q1), .second, .val (.int p2), .val (.long (((q1.toUInt64 >>> (((8 : Int32) * p2) &&& 0x3f).toInt64.toUInt64).toInt64) &&& (255 : Int64))), .second] [(.long (((q1.toUInt64 >>> (((8 : Int32) * p2) &&& 0x3f).toInt64.toUInt64).toInt64) &&& (255 : Int64)))])) _
    refine X0.ldc2Long hx hown (mvT hZ (hw _ (List.mem_of_getElem? (i := 8) rfl))) (g := (mkF m 12 #[.val (.long q1), .second, .val (.int p2), .val (.long (((q1.toUInt64 >>> (((8 : Int32) * p2) &&& 0x3f).toInt64.toUInt64).toInt64) &&& (255 : Int64))), .second] [(.long (((q1.toUInt64 >>> (((8 : Int32) * p2) &&& 0x3f).toInt64.toUInt64).toInt64) &&& (255 : Int64)))])) rfl (hb hby d1_12) _ ?_
    show Steps p.tables e below (s₁.setTop (mkF m 15 #[.val (.long q1), .second, .val (.int p2), .val (.long (((q1.toUInt64 >>> (((8 : Int32) * p2) &&& 0x3f).toInt64.toUInt64).toInt64) &&& (255 : Int64))), .second] [(.long (48 : Int64)), (.long (((q1.toUInt64 >>> (((8 : Int32) * p2) &&& 0x3f).toInt64.toUInt64).toInt64) &&& (255 : Int64)))])) _
    refine XS.lcmp X0.here hx rfl (hb hby d1_15) rfl ?_
    exact kt
  refine own_go go1 ?_
  rcases Classical.em ((lcmpW (((q1.toUInt64 >>> (((8 : Int32) * p2) &&& 0x3f).toInt64.toUInt64).toInt64) &&& (255 : Int64)) (48 : Int64)) < (0 : Int32)) with hc16 | hc16
  · have go2 : ∀ t, Steps p.tables e below (s₁.setTop (mkF m 32 #[.val (.long q1), .second, .val (.int p2), .val (.long (((q1.toUInt64 >>> (((8 : Int32) * p2) &&& 0x3f).toInt64.toUInt64).toInt64) &&& (255 : Int64))), .second] [(.int (0 : Int32))])) t → Steps p.tables e below (s₁.setTop (mkF m 16 #[.val (.long q1), .second, .val (.int p2), .val (.long (((q1.toUInt64 >>> (((8 : Int32) * p2) &&& 0x3f).toInt64.toUInt64).toInt64) &&& (255 : Int64))), .second] [(.int (lcmpW (((q1.toUInt64 >>> (((8 : Int32) * p2) &&& 0x3f).toInt64.toUInt64).toInt64) &&& (255 : Int64)) (48 : Int64)))])) t := by
      intro t kt
      show Steps p.tables e below (s₁.setTop (mkF m 16 #[.val (.long q1), .second, .val (.int p2), .val (.long (((q1.toUInt64 >>> (((8 : Int32) * p2) &&& 0x3f).toInt64.toUInt64).toInt64) &&& (255 : Int64))), .second] [(.int (lcmpW (((q1.toUInt64 >>> (((8 : Int32) * p2) &&& 0x3f).toInt64.toUInt64).toInt64) &&& (255 : Int64)) (48 : Int64)))])) _
      refine XS.ifYes X0.here hx rfl (pc0 := 16) (pc' := 31) rfl (hb hby d1_16) rfl ((if0 _ _).trans (tlt hc16).1) (by decide) (by decide) ?_
      show Steps p.tables e below (s₁.setTop (mkF m 31 #[.val (.long q1), .second, .val (.int p2), .val (.long (((q1.toUInt64 >>> (((8 : Int32) * p2) &&& 0x3f).toInt64.toUInt64).toInt64) &&& (255 : Int64))), .second] [])) _
      refine XS.iconst X0.here hx rfl (hb hby d1_31) ?_
      exact kt
    refine own_go go2 ?_
    obtain ⟨fs, hr, hrun, hended, hW, hsame⟩ := X0.leave (v := some (.int (0 : Int32))) (fun h => by rw [Bd.returns] at h; cases h)
    refine ⟨_, _, retN X0 hx (t := .boolean) Bd.returns (by simp) (hb hby d1_32) hr, hrun, hended, _, _, rfl, ?_, ⟨_, rfl⟩, hW, hsame.mono (by decide) (by decide)⟩
    show Q1 Z q1 p2 h0 n0 _ s₁.heap _
    rw [e0]
    exact ⟨congrArg (fun z => some (Value.int z)) (show (0 : Int32) = own_D q1 p2 from by first | (simp only [own_D, hc16, not_true_eq_false, not_false_eq_true, and_true, true_and, and_false, false_and, or_true, true_or, or_false, false_or, and_self, or_self, eq_self, if_true, if_false]; done) | (simp [own_D, hc16]; done)), N0, rfl⟩
  · have go3 : ∀ t, Steps p.tables e below (s₁.setTop (mkF m 24 #[.val (.long q1), .second, .val (.int p2), .val (.long (((q1.toUInt64 >>> (((8 : Int32) * p2) &&& 0x3f).toInt64.toUInt64).toInt64) &&& (255 : Int64))), .second] [(.int (lcmpW (((q1.toUInt64 >>> (((8 : Int32) * p2) &&& 0x3f).toInt64.toUInt64).toInt64) &&& (255 : Int64)) (57 : Int64)))])) t → Steps p.tables e below (s₁.setTop (mkF m 16 #[.val (.long q1), .second, .val (.int p2), .val (.long (((q1.toUInt64 >>> (((8 : Int32) * p2) &&& 0x3f).toInt64.toUInt64).toInt64) &&& (255 : Int64))), .second] [(.int (lcmpW (((q1.toUInt64 >>> (((8 : Int32) * p2) &&& 0x3f).toInt64.toUInt64).toInt64) &&& (255 : Int64)) (48 : Int64)))])) t := by
      intro t kt
      show Steps p.tables e below (s₁.setTop (mkF m 16 #[.val (.long q1), .second, .val (.int p2), .val (.long (((q1.toUInt64 >>> (((8 : Int32) * p2) &&& 0x3f).toInt64.toUInt64).toInt64) &&& (255 : Int64))), .second] [(.int (lcmpW (((q1.toUInt64 >>> (((8 : Int32) * p2) &&& 0x3f).toInt64.toUInt64).toInt64) &&& (255 : Int64)) (48 : Int64)))])) _
      refine XS.ifNo X0.here hx rfl (hb hby d1_16) rfl ((if0 _ _).trans (flt hc16).1) ?_
      show Steps p.tables e below (s₁.setTop (mkF m 19 #[.val (.long q1), .second, .val (.int p2), .val (.long (((q1.toUInt64 >>> (((8 : Int32) * p2) &&& 0x3f).toInt64.toUInt64).toInt64) &&& (255 : Int64))), .second] [])) _
      refine XS.lloadN X0.here hx rfl (hb hby d1_19) rfl ?_
      show Steps p.tables e below (s₁.setTop (mkF m 20 #[.val (.long q1), .second, .val (.int p2), .val (.long (((q1.toUInt64 >>> (((8 : Int32) * p2) &&& 0x3f).toInt64.toUInt64).toInt64) &&& (255 : Int64))), .second] [(.long (((q1.toUInt64 >>> (((8 : Int32) * p2) &&& 0x3f).toInt64.toUInt64).toInt64) &&& (255 : Int64)))])) _
      refine X0.ldc2Long hx hown (mvT hZ (hw _ (List.mem_of_getElem? (i := 9) rfl))) (g := (mkF m 20 #[.val (.long q1), .second, .val (.int p2), .val (.long (((q1.toUInt64 >>> (((8 : Int32) * p2) &&& 0x3f).toInt64.toUInt64).toInt64) &&& (255 : Int64))), .second] [(.long (((q1.toUInt64 >>> (((8 : Int32) * p2) &&& 0x3f).toInt64.toUInt64).toInt64) &&& (255 : Int64)))])) rfl (hb hby d1_20) _ ?_
      show Steps p.tables e below (s₁.setTop (mkF m 23 #[.val (.long q1), .second, .val (.int p2), .val (.long (((q1.toUInt64 >>> (((8 : Int32) * p2) &&& 0x3f).toInt64.toUInt64).toInt64) &&& (255 : Int64))), .second] [(.long (57 : Int64)), (.long (((q1.toUInt64 >>> (((8 : Int32) * p2) &&& 0x3f).toInt64.toUInt64).toInt64) &&& (255 : Int64)))])) _
      refine XS.lcmp X0.here hx rfl (hb hby d1_23) rfl ?_
      exact kt
    refine own_go go3 ?_
    rcases Classical.em ((0 : Int32) < (lcmpW (((q1.toUInt64 >>> (((8 : Int32) * p2) &&& 0x3f).toInt64.toUInt64).toInt64) &&& (255 : Int64)) (57 : Int64))) with hc24 | hc24
    · have go4 : ∀ t, Steps p.tables e below (s₁.setTop (mkF m 32 #[.val (.long q1), .second, .val (.int p2), .val (.long (((q1.toUInt64 >>> (((8 : Int32) * p2) &&& 0x3f).toInt64.toUInt64).toInt64) &&& (255 : Int64))), .second] [(.int (0 : Int32))])) t → Steps p.tables e below (s₁.setTop (mkF m 24 #[.val (.long q1), .second, .val (.int p2), .val (.long (((q1.toUInt64 >>> (((8 : Int32) * p2) &&& 0x3f).toInt64.toUInt64).toInt64) &&& (255 : Int64))), .second] [(.int (lcmpW (((q1.toUInt64 >>> (((8 : Int32) * p2) &&& 0x3f).toInt64.toUInt64).toInt64) &&& (255 : Int64)) (57 : Int64)))])) t := by
        intro t kt
        show Steps p.tables e below (s₁.setTop (mkF m 24 #[.val (.long q1), .second, .val (.int p2), .val (.long (((q1.toUInt64 >>> (((8 : Int32) * p2) &&& 0x3f).toInt64.toUInt64).toInt64) &&& (255 : Int64))), .second] [(.int (lcmpW (((q1.toUInt64 >>> (((8 : Int32) * p2) &&& 0x3f).toInt64.toUInt64).toInt64) &&& (255 : Int64)) (57 : Int64)))])) _
        refine XS.ifYes X0.here hx rfl (pc0 := 24) (pc' := 31) rfl (hb hby d1_24) rfl ((if0 _ _).trans (tlt hc24).2.2.1) (by decide) (by decide) ?_
        show Steps p.tables e below (s₁.setTop (mkF m 31 #[.val (.long q1), .second, .val (.int p2), .val (.long (((q1.toUInt64 >>> (((8 : Int32) * p2) &&& 0x3f).toInt64.toUInt64).toInt64) &&& (255 : Int64))), .second] [])) _
        refine XS.iconst X0.here hx rfl (hb hby d1_31) ?_
        exact kt
      refine own_go go4 ?_
      obtain ⟨fs, hr, hrun, hended, hW, hsame⟩ := X0.leave (v := some (.int (0 : Int32))) (fun h => by rw [Bd.returns] at h; cases h)
      refine ⟨_, _, retN X0 hx (t := .boolean) Bd.returns (by simp) (hb hby d1_32) hr, hrun, hended, _, _, rfl, ?_, ⟨_, rfl⟩, hW, hsame.mono (by decide) (by decide)⟩
      show Q1 Z q1 p2 h0 n0 _ s₁.heap _
      rw [e0]
      exact ⟨congrArg (fun z => some (Value.int z)) (show (0 : Int32) = own_D q1 p2 from by first | (simp only [own_D, hc16, hc24, not_true_eq_false, not_false_eq_true, and_true, true_and, and_false, false_and, or_true, true_or, or_false, false_or, and_self, or_self, eq_self, if_true, if_false]; done) | (simp [own_D, hc16, hc24]; done)), N0, rfl⟩
    · have go5 : ∀ t, Steps p.tables e below (s₁.setTop (mkF m 32 #[.val (.long q1), .second, .val (.int p2), .val (.long (((q1.toUInt64 >>> (((8 : Int32) * p2) &&& 0x3f).toInt64.toUInt64).toInt64) &&& (255 : Int64))), .second] [(.int (1 : Int32))])) t → Steps p.tables e below (s₁.setTop (mkF m 24 #[.val (.long q1), .second, .val (.int p2), .val (.long (((q1.toUInt64 >>> (((8 : Int32) * p2) &&& 0x3f).toInt64.toUInt64).toInt64) &&& (255 : Int64))), .second] [(.int (lcmpW (((q1.toUInt64 >>> (((8 : Int32) * p2) &&& 0x3f).toInt64.toUInt64).toInt64) &&& (255 : Int64)) (57 : Int64)))])) t := by
        intro t kt
        show Steps p.tables e below (s₁.setTop (mkF m 24 #[.val (.long q1), .second, .val (.int p2), .val (.long (((q1.toUInt64 >>> (((8 : Int32) * p2) &&& 0x3f).toInt64.toUInt64).toInt64) &&& (255 : Int64))), .second] [(.int (lcmpW (((q1.toUInt64 >>> (((8 : Int32) * p2) &&& 0x3f).toInt64.toUInt64).toInt64) &&& (255 : Int64)) (57 : Int64)))])) _
        refine XS.ifNo X0.here hx rfl (hb hby d1_24) rfl ((if0 _ _).trans (flt hc24).2.2.1) ?_
        show Steps p.tables e below (s₁.setTop (mkF m 27 #[.val (.long q1), .second, .val (.int p2), .val (.long (((q1.toUInt64 >>> (((8 : Int32) * p2) &&& 0x3f).toInt64.toUInt64).toInt64) &&& (255 : Int64))), .second] [])) _
        refine XS.iconst X0.here hx rfl (hb hby d1_27) ?_
        show Steps p.tables e below (s₁.setTop (mkF m 28 #[.val (.long q1), .second, .val (.int p2), .val (.long (((q1.toUInt64 >>> (((8 : Int32) * p2) &&& 0x3f).toInt64.toUInt64).toInt64) &&& (255 : Int64))), .second] [(.int (1 : Int32))])) _
        refine XS.goto X0.here hx rfl (pc0 := 28) (pc' := 32) rfl (hb hby d1_28) (by decide) (by decide) ?_
        exact kt
      refine own_go go5 ?_
      obtain ⟨fs, hr, hrun, hended, hW, hsame⟩ := X0.leave (v := some (.int (1 : Int32))) (fun h => by rw [Bd.returns] at h; cases h)
      refine ⟨_, _, retN X0 hx (t := .boolean) Bd.returns (by simp) (hb hby d1_32) hr, hrun, hended, _, _, rfl, ?_, ⟨_, rfl⟩, hW, hsame.mono (by decide) (by decide)⟩
      show Q1 Z q1 p2 h0 n0 _ s₁.heap _
      rw [e0]
      exact ⟨congrArg (fun z => some (Value.int z)) (show (1 : Int32) = own_D q1 p2 from by first | (simp only [own_D, hc16, hc24, not_true_eq_false, not_false_eq_true, and_true, true_and, and_false, false_and, or_true, true_or, or_false, false_or, and_self, or_self, eq_self, if_true, if_false]; done) | (simp [own_D, hc16, hc24]; done)), N0, rfl⟩
theorem d2_0 : decode prog_61_method_11_code 0 = .ok (.lload_n 0, 1) := by decide +kernel
theorem d2_1 : decode prog_61_method_11_code 1 = .ok (.ldc2_w 65, 3) := by decide +kernel
theorem d2_4 : decode prog_61_method_11_code 4 = .ok (.land, 1) := by decide +kernel
theorem d2_5 : decode prog_61_method_11_code 5 = .ok (.ldc2_w 63, 3) := by decide +kernel
theorem d2_8 : decode prog_61_method_11_code 8 = .ok (.lcmp, 1) := by decide +kernel
theorem d2_9 : decode prog_61_method_11_code 9 = .ok (.ifCond .ne 23, 3) := by decide +kernel
theorem d2_12 : decode prog_61_method_11_code 12 = .ok (.lload_n 0, 1) := by decide +kernel
theorem d2_13 : decode prog_61_method_11_code 13 = .ok (.ldc2_w 67, 3) := by decide +kernel
theorem d2_16 : decode prog_61_method_11_code 16 = .ok (.ladd, 1) := by decide +kernel
theorem d2_17 : decode prog_61_method_11_code 17 = .ok (.ldc2_w 65, 3) := by decide +kernel
theorem d2_20 : decode prog_61_method_11_code 20 = .ok (.land, 1) := by decide +kernel
theorem d2_21 : decode prog_61_method_11_code 21 = .ok (.ldc2_w 63, 3) := by decide +kernel
theorem d2_24 : decode prog_61_method_11_code 24 = .ok (.lcmp, 1) := by decide +kernel
theorem d2_25 : decode prog_61_method_11_code 25 = .ok (.ifCond .ne 7, 3) := by decide +kernel
theorem d2_28 : decode prog_61_method_11_code 28 = .ok (.iconst 1, 1) := by decide +kernel
theorem d2_29 : decode prog_61_method_11_code 29 = .ok (.goto 4, 3) := by decide +kernel
theorem d2_32 : decode prog_61_method_11_code 32 = .ok (.iconst 0, 1) := by decide +kernel
theorem d2_33 : decode prog_61_method_11_code 33 = .ok (.ireturn, 1) := by decide +kernel
theorem pn_2 : plainName "com/example/tapereel/tapereel/xdp/Bytes" = true := by first | (simp [plainName, overriddenIn]; done) | decide +kernel
theorem ef_2 (m : MethodId) (x0 : Int64) : entryFrame m #[(.long x0)] 2 = mkF m 0 #[.val (.long x0), .second] [] := by first | (simp [entryFrame, mkF, argsToLocals, Value.category]; done) | rfl
def own_A (q1 : Int64) : Int32 := if (lcmpW (q1 &&& (-1085102592571150096 : Int64)) (3472328296227680304 : Int64)) = (0 : Int32) ∧ (lcmpW ((q1 + (434041037028460038 : Int64)) &&& (-1085102592571150096 : Int64)) (3472328296227680304 : Int64)) = (0 : Int32) then 1 else 0
def Q2 (Z : State) (q1 : Int64) (h0 : Heap) (n0 : Nat) (v : Option Value) (h : Heap) (L : List Loc) : Prop := v = some (.int (own_A q1)) ∧ Fr n0 L ∧ h = h0
set_option maxRecDepth 65536 in
set_option maxHeartbeats 40000000 in
theorem rm2 (l : Launch) (Z : State) (a0 : Array Value) (hw : ∀ d ∈ tables_1, d.before a0 Z = true) (ws : List Jvm.Cond) (q1 : Int64) (h0 : Heap) (n0 : Nat) (Z0 : n0 ≤ h0.size) :
    MetFree l (⟨"com/example/tapereel/tapereel/xdp/Bytes", "areDigits", "(J)Z"⟩ : MethodName) (head1 (Jvm.Cond.code (⟨"com/example/tapereel/tapereel/xdp/Bytes", "areDigits", "(J)Z"⟩ : MethodName) prog_61_method_11_code 2 (some .boolean) :: ws) ({ frames := 0, cells := 0, slots := 0, locals := 0 } : Room)) (fun a U => a = #[(.long q1)] ∧ Z.Warmed39 U.vm ∧ U.heap = h0) (fun _ _ _ _ _ => True) (fun _ U o U' => ∃ v L, o = .returned v ∧ Q2 Z q1 h0 n0 v U'.heap L ∧ FrameEnd U o U' L ({ frames := 0, cells := 0, slots := 0, locals := 0 } : Room).cells ({ frames := 0, cells := 0, slots := 0, locals := 0 } : Room).slots) := by
  refine MetFree.of_bodySF (plainFor_of_name pn_2) hisR ?_
  intro p e s m args below meth c s₁ Bd hml0 hP hK
  obtain ⟨rfl, hZ, hh⟩ := hP
  have hx := Bd.exec
  have hby := Bd.bytes
  have hml : c.maxLocals = 2 := hml0
  have hown : s.vm.findClass "com/example/tapereel/tapereel/xdp/Bytes" = some m.cls := findClass_of_methodNamed Bd.named
  have hnm := (name_of_methodNamed Bd.named Bd.method).1
  have X0 : Stand p l e ({ frames := 0, cells := 0, slots := 0, locals := 0 } : Room) s m #[(.long q1)] below meth c s₁ [] 0 0 := Stand.of_body Bd
  have e0 : s₁.heap = h0 := by rw [← hh, Bd.state]; rfl
  have N0 := Fr.nil n0
  have pre0 : ∀ t, Steps p.tables e below (s₁.setTop (mkF m 0 #[.val (.long q1), .second] [])) t → Steps p.tables e below (s₁.setTop (entryFrame m #[(.long q1)] 2)) t := fun t k => castTop (ef_2 m q1) k
  refine own_go pre0 ?_
  have go1 : ∀ t, Steps p.tables e below (s₁.setTop (mkF m 9 #[.val (.long q1), .second] [(.int (lcmpW (q1 &&& (-1085102592571150096 : Int64)) (3472328296227680304 : Int64)))])) t → Steps p.tables e below (s₁.setTop (mkF m 0 #[.val (.long q1), .second] [])) t := by
    intro t kt
    show Steps p.tables e below (s₁.setTop (mkF m 0 #[.val (.long q1), .second] [])) _
    refine XS.lloadN X0.here hx rfl (hb hby d2_0) rfl ?_
    show Steps p.tables e below (s₁.setTop (mkF m 1 #[.val (.long q1), .second] [(.long q1)])) _
    refine X0.ldc2Long hx hown (mvT hZ (hw _ (List.mem_of_getElem? (i := 14) rfl))) (g := (mkF m 1 #[.val (.long q1), .second] [(.long q1)])) rfl (hb hby d2_1) _ ?_
    show Steps p.tables e below (s₁.setTop (mkF m 4 #[.val (.long q1), .second] [(.long (-1085102592571150096 : Int64)), (.long q1)])) _
    refine XS.land X0.here hx rfl (hb hby d2_4) rfl ?_
    show Steps p.tables e below (s₁.setTop (mkF m 5 #[.val (.long q1), .second] [(.long (q1 &&& (-1085102592571150096 : Int64)))])) _
    refine X0.ldc2Long hx hown (mvT hZ (hw _ (List.mem_of_getElem? (i := 15) rfl))) (g := (mkF m 5 #[.val (.long q1), .second] [(.long (q1 &&& (-1085102592571150096 : Int64)))])) rfl (hb hby d2_5) _ ?_
    show Steps p.tables e below (s₁.setTop (mkF m 8 #[.val (.long q1), .second] [(.long (3472328296227680304 : Int64)), (.long (q1 &&& (-1085102592571150096 : Int64)))])) _
    refine XS.lcmp X0.here hx rfl (hb hby d2_8) rfl ?_
    exact kt
  refine own_go go1 ?_
  rcases Classical.em ((lcmpW (q1 &&& (-1085102592571150096 : Int64)) (3472328296227680304 : Int64)) = (0 : Int32)) with hc9 | hc9
  · have go2 : ∀ t, Steps p.tables e below (s₁.setTop (mkF m 25 #[.val (.long q1), .second] [(.int (lcmpW ((q1 + (434041037028460038 : Int64)) &&& (-1085102592571150096 : Int64)) (3472328296227680304 : Int64)))])) t → Steps p.tables e below (s₁.setTop (mkF m 9 #[.val (.long q1), .second] [(.int (lcmpW (q1 &&& (-1085102592571150096 : Int64)) (3472328296227680304 : Int64)))])) t := by
      intro t kt
      show Steps p.tables e below (s₁.setTop (mkF m 9 #[.val (.long q1), .second] [(.int (lcmpW (q1 &&& (-1085102592571150096 : Int64)) (3472328296227680304 : Int64)))])) _
      refine XS.ifNo X0.here hx rfl (hb hby d2_9) rfl ((if0 _ _).trans (teq hc9).2) ?_
      show Steps p.tables e below (s₁.setTop (mkF m 12 #[.val (.long q1), .second] [])) _
      refine XS.lloadN X0.here hx rfl (hb hby d2_12) rfl ?_
      show Steps p.tables e below (s₁.setTop (mkF m 13 #[.val (.long q1), .second] [(.long q1)])) _
      refine X0.ldc2Long hx hown (mvT hZ (hw _ (List.mem_of_getElem? (i := 16) rfl))) (g := (mkF m 13 #[.val (.long q1), .second] [(.long q1)])) rfl (hb hby d2_13) _ ?_
      show Steps p.tables e below (s₁.setTop (mkF m 16 #[.val (.long q1), .second] [(.long (434041037028460038 : Int64)), (.long q1)])) _
      refine XS.ladd X0.here hx rfl (hb hby d2_16) rfl ?_
      show Steps p.tables e below (s₁.setTop (mkF m 17 #[.val (.long q1), .second] [(.long (q1 + (434041037028460038 : Int64)))])) _
      refine X0.ldc2Long hx hown (mvT hZ (hw _ (List.mem_of_getElem? (i := 14) rfl))) (g := (mkF m 17 #[.val (.long q1), .second] [(.long (q1 + (434041037028460038 : Int64)))])) rfl (hb hby d2_17) _ ?_
      show Steps p.tables e below (s₁.setTop (mkF m 20 #[.val (.long q1), .second] [(.long (-1085102592571150096 : Int64)), (.long (q1 + (434041037028460038 : Int64)))])) _
      refine XS.land X0.here hx rfl (hb hby d2_20) rfl ?_
      show Steps p.tables e below (s₁.setTop (mkF m 21 #[.val (.long q1), .second] [(.long ((q1 + (434041037028460038 : Int64)) &&& (-1085102592571150096 : Int64)))])) _
      refine X0.ldc2Long hx hown (mvT hZ (hw _ (List.mem_of_getElem? (i := 15) rfl))) (g := (mkF m 21 #[.val (.long q1), .second] [(.long ((q1 + (434041037028460038 : Int64)) &&& (-1085102592571150096 : Int64)))])) rfl (hb hby d2_21) _ ?_
      show Steps p.tables e below (s₁.setTop (mkF m 24 #[.val (.long q1), .second] [(.long (3472328296227680304 : Int64)), (.long ((q1 + (434041037028460038 : Int64)) &&& (-1085102592571150096 : Int64)))])) _
      refine XS.lcmp X0.here hx rfl (hb hby d2_24) rfl ?_
      exact kt
    refine own_go go2 ?_
    rcases Classical.em ((lcmpW ((q1 + (434041037028460038 : Int64)) &&& (-1085102592571150096 : Int64)) (3472328296227680304 : Int64)) = (0 : Int32)) with hc25 | hc25
    · have go3 : ∀ t, Steps p.tables e below (s₁.setTop (mkF m 33 #[.val (.long q1), .second] [(.int (1 : Int32))])) t → Steps p.tables e below (s₁.setTop (mkF m 25 #[.val (.long q1), .second] [(.int (lcmpW ((q1 + (434041037028460038 : Int64)) &&& (-1085102592571150096 : Int64)) (3472328296227680304 : Int64)))])) t := by
        intro t kt
        show Steps p.tables e below (s₁.setTop (mkF m 25 #[.val (.long q1), .second] [(.int (lcmpW ((q1 + (434041037028460038 : Int64)) &&& (-1085102592571150096 : Int64)) (3472328296227680304 : Int64)))])) _
        refine XS.ifNo X0.here hx rfl (hb hby d2_25) rfl ((if0 _ _).trans (teq hc25).2) ?_
        show Steps p.tables e below (s₁.setTop (mkF m 28 #[.val (.long q1), .second] [])) _
        refine XS.iconst X0.here hx rfl (hb hby d2_28) ?_
        show Steps p.tables e below (s₁.setTop (mkF m 29 #[.val (.long q1), .second] [(.int (1 : Int32))])) _
        refine XS.goto X0.here hx rfl (pc0 := 29) (pc' := 33) rfl (hb hby d2_29) (by decide) (by decide) ?_
        exact kt
      refine own_go go3 ?_
      obtain ⟨fs, hr, hrun, hended, hW, hsame⟩ := X0.leave (v := some (.int (1 : Int32))) (fun h => by rw [Bd.returns] at h; cases h)
      refine ⟨_, _, retN X0 hx (t := .boolean) Bd.returns (by simp) (hb hby d2_33) hr, hrun, hended, _, _, rfl, ?_, ⟨_, rfl⟩, hW, hsame.mono (by decide) (by decide)⟩
      show Q2 Z q1 h0 n0 _ s₁.heap _
      rw [e0]
      exact ⟨congrArg (fun z => some (Value.int z)) (show (1 : Int32) = own_A q1 from by first | (simp only [own_A, hc9, hc25, not_true_eq_false, not_false_eq_true, and_true, true_and, and_false, false_and, or_true, true_or, or_false, false_or, and_self, or_self, eq_self, if_true, if_false]; done) | (simp [own_A, hc9, hc25]; done)), N0, rfl⟩
    · have go4 : ∀ t, Steps p.tables e below (s₁.setTop (mkF m 33 #[.val (.long q1), .second] [(.int (0 : Int32))])) t → Steps p.tables e below (s₁.setTop (mkF m 25 #[.val (.long q1), .second] [(.int (lcmpW ((q1 + (434041037028460038 : Int64)) &&& (-1085102592571150096 : Int64)) (3472328296227680304 : Int64)))])) t := by
        intro t kt
        show Steps p.tables e below (s₁.setTop (mkF m 25 #[.val (.long q1), .second] [(.int (lcmpW ((q1 + (434041037028460038 : Int64)) &&& (-1085102592571150096 : Int64)) (3472328296227680304 : Int64)))])) _
        refine XS.ifYes X0.here hx rfl (pc0 := 25) (pc' := 32) rfl (hb hby d2_25) rfl ((if0 _ _).trans (feq hc25).2) (by decide) (by decide) ?_
        show Steps p.tables e below (s₁.setTop (mkF m 32 #[.val (.long q1), .second] [])) _
        refine XS.iconst X0.here hx rfl (hb hby d2_32) ?_
        exact kt
      refine own_go go4 ?_
      obtain ⟨fs, hr, hrun, hended, hW, hsame⟩ := X0.leave (v := some (.int (0 : Int32))) (fun h => by rw [Bd.returns] at h; cases h)
      refine ⟨_, _, retN X0 hx (t := .boolean) Bd.returns (by simp) (hb hby d2_33) hr, hrun, hended, _, _, rfl, ?_, ⟨_, rfl⟩, hW, hsame.mono (by decide) (by decide)⟩
      show Q2 Z q1 h0 n0 _ s₁.heap _
      rw [e0]
      exact ⟨congrArg (fun z => some (Value.int z)) (show (0 : Int32) = own_A q1 from by first | (simp only [own_A, hc9, hc25, not_true_eq_false, not_false_eq_true, and_true, true_and, and_false, false_and, or_true, true_or, or_false, false_or, and_self, or_self, eq_self, if_true, if_false]; done) | (simp [own_A, hc9, hc25]; done)), N0, rfl⟩
  · have go5 : ∀ t, Steps p.tables e below (s₁.setTop (mkF m 33 #[.val (.long q1), .second] [(.int (0 : Int32))])) t → Steps p.tables e below (s₁.setTop (mkF m 9 #[.val (.long q1), .second] [(.int (lcmpW (q1 &&& (-1085102592571150096 : Int64)) (3472328296227680304 : Int64)))])) t := by
      intro t kt
      show Steps p.tables e below (s₁.setTop (mkF m 9 #[.val (.long q1), .second] [(.int (lcmpW (q1 &&& (-1085102592571150096 : Int64)) (3472328296227680304 : Int64)))])) _
      refine XS.ifYes X0.here hx rfl (pc0 := 9) (pc' := 32) rfl (hb hby d2_9) rfl ((if0 _ _).trans (feq hc9).2) (by decide) (by decide) ?_
      show Steps p.tables e below (s₁.setTop (mkF m 32 #[.val (.long q1), .second] [])) _
      refine XS.iconst X0.here hx rfl (hb hby d2_32) ?_
      exact kt
    refine own_go go5 ?_
    obtain ⟨fs, hr, hrun, hended, hW, hsame⟩ := X0.leave (v := some (.int (0 : Int32))) (fun h => by rw [Bd.returns] at h; cases h)
    refine ⟨_, _, retN X0 hx (t := .boolean) Bd.returns (by simp) (hb hby d2_33) hr, hrun, hended, _, _, rfl, ?_, ⟨_, rfl⟩, hW, hsame.mono (by decide) (by decide)⟩
    show Q2 Z q1 h0 n0 _ s₁.heap _
    rw [e0]
    exact ⟨congrArg (fun z => some (Value.int z)) (show (0 : Int32) = own_A q1 from by first | (simp only [own_A, hc9, not_true_eq_false, not_false_eq_true, and_true, true_and, and_false, false_and, or_true, true_or, or_false, false_or, and_self, or_self, eq_self, if_true, if_false]; done) | (simp [own_A, hc9]; done)), N0, rfl⟩
def own_X (w : Int64) : Int32 := if ¬ own_D w 0 = (0 : Int32) ∧ ¬ own_D w 1 = (0 : Int32) ∧ ¬ own_D w 2 = (0 : Int32) ∧ ¬ own_D w 3 = (0 : Int32) ∧ ¬ own_D w 4 = (0 : Int32) ∧ ¬ own_D w 5 = (0 : Int32) ∧ ¬ own_D w 6 = (0 : Int32) ∧ ¬ own_D w 7 = (0 : Int32) then 1 else 0
/-- the masks over k bytes -/
def own_M : Nat → Nat | 0 => 0 | k + 1 => 256 * own_M k + 240
def own_C : Nat → Nat | 0 => 0 | k + 1 => 256 * own_C k + 48
def own_S : Nat → Nat | 0 => 0 | k + 1 => 256 * own_S k + 6
def own_P : Nat → Nat → Prop | 0, n => n = 0 | k + 1, n => (48 ≤ n % 256 ∧ n % 256 ≤ 57) ∧ own_P k (n / 256)
theorem own_and (a b c d : Nat) (hb : b < 256) (hd : d < 256) : (256 * a + b) &&& (256 * c + d) = 256 * (a &&& c) + (b &&& d) := by
  have h1 : ∀ x y : Nat, y < 256 → (256 * x + y) / 2 ^ 8 = x ∧ (256 * x + y) % 2 ^ 8 = y := fun x y h => ⟨by omega, by omega⟩
  have h2 := Nat.div_add_mod ((256 * a + b) &&& (256 * c + d)) (2 ^ 8)
  rw [Nat.and_div_two_pow, Nat.and_mod_two_pow, (h1 a b hb).1, (h1 c d hd).1, (h1 a b hb).2, (h1 c d hd).2] at h2
  omega
theorem own_byte : ∀ b : Fin 256, (b.val &&& 240 = 48 ↔ (48 ≤ b.val ∧ b.val ≤ 63)) := by decide +kernel
theorem own_lt240 (b : Nat) : b &&& 240 ≤ 240 := Nat.and_le_right
theorem own_rec (k : Nat) : ∀ n, n < 256 ^ k → ((n &&& own_M k = own_C k ∧ (n + own_S k) &&& own_M k = own_C k) ↔ own_P k n) := by
  induction k with
  | zero => intro n hn; simp only [own_M, own_C, own_S, own_P, Nat.and_zero, and_self, true_iff]; simp at hn; exact hn
  | succ k ih =>
    intro n hn
    have hq : n / 256 < 256 ^ k := by rw [Nat.pow_succ] at hn; exact Nat.div_lt_of_lt_mul (by rw [Nat.mul_comm]; exact hn)
    have ih' := ih (n / 256) hq
    have hb : n % 256 < 256 := Nat.mod_lt _ (by decide)
    have e1 : n &&& own_M (k + 1) = 256 * (n / 256 &&& own_M k) + (n % 256 &&& 240) := by
      have := own_and (n / 256) (n % 256) (own_M k) 240 hb (by decide)
      rw [show 256 * (n / 256) + n % 256 = n by omega] at this
      exact this
    have b1 := own_byte ⟨n % 256, hb⟩
    have l1 := own_lt240 (n % 256)
    simp only at b1
    show (n &&& own_M (k + 1) = 256 * own_C k + 48 ∧ (n + (256 * own_S k + 6)) &&& own_M (k + 1) = 256 * own_C k + 48) ↔ ((48 ≤ n % 256 ∧ n % 256 ≤ 57) ∧ own_P k (n / 256))
    by_cases hr : n % 256 &&& 240 = 48
    · have r1 := b1.mp hr
      have e2 : (n + (256 * own_S k + 6)) &&& own_M (k + 1) = 256 * ((n / 256 + own_S k) &&& own_M k) + ((n % 256 + 6) &&& 240) := by
        have := own_and (n / 256 + own_S k) (n % 256 + 6) (own_M k) 240 (by omega) (by decide)
        rw [show 256 * (n / 256 + own_S k) + (n % 256 + 6) = n + (256 * own_S k + 6) by omega] at this
        exact this
      have b2 := own_byte ⟨n % 256 + 6, by omega⟩
      have l2 := own_lt240 (n % 256 + 6)
      simp only at b2
      rw [e1, e2, hr, ← ih']
      constructor
      · rintro ⟨h1, h2⟩
        have h3 : (n % 256 + 6) &&& 240 = 48 := by omega
        have := b2.mp h3
        exact ⟨⟨r1.1, by omega⟩, by omega, by omega⟩
      · rintro ⟨⟨h1, h2⟩, h3, h4⟩
        have := b2.mpr ⟨by omega, by omega⟩
        exact ⟨by omega, by omega⟩
    · rw [e1]
      constructor
      · rintro ⟨h1, -⟩
        exact absurd (by omega) hr
      · rintro ⟨⟨h1, h2⟩, -⟩
        exact absurd (b1.mpr ⟨h1, by omega⟩) hr
theorem own_toNat_eq (x y : Int64) : x = y ↔ x.toBitVec.toNat = y.toBitVec.toNat := by rw [BitVec.toNat_inj, Int64.toBitVec_inj]
theorem own_Dn (w : Int64) (i : Nat) (hi : i < 8) : ¬ own_D w (Int32.ofNat i) = 0 ↔ (48 ≤ w.toBitVec.toNat / 256 ^ i % 256 ∧ w.toBitVec.toNat / 256 ^ i % 256 ≤ 57) := by
  have hw := w.toBitVec.isLt
  have hq : ∀ i : Fin 8, ((8 : Int32) * Int32.ofNat i.val).toBitVec.toNat % 64 = 8 * i.val := by decide +kernel
  have hs := sm64 ((8 : Int32) * Int32.ofNat i) (8 * i) (hq ⟨i, hi⟩)
  obtain ⟨x, hx⟩ : ∃ x, x = ((w.toUInt64 >>> (((8 : Int32) * Int32.ofNat i) &&& 0x3f).toInt64.toUInt64).toInt64) &&& (255 : Int64) := ⟨_, rfl⟩
  have h1 : x.toBitVec.toNat = w.toBitVec.toNat / 256 ^ i % 256 := by
    rw [hx]
    show ((w.toBitVec >>> ((((8 : Int32) * Int32.ofNat i) &&& 0x3f).toInt64.toBitVec % 64)) &&& (255 : Int64).toBitVec).toNat = _
    rw [BitVec.toNat_and, BitVec.ushiftRight_eq', BitVec.toNat_ushiftRight, Nat.shiftRight_eq_div_pow, BitVec.toNat_umod, hs.1, BitVec.toNat_ofNat, show (255 : Int64).toBitVec.toNat = 2 ^ 8 - 1 from by decide, Nat.and_two_pow_sub_one_eq_mod, show (256 : Nat) = 2 ^ 8 from rfl, ← Nat.pow_mul]
    congr 3
    show 8 * i % 2 ^ 64 % 64 = 8 * i
    omega
  have h2 : x.toInt = (x.toBitVec.toNat : Int) := by
    show x.toBitVec.toInt = _
    rw [BitVec.toInt_eq_toNat_cond, if_pos (by omega)]
  have h3 : own_D w (Int32.ofNat i) = if ¬ (lcmpW x (48 : Int64)) < (0 : Int32) ∧ ¬ (0 : Int32) < (lcmpW x (57 : Int64)) then 1 else 0 := by rw [hx]; rfl
  rw [h3, ← h1]
  simp only [lw_lt, lw_gt, Int64.lt_iff_toInt_lt, show (48 : Int64).toInt = 48 from rfl, show (57 : Int64).toInt = 57 from rfl, h2]
  split
  · rename_i q; exact ⟨fun _ => by omega, fun _ => by decide⟩
  · rename_i q; exact ⟨fun r => absurd rfl r, fun r => absurd ⟨by omega, by omega⟩ q⟩
theorem own_AX (w : Int64) : own_A w = own_X w := by
  have hw := w.toBitVec.isLt
  have hr := own_rec 8 w.toBitVec.toNat (by show _ < 2 ^ 64; exact hw)
  have d0 := own_Dn w 0 (by decide); have d1 := own_Dn w 1 (by decide); have d2 := own_Dn w 2 (by decide); have d3 := own_Dn w 3 (by decide)
  have d4 := own_Dn w 4 (by decide); have d5 := own_Dn w 5 (by decide); have d6 := own_Dn w 6 (by decide); have d7 := own_Dn w 7 (by decide)
  have hA : (lcmpW (w &&& (-1085102592571150096 : Int64)) (3472328296227680304 : Int64)) = (0 : Int32) ↔ w.toBitVec.toNat &&& own_M 8 = own_C 8 := by
    rw [lw_eq, own_toNat_eq]
    show (w.toBitVec &&& (-1085102592571150096 : Int64).toBitVec).toNat = (3472328296227680304 : Int64).toBitVec.toNat ↔ _
    rw [BitVec.toNat_and]
    exact Iff.rfl
  have hB : (lcmpW ((w + (434041037028460038 : Int64)) &&& (-1085102592571150096 : Int64)) (3472328296227680304 : Int64)) = (0 : Int32) ↔ (w.toBitVec.toNat + own_S 8) &&& own_M 8 = own_C 8 := by
    rw [lw_eq, own_toNat_eq]
    show ((w.toBitVec + (434041037028460038 : Int64).toBitVec) &&& (-1085102592571150096 : Int64).toBitVec).toNat = (3472328296227680304 : Int64).toBitVec.toNat ↔ _
    rw [BitVec.toNat_and, BitVec.toNat_add]
    have hm : ((w.toBitVec.toNat + own_S 8) % 2 ^ 64) &&& own_M 8 = (w.toBitVec.toNat + own_S 8) &&& own_M 8 := by
      have h8 : own_M 8 % 2 ^ 64 = own_M 8 := by decide +kernel
      have := Nat.and_mod_two_pow (a := w.toBitVec.toNat + own_S 8) (b := own_M 8) (n := 64)
      rw [h8] at this
      rw [← this]
      exact Nat.mod_eq_of_lt (Nat.lt_of_le_of_lt Nat.and_le_right (by decide +kernel))
    rw [← hm]
    exact Iff.rfl
  have hC : ((lcmpW (w &&& (-1085102592571150096 : Int64)) (3472328296227680304 : Int64)) = (0 : Int32) ∧ (lcmpW ((w + (434041037028460038 : Int64)) &&& (-1085102592571150096 : Int64)) (3472328296227680304 : Int64)) = (0 : Int32)) ↔ own_P 8 w.toBitVec.toNat := (and_congr hA hB).trans hr
  have e : own_P 8 w.toBitVec.toNat ↔ (¬ own_D w 0 = (0 : Int32) ∧ ¬ own_D w 1 = (0 : Int32) ∧ ¬ own_D w 2 = (0 : Int32) ∧ ¬ own_D w 3 = (0 : Int32) ∧ ¬ own_D w 4 = (0 : Int32) ∧ ¬ own_D w 5 = (0 : Int32) ∧ ¬ own_D w 6 = (0 : Int32) ∧ ¬ own_D w 7 = (0 : Int32)) := by
    have z0 : ¬ own_D w 0 = (0 : Int32) ↔ _ := d0
    have z1 : ¬ own_D w 1 = (0 : Int32) ↔ _ := d1
    have z2 : ¬ own_D w 2 = (0 : Int32) ↔ _ := d2
    have z3 : ¬ own_D w 3 = (0 : Int32) ↔ _ := d3
    have z4 : ¬ own_D w 4 = (0 : Int32) ↔ _ := d4
    have z5 : ¬ own_D w 5 = (0 : Int32) ↔ _ := d5
    have z6 : ¬ own_D w 6 = (0 : Int32) ↔ _ := d6
    have z7 : ¬ own_D w 7 = (0 : Int32) ↔ _ := d7
    rw [z0, z1, z2, z3, z4, z5, z6, z7]
    simp only [own_P, Nat.div_div_eq_div_mul]
    generalize w.toBitVec.toNat = n at *
    simp only [Nat.reduceMul, Nat.reducePow, Nat.div_one]
    constructor
    · rintro ⟨a0, a1, a2, a3, a4, a5, a6, a7, a8⟩; exact ⟨a0, a1, a2, a3, a4, a5, a6, a7⟩
    · rintro ⟨a0, a1, a2, a3, a4, a5, a6, a7⟩; exact ⟨a0, a1, a2, a3, a4, a5, a6, a7, by omega⟩
  by_cases q : own_P 8 w.toBitVec.toNat
  · exact (if_pos (hC.mpr q)).trans (if_pos (e.mp q)).symm
  · exact (if_neg (fun r => q (hC.mp r))).trans (if_neg (fun r => q (e.mpr r))).symm
theorem pn_0 : plainName "com/example/tapereel/tapereel/xdp/BytesAreDigitsPinLaw" = true := by first | (simp [plainName, overriddenIn]; done) | decide +kernel
theorem ef_0 (m : MethodId) (x0 : Int64) (x1 : Int64) (x2 : Int32) : entryFrame m #[(.long x0), (.long x1), (.int x2)] maxLocals = mkF m 0 #[.val (.long x0), .second, .val (.long x1), .second, .val (.int x2), .unset, .unset, .unset, .unset, .unset, .unset, .unset] [] := by first | (simp [entryFrame, mkF, argsToLocals, Value.category, maxLocals]; done) | rfl
def Q0 (Z : State) (h0 : Heap) (n0 : Nat) (v : Option Value) (h : Heap) (L : List Loc) : Prop := v = some (.int (1 : Int32)) ∧ Fr n0 L
set_option maxRecDepth 65536 in
set_option maxHeartbeats 40000000 in
theorem rm0 (l : Launch) (Z : State) (a0 : Array Value) (hw : ∀ d ∈ tables_1, d.before a0 Z = true) (ws : List Jvm.Cond) (q1 : Int64) (q2 : Int64) (p3 : Int32) (h0 : Heap) (n0 : Nat) (Z0 : n0 ≤ h0.size) :
    MetFree l x (head1 (Jvm.Cond.code x code maxLocals ret :: ws) room_1) (fun a U => a = #[(.long q1), (.long q2), (.int p3)] ∧ Z.Warmed39 U.vm ∧ U.heap = h0) (fun _ _ _ _ _ => True) (fun _ U o U' => ∃ v L, o = .returned v ∧ Q0 Z  h0 n0 v U'.heap L ∧ FrameEnd U o U' L room_1.cells room_1.slots) := by
  refine MetFree.of_bodySF (plainFor_of_name pn_0) hisR ?_
  intro p e s m args below meth c s₁ Bd hml0 hP hK
  obtain ⟨rfl, hZ, hh⟩ := hP
  have hx := Bd.exec
  have hby := Bd.bytes
  have hml : c.maxLocals = 12 := hml0
  have hown : s.vm.findClass "com/example/tapereel/tapereel/xdp/BytesAreDigitsPinLaw" = some m.cls := findClass_of_methodNamed Bd.named
  have hnm := (name_of_methodNamed Bd.named Bd.method).1
  have X0 : Stand p l e room_1 s m #[(.long q1), (.long q2), (.int p3)] below meth c s₁ [] 0 0 := Stand.of_body Bd
  have e0 : s₁.heap = h0 := by rw [← hh, Bd.state]; rfl
  have N0 := Fr.nil n0
  have pre0 : ∀ t, Steps p.tables e below (s₁.setTop (mkF m 0 #[.val (.long q1), .second, .val (.long q2), .second, .val (.int p3), .unset, .unset, .unset, .unset, .unset, .unset, .unset] [])) t → Steps p.tables e below (s₁.setTop (entryFrame m #[(.long q1), (.long q2), (.int p3)] maxLocals)) t := fun t k => castTop (ef_0 m q1 q2 p3) k
  refine own_go pre0 ?_
  obtain ⟨wv, hwv, go1⟩ : ∃ wv : Int64, (True) ∧ ∀ t, Steps p.tables e below (s₁.setTop (mkF m 58 #[.val (.long q1), .second, .val (.long q2), .second, .val (.int p3), .val (.long (((q1 &&& (506381209866536711 : Int64)) ||| (3472328296227680304 : Int64)) + ((q2 &&& (72340172838076673 : Int64)) <<< ((1 : Int32) &&& 0x3f).toInt64))), .second, .val (.long (((p3 &&& (255 : Int32)).toInt64) <<< (((8 : Int32) * (((p3.toUInt32 >>> ((8 : Int32) &&& 31).toUInt32).toInt32) &&& (7 : Int32))) &&& 0x3f).toInt64)), .second, .unset, .unset, .unset] [(.long wv)])) t → Steps p.tables e below (s₁.setTop (mkF m 0 #[.val (.long q1), .second, .val (.long q2), .second, .val (.int p3), .unset, .unset, .unset, .unset, .unset, .unset, .unset] [])) t := by
    have go2 : ∀ t, Steps p.tables e below (s₁.setTop (mkF m 46 #[.val (.long q1), .second, .val (.long q2), .second, .val (.int p3), .val (.long (((q1 &&& (506381209866536711 : Int64)) ||| (3472328296227680304 : Int64)) + ((q2 &&& (72340172838076673 : Int64)) <<< ((1 : Int32) &&& 0x3f).toInt64))), .second, .val (.long (((p3 &&& (255 : Int32)).toInt64) <<< (((8 : Int32) * (((p3.toUInt32 >>> ((8 : Int32) &&& 31).toUInt32).toInt32) &&& (7 : Int32))) &&& 0x3f).toInt64)), .second, .unset, .unset, .unset] [(.int (p3 &&& (2048 : Int32)))])) t → Steps p.tables e below (s₁.setTop (mkF m 0 #[.val (.long q1), .second, .val (.long q2), .second, .val (.int p3), .unset, .unset, .unset, .unset, .unset, .unset, .unset] [])) t := by
      intro t kt
      show Steps p.tables e below (s₁.setTop (mkF m 0 #[.val (.long q1), .second, .val (.long q2), .second, .val (.int p3), .unset, .unset, .unset, .unset, .unset, .unset, .unset] [])) _
      refine XS.lloadN X0.here hx rfl (hb hby at_0) rfl ?_
      show Steps p.tables e below (s₁.setTop (mkF m 1 #[.val (.long q1), .second, .val (.long q2), .second, .val (.int p3), .unset, .unset, .unset, .unset, .unset, .unset, .unset] [(.long q1)])) _
      refine X0.ldc2Long hx hown (mvT hZ (hw _ (List.mem_of_getElem? (i := 0) rfl))) (g := (mkF m 1 #[.val (.long q1), .second, .val (.long q2), .second, .val (.int p3), .unset, .unset, .unset, .unset, .unset, .unset, .unset] [(.long q1)])) rfl (hb hby at_1) _ ?_
      show Steps p.tables e below (s₁.setTop (mkF m 4 #[.val (.long q1), .second, .val (.long q2), .second, .val (.int p3), .unset, .unset, .unset, .unset, .unset, .unset, .unset] [(.long (506381209866536711 : Int64)), (.long q1)])) _
      refine XS.land X0.here hx rfl (hb hby at_4) rfl ?_
      show Steps p.tables e below (s₁.setTop (mkF m 5 #[.val (.long q1), .second, .val (.long q2), .second, .val (.int p3), .unset, .unset, .unset, .unset, .unset, .unset, .unset] [(.long (q1 &&& (506381209866536711 : Int64)))])) _
      refine X0.ldc2Long hx hown (mvT hZ (hw _ (List.mem_of_getElem? (i := 1) rfl))) (g := (mkF m 5 #[.val (.long q1), .second, .val (.long q2), .second, .val (.int p3), .unset, .unset, .unset, .unset, .unset, .unset, .unset] [(.long (q1 &&& (506381209866536711 : Int64)))])) rfl (hb hby at_5) _ ?_
      show Steps p.tables e below (s₁.setTop (mkF m 8 #[.val (.long q1), .second, .val (.long q2), .second, .val (.int p3), .unset, .unset, .unset, .unset, .unset, .unset, .unset] [(.long (3472328296227680304 : Int64)), (.long (q1 &&& (506381209866536711 : Int64)))])) _
      refine XS.lor X0.here hx rfl (hb hby at_8) rfl ?_
      show Steps p.tables e below (s₁.setTop (mkF m 9 #[.val (.long q1), .second, .val (.long q2), .second, .val (.int p3), .unset, .unset, .unset, .unset, .unset, .unset, .unset] [(.long ((q1 &&& (506381209866536711 : Int64)) ||| (3472328296227680304 : Int64)))])) _
      refine XS.lloadN X0.here hx rfl (hb hby at_9) rfl ?_
      show Steps p.tables e below (s₁.setTop (mkF m 10 #[.val (.long q1), .second, .val (.long q2), .second, .val (.int p3), .unset, .unset, .unset, .unset, .unset, .unset, .unset] [(.long q2), (.long ((q1 &&& (506381209866536711 : Int64)) ||| (3472328296227680304 : Int64)))])) _
      refine X0.ldc2Long hx hown (mvT hZ (hw _ (List.mem_of_getElem? (i := 2) rfl))) (g := (mkF m 10 #[.val (.long q1), .second, .val (.long q2), .second, .val (.int p3), .unset, .unset, .unset, .unset, .unset, .unset, .unset] [(.long q2), (.long ((q1 &&& (506381209866536711 : Int64)) ||| (3472328296227680304 : Int64)))])) rfl (hb hby at_10) _ ?_
      show Steps p.tables e below (s₁.setTop (mkF m 13 #[.val (.long q1), .second, .val (.long q2), .second, .val (.int p3), .unset, .unset, .unset, .unset, .unset, .unset, .unset] [(.long (72340172838076673 : Int64)), (.long q2), (.long ((q1 &&& (506381209866536711 : Int64)) ||| (3472328296227680304 : Int64)))])) _
      refine XS.land X0.here hx rfl (hb hby at_13) rfl ?_
      show Steps p.tables e below (s₁.setTop (mkF m 14 #[.val (.long q1), .second, .val (.long q2), .second, .val (.int p3), .unset, .unset, .unset, .unset, .unset, .unset, .unset] [(.long (q2 &&& (72340172838076673 : Int64))), (.long ((q1 &&& (506381209866536711 : Int64)) ||| (3472328296227680304 : Int64)))])) _
      refine XS.iconst X0.here hx rfl (hb hby at_14) ?_
      show Steps p.tables e below (s₁.setTop (mkF m 15 #[.val (.long q1), .second, .val (.long q2), .second, .val (.int p3), .unset, .unset, .unset, .unset, .unset, .unset, .unset] [(.int (1 : Int32)), (.long (q2 &&& (72340172838076673 : Int64))), (.long ((q1 &&& (506381209866536711 : Int64)) ||| (3472328296227680304 : Int64)))])) _
      refine XS.lshl X0.here hx rfl (hb hby at_15) rfl ?_
      show Steps p.tables e below (s₁.setTop (mkF m 16 #[.val (.long q1), .second, .val (.long q2), .second, .val (.int p3), .unset, .unset, .unset, .unset, .unset, .unset, .unset] [(.long ((q2 &&& (72340172838076673 : Int64)) <<< ((1 : Int32) &&& 0x3f).toInt64)), (.long ((q1 &&& (506381209866536711 : Int64)) ||| (3472328296227680304 : Int64)))])) _
      refine XS.ladd X0.here hx rfl (hb hby at_16) rfl ?_
      show Steps p.tables e below (s₁.setTop (mkF m 17 #[.val (.long q1), .second, .val (.long q2), .second, .val (.int p3), .unset, .unset, .unset, .unset, .unset, .unset, .unset] [(.long (((q1 &&& (506381209866536711 : Int64)) ||| (3472328296227680304 : Int64)) + ((q2 &&& (72340172838076673 : Int64)) <<< ((1 : Int32) &&& 0x3f).toInt64)))])) _
      refine XS.lstore X0.here hx rfl (hb hby at_17) rfl (l' := #[.val (.long q1), .second, .val (.long q2), .second, .val (.int p3), .val (.long (((q1 &&& (506381209866536711 : Int64)) ||| (3472328296227680304 : Int64)) + ((q2 &&& (72340172838076673 : Int64)) <<< ((1 : Int32) &&& 0x3f).toInt64))), .second, .unset, .unset, .unset, .unset, .unset]) rfl ?_
      show Steps p.tables e below (s₁.setTop (mkF m 19 #[.val (.long q1), .second, .val (.long q2), .second, .val (.int p3), .val (.long (((q1 &&& (506381209866536711 : Int64)) ||| (3472328296227680304 : Int64)) + ((q2 &&& (72340172838076673 : Int64)) <<< ((1 : Int32) &&& 0x3f).toInt64))), .second, .unset, .unset, .unset, .unset, .unset] [])) _
      refine XS.iload X0.here hx rfl (hb hby at_19) rfl ?_
      show Steps p.tables e below (s₁.setTop (mkF m 21 #[.val (.long q1), .second, .val (.long q2), .second, .val (.int p3), .val (.long (((q1 &&& (506381209866536711 : Int64)) ||| (3472328296227680304 : Int64)) + ((q2 &&& (72340172838076673 : Int64)) <<< ((1 : Int32) &&& 0x3f).toInt64))), .second, .unset, .unset, .unset, .unset, .unset] [(.int p3)])) _
      refine XS.sipush X0.here hx rfl (hb hby at_21) ?_
      show Steps p.tables e below (s₁.setTop (mkF m 24 #[.val (.long q1), .second, .val (.long q2), .second, .val (.int p3), .val (.long (((q1 &&& (506381209866536711 : Int64)) ||| (3472328296227680304 : Int64)) + ((q2 &&& (72340172838076673 : Int64)) <<< ((1 : Int32) &&& 0x3f).toInt64))), .second, .unset, .unset, .unset, .unset, .unset] [(.int (255 : Int32)), (.int p3)])) _
      refine XS.iand X0.here hx rfl (hb hby at_24) rfl ?_
      show Steps p.tables e below (s₁.setTop (mkF m 25 #[.val (.long q1), .second, .val (.long q2), .second, .val (.int p3), .val (.long (((q1 &&& (506381209866536711 : Int64)) ||| (3472328296227680304 : Int64)) + ((q2 &&& (72340172838076673 : Int64)) <<< ((1 : Int32) &&& 0x3f).toInt64))), .second, .unset, .unset, .unset, .unset, .unset] [(.int (p3 &&& (255 : Int32)))])) _
      refine XS.i2l X0.here hx rfl (hb hby at_25) rfl ?_
      show Steps p.tables e below (s₁.setTop (mkF m 26 #[.val (.long q1), .second, .val (.long q2), .second, .val (.int p3), .val (.long (((q1 &&& (506381209866536711 : Int64)) ||| (3472328296227680304 : Int64)) + ((q2 &&& (72340172838076673 : Int64)) <<< ((1 : Int32) &&& 0x3f).toInt64))), .second, .unset, .unset, .unset, .unset, .unset] [(.long ((p3 &&& (255 : Int32)).toInt64))])) _
      refine XS.bipush X0.here hx rfl (hb hby at_26) ?_
      show Steps p.tables e below (s₁.setTop (mkF m 28 #[.val (.long q1), .second, .val (.long q2), .second, .val (.int p3), .val (.long (((q1 &&& (506381209866536711 : Int64)) ||| (3472328296227680304 : Int64)) + ((q2 &&& (72340172838076673 : Int64)) <<< ((1 : Int32) &&& 0x3f).toInt64))), .second, .unset, .unset, .unset, .unset, .unset] [(.int (8 : Int32)), (.long ((p3 &&& (255 : Int32)).toInt64))])) _
      refine XS.iload X0.here hx rfl (hb hby at_28) rfl ?_
      show Steps p.tables e below (s₁.setTop (mkF m 30 #[.val (.long q1), .second, .val (.long q2), .second, .val (.int p3), .val (.long (((q1 &&& (506381209866536711 : Int64)) ||| (3472328296227680304 : Int64)) + ((q2 &&& (72340172838076673 : Int64)) <<< ((1 : Int32) &&& 0x3f).toInt64))), .second, .unset, .unset, .unset, .unset, .unset] [(.int p3), (.int (8 : Int32)), (.long ((p3 &&& (255 : Int32)).toInt64))])) _
      refine XS.bipush X0.here hx rfl (hb hby at_30) ?_
      show Steps p.tables e below (s₁.setTop (mkF m 32 #[.val (.long q1), .second, .val (.long q2), .second, .val (.int p3), .val (.long (((q1 &&& (506381209866536711 : Int64)) ||| (3472328296227680304 : Int64)) + ((q2 &&& (72340172838076673 : Int64)) <<< ((1 : Int32) &&& 0x3f).toInt64))), .second, .unset, .unset, .unset, .unset, .unset] [(.int (8 : Int32)), (.int p3), (.int (8 : Int32)), (.long ((p3 &&& (255 : Int32)).toInt64))])) _
      refine XS.iushr X0.here hx rfl (hb hby at_32) rfl ?_
      show Steps p.tables e below (s₁.setTop (mkF m 33 #[.val (.long q1), .second, .val (.long q2), .second, .val (.int p3), .val (.long (((q1 &&& (506381209866536711 : Int64)) ||| (3472328296227680304 : Int64)) + ((q2 &&& (72340172838076673 : Int64)) <<< ((1 : Int32) &&& 0x3f).toInt64))), .second, .unset, .unset, .unset, .unset, .unset] [(.int ((p3.toUInt32 >>> ((8 : Int32) &&& 31).toUInt32).toInt32)), (.int (8 : Int32)), (.long ((p3 &&& (255 : Int32)).toInt64))])) _
      refine XS.bipush X0.here hx rfl (hb hby at_33) ?_
      show Steps p.tables e below (s₁.setTop (mkF m 35 #[.val (.long q1), .second, .val (.long q2), .second, .val (.int p3), .val (.long (((q1 &&& (506381209866536711 : Int64)) ||| (3472328296227680304 : Int64)) + ((q2 &&& (72340172838076673 : Int64)) <<< ((1 : Int32) &&& 0x3f).toInt64))), .second, .unset, .unset, .unset, .unset, .unset] [(.int (7 : Int32)), (.int ((p3.toUInt32 >>> ((8 : Int32) &&& 31).toUInt32).toInt32)), (.int (8 : Int32)), (.long ((p3 &&& (255 : Int32)).toInt64))])) _
      refine XS.iand X0.here hx rfl (hb hby at_35) rfl ?_
      show Steps p.tables e below (s₁.setTop (mkF m 36 #[.val (.long q1), .second, .val (.long q2), .second, .val (.int p3), .val (.long (((q1 &&& (506381209866536711 : Int64)) ||| (3472328296227680304 : Int64)) + ((q2 &&& (72340172838076673 : Int64)) <<< ((1 : Int32) &&& 0x3f).toInt64))), .second, .unset, .unset, .unset, .unset, .unset] [(.int (((p3.toUInt32 >>> ((8 : Int32) &&& 31).toUInt32).toInt32) &&& (7 : Int32))), (.int (8 : Int32)), (.long ((p3 &&& (255 : Int32)).toInt64))])) _
      refine XS.imul X0.here hx rfl (hb hby at_36) rfl ?_
      show Steps p.tables e below (s₁.setTop (mkF m 37 #[.val (.long q1), .second, .val (.long q2), .second, .val (.int p3), .val (.long (((q1 &&& (506381209866536711 : Int64)) ||| (3472328296227680304 : Int64)) + ((q2 &&& (72340172838076673 : Int64)) <<< ((1 : Int32) &&& 0x3f).toInt64))), .second, .unset, .unset, .unset, .unset, .unset] [(.int ((8 : Int32) * (((p3.toUInt32 >>> ((8 : Int32) &&& 31).toUInt32).toInt32) &&& (7 : Int32)))), (.long ((p3 &&& (255 : Int32)).toInt64))])) _
      refine XS.lshl X0.here hx rfl (hb hby at_37) rfl ?_
      show Steps p.tables e below (s₁.setTop (mkF m 38 #[.val (.long q1), .second, .val (.long q2), .second, .val (.int p3), .val (.long (((q1 &&& (506381209866536711 : Int64)) ||| (3472328296227680304 : Int64)) + ((q2 &&& (72340172838076673 : Int64)) <<< ((1 : Int32) &&& 0x3f).toInt64))), .second, .unset, .unset, .unset, .unset, .unset] [(.long (((p3 &&& (255 : Int32)).toInt64) <<< (((8 : Int32) * (((p3.toUInt32 >>> ((8 : Int32) &&& 31).toUInt32).toInt32) &&& (7 : Int32))) &&& 0x3f).toInt64))])) _
      refine XS.lstore X0.here hx rfl (hb hby at_38) rfl (l' := #[.val (.long q1), .second, .val (.long q2), .second, .val (.int p3), .val (.long (((q1 &&& (506381209866536711 : Int64)) ||| (3472328296227680304 : Int64)) + ((q2 &&& (72340172838076673 : Int64)) <<< ((1 : Int32) &&& 0x3f).toInt64))), .second, .val (.long (((p3 &&& (255 : Int32)).toInt64) <<< (((8 : Int32) * (((p3.toUInt32 >>> ((8 : Int32) &&& 31).toUInt32).toInt32) &&& (7 : Int32))) &&& 0x3f).toInt64)), .second, .unset, .unset, .unset]) rfl ?_
      show Steps p.tables e below (s₁.setTop (mkF m 40 #[.val (.long q1), .second, .val (.long q2), .second, .val (.int p3), .val (.long (((q1 &&& (506381209866536711 : Int64)) ||| (3472328296227680304 : Int64)) + ((q2 &&& (72340172838076673 : Int64)) <<< ((1 : Int32) &&& 0x3f).toInt64))), .second, .val (.long (((p3 &&& (255 : Int32)).toInt64) <<< (((8 : Int32) * (((p3.toUInt32 >>> ((8 : Int32) &&& 31).toUInt32).toInt32) &&& (7 : Int32))) &&& 0x3f).toInt64)), .second, .unset, .unset, .unset] [])) _
      refine XS.iload X0.here hx rfl (hb hby at_40) rfl ?_
      show Steps p.tables e below (s₁.setTop (mkF m 42 #[.val (.long q1), .second, .val (.long q2), .second, .val (.int p3), .val (.long (((q1 &&& (506381209866536711 : Int64)) ||| (3472328296227680304 : Int64)) + ((q2 &&& (72340172838076673 : Int64)) <<< ((1 : Int32) &&& 0x3f).toInt64))), .second, .val (.long (((p3 &&& (255 : Int32)).toInt64) <<< (((8 : Int32) * (((p3.toUInt32 >>> ((8 : Int32) &&& 31).toUInt32).toInt32) &&& (7 : Int32))) &&& 0x3f).toInt64)), .second, .unset, .unset, .unset] [(.int p3)])) _
      refine XS.sipush X0.here hx rfl (hb hby at_42) ?_
      show Steps p.tables e below (s₁.setTop (mkF m 45 #[.val (.long q1), .second, .val (.long q2), .second, .val (.int p3), .val (.long (((q1 &&& (506381209866536711 : Int64)) ||| (3472328296227680304 : Int64)) + ((q2 &&& (72340172838076673 : Int64)) <<< ((1 : Int32) &&& 0x3f).toInt64))), .second, .val (.long (((p3 &&& (255 : Int32)).toInt64) <<< (((8 : Int32) * (((p3.toUInt32 >>> ((8 : Int32) &&& 31).toUInt32).toInt32) &&& (7 : Int32))) &&& 0x3f).toInt64)), .second, .unset, .unset, .unset] [(.int (2048 : Int32)), (.int p3)])) _
      refine XS.iand X0.here hx rfl (hb hby at_45) rfl ?_
      exact kt
    rcases Classical.em ((p3 &&& (2048 : Int32)) = (0 : Int32)) with hc46 | hc46
    · have go3 : ∀ t, Steps p.tables e below (s₁.setTop (mkF m 58 #[.val (.long q1), .second, .val (.long q2), .second, .val (.int p3), .val (.long (((q1 &&& (506381209866536711 : Int64)) ||| (3472328296227680304 : Int64)) + ((q2 &&& (72340172838076673 : Int64)) <<< ((1 : Int32) &&& 0x3f).toInt64))), .second, .val (.long (((p3 &&& (255 : Int32)).toInt64) <<< (((8 : Int32) * (((p3.toUInt32 >>> ((8 : Int32) &&& 31).toUInt32).toInt32) &&& (7 : Int32))) &&& 0x3f).toInt64)), .second, .unset, .unset, .unset] [(.long ((((q1 &&& (506381209866536711 : Int64)) ||| (3472328296227680304 : Int64)) + ((q2 &&& (72340172838076673 : Int64)) <<< ((1 : Int32) &&& 0x3f).toInt64)) ^^^ (((p3 &&& (255 : Int32)).toInt64) <<< (((8 : Int32) * (((p3.toUInt32 >>> ((8 : Int32) &&& 31).toUInt32).toInt32) &&& (7 : Int32))) &&& 0x3f).toInt64)))])) t → Steps p.tables e below (s₁.setTop (mkF m 46 #[.val (.long q1), .second, .val (.long q2), .second, .val (.int p3), .val (.long (((q1 &&& (506381209866536711 : Int64)) ||| (3472328296227680304 : Int64)) + ((q2 &&& (72340172838076673 : Int64)) <<< ((1 : Int32) &&& 0x3f).toInt64))), .second, .val (.long (((p3 &&& (255 : Int32)).toInt64) <<< (((8 : Int32) * (((p3.toUInt32 >>> ((8 : Int32) &&& 31).toUInt32).toInt32) &&& (7 : Int32))) &&& 0x3f).toInt64)), .second, .unset, .unset, .unset] [(.int (p3 &&& (2048 : Int32)))])) t := by
        intro t kt
        show Steps p.tables e below (s₁.setTop (mkF m 46 #[.val (.long q1), .second, .val (.long q2), .second, .val (.int p3), .val (.long (((q1 &&& (506381209866536711 : Int64)) ||| (3472328296227680304 : Int64)) + ((q2 &&& (72340172838076673 : Int64)) <<< ((1 : Int32) &&& 0x3f).toInt64))), .second, .val (.long (((p3 &&& (255 : Int32)).toInt64) <<< (((8 : Int32) * (((p3.toUInt32 >>> ((8 : Int32) &&& 31).toUInt32).toInt32) &&& (7 : Int32))) &&& 0x3f).toInt64)), .second, .unset, .unset, .unset] [(.int (p3 &&& (2048 : Int32)))])) _
        refine XS.ifYes X0.here hx rfl (pc0 := 46) (pc' := 53) rfl (hb hby at_46) rfl ((if0 _ _).trans (teq hc46).1) (by decide) (by decide) ?_
        show Steps p.tables e below (s₁.setTop (mkF m 53 #[.val (.long q1), .second, .val (.long q2), .second, .val (.int p3), .val (.long (((q1 &&& (506381209866536711 : Int64)) ||| (3472328296227680304 : Int64)) + ((q2 &&& (72340172838076673 : Int64)) <<< ((1 : Int32) &&& 0x3f).toInt64))), .second, .val (.long (((p3 &&& (255 : Int32)).toInt64) <<< (((8 : Int32) * (((p3.toUInt32 >>> ((8 : Int32) &&& 31).toUInt32).toInt32) &&& (7 : Int32))) &&& 0x3f).toInt64)), .second, .unset, .unset, .unset] [])) _
        refine XS.lload X0.here hx rfl (hb hby at_53) rfl ?_
        show Steps p.tables e below (s₁.setTop (mkF m 55 #[.val (.long q1), .second, .val (.long q2), .second, .val (.int p3), .val (.long (((q1 &&& (506381209866536711 : Int64)) ||| (3472328296227680304 : Int64)) + ((q2 &&& (72340172838076673 : Int64)) <<< ((1 : Int32) &&& 0x3f).toInt64))), .second, .val (.long (((p3 &&& (255 : Int32)).toInt64) <<< (((8 : Int32) * (((p3.toUInt32 >>> ((8 : Int32) &&& 31).toUInt32).toInt32) &&& (7 : Int32))) &&& 0x3f).toInt64)), .second, .unset, .unset, .unset] [(.long (((q1 &&& (506381209866536711 : Int64)) ||| (3472328296227680304 : Int64)) + ((q2 &&& (72340172838076673 : Int64)) <<< ((1 : Int32) &&& 0x3f).toInt64)))])) _
        refine XS.lload X0.here hx rfl (hb hby at_55) rfl ?_
        show Steps p.tables e below (s₁.setTop (mkF m 57 #[.val (.long q1), .second, .val (.long q2), .second, .val (.int p3), .val (.long (((q1 &&& (506381209866536711 : Int64)) ||| (3472328296227680304 : Int64)) + ((q2 &&& (72340172838076673 : Int64)) <<< ((1 : Int32) &&& 0x3f).toInt64))), .second, .val (.long (((p3 &&& (255 : Int32)).toInt64) <<< (((8 : Int32) * (((p3.toUInt32 >>> ((8 : Int32) &&& 31).toUInt32).toInt32) &&& (7 : Int32))) &&& 0x3f).toInt64)), .second, .unset, .unset, .unset] [(.long (((p3 &&& (255 : Int32)).toInt64) <<< (((8 : Int32) * (((p3.toUInt32 >>> ((8 : Int32) &&& 31).toUInt32).toInt32) &&& (7 : Int32))) &&& 0x3f).toInt64)), (.long (((q1 &&& (506381209866536711 : Int64)) ||| (3472328296227680304 : Int64)) + ((q2 &&& (72340172838076673 : Int64)) <<< ((1 : Int32) &&& 0x3f).toInt64)))])) _
        refine XS.lxor X0.here hx rfl (hb hby at_57) rfl ?_
        exact kt
      exact ⟨((((q1 &&& (506381209866536711 : Int64)) ||| (3472328296227680304 : Int64)) + ((q2 &&& (72340172838076673 : Int64)) <<< ((1 : Int32) &&& 0x3f).toInt64)) ^^^ (((p3 &&& (255 : Int32)).toInt64) <<< (((8 : Int32) * (((p3.toUInt32 >>> ((8 : Int32) &&& 31).toUInt32).toInt32) &&& (7 : Int32))) &&& 0x3f).toInt64)), trivial, fun t kt => (go2 t (go3 t kt))⟩
    · have go4 : ∀ t, Steps p.tables e below (s₁.setTop (mkF m 58 #[.val (.long q1), .second, .val (.long q2), .second, .val (.int p3), .val (.long (((q1 &&& (506381209866536711 : Int64)) ||| (3472328296227680304 : Int64)) + ((q2 &&& (72340172838076673 : Int64)) <<< ((1 : Int32) &&& 0x3f).toInt64))), .second, .val (.long (((p3 &&& (255 : Int32)).toInt64) <<< (((8 : Int32) * (((p3.toUInt32 >>> ((8 : Int32) &&& 31).toUInt32).toInt32) &&& (7 : Int32))) &&& 0x3f).toInt64)), .second, .unset, .unset, .unset] [(.long q1)])) t → Steps p.tables e below (s₁.setTop (mkF m 46 #[.val (.long q1), .second, .val (.long q2), .second, .val (.int p3), .val (.long (((q1 &&& (506381209866536711 : Int64)) ||| (3472328296227680304 : Int64)) + ((q2 &&& (72340172838076673 : Int64)) <<< ((1 : Int32) &&& 0x3f).toInt64))), .second, .val (.long (((p3 &&& (255 : Int32)).toInt64) <<< (((8 : Int32) * (((p3.toUInt32 >>> ((8 : Int32) &&& 31).toUInt32).toInt32) &&& (7 : Int32))) &&& 0x3f).toInt64)), .second, .unset, .unset, .unset] [(.int (p3 &&& (2048 : Int32)))])) t := by
        intro t kt
        show Steps p.tables e below (s₁.setTop (mkF m 46 #[.val (.long q1), .second, .val (.long q2), .second, .val (.int p3), .val (.long (((q1 &&& (506381209866536711 : Int64)) ||| (3472328296227680304 : Int64)) + ((q2 &&& (72340172838076673 : Int64)) <<< ((1 : Int32) &&& 0x3f).toInt64))), .second, .val (.long (((p3 &&& (255 : Int32)).toInt64) <<< (((8 : Int32) * (((p3.toUInt32 >>> ((8 : Int32) &&& 31).toUInt32).toInt32) &&& (7 : Int32))) &&& 0x3f).toInt64)), .second, .unset, .unset, .unset] [(.int (p3 &&& (2048 : Int32)))])) _
        refine XS.ifNo X0.here hx rfl (hb hby at_46) rfl ((if0 _ _).trans (feq hc46).1) ?_
        show Steps p.tables e below (s₁.setTop (mkF m 49 #[.val (.long q1), .second, .val (.long q2), .second, .val (.int p3), .val (.long (((q1 &&& (506381209866536711 : Int64)) ||| (3472328296227680304 : Int64)) + ((q2 &&& (72340172838076673 : Int64)) <<< ((1 : Int32) &&& 0x3f).toInt64))), .second, .val (.long (((p3 &&& (255 : Int32)).toInt64) <<< (((8 : Int32) * (((p3.toUInt32 >>> ((8 : Int32) &&& 31).toUInt32).toInt32) &&& (7 : Int32))) &&& 0x3f).toInt64)), .second, .unset, .unset, .unset] [])) _
        refine XS.lloadN X0.here hx rfl (hb hby at_49) rfl ?_
        show Steps p.tables e below (s₁.setTop (mkF m 50 #[.val (.long q1), .second, .val (.long q2), .second, .val (.int p3), .val (.long (((q1 &&& (506381209866536711 : Int64)) ||| (3472328296227680304 : Int64)) + ((q2 &&& (72340172838076673 : Int64)) <<< ((1 : Int32) &&& 0x3f).toInt64))), .second, .val (.long (((p3 &&& (255 : Int32)).toInt64) <<< (((8 : Int32) * (((p3.toUInt32 >>> ((8 : Int32) &&& 31).toUInt32).toInt32) &&& (7 : Int32))) &&& 0x3f).toInt64)), .second, .unset, .unset, .unset] [(.long q1)])) _
        refine XS.goto X0.here hx rfl (pc0 := 50) (pc' := 58) rfl (hb hby at_50) (by decide) (by decide) ?_
        exact kt
      exact ⟨q1, trivial, fun t kt => (go2 t (go4 t kt))⟩
  refine own_go go1 ?_
  have go5 : ∀ t, Steps p.tables e below (s₁.setTop (mkF m 60 #[.val (.long q1), .second, .val (.long q2), .second, .val (.int p3), .val (.long (((q1 &&& (506381209866536711 : Int64)) ||| (3472328296227680304 : Int64)) + ((q2 &&& (72340172838076673 : Int64)) <<< ((1 : Int32) &&& 0x3f).toInt64))), .second, .val (.long (((p3 &&& (255 : Int32)).toInt64) <<< (((8 : Int32) * (((p3.toUInt32 >>> ((8 : Int32) &&& 31).toUInt32).toInt32) &&& (7 : Int32))) &&& 0x3f).toInt64)), .second, .val (.long wv), .second, .unset] [])) t → Steps p.tables e below (s₁.setTop (mkF m 58 #[.val (.long q1), .second, .val (.long q2), .second, .val (.int p3), .val (.long (((q1 &&& (506381209866536711 : Int64)) ||| (3472328296227680304 : Int64)) + ((q2 &&& (72340172838076673 : Int64)) <<< ((1 : Int32) &&& 0x3f).toInt64))), .second, .val (.long (((p3 &&& (255 : Int32)).toInt64) <<< (((8 : Int32) * (((p3.toUInt32 >>> ((8 : Int32) &&& 31).toUInt32).toInt32) &&& (7 : Int32))) &&& 0x3f).toInt64)), .second, .unset, .unset, .unset] [(.long wv)])) t := by
    intro t kt
    show Steps p.tables e below (s₁.setTop (mkF m 58 #[.val (.long q1), .second, .val (.long q2), .second, .val (.int p3), .val (.long (((q1 &&& (506381209866536711 : Int64)) ||| (3472328296227680304 : Int64)) + ((q2 &&& (72340172838076673 : Int64)) <<< ((1 : Int32) &&& 0x3f).toInt64))), .second, .val (.long (((p3 &&& (255 : Int32)).toInt64) <<< (((8 : Int32) * (((p3.toUInt32 >>> ((8 : Int32) &&& 31).toUInt32).toInt32) &&& (7 : Int32))) &&& 0x3f).toInt64)), .second, .unset, .unset, .unset] [(.long wv)])) _
    refine XS.lstore X0.here hx rfl (hb hby at_58) rfl (l' := #[.val (.long q1), .second, .val (.long q2), .second, .val (.int p3), .val (.long (((q1 &&& (506381209866536711 : Int64)) ||| (3472328296227680304 : Int64)) + ((q2 &&& (72340172838076673 : Int64)) <<< ((1 : Int32) &&& 0x3f).toInt64))), .second, .val (.long (((p3 &&& (255 : Int32)).toInt64) <<< (((8 : Int32) * (((p3.toUInt32 >>> ((8 : Int32) &&& 31).toUInt32).toInt32) &&& (7 : Int32))) &&& 0x3f).toInt64)), .second, .val (.long wv), .second, .unset]) rfl ?_
    exact kt
  refine own_go go5 ?_
  obtain ⟨T6, L6, d, X6, e6, N6, hd, go6⟩ : ∃ (T' : State) (L' : List Loc) (d : Int32), Stand p l e room_1 s m #[(.long q1), (.long q2), (.int p3)] below meth c T' L' 0 0 ∧ T'.heap = h0 ∧ Fr n0 L' ∧ (d = own_X wv) ∧ ∀ t, Steps p.tables e below (T'.setTop (mkF m 139 #[.val (.long q1), .second, .val (.long q2), .second, .val (.int p3), .val (.long (((q1 &&& (506381209866536711 : Int64)) ||| (3472328296227680304 : Int64)) + ((q2 &&& (72340172838076673 : Int64)) <<< ((1 : Int32) &&& 0x3f).toInt64))), .second, .val (.long (((p3 &&& (255 : Int32)).toInt64) <<< (((8 : Int32) * (((p3.toUInt32 >>> ((8 : Int32) &&& 31).toUInt32).toInt32) &&& (7 : Int32))) &&& 0x3f).toInt64)), .second, .val (.long wv), .second, .unset] [(.int d)])) t → Steps p.tables e below (s₁.setTop (mkF m 60 #[.val (.long q1), .second, .val (.long q2), .second, .val (.int p3), .val (.long (((q1 &&& (506381209866536711 : Int64)) ||| (3472328296227680304 : Int64)) + ((q2 &&& (72340172838076673 : Int64)) <<< ((1 : Int32) &&& 0x3f).toInt64))), .second, .val (.long (((p3 &&& (255 : Int32)).toInt64) <<< (((8 : Int32) * (((p3.toUInt32 >>> ((8 : Int32) &&& 31).toUInt32).toInt32) &&& (7 : Int32))) &&& 0x3f).toInt64)), .second, .val (.long wv), .second, .unset] [])) t := by
    have go7 : ∀ t, Steps p.tables e below (s₁.setTop (mkF m 63 #[.val (.long q1), .second, .val (.long q2), .second, .val (.int p3), .val (.long (((q1 &&& (506381209866536711 : Int64)) ||| (3472328296227680304 : Int64)) + ((q2 &&& (72340172838076673 : Int64)) <<< ((1 : Int32) &&& 0x3f).toInt64))), .second, .val (.long (((p3 &&& (255 : Int32)).toInt64) <<< (((8 : Int32) * (((p3.toUInt32 >>> ((8 : Int32) &&& 31).toUInt32).toInt32) &&& (7 : Int32))) &&& 0x3f).toInt64)), .second, .val (.long wv), .second, .unset] [(.int (0 : Int32)), (.long wv)])) t → Steps p.tables e below (s₁.setTop (mkF m 60 #[.val (.long q1), .second, .val (.long q2), .second, .val (.int p3), .val (.long (((q1 &&& (506381209866536711 : Int64)) ||| (3472328296227680304 : Int64)) + ((q2 &&& (72340172838076673 : Int64)) <<< ((1 : Int32) &&& 0x3f).toInt64))), .second, .val (.long (((p3 &&& (255 : Int32)).toInt64) <<< (((8 : Int32) * (((p3.toUInt32 >>> ((8 : Int32) &&& 31).toUInt32).toInt32) &&& (7 : Int32))) &&& 0x3f).toInt64)), .second, .val (.long wv), .second, .unset] [])) t := by
      intro t kt
      show Steps p.tables e below (s₁.setTop (mkF m 60 #[.val (.long q1), .second, .val (.long q2), .second, .val (.int p3), .val (.long (((q1 &&& (506381209866536711 : Int64)) ||| (3472328296227680304 : Int64)) + ((q2 &&& (72340172838076673 : Int64)) <<< ((1 : Int32) &&& 0x3f).toInt64))), .second, .val (.long (((p3 &&& (255 : Int32)).toInt64) <<< (((8 : Int32) * (((p3.toUInt32 >>> ((8 : Int32) &&& 31).toUInt32).toInt32) &&& (7 : Int32))) &&& 0x3f).toInt64)), .second, .val (.long wv), .second, .unset] [])) _
      refine XS.lload X0.here hx rfl (hb hby at_60) rfl ?_
      show Steps p.tables e below (s₁.setTop (mkF m 62 #[.val (.long q1), .second, .val (.long q2), .second, .val (.int p3), .val (.long (((q1 &&& (506381209866536711 : Int64)) ||| (3472328296227680304 : Int64)) + ((q2 &&& (72340172838076673 : Int64)) <<< ((1 : Int32) &&& 0x3f).toInt64))), .second, .val (.long (((p3 &&& (255 : Int32)).toInt64) <<< (((8 : Int32) * (((p3.toUInt32 >>> ((8 : Int32) &&& 31).toUInt32).toInt32) &&& (7 : Int32))) &&& 0x3f).toInt64)), .second, .val (.long wv), .second, .unset] [(.long wv)])) _
      refine XS.iconst X0.here hx rfl (hb hby at_62) ?_
      exact kt
    obtain ⟨_, _, ⟨T8, L8, k8, n8⟩, -, X8, ⟨Lc8, hQ8, l8, y8, z8⟩, st8⟩ := Jvm.LawKit.callS X0 hx (y := (⟨"com/example/tapereel/tapereel/xdp/BytesAreDigitsPinLaw", "isDigitByte", "(JI)Z"⟩ : MethodName)) hown (mvT hZ (hw _ (List.mem_of_getElem? (i := 3) rfl))) (mvT hZ (hw _ (List.mem_of_getElem? (i := 4) rfl))) (mvT hZ (hw _ (List.mem_of_getElem? (i := 5) rfl))) (mvT hZ (hw _ (List.mem_of_getElem? (i := 6) rfl))) (by decide) (backOf (W := 0) (rm1 l Z a0 hw [] wv (0 : Int32) h0 n0 Z0) hZ (hw _ (List.mem_of_getElem? (i := 6) rfl)) (hw _ (List.mem_of_getElem? (i := 5) rfl)) (by decide) (by decide)) (g := (mkF m 63 #[.val (.long q1), .second, .val (.long q2), .second, .val (.int p3), .val (.long (((q1 &&& (506381209866536711 : Int64)) ||| (3472328296227680304 : Int64)) + ((q2 &&& (72340172838076673 : Int64)) <<< ((1 : Int32) &&& 0x3f).toInt64))), .second, .val (.long (((p3 &&& (255 : Int32)).toInt64) <<< (((8 : Int32) * (((p3.toUInt32 >>> ((8 : Int32) &&& 31).toUInt32).toInt32) &&& (7 : Int32))) &&& 0x3f).toInt64)), .second, .val (.long wv), .second, .unset] [(.int (0 : Int32)), (.long wv)])) rfl (by rw [hml]; rfl) (argsL := [(.long wv), (.int (0 : Int32))]) (rest := []) (lenOf pd_0 rfl) rfl (by show 2 * 0 + _ ≤ _; exact Nat.le_of_eq rfl) (hb hby at_63) (fun _ _ => ⟨rfl, e0, (by decide : 0 + 0 ≤ _), (by decide : 0 + 0 ≤ _)⟩)
    dsimp only [Pt.U, Pt.locs, Pt.cells, Pt.slots] at X8 l8 y8 z8 st8 hQ8
    subst l8 y8 z8
    obtain ⟨rfl, N8q, e_0⟩ := hQ8
    have N8 := Fr.app N0 N8q
    have go9 : ∀ t, Steps p.tables e below (T8.setTop (mkF m 66 #[.val (.long q1), .second, .val (.long q2), .second, .val (.int p3), .val (.long (((q1 &&& (506381209866536711 : Int64)) ||| (3472328296227680304 : Int64)) + ((q2 &&& (72340172838076673 : Int64)) <<< ((1 : Int32) &&& 0x3f).toInt64))), .second, .val (.long (((p3 &&& (255 : Int32)).toInt64) <<< (((8 : Int32) * (((p3.toUInt32 >>> ((8 : Int32) &&& 31).toUInt32).toInt32) &&& (7 : Int32))) &&& 0x3f).toInt64)), .second, .val (.long wv), .second, .unset] [(.int (own_D wv (0 : Int32)))])) t → _ := st8
    have eh8 : T8.heap = h0 := e_0
    rcases Classical.em ((own_D wv (0 : Int32)) = (0 : Int32)) with hc66 | hc66
    · have go10 : ∀ t, Steps p.tables e below (T8.setTop (mkF m 139 #[.val (.long q1), .second, .val (.long q2), .second, .val (.int p3), .val (.long (((q1 &&& (506381209866536711 : Int64)) ||| (3472328296227680304 : Int64)) + ((q2 &&& (72340172838076673 : Int64)) <<< ((1 : Int32) &&& 0x3f).toInt64))), .second, .val (.long (((p3 &&& (255 : Int32)).toInt64) <<< (((8 : Int32) * (((p3.toUInt32 >>> ((8 : Int32) &&& 31).toUInt32).toInt32) &&& (7 : Int32))) &&& 0x3f).toInt64)), .second, .val (.long wv), .second, .unset] [(.int (0 : Int32))])) t → Steps p.tables e below (T8.setTop (mkF m 66 #[.val (.long q1), .second, .val (.long q2), .second, .val (.int p3), .val (.long (((q1 &&& (506381209866536711 : Int64)) ||| (3472328296227680304 : Int64)) + ((q2 &&& (72340172838076673 : Int64)) <<< ((1 : Int32) &&& 0x3f).toInt64))), .second, .val (.long (((p3 &&& (255 : Int32)).toInt64) <<< (((8 : Int32) * (((p3.toUInt32 >>> ((8 : Int32) &&& 31).toUInt32).toInt32) &&& (7 : Int32))) &&& 0x3f).toInt64)), .second, .val (.long wv), .second, .unset] [(.int (own_D wv (0 : Int32)))])) t := by
        intro t kt
        show Steps p.tables e below (T8.setTop (mkF m 66 #[.val (.long q1), .second, .val (.long q2), .second, .val (.int p3), .val (.long (((q1 &&& (506381209866536711 : Int64)) ||| (3472328296227680304 : Int64)) + ((q2 &&& (72340172838076673 : Int64)) <<< ((1 : Int32) &&& 0x3f).toInt64))), .second, .val (.long (((p3 &&& (255 : Int32)).toInt64) <<< (((8 : Int32) * (((p3.toUInt32 >>> ((8 : Int32) &&& 31).toUInt32).toInt32) &&& (7 : Int32))) &&& 0x3f).toInt64)), .second, .val (.long wv), .second, .unset] [(.int (own_D wv (0 : Int32)))])) _
        refine XS.ifYes X8.here hx rfl (pc0 := 66) (pc' := 138) rfl (hb hby at_66) rfl ((if0 _ _).trans (teq hc66).1) (by decide) (by decide) ?_
        show Steps p.tables e below (T8.setTop (mkF m 138 #[.val (.long q1), .second, .val (.long q2), .second, .val (.int p3), .val (.long (((q1 &&& (506381209866536711 : Int64)) ||| (3472328296227680304 : Int64)) + ((q2 &&& (72340172838076673 : Int64)) <<< ((1 : Int32) &&& 0x3f).toInt64))), .second, .val (.long (((p3 &&& (255 : Int32)).toInt64) <<< (((8 : Int32) * (((p3.toUInt32 >>> ((8 : Int32) &&& 31).toUInt32).toInt32) &&& (7 : Int32))) &&& 0x3f).toInt64)), .second, .val (.long wv), .second, .unset] [])) _
        refine XS.iconst X8.here hx rfl (hb hby at_138) ?_
        exact kt
      exact ⟨_, _, (0 : Int32), X8, eh8, N8, by first | (simp only [own_X, hc66, not_true_eq_false, not_false_eq_true, and_true, true_and, and_false, false_and, or_true, true_or, or_false, false_or, and_self, or_self, eq_self, if_true, if_false]; done) | (simp [own_X, hc66]; done), fun t kt => (go7 t (go9 t (go10 t kt)))⟩
    · have go11 : ∀ t, Steps p.tables e below (T8.setTop (mkF m 72 #[.val (.long q1), .second, .val (.long q2), .second, .val (.int p3), .val (.long (((q1 &&& (506381209866536711 : Int64)) ||| (3472328296227680304 : Int64)) + ((q2 &&& (72340172838076673 : Int64)) <<< ((1 : Int32) &&& 0x3f).toInt64))), .second, .val (.long (((p3 &&& (255 : Int32)).toInt64) <<< (((8 : Int32) * (((p3.toUInt32 >>> ((8 : Int32) &&& 31).toUInt32).toInt32) &&& (7 : Int32))) &&& 0x3f).toInt64)), .second, .val (.long wv), .second, .unset] [(.int (1 : Int32)), (.long wv)])) t → Steps p.tables e below (T8.setTop (mkF m 66 #[.val (.long q1), .second, .val (.long q2), .second, .val (.int p3), .val (.long (((q1 &&& (506381209866536711 : Int64)) ||| (3472328296227680304 : Int64)) + ((q2 &&& (72340172838076673 : Int64)) <<< ((1 : Int32) &&& 0x3f).toInt64))), .second, .val (.long (((p3 &&& (255 : Int32)).toInt64) <<< (((8 : Int32) * (((p3.toUInt32 >>> ((8 : Int32) &&& 31).toUInt32).toInt32) &&& (7 : Int32))) &&& 0x3f).toInt64)), .second, .val (.long wv), .second, .unset] [(.int (own_D wv (0 : Int32)))])) t := by
        intro t kt
        show Steps p.tables e below (T8.setTop (mkF m 66 #[.val (.long q1), .second, .val (.long q2), .second, .val (.int p3), .val (.long (((q1 &&& (506381209866536711 : Int64)) ||| (3472328296227680304 : Int64)) + ((q2 &&& (72340172838076673 : Int64)) <<< ((1 : Int32) &&& 0x3f).toInt64))), .second, .val (.long (((p3 &&& (255 : Int32)).toInt64) <<< (((8 : Int32) * (((p3.toUInt32 >>> ((8 : Int32) &&& 31).toUInt32).toInt32) &&& (7 : Int32))) &&& 0x3f).toInt64)), .second, .val (.long wv), .second, .unset] [(.int (own_D wv (0 : Int32)))])) _
        refine XS.ifNo X8.here hx rfl (hb hby at_66) rfl ((if0 _ _).trans (feq hc66).1) ?_
        show Steps p.tables e below (T8.setTop (mkF m 69 #[.val (.long q1), .second, .val (.long q2), .second, .val (.int p3), .val (.long (((q1 &&& (506381209866536711 : Int64)) ||| (3472328296227680304 : Int64)) + ((q2 &&& (72340172838076673 : Int64)) <<< ((1 : Int32) &&& 0x3f).toInt64))), .second, .val (.long (((p3 &&& (255 : Int32)).toInt64) <<< (((8 : Int32) * (((p3.toUInt32 >>> ((8 : Int32) &&& 31).toUInt32).toInt32) &&& (7 : Int32))) &&& 0x3f).toInt64)), .second, .val (.long wv), .second, .unset] [])) _
        refine XS.lload X8.here hx rfl (hb hby at_69) rfl ?_
        show Steps p.tables e below (T8.setTop (mkF m 71 #[.val (.long q1), .second, .val (.long q2), .second, .val (.int p3), .val (.long (((q1 &&& (506381209866536711 : Int64)) ||| (3472328296227680304 : Int64)) + ((q2 &&& (72340172838076673 : Int64)) <<< ((1 : Int32) &&& 0x3f).toInt64))), .second, .val (.long (((p3 &&& (255 : Int32)).toInt64) <<< (((8 : Int32) * (((p3.toUInt32 >>> ((8 : Int32) &&& 31).toUInt32).toInt32) &&& (7 : Int32))) &&& 0x3f).toInt64)), .second, .val (.long wv), .second, .unset] [(.long wv)])) _
        refine XS.iconst X8.here hx rfl (hb hby at_71) ?_
        exact kt
      obtain ⟨_, _, ⟨T12, L12, k12, n12⟩, -, X12, ⟨Lc12, hQ12, l12, y12, z12⟩, st12⟩ := Jvm.LawKit.callS X8 hx (y := (⟨"com/example/tapereel/tapereel/xdp/BytesAreDigitsPinLaw", "isDigitByte", "(JI)Z"⟩ : MethodName)) hown (mvT hZ (hw _ (List.mem_of_getElem? (i := 3) rfl))) (mvT hZ (hw _ (List.mem_of_getElem? (i := 4) rfl))) (mvT hZ (hw _ (List.mem_of_getElem? (i := 5) rfl))) (mvT hZ (hw _ (List.mem_of_getElem? (i := 6) rfl))) (by decide) (backOf (W := 0) (rm1 l Z a0 hw [] wv (1 : Int32) h0 n0 Z0) hZ (hw _ (List.mem_of_getElem? (i := 6) rfl)) (hw _ (List.mem_of_getElem? (i := 5) rfl)) (by decide) (by decide)) (g := (mkF m 72 #[.val (.long q1), .second, .val (.long q2), .second, .val (.int p3), .val (.long (((q1 &&& (506381209866536711 : Int64)) ||| (3472328296227680304 : Int64)) + ((q2 &&& (72340172838076673 : Int64)) <<< ((1 : Int32) &&& 0x3f).toInt64))), .second, .val (.long (((p3 &&& (255 : Int32)).toInt64) <<< (((8 : Int32) * (((p3.toUInt32 >>> ((8 : Int32) &&& 31).toUInt32).toInt32) &&& (7 : Int32))) &&& 0x3f).toInt64)), .second, .val (.long wv), .second, .unset] [(.int (1 : Int32)), (.long wv)])) rfl (by rw [hml]; rfl) (argsL := [(.long wv), (.int (1 : Int32))]) (rest := []) (lenOf pd_0 rfl) rfl (by show 2 * 0 + _ ≤ _; exact Nat.le_of_eq rfl) (hb hby at_72) (fun _ _ => ⟨rfl, eh8, (by decide : 0 + 0 ≤ _), (by decide : 0 + 0 ≤ _)⟩)
      dsimp only [Pt.U, Pt.locs, Pt.cells, Pt.slots] at X12 l12 y12 z12 st12 hQ12
      subst l12 y12 z12
      obtain ⟨rfl, N12q, e_1⟩ := hQ12
      have N12 := Fr.app N8 N12q
      have go13 : ∀ t, Steps p.tables e below (T12.setTop (mkF m 75 #[.val (.long q1), .second, .val (.long q2), .second, .val (.int p3), .val (.long (((q1 &&& (506381209866536711 : Int64)) ||| (3472328296227680304 : Int64)) + ((q2 &&& (72340172838076673 : Int64)) <<< ((1 : Int32) &&& 0x3f).toInt64))), .second, .val (.long (((p3 &&& (255 : Int32)).toInt64) <<< (((8 : Int32) * (((p3.toUInt32 >>> ((8 : Int32) &&& 31).toUInt32).toInt32) &&& (7 : Int32))) &&& 0x3f).toInt64)), .second, .val (.long wv), .second, .unset] [(.int (own_D wv (1 : Int32)))])) t → _ := st12
      have eh12 : T12.heap = h0 := e_1
      rcases Classical.em ((own_D wv (1 : Int32)) = (0 : Int32)) with hc75 | hc75
      · have go14 : ∀ t, Steps p.tables e below (T12.setTop (mkF m 139 #[.val (.long q1), .second, .val (.long q2), .second, .val (.int p3), .val (.long (((q1 &&& (506381209866536711 : Int64)) ||| (3472328296227680304 : Int64)) + ((q2 &&& (72340172838076673 : Int64)) <<< ((1 : Int32) &&& 0x3f).toInt64))), .second, .val (.long (((p3 &&& (255 : Int32)).toInt64) <<< (((8 : Int32) * (((p3.toUInt32 >>> ((8 : Int32) &&& 31).toUInt32).toInt32) &&& (7 : Int32))) &&& 0x3f).toInt64)), .second, .val (.long wv), .second, .unset] [(.int (0 : Int32))])) t → Steps p.tables e below (T12.setTop (mkF m 75 #[.val (.long q1), .second, .val (.long q2), .second, .val (.int p3), .val (.long (((q1 &&& (506381209866536711 : Int64)) ||| (3472328296227680304 : Int64)) + ((q2 &&& (72340172838076673 : Int64)) <<< ((1 : Int32) &&& 0x3f).toInt64))), .second, .val (.long (((p3 &&& (255 : Int32)).toInt64) <<< (((8 : Int32) * (((p3.toUInt32 >>> ((8 : Int32) &&& 31).toUInt32).toInt32) &&& (7 : Int32))) &&& 0x3f).toInt64)), .second, .val (.long wv), .second, .unset] [(.int (own_D wv (1 : Int32)))])) t := by
          intro t kt
          show Steps p.tables e below (T12.setTop (mkF m 75 #[.val (.long q1), .second, .val (.long q2), .second, .val (.int p3), .val (.long (((q1 &&& (506381209866536711 : Int64)) ||| (3472328296227680304 : Int64)) + ((q2 &&& (72340172838076673 : Int64)) <<< ((1 : Int32) &&& 0x3f).toInt64))), .second, .val (.long (((p3 &&& (255 : Int32)).toInt64) <<< (((8 : Int32) * (((p3.toUInt32 >>> ((8 : Int32) &&& 31).toUInt32).toInt32) &&& (7 : Int32))) &&& 0x3f).toInt64)), .second, .val (.long wv), .second, .unset] [(.int (own_D wv (1 : Int32)))])) _
          refine XS.ifYes X12.here hx rfl (pc0 := 75) (pc' := 138) rfl (hb hby at_75) rfl ((if0 _ _).trans (teq hc75).1) (by decide) (by decide) ?_
          show Steps p.tables e below (T12.setTop (mkF m 138 #[.val (.long q1), .second, .val (.long q2), .second, .val (.int p3), .val (.long (((q1 &&& (506381209866536711 : Int64)) ||| (3472328296227680304 : Int64)) + ((q2 &&& (72340172838076673 : Int64)) <<< ((1 : Int32) &&& 0x3f).toInt64))), .second, .val (.long (((p3 &&& (255 : Int32)).toInt64) <<< (((8 : Int32) * (((p3.toUInt32 >>> ((8 : Int32) &&& 31).toUInt32).toInt32) &&& (7 : Int32))) &&& 0x3f).toInt64)), .second, .val (.long wv), .second, .unset] [])) _
          refine XS.iconst X12.here hx rfl (hb hby at_138) ?_
          exact kt
        exact ⟨_, _, (0 : Int32), X12, eh12, N12, by first | (simp only [own_X, hc66, hc75, not_true_eq_false, not_false_eq_true, and_true, true_and, and_false, false_and, or_true, true_or, or_false, false_or, and_self, or_self, eq_self, if_true, if_false]; done) | (simp [own_X, hc66, hc75]; done), fun t kt => (go7 t (go9 t (go11 t (go13 t (go14 t kt)))))⟩
      · have go15 : ∀ t, Steps p.tables e below (T12.setTop (mkF m 81 #[.val (.long q1), .second, .val (.long q2), .second, .val (.int p3), .val (.long (((q1 &&& (506381209866536711 : Int64)) ||| (3472328296227680304 : Int64)) + ((q2 &&& (72340172838076673 : Int64)) <<< ((1 : Int32) &&& 0x3f).toInt64))), .second, .val (.long (((p3 &&& (255 : Int32)).toInt64) <<< (((8 : Int32) * (((p3.toUInt32 >>> ((8 : Int32) &&& 31).toUInt32).toInt32) &&& (7 : Int32))) &&& 0x3f).toInt64)), .second, .val (.long wv), .second, .unset] [(.int (2 : Int32)), (.long wv)])) t → Steps p.tables e below (T12.setTop (mkF m 75 #[.val (.long q1), .second, .val (.long q2), .second, .val (.int p3), .val (.long (((q1 &&& (506381209866536711 : Int64)) ||| (3472328296227680304 : Int64)) + ((q2 &&& (72340172838076673 : Int64)) <<< ((1 : Int32) &&& 0x3f).toInt64))), .second, .val (.long (((p3 &&& (255 : Int32)).toInt64) <<< (((8 : Int32) * (((p3.toUInt32 >>> ((8 : Int32) &&& 31).toUInt32).toInt32) &&& (7 : Int32))) &&& 0x3f).toInt64)), .second, .val (.long wv), .second, .unset] [(.int (own_D wv (1 : Int32)))])) t := by
          intro t kt
          show Steps p.tables e below (T12.setTop (mkF m 75 #[.val (.long q1), .second, .val (.long q2), .second, .val (.int p3), .val (.long (((q1 &&& (506381209866536711 : Int64)) ||| (3472328296227680304 : Int64)) + ((q2 &&& (72340172838076673 : Int64)) <<< ((1 : Int32) &&& 0x3f).toInt64))), .second, .val (.long (((p3 &&& (255 : Int32)).toInt64) <<< (((8 : Int32) * (((p3.toUInt32 >>> ((8 : Int32) &&& 31).toUInt32).toInt32) &&& (7 : Int32))) &&& 0x3f).toInt64)), .second, .val (.long wv), .second, .unset] [(.int (own_D wv (1 : Int32)))])) _
          refine XS.ifNo X12.here hx rfl (hb hby at_75) rfl ((if0 _ _).trans (feq hc75).1) ?_
          show Steps p.tables e below (T12.setTop (mkF m 78 #[.val (.long q1), .second, .val (.long q2), .second, .val (.int p3), .val (.long (((q1 &&& (506381209866536711 : Int64)) ||| (3472328296227680304 : Int64)) + ((q2 &&& (72340172838076673 : Int64)) <<< ((1 : Int32) &&& 0x3f).toInt64))), .second, .val (.long (((p3 &&& (255 : Int32)).toInt64) <<< (((8 : Int32) * (((p3.toUInt32 >>> ((8 : Int32) &&& 31).toUInt32).toInt32) &&& (7 : Int32))) &&& 0x3f).toInt64)), .second, .val (.long wv), .second, .unset] [])) _
          refine XS.lload X12.here hx rfl (hb hby at_78) rfl ?_
          show Steps p.tables e below (T12.setTop (mkF m 80 #[.val (.long q1), .second, .val (.long q2), .second, .val (.int p3), .val (.long (((q1 &&& (506381209866536711 : Int64)) ||| (3472328296227680304 : Int64)) + ((q2 &&& (72340172838076673 : Int64)) <<< ((1 : Int32) &&& 0x3f).toInt64))), .second, .val (.long (((p3 &&& (255 : Int32)).toInt64) <<< (((8 : Int32) * (((p3.toUInt32 >>> ((8 : Int32) &&& 31).toUInt32).toInt32) &&& (7 : Int32))) &&& 0x3f).toInt64)), .second, .val (.long wv), .second, .unset] [(.long wv)])) _
          refine XS.iconst X12.here hx rfl (hb hby at_80) ?_
          exact kt
        obtain ⟨_, _, ⟨T16, L16, k16, n16⟩, -, X16, ⟨Lc16, hQ16, l16, y16, z16⟩, st16⟩ := Jvm.LawKit.callS X12 hx (y := (⟨"com/example/tapereel/tapereel/xdp/BytesAreDigitsPinLaw", "isDigitByte", "(JI)Z"⟩ : MethodName)) hown (mvT hZ (hw _ (List.mem_of_getElem? (i := 3) rfl))) (mvT hZ (hw _ (List.mem_of_getElem? (i := 4) rfl))) (mvT hZ (hw _ (List.mem_of_getElem? (i := 5) rfl))) (mvT hZ (hw _ (List.mem_of_getElem? (i := 6) rfl))) (by decide) (backOf (W := 0) (rm1 l Z a0 hw [] wv (2 : Int32) h0 n0 Z0) hZ (hw _ (List.mem_of_getElem? (i := 6) rfl)) (hw _ (List.mem_of_getElem? (i := 5) rfl)) (by decide) (by decide)) (g := (mkF m 81 #[.val (.long q1), .second, .val (.long q2), .second, .val (.int p3), .val (.long (((q1 &&& (506381209866536711 : Int64)) ||| (3472328296227680304 : Int64)) + ((q2 &&& (72340172838076673 : Int64)) <<< ((1 : Int32) &&& 0x3f).toInt64))), .second, .val (.long (((p3 &&& (255 : Int32)).toInt64) <<< (((8 : Int32) * (((p3.toUInt32 >>> ((8 : Int32) &&& 31).toUInt32).toInt32) &&& (7 : Int32))) &&& 0x3f).toInt64)), .second, .val (.long wv), .second, .unset] [(.int (2 : Int32)), (.long wv)])) rfl (by rw [hml]; rfl) (argsL := [(.long wv), (.int (2 : Int32))]) (rest := []) (lenOf pd_0 rfl) rfl (by show 2 * 0 + _ ≤ _; exact Nat.le_of_eq rfl) (hb hby at_81) (fun _ _ => ⟨rfl, eh12, (by decide : 0 + 0 ≤ _), (by decide : 0 + 0 ≤ _)⟩)
        dsimp only [Pt.U, Pt.locs, Pt.cells, Pt.slots] at X16 l16 y16 z16 st16 hQ16
        subst l16 y16 z16
        obtain ⟨rfl, N16q, e_2⟩ := hQ16
        have N16 := Fr.app N12 N16q
        have go17 : ∀ t, Steps p.tables e below (T16.setTop (mkF m 84 #[.val (.long q1), .second, .val (.long q2), .second, .val (.int p3), .val (.long (((q1 &&& (506381209866536711 : Int64)) ||| (3472328296227680304 : Int64)) + ((q2 &&& (72340172838076673 : Int64)) <<< ((1 : Int32) &&& 0x3f).toInt64))), .second, .val (.long (((p3 &&& (255 : Int32)).toInt64) <<< (((8 : Int32) * (((p3.toUInt32 >>> ((8 : Int32) &&& 31).toUInt32).toInt32) &&& (7 : Int32))) &&& 0x3f).toInt64)), .second, .val (.long wv), .second, .unset] [(.int (own_D wv (2 : Int32)))])) t → _ := st16
        have eh16 : T16.heap = h0 := e_2
        rcases Classical.em ((own_D wv (2 : Int32)) = (0 : Int32)) with hc84 | hc84
        · have go18 : ∀ t, Steps p.tables e below (T16.setTop (mkF m 139 #[.val (.long q1), .second, .val (.long q2), .second, .val (.int p3), .val (.long (((q1 &&& (506381209866536711 : Int64)) ||| (3472328296227680304 : Int64)) + ((q2 &&& (72340172838076673 : Int64)) <<< ((1 : Int32) &&& 0x3f).toInt64))), .second, .val (.long (((p3 &&& (255 : Int32)).toInt64) <<< (((8 : Int32) * (((p3.toUInt32 >>> ((8 : Int32) &&& 31).toUInt32).toInt32) &&& (7 : Int32))) &&& 0x3f).toInt64)), .second, .val (.long wv), .second, .unset] [(.int (0 : Int32))])) t → Steps p.tables e below (T16.setTop (mkF m 84 #[.val (.long q1), .second, .val (.long q2), .second, .val (.int p3), .val (.long (((q1 &&& (506381209866536711 : Int64)) ||| (3472328296227680304 : Int64)) + ((q2 &&& (72340172838076673 : Int64)) <<< ((1 : Int32) &&& 0x3f).toInt64))), .second, .val (.long (((p3 &&& (255 : Int32)).toInt64) <<< (((8 : Int32) * (((p3.toUInt32 >>> ((8 : Int32) &&& 31).toUInt32).toInt32) &&& (7 : Int32))) &&& 0x3f).toInt64)), .second, .val (.long wv), .second, .unset] [(.int (own_D wv (2 : Int32)))])) t := by
            intro t kt
            show Steps p.tables e below (T16.setTop (mkF m 84 #[.val (.long q1), .second, .val (.long q2), .second, .val (.int p3), .val (.long (((q1 &&& (506381209866536711 : Int64)) ||| (3472328296227680304 : Int64)) + ((q2 &&& (72340172838076673 : Int64)) <<< ((1 : Int32) &&& 0x3f).toInt64))), .second, .val (.long (((p3 &&& (255 : Int32)).toInt64) <<< (((8 : Int32) * (((p3.toUInt32 >>> ((8 : Int32) &&& 31).toUInt32).toInt32) &&& (7 : Int32))) &&& 0x3f).toInt64)), .second, .val (.long wv), .second, .unset] [(.int (own_D wv (2 : Int32)))])) _
            refine XS.ifYes X16.here hx rfl (pc0 := 84) (pc' := 138) rfl (hb hby at_84) rfl ((if0 _ _).trans (teq hc84).1) (by decide) (by decide) ?_
            show Steps p.tables e below (T16.setTop (mkF m 138 #[.val (.long q1), .second, .val (.long q2), .second, .val (.int p3), .val (.long (((q1 &&& (506381209866536711 : Int64)) ||| (3472328296227680304 : Int64)) + ((q2 &&& (72340172838076673 : Int64)) <<< ((1 : Int32) &&& 0x3f).toInt64))), .second, .val (.long (((p3 &&& (255 : Int32)).toInt64) <<< (((8 : Int32) * (((p3.toUInt32 >>> ((8 : Int32) &&& 31).toUInt32).toInt32) &&& (7 : Int32))) &&& 0x3f).toInt64)), .second, .val (.long wv), .second, .unset] [])) _
            refine XS.iconst X16.here hx rfl (hb hby at_138) ?_
            exact kt
          exact ⟨_, _, (0 : Int32), X16, eh16, N16, by first | (simp only [own_X, hc66, hc75, hc84, not_true_eq_false, not_false_eq_true, and_true, true_and, and_false, false_and, or_true, true_or, or_false, false_or, and_self, or_self, eq_self, if_true, if_false]; done) | (simp [own_X, hc66, hc75, hc84]; done), fun t kt => (go7 t (go9 t (go11 t (go13 t (go15 t (go17 t (go18 t kt)))))))⟩
        · have go19 : ∀ t, Steps p.tables e below (T16.setTop (mkF m 90 #[.val (.long q1), .second, .val (.long q2), .second, .val (.int p3), .val (.long (((q1 &&& (506381209866536711 : Int64)) ||| (3472328296227680304 : Int64)) + ((q2 &&& (72340172838076673 : Int64)) <<< ((1 : Int32) &&& 0x3f).toInt64))), .second, .val (.long (((p3 &&& (255 : Int32)).toInt64) <<< (((8 : Int32) * (((p3.toUInt32 >>> ((8 : Int32) &&& 31).toUInt32).toInt32) &&& (7 : Int32))) &&& 0x3f).toInt64)), .second, .val (.long wv), .second, .unset] [(.int (3 : Int32)), (.long wv)])) t → Steps p.tables e below (T16.setTop (mkF m 84 #[.val (.long q1), .second, .val (.long q2), .second, .val (.int p3), .val (.long (((q1 &&& (506381209866536711 : Int64)) ||| (3472328296227680304 : Int64)) + ((q2 &&& (72340172838076673 : Int64)) <<< ((1 : Int32) &&& 0x3f).toInt64))), .second, .val (.long (((p3 &&& (255 : Int32)).toInt64) <<< (((8 : Int32) * (((p3.toUInt32 >>> ((8 : Int32) &&& 31).toUInt32).toInt32) &&& (7 : Int32))) &&& 0x3f).toInt64)), .second, .val (.long wv), .second, .unset] [(.int (own_D wv (2 : Int32)))])) t := by
            intro t kt
            show Steps p.tables e below (T16.setTop (mkF m 84 #[.val (.long q1), .second, .val (.long q2), .second, .val (.int p3), .val (.long (((q1 &&& (506381209866536711 : Int64)) ||| (3472328296227680304 : Int64)) + ((q2 &&& (72340172838076673 : Int64)) <<< ((1 : Int32) &&& 0x3f).toInt64))), .second, .val (.long (((p3 &&& (255 : Int32)).toInt64) <<< (((8 : Int32) * (((p3.toUInt32 >>> ((8 : Int32) &&& 31).toUInt32).toInt32) &&& (7 : Int32))) &&& 0x3f).toInt64)), .second, .val (.long wv), .second, .unset] [(.int (own_D wv (2 : Int32)))])) _
            refine XS.ifNo X16.here hx rfl (hb hby at_84) rfl ((if0 _ _).trans (feq hc84).1) ?_
            show Steps p.tables e below (T16.setTop (mkF m 87 #[.val (.long q1), .second, .val (.long q2), .second, .val (.int p3), .val (.long (((q1 &&& (506381209866536711 : Int64)) ||| (3472328296227680304 : Int64)) + ((q2 &&& (72340172838076673 : Int64)) <<< ((1 : Int32) &&& 0x3f).toInt64))), .second, .val (.long (((p3 &&& (255 : Int32)).toInt64) <<< (((8 : Int32) * (((p3.toUInt32 >>> ((8 : Int32) &&& 31).toUInt32).toInt32) &&& (7 : Int32))) &&& 0x3f).toInt64)), .second, .val (.long wv), .second, .unset] [])) _
            refine XS.lload X16.here hx rfl (hb hby at_87) rfl ?_
            show Steps p.tables e below (T16.setTop (mkF m 89 #[.val (.long q1), .second, .val (.long q2), .second, .val (.int p3), .val (.long (((q1 &&& (506381209866536711 : Int64)) ||| (3472328296227680304 : Int64)) + ((q2 &&& (72340172838076673 : Int64)) <<< ((1 : Int32) &&& 0x3f).toInt64))), .second, .val (.long (((p3 &&& (255 : Int32)).toInt64) <<< (((8 : Int32) * (((p3.toUInt32 >>> ((8 : Int32) &&& 31).toUInt32).toInt32) &&& (7 : Int32))) &&& 0x3f).toInt64)), .second, .val (.long wv), .second, .unset] [(.long wv)])) _
            refine XS.iconst X16.here hx rfl (hb hby at_89) ?_
            exact kt
          obtain ⟨_, _, ⟨T20, L20, k20, n20⟩, -, X20, ⟨Lc20, hQ20, l20, y20, z20⟩, st20⟩ := Jvm.LawKit.callS X16 hx (y := (⟨"com/example/tapereel/tapereel/xdp/BytesAreDigitsPinLaw", "isDigitByte", "(JI)Z"⟩ : MethodName)) hown (mvT hZ (hw _ (List.mem_of_getElem? (i := 3) rfl))) (mvT hZ (hw _ (List.mem_of_getElem? (i := 4) rfl))) (mvT hZ (hw _ (List.mem_of_getElem? (i := 5) rfl))) (mvT hZ (hw _ (List.mem_of_getElem? (i := 6) rfl))) (by decide) (backOf (W := 0) (rm1 l Z a0 hw [] wv (3 : Int32) h0 n0 Z0) hZ (hw _ (List.mem_of_getElem? (i := 6) rfl)) (hw _ (List.mem_of_getElem? (i := 5) rfl)) (by decide) (by decide)) (g := (mkF m 90 #[.val (.long q1), .second, .val (.long q2), .second, .val (.int p3), .val (.long (((q1 &&& (506381209866536711 : Int64)) ||| (3472328296227680304 : Int64)) + ((q2 &&& (72340172838076673 : Int64)) <<< ((1 : Int32) &&& 0x3f).toInt64))), .second, .val (.long (((p3 &&& (255 : Int32)).toInt64) <<< (((8 : Int32) * (((p3.toUInt32 >>> ((8 : Int32) &&& 31).toUInt32).toInt32) &&& (7 : Int32))) &&& 0x3f).toInt64)), .second, .val (.long wv), .second, .unset] [(.int (3 : Int32)), (.long wv)])) rfl (by rw [hml]; rfl) (argsL := [(.long wv), (.int (3 : Int32))]) (rest := []) (lenOf pd_0 rfl) rfl (by show 2 * 0 + _ ≤ _; exact Nat.le_of_eq rfl) (hb hby at_90) (fun _ _ => ⟨rfl, eh16, (by decide : 0 + 0 ≤ _), (by decide : 0 + 0 ≤ _)⟩)
          dsimp only [Pt.U, Pt.locs, Pt.cells, Pt.slots] at X20 l20 y20 z20 st20 hQ20
          subst l20 y20 z20
          obtain ⟨rfl, N20q, e_3⟩ := hQ20
          have N20 := Fr.app N16 N20q
          have go21 : ∀ t, Steps p.tables e below (T20.setTop (mkF m 93 #[.val (.long q1), .second, .val (.long q2), .second, .val (.int p3), .val (.long (((q1 &&& (506381209866536711 : Int64)) ||| (3472328296227680304 : Int64)) + ((q2 &&& (72340172838076673 : Int64)) <<< ((1 : Int32) &&& 0x3f).toInt64))), .second, .val (.long (((p3 &&& (255 : Int32)).toInt64) <<< (((8 : Int32) * (((p3.toUInt32 >>> ((8 : Int32) &&& 31).toUInt32).toInt32) &&& (7 : Int32))) &&& 0x3f).toInt64)), .second, .val (.long wv), .second, .unset] [(.int (own_D wv (3 : Int32)))])) t → _ := st20
          have eh20 : T20.heap = h0 := e_3
          rcases Classical.em ((own_D wv (3 : Int32)) = (0 : Int32)) with hc93 | hc93
          · have go22 : ∀ t, Steps p.tables e below (T20.setTop (mkF m 139 #[.val (.long q1), .second, .val (.long q2), .second, .val (.int p3), .val (.long (((q1 &&& (506381209866536711 : Int64)) ||| (3472328296227680304 : Int64)) + ((q2 &&& (72340172838076673 : Int64)) <<< ((1 : Int32) &&& 0x3f).toInt64))), .second, .val (.long (((p3 &&& (255 : Int32)).toInt64) <<< (((8 : Int32) * (((p3.toUInt32 >>> ((8 : Int32) &&& 31).toUInt32).toInt32) &&& (7 : Int32))) &&& 0x3f).toInt64)), .second, .val (.long wv), .second, .unset] [(.int (0 : Int32))])) t → Steps p.tables e below (T20.setTop (mkF m 93 #[.val (.long q1), .second, .val (.long q2), .second, .val (.int p3), .val (.long (((q1 &&& (506381209866536711 : Int64)) ||| (3472328296227680304 : Int64)) + ((q2 &&& (72340172838076673 : Int64)) <<< ((1 : Int32) &&& 0x3f).toInt64))), .second, .val (.long (((p3 &&& (255 : Int32)).toInt64) <<< (((8 : Int32) * (((p3.toUInt32 >>> ((8 : Int32) &&& 31).toUInt32).toInt32) &&& (7 : Int32))) &&& 0x3f).toInt64)), .second, .val (.long wv), .second, .unset] [(.int (own_D wv (3 : Int32)))])) t := by
              intro t kt
              show Steps p.tables e below (T20.setTop (mkF m 93 #[.val (.long q1), .second, .val (.long q2), .second, .val (.int p3), .val (.long (((q1 &&& (506381209866536711 : Int64)) ||| (3472328296227680304 : Int64)) + ((q2 &&& (72340172838076673 : Int64)) <<< ((1 : Int32) &&& 0x3f).toInt64))), .second, .val (.long (((p3 &&& (255 : Int32)).toInt64) <<< (((8 : Int32) * (((p3.toUInt32 >>> ((8 : Int32) &&& 31).toUInt32).toInt32) &&& (7 : Int32))) &&& 0x3f).toInt64)), .second, .val (.long wv), .second, .unset] [(.int (own_D wv (3 : Int32)))])) _
              refine XS.ifYes X20.here hx rfl (pc0 := 93) (pc' := 138) rfl (hb hby at_93) rfl ((if0 _ _).trans (teq hc93).1) (by decide) (by decide) ?_
              show Steps p.tables e below (T20.setTop (mkF m 138 #[.val (.long q1), .second, .val (.long q2), .second, .val (.int p3), .val (.long (((q1 &&& (506381209866536711 : Int64)) ||| (3472328296227680304 : Int64)) + ((q2 &&& (72340172838076673 : Int64)) <<< ((1 : Int32) &&& 0x3f).toInt64))), .second, .val (.long (((p3 &&& (255 : Int32)).toInt64) <<< (((8 : Int32) * (((p3.toUInt32 >>> ((8 : Int32) &&& 31).toUInt32).toInt32) &&& (7 : Int32))) &&& 0x3f).toInt64)), .second, .val (.long wv), .second, .unset] [])) _
              refine XS.iconst X20.here hx rfl (hb hby at_138) ?_
              exact kt
            exact ⟨_, _, (0 : Int32), X20, eh20, N20, by first | (simp only [own_X, hc66, hc75, hc84, hc93, not_true_eq_false, not_false_eq_true, and_true, true_and, and_false, false_and, or_true, true_or, or_false, false_or, and_self, or_self, eq_self, if_true, if_false]; done) | (simp [own_X, hc66, hc75, hc84, hc93]; done), fun t kt => (go7 t (go9 t (go11 t (go13 t (go15 t (go17 t (go19 t (go21 t (go22 t kt)))))))))⟩
          · have go23 : ∀ t, Steps p.tables e below (T20.setTop (mkF m 99 #[.val (.long q1), .second, .val (.long q2), .second, .val (.int p3), .val (.long (((q1 &&& (506381209866536711 : Int64)) ||| (3472328296227680304 : Int64)) + ((q2 &&& (72340172838076673 : Int64)) <<< ((1 : Int32) &&& 0x3f).toInt64))), .second, .val (.long (((p3 &&& (255 : Int32)).toInt64) <<< (((8 : Int32) * (((p3.toUInt32 >>> ((8 : Int32) &&& 31).toUInt32).toInt32) &&& (7 : Int32))) &&& 0x3f).toInt64)), .second, .val (.long wv), .second, .unset] [(.int (4 : Int32)), (.long wv)])) t → Steps p.tables e below (T20.setTop (mkF m 93 #[.val (.long q1), .second, .val (.long q2), .second, .val (.int p3), .val (.long (((q1 &&& (506381209866536711 : Int64)) ||| (3472328296227680304 : Int64)) + ((q2 &&& (72340172838076673 : Int64)) <<< ((1 : Int32) &&& 0x3f).toInt64))), .second, .val (.long (((p3 &&& (255 : Int32)).toInt64) <<< (((8 : Int32) * (((p3.toUInt32 >>> ((8 : Int32) &&& 31).toUInt32).toInt32) &&& (7 : Int32))) &&& 0x3f).toInt64)), .second, .val (.long wv), .second, .unset] [(.int (own_D wv (3 : Int32)))])) t := by
              intro t kt
              show Steps p.tables e below (T20.setTop (mkF m 93 #[.val (.long q1), .second, .val (.long q2), .second, .val (.int p3), .val (.long (((q1 &&& (506381209866536711 : Int64)) ||| (3472328296227680304 : Int64)) + ((q2 &&& (72340172838076673 : Int64)) <<< ((1 : Int32) &&& 0x3f).toInt64))), .second, .val (.long (((p3 &&& (255 : Int32)).toInt64) <<< (((8 : Int32) * (((p3.toUInt32 >>> ((8 : Int32) &&& 31).toUInt32).toInt32) &&& (7 : Int32))) &&& 0x3f).toInt64)), .second, .val (.long wv), .second, .unset] [(.int (own_D wv (3 : Int32)))])) _
              refine XS.ifNo X20.here hx rfl (hb hby at_93) rfl ((if0 _ _).trans (feq hc93).1) ?_
              show Steps p.tables e below (T20.setTop (mkF m 96 #[.val (.long q1), .second, .val (.long q2), .second, .val (.int p3), .val (.long (((q1 &&& (506381209866536711 : Int64)) ||| (3472328296227680304 : Int64)) + ((q2 &&& (72340172838076673 : Int64)) <<< ((1 : Int32) &&& 0x3f).toInt64))), .second, .val (.long (((p3 &&& (255 : Int32)).toInt64) <<< (((8 : Int32) * (((p3.toUInt32 >>> ((8 : Int32) &&& 31).toUInt32).toInt32) &&& (7 : Int32))) &&& 0x3f).toInt64)), .second, .val (.long wv), .second, .unset] [])) _
              refine XS.lload X20.here hx rfl (hb hby at_96) rfl ?_
              show Steps p.tables e below (T20.setTop (mkF m 98 #[.val (.long q1), .second, .val (.long q2), .second, .val (.int p3), .val (.long (((q1 &&& (506381209866536711 : Int64)) ||| (3472328296227680304 : Int64)) + ((q2 &&& (72340172838076673 : Int64)) <<< ((1 : Int32) &&& 0x3f).toInt64))), .second, .val (.long (((p3 &&& (255 : Int32)).toInt64) <<< (((8 : Int32) * (((p3.toUInt32 >>> ((8 : Int32) &&& 31).toUInt32).toInt32) &&& (7 : Int32))) &&& 0x3f).toInt64)), .second, .val (.long wv), .second, .unset] [(.long wv)])) _
              refine XS.iconst X20.here hx rfl (hb hby at_98) ?_
              exact kt
            obtain ⟨_, _, ⟨T24, L24, k24, n24⟩, -, X24, ⟨Lc24, hQ24, l24, y24, z24⟩, st24⟩ := Jvm.LawKit.callS X20 hx (y := (⟨"com/example/tapereel/tapereel/xdp/BytesAreDigitsPinLaw", "isDigitByte", "(JI)Z"⟩ : MethodName)) hown (mvT hZ (hw _ (List.mem_of_getElem? (i := 3) rfl))) (mvT hZ (hw _ (List.mem_of_getElem? (i := 4) rfl))) (mvT hZ (hw _ (List.mem_of_getElem? (i := 5) rfl))) (mvT hZ (hw _ (List.mem_of_getElem? (i := 6) rfl))) (by decide) (backOf (W := 0) (rm1 l Z a0 hw [] wv (4 : Int32) h0 n0 Z0) hZ (hw _ (List.mem_of_getElem? (i := 6) rfl)) (hw _ (List.mem_of_getElem? (i := 5) rfl)) (by decide) (by decide)) (g := (mkF m 99 #[.val (.long q1), .second, .val (.long q2), .second, .val (.int p3), .val (.long (((q1 &&& (506381209866536711 : Int64)) ||| (3472328296227680304 : Int64)) + ((q2 &&& (72340172838076673 : Int64)) <<< ((1 : Int32) &&& 0x3f).toInt64))), .second, .val (.long (((p3 &&& (255 : Int32)).toInt64) <<< (((8 : Int32) * (((p3.toUInt32 >>> ((8 : Int32) &&& 31).toUInt32).toInt32) &&& (7 : Int32))) &&& 0x3f).toInt64)), .second, .val (.long wv), .second, .unset] [(.int (4 : Int32)), (.long wv)])) rfl (by rw [hml]; rfl) (argsL := [(.long wv), (.int (4 : Int32))]) (rest := []) (lenOf pd_0 rfl) rfl (by show 2 * 0 + _ ≤ _; exact Nat.le_of_eq rfl) (hb hby at_99) (fun _ _ => ⟨rfl, eh20, (by decide : 0 + 0 ≤ _), (by decide : 0 + 0 ≤ _)⟩)
            dsimp only [Pt.U, Pt.locs, Pt.cells, Pt.slots] at X24 l24 y24 z24 st24 hQ24
            subst l24 y24 z24
            obtain ⟨rfl, N24q, e_4⟩ := hQ24
            have N24 := Fr.app N20 N24q
            have go25 : ∀ t, Steps p.tables e below (T24.setTop (mkF m 102 #[.val (.long q1), .second, .val (.long q2), .second, .val (.int p3), .val (.long (((q1 &&& (506381209866536711 : Int64)) ||| (3472328296227680304 : Int64)) + ((q2 &&& (72340172838076673 : Int64)) <<< ((1 : Int32) &&& 0x3f).toInt64))), .second, .val (.long (((p3 &&& (255 : Int32)).toInt64) <<< (((8 : Int32) * (((p3.toUInt32 >>> ((8 : Int32) &&& 31).toUInt32).toInt32) &&& (7 : Int32))) &&& 0x3f).toInt64)), .second, .val (.long wv), .second, .unset] [(.int (own_D wv (4 : Int32)))])) t → _ := st24
            have eh24 : T24.heap = h0 := e_4
            rcases Classical.em ((own_D wv (4 : Int32)) = (0 : Int32)) with hc102 | hc102
            · have go26 : ∀ t, Steps p.tables e below (T24.setTop (mkF m 139 #[.val (.long q1), .second, .val (.long q2), .second, .val (.int p3), .val (.long (((q1 &&& (506381209866536711 : Int64)) ||| (3472328296227680304 : Int64)) + ((q2 &&& (72340172838076673 : Int64)) <<< ((1 : Int32) &&& 0x3f).toInt64))), .second, .val (.long (((p3 &&& (255 : Int32)).toInt64) <<< (((8 : Int32) * (((p3.toUInt32 >>> ((8 : Int32) &&& 31).toUInt32).toInt32) &&& (7 : Int32))) &&& 0x3f).toInt64)), .second, .val (.long wv), .second, .unset] [(.int (0 : Int32))])) t → Steps p.tables e below (T24.setTop (mkF m 102 #[.val (.long q1), .second, .val (.long q2), .second, .val (.int p3), .val (.long (((q1 &&& (506381209866536711 : Int64)) ||| (3472328296227680304 : Int64)) + ((q2 &&& (72340172838076673 : Int64)) <<< ((1 : Int32) &&& 0x3f).toInt64))), .second, .val (.long (((p3 &&& (255 : Int32)).toInt64) <<< (((8 : Int32) * (((p3.toUInt32 >>> ((8 : Int32) &&& 31).toUInt32).toInt32) &&& (7 : Int32))) &&& 0x3f).toInt64)), .second, .val (.long wv), .second, .unset] [(.int (own_D wv (4 : Int32)))])) t := by
                intro t kt
                show Steps p.tables e below (T24.setTop (mkF m 102 #[.val (.long q1), .second, .val (.long q2), .second, .val (.int p3), .val (.long (((q1 &&& (506381209866536711 : Int64)) ||| (3472328296227680304 : Int64)) + ((q2 &&& (72340172838076673 : Int64)) <<< ((1 : Int32) &&& 0x3f).toInt64))), .second, .val (.long (((p3 &&& (255 : Int32)).toInt64) <<< (((8 : Int32) * (((p3.toUInt32 >>> ((8 : Int32) &&& 31).toUInt32).toInt32) &&& (7 : Int32))) &&& 0x3f).toInt64)), .second, .val (.long wv), .second, .unset] [(.int (own_D wv (4 : Int32)))])) _
                refine XS.ifYes X24.here hx rfl (pc0 := 102) (pc' := 138) rfl (hb hby at_102) rfl ((if0 _ _).trans (teq hc102).1) (by decide) (by decide) ?_
                show Steps p.tables e below (T24.setTop (mkF m 138 #[.val (.long q1), .second, .val (.long q2), .second, .val (.int p3), .val (.long (((q1 &&& (506381209866536711 : Int64)) ||| (3472328296227680304 : Int64)) + ((q2 &&& (72340172838076673 : Int64)) <<< ((1 : Int32) &&& 0x3f).toInt64))), .second, .val (.long (((p3 &&& (255 : Int32)).toInt64) <<< (((8 : Int32) * (((p3.toUInt32 >>> ((8 : Int32) &&& 31).toUInt32).toInt32) &&& (7 : Int32))) &&& 0x3f).toInt64)), .second, .val (.long wv), .second, .unset] [])) _
                refine XS.iconst X24.here hx rfl (hb hby at_138) ?_
                exact kt
              exact ⟨_, _, (0 : Int32), X24, eh24, N24, by first | (simp only [own_X, hc66, hc75, hc84, hc93, hc102, not_true_eq_false, not_false_eq_true, and_true, true_and, and_false, false_and, or_true, true_or, or_false, false_or, and_self, or_self, eq_self, if_true, if_false]; done) | (simp [own_X, hc66, hc75, hc84, hc93, hc102]; done), fun t kt => (go7 t (go9 t (go11 t (go13 t (go15 t (go17 t (go19 t (go21 t (go23 t (go25 t (go26 t kt)))))))))))⟩
            · have go27 : ∀ t, Steps p.tables e below (T24.setTop (mkF m 108 #[.val (.long q1), .second, .val (.long q2), .second, .val (.int p3), .val (.long (((q1 &&& (506381209866536711 : Int64)) ||| (3472328296227680304 : Int64)) + ((q2 &&& (72340172838076673 : Int64)) <<< ((1 : Int32) &&& 0x3f).toInt64))), .second, .val (.long (((p3 &&& (255 : Int32)).toInt64) <<< (((8 : Int32) * (((p3.toUInt32 >>> ((8 : Int32) &&& 31).toUInt32).toInt32) &&& (7 : Int32))) &&& 0x3f).toInt64)), .second, .val (.long wv), .second, .unset] [(.int (5 : Int32)), (.long wv)])) t → Steps p.tables e below (T24.setTop (mkF m 102 #[.val (.long q1), .second, .val (.long q2), .second, .val (.int p3), .val (.long (((q1 &&& (506381209866536711 : Int64)) ||| (3472328296227680304 : Int64)) + ((q2 &&& (72340172838076673 : Int64)) <<< ((1 : Int32) &&& 0x3f).toInt64))), .second, .val (.long (((p3 &&& (255 : Int32)).toInt64) <<< (((8 : Int32) * (((p3.toUInt32 >>> ((8 : Int32) &&& 31).toUInt32).toInt32) &&& (7 : Int32))) &&& 0x3f).toInt64)), .second, .val (.long wv), .second, .unset] [(.int (own_D wv (4 : Int32)))])) t := by
                intro t kt
                show Steps p.tables e below (T24.setTop (mkF m 102 #[.val (.long q1), .second, .val (.long q2), .second, .val (.int p3), .val (.long (((q1 &&& (506381209866536711 : Int64)) ||| (3472328296227680304 : Int64)) + ((q2 &&& (72340172838076673 : Int64)) <<< ((1 : Int32) &&& 0x3f).toInt64))), .second, .val (.long (((p3 &&& (255 : Int32)).toInt64) <<< (((8 : Int32) * (((p3.toUInt32 >>> ((8 : Int32) &&& 31).toUInt32).toInt32) &&& (7 : Int32))) &&& 0x3f).toInt64)), .second, .val (.long wv), .second, .unset] [(.int (own_D wv (4 : Int32)))])) _
                refine XS.ifNo X24.here hx rfl (hb hby at_102) rfl ((if0 _ _).trans (feq hc102).1) ?_
                show Steps p.tables e below (T24.setTop (mkF m 105 #[.val (.long q1), .second, .val (.long q2), .second, .val (.int p3), .val (.long (((q1 &&& (506381209866536711 : Int64)) ||| (3472328296227680304 : Int64)) + ((q2 &&& (72340172838076673 : Int64)) <<< ((1 : Int32) &&& 0x3f).toInt64))), .second, .val (.long (((p3 &&& (255 : Int32)).toInt64) <<< (((8 : Int32) * (((p3.toUInt32 >>> ((8 : Int32) &&& 31).toUInt32).toInt32) &&& (7 : Int32))) &&& 0x3f).toInt64)), .second, .val (.long wv), .second, .unset] [])) _
                refine XS.lload X24.here hx rfl (hb hby at_105) rfl ?_
                show Steps p.tables e below (T24.setTop (mkF m 107 #[.val (.long q1), .second, .val (.long q2), .second, .val (.int p3), .val (.long (((q1 &&& (506381209866536711 : Int64)) ||| (3472328296227680304 : Int64)) + ((q2 &&& (72340172838076673 : Int64)) <<< ((1 : Int32) &&& 0x3f).toInt64))), .second, .val (.long (((p3 &&& (255 : Int32)).toInt64) <<< (((8 : Int32) * (((p3.toUInt32 >>> ((8 : Int32) &&& 31).toUInt32).toInt32) &&& (7 : Int32))) &&& 0x3f).toInt64)), .second, .val (.long wv), .second, .unset] [(.long wv)])) _
                refine XS.iconst X24.here hx rfl (hb hby at_107) ?_
                exact kt
              obtain ⟨_, _, ⟨T28, L28, k28, n28⟩, -, X28, ⟨Lc28, hQ28, l28, y28, z28⟩, st28⟩ := Jvm.LawKit.callS X24 hx (y := (⟨"com/example/tapereel/tapereel/xdp/BytesAreDigitsPinLaw", "isDigitByte", "(JI)Z"⟩ : MethodName)) hown (mvT hZ (hw _ (List.mem_of_getElem? (i := 3) rfl))) (mvT hZ (hw _ (List.mem_of_getElem? (i := 4) rfl))) (mvT hZ (hw _ (List.mem_of_getElem? (i := 5) rfl))) (mvT hZ (hw _ (List.mem_of_getElem? (i := 6) rfl))) (by decide) (backOf (W := 0) (rm1 l Z a0 hw [] wv (5 : Int32) h0 n0 Z0) hZ (hw _ (List.mem_of_getElem? (i := 6) rfl)) (hw _ (List.mem_of_getElem? (i := 5) rfl)) (by decide) (by decide)) (g := (mkF m 108 #[.val (.long q1), .second, .val (.long q2), .second, .val (.int p3), .val (.long (((q1 &&& (506381209866536711 : Int64)) ||| (3472328296227680304 : Int64)) + ((q2 &&& (72340172838076673 : Int64)) <<< ((1 : Int32) &&& 0x3f).toInt64))), .second, .val (.long (((p3 &&& (255 : Int32)).toInt64) <<< (((8 : Int32) * (((p3.toUInt32 >>> ((8 : Int32) &&& 31).toUInt32).toInt32) &&& (7 : Int32))) &&& 0x3f).toInt64)), .second, .val (.long wv), .second, .unset] [(.int (5 : Int32)), (.long wv)])) rfl (by rw [hml]; rfl) (argsL := [(.long wv), (.int (5 : Int32))]) (rest := []) (lenOf pd_0 rfl) rfl (by show 2 * 0 + _ ≤ _; exact Nat.le_of_eq rfl) (hb hby at_108) (fun _ _ => ⟨rfl, eh24, (by decide : 0 + 0 ≤ _), (by decide : 0 + 0 ≤ _)⟩)
              dsimp only [Pt.U, Pt.locs, Pt.cells, Pt.slots] at X28 l28 y28 z28 st28 hQ28
              subst l28 y28 z28
              obtain ⟨rfl, N28q, e_5⟩ := hQ28
              have N28 := Fr.app N24 N28q
              have go29 : ∀ t, Steps p.tables e below (T28.setTop (mkF m 111 #[.val (.long q1), .second, .val (.long q2), .second, .val (.int p3), .val (.long (((q1 &&& (506381209866536711 : Int64)) ||| (3472328296227680304 : Int64)) + ((q2 &&& (72340172838076673 : Int64)) <<< ((1 : Int32) &&& 0x3f).toInt64))), .second, .val (.long (((p3 &&& (255 : Int32)).toInt64) <<< (((8 : Int32) * (((p3.toUInt32 >>> ((8 : Int32) &&& 31).toUInt32).toInt32) &&& (7 : Int32))) &&& 0x3f).toInt64)), .second, .val (.long wv), .second, .unset] [(.int (own_D wv (5 : Int32)))])) t → _ := st28
              have eh28 : T28.heap = h0 := e_5
              rcases Classical.em ((own_D wv (5 : Int32)) = (0 : Int32)) with hc111 | hc111
              · have go30 : ∀ t, Steps p.tables e below (T28.setTop (mkF m 139 #[.val (.long q1), .second, .val (.long q2), .second, .val (.int p3), .val (.long (((q1 &&& (506381209866536711 : Int64)) ||| (3472328296227680304 : Int64)) + ((q2 &&& (72340172838076673 : Int64)) <<< ((1 : Int32) &&& 0x3f).toInt64))), .second, .val (.long (((p3 &&& (255 : Int32)).toInt64) <<< (((8 : Int32) * (((p3.toUInt32 >>> ((8 : Int32) &&& 31).toUInt32).toInt32) &&& (7 : Int32))) &&& 0x3f).toInt64)), .second, .val (.long wv), .second, .unset] [(.int (0 : Int32))])) t → Steps p.tables e below (T28.setTop (mkF m 111 #[.val (.long q1), .second, .val (.long q2), .second, .val (.int p3), .val (.long (((q1 &&& (506381209866536711 : Int64)) ||| (3472328296227680304 : Int64)) + ((q2 &&& (72340172838076673 : Int64)) <<< ((1 : Int32) &&& 0x3f).toInt64))), .second, .val (.long (((p3 &&& (255 : Int32)).toInt64) <<< (((8 : Int32) * (((p3.toUInt32 >>> ((8 : Int32) &&& 31).toUInt32).toInt32) &&& (7 : Int32))) &&& 0x3f).toInt64)), .second, .val (.long wv), .second, .unset] [(.int (own_D wv (5 : Int32)))])) t := by
                  intro t kt
                  show Steps p.tables e below (T28.setTop (mkF m 111 #[.val (.long q1), .second, .val (.long q2), .second, .val (.int p3), .val (.long (((q1 &&& (506381209866536711 : Int64)) ||| (3472328296227680304 : Int64)) + ((q2 &&& (72340172838076673 : Int64)) <<< ((1 : Int32) &&& 0x3f).toInt64))), .second, .val (.long (((p3 &&& (255 : Int32)).toInt64) <<< (((8 : Int32) * (((p3.toUInt32 >>> ((8 : Int32) &&& 31).toUInt32).toInt32) &&& (7 : Int32))) &&& 0x3f).toInt64)), .second, .val (.long wv), .second, .unset] [(.int (own_D wv (5 : Int32)))])) _
                  refine XS.ifYes X28.here hx rfl (pc0 := 111) (pc' := 138) rfl (hb hby at_111) rfl ((if0 _ _).trans (teq hc111).1) (by decide) (by decide) ?_
                  show Steps p.tables e below (T28.setTop (mkF m 138 #[.val (.long q1), .second, .val (.long q2), .second, .val (.int p3), .val (.long (((q1 &&& (506381209866536711 : Int64)) ||| (3472328296227680304 : Int64)) + ((q2 &&& (72340172838076673 : Int64)) <<< ((1 : Int32) &&& 0x3f).toInt64))), .second, .val (.long (((p3 &&& (255 : Int32)).toInt64) <<< (((8 : Int32) * (((p3.toUInt32 >>> ((8 : Int32) &&& 31).toUInt32).toInt32) &&& (7 : Int32))) &&& 0x3f).toInt64)), .second, .val (.long wv), .second, .unset] [])) _
                  refine XS.iconst X28.here hx rfl (hb hby at_138) ?_
                  exact kt
                exact ⟨_, _, (0 : Int32), X28, eh28, N28, by first | (simp only [own_X, hc66, hc75, hc84, hc93, hc102, hc111, not_true_eq_false, not_false_eq_true, and_true, true_and, and_false, false_and, or_true, true_or, or_false, false_or, and_self, or_self, eq_self, if_true, if_false]; done) | (simp [own_X, hc66, hc75, hc84, hc93, hc102, hc111]; done), fun t kt => (go7 t (go9 t (go11 t (go13 t (go15 t (go17 t (go19 t (go21 t (go23 t (go25 t (go27 t (go29 t (go30 t kt)))))))))))))⟩
              · have go31 : ∀ t, Steps p.tables e below (T28.setTop (mkF m 118 #[.val (.long q1), .second, .val (.long q2), .second, .val (.int p3), .val (.long (((q1 &&& (506381209866536711 : Int64)) ||| (3472328296227680304 : Int64)) + ((q2 &&& (72340172838076673 : Int64)) <<< ((1 : Int32) &&& 0x3f).toInt64))), .second, .val (.long (((p3 &&& (255 : Int32)).toInt64) <<< (((8 : Int32) * (((p3.toUInt32 >>> ((8 : Int32) &&& 31).toUInt32).toInt32) &&& (7 : Int32))) &&& 0x3f).toInt64)), .second, .val (.long wv), .second, .unset] [(.int (6 : Int32)), (.long wv)])) t → Steps p.tables e below (T28.setTop (mkF m 111 #[.val (.long q1), .second, .val (.long q2), .second, .val (.int p3), .val (.long (((q1 &&& (506381209866536711 : Int64)) ||| (3472328296227680304 : Int64)) + ((q2 &&& (72340172838076673 : Int64)) <<< ((1 : Int32) &&& 0x3f).toInt64))), .second, .val (.long (((p3 &&& (255 : Int32)).toInt64) <<< (((8 : Int32) * (((p3.toUInt32 >>> ((8 : Int32) &&& 31).toUInt32).toInt32) &&& (7 : Int32))) &&& 0x3f).toInt64)), .second, .val (.long wv), .second, .unset] [(.int (own_D wv (5 : Int32)))])) t := by
                  intro t kt
                  show Steps p.tables e below (T28.setTop (mkF m 111 #[.val (.long q1), .second, .val (.long q2), .second, .val (.int p3), .val (.long (((q1 &&& (506381209866536711 : Int64)) ||| (3472328296227680304 : Int64)) + ((q2 &&& (72340172838076673 : Int64)) <<< ((1 : Int32) &&& 0x3f).toInt64))), .second, .val (.long (((p3 &&& (255 : Int32)).toInt64) <<< (((8 : Int32) * (((p3.toUInt32 >>> ((8 : Int32) &&& 31).toUInt32).toInt32) &&& (7 : Int32))) &&& 0x3f).toInt64)), .second, .val (.long wv), .second, .unset] [(.int (own_D wv (5 : Int32)))])) _
                  refine XS.ifNo X28.here hx rfl (hb hby at_111) rfl ((if0 _ _).trans (feq hc111).1) ?_
                  show Steps p.tables e below (T28.setTop (mkF m 114 #[.val (.long q1), .second, .val (.long q2), .second, .val (.int p3), .val (.long (((q1 &&& (506381209866536711 : Int64)) ||| (3472328296227680304 : Int64)) + ((q2 &&& (72340172838076673 : Int64)) <<< ((1 : Int32) &&& 0x3f).toInt64))), .second, .val (.long (((p3 &&& (255 : Int32)).toInt64) <<< (((8 : Int32) * (((p3.toUInt32 >>> ((8 : Int32) &&& 31).toUInt32).toInt32) &&& (7 : Int32))) &&& 0x3f).toInt64)), .second, .val (.long wv), .second, .unset] [])) _
                  refine XS.lload X28.here hx rfl (hb hby at_114) rfl ?_
                  show Steps p.tables e below (T28.setTop (mkF m 116 #[.val (.long q1), .second, .val (.long q2), .second, .val (.int p3), .val (.long (((q1 &&& (506381209866536711 : Int64)) ||| (3472328296227680304 : Int64)) + ((q2 &&& (72340172838076673 : Int64)) <<< ((1 : Int32) &&& 0x3f).toInt64))), .second, .val (.long (((p3 &&& (255 : Int32)).toInt64) <<< (((8 : Int32) * (((p3.toUInt32 >>> ((8 : Int32) &&& 31).toUInt32).toInt32) &&& (7 : Int32))) &&& 0x3f).toInt64)), .second, .val (.long wv), .second, .unset] [(.long wv)])) _
                  refine XS.bipush X28.here hx rfl (hb hby at_116) ?_
                  exact kt
                obtain ⟨_, _, ⟨T32, L32, k32, n32⟩, -, X32, ⟨Lc32, hQ32, l32, y32, z32⟩, st32⟩ := Jvm.LawKit.callS X28 hx (y := (⟨"com/example/tapereel/tapereel/xdp/BytesAreDigitsPinLaw", "isDigitByte", "(JI)Z"⟩ : MethodName)) hown (mvT hZ (hw _ (List.mem_of_getElem? (i := 3) rfl))) (mvT hZ (hw _ (List.mem_of_getElem? (i := 4) rfl))) (mvT hZ (hw _ (List.mem_of_getElem? (i := 5) rfl))) (mvT hZ (hw _ (List.mem_of_getElem? (i := 6) rfl))) (by decide) (backOf (W := 0) (rm1 l Z a0 hw [] wv (6 : Int32) h0 n0 Z0) hZ (hw _ (List.mem_of_getElem? (i := 6) rfl)) (hw _ (List.mem_of_getElem? (i := 5) rfl)) (by decide) (by decide)) (g := (mkF m 118 #[.val (.long q1), .second, .val (.long q2), .second, .val (.int p3), .val (.long (((q1 &&& (506381209866536711 : Int64)) ||| (3472328296227680304 : Int64)) + ((q2 &&& (72340172838076673 : Int64)) <<< ((1 : Int32) &&& 0x3f).toInt64))), .second, .val (.long (((p3 &&& (255 : Int32)).toInt64) <<< (((8 : Int32) * (((p3.toUInt32 >>> ((8 : Int32) &&& 31).toUInt32).toInt32) &&& (7 : Int32))) &&& 0x3f).toInt64)), .second, .val (.long wv), .second, .unset] [(.int (6 : Int32)), (.long wv)])) rfl (by rw [hml]; rfl) (argsL := [(.long wv), (.int (6 : Int32))]) (rest := []) (lenOf pd_0 rfl) rfl (by show 2 * 0 + _ ≤ _; exact Nat.le_of_eq rfl) (hb hby at_118) (fun _ _ => ⟨rfl, eh28, (by decide : 0 + 0 ≤ _), (by decide : 0 + 0 ≤ _)⟩)
                dsimp only [Pt.U, Pt.locs, Pt.cells, Pt.slots] at X32 l32 y32 z32 st32 hQ32
                subst l32 y32 z32
                obtain ⟨rfl, N32q, e_6⟩ := hQ32
                have N32 := Fr.app N28 N32q
                have go33 : ∀ t, Steps p.tables e below (T32.setTop (mkF m 121 #[.val (.long q1), .second, .val (.long q2), .second, .val (.int p3), .val (.long (((q1 &&& (506381209866536711 : Int64)) ||| (3472328296227680304 : Int64)) + ((q2 &&& (72340172838076673 : Int64)) <<< ((1 : Int32) &&& 0x3f).toInt64))), .second, .val (.long (((p3 &&& (255 : Int32)).toInt64) <<< (((8 : Int32) * (((p3.toUInt32 >>> ((8 : Int32) &&& 31).toUInt32).toInt32) &&& (7 : Int32))) &&& 0x3f).toInt64)), .second, .val (.long wv), .second, .unset] [(.int (own_D wv (6 : Int32)))])) t → _ := st32
                have eh32 : T32.heap = h0 := e_6
                rcases Classical.em ((own_D wv (6 : Int32)) = (0 : Int32)) with hc121 | hc121
                · have go34 : ∀ t, Steps p.tables e below (T32.setTop (mkF m 139 #[.val (.long q1), .second, .val (.long q2), .second, .val (.int p3), .val (.long (((q1 &&& (506381209866536711 : Int64)) ||| (3472328296227680304 : Int64)) + ((q2 &&& (72340172838076673 : Int64)) <<< ((1 : Int32) &&& 0x3f).toInt64))), .second, .val (.long (((p3 &&& (255 : Int32)).toInt64) <<< (((8 : Int32) * (((p3.toUInt32 >>> ((8 : Int32) &&& 31).toUInt32).toInt32) &&& (7 : Int32))) &&& 0x3f).toInt64)), .second, .val (.long wv), .second, .unset] [(.int (0 : Int32))])) t → Steps p.tables e below (T32.setTop (mkF m 121 #[.val (.long q1), .second, .val (.long q2), .second, .val (.int p3), .val (.long (((q1 &&& (506381209866536711 : Int64)) ||| (3472328296227680304 : Int64)) + ((q2 &&& (72340172838076673 : Int64)) <<< ((1 : Int32) &&& 0x3f).toInt64))), .second, .val (.long (((p3 &&& (255 : Int32)).toInt64) <<< (((8 : Int32) * (((p3.toUInt32 >>> ((8 : Int32) &&& 31).toUInt32).toInt32) &&& (7 : Int32))) &&& 0x3f).toInt64)), .second, .val (.long wv), .second, .unset] [(.int (own_D wv (6 : Int32)))])) t := by
                    intro t kt
                    show Steps p.tables e below (T32.setTop (mkF m 121 #[.val (.long q1), .second, .val (.long q2), .second, .val (.int p3), .val (.long (((q1 &&& (506381209866536711 : Int64)) ||| (3472328296227680304 : Int64)) + ((q2 &&& (72340172838076673 : Int64)) <<< ((1 : Int32) &&& 0x3f).toInt64))), .second, .val (.long (((p3 &&& (255 : Int32)).toInt64) <<< (((8 : Int32) * (((p3.toUInt32 >>> ((8 : Int32) &&& 31).toUInt32).toInt32) &&& (7 : Int32))) &&& 0x3f).toInt64)), .second, .val (.long wv), .second, .unset] [(.int (own_D wv (6 : Int32)))])) _
                    refine XS.ifYes X32.here hx rfl (pc0 := 121) (pc' := 138) rfl (hb hby at_121) rfl ((if0 _ _).trans (teq hc121).1) (by decide) (by decide) ?_
                    show Steps p.tables e below (T32.setTop (mkF m 138 #[.val (.long q1), .second, .val (.long q2), .second, .val (.int p3), .val (.long (((q1 &&& (506381209866536711 : Int64)) ||| (3472328296227680304 : Int64)) + ((q2 &&& (72340172838076673 : Int64)) <<< ((1 : Int32) &&& 0x3f).toInt64))), .second, .val (.long (((p3 &&& (255 : Int32)).toInt64) <<< (((8 : Int32) * (((p3.toUInt32 >>> ((8 : Int32) &&& 31).toUInt32).toInt32) &&& (7 : Int32))) &&& 0x3f).toInt64)), .second, .val (.long wv), .second, .unset] [])) _
                    refine XS.iconst X32.here hx rfl (hb hby at_138) ?_
                    exact kt
                  exact ⟨_, _, (0 : Int32), X32, eh32, N32, by first | (simp only [own_X, hc66, hc75, hc84, hc93, hc102, hc111, hc121, not_true_eq_false, not_false_eq_true, and_true, true_and, and_false, false_and, or_true, true_or, or_false, false_or, and_self, or_self, eq_self, if_true, if_false]; done) | (simp [own_X, hc66, hc75, hc84, hc93, hc102, hc111, hc121]; done), fun t kt => (go7 t (go9 t (go11 t (go13 t (go15 t (go17 t (go19 t (go21 t (go23 t (go25 t (go27 t (go29 t (go31 t (go33 t (go34 t kt)))))))))))))))⟩
                · have go35 : ∀ t, Steps p.tables e below (T32.setTop (mkF m 128 #[.val (.long q1), .second, .val (.long q2), .second, .val (.int p3), .val (.long (((q1 &&& (506381209866536711 : Int64)) ||| (3472328296227680304 : Int64)) + ((q2 &&& (72340172838076673 : Int64)) <<< ((1 : Int32) &&& 0x3f).toInt64))), .second, .val (.long (((p3 &&& (255 : Int32)).toInt64) <<< (((8 : Int32) * (((p3.toUInt32 >>> ((8 : Int32) &&& 31).toUInt32).toInt32) &&& (7 : Int32))) &&& 0x3f).toInt64)), .second, .val (.long wv), .second, .unset] [(.int (7 : Int32)), (.long wv)])) t → Steps p.tables e below (T32.setTop (mkF m 121 #[.val (.long q1), .second, .val (.long q2), .second, .val (.int p3), .val (.long (((q1 &&& (506381209866536711 : Int64)) ||| (3472328296227680304 : Int64)) + ((q2 &&& (72340172838076673 : Int64)) <<< ((1 : Int32) &&& 0x3f).toInt64))), .second, .val (.long (((p3 &&& (255 : Int32)).toInt64) <<< (((8 : Int32) * (((p3.toUInt32 >>> ((8 : Int32) &&& 31).toUInt32).toInt32) &&& (7 : Int32))) &&& 0x3f).toInt64)), .second, .val (.long wv), .second, .unset] [(.int (own_D wv (6 : Int32)))])) t := by
                    intro t kt
                    show Steps p.tables e below (T32.setTop (mkF m 121 #[.val (.long q1), .second, .val (.long q2), .second, .val (.int p3), .val (.long (((q1 &&& (506381209866536711 : Int64)) ||| (3472328296227680304 : Int64)) + ((q2 &&& (72340172838076673 : Int64)) <<< ((1 : Int32) &&& 0x3f).toInt64))), .second, .val (.long (((p3 &&& (255 : Int32)).toInt64) <<< (((8 : Int32) * (((p3.toUInt32 >>> ((8 : Int32) &&& 31).toUInt32).toInt32) &&& (7 : Int32))) &&& 0x3f).toInt64)), .second, .val (.long wv), .second, .unset] [(.int (own_D wv (6 : Int32)))])) _
                    refine XS.ifNo X32.here hx rfl (hb hby at_121) rfl ((if0 _ _).trans (feq hc121).1) ?_
                    show Steps p.tables e below (T32.setTop (mkF m 124 #[.val (.long q1), .second, .val (.long q2), .second, .val (.int p3), .val (.long (((q1 &&& (506381209866536711 : Int64)) ||| (3472328296227680304 : Int64)) + ((q2 &&& (72340172838076673 : Int64)) <<< ((1 : Int32) &&& 0x3f).toInt64))), .second, .val (.long (((p3 &&& (255 : Int32)).toInt64) <<< (((8 : Int32) * (((p3.toUInt32 >>> ((8 : Int32) &&& 31).toUInt32).toInt32) &&& (7 : Int32))) &&& 0x3f).toInt64)), .second, .val (.long wv), .second, .unset] [])) _
                    refine XS.lload X32.here hx rfl (hb hby at_124) rfl ?_
                    show Steps p.tables e below (T32.setTop (mkF m 126 #[.val (.long q1), .second, .val (.long q2), .second, .val (.int p3), .val (.long (((q1 &&& (506381209866536711 : Int64)) ||| (3472328296227680304 : Int64)) + ((q2 &&& (72340172838076673 : Int64)) <<< ((1 : Int32) &&& 0x3f).toInt64))), .second, .val (.long (((p3 &&& (255 : Int32)).toInt64) <<< (((8 : Int32) * (((p3.toUInt32 >>> ((8 : Int32) &&& 31).toUInt32).toInt32) &&& (7 : Int32))) &&& 0x3f).toInt64)), .second, .val (.long wv), .second, .unset] [(.long wv)])) _
                    refine XS.bipush X32.here hx rfl (hb hby at_126) ?_
                    exact kt
                  obtain ⟨_, _, ⟨T36, L36, k36, n36⟩, -, X36, ⟨Lc36, hQ36, l36, y36, z36⟩, st36⟩ := Jvm.LawKit.callS X32 hx (y := (⟨"com/example/tapereel/tapereel/xdp/BytesAreDigitsPinLaw", "isDigitByte", "(JI)Z"⟩ : MethodName)) hown (mvT hZ (hw _ (List.mem_of_getElem? (i := 3) rfl))) (mvT hZ (hw _ (List.mem_of_getElem? (i := 4) rfl))) (mvT hZ (hw _ (List.mem_of_getElem? (i := 5) rfl))) (mvT hZ (hw _ (List.mem_of_getElem? (i := 6) rfl))) (by decide) (backOf (W := 0) (rm1 l Z a0 hw [] wv (7 : Int32) h0 n0 Z0) hZ (hw _ (List.mem_of_getElem? (i := 6) rfl)) (hw _ (List.mem_of_getElem? (i := 5) rfl)) (by decide) (by decide)) (g := (mkF m 128 #[.val (.long q1), .second, .val (.long q2), .second, .val (.int p3), .val (.long (((q1 &&& (506381209866536711 : Int64)) ||| (3472328296227680304 : Int64)) + ((q2 &&& (72340172838076673 : Int64)) <<< ((1 : Int32) &&& 0x3f).toInt64))), .second, .val (.long (((p3 &&& (255 : Int32)).toInt64) <<< (((8 : Int32) * (((p3.toUInt32 >>> ((8 : Int32) &&& 31).toUInt32).toInt32) &&& (7 : Int32))) &&& 0x3f).toInt64)), .second, .val (.long wv), .second, .unset] [(.int (7 : Int32)), (.long wv)])) rfl (by rw [hml]; rfl) (argsL := [(.long wv), (.int (7 : Int32))]) (rest := []) (lenOf pd_0 rfl) rfl (by show 2 * 0 + _ ≤ _; exact Nat.le_of_eq rfl) (hb hby at_128) (fun _ _ => ⟨rfl, eh32, (by decide : 0 + 0 ≤ _), (by decide : 0 + 0 ≤ _)⟩)
                  dsimp only [Pt.U, Pt.locs, Pt.cells, Pt.slots] at X36 l36 y36 z36 st36 hQ36
                  subst l36 y36 z36
                  obtain ⟨rfl, N36q, e_7⟩ := hQ36
                  have N36 := Fr.app N32 N36q
                  have go37 : ∀ t, Steps p.tables e below (T36.setTop (mkF m 131 #[.val (.long q1), .second, .val (.long q2), .second, .val (.int p3), .val (.long (((q1 &&& (506381209866536711 : Int64)) ||| (3472328296227680304 : Int64)) + ((q2 &&& (72340172838076673 : Int64)) <<< ((1 : Int32) &&& 0x3f).toInt64))), .second, .val (.long (((p3 &&& (255 : Int32)).toInt64) <<< (((8 : Int32) * (((p3.toUInt32 >>> ((8 : Int32) &&& 31).toUInt32).toInt32) &&& (7 : Int32))) &&& 0x3f).toInt64)), .second, .val (.long wv), .second, .unset] [(.int (own_D wv (7 : Int32)))])) t → _ := st36
                  have eh36 : T36.heap = h0 := e_7
                  rcases Classical.em ((own_D wv (7 : Int32)) = (0 : Int32)) with hc131 | hc131
                  · have go38 : ∀ t, Steps p.tables e below (T36.setTop (mkF m 139 #[.val (.long q1), .second, .val (.long q2), .second, .val (.int p3), .val (.long (((q1 &&& (506381209866536711 : Int64)) ||| (3472328296227680304 : Int64)) + ((q2 &&& (72340172838076673 : Int64)) <<< ((1 : Int32) &&& 0x3f).toInt64))), .second, .val (.long (((p3 &&& (255 : Int32)).toInt64) <<< (((8 : Int32) * (((p3.toUInt32 >>> ((8 : Int32) &&& 31).toUInt32).toInt32) &&& (7 : Int32))) &&& 0x3f).toInt64)), .second, .val (.long wv), .second, .unset] [(.int (0 : Int32))])) t → Steps p.tables e below (T36.setTop (mkF m 131 #[.val (.long q1), .second, .val (.long q2), .second, .val (.int p3), .val (.long (((q1 &&& (506381209866536711 : Int64)) ||| (3472328296227680304 : Int64)) + ((q2 &&& (72340172838076673 : Int64)) <<< ((1 : Int32) &&& 0x3f).toInt64))), .second, .val (.long (((p3 &&& (255 : Int32)).toInt64) <<< (((8 : Int32) * (((p3.toUInt32 >>> ((8 : Int32) &&& 31).toUInt32).toInt32) &&& (7 : Int32))) &&& 0x3f).toInt64)), .second, .val (.long wv), .second, .unset] [(.int (own_D wv (7 : Int32)))])) t := by
                      intro t kt
                      show Steps p.tables e below (T36.setTop (mkF m 131 #[.val (.long q1), .second, .val (.long q2), .second, .val (.int p3), .val (.long (((q1 &&& (506381209866536711 : Int64)) ||| (3472328296227680304 : Int64)) + ((q2 &&& (72340172838076673 : Int64)) <<< ((1 : Int32) &&& 0x3f).toInt64))), .second, .val (.long (((p3 &&& (255 : Int32)).toInt64) <<< (((8 : Int32) * (((p3.toUInt32 >>> ((8 : Int32) &&& 31).toUInt32).toInt32) &&& (7 : Int32))) &&& 0x3f).toInt64)), .second, .val (.long wv), .second, .unset] [(.int (own_D wv (7 : Int32)))])) _
                      refine XS.ifYes X36.here hx rfl (pc0 := 131) (pc' := 138) rfl (hb hby at_131) rfl ((if0 _ _).trans (teq hc131).1) (by decide) (by decide) ?_
                      show Steps p.tables e below (T36.setTop (mkF m 138 #[.val (.long q1), .second, .val (.long q2), .second, .val (.int p3), .val (.long (((q1 &&& (506381209866536711 : Int64)) ||| (3472328296227680304 : Int64)) + ((q2 &&& (72340172838076673 : Int64)) <<< ((1 : Int32) &&& 0x3f).toInt64))), .second, .val (.long (((p3 &&& (255 : Int32)).toInt64) <<< (((8 : Int32) * (((p3.toUInt32 >>> ((8 : Int32) &&& 31).toUInt32).toInt32) &&& (7 : Int32))) &&& 0x3f).toInt64)), .second, .val (.long wv), .second, .unset] [])) _
                      refine XS.iconst X36.here hx rfl (hb hby at_138) ?_
                      exact kt
                    exact ⟨_, _, (0 : Int32), X36, eh36, N36, by first | (simp only [own_X, hc66, hc75, hc84, hc93, hc102, hc111, hc121, hc131, not_true_eq_false, not_false_eq_true, and_true, true_and, and_false, false_and, or_true, true_or, or_false, false_or, and_self, or_self, eq_self, if_true, if_false]; done) | (simp [own_X, hc66, hc75, hc84, hc93, hc102, hc111, hc121, hc131]; done), fun t kt => (go7 t (go9 t (go11 t (go13 t (go15 t (go17 t (go19 t (go21 t (go23 t (go25 t (go27 t (go29 t (go31 t (go33 t (go35 t (go37 t (go38 t kt)))))))))))))))))⟩
                  · have go39 : ∀ t, Steps p.tables e below (T36.setTop (mkF m 139 #[.val (.long q1), .second, .val (.long q2), .second, .val (.int p3), .val (.long (((q1 &&& (506381209866536711 : Int64)) ||| (3472328296227680304 : Int64)) + ((q2 &&& (72340172838076673 : Int64)) <<< ((1 : Int32) &&& 0x3f).toInt64))), .second, .val (.long (((p3 &&& (255 : Int32)).toInt64) <<< (((8 : Int32) * (((p3.toUInt32 >>> ((8 : Int32) &&& 31).toUInt32).toInt32) &&& (7 : Int32))) &&& 0x3f).toInt64)), .second, .val (.long wv), .second, .unset] [(.int (1 : Int32))])) t → Steps p.tables e below (T36.setTop (mkF m 131 #[.val (.long q1), .second, .val (.long q2), .second, .val (.int p3), .val (.long (((q1 &&& (506381209866536711 : Int64)) ||| (3472328296227680304 : Int64)) + ((q2 &&& (72340172838076673 : Int64)) <<< ((1 : Int32) &&& 0x3f).toInt64))), .second, .val (.long (((p3 &&& (255 : Int32)).toInt64) <<< (((8 : Int32) * (((p3.toUInt32 >>> ((8 : Int32) &&& 31).toUInt32).toInt32) &&& (7 : Int32))) &&& 0x3f).toInt64)), .second, .val (.long wv), .second, .unset] [(.int (own_D wv (7 : Int32)))])) t := by
                      intro t kt
                      show Steps p.tables e below (T36.setTop (mkF m 131 #[.val (.long q1), .second, .val (.long q2), .second, .val (.int p3), .val (.long (((q1 &&& (506381209866536711 : Int64)) ||| (3472328296227680304 : Int64)) + ((q2 &&& (72340172838076673 : Int64)) <<< ((1 : Int32) &&& 0x3f).toInt64))), .second, .val (.long (((p3 &&& (255 : Int32)).toInt64) <<< (((8 : Int32) * (((p3.toUInt32 >>> ((8 : Int32) &&& 31).toUInt32).toInt32) &&& (7 : Int32))) &&& 0x3f).toInt64)), .second, .val (.long wv), .second, .unset] [(.int (own_D wv (7 : Int32)))])) _
                      refine XS.ifNo X36.here hx rfl (hb hby at_131) rfl ((if0 _ _).trans (feq hc131).1) ?_
                      show Steps p.tables e below (T36.setTop (mkF m 134 #[.val (.long q1), .second, .val (.long q2), .second, .val (.int p3), .val (.long (((q1 &&& (506381209866536711 : Int64)) ||| (3472328296227680304 : Int64)) + ((q2 &&& (72340172838076673 : Int64)) <<< ((1 : Int32) &&& 0x3f).toInt64))), .second, .val (.long (((p3 &&& (255 : Int32)).toInt64) <<< (((8 : Int32) * (((p3.toUInt32 >>> ((8 : Int32) &&& 31).toUInt32).toInt32) &&& (7 : Int32))) &&& 0x3f).toInt64)), .second, .val (.long wv), .second, .unset] [])) _
                      refine XS.iconst X36.here hx rfl (hb hby at_134) ?_
                      show Steps p.tables e below (T36.setTop (mkF m 135 #[.val (.long q1), .second, .val (.long q2), .second, .val (.int p3), .val (.long (((q1 &&& (506381209866536711 : Int64)) ||| (3472328296227680304 : Int64)) + ((q2 &&& (72340172838076673 : Int64)) <<< ((1 : Int32) &&& 0x3f).toInt64))), .second, .val (.long (((p3 &&& (255 : Int32)).toInt64) <<< (((8 : Int32) * (((p3.toUInt32 >>> ((8 : Int32) &&& 31).toUInt32).toInt32) &&& (7 : Int32))) &&& 0x3f).toInt64)), .second, .val (.long wv), .second, .unset] [(.int (1 : Int32))])) _
                      refine XS.goto X36.here hx rfl (pc0 := 135) (pc' := 139) rfl (hb hby at_135) (by decide) (by decide) ?_
                      exact kt
                    exact ⟨_, _, (1 : Int32), X36, eh36, N36, by first | (simp only [own_X, hc66, hc75, hc84, hc93, hc102, hc111, hc121, hc131, not_true_eq_false, not_false_eq_true, and_true, true_and, and_false, false_and, or_true, true_or, or_false, false_or, and_self, or_self, eq_self, if_true, if_false]; done) | (simp [own_X, hc66, hc75, hc84, hc93, hc102, hc111, hc121, hc131]; done), fun t kt => (go7 t (go9 t (go11 t (go13 t (go15 t (go17 t (go19 t (go21 t (go23 t (go25 t (go27 t (go29 t (go31 t (go33 t (go35 t (go37 t (go39 t kt)))))))))))))))))⟩
  refine own_go go6 ?_
  have go40 : ∀ t, Steps p.tables e below (T6.setTop (mkF m 143 #[.val (.long q1), .second, .val (.long q2), .second, .val (.int p3), .val (.long (((q1 &&& (506381209866536711 : Int64)) ||| (3472328296227680304 : Int64)) + ((q2 &&& (72340172838076673 : Int64)) <<< ((1 : Int32) &&& 0x3f).toInt64))), .second, .val (.long (((p3 &&& (255 : Int32)).toInt64) <<< (((8 : Int32) * (((p3.toUInt32 >>> ((8 : Int32) &&& 31).toUInt32).toInt32) &&& (7 : Int32))) &&& 0x3f).toInt64)), .second, .val (.long wv), .second, .val (.int d)] [(.long wv)])) t → Steps p.tables e below (T6.setTop (mkF m 139 #[.val (.long q1), .second, .val (.long q2), .second, .val (.int p3), .val (.long (((q1 &&& (506381209866536711 : Int64)) ||| (3472328296227680304 : Int64)) + ((q2 &&& (72340172838076673 : Int64)) <<< ((1 : Int32) &&& 0x3f).toInt64))), .second, .val (.long (((p3 &&& (255 : Int32)).toInt64) <<< (((8 : Int32) * (((p3.toUInt32 >>> ((8 : Int32) &&& 31).toUInt32).toInt32) &&& (7 : Int32))) &&& 0x3f).toInt64)), .second, .val (.long wv), .second, .unset] [(.int d)])) t := by
    intro t kt
    show Steps p.tables e below (T6.setTop (mkF m 139 #[.val (.long q1), .second, .val (.long q2), .second, .val (.int p3), .val (.long (((q1 &&& (506381209866536711 : Int64)) ||| (3472328296227680304 : Int64)) + ((q2 &&& (72340172838076673 : Int64)) <<< ((1 : Int32) &&& 0x3f).toInt64))), .second, .val (.long (((p3 &&& (255 : Int32)).toInt64) <<< (((8 : Int32) * (((p3.toUInt32 >>> ((8 : Int32) &&& 31).toUInt32).toInt32) &&& (7 : Int32))) &&& 0x3f).toInt64)), .second, .val (.long wv), .second, .unset] [(.int d)])) _
    refine XS.istore X6.here hx rfl (hb hby at_139) rfl (l' := #[.val (.long q1), .second, .val (.long q2), .second, .val (.int p3), .val (.long (((q1 &&& (506381209866536711 : Int64)) ||| (3472328296227680304 : Int64)) + ((q2 &&& (72340172838076673 : Int64)) <<< ((1 : Int32) &&& 0x3f).toInt64))), .second, .val (.long (((p3 &&& (255 : Int32)).toInt64) <<< (((8 : Int32) * (((p3.toUInt32 >>> ((8 : Int32) &&& 31).toUInt32).toInt32) &&& (7 : Int32))) &&& 0x3f).toInt64)), .second, .val (.long wv), .second, .val (.int d)]) rfl ?_
    show Steps p.tables e below (T6.setTop (mkF m 141 #[.val (.long q1), .second, .val (.long q2), .second, .val (.int p3), .val (.long (((q1 &&& (506381209866536711 : Int64)) ||| (3472328296227680304 : Int64)) + ((q2 &&& (72340172838076673 : Int64)) <<< ((1 : Int32) &&& 0x3f).toInt64))), .second, .val (.long (((p3 &&& (255 : Int32)).toInt64) <<< (((8 : Int32) * (((p3.toUInt32 >>> ((8 : Int32) &&& 31).toUInt32).toInt32) &&& (7 : Int32))) &&& 0x3f).toInt64)), .second, .val (.long wv), .second, .val (.int d)] [])) _
    refine XS.lload X6.here hx rfl (hb hby at_141) rfl ?_
    exact kt
  refine own_go go40 ?_
  obtain ⟨_, _, ⟨T41, L41, k41, n41⟩, -, X41, ⟨Lc41, hQ41, l41, y41, z41⟩, st41⟩ := Jvm.LawKit.callS X6 hx (y := (⟨"com/example/tapereel/tapereel/xdp/Bytes", "areDigits", "(J)Z"⟩ : MethodName)) hown (mvT hZ (hw _ (List.mem_of_getElem? (i := 10) rfl))) (mvT hZ (hw _ (List.mem_of_getElem? (i := 11) rfl))) (mvT hZ (hw _ (List.mem_of_getElem? (i := 12) rfl))) (mvT hZ (hw _ (List.mem_of_getElem? (i := 13) rfl))) (by decide) (backOf (W := 0) (rm2 l Z a0 hw [] wv h0 n0 Z0) hZ (hw _ (List.mem_of_getElem? (i := 13) rfl)) (hw _ (List.mem_of_getElem? (i := 12) rfl)) (by decide) (by decide)) (g := (mkF m 143 #[.val (.long q1), .second, .val (.long q2), .second, .val (.int p3), .val (.long (((q1 &&& (506381209866536711 : Int64)) ||| (3472328296227680304 : Int64)) + ((q2 &&& (72340172838076673 : Int64)) <<< ((1 : Int32) &&& 0x3f).toInt64))), .second, .val (.long (((p3 &&& (255 : Int32)).toInt64) <<< (((8 : Int32) * (((p3.toUInt32 >>> ((8 : Int32) &&& 31).toUInt32).toInt32) &&& (7 : Int32))) &&& 0x3f).toInt64)), .second, .val (.long wv), .second, .val (.int d)] [(.long wv)])) rfl (by rw [hml]; rfl) (argsL := [(.long wv)]) (rest := []) (lenOf pd_1 rfl) rfl (by show 2 * 0 + _ ≤ _; exact Nat.le_of_eq rfl) (hb hby at_143) (fun _ _ => ⟨rfl, e6, (by decide : 0 + 0 ≤ _), (by decide : 0 + 0 ≤ _)⟩)
  dsimp only [Pt.U, Pt.locs, Pt.cells, Pt.slots] at X41 l41 y41 z41 st41 hQ41
  subst l41 y41 z41
  obtain ⟨rfl, N41q, e_a⟩ := hQ41
  have N41 := Fr.app N6 N41q
  refine own_go (S' := T41.setTop (mkF m 146 #[.val (.long q1), .second, .val (.long q2), .second, .val (.int p3), .val (.long (((q1 &&& (506381209866536711 : Int64)) ||| (3472328296227680304 : Int64)) + ((q2 &&& (72340172838076673 : Int64)) <<< ((1 : Int32) &&& 0x3f).toInt64))), .second, .val (.long (((p3 &&& (255 : Int32)).toInt64) <<< (((8 : Int32) * (((p3.toUInt32 >>> ((8 : Int32) &&& 31).toUInt32).toInt32) &&& (7 : Int32))) &&& 0x3f).toInt64)), .second, .val (.long wv), .second, .val (.int d)] [(.int (own_A wv))])) st41 ?_
  have go42 : ∀ t, Steps p.tables e below (T41.setTop (mkF m 156 #[.val (.long q1), .second, .val (.long q2), .second, .val (.int p3), .val (.long (((q1 &&& (506381209866536711 : Int64)) ||| (3472328296227680304 : Int64)) + ((q2 &&& (72340172838076673 : Int64)) <<< ((1 : Int32) &&& 0x3f).toInt64))), .second, .val (.long (((p3 &&& (255 : Int32)).toInt64) <<< (((8 : Int32) * (((p3.toUInt32 >>> ((8 : Int32) &&& 31).toUInt32).toInt32) &&& (7 : Int32))) &&& 0x3f).toInt64)), .second, .val (.long wv), .second, .val (.int d)] [(.int (1 : Int32))])) t → Steps p.tables e below (T41.setTop (mkF m 146 #[.val (.long q1), .second, .val (.long q2), .second, .val (.int p3), .val (.long (((q1 &&& (506381209866536711 : Int64)) ||| (3472328296227680304 : Int64)) + ((q2 &&& (72340172838076673 : Int64)) <<< ((1 : Int32) &&& 0x3f).toInt64))), .second, .val (.long (((p3 &&& (255 : Int32)).toInt64) <<< (((8 : Int32) * (((p3.toUInt32 >>> ((8 : Int32) &&& 31).toUInt32).toInt32) &&& (7 : Int32))) &&& 0x3f).toInt64)), .second, .val (.long wv), .second, .val (.int d)] [(.int (own_A wv))])) t := by
    intro t kt
    show Steps p.tables e below (T41.setTop (mkF m 146 #[.val (.long q1), .second, .val (.long q2), .second, .val (.int p3), .val (.long (((q1 &&& (506381209866536711 : Int64)) ||| (3472328296227680304 : Int64)) + ((q2 &&& (72340172838076673 : Int64)) <<< ((1 : Int32) &&& 0x3f).toInt64))), .second, .val (.long (((p3 &&& (255 : Int32)).toInt64) <<< (((8 : Int32) * (((p3.toUInt32 >>> ((8 : Int32) &&& 31).toUInt32).toInt32) &&& (7 : Int32))) &&& 0x3f).toInt64)), .second, .val (.long wv), .second, .val (.int d)] [(.int (own_A wv))])) _
    refine XS.iload X41.here hx rfl (hb hby at_146) rfl ?_
    show Steps p.tables e below (T41.setTop (mkF m 148 #[.val (.long q1), .second, .val (.long q2), .second, .val (.int p3), .val (.long (((q1 &&& (506381209866536711 : Int64)) ||| (3472328296227680304 : Int64)) + ((q2 &&& (72340172838076673 : Int64)) <<< ((1 : Int32) &&& 0x3f).toInt64))), .second, .val (.long (((p3 &&& (255 : Int32)).toInt64) <<< (((8 : Int32) * (((p3.toUInt32 >>> ((8 : Int32) &&& 31).toUInt32).toInt32) &&& (7 : Int32))) &&& 0x3f).toInt64)), .second, .val (.long wv), .second, .val (.int d)] [(.int d), (.int (own_A wv))])) _
    refine XS.icmpNo X41.here hx rfl (hb hby at_148) rfl (teq ((own_AX wv).trans hd.symm)).2 ?_
    show Steps p.tables e below (T41.setTop (mkF m 151 #[.val (.long q1), .second, .val (.long q2), .second, .val (.int p3), .val (.long (((q1 &&& (506381209866536711 : Int64)) ||| (3472328296227680304 : Int64)) + ((q2 &&& (72340172838076673 : Int64)) <<< ((1 : Int32) &&& 0x3f).toInt64))), .second, .val (.long (((p3 &&& (255 : Int32)).toInt64) <<< (((8 : Int32) * (((p3.toUInt32 >>> ((8 : Int32) &&& 31).toUInt32).toInt32) &&& (7 : Int32))) &&& 0x3f).toInt64)), .second, .val (.long wv), .second, .val (.int d)] [])) _
    refine XS.iconst X41.here hx rfl (hb hby at_151) ?_
    show Steps p.tables e below (T41.setTop (mkF m 152 #[.val (.long q1), .second, .val (.long q2), .second, .val (.int p3), .val (.long (((q1 &&& (506381209866536711 : Int64)) ||| (3472328296227680304 : Int64)) + ((q2 &&& (72340172838076673 : Int64)) <<< ((1 : Int32) &&& 0x3f).toInt64))), .second, .val (.long (((p3 &&& (255 : Int32)).toInt64) <<< (((8 : Int32) * (((p3.toUInt32 >>> ((8 : Int32) &&& 31).toUInt32).toInt32) &&& (7 : Int32))) &&& 0x3f).toInt64)), .second, .val (.long wv), .second, .val (.int d)] [(.int (1 : Int32))])) _
    refine XS.goto X41.here hx rfl (pc0 := 152) (pc' := 156) rfl (hb hby at_152) (by decide) (by decide) ?_
    exact kt
  refine own_go go42 ?_
  obtain ⟨fs, hr, hrun, hended, hW, hsame⟩ := X41.leave (v := some (.int (1 : Int32))) (fun h => by rw [Bd.returns] at h; cases h)
  refine ⟨_, _, retN X41 hx (t := .boolean) Bd.returns (by simp) (hb hby at_156) hr, hrun, hended, _, _, rfl, ?_, ⟨_, rfl⟩, hW, hsame.mono (by decide) (by decide)⟩
  show Q0 Z  h0 n0 _ T41.heap _
  rw [e_a]
  exact ⟨rfl, N41⟩
set_option maxRecDepth 65536 in
set_option maxHeartbeats 40000000 in
theorem comes_1 {Post : Tables → Env → Array Value → State → Outcome → State → Prop} (hpost : ∀ tb e args s v u, (limb_1_1.after args s (.returned v) u = true ∧ limb_1_2.after args s (.returned v) u = true ∧ True) → FrameEnd s (.returned v) u (Jvm.fieldLocs frame_1_writes args s ++ Jvm.arrayLocs frame_1_arrays args s ++ Jvm.staticLocs frame_1_statics s) 0 0 → Post tb e args s (.returned v) u) :
    ArmFor flags0 classFile x code maxLocals ret World_1 tables_1 room_1 Calls_1 rest_1 Pre_1 Post := by
  intro l hfl _ _ p e ha hc hk s m args below hf hA hF happ hP
  obtain ⟨hcalls, hrest, hpre⟩ := hP
  obtain ⟨-, -, -, hnamed, -, -, -, hat⟩ := (Spec.applies_iff hf).mp happ
  obtain ⟨hg, hn⟩ := and_e (Cond.before_iff.mp (show (Jvm.Cond.and given_1 narrow_1).before args s = true from hpre))
  obtain ⟨gc, r0⟩ := and_e hg
  obtain ⟨g0, r1⟩ := and_e r0
  obtain ⟨g1, r2⟩ := and_e r1
  obtain ⟨w0, w1, w2, rfl⟩ : ∃ w0 w1 w2 : Value, args = #[w0, w1, w2] := by
    have hs : args.size = 3 := by simpa [Cond.value, given_1] using gc
    obtain ⟨L⟩ := args
    match L, hs with
    | [w0, w1, w2], _ => exact ⟨w0, w1, w2, rfl⟩
  have hw := fun d (hd : d ∈ tables_1) => atoms_spec (ws := Jvm.Cond.code x code maxLocals ret :: tables_1) hat d (List.mem_cons_of_mem _ hd)
  obtain ⟨i0, ei0⟩ := isL_v g0
  obtain rfl : w0 = (.long i0) := Option.some.inj ei0
  obtain ⟨i1, ei1⟩ := isL_v g1
  obtain rfl : w1 = (.long i1) := Option.some.inj ei1
  obtain ⟨i2, ei2⟩ := is_v r2
  obtain rfl : w2 = (.int i2) := Option.some.inj ei2
  obtain ⟨n, o, h1, h2, h3, _, L, rfl, ⟨rfl, N⟩, hq⟩ := rm0 l s _ hw tables_1 i0 i1 i2 s.heap s.heap.size (Nat.le_refl _) p e ha hc hk s m _ below hf ((Spec.applies_iff_loose hf).mp happ).1 ⟨rfl, State.Warmed39.refl s, rfl⟩ trivial
  refine ⟨n, _, h1, h2, h3, hpost _ _ _ _ _ _ ⟨Cond.after_iff.mpr rfl, Cond.after_iff.mpr (eq_i res_at (Term.int_eval (1)) rfl), trivial⟩ ⟨hq.1, hq.2.1, (hq.2.2.sift fun y hy => Or.inr (N y hy)).mono (by decide) (by decide)⟩⟩
theorem main_1_1 : Claimed_1_1 := comes_1 fun _ _ _ _ _ _ h hF => ⟨h.1, hF⟩
theorem main_1_2 : Claimed_1_2 := comes_1 fun _ _ _ _ _ _ h hF => ⟨h.2.1, hF⟩
end Jvm.Pilot.@@N@@
namespace Jvm.Pilot.@@N@@
open Jvm Jvm.ClassFile Sem Op Lib Jvm.Free Jvm.Stand Jvm.Pilot.@@N@@.Jvm.D
/-! MADE BY PROGRAM (witnessworld.py) out of the Statement's table words and the real class files: 9 classes; the members and pool entries that the words name. The judged class is class 1, her method 2. -/
namespace start1
open Jvm.ClassFile
def u (s : String) : CpInfo := .utf8 (stringToUtf16 s)
/-- a pool by its gaps: so many unusable entries, then the entry; so many at the end -/
def gap : Nat → List CpInfo → List CpInfo
  | 0, r => r
  | n + 1, r => .unusable :: gap n r
def poolList (es : List (Nat × CpInfo)) (last : Nat) : List CpInfo := es.foldr (fun e r => gap e.1 (e.2 :: r)) (gap last [])
def pool (es : List (Nat × CpInfo)) (last : Nat) : Array CpInfo := ⟨poolList es last⟩
def fileOf (pool : Array CpInfo) (this : Nat) (attrs : Array Attribute := #[]) (ms : Array MethodInfo := #[]) (fl : Nat := 33) (sup : Nat := 0) (ifs : Array Nat := #[]) (fds : Array FieldInfo := #[]) : ClassFile where
  minorVersion := 0
  majorVersion := 65
  constantPool := pool
  accessFlags := fl
  thisClass := this
  superClass := sup
  interfaces := ifs
  fields := fds
  methods := ms
  attributes := attrs
def plain (name : String) (sup : Option ClassId) : Class where
  name := name
  kind := .ordinary
  loader := none
  accessFlags := 33
  super := sup
  interfaces := #[]
  cf := none
  fields := #[]
  methods := #[]
  instanceTypes := #[]
  staticTypes := #[]
  resolved := #[]
  callSites := []
  init := .initialized
  statics := none
  mirror := none

def pool0 : Array CpInfo := pool [(5, u "<init>"), (0, u "()V"), (1, .class_ 10), (1, u "java/lang/Object")] 113

def k0m0 : Method := { name := "<init>", desc := "()V", sig := { parameters := [], returnType := none }, accessFlags := 1, code := none }
/-- java/lang/Object -/
def k0 : Class := { plain "java/lang/Object" none with
  accessFlags := 33
  interfaces := #[]
  cf := some (fileOf pool0 8 #[] #[{ accessFlags := 1, nameIndex := 5, descriptorIndex := 6, attributes := #[] }] 33 0 #[] #[])
  fields := #[]
  methods := #[k0m0]
  instanceTypes := #[]
  staticTypes := #[]
  resolved := Array.replicate 124 none
  statics := none }

def pool1 : Array CpInfo := pool [(2, .class_ 4), (1, u "java/lang/Object"), (0, u "<init>"), (0, u "()V"), (0, .long 255), (1, .long 48), (1, .long 57), (1, .long 506381209866536711), (1, .long 3472328296227680304), (1, .long 72340172838076673), (1, .methodref 20 21), (0, .class_ 22), (0, .nameAndType 23 24), (0, u "com/example/tapereel/tapereel/xdp/BytesAreDigitsPinLaw"), (0, u "isDigitByte"), (0, u "(JI)Z"), (0, .methodref 26 27), (0, .class_ 28), (0, .nameAndType 29 30), (0, u "com/example/tapereel/tapereel/xdp/Bytes"), (0, u "areDigits"), (0, u "(J)Z"), (3, u "law"), (0, u "(JJI)Z")] 2

def k1m0 : Method := { name := "<init>", desc := "()V", sig := { parameters := [], returnType := none }, accessFlags := 2, code := none }
def k1c1 : Code := { maxStack := 4, maxLocals := 5, code := method_2_code, exceptionTable := #[], attributes := #[] }
def k1m1 : Method := { name := "isDigitByte", desc := "(JI)Z", sig := { parameters := [.long, .int], returnType := some .boolean }, accessFlags := 10, code := some k1c1 }
def k1c2 : Code := { maxStack := 6, maxLocals := 12, code := code, exceptionTable := #[], attributes := #[] }
def k1m2 : Method := { name := "law", desc := "(JJI)Z", sig := { parameters := [.long, .long, .int], returnType := some .boolean }, accessFlags := 9, code := some k1c2 }
/-- com/example/tapereel/tapereel/xdp/BytesAreDigitsPinLaw -/
def k1 : Class := { plain "com/example/tapereel/tapereel/xdp/BytesAreDigitsPinLaw" (some 0) with
  accessFlags := 49
  interfaces := #[]
  cf := some (fileOf pool1 20 #[] #[{ accessFlags := 2, nameIndex := 5, descriptorIndex := 6, attributes := #[] }, { accessFlags := 10, nameIndex := 23, descriptorIndex := 24, attributes := #[] }, { accessFlags := 9, nameIndex := 34, descriptorIndex := 35, attributes := #[] }] 49 2 #[] #[])
  fields := #[]
  methods := #[k1m0, k1m1, k1m2]
  instanceTypes := #[]
  staticTypes := #[]
  resolved := Array.replicate 38 none
  statics := none }

def pool2 : Array CpInfo := pool [(2, .class_ 4), (1, u "java/lang/Object"), (0, u "<init>"), (0, u "()V"), (3, .class_ 12), (1, u "com/example/tapereel/tapereel/xdp/Bytes"), (0, u "WORDS"), (0, u "Ljava/lang/invoke/VarHandle;"), (39, u "(J)Z"), (6, u "POWERS_OF_TEN"), (0, u "[J"), (0, .long 3472328296227680304), (1, .long 17361641481138401520), (1, .long 434041037028460038), (36, u "MOST_DIGITS"), (0, u "I"), (2, u "TOP_BITS"), (0, u "J"), (0, u "LOW_SEVEN_BITS"), (0, u "ZEROS"), (0, u "HIGH_HALVES"), (0, u "SIXES"), (8, u "areDigits")] 5

def k2m0 : Method := { name := "<init>", desc := "()V", sig := { parameters := [], returnType := none }, accessFlags := 2, code := none }
def k2c1 : Code := { maxStack := 4, maxLocals := 2, code := prog_61_method_11_code, exceptionTable := #[], attributes := #[] }
def k2m1 : Method := { name := "areDigits", desc := "(J)Z", sig := { parameters := [.long], returnType := some .boolean }, accessFlags := 8, code := some k2c1 }
/-- com/example/tapereel/tapereel/xdp/Bytes -/
def k2 : Class := { plain "com/example/tapereel/tapereel/xdp/Bytes" (some 0) with
  accessFlags := 48
  interfaces := #[]
  cf := some (fileOf pool2 10 #[] #[{ accessFlags := 2, nameIndex := 5, descriptorIndex := 6, attributes := #[] }, { accessFlags := 8, nameIndex := 122, descriptorIndex := 54, attributes := #[] }] 48 2 #[] #[{ accessFlags := 24, nameIndex := 104, descriptorIndex := 105, attributes := #[] }, { accessFlags := 26, nameIndex := 13, descriptorIndex := 14, attributes := #[] }, { accessFlags := 26, nameIndex := 108, descriptorIndex := 109, attributes := #[] }, { accessFlags := 26, nameIndex := 110, descriptorIndex := 109, attributes := #[] }, { accessFlags := 26, nameIndex := 111, descriptorIndex := 109, attributes := #[] }, { accessFlags := 26, nameIndex := 112, descriptorIndex := 109, attributes := #[] }, { accessFlags := 26, nameIndex := 113, descriptorIndex := 109, attributes := #[] }, { accessFlags := 26, nameIndex := 61, descriptorIndex := 62, attributes := #[] }])
  fields := #[{ name := "MOST_DIGITS", type := .int, accessFlags := 24, slot := 0, constantValue := 0 }, { name := "WORDS", type := (.object "java/lang/invoke/VarHandle"), accessFlags := 26, slot := 1, constantValue := 0 }, { name := "TOP_BITS", type := .long, accessFlags := 26, slot := 2, constantValue := 0 }, { name := "LOW_SEVEN_BITS", type := .long, accessFlags := 26, slot := 3, constantValue := 0 }, { name := "ZEROS", type := .long, accessFlags := 26, slot := 4, constantValue := 0 }, { name := "HIGH_HALVES", type := .long, accessFlags := 26, slot := 5, constantValue := 0 }, { name := "SIXES", type := .long, accessFlags := 26, slot := 6, constantValue := 0 }, { name := "POWERS_OF_TEN", type := (.array .long), accessFlags := 26, slot := 7, constantValue := 0 }]
  methods := #[k2m0, k2m1]
  instanceTypes := #[]
  staticTypes := #[.int, (.object "java/lang/invoke/VarHandle"), .long, .long, .long, .long, .long, (.array .long)]
  resolved := Array.replicate 128 none
  statics := none }

def pool3 : Array CpInfo := pool [(1, u "java/lang/Cloneable"), (0, .class_ 1), (0, u "java/lang/Object"), (0, .class_ 3)] 3

/-- java/lang/Cloneable -/
def k3 : Class := { plain "java/lang/Cloneable" (some 0) with
  accessFlags := 1537
  interfaces := #[]
  cf := some (fileOf pool3 2 #[] #[] 1537 4 #[] #[])
  fields := #[]
  methods := #[]
  instanceTypes := #[]
  staticTypes := #[]
  resolved := Array.replicate 8 none
  statics := none }

def pool4 : Array CpInfo := pool [(1, u "java/io/Serializable"), (0, .class_ 1), (0, u "java/lang/Object"), (0, .class_ 3)] 3

/-- java/io/Serializable -/
def k4 : Class := { plain "java/io/Serializable" (some 0) with
  accessFlags := 1537
  interfaces := #[]
  cf := some (fileOf pool4 2 #[] #[] 1537 4 #[] #[])
  fields := #[]
  methods := #[]
  instanceTypes := #[]
  staticTypes := #[]
  resolved := Array.replicate 8 none
  statics := none }

/-- the primitive byte -/
def k5 : Class := { plain "byte" none with kind := .primitive 'B', accessFlags := 0x411 }
/-- [B -/
def k6 : Class := { plain "[B" (some 0) with kind := .array 5 .byte, interfaces := #[3, 4], accessFlags := 1041 }

/-- the primitive int -/
def k7 : Class := { plain "int" none with kind := .primitive 'I', accessFlags := 0x411 }
/-- [I -/
def k8 : Class := { plain "[I" (some 0) with kind := .array 7 .int, interfaces := #[3, 4], accessFlags := 1041 }

def heap : Heap := #[]
def classes : Array Class := #[k0, k1, k2, k3, k4, k5, k6, k7, k8]
def interned : List (Array UInt16 × Addr) := []
def slotsUsed : Nat := 0
def theMethod : MethodId := ⟨1, 2⟩
def args0 : Array Value := #[.long 5, .long 7, .int 300]
def aboutOver (below : List Frame) : State where
  vm := { classes := classes, interned := interned.toArray }
  heap := heap
  slotsUsed := slotsUsed
  threads := #[{ frames := .invoking theMethod args0 :: below }]
def below0 : List Frame := [.native { method := ⟨0, 0⟩, args := #[] }]
def about1 : State := aboutOver below0
def p0 : Program := .bare "" "" ""
def e0 : Env := launch0.env 0 0 0
theorem w_frames : about1.frames = Frame.invoking theMethod args0 :: below0 := rfl
set_option maxRecDepth 65536 in
theorem w_args : argsFit about1.vm theMethod args0 = true := by decide +kernel
set_option maxRecDepth 65536 in
theorem w_heap : heapFits about1 = true := by decide +kernel
set_option maxRecDepth 65536 in
theorem w_runnable : about1.curStatus? = some .runnable := by decide +kernel
set_option maxRecDepth 65536 in
theorem w_alone : about1.alone = true := by decide +kernel
set_option maxRecDepth 65536 in
theorem w_named : about1.methodNamed? x = some theMethod := by decide +kernel
set_option maxRecDepth 65536 in
theorem w_hears : about1.hears theMethod below0 = true := by decide +kernel
set_option maxRecDepth 65536 in
theorem w_ripe : about1.ripe theMethod args0 below0 = true := by decide +kernel
theorem w_running : about1.status = .running := rfl
set_option maxRecDepth 65536 in
theorem w_room : about1.hasRoom e0.platform room_1 = true :=
  launch0.hasRoom_least _ room_1 (by decide +kernel) (by decide +kernel) (by decide +kernel) (by decide +kernel) (by decide +kernel) (by decide +kernel)
theorem allAtoms_all (ts : List Jvm.Cond) (a : Array Jvm.Value) (st : Jvm.State) : (allAtoms ts).before a st = ts.all (fun c => c.before a st) := by
  induction ts with
  | nil => rfl
  | cons c t ih =>
    show (Jvm.Cond.and c (allAtoms t)).before a st = _
    rw [Jvm.Cond.before_and, ih, List.all_cons]
def words1 : List Jvm.Cond := Jvm.Cond.code x code maxLocals ret :: tables_1
/-- a 'code' word, met by the world's own term for the bytes: nothing is compared byte by byte -/
theorem code_word {y : MethodName} {bytes : ByteArray} {mx : Nat} {rt : Option FieldType} {a : Array Value} {s : State} {m : MethodId} {meth : Method} {c : Code} (h1 : s.methodNamed? y = some m) (h2 : s.vm.method? m = some meth) (h3 : meth.code = some c) (h4 : c.code = bytes)
    (h5 : (c.maxLocals == mx && c.exceptionTable.isEmpty && decide (c.maxStack ≤ mostOperands) && decide (meth.sig.returnType = rt) && !meth.locks && decide (parseMethodDescriptor y.desc = some meth.sig)) = true) : (Jvm.Cond.code y bytes mx rt).before a s = true := by
  simp only [Bool.and_eq_true, beq_iff_eq, Bool.not_eq_true', decide_eq_true_eq] at h5
  obtain ⟨⟨⟨⟨⟨g1, g2⟩, g3⟩, g4⟩, g5⟩, g6⟩ := h5
  simp [Cond.before, Cond.holds, Cond.value, h1, h2, h3, h4, g1, g2, g3, g4, g5, g6]
def isCode : Jvm.Cond → Bool
  | .code _ _ _ _ => true
  | _ => false
theorem all_split {L : List Jvm.Cond} {P : Jvm.Cond → Bool} (h1 : L.all (fun c => isCode c || P c) = true) (h2 : ∀ c ∈ L.filter isCode, P c = true) : L.all P = true := by
  refine List.all_eq_true.mpr fun c hc => ?_
  have h := List.all_eq_true.mp h1 c hc
  rcases Bool.eq_false_or_eq_true (isCode c) with hi | hi
  · exact h2 c (List.mem_filter.mpr ⟨hc, hi⟩)
  · simpa [hi] using h
set_option maxRecDepth 65536 in
theorem w_c0 : (Jvm.Cond.code x code maxLocals ret).before args0 about1 = true := code_word (m := ⟨1, 2⟩) (meth := k1m2) (c := k1c2) (by decide +kernel) rfl rfl rfl (by decide +kernel)
set_option maxRecDepth 65536 in
theorem w_c1 : (Jvm.Cond.code ({ cls := "com/example/tapereel/tapereel/xdp/BytesAreDigitsPinLaw", name := "isDigitByte", desc := "(JI)Z" } : Jvm.MethodName) method_2_code (5 : Nat) (Option.some Jvm.ClassFile.FieldType.boolean)).before args0 about1 = true := code_word (m := ⟨1, 1⟩) (meth := k1m1) (c := k1c1) (by decide +kernel) rfl rfl rfl (by decide +kernel)
set_option maxRecDepth 65536 in
theorem w_c2 : (Jvm.Cond.code ({ cls := "com/example/tapereel/tapereel/xdp/Bytes", name := "areDigits", desc := "(J)Z" } : Jvm.MethodName) prog_61_method_11_code (2 : Nat) (Option.some Jvm.ClassFile.FieldType.boolean)).before args0 about1 = true := code_word (m := ⟨2, 1⟩) (meth := k2m1) (c := k2c1) (by decide +kernel) rfl rfl rfl (by decide +kernel)
def codes1 : List Jvm.Cond := [Jvm.Cond.code x code maxLocals ret, Jvm.Cond.code ({ cls := "com/example/tapereel/tapereel/xdp/BytesAreDigitsPinLaw", name := "isDigitByte", desc := "(JI)Z" } : Jvm.MethodName) method_2_code (5 : Nat) (Option.some Jvm.ClassFile.FieldType.boolean), Jvm.Cond.code ({ cls := "com/example/tapereel/tapereel/xdp/Bytes", name := "areDigits", desc := "(J)Z" } : Jvm.MethodName) prog_61_method_11_code (2 : Nat) (Option.some Jvm.ClassFile.FieldType.boolean)]
set_option maxRecDepth 65536 in
theorem codes_eq : words1.filter isCode = codes1 := rfl
theorem w_codes : ∀ c ∈ words1.filter isCode, c.before args0 about1 = true := by
  rw [codes_eq]
  intro c hc
  simp only [codes1, List.mem_cons, List.not_mem_nil, or_false] at hc
  rcases hc with rfl | rfl | rfl
  · exact w_c0
  · exact w_c1
  · exact w_c2
set_option maxRecDepth 65536 in
theorem w_t1 : words1.all (fun c => isCode c || c.before args0 about1) = true := by decide +kernel
theorem w_tables : (allAtoms (Jvm.Cond.code x code maxLocals ret :: tables_1)).before args0 about1 = true := by
  rw [allAtoms_all]
  show words1.all (fun c => c.before args0 about1) = true
  refine all_split ?_ w_codes
  rw [w_t1]
set_option maxRecDepth 65536 in
theorem w_case : (Jvm.Cond.and given_1 narrow_1).before args0 about1 = true := by decide +kernel
theorem w_applies : (headSpec (Jvm.Cond.code x code maxLocals ret :: tables_1) room_1).applies x e0.platform about1 = true :=
  (Spec.applies_iff w_frames).mpr ⟨w_running, w_runnable, w_alone, w_named, w_hears, w_ripe, w_room, w_tables⟩
theorem atStart : AtStart classFile x code maxLocals ret World_1 tables_1 room_1 Calls_1 rest_1 Pre_1 launch0 p0 e0 about1 theMethod args0 below0 :=
  ⟨lists_1, trivial, launch0.admits_env _ _ _, launch0.least_env, fairChoices_fair.cas, fairChoices_fair.clock, w_frames, w_args, w_heap, w_applies, trivial, trivial, w_case⟩
end start1
theorem witness_1 : WitnessClaimed_1 := ⟨start1.p0, start1.e0, start1.about1, start1.theMethod, start1.args0, start1.below0, start1.atStart⟩
end Jvm.Pilot.@@N@@
