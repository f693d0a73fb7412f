import JvmDerived
import JvmDerived.Pilot.@@N@@Statement
import JvmDerived.Pilot.@@N@@Code
set_option linter.unusedVariables false
set_option linter.unusedSimpArgs false
namespace Jvm.Pilot.@@N@@
open Jvm Jvm.ClassFile Sem Op Lib Jvm.Free Jvm.Stand Jvm.LawKit Jvm.RoadKit Bundle Jvm.Pilot.@@N@@.Jvm.D
/-- one stretch of the walk, then the rest of it -/
theorem own_go {tb : Tables} {e : Env} {below : List Frame} {S S' : State} {K : State → Outcome → Prop} (st : ∀ t, Steps tb e below S' t → Steps tb e below S t) (h : ∃ t o, Steps tb e below S' t ∧ K t o) : ∃ t o, Steps tb e below S t ∧ K t o := by
  obtain ⟨t, o, h1, h2⟩ := h
  exact ⟨t, o, st _ h1, h2⟩
theorem pd_0 : parseMethodDescriptor "([BII)V" = some ⟨[(.array .byte), .int, .int], none⟩ := by decide +kernel
theorem pd_1 : parseMethodDescriptor "()I" = some ⟨[], some .int⟩ := by decide +kernel
theorem pd_2 : parseMethodDescriptor "(II)I" = some ⟨[.int, .int], some .int⟩ := by decide +kernel
theorem pd_3 : parseMethodDescriptor "()Z" = some ⟨[], some .boolean⟩ := by decide +kernel
theorem d1_0 : decode prog_12_method_2_code 0 = .ok (.aload_n 0, 1) := by decide +kernel
theorem d1_1 : decode prog_12_method_2_code 1 = .ok (.invokespecial 7, 3) := by decide +kernel
theorem d1_4 : decode prog_12_method_2_code 4 = .ok (.aload_n 0, 1) := by decide +kernel
theorem d1_5 : decode prog_12_method_2_code 5 = .ok (.aload_n 1, 1) := by decide +kernel
theorem d1_6 : decode prog_12_method_2_code 6 = .ok (.putfield 12, 3) := by decide +kernel
theorem d1_9 : decode prog_12_method_2_code 9 = .ok (.aload_n 0, 1) := by decide +kernel
theorem d1_10 : decode prog_12_method_2_code 10 = .ok (.iload_n 2, 1) := by decide +kernel
theorem d1_11 : decode prog_12_method_2_code 11 = .ok (.putfield 16, 3) := by decide +kernel
theorem d1_14 : decode prog_12_method_2_code 14 = .ok (.aload_n 0, 1) := by decide +kernel
theorem d1_15 : decode prog_12_method_2_code 15 = .ok (.iload_n 3, 1) := by decide +kernel
theorem d1_16 : decode prog_12_method_2_code 16 = .ok (.putfield 20, 3) := by decide +kernel
theorem d1_19 : decode prog_12_method_2_code 19 = .ok (.aload_n 0, 1) := by decide +kernel
theorem d1_20 : decode prog_12_method_2_code 20 = .ok (.iload_n 2, 1) := by decide +kernel
theorem d1_21 : decode prog_12_method_2_code 21 = .ok (.putfield 23, 3) := by decide +kernel
theorem d1_24 : decode prog_12_method_2_code 24 = .ok (.return_, 1) := by decide +kernel
theorem pn_1 : plainName "com/example/hilera/hilera/ByteReader" = true := by first | (simp [plainName, overriddenIn]; done) | decide +kernel
theorem ef_1 (m : MethodId) (x0 : Addr) (x1 : Addr) (x2 : Int32) (x3 : Int32) : entryFrame m #[(.ref x0), (.ref x1), (.int x2), (.int x3)] 4 = mkF m 0 #[.val (.ref x0), .val (.ref x1), .val (.int x2), .val (.int x3)] [] := by first | (simp [entryFrame, mkF, argsToLocals, Value.category]; done) | rfl
def Q1 (Z : State) (a1 a2 : Addr) (p3 p4 : Int32) (h0 : Heap) (n0 : Nat) (v : Option Value) (h : Heap) (L : List Loc) : Prop := v = none ∧ Fr n0 L ∧ Keep h0 h [a1] ∧ Exa Z h a1 "com/example/hilera/hilera/ByteReader" ∧ Fld Z h a1 "com/example/hilera/hilera/ByteReader" "bytes" "[B" (.ref a2) ∧ Fld Z h a1 "com/example/hilera/hilera/ByteReader" "limit" "I" (.int p4) ∧ Fld Z h a1 "com/example/hilera/hilera/ByteReader" "position" "I" (.int p3)
set_option maxRecDepth 65536 in
set_option maxHeartbeats 40000000 in
theorem rm1 (l : Launch) (Z : State) (a0 : Array Value) (hw : ∀ d ∈ tables_1, d.before a0 Z = true) (ws : List Jvm.Cond) (a1 : Addr) (a2 : Addr) (p3 : Int32) (p4 : Int32) (h0 : Heap) (n0 : Nat) (Z0 : n0 ≤ h0.size) (E : Exa Z h0 a1 "com/example/hilera/hilera/ByteReader") (F_bytes : Fld Z h0 a1 "com/example/hilera/hilera/ByteReader" "bytes" "[B" .null) (F_start : Fld Z h0 a1 "com/example/hilera/hilera/ByteReader" "start" "I" (.int (0 : Int32))) (F_limit : Fld Z h0 a1 "com/example/hilera/hilera/ByteReader" "limit" "I" (.int (0 : Int32))) (F_position : Fld Z h0 a1 "com/example/hilera/hilera/ByteReader" "position" "I" (.int (0 : Int32))) (ga : n0 ≤ a1) :
    MetFree l (⟨"com/example/hilera/hilera/ByteReader", "<init>", "([BII)V"⟩ : MethodName) (head1 (Jvm.Cond.code (⟨"com/example/hilera/hilera/ByteReader", "<init>", "([BII)V"⟩ : MethodName) prog_12_method_2_code 4 none :: ws) ({ frames := 1, cells := 0, slots := 0, locals := 12 } : Room)) (fun a U => a = #[(.ref a1), (.ref a2), (.int p3), (.int p4)] ∧ Z.Warmed39 U.vm ∧ U.heap = h0) (fun _ _ _ _ _ => True) (fun _ U o U' => ∃ v L, o = .returned v ∧ Q1 Z a1 a2 p3 p4 h0 n0 v U'.heap L ∧ FrameEnd U o U' L ({ frames := 1, cells := 0, slots := 0, locals := 12 } : Room).cells ({ frames := 1, cells := 0, slots := 0, locals := 12 } : Room).slots) := by
  refine MetFree.of_bodySF (plainFor_of_name pn_1) hisR ?_
  intro p e s m args below meth c s₁ Bd hml0 hP hK
  obtain ⟨rfl, hZ, hh⟩ := hP
  have hx := Bd.exec
  have hby := Bd.bytes
  have hml : c.maxLocals = 4 := hml0
  have hown : s.vm.findClass "com/example/hilera/hilera/ByteReader" = some m.cls := findClass_of_methodNamed Bd.named
  have hnm := (name_of_methodNamed Bd.named Bd.method).1
  have X0 : Stand p l e ({ frames := 1, cells := 0, slots := 0, locals := 12 } : Room) s m #[(.ref a1), (.ref a2), (.int p3), (.int p4)] below meth c s₁ [] 0 0 := Stand.of_body Bd
  have e0 : s₁.heap = h0 := by rw [← hh, Bd.state]; rfl
  have N0 := Fr.nil n0
  have pre0 : ∀ t, Steps p.tables e below (s₁.setTop (mkF m 0 #[.val (.ref a1), .val (.ref a2), .val (.int p3), .val (.int p4)] [])) t → Steps p.tables e below (s₁.setTop (entryFrame m #[(.ref a1), (.ref a2), (.int p3), (.int p4)] 4)) t := fun t k => castTop (ef_1 m a1 a2 p3 p4) k
  refine own_go pre0 ?_
  have go1 : ∀ t, Steps p.tables e below (s₁.setTop (mkF m 1 #[.val (.ref a1), .val (.ref a2), .val (.int p3), .val (.int p4)] [(.ref a1)])) t → Steps p.tables e below (s₁.setTop (mkF m 0 #[.val (.ref a1), .val (.ref a2), .val (.int p3), .val (.int p4)] [])) t := by
    intro t kt
    show Steps p.tables e below (s₁.setTop (mkF m 0 #[.val (.ref a1), .val (.ref a2), .val (.int p3), .val (.int p4)] [])) _
    refine XS.aloadN X0.here hx rfl (hb hby d1_0) rfl rfl ?_
    exact kt
  refine own_go go1 ?_
  obtain ⟨T2, X2, e2, st2⟩ := initO X0 hx hZ hown (hw _ (List.mem_of_getElem? (i := 8) rfl)) (hw _ (List.mem_of_getElem? (i := 9) rfl)) (hw _ (List.mem_of_getElem? (i := 10) rfl)) e0 (g := (mkF m 1 #[.val (.ref a1), .val (.ref a2), .val (.int p3), .val (.int p4)] [(.ref a1)])) rfl (by rw [hml]; rfl) rfl (hb hby d1_1) (by decide) (W := 0) (by show 2 * 0 + _ ≤ _; exact Nat.le_of_eq rfl) (by decide)
  refine own_go (S' := T2.setTop (mkF m 4 #[.val (.ref a1), .val (.ref a2), .val (.int p3), .val (.int p4)] [])) st2 ?_
  have go3 : ∀ t, Steps p.tables e below (T2.setTop (mkF m 6 #[.val (.ref a1), .val (.ref a2), .val (.int p3), .val (.int p4)] [(.ref a2), (.ref a1)])) t → Steps p.tables e below (T2.setTop (mkF m 4 #[.val (.ref a1), .val (.ref a2), .val (.int p3), .val (.int p4)] [])) t := by
    intro t kt
    show Steps p.tables e below (T2.setTop (mkF m 4 #[.val (.ref a1), .val (.ref a2), .val (.int p3), .val (.int p4)] [])) _
    refine XS.aloadN X2.here hx rfl (hb hby d1_4) rfl rfl ?_
    show Steps p.tables e below (T2.setTop (mkF m 5 #[.val (.ref a1), .val (.ref a2), .val (.int p3), .val (.int p4)] [(.ref a1)])) _
    refine XS.aloadN X2.here hx rfl (hb hby d1_5) rfl rfl ?_
    exact kt
  refine own_go go3 ?_
  obtain ⟨T4, h4, X4, e4, W4, st4⟩ := putF X2 hx hZ hown (host := "") (Or.inl (hw _ (List.mem_of_getElem? (i := 11) rfl))) Via.refl e2 F_bytes E (Or.inr ⟨(hw _ (List.mem_of_getElem? (i := 12) rfl)), rfl, hnm⟩) (hw _ (List.mem_of_getElem? (i := 3) rfl)) (ty := (.array .byte)) (by decide) rfl rfl (g := (mkF m 6 #[.val (.ref a1), .val (.ref a2), .val (.int p3), .val (.int p4)] [(.ref a2), (.ref a1)])) rfl rfl (hb hby d1_6)
  have F4_a1_bytes : Fld Z h4 a1 "com/example/hilera/hilera/ByteReader" "bytes" "[B" (.ref a2) := F_bytes.same W4
  have F4_a1_start : Fld Z h4 a1 "com/example/hilera/hilera/ByteReader" "start" "I" (.int (0 : Int32)) := F_start.other W4 (Or.inr (slot_ne (Or.inr (hw _ (List.mem_of_getElem? (i := 14) rfl))) (Or.inr (hw _ (List.mem_of_getElem? (i := 12) rfl))) (by decide) (t := .int) (t' := (.array .byte)) (by decide) (by decide)))
  have F4_a1_limit : Fld Z h4 a1 "com/example/hilera/hilera/ByteReader" "limit" "I" (.int (0 : Int32)) := F_limit.other W4 (Or.inr (slot_ne (Or.inr (hw _ (List.mem_of_getElem? (i := 16) rfl))) (Or.inr (hw _ (List.mem_of_getElem? (i := 12) rfl))) (by decide) (t := .int) (t' := (.array .byte)) (by decide) (by decide)))
  have F4_a1_position : Fld Z h4 a1 "com/example/hilera/hilera/ByteReader" "position" "I" (.int (0 : Int32)) := F_position.other W4 (Or.inr (slot_ne (Or.inl (hw _ (List.mem_of_getElem? (i := 18) rfl))) (Or.inr (hw _ (List.mem_of_getElem? (i := 12) rfl))) (by decide) (t := .int) (t' := (.array .byte)) (by decide) (by decide)))
  have E4_a1 : Exa Z h4 a1 "com/example/hilera/hilera/ByteReader" := E.wr W4
  have N4 := Fr.snoc X4 N0 ga
  have K4 : Keep h0 h4 [a1] := (Keep.refl h0 [a1]).wr W4 (Or.inl (List.mem_of_getElem? (i := 0) rfl))
  refine own_go (S' := T4.setTop (mkF m 9 #[.val (.ref a1), .val (.ref a2), .val (.int p3), .val (.int p4)] [])) st4 ?_
  have go5 : ∀ t, Steps p.tables e below (T4.setTop (mkF m 11 #[.val (.ref a1), .val (.ref a2), .val (.int p3), .val (.int p4)] [(.int p3), (.ref a1)])) t → Steps p.tables e below (T4.setTop (mkF m 9 #[.val (.ref a1), .val (.ref a2), .val (.int p3), .val (.int p4)] [])) t := by
    intro t kt
    show Steps p.tables e below (T4.setTop (mkF m 9 #[.val (.ref a1), .val (.ref a2), .val (.int p3), .val (.int p4)] [])) _
    refine XS.aloadN X4.here hx rfl (hb hby d1_9) rfl rfl ?_
    show Steps p.tables e below (T4.setTop (mkF m 10 #[.val (.ref a1), .val (.ref a2), .val (.int p3), .val (.int p4)] [(.ref a1)])) _
    refine XS.iloadN X4.here hx rfl (hb hby d1_10) rfl ?_
    exact kt
  refine own_go go5 ?_
  obtain ⟨T6, h6, X6, e6, W6, st6⟩ := putF X4 hx hZ hown (host := "") (Or.inl (hw _ (List.mem_of_getElem? (i := 13) rfl))) Via.refl e4 F4_a1_start E4_a1 (Or.inr ⟨(hw _ (List.mem_of_getElem? (i := 14) rfl)), rfl, hnm⟩) (hw _ (List.mem_of_getElem? (i := 3) rfl)) (ty := .int) (by decide) rfl rfl (g := (mkF m 11 #[.val (.ref a1), .val (.ref a2), .val (.int p3), .val (.int p4)] [(.int p3), (.ref a1)])) rfl rfl (hb hby d1_11)
  have F6_a1_bytes : Fld Z h6 a1 "com/example/hilera/hilera/ByteReader" "bytes" "[B" (.ref a2) := F4_a1_bytes.other W6 (Or.inr (slot_ne (Or.inr (hw _ (List.mem_of_getElem? (i := 12) rfl))) (Or.inr (hw _ (List.mem_of_getElem? (i := 14) rfl))) (by decide) (t := (.array .byte)) (t' := .int) (by decide) (by decide)))
  have F6_a1_start : Fld Z h6 a1 "com/example/hilera/hilera/ByteReader" "start" "I" (.int p3) := F4_a1_start.same W6
  have F6_a1_limit : Fld Z h6 a1 "com/example/hilera/hilera/ByteReader" "limit" "I" (.int (0 : Int32)) := F4_a1_limit.other W6 (Or.inr (slot_ne (Or.inr (hw _ (List.mem_of_getElem? (i := 16) rfl))) (Or.inr (hw _ (List.mem_of_getElem? (i := 14) rfl))) (by decide) (t := .int) (t' := .int) (by decide) (by decide)))
  have F6_a1_position : Fld Z h6 a1 "com/example/hilera/hilera/ByteReader" "position" "I" (.int (0 : Int32)) := F4_a1_position.other W6 (Or.inr (slot_ne (Or.inl (hw _ (List.mem_of_getElem? (i := 18) rfl))) (Or.inr (hw _ (List.mem_of_getElem? (i := 14) rfl))) (by decide) (t := .int) (t' := .int) (by decide) (by decide)))
  have E6_a1 : Exa Z h6 a1 "com/example/hilera/hilera/ByteReader" := E4_a1.wr W6
  have N6 := Fr.snoc X6 N4 ga
  have K6 : Keep h0 h6 [a1] := K4.wr W6 (Or.inl (List.mem_of_getElem? (i := 0) rfl))
  refine own_go (S' := T6.setTop (mkF m 14 #[.val (.ref a1), .val (.ref a2), .val (.int p3), .val (.int p4)] [])) st6 ?_
  have go7 : ∀ t, Steps p.tables e below (T6.setTop (mkF m 16 #[.val (.ref a1), .val (.ref a2), .val (.int p3), .val (.int p4)] [(.int p4), (.ref a1)])) t → Steps p.tables e below (T6.setTop (mkF m 14 #[.val (.ref a1), .val (.ref a2), .val (.int p3), .val (.int p4)] [])) t := by
    intro t kt
    show Steps p.tables e below (T6.setTop (mkF m 14 #[.val (.ref a1), .val (.ref a2), .val (.int p3), .val (.int p4)] [])) _
    refine XS.aloadN X6.here hx rfl (hb hby d1_14) rfl rfl ?_
    show Steps p.tables e below (T6.setTop (mkF m 15 #[.val (.ref a1), .val (.ref a2), .val (.int p3), .val (.int p4)] [(.ref a1)])) _
    refine XS.iloadN X6.here hx rfl (hb hby d1_15) rfl ?_
    exact kt
  refine own_go go7 ?_
  obtain ⟨T8, h8, X8, e8, W8, st8⟩ := putF X6 hx hZ hown (host := "") (Or.inl (hw _ (List.mem_of_getElem? (i := 15) rfl))) Via.refl e6 F6_a1_limit E6_a1 (Or.inr ⟨(hw _ (List.mem_of_getElem? (i := 16) rfl)), rfl, hnm⟩) (hw _ (List.mem_of_getElem? (i := 3) rfl)) (ty := .int) (by decide) rfl rfl (g := (mkF m 16 #[.val (.ref a1), .val (.ref a2), .val (.int p3), .val (.int p4)] [(.int p4), (.ref a1)])) rfl rfl (hb hby d1_16)
  have F8_a1_bytes : Fld Z h8 a1 "com/example/hilera/hilera/ByteReader" "bytes" "[B" (.ref a2) := F6_a1_bytes.other W8 (Or.inr (slot_ne (Or.inr (hw _ (List.mem_of_getElem? (i := 12) rfl))) (Or.inr (hw _ (List.mem_of_getElem? (i := 16) rfl))) (by decide) (t := (.array .byte)) (t' := .int) (by decide) (by decide)))
  have F8_a1_start : Fld Z h8 a1 "com/example/hilera/hilera/ByteReader" "start" "I" (.int p3) := F6_a1_start.other W8 (Or.inr (slot_ne (Or.inr (hw _ (List.mem_of_getElem? (i := 14) rfl))) (Or.inr (hw _ (List.mem_of_getElem? (i := 16) rfl))) (by decide) (t := .int) (t' := .int) (by decide) (by decide)))
  have F8_a1_limit : Fld Z h8 a1 "com/example/hilera/hilera/ByteReader" "limit" "I" (.int p4) := F6_a1_limit.same W8
  have F8_a1_position : Fld Z h8 a1 "com/example/hilera/hilera/ByteReader" "position" "I" (.int (0 : Int32)) := F6_a1_position.other W8 (Or.inr (slot_ne (Or.inl (hw _ (List.mem_of_getElem? (i := 18) rfl))) (Or.inr (hw _ (List.mem_of_getElem? (i := 16) rfl))) (by decide) (t := .int) (t' := .int) (by decide) (by decide)))
  have E8_a1 : Exa Z h8 a1 "com/example/hilera/hilera/ByteReader" := E6_a1.wr W8
  have N8 := Fr.snoc X8 N6 ga
  have K8 : Keep h0 h8 [a1] := K6.wr W8 (Or.inl (List.mem_of_getElem? (i := 0) rfl))
  refine own_go (S' := T8.setTop (mkF m 19 #[.val (.ref a1), .val (.ref a2), .val (.int p3), .val (.int p4)] [])) st8 ?_
  have go9 : ∀ t, Steps p.tables e below (T8.setTop (mkF m 21 #[.val (.ref a1), .val (.ref a2), .val (.int p3), .val (.int p4)] [(.int p3), (.ref a1)])) t → Steps p.tables e below (T8.setTop (mkF m 19 #[.val (.ref a1), .val (.ref a2), .val (.int p3), .val (.int p4)] [])) t := by
    intro t kt
    show Steps p.tables e below (T8.setTop (mkF m 19 #[.val (.ref a1), .val (.ref a2), .val (.int p3), .val (.int p4)] [])) _
    refine XS.aloadN X8.here hx rfl (hb hby d1_19) rfl rfl ?_
    show Steps p.tables e below (T8.setTop (mkF m 20 #[.val (.ref a1), .val (.ref a2), .val (.int p3), .val (.int p4)] [(.ref a1)])) _
    refine XS.iloadN X8.here hx rfl (hb hby d1_20) rfl ?_
    exact kt
  refine own_go go9 ?_
  obtain ⟨T10, h10, X10, e10, W10, st10⟩ := putF X8 hx hZ hown (host := "") (Or.inl (hw _ (List.mem_of_getElem? (i := 17) rfl))) Via.refl e8 F8_a1_position E8_a1 (Or.inl (hw _ (List.mem_of_getElem? (i := 18) rfl))) (hw _ (List.mem_of_getElem? (i := 3) rfl)) (ty := .int) (by decide) rfl rfl (g := (mkF m 21 #[.val (.ref a1), .val (.ref a2), .val (.int p3), .val (.int p4)] [(.int p3), (.ref a1)])) rfl rfl (hb hby d1_21)
  have F10_a1_bytes : Fld Z h10 a1 "com/example/hilera/hilera/ByteReader" "bytes" "[B" (.ref a2) := F8_a1_bytes.other W10 (Or.inr (slot_ne (Or.inr (hw _ (List.mem_of_getElem? (i := 12) rfl))) (Or.inl (hw _ (List.mem_of_getElem? (i := 18) rfl))) (by decide) (t := (.array .byte)) (t' := .int) (by decide) (by decide)))
  have F10_a1_start : Fld Z h10 a1 "com/example/hilera/hilera/ByteReader" "start" "I" (.int p3) := F8_a1_start.other W10 (Or.inr (slot_ne (Or.inr (hw _ (List.mem_of_getElem? (i := 14) rfl))) (Or.inl (hw _ (List.mem_of_getElem? (i := 18) rfl))) (by decide) (t := .int) (t' := .int) (by decide) (by decide)))
  have F10_a1_limit : Fld Z h10 a1 "com/example/hilera/hilera/ByteReader" "limit" "I" (.int p4) := F8_a1_limit.other W10 (Or.inr (slot_ne (Or.inr (hw _ (List.mem_of_getElem? (i := 16) rfl))) (Or.inl (hw _ (List.mem_of_getElem? (i := 18) rfl))) (by decide) (t := .int) (t' := .int) (by decide) (by decide)))
  have F10_a1_position : Fld Z h10 a1 "com/example/hilera/hilera/ByteReader" "position" "I" (.int p3) := F8_a1_position.same W10
  have E10_a1 : Exa Z h10 a1 "com/example/hilera/hilera/ByteReader" := E8_a1.wr W10
  have N10 := Fr.snoc X10 N8 ga
  have K10 : Keep h0 h10 [a1] := K8.wr W10 (Or.inl (List.mem_of_getElem? (i := 0) rfl))
  refine own_go (S' := T10.setTop (mkF m 24 #[.val (.ref a1), .val (.ref a2), .val (.int p3), .val (.int p4)] [])) st10 ?_
  obtain ⟨fs, hr, hrun, hended, hW, hsame⟩ := X10.leave (v := none) (fun _ => rfl)
  refine ⟨_, _, X10.returnOut hx Bd.returns (hb hby d1_24) hr, hrun, hended, _, _, rfl, ?_, ⟨_, rfl⟩, hW, hsame.mono (by decide) (by decide)⟩
  show Q1 Z a1 a2 p3 p4 h0 n0 _ T10.heap _
  rw [e10]
  exact ⟨rfl, N10, K10, E10_a1, F10_a1_bytes, F10_a1_limit, F10_a1_position⟩
theorem d3_0 : decode prog_12_method_5_code 0 = .ok (.aload_n 0, 1) := by decide +kernel
theorem d3_1 : decode prog_12_method_5_code 1 = .ok (.getfield 23, 3) := by decide +kernel
theorem d3_4 : decode prog_12_method_5_code 4 = .ok (.ireturn, 1) := by decide +kernel
theorem pn_3 : plainName "com/example/hilera/hilera/ByteReader" = true := by first | (simp [plainName, overriddenIn]; done) | decide +kernel
theorem ef_3 (m : MethodId) (x0 : Addr) : entryFrame m #[(.ref x0)] 1 = mkF m 0 #[.val (.ref x0)] [] := by first | (simp [entryFrame, mkF, argsToLocals, Value.category]; done) | rfl
def Q3 (Z : State) (pos : Int32) (h0 : Heap) (n0 : Nat) (v : Option Value) (h : Heap) (L : List Loc) : Prop := v = some (.int pos) ∧ Fr n0 L ∧ h = h0
set_option maxRecDepth 65536 in
set_option maxHeartbeats 40000000 in
theorem rm3 (l : Launch) (Z : State) (a0 : Array Value) (hw : ∀ d ∈ tables_1, d.before a0 Z = true) (ws : List Jvm.Cond) (a1 : Addr) (pos : Int32) (h0 : Heap) (n0 : Nat) (Z0 : n0 ≤ h0.size) (F_position : Fld Z h0 a1 "com/example/hilera/hilera/ByteReader" "position" "I" (.int pos)) :
    MetFree l (⟨"com/example/hilera/hilera/ByteReader", "position", "()I"⟩ : MethodName) (head1 (Jvm.Cond.code (⟨"com/example/hilera/hilera/ByteReader", "position", "()I"⟩ : MethodName) prog_12_method_5_code 1 (some .int) :: ws) ({ frames := 0, cells := 0, slots := 0, locals := 0 } : Room)) (fun a U => a = #[(.ref a1)] ∧ Z.Warmed39 U.vm ∧ U.heap = h0) (fun _ _ _ _ _ => True) (fun _ U o U' => ∃ v L, o = .returned v ∧ Q3 Z pos h0 n0 v U'.heap L ∧ FrameEnd U o U' L ({ frames := 0, cells := 0, slots := 0, locals := 0 } : Room).cells ({ frames := 0, cells := 0, slots := 0, locals := 0 } : Room).slots) := by
  refine MetFree.of_bodySF (plainFor_of_name pn_3) hisR ?_
  intro p e s m args below meth c s₁ Bd hml0 hP hK
  obtain ⟨rfl, hZ, hh⟩ := hP
  have hx := Bd.exec
  have hby := Bd.bytes
  have hml : c.maxLocals = 1 := hml0
  have hown : s.vm.findClass "com/example/hilera/hilera/ByteReader" = some m.cls := findClass_of_methodNamed Bd.named
  have hnm := (name_of_methodNamed Bd.named Bd.method).1
  have X0 : Stand p l e ({ frames := 0, cells := 0, slots := 0, locals := 0 } : Room) s m #[(.ref a1)] below meth c s₁ [] 0 0 := Stand.of_body Bd
  have e0 : s₁.heap = h0 := by rw [← hh, Bd.state]; rfl
  have N0 := Fr.nil n0
  have pre0 : ∀ t, Steps p.tables e below (s₁.setTop (mkF m 0 #[.val (.ref a1)] [])) t → Steps p.tables e below (s₁.setTop (entryFrame m #[(.ref a1)] 1)) t := fun t k => castTop (ef_3 m a1) k
  refine own_go pre0 ?_
  have go1 : ∀ t, Steps p.tables e below (s₁.setTop (mkF m 1 #[.val (.ref a1)] [(.ref a1)])) t → Steps p.tables e below (s₁.setTop (mkF m 0 #[.val (.ref a1)] [])) t := by
    intro t kt
    show Steps p.tables e below (s₁.setTop (mkF m 0 #[.val (.ref a1)] [])) _
    refine XS.aloadN X0.here hx rfl (hb hby d3_0) rfl rfl ?_
    exact kt
  refine own_go go1 ?_
  obtain ⟨T2, X2, e2, st2⟩ := getF X0 hx hZ hown (host := "") (Or.inl (hw _ (List.mem_of_getElem? (i := 17) rfl))) Via.refl e0 F_position (g := (mkF m 1 #[.val (.ref a1)] [(.ref a1)])) rfl rfl (hb hby d3_1)
  refine own_go (S' := T2.setTop (mkF m 4 #[.val (.ref a1)] [(.int pos)])) st2 ?_
  obtain ⟨fs, hr, hrun, hended, hW, hsame⟩ := X2.leave (v := some (.int pos)) (fun h => by rw [Bd.returns] at h; cases h)
  refine ⟨_, _, retOut X2 hx Bd.returns rfl (Or.inl ⟨rfl, Or.inl rfl, _, rfl⟩) (hb hby d3_4) hr, hrun, hended, _, _, rfl, ?_, ⟨_, rfl⟩, hW, hsame.mono (by decide) (by decide)⟩
  show Q3 Z pos h0 n0 _ T2.heap _
  rw [e2]
  exact ⟨rfl, N0, rfl⟩
theorem d4_0 : decode prog_12_method_9_code 0 = .ok (.aload_n 0, 1) := by decide +kernel
theorem d4_1 : decode prog_12_method_9_code 1 = .ok (.getfield 23, 3) := by decide +kernel
theorem d4_4 : decode prog_12_method_9_code 4 = .ok (.aload_n 0, 1) := by decide +kernel
theorem d4_5 : decode prog_12_method_9_code 5 = .ok (.getfield 20, 3) := by decide +kernel
theorem d4_8 : decode prog_12_method_9_code 8 = .ok (.if_icmp .ge 7, 3) := by decide +kernel
theorem d4_11 : decode prog_12_method_9_code 11 = .ok (.iconst 1, 1) := by decide +kernel
theorem d4_12 : decode prog_12_method_9_code 12 = .ok (.goto 4, 3) := by decide +kernel
theorem d4_15 : decode prog_12_method_9_code 15 = .ok (.iconst 0, 1) := by decide +kernel
theorem d4_16 : decode prog_12_method_9_code 16 = .ok (.ireturn, 1) := by decide +kernel
theorem pn_4 : plainName "com/example/hilera/hilera/ByteReader" = true := by first | (simp [plainName, overriddenIn]; done) | decide +kernel
theorem ef_4 (m : MethodId) (x0 : Addr) : entryFrame m #[(.ref x0)] 1 = mkF m 0 #[.val (.ref x0)] [] := by first | (simp [entryFrame, mkF, argsToLocals, Value.category]; done) | rfl
def own_rem (pos lim : Int32) : Int32 := if pos < lim then 1 else 0
def Q4 (Z : State) (pos lim : Int32) (h0 : Heap) (n0 : Nat) (v : Option Value) (h : Heap) (L : List Loc) : Prop := v = some (.int (own_rem pos lim)) ∧ Fr n0 L ∧ h = h0
set_option maxRecDepth 65536 in
set_option maxHeartbeats 40000000 in
theorem rm4 (l : Launch) (Z : State) (a0 : Array Value) (hw : ∀ d ∈ tables_1, d.before a0 Z = true) (ws : List Jvm.Cond) (a1 : Addr) (pos lim : Int32) (h0 : Heap) (n0 : Nat) (Z0 : n0 ≤ h0.size) (F_position : Fld Z h0 a1 "com/example/hilera/hilera/ByteReader" "position" "I" (.int pos)) (F_limit : Fld Z h0 a1 "com/example/hilera/hilera/ByteReader" "limit" "I" (.int lim)) :
    MetFree l (⟨"com/example/hilera/hilera/ByteReader", "hasRemaining", "()Z"⟩ : MethodName) (head1 (Jvm.Cond.code (⟨"com/example/hilera/hilera/ByteReader", "hasRemaining", "()Z"⟩ : MethodName) prog_12_method_9_code 1 (some .boolean) :: ws) ({ frames := 0, cells := 0, slots := 0, locals := 0 } : Room)) (fun a U => a = #[(.ref a1)] ∧ Z.Warmed39 U.vm ∧ U.heap = h0) (fun _ _ _ _ _ => True) (fun _ U o U' => ∃ v L, o = .returned v ∧ Q4 Z pos lim h0 n0 v U'.heap L ∧ FrameEnd U o U' L ({ frames := 0, cells := 0, slots := 0, locals := 0 } : Room).cells ({ frames := 0, cells := 0, slots := 0, locals := 0 } : Room).slots) := by
  refine MetFree.of_bodySF (plainFor_of_name pn_4) hisR ?_
  intro p e s m args below meth c s₁ Bd hml0 hP hK
  obtain ⟨rfl, hZ, hh⟩ := hP
  have hx := Bd.exec
  have hby := Bd.bytes
  have hml : c.maxLocals = 1 := hml0
  have hown : s.vm.findClass "com/example/hilera/hilera/ByteReader" = some m.cls := findClass_of_methodNamed Bd.named
  have hnm := (name_of_methodNamed Bd.named Bd.method).1
  have X0 : Stand p l e ({ frames := 0, cells := 0, slots := 0, locals := 0 } : Room) s m #[(.ref a1)] below meth c s₁ [] 0 0 := Stand.of_body Bd
  have e0 : s₁.heap = h0 := by rw [← hh, Bd.state]; rfl
  have N0 := Fr.nil n0
  have pre0 : ∀ t, Steps p.tables e below (s₁.setTop (mkF m 0 #[.val (.ref a1)] [])) t → Steps p.tables e below (s₁.setTop (entryFrame m #[(.ref a1)] 1)) t := fun t k => castTop (ef_4 m a1) k
  refine own_go pre0 ?_
  have go1 : ∀ t, Steps p.tables e below (s₁.setTop (mkF m 1 #[.val (.ref a1)] [(.ref a1)])) t → Steps p.tables e below (s₁.setTop (mkF m 0 #[.val (.ref a1)] [])) t := by
    intro t kt
    show Steps p.tables e below (s₁.setTop (mkF m 0 #[.val (.ref a1)] [])) _
    refine XS.aloadN X0.here hx rfl (hb hby d4_0) rfl rfl ?_
    exact kt
  refine own_go go1 ?_
  obtain ⟨T2, X2, e2, st2⟩ := getF X0 hx hZ hown (host := "") (Or.inl (hw _ (List.mem_of_getElem? (i := 17) rfl))) Via.refl e0 F_position (g := (mkF m 1 #[.val (.ref a1)] [(.ref a1)])) rfl rfl (hb hby d4_1)
  refine own_go (S' := T2.setTop (mkF m 4 #[.val (.ref a1)] [(.int pos)])) st2 ?_
  have go3 : ∀ t, Steps p.tables e below (T2.setTop (mkF m 5 #[.val (.ref a1)] [(.ref a1), (.int pos)])) t → Steps p.tables e below (T2.setTop (mkF m 4 #[.val (.ref a1)] [(.int pos)])) t := by
    intro t kt
    show Steps p.tables e below (T2.setTop (mkF m 4 #[.val (.ref a1)] [(.int pos)])) _
    refine XS.aloadN X2.here hx rfl (hb hby d4_4) rfl rfl ?_
    exact kt
  refine own_go go3 ?_
  obtain ⟨T4, X4, e4, st4⟩ := getF X2 hx hZ hown (host := "") (Or.inl (hw _ (List.mem_of_getElem? (i := 15) rfl))) Via.refl e2 F_limit (g := (mkF m 5 #[.val (.ref a1)] [(.ref a1), (.int pos)])) rfl rfl (hb hby d4_5)
  refine own_go (S' := T4.setTop (mkF m 8 #[.val (.ref a1)] [(.int lim), (.int pos)])) st4 ?_
  rcases Classical.em (pos < lim) with hc8 | hc8
  · have go5 : ∀ t, Steps p.tables e below (T4.setTop (mkF m 16 #[.val (.ref a1)] [(.int (1 : Int32))])) t → Steps p.tables e below (T4.setTop (mkF m 8 #[.val (.ref a1)] [(.int lim), (.int pos)])) t := by
      intro t kt
      show Steps p.tables e below (T4.setTop (mkF m 8 #[.val (.ref a1)] [(.int lim), (.int pos)])) _
      refine XS.icmpNo X4.here hx rfl (hb hby d4_8) rfl (tlt hc8).2.1 ?_
      show Steps p.tables e below (T4.setTop (mkF m 11 #[.val (.ref a1)] [])) _
      refine XS.iconst X4.here hx rfl (hb hby d4_11) ?_
      show Steps p.tables e below (T4.setTop (mkF m 12 #[.val (.ref a1)] [(.int (1 : Int32))])) _
      refine XS.goto X4.here hx rfl (pc0 := 12) (pc' := 16) rfl (hb hby d4_12) (by decide) (by decide) ?_
      exact kt
    refine own_go go5 ?_
    obtain ⟨fs, hr, hrun, hended, hW, hsame⟩ := X4.leave (v := some (.int (1 : Int32))) (fun h => by rw [Bd.returns] at h; cases h)
    refine ⟨_, _, retN X4 hx (t := .boolean) Bd.returns (by simp) (hb hby d4_16) hr, hrun, hended, _, _, rfl, ?_, ⟨_, rfl⟩, hW, hsame.mono (by decide) (by decide)⟩
    show Q4 Z pos lim h0 n0 _ T4.heap _
    rw [e4]
    exact ⟨congrArg (fun z => some (Value.int z)) (show (1 : Int32) = own_rem pos lim from by first | (simp only [own_rem, hc8, not_true_eq_false, not_false_eq_true, and_true, true_and, and_false, false_and, or_true, true_or, or_false, false_or, and_self, or_self, eq_self, if_true, if_false]; done) | (simp [own_rem, hc8]; done)), N0, rfl⟩
  · have go6 : ∀ t, Steps p.tables e below (T4.setTop (mkF m 16 #[.val (.ref a1)] [(.int (0 : Int32))])) t → Steps p.tables e below (T4.setTop (mkF m 8 #[.val (.ref a1)] [(.int lim), (.int pos)])) t := by
      intro t kt
      show Steps p.tables e below (T4.setTop (mkF m 8 #[.val (.ref a1)] [(.int lim), (.int pos)])) _
      refine XS.icmpYes X4.here hx rfl (pc0 := 8) (pc' := 15) rfl (hb hby d4_8) rfl (flt hc8).2.1 (by decide) (by decide) ?_
      show Steps p.tables e below (T4.setTop (mkF m 15 #[.val (.ref a1)] [])) _
      refine XS.iconst X4.here hx rfl (hb hby d4_15) ?_
      exact kt
    refine own_go go6 ?_
    obtain ⟨fs, hr, hrun, hended, hW, hsame⟩ := X4.leave (v := some (.int (0 : Int32))) (fun h => by rw [Bd.returns] at h; cases h)
    refine ⟨_, _, retN X4 hx (t := .boolean) Bd.returns (by simp) (hb hby d4_16) hr, hrun, hended, _, _, rfl, ?_, ⟨_, rfl⟩, hW, hsame.mono (by decide) (by decide)⟩
    show Q4 Z pos lim h0 n0 _ T4.heap _
    rw [e4]
    exact ⟨congrArg (fun z => some (Value.int z)) (show (0 : Int32) = own_rem pos lim from by first | (simp only [own_rem, hc8, not_true_eq_false, not_false_eq_true, and_true, true_and, and_false, false_and, or_true, true_or, or_false, false_or, and_self, or_self, eq_self, if_true, if_false]; done) | (simp [own_rem, hc8]; done)), N0, rfl⟩
theorem d5_0 : decode prog_12_method_10_code 0 = .ok (.aload_n 0, 1) := by decide +kernel
theorem d5_1 : decode prog_12_method_10_code 1 = .ok (.getfield 23, 3) := by decide +kernel
theorem d5_4 : decode prog_12_method_10_code 4 = .ok (.aload_n 0, 1) := by decide +kernel
theorem d5_5 : decode prog_12_method_10_code 5 = .ok (.getfield 20, 3) := by decide +kernel
theorem d5_8 : decode prog_12_method_10_code 8 = .ok (.if_icmp .ne 11, 3) := by decide +kernel
theorem d5_11 : decode prog_12_method_10_code 11 = .ok (.new 35, 3) := by decide +kernel
theorem d5_14 : decode prog_12_method_10_code 14 = .ok (.dup, 1) := by decide +kernel
theorem d5_15 : decode prog_12_method_10_code 15 = .ok (.invokespecial 37, 3) := by decide +kernel
theorem d5_18 : decode prog_12_method_10_code 18 = .ok (.athrow, 1) := by decide +kernel
theorem d5_19 : decode prog_12_method_10_code 19 = .ok (.aload_n 0, 1) := by decide +kernel
theorem d5_20 : decode prog_12_method_10_code 20 = .ok (.getfield 12, 3) := by decide +kernel
theorem d5_23 : decode prog_12_method_10_code 23 = .ok (.aload_n 0, 1) := by decide +kernel
theorem d5_24 : decode prog_12_method_10_code 24 = .ok (.dup, 1) := by decide +kernel
theorem d5_25 : decode prog_12_method_10_code 25 = .ok (.getfield 23, 3) := by decide +kernel
theorem d5_28 : decode prog_12_method_10_code 28 = .ok (.dup_x1, 1) := by decide +kernel
theorem d5_29 : decode prog_12_method_10_code 29 = .ok (.iconst 1, 1) := by decide +kernel
theorem d5_30 : decode prog_12_method_10_code 30 = .ok (.iadd, 1) := by decide +kernel
theorem d5_31 : decode prog_12_method_10_code 31 = .ok (.putfield 23, 3) := by decide +kernel
theorem d5_34 : decode prog_12_method_10_code 34 = .ok (.baload, 1) := by decide +kernel
theorem d5_35 : decode prog_12_method_10_code 35 = .ok (.sipush 255, 3) := by decide +kernel
theorem d5_38 : decode prog_12_method_10_code 38 = .ok (.iand, 1) := by decide +kernel
theorem d5_39 : decode prog_12_method_10_code 39 = .ok (.ireturn, 1) := by decide +kernel
theorem pn_5 : plainName "com/example/hilera/hilera/ByteReader" = true := by first | (simp [plainName, overriddenIn]; done) | decide +kernel
theorem ef_5 (m : MethodId) (x0 : Addr) : entryFrame m #[(.ref x0)] 1 = mkF m 0 #[.val (.ref x0)] [] := by first | (simp [entryFrame, mkF, argsToLocals, Value.category]; done) | rfl
def Q5 (Z : State) (a1 b : Addr) (lim pos x : Int32) (h0 : Heap) (n0 : Nat) (v : Option Value) (h : Heap) (L : List Loc) : Prop := v = some (.int (x &&& (255 : Int32))) ∧ Fr n0 L ∧ Keep h0 h [a1] ∧ Exa Z h a1 "com/example/hilera/hilera/ByteReader" ∧ Fld Z h a1 "com/example/hilera/hilera/ByteReader" "bytes" "[B" (.ref b) ∧ Fld Z h a1 "com/example/hilera/hilera/ByteReader" "limit" "I" (.int lim) ∧ Fld Z h a1 "com/example/hilera/hilera/ByteReader" "position" "I" (.int (pos + (1 : Int32)))
set_option maxRecDepth 65536 in
set_option maxHeartbeats 40000000 in
theorem rm5 (l : Launch) (Z : State) (a0 : Array Value) (hw : ∀ d ∈ tables_1, d.before a0 Z = true) (ws : List Jvm.Cond) (a1 : Addr) (b : Addr) (kb : ClassId) (vs : List Value) (lim pos x : Int32) (h0 : Heap) (n0 : Nat) (Z0 : n0 ≤ h0.size) (E : Exa Z h0 a1 "com/example/hilera/hilera/ByteReader") (F_bytes : Fld Z h0 a1 "com/example/hilera/hilera/ByteReader" "bytes" "[B" (.ref b)) (F_limit : Fld Z h0 a1 "com/example/hilera/hilera/ByteReader" "limit" "I" (.int lim)) (F_position : Fld Z h0 a1 "com/example/hilera/hilera/ByteReader" "position" "I" (.int pos)) (VB : Arv Z h0 b kb .byte (4 : Int32) vs (.int (0 : Int32))) (nb : b ≠ a1) (ga : n0 ≤ a1) (hne : ¬ pos = lim) (hp : ¬ pos < 0 ∧ pos < (4 : Int32)) (hval : vs.getD pos.toNatClampNeg (.int (0 : Int32)) = .int x) :
    MetFree l (⟨"com/example/hilera/hilera/ByteReader", "read", "()I"⟩ : MethodName) (head1 (Jvm.Cond.code (⟨"com/example/hilera/hilera/ByteReader", "read", "()I"⟩ : MethodName) prog_12_method_10_code 1 (some .int) :: ws) ({ frames := 0, cells := 0, slots := 0, locals := 0 } : Room)) (fun a U => a = #[(.ref a1)] ∧ Z.Warmed39 U.vm ∧ U.heap = h0) (fun _ _ _ _ _ => True) (fun _ U o U' => ∃ v L, o = .returned v ∧ Q5 Z a1 b lim pos x h0 n0 v U'.heap L ∧ FrameEnd U o U' L ({ frames := 0, cells := 0, slots := 0, locals := 0 } : Room).cells ({ frames := 0, cells := 0, slots := 0, locals := 0 } : Room).slots) := by
  refine MetFree.of_bodySF (plainFor_of_name pn_5) hisR ?_
  intro p e s m args below meth c s₁ Bd hml0 hP hK
  obtain ⟨rfl, hZ, hh⟩ := hP
  have hx := Bd.exec
  have hby := Bd.bytes
  have hml : c.maxLocals = 1 := hml0
  have hown : s.vm.findClass "com/example/hilera/hilera/ByteReader" = some m.cls := findClass_of_methodNamed Bd.named
  have hnm := (name_of_methodNamed Bd.named Bd.method).1
  have X0 : Stand p l e ({ frames := 0, cells := 0, slots := 0, locals := 0 } : Room) s m #[(.ref a1)] below meth c s₁ [] 0 0 := Stand.of_body Bd
  have e0 : s₁.heap = h0 := by rw [← hh, Bd.state]; rfl
  have N0 := Fr.nil n0
  have pre0 : ∀ t, Steps p.tables e below (s₁.setTop (mkF m 0 #[.val (.ref a1)] [])) t → Steps p.tables e below (s₁.setTop (entryFrame m #[(.ref a1)] 1)) t := fun t k => castTop (ef_5 m a1) k
  refine own_go pre0 ?_
  have go1 : ∀ t, Steps p.tables e below (s₁.setTop (mkF m 1 #[.val (.ref a1)] [(.ref a1)])) t → Steps p.tables e below (s₁.setTop (mkF m 0 #[.val (.ref a1)] [])) t := by
    intro t kt
    show Steps p.tables e below (s₁.setTop (mkF m 0 #[.val (.ref a1)] [])) _
    refine XS.aloadN X0.here hx rfl (hb hby d5_0) rfl rfl ?_
    exact kt
  refine own_go go1 ?_
  obtain ⟨T2, X2, e2, st2⟩ := getF X0 hx hZ hown (host := "") (Or.inl (hw _ (List.mem_of_getElem? (i := 17) rfl))) Via.refl e0 F_position (g := (mkF m 1 #[.val (.ref a1)] [(.ref a1)])) rfl rfl (hb hby d5_1)
  refine own_go (S' := T2.setTop (mkF m 4 #[.val (.ref a1)] [(.int pos)])) st2 ?_
  have go3 : ∀ t, Steps p.tables e below (T2.setTop (mkF m 5 #[.val (.ref a1)] [(.ref a1), (.int pos)])) t → Steps p.tables e below (T2.setTop (mkF m 4 #[.val (.ref a1)] [(.int pos)])) t := by
    intro t kt
    show Steps p.tables e below (T2.setTop (mkF m 4 #[.val (.ref a1)] [(.int pos)])) _
    refine XS.aloadN X2.here hx rfl (hb hby d5_4) rfl rfl ?_
    exact kt
  refine own_go go3 ?_
  obtain ⟨T4, X4, e4, st4⟩ := getF X2 hx hZ hown (host := "") (Or.inl (hw _ (List.mem_of_getElem? (i := 15) rfl))) Via.refl e2 F_limit (g := (mkF m 5 #[.val (.ref a1)] [(.ref a1), (.int pos)])) rfl rfl (hb hby d5_5)
  refine own_go (S' := T4.setTop (mkF m 8 #[.val (.ref a1)] [(.int lim), (.int pos)])) st4 ?_
  have go5 : ∀ t, Steps p.tables e below (T4.setTop (mkF m 20 #[.val (.ref a1)] [(.ref a1)])) t → Steps p.tables e below (T4.setTop (mkF m 8 #[.val (.ref a1)] [(.int lim), (.int pos)])) t := by
    intro t kt
    show Steps p.tables e below (T4.setTop (mkF m 8 #[.val (.ref a1)] [(.int lim), (.int pos)])) _
    refine XS.icmpYes X4.here hx rfl (pc0 := 8) (pc' := 19) rfl (hb hby d5_8) rfl (feq hne).2 (by decide) (by decide) ?_
    show Steps p.tables e below (T4.setTop (mkF m 19 #[.val (.ref a1)] [])) _
    refine XS.aloadN X4.here hx rfl (hb hby d5_19) rfl rfl ?_
    exact kt
  refine own_go go5 ?_
  obtain ⟨T6, X6, e6, st6⟩ := getF X4 hx hZ hown (host := "") (Or.inl (hw _ (List.mem_of_getElem? (i := 11) rfl))) Via.refl e4 F_bytes (g := (mkF m 20 #[.val (.ref a1)] [(.ref a1)])) rfl rfl (hb hby d5_20)
  refine own_go (S' := T6.setTop (mkF m 23 #[.val (.ref a1)] [(.ref b)])) st6 ?_
  have go7 : ∀ t, Steps p.tables e below (T6.setTop (mkF m 25 #[.val (.ref a1)] [(.ref a1), (.ref a1), (.ref b)])) t → Steps p.tables e below (T6.setTop (mkF m 23 #[.val (.ref a1)] [(.ref b)])) t := by
    intro t kt
    show Steps p.tables e below (T6.setTop (mkF m 23 #[.val (.ref a1)] [(.ref b)])) _
    refine XS.aloadN X6.here hx rfl (hb hby d5_23) rfl rfl ?_
    show Steps p.tables e below (T6.setTop (mkF m 24 #[.val (.ref a1)] [(.ref a1), (.ref b)])) _
    refine XS.dup X6.here hx rfl (hb hby d5_24) rfl rfl ?_
    exact kt
  refine own_go go7 ?_
  obtain ⟨T8, X8, e8, st8⟩ := getF X6 hx hZ hown (host := "") (Or.inl (hw _ (List.mem_of_getElem? (i := 17) rfl))) Via.refl e6 F_position (g := (mkF m 25 #[.val (.ref a1)] [(.ref a1), (.ref a1), (.ref b)])) rfl rfl (hb hby d5_25)
  refine own_go (S' := T8.setTop (mkF m 28 #[.val (.ref a1)] [(.int pos), (.ref a1), (.ref b)])) st8 ?_
  have go9 : ∀ t, Steps p.tables e below (T8.setTop (mkF m 31 #[.val (.ref a1)] [(.int (pos + (1 : Int32))), (.ref a1), (.int pos), (.ref b)])) t → Steps p.tables e below (T8.setTop (mkF m 28 #[.val (.ref a1)] [(.int pos), (.ref a1), (.ref b)])) t := by
    intro t kt
    show Steps p.tables e below (T8.setTop (mkF m 28 #[.val (.ref a1)] [(.int pos), (.ref a1), (.ref b)])) _
    refine XS.dupX1 X8.here hx rfl (hb hby d5_28) rfl rfl rfl ?_
    show Steps p.tables e below (T8.setTop (mkF m 29 #[.val (.ref a1)] [(.int pos), (.ref a1), (.int pos), (.ref b)])) _
    refine XS.iconst X8.here hx rfl (hb hby d5_29) ?_
    show Steps p.tables e below (T8.setTop (mkF m 30 #[.val (.ref a1)] [(.int (1 : Int32)), (.int pos), (.ref a1), (.int pos), (.ref b)])) _
    refine XS.iadd X8.here hx rfl (hb hby d5_30) rfl ?_
    exact kt
  refine own_go go9 ?_
  obtain ⟨T10, h10, X10, e10, W10, st10⟩ := putF X8 hx hZ hown (host := "") (Or.inl (hw _ (List.mem_of_getElem? (i := 17) rfl))) Via.refl e8 F_position E (Or.inl (hw _ (List.mem_of_getElem? (i := 18) rfl))) (hw _ (List.mem_of_getElem? (i := 3) rfl)) (ty := .int) (by decide) rfl rfl (g := (mkF m 31 #[.val (.ref a1)] [(.int (pos + (1 : Int32))), (.ref a1), (.int pos), (.ref b)])) rfl rfl (hb hby d5_31)
  have F10_a1_bytes : Fld Z h10 a1 "com/example/hilera/hilera/ByteReader" "bytes" "[B" (.ref b) := F_bytes.other W10 (Or.inr (slot_ne (Or.inr (hw _ (List.mem_of_getElem? (i := 12) rfl))) (Or.inl (hw _ (List.mem_of_getElem? (i := 18) rfl))) (by decide) (t := (.array .byte)) (t' := .int) (by decide) (by decide)))
  have F10_a1_limit : Fld Z h10 a1 "com/example/hilera/hilera/ByteReader" "limit" "I" (.int lim) := F_limit.other W10 (Or.inr (slot_ne (Or.inr (hw _ (List.mem_of_getElem? (i := 16) rfl))) (Or.inl (hw _ (List.mem_of_getElem? (i := 18) rfl))) (by decide) (t := .int) (t' := .int) (by decide) (by decide)))
  have F10_a1_position : Fld Z h10 a1 "com/example/hilera/hilera/ByteReader" "position" "I" (.int (pos + (1 : Int32))) := F_position.same W10
  have E10_a1 : Exa Z h10 a1 "com/example/hilera/hilera/ByteReader" := E.wr W10
  have V10_b : Arv Z h10 b kb .byte (4 : Int32) vs (.int (0 : Int32)) := VB.other W10 nb
  have N10 := Fr.snoc X10 N0 ga
  have K10 : Keep h0 h10 [a1] := (Keep.refl h0 [a1]).wr W10 (Or.inl (List.mem_of_getElem? (i := 0) rfl))
  refine own_go (S' := T10.setTop (mkF m 34 #[.val (.ref a1)] [(.int pos), (.ref b)])) st10 ?_
  have Vo11 := V10_b
  obtain ⟨cl11, Ar11, qk11, Sz11, Nz11, Hh11, Gf11⟩ := Vo11
  have hin11 : ¬ (pos < 0 ∨ cl11.slots.size ≤ (pos).toNatClampNeg) := inb_of Sz11 hp
  have hat11 : cl11.slots[(pos).toNatClampNeg]? = some (.int x) := Has.at Hh11 hin11 hval
  have go12 : ∀ t, Steps p.tables e below (T10.setTop (mkF m 35 #[.val (.ref a1)] [(.int x)])) t → Steps p.tables e below (T10.setTop (mkF m 34 #[.val (.ref a1)] [(.int pos), (.ref b)])) t := fun t kt => X10.baloadBytes hx (j := pos) (v := (.int x)) (by rw [e10]; exact Ar11.1) (State.isArrayOf_alike hZ.alike Ar11.2.1) Ar11.2.2 hin11 hat11 (g := (mkF m 34 #[.val (.ref a1)] [(.int pos), (.ref b)])) rfl rfl (hb hby d5_34) _ kt
  refine own_go go12 ?_
  have go13 : ∀ t, Steps p.tables e below (T10.setTop (mkF m 39 #[.val (.ref a1)] [(.int (x &&& (255 : Int32)))])) t → Steps p.tables e below (T10.setTop (mkF m 35 #[.val (.ref a1)] [(.int x)])) t := by
    intro t kt
    show Steps p.tables e below (T10.setTop (mkF m 35 #[.val (.ref a1)] [(.int x)])) _
    refine XS.sipush X10.here hx rfl (hb hby d5_35) ?_
    show Steps p.tables e below (T10.setTop (mkF m 38 #[.val (.ref a1)] [(.int (255 : Int32)), (.int x)])) _
    refine XS.iand X10.here hx rfl (hb hby d5_38) rfl ?_
    exact kt
  refine own_go go13 ?_
  obtain ⟨fs, hr, hrun, hended, hW, hsame⟩ := X10.leave (v := some (.int (x &&& (255 : Int32)))) (fun h => by rw [Bd.returns] at h; cases h)
  refine ⟨_, _, retOut X10 hx Bd.returns rfl (Or.inl ⟨rfl, Or.inl rfl, _, rfl⟩) (hb hby d5_39) hr, hrun, hended, _, _, rfl, ?_, ⟨_, rfl⟩, hW, hsame.mono (by decide) (by decide)⟩
  show Q5 Z a1 b lim pos x h0 n0 _ T10.heap _
  rw [e10]
  exact ⟨rfl, N10, K10, E10_a1, F10_a1_bytes, F10_a1_limit, F10_a1_position⟩
theorem d6_0 : decode method_3_code 0 = .ok (.iload_n 0, 1) := by decide +kernel
theorem d6_1 : decode method_3_code 1 = .ok (.bipush 8, 2) := by decide +kernel
theorem d6_3 : decode method_3_code 3 = .ok (.iload_n 1, 1) := by decide +kernel
theorem d6_4 : decode method_3_code 4 = .ok (.imul, 1) := by decide +kernel
theorem d6_5 : decode method_3_code 5 = .ok (.iushr, 1) := by decide +kernel
theorem d6_6 : decode method_3_code 6 = .ok (.sipush 255, 3) := by decide +kernel
theorem d6_9 : decode method_3_code 9 = .ok (.iand, 1) := by decide +kernel
theorem d6_10 : decode method_3_code 10 = .ok (.ireturn, 1) := by decide +kernel
theorem pn_6 : plainName "com/example/hilera/hilera/ByteReaderReadPinLaw" = true := by first | (simp [plainName, overriddenIn]; done) | decide +kernel
theorem ef_6 (m : MethodId) (x0 : Int32) (x1 : Int32) : entryFrame m #[(.int x0), (.int x1)] 2 = mkF m 0 #[.val (.int x0), .val (.int x1)] [] := by first | (simp [entryFrame, mkF, argsToLocals, Value.category]; done) | rfl
def own_exp (p1 : Int32) (p2 : Int32) : Int32 := ((p1.toUInt32 >>> (((8 : Int32) * p2) &&& 31).toUInt32).toInt32) &&& (255 : Int32)
def Q6 (Z : State) (p1 : Int32) (p2 : Int32) (h0 : Heap) (n0 : Nat) (v : Option Value) (h : Heap) (L : List Loc) : Prop := v = some (.int (own_exp p1 p2)) ∧ Fr n0 L ∧ h = h0
set_option maxRecDepth 65536 in
set_option maxHeartbeats 40000000 in
theorem rm6 (l : Launch) (Z : State) (a0 : Array Value) (hw : ∀ d ∈ tables_1, d.before a0 Z = true) (ws : List Jvm.Cond) (p1 : Int32) (p2 : Int32) (h0 : Heap) (n0 : Nat) (Z0 : n0 ≤ h0.size) :
    MetFree l (⟨"com/example/hilera/hilera/ByteReaderReadPinLaw", "expected", "(II)I"⟩ : MethodName) (head1 (Jvm.Cond.code (⟨"com/example/hilera/hilera/ByteReaderReadPinLaw", "expected", "(II)I"⟩ : MethodName) method_3_code 2 (some .int) :: ws) ({ frames := 0, cells := 0, slots := 0, locals := 0 } : Room)) (fun a U => a = #[(.int p1), (.int p2)] ∧ Z.Warmed39 U.vm ∧ U.heap = h0) (fun _ _ _ _ _ => True) (fun _ U o U' => ∃ v L, o = .returned v ∧ Q6 Z p1 p2 h0 n0 v U'.heap L ∧ FrameEnd U o U' L ({ frames := 0, cells := 0, slots := 0, locals := 0 } : Room).cells ({ frames := 0, cells := 0, slots := 0, locals := 0 } : Room).slots) := by
  refine MetFree.of_bodySF (plainFor_of_name pn_6) hisR ?_
  intro p e s m args below meth c s₁ Bd hml0 hP hK
  obtain ⟨rfl, hZ, hh⟩ := hP
  have hx := Bd.exec
  have hby := Bd.bytes
  have hml : c.maxLocals = 2 := hml0
  have hown : s.vm.findClass "com/example/hilera/hilera/ByteReaderReadPinLaw" = some m.cls := findClass_of_methodNamed Bd.named
  have hnm := (name_of_methodNamed Bd.named Bd.method).1
  have X0 : Stand p l e ({ frames := 0, cells := 0, slots := 0, locals := 0 } : Room) s m #[(.int p1), (.int p2)] below meth c s₁ [] 0 0 := Stand.of_body Bd
  have e0 : s₁.heap = h0 := by rw [← hh, Bd.state]; rfl
  have N0 := Fr.nil n0
  have pre0 : ∀ t, Steps p.tables e below (s₁.setTop (mkF m 0 #[.val (.int p1), .val (.int p2)] [])) t → Steps p.tables e below (s₁.setTop (entryFrame m #[(.int p1), (.int p2)] 2)) t := fun t k => castTop (ef_6 m p1 p2) k
  refine own_go pre0 ?_
  have go1 : ∀ t, Steps p.tables e below (s₁.setTop (mkF m 10 #[.val (.int p1), .val (.int p2)] [(.int (((p1.toUInt32 >>> (((8 : Int32) * p2) &&& 31).toUInt32).toInt32) &&& (255 : Int32)))])) t → Steps p.tables e below (s₁.setTop (mkF m 0 #[.val (.int p1), .val (.int p2)] [])) t := by
    intro t kt
    show Steps p.tables e below (s₁.setTop (mkF m 0 #[.val (.int p1), .val (.int p2)] [])) _
    refine XS.iloadN X0.here hx rfl (hb hby d6_0) rfl ?_
    show Steps p.tables e below (s₁.setTop (mkF m 1 #[.val (.int p1), .val (.int p2)] [(.int p1)])) _
    refine XS.bipush X0.here hx rfl (hb hby d6_1) ?_
    show Steps p.tables e below (s₁.setTop (mkF m 3 #[.val (.int p1), .val (.int p2)] [(.int (8 : Int32)), (.int p1)])) _
    refine XS.iloadN X0.here hx rfl (hb hby d6_3) rfl ?_
    show Steps p.tables e below (s₁.setTop (mkF m 4 #[.val (.int p1), .val (.int p2)] [(.int p2), (.int (8 : Int32)), (.int p1)])) _
    refine XS.imul X0.here hx rfl (hb hby d6_4) rfl ?_
    show Steps p.tables e below (s₁.setTop (mkF m 5 #[.val (.int p1), .val (.int p2)] [(.int ((8 : Int32) * p2)), (.int p1)])) _
    refine XS.iushr X0.here hx rfl (hb hby d6_5) rfl ?_
    show Steps p.tables e below (s₁.setTop (mkF m 6 #[.val (.int p1), .val (.int p2)] [(.int ((p1.toUInt32 >>> (((8 : Int32) * p2) &&& 31).toUInt32).toInt32))])) _
    refine XS.sipush X0.here hx rfl (hb hby d6_6) ?_
    show Steps p.tables e below (s₁.setTop (mkF m 9 #[.val (.int p1), .val (.int p2)] [(.int (255 : Int32)), (.int ((p1.toUInt32 >>> (((8 : Int32) * p2) &&& 31).toUInt32).toInt32))])) _
    refine XS.iand X0.here hx rfl (hb hby d6_9) rfl ?_
    exact kt
  refine own_go go1 ?_
  obtain ⟨fs, hr, hrun, hended, hW, hsame⟩ := X0.leave (v := some (.int (((p1.toUInt32 >>> (((8 : Int32) * p2) &&& 31).toUInt32).toInt32) &&& (255 : Int32)))) (fun h => by rw [Bd.returns] at h; cases h)
  refine ⟨_, _, retOut X0 hx Bd.returns rfl (Or.inl ⟨rfl, Or.inl rfl, _, rfl⟩) (hb hby d6_10) hr, hrun, hended, _, _, rfl, ?_, ⟨_, rfl⟩, hW, hsame.mono (by decide) (by decide)⟩
  show Q6 Z p1 p2 h0 n0 _ s₁.heap _
  rw [e0]
  exact ⟨congrArg (fun z => some (Value.int z)) (show (((p1.toUInt32 >>> (((8 : Int32) * p2) &&& 31).toUInt32).toInt32) &&& (255 : Int32)) = own_exp p1 p2 from by first | (simp only [own_exp, eq_self, not_true_eq_false, not_false_eq_true, and_true, true_and, and_false, false_and, or_true, true_or, or_false, false_or, and_self, or_self, eq_self, if_true, if_false]; done) | (simp [own_exp, eq_self]; done)), N0, rfl⟩
def own_vs (a : Int32) : List Value := [(.int (nar .byte (a.toInt8.toInt32))), (.int (nar .byte (((a.toUInt32 >>> ((8 : Int32) &&& 31).toUInt32).toInt32).toInt8.toInt32))), (.int (nar .byte (((a.toUInt32 >>> ((16 : Int32) &&& 31).toUInt32).toInt32).toInt8.toInt32))), (.int (nar .byte (((a.toUInt32 >>> ((24 : Int32) &&& 31).toUInt32).toInt32).toInt8.toInt32)))]
def own_by (a i : Int32) : Int32 := if i = 0 then nar .byte (a.toInt8.toInt32) else if i = 1 then nar .byte (((a.toUInt32 >>> ((8 : Int32) &&& 31).toUInt32).toInt32).toInt8.toInt32) else if i = 2 then nar .byte (((a.toUInt32 >>> ((16 : Int32) &&& 31).toUInt32).toInt32).toInt8.toInt32) else nar .byte (((a.toUInt32 >>> ((24 : Int32) &&& 31).toUInt32).toInt32).toInt8.toInt32)
theorem own_four (i : Int32) (h : ¬ i < 0 ∧ i < (4 : Int32)) : i = 0 ∨ i = 1 ∨ i = 2 ∨ i = 3 := by
  simp only [Int32.lt_iff_toInt_lt, show (0 : Int32).toInt = 0 from rfl, show (4 : Int32).toInt = 4 from rfl] at h
  simp only [← Int32.toInt_inj, show (0 : Int32).toInt = 0 from rfl, show (1 : Int32).toInt = 1 from rfl, show (2 : Int32).toInt = 2 from rfl, show (3 : Int32).toInt = 3 from rfl]
  omega
theorem own_val (a i : Int32) (h : ¬ i < 0 ∧ i < (4 : Int32)) : (own_vs a).getD i.toNatClampNeg (.int (0 : Int32)) = .int (own_by a i) := by
  rcases own_four i h with rfl | rfl | rfl | rfl <;> rfl
theorem own_255 (x : Int32) : nar .byte (x.toInt8.toInt32) &&& (255 : Int32) = x &&& (255 : Int32) := by
  apply Int32.toInt_inj.mp
  rw [c_mask _ 255 8 (by decide) (by decide), c_mask _ 255 8 (by decide) (by decide)]
  show ((x.toInt8.toInt32).toInt8.toInt32).toInt % _ = _
  have h1 := c_i2b x
  have h2 := c_i2b (x.toInt8.toInt32)
  rw [show ((2 ^ 8 : Nat) : Int) = 256 from rfl]
  omega
theorem own_rd (a i : Int32) (h : ¬ i < 0 ∧ i < (4 : Int32)) : (own_by a i) &&& (255 : Int32) = own_exp a i := by
  rcases own_four i h with rfl | rfl | rfl | rfl
  · show nar .byte (a.toInt8.toInt32) &&& (255 : Int32) = ((a.toUInt32 >>> (((8 : Int32) * 0) &&& 31).toUInt32).toInt32) &&& (255 : Int32)
    rw [own_255, show (((8 : Int32) * 0) &&& 31).toUInt32 = 0 from by decide, UInt32.shiftRight_zero]
    rfl
  · show nar .byte (((a.toUInt32 >>> ((8 : Int32) &&& 31).toUInt32).toInt32).toInt8.toInt32) &&& (255 : Int32) = ((a.toUInt32 >>> (((8 : Int32) * 1) &&& 31).toUInt32).toInt32) &&& (255 : Int32)
    rw [own_255, show (8 : Int32) * 1 = 8 from by decide]
  · show nar .byte (((a.toUInt32 >>> ((16 : Int32) &&& 31).toUInt32).toInt32).toInt8.toInt32) &&& (255 : Int32) = ((a.toUInt32 >>> (((8 : Int32) * 2) &&& 31).toUInt32).toInt32) &&& (255 : Int32)
    rw [own_255, show (8 : Int32) * 2 = 16 from by decide]
  · show nar .byte (((a.toUInt32 >>> ((24 : Int32) &&& 31).toUInt32).toInt32).toInt8.toInt32) &&& (255 : Int32) = ((a.toUInt32 >>> (((8 : Int32) * 3) &&& 31).toUInt32).toInt32) &&& (255 : Int32)
    rw [own_255, show (8 : Int32) * 3 = 24 from by decide]
theorem own_sa (p : Int32) : 0 ≤ (p &&& (3 : Int32)).toInt ∧ (p &&& (3 : Int32)).toInt < 4 := by
  rw [c_mask p 3 2 (by decide) (by decide), show ((2 ^ 2 : Nat) : Int) = 4 from rfl]
  omega
theorem own_five (sa : Int32) (h : 0 ≤ sa.toInt ∧ sa.toInt < 4) : ((5 : Int32) - sa).toInt = 5 - sa.toInt := by
  have q := c_isub 5 sa
  have r := rng32 ((5 : Int32) - sa)
  rw [show (5 : Int32).toInt = 5 from rfl] at q
  omega
theorem own_nz (sa : Int32) (h : 0 ≤ sa.toInt ∧ sa.toInt < 4) : ((5 : Int32) - sa) ≠ 0 := fun q => by
  have := own_five sa h
  rw [q, show (0 : Int32).toInt = 0 from rfl] at this
  omega
theorem own_li (sa p : Int32) (h : 0 ≤ sa.toInt ∧ sa.toInt < 4) : sa.toInt ≤ (sa + ((p &&& (2147483647 : Int32)) % ((5 : Int32) - sa))).toInt ∧ (sa + ((p &&& (2147483647 : Int32)) % ((5 : Int32) - sa))).toInt ≤ 4 := by
  have h5 := own_five sa h
  have hm := (c_and p 2147483647 (by decide)).1
  have hr := (c_iremV (p &&& (2147483647 : Int32)) ((5 : Int32) - sa)).1 hm (by omega)
  have ha := c_iadd sa ((p &&& (2147483647 : Int32)) % ((5 : Int32) - sa))
  have r := rng32 (sa + ((p &&& (2147483647 : Int32)) % ((5 : Int32) - sa)))
  obtain ⟨r1, r2, -⟩ := hr
  omega
theorem own_hp (x : Int32) (h1 : 0 ≤ x.toInt) (h2 : x.toInt < 4) : ¬ x < 0 ∧ x < (4 : Int32) := by
  simp only [Int32.lt_iff_toInt_lt, show (0 : Int32).toInt = 0 from rfl, show (4 : Int32).toInt = 4 from rfl]
  omega
theorem own_inc (x : Int32) (h1 : 0 ≤ x.toInt) (h2 : x.toInt < 4) : (x + (1 : Int32)).toInt = x.toInt + 1 := by
  have q := c_iadd x 1
  have r := rng32 (x + 1)
  rw [show (1 : Int32).toInt = 1 from rfl] at q
  omega
theorem own_ne (x y : Int32) (h : x.toInt < y.toInt) : ¬ x = y := fun q => by rw [q] at h; omega
theorem own_rem0 (x y : Int32) (h : x = y) : own_rem x y = 0 := by
  subst h
  exact if_neg (by rw [Int32.lt_iff_toInt_lt]; omega)
theorem pn_0 : plainName "com/example/hilera/hilera/ByteReaderReadPinLaw" = true := by first | (simp [plainName, overriddenIn]; done) | decide +kernel
theorem ef_0 (m : MethodId) (x0 : Int32) (x1 : Int32) (x2 : Int32) : entryFrame m #[(.int x0), (.int x1), (.int x2)] maxLocals = mkF m 0 #[.val (.int x0), .val (.int x1), .val (.int x2), .unset, .unset, .unset, .unset, .unset, .unset, .unset] [] := by first | (simp [entryFrame, mkF, argsToLocals, Value.category, maxLocals]; done) | rfl
def Q0 (Z : State) (h0 : Heap) (n0 : Nat) (v : Option Value) (h : Heap) (L : List Loc) : Prop := v = some (.int (1 : Int32)) ∧ Fr n0 L
set_option maxRecDepth 65536 in
set_option maxHeartbeats 40000000 in
theorem rm0 (l : Launch) (Z : State) (a0 : Array Value) (hw : ∀ d ∈ tables_1, d.before a0 Z = true) (ws : List Jvm.Cond) (p1 : Int32) (p2 : Int32) (p3 : Int32) (h0 : Heap) (n0 : Nat) (Z0 : n0 ≤ h0.size) :
    MetFree l x (head1 (Jvm.Cond.code x code maxLocals ret :: ws) room_1) (fun a U => a = #[(.int p1), (.int p2), (.int p3)] ∧ Z.Warmed39 U.vm ∧ U.heap = h0) (fun _ _ _ _ _ => True) (fun _ U o U' => ∃ v L, o = .returned v ∧ Q0 Z  h0 n0 v U'.heap L ∧ FrameEnd U o U' L room_1.cells room_1.slots) := by
  refine MetFree.of_bodySF (plainFor_of_name pn_0) hisR ?_
  intro p e s m args below meth c s₁ Bd hml0 hP hK
  obtain ⟨rfl, hZ, hh⟩ := hP
  have hx := Bd.exec
  have hby := Bd.bytes
  have hml : c.maxLocals = 10 := hml0
  have hown : s.vm.findClass "com/example/hilera/hilera/ByteReaderReadPinLaw" = some m.cls := findClass_of_methodNamed Bd.named
  have hnm := (name_of_methodNamed Bd.named Bd.method).1
  have X0 : Stand p l e room_1 s m #[(.int p1), (.int p2), (.int p3)] below meth c s₁ [] 0 0 := Stand.of_body Bd
  have e0 : s₁.heap = h0 := by rw [← hh, Bd.state]; rfl
  have N0 := Fr.nil n0
  have pre0 : ∀ t, Steps p.tables e below (s₁.setTop (mkF m 0 #[.val (.int p1), .val (.int p2), .val (.int p3), .unset, .unset, .unset, .unset, .unset, .unset, .unset] [])) t → Steps p.tables e below (s₁.setTop (entryFrame m #[(.int p1), (.int p2), (.int p3)] maxLocals)) t := fun t k => castTop (ef_0 m p1 p2 p3) k
  refine own_go pre0 ?_
  have go1 : ∀ t, Steps p.tables e below (s₁.setTop (mkF m 1 #[.val (.int p1), .val (.int p2), .val (.int p3), .unset, .unset, .unset, .unset, .unset, .unset, .unset] [(.int (4 : Int32))])) t → Steps p.tables e below (s₁.setTop (mkF m 0 #[.val (.int p1), .val (.int p2), .val (.int p3), .unset, .unset, .unset, .unset, .unset, .unset, .unset] [])) t := by
    intro t kt
    show Steps p.tables e below (s₁.setTop (mkF m 0 #[.val (.int p1), .val (.int p2), .val (.int p3), .unset, .unset, .unset, .unset, .unset, .unset, .unset] [])) _
    refine XS.iconst X0.here hx rfl (hb hby at_0) ?_
    exact kt
  refine own_go go1 ?_
  obtain ⟨T2, h2, k2, X2, e2, E2, A2, st2⟩ := newP X0 hx hZ (hw _ (List.mem_of_getElem? (i := 0) rfl)) e0 (g := (mkF m 1 #[.val (.int p1), .val (.int p2), .val (.int p3), .unset, .unset, .unset, .unset, .unset, .unset, .unset] [(.int (4 : Int32))])) rfl (hb hby at_1) rfl (by decide) (cap := 4) (by decide) (by decide) (by decide) (by decide)
  obtain ⟨b, g2⟩ : ∃ z, z = h0.size := ⟨_, rfl⟩
  rw [← g2] at A2 st2
  have g_b : n0 ≤ b := Nat.le_trans Z0 (Nat.le_of_eq g2.symm)
  have V_b : Arv Z h2 b k2 .byte (4 : Int32) [(.int (0 : Int32)), (.int (0 : Int32)), (.int (0 : Int32)), (.int (0 : Int32))] (.int (0 : Int32)) := (Arv.new A2 (by decide)).pad (pad_rep [] (.int (0 : Int32)) 4)
  refine own_go (S' := T2.setTop (mkF m 3 #[.val (.int p1), .val (.int p2), .val (.int p3), .unset, .unset, .unset, .unset, .unset, .unset, .unset] [(.ref b)])) st2 ?_
  have go3 : ∀ t, Steps p.tables e below (T2.setTop (mkF m 8 #[.val (.int p1), .val (.int p2), .val (.int p3), .val (.ref b), .unset, .unset, .unset, .unset, .unset, .unset] [(.int (p1.toInt8.toInt32)), (.int (0 : Int32)), (.ref b)])) t → Steps p.tables e below (T2.setTop (mkF m 3 #[.val (.int p1), .val (.int p2), .val (.int p3), .unset, .unset, .unset, .unset, .unset, .unset, .unset] [(.ref b)])) t := by
    intro t kt
    show Steps p.tables e below (T2.setTop (mkF m 3 #[.val (.int p1), .val (.int p2), .val (.int p3), .unset, .unset, .unset, .unset, .unset, .unset, .unset] [(.ref b)])) _
    refine XS.astoreN X2.here hx rfl (hb hby at_3) rfl rfl (l' := #[.val (.int p1), .val (.int p2), .val (.int p3), .val (.ref b), .unset, .unset, .unset, .unset, .unset, .unset]) rfl ?_
    show Steps p.tables e below (T2.setTop (mkF m 4 #[.val (.int p1), .val (.int p2), .val (.int p3), .val (.ref b), .unset, .unset, .unset, .unset, .unset, .unset] [])) _
    refine XS.aloadN X2.here hx rfl (hb hby at_4) rfl rfl ?_
    show Steps p.tables e below (T2.setTop (mkF m 5 #[.val (.int p1), .val (.int p2), .val (.int p3), .val (.ref b), .unset, .unset, .unset, .unset, .unset, .unset] [(.ref b)])) _
    refine XS.iconst X2.here hx rfl (hb hby at_5) ?_
    show Steps p.tables e below (T2.setTop (mkF m 6 #[.val (.int p1), .val (.int p2), .val (.int p3), .val (.ref b), .unset, .unset, .unset, .unset, .unset, .unset] [(.int (0 : Int32)), (.ref b)])) _
    refine XS.iloadN X2.here hx rfl (hb hby at_6) rfl ?_
    show Steps p.tables e below (T2.setTop (mkF m 7 #[.val (.int p1), .val (.int p2), .val (.int p3), .val (.ref b), .unset, .unset, .unset, .unset, .unset, .unset] [(.int p1), (.int (0 : Int32)), (.ref b)])) _
    refine XS.i2b X2.here hx rfl (hb hby at_7) rfl ?_
    exact kt
  refine own_go go3 ?_
  have Vo4 := V_b
  obtain ⟨cl4, Ar4, qk4, Sz4, Nz4, Hh4, Gf4⟩ := Vo4
  have hin4 : ¬ ((0 : Int32) < 0 ∨ cl4.slots.size ≤ ((0 : Int32)).toNatClampNeg) := inb_of Sz4 ⟨by decide, by decide⟩
  obtain ⟨T5, h5, X5, e5, W5, st5⟩ := stB X2 hx hZ e2 Ar4 (j := (0 : Int32)) hin4 (g := (mkF m 8 #[.val (.int p1), .val (.int p2), .val (.int p3), .val (.ref b), .unset, .unset, .unset, .unset, .unset, .unset] [(.int (p1.toInt8.toInt32)), (.int (0 : Int32)), (.ref b)])) rfl rfl (hb hby at_8)
  have V5_b : Arv Z h5 b k2 .byte (4 : Int32) [(.int (nar .byte (p1.toInt8.toInt32))), (.int (0 : Int32)), (.int (0 : Int32)), (.int (0 : Int32))] (.int (0 : Int32)) := Arv.set Ar4 qk4 Sz4 Nz4 Hh4 Gf4 (fits_nar_byte _) W5 0 rfl (Nat.le_of_ble_eq_true rfl)
  have N5 := Fr.snoc X5 N0 g_b
  refine own_go (S' := T5.setTop (mkF m 9 #[.val (.int p1), .val (.int p2), .val (.int p3), .val (.ref b), .unset, .unset, .unset, .unset, .unset, .unset] [])) st5 ?_
  have go6 : ∀ t, Steps p.tables e below (T5.setTop (mkF m 16 #[.val (.int p1), .val (.int p2), .val (.int p3), .val (.ref b), .unset, .unset, .unset, .unset, .unset, .unset] [(.int (((p1.toUInt32 >>> ((8 : Int32) &&& 31).toUInt32).toInt32).toInt8.toInt32)), (.int (1 : Int32)), (.ref b)])) t → Steps p.tables e below (T5.setTop (mkF m 9 #[.val (.int p1), .val (.int p2), .val (.int p3), .val (.ref b), .unset, .unset, .unset, .unset, .unset, .unset] [])) t := by
    intro t kt
    show Steps p.tables e below (T5.setTop (mkF m 9 #[.val (.int p1), .val (.int p2), .val (.int p3), .val (.ref b), .unset, .unset, .unset, .unset, .unset, .unset] [])) _
    refine XS.aloadN X5.here hx rfl (hb hby at_9) rfl rfl ?_
    show Steps p.tables e below (T5.setTop (mkF m 10 #[.val (.int p1), .val (.int p2), .val (.int p3), .val (.ref b), .unset, .unset, .unset, .unset, .unset, .unset] [(.ref b)])) _
    refine XS.iconst X5.here hx rfl (hb hby at_10) ?_
    show Steps p.tables e below (T5.setTop (mkF m 11 #[.val (.int p1), .val (.int p2), .val (.int p3), .val (.ref b), .unset, .unset, .unset, .unset, .unset, .unset] [(.int (1 : Int32)), (.ref b)])) _
    refine XS.iloadN X5.here hx rfl (hb hby at_11) rfl ?_
    show Steps p.tables e below (T5.setTop (mkF m 12 #[.val (.int p1), .val (.int p2), .val (.int p3), .val (.ref b), .unset, .unset, .unset, .unset, .unset, .unset] [(.int p1), (.int (1 : Int32)), (.ref b)])) _
    refine XS.bipush X5.here hx rfl (hb hby at_12) ?_
    show Steps p.tables e below (T5.setTop (mkF m 14 #[.val (.int p1), .val (.int p2), .val (.int p3), .val (.ref b), .unset, .unset, .unset, .unset, .unset, .unset] [(.int (8 : Int32)), (.int p1), (.int (1 : Int32)), (.ref b)])) _
    refine XS.iushr X5.here hx rfl (hb hby at_14) rfl ?_
    show Steps p.tables e below (T5.setTop (mkF m 15 #[.val (.int p1), .val (.int p2), .val (.int p3), .val (.ref b), .unset, .unset, .unset, .unset, .unset, .unset] [(.int ((p1.toUInt32 >>> ((8 : Int32) &&& 31).toUInt32).toInt32)), (.int (1 : Int32)), (.ref b)])) _
    refine XS.i2b X5.here hx rfl (hb hby at_15) rfl ?_
    exact kt
  refine own_go go6 ?_
  have Vo7 := V5_b
  obtain ⟨cl7, Ar7, qk7, Sz7, Nz7, Hh7, Gf7⟩ := Vo7
  have hin7 : ¬ ((1 : Int32) < 0 ∨ cl7.slots.size ≤ ((1 : Int32)).toNatClampNeg) := inb_of Sz7 ⟨by decide, by decide⟩
  obtain ⟨T8, h8, X8, e8, W8, st8⟩ := stB X5 hx hZ e5 Ar7 (j := (1 : Int32)) hin7 (g := (mkF m 16 #[.val (.int p1), .val (.int p2), .val (.int p3), .val (.ref b), .unset, .unset, .unset, .unset, .unset, .unset] [(.int (((p1.toUInt32 >>> ((8 : Int32) &&& 31).toUInt32).toInt32).toInt8.toInt32)), (.int (1 : Int32)), (.ref b)])) rfl rfl (hb hby at_16)
  have V8_b : Arv Z h8 b k2 .byte (4 : Int32) [(.int (nar .byte (p1.toInt8.toInt32))), (.int (nar .byte (((p1.toUInt32 >>> ((8 : Int32) &&& 31).toUInt32).toInt32).toInt8.toInt32))), (.int (0 : Int32)), (.int (0 : Int32))] (.int (0 : Int32)) := Arv.set Ar7 qk7 Sz7 Nz7 Hh7 Gf7 (fits_nar_byte _) W8 1 rfl (Nat.le_of_ble_eq_true rfl)
  have N8 := Fr.snoc X8 N5 g_b
  refine own_go (S' := T8.setTop (mkF m 17 #[.val (.int p1), .val (.int p2), .val (.int p3), .val (.ref b), .unset, .unset, .unset, .unset, .unset, .unset] [])) st8 ?_
  have go9 : ∀ t, Steps p.tables e below (T8.setTop (mkF m 24 #[.val (.int p1), .val (.int p2), .val (.int p3), .val (.ref b), .unset, .unset, .unset, .unset, .unset, .unset] [(.int (((p1.toUInt32 >>> ((16 : Int32) &&& 31).toUInt32).toInt32).toInt8.toInt32)), (.int (2 : Int32)), (.ref b)])) t → Steps p.tables e below (T8.setTop (mkF m 17 #[.val (.int p1), .val (.int p2), .val (.int p3), .val (.ref b), .unset, .unset, .unset, .unset, .unset, .unset] [])) t := by
    intro t kt
    show Steps p.tables e below (T8.setTop (mkF m 17 #[.val (.int p1), .val (.int p2), .val (.int p3), .val (.ref b), .unset, .unset, .unset, .unset, .unset, .unset] [])) _
    refine XS.aloadN X8.here hx rfl (hb hby at_17) rfl rfl ?_
    show Steps p.tables e below (T8.setTop (mkF m 18 #[.val (.int p1), .val (.int p2), .val (.int p3), .val (.ref b), .unset, .unset, .unset, .unset, .unset, .unset] [(.ref b)])) _
    refine XS.iconst X8.here hx rfl (hb hby at_18) ?_
    show Steps p.tables e below (T8.setTop (mkF m 19 #[.val (.int p1), .val (.int p2), .val (.int p3), .val (.ref b), .unset, .unset, .unset, .unset, .unset, .unset] [(.int (2 : Int32)), (.ref b)])) _
    refine XS.iloadN X8.here hx rfl (hb hby at_19) rfl ?_
    show Steps p.tables e below (T8.setTop (mkF m 20 #[.val (.int p1), .val (.int p2), .val (.int p3), .val (.ref b), .unset, .unset, .unset, .unset, .unset, .unset] [(.int p1), (.int (2 : Int32)), (.ref b)])) _
    refine XS.bipush X8.here hx rfl (hb hby at_20) ?_
    show Steps p.tables e below (T8.setTop (mkF m 22 #[.val (.int p1), .val (.int p2), .val (.int p3), .val (.ref b), .unset, .unset, .unset, .unset, .unset, .unset] [(.int (16 : Int32)), (.int p1), (.int (2 : Int32)), (.ref b)])) _
    refine XS.iushr X8.here hx rfl (hb hby at_22) rfl ?_
    show Steps p.tables e below (T8.setTop (mkF m 23 #[.val (.int p1), .val (.int p2), .val (.int p3), .val (.ref b), .unset, .unset, .unset, .unset, .unset, .unset] [(.int ((p1.toUInt32 >>> ((16 : Int32) &&& 31).toUInt32).toInt32)), (.int (2 : Int32)), (.ref b)])) _
    refine XS.i2b X8.here hx rfl (hb hby at_23) rfl ?_
    exact kt
  refine own_go go9 ?_
  have Vo10 := V8_b
  obtain ⟨cl10, Ar10, qk10, Sz10, Nz10, Hh10, Gf10⟩ := Vo10
  have hin10 : ¬ ((2 : Int32) < 0 ∨ cl10.slots.size ≤ ((2 : Int32)).toNatClampNeg) := inb_of Sz10 ⟨by decide, by decide⟩
  obtain ⟨T11, h11, X11, e11, W11, st11⟩ := stB X8 hx hZ e8 Ar10 (j := (2 : Int32)) hin10 (g := (mkF m 24 #[.val (.int p1), .val (.int p2), .val (.int p3), .val (.ref b), .unset, .unset, .unset, .unset, .unset, .unset] [(.int (((p1.toUInt32 >>> ((16 : Int32) &&& 31).toUInt32).toInt32).toInt8.toInt32)), (.int (2 : Int32)), (.ref b)])) rfl rfl (hb hby at_24)
  have V11_b : Arv Z h11 b k2 .byte (4 : Int32) [(.int (nar .byte (p1.toInt8.toInt32))), (.int (nar .byte (((p1.toUInt32 >>> ((8 : Int32) &&& 31).toUInt32).toInt32).toInt8.toInt32))), (.int (nar .byte (((p1.toUInt32 >>> ((16 : Int32) &&& 31).toUInt32).toInt32).toInt8.toInt32))), (.int (0 : Int32))] (.int (0 : Int32)) := Arv.set Ar10 qk10 Sz10 Nz10 Hh10 Gf10 (fits_nar_byte _) W11 2 rfl (Nat.le_of_ble_eq_true rfl)
  have N11 := Fr.snoc X11 N8 g_b
  refine own_go (S' := T11.setTop (mkF m 25 #[.val (.int p1), .val (.int p2), .val (.int p3), .val (.ref b), .unset, .unset, .unset, .unset, .unset, .unset] [])) st11 ?_
  have go12 : ∀ t, Steps p.tables e below (T11.setTop (mkF m 32 #[.val (.int p1), .val (.int p2), .val (.int p3), .val (.ref b), .unset, .unset, .unset, .unset, .unset, .unset] [(.int (((p1.toUInt32 >>> ((24 : Int32) &&& 31).toUInt32).toInt32).toInt8.toInt32)), (.int (3 : Int32)), (.ref b)])) t → Steps p.tables e below (T11.setTop (mkF m 25 #[.val (.int p1), .val (.int p2), .val (.int p3), .val (.ref b), .unset, .unset, .unset, .unset, .unset, .unset] [])) t := by
    intro t kt
    show Steps p.tables e below (T11.setTop (mkF m 25 #[.val (.int p1), .val (.int p2), .val (.int p3), .val (.ref b), .unset, .unset, .unset, .unset, .unset, .unset] [])) _
    refine XS.aloadN X11.here hx rfl (hb hby at_25) rfl rfl ?_
    show Steps p.tables e below (T11.setTop (mkF m 26 #[.val (.int p1), .val (.int p2), .val (.int p3), .val (.ref b), .unset, .unset, .unset, .unset, .unset, .unset] [(.ref b)])) _
    refine XS.iconst X11.here hx rfl (hb hby at_26) ?_
    show Steps p.tables e below (T11.setTop (mkF m 27 #[.val (.int p1), .val (.int p2), .val (.int p3), .val (.ref b), .unset, .unset, .unset, .unset, .unset, .unset] [(.int (3 : Int32)), (.ref b)])) _
    refine XS.iloadN X11.here hx rfl (hb hby at_27) rfl ?_
    show Steps p.tables e below (T11.setTop (mkF m 28 #[.val (.int p1), .val (.int p2), .val (.int p3), .val (.ref b), .unset, .unset, .unset, .unset, .unset, .unset] [(.int p1), (.int (3 : Int32)), (.ref b)])) _
    refine XS.bipush X11.here hx rfl (hb hby at_28) ?_
    show Steps p.tables e below (T11.setTop (mkF m 30 #[.val (.int p1), .val (.int p2), .val (.int p3), .val (.ref b), .unset, .unset, .unset, .unset, .unset, .unset] [(.int (24 : Int32)), (.int p1), (.int (3 : Int32)), (.ref b)])) _
    refine XS.iushr X11.here hx rfl (hb hby at_30) rfl ?_
    show Steps p.tables e below (T11.setTop (mkF m 31 #[.val (.int p1), .val (.int p2), .val (.int p3), .val (.ref b), .unset, .unset, .unset, .unset, .unset, .unset] [(.int ((p1.toUInt32 >>> ((24 : Int32) &&& 31).toUInt32).toInt32)), (.int (3 : Int32)), (.ref b)])) _
    refine XS.i2b X11.here hx rfl (hb hby at_31) rfl ?_
    exact kt
  refine own_go go12 ?_
  have Vo13 := V11_b
  obtain ⟨cl13, Ar13, qk13, Sz13, Nz13, Hh13, Gf13⟩ := Vo13
  have hin13 : ¬ ((3 : Int32) < 0 ∨ cl13.slots.size ≤ ((3 : Int32)).toNatClampNeg) := inb_of Sz13 ⟨by decide, by decide⟩
  obtain ⟨T14, h14, X14, e14, W14, st14⟩ := stB X11 hx hZ e11 Ar13 (j := (3 : Int32)) hin13 (g := (mkF m 32 #[.val (.int p1), .val (.int p2), .val (.int p3), .val (.ref b), .unset, .unset, .unset, .unset, .unset, .unset] [(.int (((p1.toUInt32 >>> ((24 : Int32) &&& 31).toUInt32).toInt32).toInt8.toInt32)), (.int (3 : Int32)), (.ref b)])) rfl rfl (hb hby at_32)
  have V14_b : Arv Z h14 b k2 .byte (4 : Int32) (own_vs p1) (.int (0 : Int32)) := Arv.set Ar13 qk13 Sz13 Nz13 Hh13 Gf13 (fits_nar_byte _) W14 3 rfl (Nat.le_of_ble_eq_true rfl)
  have N14 := Fr.snoc X14 N11 g_b
  refine own_go (S' := T14.setTop (mkF m 33 #[.val (.int p1), .val (.int p2), .val (.int p3), .val (.ref b), .unset, .unset, .unset, .unset, .unset, .unset] [])) st14 ?_
  obtain ⟨sa, hsa, go15⟩ : ∃ sa : Int32, (0 ≤ sa.toInt ∧ sa.toInt < 4) ∧ ∀ t, Steps p.tables e below (T14.setTop (mkF m 38 #[.val (.int p1), .val (.int p2), .val (.int p3), .val (.ref b), .val (.int sa), .unset, .unset, .unset, .unset, .unset] [])) t → Steps p.tables e below (T14.setTop (mkF m 33 #[.val (.int p1), .val (.int p2), .val (.int p3), .val (.ref b), .unset, .unset, .unset, .unset, .unset, .unset] [])) t := by
    have go16 : ∀ t, Steps p.tables e below (T14.setTop (mkF m 38 #[.val (.int p1), .val (.int p2), .val (.int p3), .val (.ref b), .val (.int (p2 &&& (3 : Int32))), .unset, .unset, .unset, .unset, .unset] [])) t → Steps p.tables e below (T14.setTop (mkF m 33 #[.val (.int p1), .val (.int p2), .val (.int p3), .val (.ref b), .unset, .unset, .unset, .unset, .unset, .unset] [])) t := by
      intro t kt
      show Steps p.tables e below (T14.setTop (mkF m 33 #[.val (.int p1), .val (.int p2), .val (.int p3), .val (.ref b), .unset, .unset, .unset, .unset, .unset, .unset] [])) _
      refine XS.iloadN X14.here hx rfl (hb hby at_33) rfl ?_
      show Steps p.tables e below (T14.setTop (mkF m 34 #[.val (.int p1), .val (.int p2), .val (.int p3), .val (.ref b), .unset, .unset, .unset, .unset, .unset, .unset] [(.int p2)])) _
      refine XS.iconst X14.here hx rfl (hb hby at_34) ?_
      show Steps p.tables e below (T14.setTop (mkF m 35 #[.val (.int p1), .val (.int p2), .val (.int p3), .val (.ref b), .unset, .unset, .unset, .unset, .unset, .unset] [(.int (3 : Int32)), (.int p2)])) _
      refine XS.iand X14.here hx rfl (hb hby at_35) rfl ?_
      show Steps p.tables e below (T14.setTop (mkF m 36 #[.val (.int p1), .val (.int p2), .val (.int p3), .val (.ref b), .unset, .unset, .unset, .unset, .unset, .unset] [(.int (p2 &&& (3 : Int32)))])) _
      refine XS.istore X14.here hx rfl (hb hby at_36) rfl (l' := #[.val (.int p1), .val (.int p2), .val (.int p3), .val (.ref b), .val (.int (p2 &&& (3 : Int32))), .unset, .unset, .unset, .unset, .unset]) rfl ?_
      exact kt
    exact ⟨(p2 &&& (3 : Int32)), own_sa p2, fun t kt => (go16 t kt)⟩
  refine own_go go15 ?_
  obtain ⟨li, hli, go17⟩ : ∃ li : Int32, (sa.toInt ≤ li.toInt ∧ li.toInt ≤ 4) ∧ ∀ t, Steps p.tables e below (T14.setTop (mkF m 52 #[.val (.int p1), .val (.int p2), .val (.int p3), .val (.ref b), .val (.int sa), .val (.int li), .unset, .unset, .unset, .unset] [])) t → Steps p.tables e below (T14.setTop (mkF m 38 #[.val (.int p1), .val (.int p2), .val (.int p3), .val (.ref b), .val (.int sa), .unset, .unset, .unset, .unset, .unset] [])) t := by
    have go18 : ∀ t, Steps p.tables e below (T14.setTop (mkF m 52 #[.val (.int p1), .val (.int p2), .val (.int p3), .val (.ref b), .val (.int sa), .val (.int (sa + ((p3 &&& (2147483647 : Int32)) % ((5 : Int32) - sa)))), .unset, .unset, .unset, .unset] [])) t → Steps p.tables e below (T14.setTop (mkF m 38 #[.val (.int p1), .val (.int p2), .val (.int p3), .val (.ref b), .val (.int sa), .unset, .unset, .unset, .unset, .unset] [])) t := by
      intro t kt
      show Steps p.tables e below (T14.setTop (mkF m 38 #[.val (.int p1), .val (.int p2), .val (.int p3), .val (.ref b), .val (.int sa), .unset, .unset, .unset, .unset, .unset] [])) _
      refine XS.iload X14.here hx rfl (hb hby at_38) rfl ?_
      show Steps p.tables e below (T14.setTop (mkF m 40 #[.val (.int p1), .val (.int p2), .val (.int p3), .val (.ref b), .val (.int sa), .unset, .unset, .unset, .unset, .unset] [(.int sa)])) _
      refine XS.iloadN X14.here hx rfl (hb hby at_40) rfl ?_
      show Steps p.tables e below (T14.setTop (mkF m 41 #[.val (.int p1), .val (.int p2), .val (.int p3), .val (.ref b), .val (.int sa), .unset, .unset, .unset, .unset, .unset] [(.int p3), (.int sa)])) _
      refine X14.ldcInt hx hown (mvT hZ (hw _ (List.mem_of_getElem? (i := 1) rfl))) (g := (mkF m 41 #[.val (.int p1), .val (.int p2), .val (.int p3), .val (.ref b), .val (.int sa), .unset, .unset, .unset, .unset, .unset] [(.int p3), (.int sa)])) rfl (hb hby at_41) _ ?_
      show Steps p.tables e below (T14.setTop (mkF m 43 #[.val (.int p1), .val (.int p2), .val (.int p3), .val (.ref b), .val (.int sa), .unset, .unset, .unset, .unset, .unset] [(.int (2147483647 : Int32)), (.int p3), (.int sa)])) _
      refine XS.iand X14.here hx rfl (hb hby at_43) rfl ?_
      show Steps p.tables e below (T14.setTop (mkF m 44 #[.val (.int p1), .val (.int p2), .val (.int p3), .val (.ref b), .val (.int sa), .unset, .unset, .unset, .unset, .unset] [(.int (p3 &&& (2147483647 : Int32))), (.int sa)])) _
      refine XS.iconst X14.here hx rfl (hb hby at_44) ?_
      show Steps p.tables e below (T14.setTop (mkF m 45 #[.val (.int p1), .val (.int p2), .val (.int p3), .val (.ref b), .val (.int sa), .unset, .unset, .unset, .unset, .unset] [(.int (5 : Int32)), (.int (p3 &&& (2147483647 : Int32))), (.int sa)])) _
      refine XS.iload X14.here hx rfl (hb hby at_45) rfl ?_
      show Steps p.tables e below (T14.setTop (mkF m 47 #[.val (.int p1), .val (.int p2), .val (.int p3), .val (.ref b), .val (.int sa), .unset, .unset, .unset, .unset, .unset] [(.int sa), (.int (5 : Int32)), (.int (p3 &&& (2147483647 : Int32))), (.int sa)])) _
      refine XS.isub X14.here hx rfl (hb hby at_47) rfl ?_
      show Steps p.tables e below (T14.setTop (mkF m 48 #[.val (.int p1), .val (.int p2), .val (.int p3), .val (.ref b), .val (.int sa), .unset, .unset, .unset, .unset, .unset] [(.int ((5 : Int32) - sa)), (.int (p3 &&& (2147483647 : Int32))), (.int sa)])) _
      refine iremM X14 hx rfl (hb hby at_48) rfl (own_nz sa hsa) ?_
      show Steps p.tables e below (T14.setTop (mkF m 49 #[.val (.int p1), .val (.int p2), .val (.int p3), .val (.ref b), .val (.int sa), .unset, .unset, .unset, .unset, .unset] [(.int ((p3 &&& (2147483647 : Int32)) % ((5 : Int32) - sa))), (.int sa)])) _
      refine XS.iadd X14.here hx rfl (hb hby at_49) rfl ?_
      show Steps p.tables e below (T14.setTop (mkF m 50 #[.val (.int p1), .val (.int p2), .val (.int p3), .val (.ref b), .val (.int sa), .unset, .unset, .unset, .unset, .unset] [(.int (sa + ((p3 &&& (2147483647 : Int32)) % ((5 : Int32) - sa))))])) _
      refine XS.istore X14.here hx rfl (hb hby at_50) rfl (l' := #[.val (.int p1), .val (.int p2), .val (.int p3), .val (.ref b), .val (.int sa), .val (.int (sa + ((p3 &&& (2147483647 : Int32)) % ((5 : Int32) - sa)))), .unset, .unset, .unset, .unset]) rfl ?_
      exact kt
    exact ⟨(sa + ((p3 &&& (2147483647 : Int32)) % ((5 : Int32) - sa))), own_li sa p3 hsa, fun t kt => (go18 t kt)⟩
  refine own_go go17 ?_
  obtain ⟨T19, h19, X19, e19, E19, A19, D19, -, st19⟩ := newO X14 hx hZ hown (hw _ (List.mem_of_getElem? (i := 2) rfl)) (hw _ (List.mem_of_getElem? (i := 3) rfl)) (hw _ (List.mem_of_getElem? (i := 4) rfl)) e14 (g := (mkF m 52 #[.val (.int p1), .val (.int p2), .val (.int p3), .val (.ref b), .val (.int sa), .val (.int li), .unset, .unset, .unset, .unset] [])) rfl (hb hby at_52) (by decide) (by decide)
  obtain ⟨r, g19⟩ : ∃ z, z = h14.size := ⟨_, rfl⟩
  rw [← g19] at A19 D19 st19
  have g_r : n0 ≤ r := Nat.le_trans (Nat.le_trans (Nat.le_trans (Nat.le_trans (Nat.le_trans (Nat.le_trans Z0 E2.1) (Keep.of_wr W5).1) (Keep.of_wr W8).1) (Keep.of_wr W11).1) (Keep.of_wr W14).1) (Nat.le_of_eq g19.symm)
  have ne_b_r : b ≠ r := Nat.ne_of_lt (Nat.lt_of_lt_of_le V14_b.lt (Nat.le_of_eq g19.symm))
  have V19_b : Arv Z h19 b k2 .byte (4 : Int32) (own_vs p1) (.int (0 : Int32)) := V14_b.ext E19
  have F19_r_bytes : Fld Z h19 r "com/example/hilera/hilera/ByteReader" "bytes" "[B" .null := D19 (Or.inr (hw _ (List.mem_of_getElem? (i := 12) rfl))) (ty := (.array .byte)) (by decide)
  have F19_r_start : Fld Z h19 r "com/example/hilera/hilera/ByteReader" "start" "I" (.int (0 : Int32)) := D19 (Or.inr (hw _ (List.mem_of_getElem? (i := 14) rfl))) (ty := .int) (by decide)
  have F19_r_limit : Fld Z h19 r "com/example/hilera/hilera/ByteReader" "limit" "I" (.int (0 : Int32)) := D19 (Or.inr (hw _ (List.mem_of_getElem? (i := 16) rfl))) (ty := .int) (by decide)
  have F19_r_position : Fld Z h19 r "com/example/hilera/hilera/ByteReader" "position" "I" (.int (0 : Int32)) := D19 (Or.inl (hw _ (List.mem_of_getElem? (i := 18) rfl))) (ty := .int) (by decide)
  refine own_go (S' := T19.setTop (mkF m 55 #[.val (.int p1), .val (.int p2), .val (.int p3), .val (.ref b), .val (.int sa), .val (.int li), .unset, .unset, .unset, .unset] [(.ref r)])) st19 ?_
  have go20 : ∀ t, Steps p.tables e below (T19.setTop (mkF m 61 #[.val (.int p1), .val (.int p2), .val (.int p3), .val (.ref b), .val (.int sa), .val (.int li), .unset, .unset, .unset, .unset] [(.int li), (.int sa), (.ref b), (.ref r), (.ref r)])) t → Steps p.tables e below (T19.setTop (mkF m 55 #[.val (.int p1), .val (.int p2), .val (.int p3), .val (.ref b), .val (.int sa), .val (.int li), .unset, .unset, .unset, .unset] [(.ref r)])) t := by
    intro t kt
    show Steps p.tables e below (T19.setTop (mkF m 55 #[.val (.int p1), .val (.int p2), .val (.int p3), .val (.ref b), .val (.int sa), .val (.int li), .unset, .unset, .unset, .unset] [(.ref r)])) _
    refine XS.dup X19.here hx rfl (hb hby at_55) rfl rfl ?_
    show Steps p.tables e below (T19.setTop (mkF m 56 #[.val (.int p1), .val (.int p2), .val (.int p3), .val (.ref b), .val (.int sa), .val (.int li), .unset, .unset, .unset, .unset] [(.ref r), (.ref r)])) _
    refine XS.aloadN X19.here hx rfl (hb hby at_56) rfl rfl ?_
    show Steps p.tables e below (T19.setTop (mkF m 57 #[.val (.int p1), .val (.int p2), .val (.int p3), .val (.ref b), .val (.int sa), .val (.int li), .unset, .unset, .unset, .unset] [(.ref b), (.ref r), (.ref r)])) _
    refine XS.iload X19.here hx rfl (hb hby at_57) rfl ?_
    show Steps p.tables e below (T19.setTop (mkF m 59 #[.val (.int p1), .val (.int p2), .val (.int p3), .val (.ref b), .val (.int sa), .val (.int li), .unset, .unset, .unset, .unset] [(.int sa), (.ref b), (.ref r), (.ref r)])) _
    refine XS.iload X19.here hx rfl (hb hby at_59) rfl ?_
    exact kt
  refine own_go go20 ?_
  obtain ⟨_, _, ⟨T21, L21, k21, n21⟩, -, X21, ⟨Lc21, hQ21, l21, y21, z21⟩, st21⟩ := X19.specialBack hx (y := (⟨"com/example/hilera/hilera/ByteReader", "<init>", "([BII)V"⟩ : MethodName)) rfl hown (mvT hZ (hw _ (List.mem_of_getElem? (i := 5) rfl))) (mvT hZ (hw _ (List.mem_of_getElem? (i := 6) rfl))) (mvT hZ (hw _ (List.mem_of_getElem? (i := 7) rfl))) (by decide) (backOf (W := 1) (rm1 l Z a0 hw [] r b sa li h19 n0 (Nat.le_trans (Nat.le_trans (Nat.le_trans (Nat.le_trans (Nat.le_trans (Nat.le_trans Z0 E2.1) (Keep.of_wr W5).1) (Keep.of_wr W8).1) (Keep.of_wr W11).1) (Keep.of_wr W14).1) E19.1) A19 F19_r_bytes F19_r_start F19_r_limit F19_r_position g_r) hZ (hw _ (List.mem_of_getElem? (i := 7) rfl)) (hw _ (List.mem_of_getElem? (i := 4) rfl)) (by decide) (by decide)) (g := (mkF m 61 #[.val (.int p1), .val (.int p2), .val (.int p3), .val (.ref b), .val (.int sa), .val (.int li), .unset, .unset, .unset, .unset] [(.int li), (.int sa), (.ref b), (.ref r), (.ref r)])) rfl (by rw [hml]; rfl) (Steps.refl _) (a := r) (argsL := [(.ref b), (.int sa), (.int li)]) (rest := [(.ref r)]) (lenOf pd_0 rfl) rfl (by show 2 * 0 + _ ≤ _; exact Nat.le_of_eq rfl) (hb hby at_61) (fun _ _ => ⟨rfl, e19, (by decide : 2 + 0 ≤ _), (by decide : 8 + 0 ≤ _)⟩)
  dsimp only [Pt.U, Pt.locs, Pt.cells, Pt.slots] at X21 l21 y21 z21 st21 hQ21
  subst l21 y21 z21
  obtain ⟨rfl, N21q, Kc, Ec, Fbc, Flc, Fpc⟩ := hQ21
  have N21 := Fr.app N14 N21q
  refine own_go (S' := T21.setTop (mkF m 64 #[.val (.int p1), .val (.int p2), .val (.int p3), .val (.ref b), .val (.int sa), .val (.int li), .unset, .unset, .unset, .unset] [(.ref r)])) (fun t k => st21.trans k) ?_
  have Vc := V19_b.keep Kc (ninS ne_b_r nin0)
  have go22 : ∀ t, Steps p.tables e below (T21.setTop (mkF m 73 #[.val (.int p1), .val (.int p2), .val (.int p3), .val (.ref b), .val (.int sa), .val (.int li), .val (.ref r), .val (.int (1 : Int32)), .val (.int sa), .unset] [])) t → Steps p.tables e below (T21.setTop (mkF m 64 #[.val (.int p1), .val (.int p2), .val (.int p3), .val (.ref b), .val (.int sa), .val (.int li), .unset, .unset, .unset, .unset] [(.ref r)])) t := by
    intro t kt
    show Steps p.tables e below (T21.setTop (mkF m 64 #[.val (.int p1), .val (.int p2), .val (.int p3), .val (.ref b), .val (.int sa), .val (.int li), .unset, .unset, .unset, .unset] [(.ref r)])) _
    refine XS.astore X21.here hx rfl (hb hby at_64) rfl rfl (l' := #[.val (.int p1), .val (.int p2), .val (.int p3), .val (.ref b), .val (.int sa), .val (.int li), .val (.ref r), .unset, .unset, .unset]) rfl ?_
    show Steps p.tables e below (T21.setTop (mkF m 66 #[.val (.int p1), .val (.int p2), .val (.int p3), .val (.ref b), .val (.int sa), .val (.int li), .val (.ref r), .unset, .unset, .unset] [])) _
    refine XS.iconst X21.here hx rfl (hb hby at_66) ?_
    show Steps p.tables e below (T21.setTop (mkF m 67 #[.val (.int p1), .val (.int p2), .val (.int p3), .val (.ref b), .val (.int sa), .val (.int li), .val (.ref r), .unset, .unset, .unset] [(.int (1 : Int32))])) _
    refine XS.istore X21.here hx rfl (hb hby at_67) rfl (l' := #[.val (.int p1), .val (.int p2), .val (.int p3), .val (.ref b), .val (.int sa), .val (.int li), .val (.ref r), .val (.int (1 : Int32)), .unset, .unset]) rfl ?_
    show Steps p.tables e below (T21.setTop (mkF m 69 #[.val (.int p1), .val (.int p2), .val (.int p3), .val (.ref b), .val (.int sa), .val (.int li), .val (.ref r), .val (.int (1 : Int32)), .unset, .unset] [])) _
    refine XS.iload X21.here hx rfl (hb hby at_69) rfl ?_
    show Steps p.tables e below (T21.setTop (mkF m 71 #[.val (.int p1), .val (.int p2), .val (.int p3), .val (.ref b), .val (.int sa), .val (.int li), .val (.ref r), .val (.int (1 : Int32)), .unset, .unset] [(.int sa)])) _
    refine XS.istore X21.here hx rfl (hb hby at_71) rfl (l' := #[.val (.int p1), .val (.int p2), .val (.int p3), .val (.ref b), .val (.int sa), .val (.int li), .val (.ref r), .val (.int (1 : Int32)), .val (.int sa), .unset]) rfl ?_
    exact kt
  refine own_go go22 ?_
  have t0 : sa.toInt = sa.toInt + 0 := by omega
  have go23 : ∀ t, Steps p.tables e below (T21.setTop (mkF m 77 #[.val (.int p1), .val (.int p2), .val (.int p3), .val (.ref b), .val (.int sa), .val (.int li), .val (.ref r), .val (.int (1 : Int32)), .val (.int sa), .unset] [(.int li), (.int sa)])) t → Steps p.tables e below (T21.setTop (mkF m 73 #[.val (.int p1), .val (.int p2), .val (.int p3), .val (.ref b), .val (.int sa), .val (.int li), .val (.ref r), .val (.int (1 : Int32)), .val (.int sa), .unset] [])) t := by
    intro t kt
    show Steps p.tables e below (T21.setTop (mkF m 73 #[.val (.int p1), .val (.int p2), .val (.int p3), .val (.ref b), .val (.int sa), .val (.int li), .val (.ref r), .val (.int (1 : Int32)), .val (.int sa), .unset] [])) _
    refine XS.iload X21.here hx rfl (hb hby at_73) rfl ?_
    show Steps p.tables e below (T21.setTop (mkF m 75 #[.val (.int p1), .val (.int p2), .val (.int p3), .val (.ref b), .val (.int sa), .val (.int li), .val (.ref r), .val (.int (1 : Int32)), .val (.int sa), .unset] [(.int sa)])) _
    refine XS.iload X21.here hx rfl (hb hby at_75) rfl ?_
    exact kt
  refine own_go go23 ?_
  rcases Classical.em (sa < li) with hc77 | hc77
  · have go24 : ∀ t, Steps p.tables e below (T21.setTop (mkF m 82 #[.val (.int p1), .val (.int p2), .val (.int p3), .val (.ref b), .val (.int sa), .val (.int li), .val (.ref r), .val (.int (1 : Int32)), .val (.int sa), .unset] [(.ref r)])) t → Steps p.tables e below (T21.setTop (mkF m 77 #[.val (.int p1), .val (.int p2), .val (.int p3), .val (.ref b), .val (.int sa), .val (.int li), .val (.ref r), .val (.int (1 : Int32)), .val (.int sa), .unset] [(.int li), (.int sa)])) t := by
      intro t kt
      show Steps p.tables e below (T21.setTop (mkF m 77 #[.val (.int p1), .val (.int p2), .val (.int p3), .val (.ref b), .val (.int sa), .val (.int li), .val (.ref r), .val (.int (1 : Int32)), .val (.int sa), .unset] [(.int li), (.int sa)])) _
      refine XS.icmpNo X21.here hx rfl (hb hby at_77) rfl (tlt hc77).2.1 ?_
      show Steps p.tables e below (T21.setTop (mkF m 80 #[.val (.int p1), .val (.int p2), .val (.int p3), .val (.ref b), .val (.int sa), .val (.int li), .val (.ref r), .val (.int (1 : Int32)), .val (.int sa), .unset] [])) _
      refine XS.aload X21.here hx rfl (hb hby at_80) rfl rfl ?_
      exact kt
    refine own_go go24 ?_
    have u0 : (sa).toInt < li.toInt := Int32.lt_iff_toInt_lt.mp hc77
    have v0 : ¬ sa < 0 ∧ sa < (4 : Int32) := own_hp _ (by omega) (by omega)
    have t1 : ((sa + (1 : Int32))).toInt = sa.toInt + 1 := (own_inc _ (by omega) (by omega)).trans (by omega)
    obtain ⟨cq25, kq25, q25a, q25b, q25c⟩ := isOf hZ rfl Ec
    obtain ⟨_, _, ⟨T25, L25, k25, n25⟩, -, X25, ⟨Lc25, hQ25, l25, y25, z25⟩, st25⟩ := X21.virtualBack hx (y := (⟨"com/example/hilera/hilera/ByteReader", "read", "()I"⟩ : MethodName)) (z := (⟨"com/example/hilera/hilera/ByteReader", "read", "()I"⟩ : MethodName)) hown (mvT hZ (hw _ (List.mem_of_getElem? (i := 29) rfl))) (mvT hZ (hw _ (List.mem_of_getElem? (i := 30) rfl))) (notFace_of_selects (args := #[]) (mvT hZ (hw _ (List.mem_of_getElem? (i := 32) rfl)))) (mvT hZ (hw _ (List.mem_of_getElem? (i := 32) rfl))) (mvT hZ (hw _ (List.mem_of_getElem? (i := 31) rfl))) (by decide) (backOf (W := 0) (rm5 l Z a0 hw [] r b k2 (own_vs p1) li sa (own_by p1 sa) T21.heap n0 (Nat.le_trans (Nat.le_trans (Nat.le_trans (Nat.le_trans (Nat.le_trans (Nat.le_trans (Nat.le_trans Z0 E2.1) (Keep.of_wr W5).1) (Keep.of_wr W8).1) (Keep.of_wr W11).1) (Keep.of_wr W14).1) E19.1) Kc.1) Ec Fbc Flc Fpc Vc ne_b_r g_r (own_ne _ _ u0) v0 (own_val p1 _ v0)) hZ (hw _ (List.mem_of_getElem? (i := 33) rfl)) (hw _ (List.mem_of_getElem? (i := 4) rfl)) (by decide) (by decide)) q25a q25c (g := (mkF m 82 #[.val (.int p1), .val (.int p2), .val (.int p3), .val (.ref b), .val (.int sa), .val (.int li), .val (.ref r), .val (.int (1 : Int32)), .val (.int sa), .unset] [(.ref r)])) rfl (by rw [hml]; rfl) (Steps.refl _) (argsL := []) (rest := []) (lenOf pd_1 rfl) rfl (by show 2 * 0 + _ ≤ _; exact Nat.le_of_eq rfl) (hb hby at_82) (fun _ _ => ⟨rfl, rfl, (by decide : 2 + 0 ≤ _), (by decide : 8 + 0 ≤ _)⟩)
    dsimp only [Pt.U, Pt.locs, Pt.cells, Pt.slots] at X25 l25 y25 z25 st25 hQ25
    subst l25 y25 z25
    obtain ⟨rfl, N25q, K0r, E0r, Fb0r, Fl0r, Fp0r⟩ := hQ25
    have N25 := Fr.app N21 N25q
    refine own_go (S' := T25.setTop (mkF m 85 #[.val (.int p1), .val (.int p2), .val (.int p3), .val (.ref b), .val (.int sa), .val (.int li), .val (.ref r), .val (.int (1 : Int32)), .val (.int sa), .unset] [(.int ((own_by p1 sa) &&& (255 : Int32)))])) (fun t k => st25.trans k) ?_
    have V0r := Vc.keep K0r (ninS ne_b_r nin0)
    have go26 : ∀ t, Steps p.tables e below (T25.setTop (mkF m 94 #[.val (.int p1), .val (.int p2), .val (.int p3), .val (.ref b), .val (.int sa), .val (.int li), .val (.ref r), .val (.int (1 : Int32)), .val (.int sa), .val (.int ((own_by p1 sa) &&& (255 : Int32)))] [(.int sa), (.int p1), (.int ((own_by p1 sa) &&& (255 : Int32))), (.int (1 : Int32))])) t → Steps p.tables e below (T25.setTop (mkF m 85 #[.val (.int p1), .val (.int p2), .val (.int p3), .val (.ref b), .val (.int sa), .val (.int li), .val (.ref r), .val (.int (1 : Int32)), .val (.int sa), .unset] [(.int ((own_by p1 sa) &&& (255 : Int32)))])) t := by
      intro t kt
      show Steps p.tables e below (T25.setTop (mkF m 85 #[.val (.int p1), .val (.int p2), .val (.int p3), .val (.ref b), .val (.int sa), .val (.int li), .val (.ref r), .val (.int (1 : Int32)), .val (.int sa), .unset] [(.int ((own_by p1 sa) &&& (255 : Int32)))])) _
      refine XS.istore X25.here hx rfl (hb hby at_85) rfl (l' := #[.val (.int p1), .val (.int p2), .val (.int p3), .val (.ref b), .val (.int sa), .val (.int li), .val (.ref r), .val (.int (1 : Int32)), .val (.int sa), .val (.int ((own_by p1 sa) &&& (255 : Int32)))]) rfl ?_
      show Steps p.tables e below (T25.setTop (mkF m 87 #[.val (.int p1), .val (.int p2), .val (.int p3), .val (.ref b), .val (.int sa), .val (.int li), .val (.ref r), .val (.int (1 : Int32)), .val (.int sa), .val (.int ((own_by p1 sa) &&& (255 : Int32)))] [])) _
      refine XS.iload X25.here hx rfl (hb hby at_87) rfl ?_
      show Steps p.tables e below (T25.setTop (mkF m 89 #[.val (.int p1), .val (.int p2), .val (.int p3), .val (.ref b), .val (.int sa), .val (.int li), .val (.ref r), .val (.int (1 : Int32)), .val (.int sa), .val (.int ((own_by p1 sa) &&& (255 : Int32)))] [(.int (1 : Int32))])) _
      refine XS.iload X25.here hx rfl (hb hby at_89) rfl ?_
      show Steps p.tables e below (T25.setTop (mkF m 91 #[.val (.int p1), .val (.int p2), .val (.int p3), .val (.ref b), .val (.int sa), .val (.int li), .val (.ref r), .val (.int (1 : Int32)), .val (.int sa), .val (.int ((own_by p1 sa) &&& (255 : Int32)))] [(.int ((own_by p1 sa) &&& (255 : Int32))), (.int (1 : Int32))])) _
      refine XS.iloadN X25.here hx rfl (hb hby at_91) rfl ?_
      show Steps p.tables e below (T25.setTop (mkF m 92 #[.val (.int p1), .val (.int p2), .val (.int p3), .val (.ref b), .val (.int sa), .val (.int li), .val (.ref r), .val (.int (1 : Int32)), .val (.int sa), .val (.int ((own_by p1 sa) &&& (255 : Int32)))] [(.int p1), (.int ((own_by p1 sa) &&& (255 : Int32))), (.int (1 : Int32))])) _
      refine XS.iload X25.here hx rfl (hb hby at_92) rfl ?_
      exact kt
    refine own_go go26 ?_
    obtain ⟨_, _, ⟨T27, L27, k27, n27⟩, -, X27, ⟨Lc27, hQ27, l27, y27, z27⟩, st27⟩ := Jvm.LawKit.callS X25 hx (y := (⟨"com/example/hilera/hilera/ByteReaderReadPinLaw", "expected", "(II)I"⟩ : MethodName)) hown (mvT hZ (hw _ (List.mem_of_getElem? (i := 34) rfl))) (mvT hZ (hw _ (List.mem_of_getElem? (i := 35) rfl))) (mvT hZ (hw _ (List.mem_of_getElem? (i := 36) rfl))) (mvT hZ (hw _ (List.mem_of_getElem? (i := 37) rfl))) (by decide) (backOf (W := 2) (rm6 l Z a0 hw [] p1 sa T25.heap n0 (Nat.le_trans (Nat.le_trans (Nat.le_trans (Nat.le_trans (Nat.le_trans (Nat.le_trans (Nat.le_trans (Nat.le_trans Z0 E2.1) (Keep.of_wr W5).1) (Keep.of_wr W8).1) (Keep.of_wr W11).1) (Keep.of_wr W14).1) E19.1) Kc.1) K0r.1)) hZ (hw _ (List.mem_of_getElem? (i := 37) rfl)) (hw _ (List.mem_of_getElem? (i := 36) rfl)) (by decide) (by decide)) (g := (mkF m 94 #[.val (.int p1), .val (.int p2), .val (.int p3), .val (.ref b), .val (.int sa), .val (.int li), .val (.ref r), .val (.int (1 : Int32)), .val (.int sa), .val (.int ((own_by p1 sa) &&& (255 : Int32)))] [(.int sa), (.int p1), (.int ((own_by p1 sa) &&& (255 : Int32))), (.int (1 : Int32))])) rfl (by rw [hml]; rfl) (argsL := [(.int p1), (.int sa)]) (rest := [(.int ((own_by p1 sa) &&& (255 : Int32))), (.int (1 : Int32))]) (lenOf pd_2 rfl) rfl (by show 2 * 0 + _ ≤ _; exact Nat.le_of_eq rfl) (hb hby at_94) (fun _ _ => ⟨rfl, rfl, (by decide : 2 + 0 ≤ _), (by decide : 8 + 0 ≤ _)⟩)
    dsimp only [Pt.U, Pt.locs, Pt.cells, Pt.slots] at X27 l27 y27 z27 st27 hQ27
    subst l27 y27 z27
    obtain ⟨rfl, N27q, ex0⟩ := hQ27
    have N27 := Fr.app N25 N27q
    refine own_go (S' := T27.setTop (mkF m 97 #[.val (.int p1), .val (.int p2), .val (.int p3), .val (.ref b), .val (.int sa), .val (.int li), .val (.ref r), .val (.int (1 : Int32)), .val (.int sa), .val (.int ((own_by p1 sa) &&& (255 : Int32)))] [(.int (own_exp p1 sa)), (.int ((own_by p1 sa) &&& (255 : Int32))), (.int (1 : Int32))])) st27 ?_
    have go28 : ∀ t, Steps p.tables e below (T27.setTop (mkF m 118 #[.val (.int p1), .val (.int p2), .val (.int p3), .val (.ref b), .val (.int sa), .val (.int li), .val (.ref r), .val (.int ((1 : Int32) &&& (1 : Int32))), .val (.int (sa + (1 : Int32))), .val (.int ((own_by p1 sa) &&& (255 : Int32)))] [(.int li), (.int (sa + (1 : Int32)))])) t → Steps p.tables e below (T27.setTop (mkF m 97 #[.val (.int p1), .val (.int p2), .val (.int p3), .val (.ref b), .val (.int sa), .val (.int li), .val (.ref r), .val (.int (1 : Int32)), .val (.int sa), .val (.int ((own_by p1 sa) &&& (255 : Int32)))] [(.int (own_exp p1 sa)), (.int ((own_by p1 sa) &&& (255 : Int32))), (.int (1 : Int32))])) t := by
      intro t kt
      show Steps p.tables e below (T27.setTop (mkF m 97 #[.val (.int p1), .val (.int p2), .val (.int p3), .val (.ref b), .val (.int sa), .val (.int li), .val (.ref r), .val (.int (1 : Int32)), .val (.int sa), .val (.int ((own_by p1 sa) &&& (255 : Int32)))] [(.int (own_exp p1 sa)), (.int ((own_by p1 sa) &&& (255 : Int32))), (.int (1 : Int32))])) _
      refine XS.icmpNo X27.here hx rfl (hb hby at_97) rfl (teq (own_rd p1 _ v0)).2 ?_
      show Steps p.tables e below (T27.setTop (mkF m 100 #[.val (.int p1), .val (.int p2), .val (.int p3), .val (.ref b), .val (.int sa), .val (.int li), .val (.ref r), .val (.int (1 : Int32)), .val (.int sa), .val (.int ((own_by p1 sa) &&& (255 : Int32)))] [(.int (1 : Int32))])) _
      refine XS.iconst X27.here hx rfl (hb hby at_100) ?_
      show Steps p.tables e below (T27.setTop (mkF m 101 #[.val (.int p1), .val (.int p2), .val (.int p3), .val (.ref b), .val (.int sa), .val (.int li), .val (.ref r), .val (.int (1 : Int32)), .val (.int sa), .val (.int ((own_by p1 sa) &&& (255 : Int32)))] [(.int (1 : Int32)), (.int (1 : Int32))])) _
      refine XS.goto X27.here hx rfl (pc0 := 101) (pc' := 105) rfl (hb hby at_101) (by decide) (by decide) ?_
      show Steps p.tables e below (T27.setTop (mkF m 105 #[.val (.int p1), .val (.int p2), .val (.int p3), .val (.ref b), .val (.int sa), .val (.int li), .val (.ref r), .val (.int (1 : Int32)), .val (.int sa), .val (.int ((own_by p1 sa) &&& (255 : Int32)))] [(.int (1 : Int32)), (.int (1 : Int32))])) _
      refine XS.iand X27.here hx rfl (hb hby at_105) rfl ?_
      show Steps p.tables e below (T27.setTop (mkF m 106 #[.val (.int p1), .val (.int p2), .val (.int p3), .val (.ref b), .val (.int sa), .val (.int li), .val (.ref r), .val (.int (1 : Int32)), .val (.int sa), .val (.int ((own_by p1 sa) &&& (255 : Int32)))] [(.int ((1 : Int32) &&& (1 : Int32)))])) _
      refine XS.istore X27.here hx rfl (hb hby at_106) rfl (l' := #[.val (.int p1), .val (.int p2), .val (.int p3), .val (.ref b), .val (.int sa), .val (.int li), .val (.ref r), .val (.int ((1 : Int32) &&& (1 : Int32))), .val (.int sa), .val (.int ((own_by p1 sa) &&& (255 : Int32)))]) rfl ?_
      show Steps p.tables e below (T27.setTop (mkF m 108 #[.val (.int p1), .val (.int p2), .val (.int p3), .val (.ref b), .val (.int sa), .val (.int li), .val (.ref r), .val (.int ((1 : Int32) &&& (1 : Int32))), .val (.int sa), .val (.int ((own_by p1 sa) &&& (255 : Int32)))] [])) _
      refine XS.iload X27.here hx rfl (hb hby at_108) rfl ?_
      show Steps p.tables e below (T27.setTop (mkF m 110 #[.val (.int p1), .val (.int p2), .val (.int p3), .val (.ref b), .val (.int sa), .val (.int li), .val (.ref r), .val (.int ((1 : Int32) &&& (1 : Int32))), .val (.int sa), .val (.int ((own_by p1 sa) &&& (255 : Int32)))] [(.int sa)])) _
      refine XS.iconst X27.here hx rfl (hb hby at_110) ?_
      show Steps p.tables e below (T27.setTop (mkF m 111 #[.val (.int p1), .val (.int p2), .val (.int p3), .val (.ref b), .val (.int sa), .val (.int li), .val (.ref r), .val (.int ((1 : Int32) &&& (1 : Int32))), .val (.int sa), .val (.int ((own_by p1 sa) &&& (255 : Int32)))] [(.int (1 : Int32)), (.int sa)])) _
      refine XS.iadd X27.here hx rfl (hb hby at_111) rfl ?_
      show Steps p.tables e below (T27.setTop (mkF m 112 #[.val (.int p1), .val (.int p2), .val (.int p3), .val (.ref b), .val (.int sa), .val (.int li), .val (.ref r), .val (.int ((1 : Int32) &&& (1 : Int32))), .val (.int sa), .val (.int ((own_by p1 sa) &&& (255 : Int32)))] [(.int (sa + (1 : Int32)))])) _
      refine XS.istore X27.here hx rfl (hb hby at_112) rfl (l' := #[.val (.int p1), .val (.int p2), .val (.int p3), .val (.ref b), .val (.int sa), .val (.int li), .val (.ref r), .val (.int ((1 : Int32) &&& (1 : Int32))), .val (.int (sa + (1 : Int32))), .val (.int ((own_by p1 sa) &&& (255 : Int32)))]) rfl ?_
      show Steps p.tables e below (T27.setTop (mkF m 114 #[.val (.int p1), .val (.int p2), .val (.int p3), .val (.ref b), .val (.int sa), .val (.int li), .val (.ref r), .val (.int ((1 : Int32) &&& (1 : Int32))), .val (.int (sa + (1 : Int32))), .val (.int ((own_by p1 sa) &&& (255 : Int32)))] [])) _
      refine XS.iload X27.here hx rfl (hb hby at_114) rfl ?_
      show Steps p.tables e below (T27.setTop (mkF m 116 #[.val (.int p1), .val (.int p2), .val (.int p3), .val (.ref b), .val (.int sa), .val (.int li), .val (.ref r), .val (.int ((1 : Int32) &&& (1 : Int32))), .val (.int (sa + (1 : Int32))), .val (.int ((own_by p1 sa) &&& (255 : Int32)))] [(.int (sa + (1 : Int32)))])) _
      refine XS.iload X27.here hx rfl (hb hby at_116) rfl ?_
      exact kt
    refine own_go go28 ?_
    rcases Classical.em ((sa + (1 : Int32)) < li) with hc118 | hc118
    · have go29 : ∀ t, Steps p.tables e below (T27.setTop (mkF m 123 #[.val (.int p1), .val (.int p2), .val (.int p3), .val (.ref b), .val (.int sa), .val (.int li), .val (.ref r), .val (.int ((1 : Int32) &&& (1 : Int32))), .val (.int (sa + (1 : Int32))), .val (.int ((own_by p1 sa) &&& (255 : Int32)))] [(.ref r)])) t → Steps p.tables e below (T27.setTop (mkF m 118 #[.val (.int p1), .val (.int p2), .val (.int p3), .val (.ref b), .val (.int sa), .val (.int li), .val (.ref r), .val (.int ((1 : Int32) &&& (1 : Int32))), .val (.int (sa + (1 : Int32))), .val (.int ((own_by p1 sa) &&& (255 : Int32)))] [(.int li), (.int (sa + (1 : Int32)))])) t := by
        intro t kt
        show Steps p.tables e below (T27.setTop (mkF m 118 #[.val (.int p1), .val (.int p2), .val (.int p3), .val (.ref b), .val (.int sa), .val (.int li), .val (.ref r), .val (.int ((1 : Int32) &&& (1 : Int32))), .val (.int (sa + (1 : Int32))), .val (.int ((own_by p1 sa) &&& (255 : Int32)))] [(.int li), (.int (sa + (1 : Int32)))])) _
        refine XS.icmpNo X27.here hx rfl (hb hby at_118) rfl (tlt hc118).2.1 ?_
        show Steps p.tables e below (T27.setTop (mkF m 121 #[.val (.int p1), .val (.int p2), .val (.int p3), .val (.ref b), .val (.int sa), .val (.int li), .val (.ref r), .val (.int ((1 : Int32) &&& (1 : Int32))), .val (.int (sa + (1 : Int32))), .val (.int ((own_by p1 sa) &&& (255 : Int32)))] [])) _
        refine XS.aload X27.here hx rfl (hb hby at_121) rfl rfl ?_
        exact kt
      refine own_go go29 ?_
      have u1 : ((sa + (1 : Int32))).toInt < li.toInt := Int32.lt_iff_toInt_lt.mp hc118
      have v1 : ¬ (sa + (1 : Int32)) < 0 ∧ (sa + (1 : Int32)) < (4 : Int32) := own_hp _ (by omega) (by omega)
      have t2 : (((sa + (1 : Int32)) + (1 : Int32))).toInt = sa.toInt + 2 := (own_inc _ (by omega) (by omega)).trans (by omega)
      obtain ⟨cq30, kq30, q30a, q30b, q30c⟩ := isOf hZ ex0 E0r
      obtain ⟨_, _, ⟨T30, L30, k30, n30⟩, -, X30, ⟨Lc30, hQ30, l30, y30, z30⟩, st30⟩ := X27.virtualBack hx (y := (⟨"com/example/hilera/hilera/ByteReader", "read", "()I"⟩ : MethodName)) (z := (⟨"com/example/hilera/hilera/ByteReader", "read", "()I"⟩ : MethodName)) hown (mvT hZ (hw _ (List.mem_of_getElem? (i := 29) rfl))) (mvT hZ (hw _ (List.mem_of_getElem? (i := 30) rfl))) (notFace_of_selects (args := #[]) (mvT hZ (hw _ (List.mem_of_getElem? (i := 32) rfl)))) (mvT hZ (hw _ (List.mem_of_getElem? (i := 32) rfl))) (mvT hZ (hw _ (List.mem_of_getElem? (i := 31) rfl))) (by decide) (backOf (W := 0) (rm5 l Z a0 hw [] r b k2 (own_vs p1) li (sa + (1 : Int32)) (own_by p1 (sa + (1 : Int32))) T25.heap n0 (Nat.le_trans (Nat.le_trans (Nat.le_trans (Nat.le_trans (Nat.le_trans (Nat.le_trans (Nat.le_trans (Nat.le_trans Z0 E2.1) (Keep.of_wr W5).1) (Keep.of_wr W8).1) (Keep.of_wr W11).1) (Keep.of_wr W14).1) E19.1) Kc.1) K0r.1) E0r Fb0r Fl0r Fp0r V0r ne_b_r g_r (own_ne _ _ u1) v1 (own_val p1 _ v1)) hZ (hw _ (List.mem_of_getElem? (i := 33) rfl)) (hw _ (List.mem_of_getElem? (i := 4) rfl)) (by decide) (by decide)) q30a q30c (g := (mkF m 123 #[.val (.int p1), .val (.int p2), .val (.int p3), .val (.ref b), .val (.int sa), .val (.int li), .val (.ref r), .val (.int ((1 : Int32) &&& (1 : Int32))), .val (.int (sa + (1 : Int32))), .val (.int ((own_by p1 sa) &&& (255 : Int32)))] [(.ref r)])) rfl (by rw [hml]; rfl) (Steps.refl _) (argsL := []) (rest := []) (lenOf pd_1 rfl) rfl (by show 2 * 0 + _ ≤ _; exact Nat.le_of_eq rfl) (hb hby at_123) (fun _ _ => ⟨rfl, ex0, (by decide : 2 + 0 ≤ _), (by decide : 8 + 0 ≤ _)⟩)
      dsimp only [Pt.U, Pt.locs, Pt.cells, Pt.slots] at X30 l30 y30 z30 st30 hQ30
      subst l30 y30 z30
      obtain ⟨rfl, N30q, K1r, E1r, Fb1r, Fl1r, Fp1r⟩ := hQ30
      have N30 := Fr.app N27 N30q
      refine own_go (S' := T30.setTop (mkF m 126 #[.val (.int p1), .val (.int p2), .val (.int p3), .val (.ref b), .val (.int sa), .val (.int li), .val (.ref r), .val (.int ((1 : Int32) &&& (1 : Int32))), .val (.int (sa + (1 : Int32))), .val (.int ((own_by p1 sa) &&& (255 : Int32)))] [(.int ((own_by p1 (sa + (1 : Int32))) &&& (255 : Int32)))])) (fun t k => st30.trans k) ?_
      have V1r := V0r.keep K1r (ninS ne_b_r nin0)
      have go31 : ∀ t, Steps p.tables e below (T30.setTop (mkF m 135 #[.val (.int p1), .val (.int p2), .val (.int p3), .val (.ref b), .val (.int sa), .val (.int li), .val (.ref r), .val (.int ((1 : Int32) &&& (1 : Int32))), .val (.int (sa + (1 : Int32))), .val (.int ((own_by p1 (sa + (1 : Int32))) &&& (255 : Int32)))] [(.int (sa + (1 : Int32))), (.int p1), (.int ((own_by p1 (sa + (1 : Int32))) &&& (255 : Int32))), (.int ((1 : Int32) &&& (1 : Int32)))])) t → Steps p.tables e below (T30.setTop (mkF m 126 #[.val (.int p1), .val (.int p2), .val (.int p3), .val (.ref b), .val (.int sa), .val (.int li), .val (.ref r), .val (.int ((1 : Int32) &&& (1 : Int32))), .val (.int (sa + (1 : Int32))), .val (.int ((own_by p1 sa) &&& (255 : Int32)))] [(.int ((own_by p1 (sa + (1 : Int32))) &&& (255 : Int32)))])) t := by
        intro t kt
        show Steps p.tables e below (T30.setTop (mkF m 126 #[.val (.int p1), .val (.int p2), .val (.int p3), .val (.ref b), .val (.int sa), .val (.int li), .val (.ref r), .val (.int ((1 : Int32) &&& (1 : Int32))), .val (.int (sa + (1 : Int32))), .val (.int ((own_by p1 sa) &&& (255 : Int32)))] [(.int ((own_by p1 (sa + (1 : Int32))) &&& (255 : Int32)))])) _
        refine XS.istore X30.here hx rfl (hb hby at_126) rfl (l' := #[.val (.int p1), .val (.int p2), .val (.int p3), .val (.ref b), .val (.int sa), .val (.int li), .val (.ref r), .val (.int ((1 : Int32) &&& (1 : Int32))), .val (.int (sa + (1 : Int32))), .val (.int ((own_by p1 (sa + (1 : Int32))) &&& (255 : Int32)))]) rfl ?_
        show Steps p.tables e below (T30.setTop (mkF m 128 #[.val (.int p1), .val (.int p2), .val (.int p3), .val (.ref b), .val (.int sa), .val (.int li), .val (.ref r), .val (.int ((1 : Int32) &&& (1 : Int32))), .val (.int (sa + (1 : Int32))), .val (.int ((own_by p1 (sa + (1 : Int32))) &&& (255 : Int32)))] [])) _
        refine XS.iload X30.here hx rfl (hb hby at_128) rfl ?_
        show Steps p.tables e below (T30.setTop (mkF m 130 #[.val (.int p1), .val (.int p2), .val (.int p3), .val (.ref b), .val (.int sa), .val (.int li), .val (.ref r), .val (.int ((1 : Int32) &&& (1 : Int32))), .val (.int (sa + (1 : Int32))), .val (.int ((own_by p1 (sa + (1 : Int32))) &&& (255 : Int32)))] [(.int ((1 : Int32) &&& (1 : Int32)))])) _
        refine XS.iload X30.here hx rfl (hb hby at_130) rfl ?_
        show Steps p.tables e below (T30.setTop (mkF m 132 #[.val (.int p1), .val (.int p2), .val (.int p3), .val (.ref b), .val (.int sa), .val (.int li), .val (.ref r), .val (.int ((1 : Int32) &&& (1 : Int32))), .val (.int (sa + (1 : Int32))), .val (.int ((own_by p1 (sa + (1 : Int32))) &&& (255 : Int32)))] [(.int ((own_by p1 (sa + (1 : Int32))) &&& (255 : Int32))), (.int ((1 : Int32) &&& (1 : Int32)))])) _
        refine XS.iloadN X30.here hx rfl (hb hby at_132) rfl ?_
        show Steps p.tables e below (T30.setTop (mkF m 133 #[.val (.int p1), .val (.int p2), .val (.int p3), .val (.ref b), .val (.int sa), .val (.int li), .val (.ref r), .val (.int ((1 : Int32) &&& (1 : Int32))), .val (.int (sa + (1 : Int32))), .val (.int ((own_by p1 (sa + (1 : Int32))) &&& (255 : Int32)))] [(.int p1), (.int ((own_by p1 (sa + (1 : Int32))) &&& (255 : Int32))), (.int ((1 : Int32) &&& (1 : Int32)))])) _
        refine XS.iload X30.here hx rfl (hb hby at_133) rfl ?_
        exact kt
      refine own_go go31 ?_
      obtain ⟨_, _, ⟨T32, L32, k32, n32⟩, -, X32, ⟨Lc32, hQ32, l32, y32, z32⟩, st32⟩ := Jvm.LawKit.callS X30 hx (y := (⟨"com/example/hilera/hilera/ByteReaderReadPinLaw", "expected", "(II)I"⟩ : MethodName)) hown (mvT hZ (hw _ (List.mem_of_getElem? (i := 34) rfl))) (mvT hZ (hw _ (List.mem_of_getElem? (i := 35) rfl))) (mvT hZ (hw _ (List.mem_of_getElem? (i := 36) rfl))) (mvT hZ (hw _ (List.mem_of_getElem? (i := 37) rfl))) (by decide) (backOf (W := 2) (rm6 l Z a0 hw [] p1 (sa + (1 : Int32)) T30.heap n0 (Nat.le_trans (Nat.le_trans (Nat.le_trans (Nat.le_trans (Nat.le_trans (Nat.le_trans (Nat.le_trans (Nat.le_trans (Nat.le_trans Z0 E2.1) (Keep.of_wr W5).1) (Keep.of_wr W8).1) (Keep.of_wr W11).1) (Keep.of_wr W14).1) E19.1) Kc.1) K0r.1) K1r.1)) hZ (hw _ (List.mem_of_getElem? (i := 37) rfl)) (hw _ (List.mem_of_getElem? (i := 36) rfl)) (by decide) (by decide)) (g := (mkF m 135 #[.val (.int p1), .val (.int p2), .val (.int p3), .val (.ref b), .val (.int sa), .val (.int li), .val (.ref r), .val (.int ((1 : Int32) &&& (1 : Int32))), .val (.int (sa + (1 : Int32))), .val (.int ((own_by p1 (sa + (1 : Int32))) &&& (255 : Int32)))] [(.int (sa + (1 : Int32))), (.int p1), (.int ((own_by p1 (sa + (1 : Int32))) &&& (255 : Int32))), (.int ((1 : Int32) &&& (1 : Int32)))])) rfl (by rw [hml]; rfl) (argsL := [(.int p1), (.int (sa + (1 : Int32)))]) (rest := [(.int ((own_by p1 (sa + (1 : Int32))) &&& (255 : Int32))), (.int ((1 : Int32) &&& (1 : Int32)))]) (lenOf pd_2 rfl) rfl (by show 2 * 0 + _ ≤ _; exact Nat.le_of_eq rfl) (hb hby at_135) (fun _ _ => ⟨rfl, rfl, (by decide : 2 + 0 ≤ _), (by decide : 8 + 0 ≤ _)⟩)
      dsimp only [Pt.U, Pt.locs, Pt.cells, Pt.slots] at X32 l32 y32 z32 st32 hQ32
      subst l32 y32 z32
      obtain ⟨rfl, N32q, ex1⟩ := hQ32
      have N32 := Fr.app N30 N32q
      refine own_go (S' := T32.setTop (mkF m 138 #[.val (.int p1), .val (.int p2), .val (.int p3), .val (.ref b), .val (.int sa), .val (.int li), .val (.ref r), .val (.int ((1 : Int32) &&& (1 : Int32))), .val (.int (sa + (1 : Int32))), .val (.int ((own_by p1 (sa + (1 : Int32))) &&& (255 : Int32)))] [(.int (own_exp p1 (sa + (1 : Int32)))), (.int ((own_by p1 (sa + (1 : Int32))) &&& (255 : Int32))), (.int ((1 : Int32) &&& (1 : Int32)))])) st32 ?_
      have go33 : ∀ t, Steps p.tables e below (T32.setTop (mkF m 159 #[.val (.int p1), .val (.int p2), .val (.int p3), .val (.ref b), .val (.int sa), .val (.int li), .val (.ref r), .val (.int (((1 : Int32) &&& (1 : Int32)) &&& (1 : Int32))), .val (.int ((sa + (1 : Int32)) + (1 : Int32))), .val (.int ((own_by p1 (sa + (1 : Int32))) &&& (255 : Int32)))] [(.int li), (.int ((sa + (1 : Int32)) + (1 : Int32)))])) t → Steps p.tables e below (T32.setTop (mkF m 138 #[.val (.int p1), .val (.int p2), .val (.int p3), .val (.ref b), .val (.int sa), .val (.int li), .val (.ref r), .val (.int ((1 : Int32) &&& (1 : Int32))), .val (.int (sa + (1 : Int32))), .val (.int ((own_by p1 (sa + (1 : Int32))) &&& (255 : Int32)))] [(.int (own_exp p1 (sa + (1 : Int32)))), (.int ((own_by p1 (sa + (1 : Int32))) &&& (255 : Int32))), (.int ((1 : Int32) &&& (1 : Int32)))])) t := by
        intro t kt
        show Steps p.tables e below (T32.setTop (mkF m 138 #[.val (.int p1), .val (.int p2), .val (.int p3), .val (.ref b), .val (.int sa), .val (.int li), .val (.ref r), .val (.int ((1 : Int32) &&& (1 : Int32))), .val (.int (sa + (1 : Int32))), .val (.int ((own_by p1 (sa + (1 : Int32))) &&& (255 : Int32)))] [(.int (own_exp p1 (sa + (1 : Int32)))), (.int ((own_by p1 (sa + (1 : Int32))) &&& (255 : Int32))), (.int ((1 : Int32) &&& (1 : Int32)))])) _
        refine XS.icmpNo X32.here hx rfl (hb hby at_138) rfl (teq (own_rd p1 _ v1)).2 ?_
        show Steps p.tables e below (T32.setTop (mkF m 141 #[.val (.int p1), .val (.int p2), .val (.int p3), .val (.ref b), .val (.int sa), .val (.int li), .val (.ref r), .val (.int ((1 : Int32) &&& (1 : Int32))), .val (.int (sa + (1 : Int32))), .val (.int ((own_by p1 (sa + (1 : Int32))) &&& (255 : Int32)))] [(.int ((1 : Int32) &&& (1 : Int32)))])) _
        refine XS.iconst X32.here hx rfl (hb hby at_141) ?_
        show Steps p.tables e below (T32.setTop (mkF m 142 #[.val (.int p1), .val (.int p2), .val (.int p3), .val (.ref b), .val (.int sa), .val (.int li), .val (.ref r), .val (.int ((1 : Int32) &&& (1 : Int32))), .val (.int (sa + (1 : Int32))), .val (.int ((own_by p1 (sa + (1 : Int32))) &&& (255 : Int32)))] [(.int (1 : Int32)), (.int ((1 : Int32) &&& (1 : Int32)))])) _
        refine XS.goto X32.here hx rfl (pc0 := 142) (pc' := 146) rfl (hb hby at_142) (by decide) (by decide) ?_
        show Steps p.tables e below (T32.setTop (mkF m 146 #[.val (.int p1), .val (.int p2), .val (.int p3), .val (.ref b), .val (.int sa), .val (.int li), .val (.ref r), .val (.int ((1 : Int32) &&& (1 : Int32))), .val (.int (sa + (1 : Int32))), .val (.int ((own_by p1 (sa + (1 : Int32))) &&& (255 : Int32)))] [(.int (1 : Int32)), (.int ((1 : Int32) &&& (1 : Int32)))])) _
        refine XS.iand X32.here hx rfl (hb hby at_146) rfl ?_
        show Steps p.tables e below (T32.setTop (mkF m 147 #[.val (.int p1), .val (.int p2), .val (.int p3), .val (.ref b), .val (.int sa), .val (.int li), .val (.ref r), .val (.int ((1 : Int32) &&& (1 : Int32))), .val (.int (sa + (1 : Int32))), .val (.int ((own_by p1 (sa + (1 : Int32))) &&& (255 : Int32)))] [(.int (((1 : Int32) &&& (1 : Int32)) &&& (1 : Int32)))])) _
        refine XS.istore X32.here hx rfl (hb hby at_147) rfl (l' := #[.val (.int p1), .val (.int p2), .val (.int p3), .val (.ref b), .val (.int sa), .val (.int li), .val (.ref r), .val (.int (((1 : Int32) &&& (1 : Int32)) &&& (1 : Int32))), .val (.int (sa + (1 : Int32))), .val (.int ((own_by p1 (sa + (1 : Int32))) &&& (255 : Int32)))]) rfl ?_
        show Steps p.tables e below (T32.setTop (mkF m 149 #[.val (.int p1), .val (.int p2), .val (.int p3), .val (.ref b), .val (.int sa), .val (.int li), .val (.ref r), .val (.int (((1 : Int32) &&& (1 : Int32)) &&& (1 : Int32))), .val (.int (sa + (1 : Int32))), .val (.int ((own_by p1 (sa + (1 : Int32))) &&& (255 : Int32)))] [])) _
        refine XS.iload X32.here hx rfl (hb hby at_149) rfl ?_
        show Steps p.tables e below (T32.setTop (mkF m 151 #[.val (.int p1), .val (.int p2), .val (.int p3), .val (.ref b), .val (.int sa), .val (.int li), .val (.ref r), .val (.int (((1 : Int32) &&& (1 : Int32)) &&& (1 : Int32))), .val (.int (sa + (1 : Int32))), .val (.int ((own_by p1 (sa + (1 : Int32))) &&& (255 : Int32)))] [(.int (sa + (1 : Int32)))])) _
        refine XS.iconst X32.here hx rfl (hb hby at_151) ?_
        show Steps p.tables e below (T32.setTop (mkF m 152 #[.val (.int p1), .val (.int p2), .val (.int p3), .val (.ref b), .val (.int sa), .val (.int li), .val (.ref r), .val (.int (((1 : Int32) &&& (1 : Int32)) &&& (1 : Int32))), .val (.int (sa + (1 : Int32))), .val (.int ((own_by p1 (sa + (1 : Int32))) &&& (255 : Int32)))] [(.int (1 : Int32)), (.int (sa + (1 : Int32)))])) _
        refine XS.iadd X32.here hx rfl (hb hby at_152) rfl ?_
        show Steps p.tables e below (T32.setTop (mkF m 153 #[.val (.int p1), .val (.int p2), .val (.int p3), .val (.ref b), .val (.int sa), .val (.int li), .val (.ref r), .val (.int (((1 : Int32) &&& (1 : Int32)) &&& (1 : Int32))), .val (.int (sa + (1 : Int32))), .val (.int ((own_by p1 (sa + (1 : Int32))) &&& (255 : Int32)))] [(.int ((sa + (1 : Int32)) + (1 : Int32)))])) _
        refine XS.istore X32.here hx rfl (hb hby at_153) rfl (l' := #[.val (.int p1), .val (.int p2), .val (.int p3), .val (.ref b), .val (.int sa), .val (.int li), .val (.ref r), .val (.int (((1 : Int32) &&& (1 : Int32)) &&& (1 : Int32))), .val (.int ((sa + (1 : Int32)) + (1 : Int32))), .val (.int ((own_by p1 (sa + (1 : Int32))) &&& (255 : Int32)))]) rfl ?_
        show Steps p.tables e below (T32.setTop (mkF m 155 #[.val (.int p1), .val (.int p2), .val (.int p3), .val (.ref b), .val (.int sa), .val (.int li), .val (.ref r), .val (.int (((1 : Int32) &&& (1 : Int32)) &&& (1 : Int32))), .val (.int ((sa + (1 : Int32)) + (1 : Int32))), .val (.int ((own_by p1 (sa + (1 : Int32))) &&& (255 : Int32)))] [])) _
        refine XS.iload X32.here hx rfl (hb hby at_155) rfl ?_
        show Steps p.tables e below (T32.setTop (mkF m 157 #[.val (.int p1), .val (.int p2), .val (.int p3), .val (.ref b), .val (.int sa), .val (.int li), .val (.ref r), .val (.int (((1 : Int32) &&& (1 : Int32)) &&& (1 : Int32))), .val (.int ((sa + (1 : Int32)) + (1 : Int32))), .val (.int ((own_by p1 (sa + (1 : Int32))) &&& (255 : Int32)))] [(.int ((sa + (1 : Int32)) + (1 : Int32)))])) _
        refine XS.iload X32.here hx rfl (hb hby at_157) rfl ?_
        exact kt
      refine own_go go33 ?_
      rcases Classical.em (((sa + (1 : Int32)) + (1 : Int32)) < li) with hc159 | hc159
      · have go34 : ∀ t, Steps p.tables e below (T32.setTop (mkF m 164 #[.val (.int p1), .val (.int p2), .val (.int p3), .val (.ref b), .val (.int sa), .val (.int li), .val (.ref r), .val (.int (((1 : Int32) &&& (1 : Int32)) &&& (1 : Int32))), .val (.int ((sa + (1 : Int32)) + (1 : Int32))), .val (.int ((own_by p1 (sa + (1 : Int32))) &&& (255 : Int32)))] [(.ref r)])) t → Steps p.tables e below (T32.setTop (mkF m 159 #[.val (.int p1), .val (.int p2), .val (.int p3), .val (.ref b), .val (.int sa), .val (.int li), .val (.ref r), .val (.int (((1 : Int32) &&& (1 : Int32)) &&& (1 : Int32))), .val (.int ((sa + (1 : Int32)) + (1 : Int32))), .val (.int ((own_by p1 (sa + (1 : Int32))) &&& (255 : Int32)))] [(.int li), (.int ((sa + (1 : Int32)) + (1 : Int32)))])) t := by
          intro t kt
          show Steps p.tables e below (T32.setTop (mkF m 159 #[.val (.int p1), .val (.int p2), .val (.int p3), .val (.ref b), .val (.int sa), .val (.int li), .val (.ref r), .val (.int (((1 : Int32) &&& (1 : Int32)) &&& (1 : Int32))), .val (.int ((sa + (1 : Int32)) + (1 : Int32))), .val (.int ((own_by p1 (sa + (1 : Int32))) &&& (255 : Int32)))] [(.int li), (.int ((sa + (1 : Int32)) + (1 : Int32)))])) _
          refine XS.icmpNo X32.here hx rfl (hb hby at_159) rfl (tlt hc159).2.1 ?_
          show Steps p.tables e below (T32.setTop (mkF m 162 #[.val (.int p1), .val (.int p2), .val (.int p3), .val (.ref b), .val (.int sa), .val (.int li), .val (.ref r), .val (.int (((1 : Int32) &&& (1 : Int32)) &&& (1 : Int32))), .val (.int ((sa + (1 : Int32)) + (1 : Int32))), .val (.int ((own_by p1 (sa + (1 : Int32))) &&& (255 : Int32)))] [])) _
          refine XS.aload X32.here hx rfl (hb hby at_162) rfl rfl ?_
          exact kt
        refine own_go go34 ?_
        have u2 : (((sa + (1 : Int32)) + (1 : Int32))).toInt < li.toInt := Int32.lt_iff_toInt_lt.mp hc159
        have v2 : ¬ ((sa + (1 : Int32)) + (1 : Int32)) < 0 ∧ ((sa + (1 : Int32)) + (1 : Int32)) < (4 : Int32) := own_hp _ (by omega) (by omega)
        have t3 : ((((sa + (1 : Int32)) + (1 : Int32)) + (1 : Int32))).toInt = sa.toInt + 3 := (own_inc _ (by omega) (by omega)).trans (by omega)
        obtain ⟨cq35, kq35, q35a, q35b, q35c⟩ := isOf hZ ex1 E1r
        obtain ⟨_, _, ⟨T35, L35, k35, n35⟩, -, X35, ⟨Lc35, hQ35, l35, y35, z35⟩, st35⟩ := X32.virtualBack hx (y := (⟨"com/example/hilera/hilera/ByteReader", "read", "()I"⟩ : MethodName)) (z := (⟨"com/example/hilera/hilera/ByteReader", "read", "()I"⟩ : MethodName)) hown (mvT hZ (hw _ (List.mem_of_getElem? (i := 29) rfl))) (mvT hZ (hw _ (List.mem_of_getElem? (i := 30) rfl))) (notFace_of_selects (args := #[]) (mvT hZ (hw _ (List.mem_of_getElem? (i := 32) rfl)))) (mvT hZ (hw _ (List.mem_of_getElem? (i := 32) rfl))) (mvT hZ (hw _ (List.mem_of_getElem? (i := 31) rfl))) (by decide) (backOf (W := 0) (rm5 l Z a0 hw [] r b k2 (own_vs p1) li ((sa + (1 : Int32)) + (1 : Int32)) (own_by p1 ((sa + (1 : Int32)) + (1 : Int32))) T30.heap n0 (Nat.le_trans (Nat.le_trans (Nat.le_trans (Nat.le_trans (Nat.le_trans (Nat.le_trans (Nat.le_trans (Nat.le_trans (Nat.le_trans Z0 E2.1) (Keep.of_wr W5).1) (Keep.of_wr W8).1) (Keep.of_wr W11).1) (Keep.of_wr W14).1) E19.1) Kc.1) K0r.1) K1r.1) E1r Fb1r Fl1r Fp1r V1r ne_b_r g_r (own_ne _ _ u2) v2 (own_val p1 _ v2)) hZ (hw _ (List.mem_of_getElem? (i := 33) rfl)) (hw _ (List.mem_of_getElem? (i := 4) rfl)) (by decide) (by decide)) q35a q35c (g := (mkF m 164 #[.val (.int p1), .val (.int p2), .val (.int p3), .val (.ref b), .val (.int sa), .val (.int li), .val (.ref r), .val (.int (((1 : Int32) &&& (1 : Int32)) &&& (1 : Int32))), .val (.int ((sa + (1 : Int32)) + (1 : Int32))), .val (.int ((own_by p1 (sa + (1 : Int32))) &&& (255 : Int32)))] [(.ref r)])) rfl (by rw [hml]; rfl) (Steps.refl _) (argsL := []) (rest := []) (lenOf pd_1 rfl) rfl (by show 2 * 0 + _ ≤ _; exact Nat.le_of_eq rfl) (hb hby at_164) (fun _ _ => ⟨rfl, ex1, (by decide : 2 + 0 ≤ _), (by decide : 8 + 0 ≤ _)⟩)
        dsimp only [Pt.U, Pt.locs, Pt.cells, Pt.slots] at X35 l35 y35 z35 st35 hQ35
        subst l35 y35 z35
        obtain ⟨rfl, N35q, K2r, E2r, Fb2r, Fl2r, Fp2r⟩ := hQ35
        have N35 := Fr.app N32 N35q
        refine own_go (S' := T35.setTop (mkF m 167 #[.val (.int p1), .val (.int p2), .val (.int p3), .val (.ref b), .val (.int sa), .val (.int li), .val (.ref r), .val (.int (((1 : Int32) &&& (1 : Int32)) &&& (1 : Int32))), .val (.int ((sa + (1 : Int32)) + (1 : Int32))), .val (.int ((own_by p1 (sa + (1 : Int32))) &&& (255 : Int32)))] [(.int ((own_by p1 ((sa + (1 : Int32)) + (1 : Int32))) &&& (255 : Int32)))])) (fun t k => st35.trans k) ?_
        have V2r := V1r.keep K2r (ninS ne_b_r nin0)
        have go36 : ∀ t, Steps p.tables e below (T35.setTop (mkF m 176 #[.val (.int p1), .val (.int p2), .val (.int p3), .val (.ref b), .val (.int sa), .val (.int li), .val (.ref r), .val (.int (((1 : Int32) &&& (1 : Int32)) &&& (1 : Int32))), .val (.int ((sa + (1 : Int32)) + (1 : Int32))), .val (.int ((own_by p1 ((sa + (1 : Int32)) + (1 : Int32))) &&& (255 : Int32)))] [(.int ((sa + (1 : Int32)) + (1 : Int32))), (.int p1), (.int ((own_by p1 ((sa + (1 : Int32)) + (1 : Int32))) &&& (255 : Int32))), (.int (((1 : Int32) &&& (1 : Int32)) &&& (1 : Int32)))])) t → Steps p.tables e below (T35.setTop (mkF m 167 #[.val (.int p1), .val (.int p2), .val (.int p3), .val (.ref b), .val (.int sa), .val (.int li), .val (.ref r), .val (.int (((1 : Int32) &&& (1 : Int32)) &&& (1 : Int32))), .val (.int ((sa + (1 : Int32)) + (1 : Int32))), .val (.int ((own_by p1 (sa + (1 : Int32))) &&& (255 : Int32)))] [(.int ((own_by p1 ((sa + (1 : Int32)) + (1 : Int32))) &&& (255 : Int32)))])) t := by
          intro t kt
          show Steps p.tables e below (T35.setTop (mkF m 167 #[.val (.int p1), .val (.int p2), .val (.int p3), .val (.ref b), .val (.int sa), .val (.int li), .val (.ref r), .val (.int (((1 : Int32) &&& (1 : Int32)) &&& (1 : Int32))), .val (.int ((sa + (1 : Int32)) + (1 : Int32))), .val (.int ((own_by p1 (sa + (1 : Int32))) &&& (255 : Int32)))] [(.int ((own_by p1 ((sa + (1 : Int32)) + (1 : Int32))) &&& (255 : Int32)))])) _
          refine XS.istore X35.here hx rfl (hb hby at_167) rfl (l' := #[.val (.int p1), .val (.int p2), .val (.int p3), .val (.ref b), .val (.int sa), .val (.int li), .val (.ref r), .val (.int (((1 : Int32) &&& (1 : Int32)) &&& (1 : Int32))), .val (.int ((sa + (1 : Int32)) + (1 : Int32))), .val (.int ((own_by p1 ((sa + (1 : Int32)) + (1 : Int32))) &&& (255 : Int32)))]) rfl ?_
          show Steps p.tables e below (T35.setTop (mkF m 169 #[.val (.int p1), .val (.int p2), .val (.int p3), .val (.ref b), .val (.int sa), .val (.int li), .val (.ref r), .val (.int (((1 : Int32) &&& (1 : Int32)) &&& (1 : Int32))), .val (.int ((sa + (1 : Int32)) + (1 : Int32))), .val (.int ((own_by p1 ((sa + (1 : Int32)) + (1 : Int32))) &&& (255 : Int32)))] [])) _
          refine XS.iload X35.here hx rfl (hb hby at_169) rfl ?_
          show Steps p.tables e below (T35.setTop (mkF m 171 #[.val (.int p1), .val (.int p2), .val (.int p3), .val (.ref b), .val (.int sa), .val (.int li), .val (.ref r), .val (.int (((1 : Int32) &&& (1 : Int32)) &&& (1 : Int32))), .val (.int ((sa + (1 : Int32)) + (1 : Int32))), .val (.int ((own_by p1 ((sa + (1 : Int32)) + (1 : Int32))) &&& (255 : Int32)))] [(.int (((1 : Int32) &&& (1 : Int32)) &&& (1 : Int32)))])) _
          refine XS.iload X35.here hx rfl (hb hby at_171) rfl ?_
          show Steps p.tables e below (T35.setTop (mkF m 173 #[.val (.int p1), .val (.int p2), .val (.int p3), .val (.ref b), .val (.int sa), .val (.int li), .val (.ref r), .val (.int (((1 : Int32) &&& (1 : Int32)) &&& (1 : Int32))), .val (.int ((sa + (1 : Int32)) + (1 : Int32))), .val (.int ((own_by p1 ((sa + (1 : Int32)) + (1 : Int32))) &&& (255 : Int32)))] [(.int ((own_by p1 ((sa + (1 : Int32)) + (1 : Int32))) &&& (255 : Int32))), (.int (((1 : Int32) &&& (1 : Int32)) &&& (1 : Int32)))])) _
          refine XS.iloadN X35.here hx rfl (hb hby at_173) rfl ?_
          show Steps p.tables e below (T35.setTop (mkF m 174 #[.val (.int p1), .val (.int p2), .val (.int p3), .val (.ref b), .val (.int sa), .val (.int li), .val (.ref r), .val (.int (((1 : Int32) &&& (1 : Int32)) &&& (1 : Int32))), .val (.int ((sa + (1 : Int32)) + (1 : Int32))), .val (.int ((own_by p1 ((sa + (1 : Int32)) + (1 : Int32))) &&& (255 : Int32)))] [(.int p1), (.int ((own_by p1 ((sa + (1 : Int32)) + (1 : Int32))) &&& (255 : Int32))), (.int (((1 : Int32) &&& (1 : Int32)) &&& (1 : Int32)))])) _
          refine XS.iload X35.here hx rfl (hb hby at_174) rfl ?_
          exact kt
        refine own_go go36 ?_
        obtain ⟨_, _, ⟨T37, L37, k37, n37⟩, -, X37, ⟨Lc37, hQ37, l37, y37, z37⟩, st37⟩ := Jvm.LawKit.callS X35 hx (y := (⟨"com/example/hilera/hilera/ByteReaderReadPinLaw", "expected", "(II)I"⟩ : MethodName)) hown (mvT hZ (hw _ (List.mem_of_getElem? (i := 34) rfl))) (mvT hZ (hw _ (List.mem_of_getElem? (i := 35) rfl))) (mvT hZ (hw _ (List.mem_of_getElem? (i := 36) rfl))) (mvT hZ (hw _ (List.mem_of_getElem? (i := 37) rfl))) (by decide) (backOf (W := 2) (rm6 l Z a0 hw [] p1 ((sa + (1 : Int32)) + (1 : Int32)) T35.heap n0 (Nat.le_trans (Nat.le_trans (Nat.le_trans (Nat.le_trans (Nat.le_trans (Nat.le_trans (Nat.le_trans (Nat.le_trans (Nat.le_trans (Nat.le_trans Z0 E2.1) (Keep.of_wr W5).1) (Keep.of_wr W8).1) (Keep.of_wr W11).1) (Keep.of_wr W14).1) E19.1) Kc.1) K0r.1) K1r.1) K2r.1)) hZ (hw _ (List.mem_of_getElem? (i := 37) rfl)) (hw _ (List.mem_of_getElem? (i := 36) rfl)) (by decide) (by decide)) (g := (mkF m 176 #[.val (.int p1), .val (.int p2), .val (.int p3), .val (.ref b), .val (.int sa), .val (.int li), .val (.ref r), .val (.int (((1 : Int32) &&& (1 : Int32)) &&& (1 : Int32))), .val (.int ((sa + (1 : Int32)) + (1 : Int32))), .val (.int ((own_by p1 ((sa + (1 : Int32)) + (1 : Int32))) &&& (255 : Int32)))] [(.int ((sa + (1 : Int32)) + (1 : Int32))), (.int p1), (.int ((own_by p1 ((sa + (1 : Int32)) + (1 : Int32))) &&& (255 : Int32))), (.int (((1 : Int32) &&& (1 : Int32)) &&& (1 : Int32)))])) rfl (by rw [hml]; rfl) (argsL := [(.int p1), (.int ((sa + (1 : Int32)) + (1 : Int32)))]) (rest := [(.int ((own_by p1 ((sa + (1 : Int32)) + (1 : Int32))) &&& (255 : Int32))), (.int (((1 : Int32) &&& (1 : Int32)) &&& (1 : Int32)))]) (lenOf pd_2 rfl) rfl (by show 2 * 0 + _ ≤ _; exact Nat.le_of_eq rfl) (hb hby at_176) (fun _ _ => ⟨rfl, rfl, (by decide : 2 + 0 ≤ _), (by decide : 8 + 0 ≤ _)⟩)
        dsimp only [Pt.U, Pt.locs, Pt.cells, Pt.slots] at X37 l37 y37 z37 st37 hQ37
        subst l37 y37 z37
        obtain ⟨rfl, N37q, ex2⟩ := hQ37
        have N37 := Fr.app N35 N37q
        refine own_go (S' := T37.setTop (mkF m 179 #[.val (.int p1), .val (.int p2), .val (.int p3), .val (.ref b), .val (.int sa), .val (.int li), .val (.ref r), .val (.int (((1 : Int32) &&& (1 : Int32)) &&& (1 : Int32))), .val (.int ((sa + (1 : Int32)) + (1 : Int32))), .val (.int ((own_by p1 ((sa + (1 : Int32)) + (1 : Int32))) &&& (255 : Int32)))] [(.int (own_exp p1 ((sa + (1 : Int32)) + (1 : Int32)))), (.int ((own_by p1 ((sa + (1 : Int32)) + (1 : Int32))) &&& (255 : Int32))), (.int (((1 : Int32) &&& (1 : Int32)) &&& (1 : Int32)))])) st37 ?_
        have go38 : ∀ t, Steps p.tables e below (T37.setTop (mkF m 200 #[.val (.int p1), .val (.int p2), .val (.int p3), .val (.ref b), .val (.int sa), .val (.int li), .val (.ref r), .val (.int ((((1 : Int32) &&& (1 : Int32)) &&& (1 : Int32)) &&& (1 : Int32))), .val (.int (((sa + (1 : Int32)) + (1 : Int32)) + (1 : Int32))), .val (.int ((own_by p1 ((sa + (1 : Int32)) + (1 : Int32))) &&& (255 : Int32)))] [(.int li), (.int (((sa + (1 : Int32)) + (1 : Int32)) + (1 : Int32)))])) t → Steps p.tables e below (T37.setTop (mkF m 179 #[.val (.int p1), .val (.int p2), .val (.int p3), .val (.ref b), .val (.int sa), .val (.int li), .val (.ref r), .val (.int (((1 : Int32) &&& (1 : Int32)) &&& (1 : Int32))), .val (.int ((sa + (1 : Int32)) + (1 : Int32))), .val (.int ((own_by p1 ((sa + (1 : Int32)) + (1 : Int32))) &&& (255 : Int32)))] [(.int (own_exp p1 ((sa + (1 : Int32)) + (1 : Int32)))), (.int ((own_by p1 ((sa + (1 : Int32)) + (1 : Int32))) &&& (255 : Int32))), (.int (((1 : Int32) &&& (1 : Int32)) &&& (1 : Int32)))])) t := by
          intro t kt
          show Steps p.tables e below (T37.setTop (mkF m 179 #[.val (.int p1), .val (.int p2), .val (.int p3), .val (.ref b), .val (.int sa), .val (.int li), .val (.ref r), .val (.int (((1 : Int32) &&& (1 : Int32)) &&& (1 : Int32))), .val (.int ((sa + (1 : Int32)) + (1 : Int32))), .val (.int ((own_by p1 ((sa + (1 : Int32)) + (1 : Int32))) &&& (255 : Int32)))] [(.int (own_exp p1 ((sa + (1 : Int32)) + (1 : Int32)))), (.int ((own_by p1 ((sa + (1 : Int32)) + (1 : Int32))) &&& (255 : Int32))), (.int (((1 : Int32) &&& (1 : Int32)) &&& (1 : Int32)))])) _
          refine XS.icmpNo X37.here hx rfl (hb hby at_179) rfl (teq (own_rd p1 _ v2)).2 ?_
          show Steps p.tables e below (T37.setTop (mkF m 182 #[.val (.int p1), .val (.int p2), .val (.int p3), .val (.ref b), .val (.int sa), .val (.int li), .val (.ref r), .val (.int (((1 : Int32) &&& (1 : Int32)) &&& (1 : Int32))), .val (.int ((sa + (1 : Int32)) + (1 : Int32))), .val (.int ((own_by p1 ((sa + (1 : Int32)) + (1 : Int32))) &&& (255 : Int32)))] [(.int (((1 : Int32) &&& (1 : Int32)) &&& (1 : Int32)))])) _
          refine XS.iconst X37.here hx rfl (hb hby at_182) ?_
          show Steps p.tables e below (T37.setTop (mkF m 183 #[.val (.int p1), .val (.int p2), .val (.int p3), .val (.ref b), .val (.int sa), .val (.int li), .val (.ref r), .val (.int (((1 : Int32) &&& (1 : Int32)) &&& (1 : Int32))), .val (.int ((sa + (1 : Int32)) + (1 : Int32))), .val (.int ((own_by p1 ((sa + (1 : Int32)) + (1 : Int32))) &&& (255 : Int32)))] [(.int (1 : Int32)), (.int (((1 : Int32) &&& (1 : Int32)) &&& (1 : Int32)))])) _
          refine XS.goto X37.here hx rfl (pc0 := 183) (pc' := 187) rfl (hb hby at_183) (by decide) (by decide) ?_
          show Steps p.tables e below (T37.setTop (mkF m 187 #[.val (.int p1), .val (.int p2), .val (.int p3), .val (.ref b), .val (.int sa), .val (.int li), .val (.ref r), .val (.int (((1 : Int32) &&& (1 : Int32)) &&& (1 : Int32))), .val (.int ((sa + (1 : Int32)) + (1 : Int32))), .val (.int ((own_by p1 ((sa + (1 : Int32)) + (1 : Int32))) &&& (255 : Int32)))] [(.int (1 : Int32)), (.int (((1 : Int32) &&& (1 : Int32)) &&& (1 : Int32)))])) _
          refine XS.iand X37.here hx rfl (hb hby at_187) rfl ?_
          show Steps p.tables e below (T37.setTop (mkF m 188 #[.val (.int p1), .val (.int p2), .val (.int p3), .val (.ref b), .val (.int sa), .val (.int li), .val (.ref r), .val (.int (((1 : Int32) &&& (1 : Int32)) &&& (1 : Int32))), .val (.int ((sa + (1 : Int32)) + (1 : Int32))), .val (.int ((own_by p1 ((sa + (1 : Int32)) + (1 : Int32))) &&& (255 : Int32)))] [(.int ((((1 : Int32) &&& (1 : Int32)) &&& (1 : Int32)) &&& (1 : Int32)))])) _
          refine XS.istore X37.here hx rfl (hb hby at_188) rfl (l' := #[.val (.int p1), .val (.int p2), .val (.int p3), .val (.ref b), .val (.int sa), .val (.int li), .val (.ref r), .val (.int ((((1 : Int32) &&& (1 : Int32)) &&& (1 : Int32)) &&& (1 : Int32))), .val (.int ((sa + (1 : Int32)) + (1 : Int32))), .val (.int ((own_by p1 ((sa + (1 : Int32)) + (1 : Int32))) &&& (255 : Int32)))]) rfl ?_
          show Steps p.tables e below (T37.setTop (mkF m 190 #[.val (.int p1), .val (.int p2), .val (.int p3), .val (.ref b), .val (.int sa), .val (.int li), .val (.ref r), .val (.int ((((1 : Int32) &&& (1 : Int32)) &&& (1 : Int32)) &&& (1 : Int32))), .val (.int ((sa + (1 : Int32)) + (1 : Int32))), .val (.int ((own_by p1 ((sa + (1 : Int32)) + (1 : Int32))) &&& (255 : Int32)))] [])) _
          refine XS.iload X37.here hx rfl (hb hby at_190) rfl ?_
          show Steps p.tables e below (T37.setTop (mkF m 192 #[.val (.int p1), .val (.int p2), .val (.int p3), .val (.ref b), .val (.int sa), .val (.int li), .val (.ref r), .val (.int ((((1 : Int32) &&& (1 : Int32)) &&& (1 : Int32)) &&& (1 : Int32))), .val (.int ((sa + (1 : Int32)) + (1 : Int32))), .val (.int ((own_by p1 ((sa + (1 : Int32)) + (1 : Int32))) &&& (255 : Int32)))] [(.int ((sa + (1 : Int32)) + (1 : Int32)))])) _
          refine XS.iconst X37.here hx rfl (hb hby at_192) ?_
          show Steps p.tables e below (T37.setTop (mkF m 193 #[.val (.int p1), .val (.int p2), .val (.int p3), .val (.ref b), .val (.int sa), .val (.int li), .val (.ref r), .val (.int ((((1 : Int32) &&& (1 : Int32)) &&& (1 : Int32)) &&& (1 : Int32))), .val (.int ((sa + (1 : Int32)) + (1 : Int32))), .val (.int ((own_by p1 ((sa + (1 : Int32)) + (1 : Int32))) &&& (255 : Int32)))] [(.int (1 : Int32)), (.int ((sa + (1 : Int32)) + (1 : Int32)))])) _
          refine XS.iadd X37.here hx rfl (hb hby at_193) rfl ?_
          show Steps p.tables e below (T37.setTop (mkF m 194 #[.val (.int p1), .val (.int p2), .val (.int p3), .val (.ref b), .val (.int sa), .val (.int li), .val (.ref r), .val (.int ((((1 : Int32) &&& (1 : Int32)) &&& (1 : Int32)) &&& (1 : Int32))), .val (.int ((sa + (1 : Int32)) + (1 : Int32))), .val (.int ((own_by p1 ((sa + (1 : Int32)) + (1 : Int32))) &&& (255 : Int32)))] [(.int (((sa + (1 : Int32)) + (1 : Int32)) + (1 : Int32)))])) _
          refine XS.istore X37.here hx rfl (hb hby at_194) rfl (l' := #[.val (.int p1), .val (.int p2), .val (.int p3), .val (.ref b), .val (.int sa), .val (.int li), .val (.ref r), .val (.int ((((1 : Int32) &&& (1 : Int32)) &&& (1 : Int32)) &&& (1 : Int32))), .val (.int (((sa + (1 : Int32)) + (1 : Int32)) + (1 : Int32))), .val (.int ((own_by p1 ((sa + (1 : Int32)) + (1 : Int32))) &&& (255 : Int32)))]) rfl ?_
          show Steps p.tables e below (T37.setTop (mkF m 196 #[.val (.int p1), .val (.int p2), .val (.int p3), .val (.ref b), .val (.int sa), .val (.int li), .val (.ref r), .val (.int ((((1 : Int32) &&& (1 : Int32)) &&& (1 : Int32)) &&& (1 : Int32))), .val (.int (((sa + (1 : Int32)) + (1 : Int32)) + (1 : Int32))), .val (.int ((own_by p1 ((sa + (1 : Int32)) + (1 : Int32))) &&& (255 : Int32)))] [])) _
          refine XS.iload X37.here hx rfl (hb hby at_196) rfl ?_
          show Steps p.tables e below (T37.setTop (mkF m 198 #[.val (.int p1), .val (.int p2), .val (.int p3), .val (.ref b), .val (.int sa), .val (.int li), .val (.ref r), .val (.int ((((1 : Int32) &&& (1 : Int32)) &&& (1 : Int32)) &&& (1 : Int32))), .val (.int (((sa + (1 : Int32)) + (1 : Int32)) + (1 : Int32))), .val (.int ((own_by p1 ((sa + (1 : Int32)) + (1 : Int32))) &&& (255 : Int32)))] [(.int (((sa + (1 : Int32)) + (1 : Int32)) + (1 : Int32)))])) _
          refine XS.iload X37.here hx rfl (hb hby at_198) rfl ?_
          exact kt
        refine own_go go38 ?_
        rcases Classical.em ((((sa + (1 : Int32)) + (1 : Int32)) + (1 : Int32)) < li) with hc200 | hc200
        · have go39 : ∀ t, Steps p.tables e below (T37.setTop (mkF m 205 #[.val (.int p1), .val (.int p2), .val (.int p3), .val (.ref b), .val (.int sa), .val (.int li), .val (.ref r), .val (.int ((((1 : Int32) &&& (1 : Int32)) &&& (1 : Int32)) &&& (1 : Int32))), .val (.int (((sa + (1 : Int32)) + (1 : Int32)) + (1 : Int32))), .val (.int ((own_by p1 ((sa + (1 : Int32)) + (1 : Int32))) &&& (255 : Int32)))] [(.ref r)])) t → Steps p.tables e below (T37.setTop (mkF m 200 #[.val (.int p1), .val (.int p2), .val (.int p3), .val (.ref b), .val (.int sa), .val (.int li), .val (.ref r), .val (.int ((((1 : Int32) &&& (1 : Int32)) &&& (1 : Int32)) &&& (1 : Int32))), .val (.int (((sa + (1 : Int32)) + (1 : Int32)) + (1 : Int32))), .val (.int ((own_by p1 ((sa + (1 : Int32)) + (1 : Int32))) &&& (255 : Int32)))] [(.int li), (.int (((sa + (1 : Int32)) + (1 : Int32)) + (1 : Int32)))])) t := by
            intro t kt
            show Steps p.tables e below (T37.setTop (mkF m 200 #[.val (.int p1), .val (.int p2), .val (.int p3), .val (.ref b), .val (.int sa), .val (.int li), .val (.ref r), .val (.int ((((1 : Int32) &&& (1 : Int32)) &&& (1 : Int32)) &&& (1 : Int32))), .val (.int (((sa + (1 : Int32)) + (1 : Int32)) + (1 : Int32))), .val (.int ((own_by p1 ((sa + (1 : Int32)) + (1 : Int32))) &&& (255 : Int32)))] [(.int li), (.int (((sa + (1 : Int32)) + (1 : Int32)) + (1 : Int32)))])) _
            refine XS.icmpNo X37.here hx rfl (hb hby at_200) rfl (tlt hc200).2.1 ?_
            show Steps p.tables e below (T37.setTop (mkF m 203 #[.val (.int p1), .val (.int p2), .val (.int p3), .val (.ref b), .val (.int sa), .val (.int li), .val (.ref r), .val (.int ((((1 : Int32) &&& (1 : Int32)) &&& (1 : Int32)) &&& (1 : Int32))), .val (.int (((sa + (1 : Int32)) + (1 : Int32)) + (1 : Int32))), .val (.int ((own_by p1 ((sa + (1 : Int32)) + (1 : Int32))) &&& (255 : Int32)))] [])) _
            refine XS.aload X37.here hx rfl (hb hby at_203) rfl rfl ?_
            exact kt
          refine own_go go39 ?_
          have u3 : ((((sa + (1 : Int32)) + (1 : Int32)) + (1 : Int32))).toInt < li.toInt := Int32.lt_iff_toInt_lt.mp hc200
          have v3 : ¬ (((sa + (1 : Int32)) + (1 : Int32)) + (1 : Int32)) < 0 ∧ (((sa + (1 : Int32)) + (1 : Int32)) + (1 : Int32)) < (4 : Int32) := own_hp _ (by omega) (by omega)
          have t4 : (((((sa + (1 : Int32)) + (1 : Int32)) + (1 : Int32)) + (1 : Int32))).toInt = sa.toInt + 4 := (own_inc _ (by omega) (by omega)).trans (by omega)
          obtain ⟨cq40, kq40, q40a, q40b, q40c⟩ := isOf hZ ex2 E2r
          obtain ⟨_, _, ⟨T40, L40, k40, n40⟩, -, X40, ⟨Lc40, hQ40, l40, y40, z40⟩, st40⟩ := X37.virtualBack hx (y := (⟨"com/example/hilera/hilera/ByteReader", "read", "()I"⟩ : MethodName)) (z := (⟨"com/example/hilera/hilera/ByteReader", "read", "()I"⟩ : MethodName)) hown (mvT hZ (hw _ (List.mem_of_getElem? (i := 29) rfl))) (mvT hZ (hw _ (List.mem_of_getElem? (i := 30) rfl))) (notFace_of_selects (args := #[]) (mvT hZ (hw _ (List.mem_of_getElem? (i := 32) rfl)))) (mvT hZ (hw _ (List.mem_of_getElem? (i := 32) rfl))) (mvT hZ (hw _ (List.mem_of_getElem? (i := 31) rfl))) (by decide) (backOf (W := 0) (rm5 l Z a0 hw [] r b k2 (own_vs p1) li (((sa + (1 : Int32)) + (1 : Int32)) + (1 : Int32)) (own_by p1 (((sa + (1 : Int32)) + (1 : Int32)) + (1 : Int32))) T35.heap n0 (Nat.le_trans (Nat.le_trans (Nat.le_trans (Nat.le_trans (Nat.le_trans (Nat.le_trans (Nat.le_trans (Nat.le_trans (Nat.le_trans (Nat.le_trans Z0 E2.1) (Keep.of_wr W5).1) (Keep.of_wr W8).1) (Keep.of_wr W11).1) (Keep.of_wr W14).1) E19.1) Kc.1) K0r.1) K1r.1) K2r.1) E2r Fb2r Fl2r Fp2r V2r ne_b_r g_r (own_ne _ _ u3) v3 (own_val p1 _ v3)) hZ (hw _ (List.mem_of_getElem? (i := 33) rfl)) (hw _ (List.mem_of_getElem? (i := 4) rfl)) (by decide) (by decide)) q40a q40c (g := (mkF m 205 #[.val (.int p1), .val (.int p2), .val (.int p3), .val (.ref b), .val (.int sa), .val (.int li), .val (.ref r), .val (.int ((((1 : Int32) &&& (1 : Int32)) &&& (1 : Int32)) &&& (1 : Int32))), .val (.int (((sa + (1 : Int32)) + (1 : Int32)) + (1 : Int32))), .val (.int ((own_by p1 ((sa + (1 : Int32)) + (1 : Int32))) &&& (255 : Int32)))] [(.ref r)])) rfl (by rw [hml]; rfl) (Steps.refl _) (argsL := []) (rest := []) (lenOf pd_1 rfl) rfl (by show 2 * 0 + _ ≤ _; exact Nat.le_of_eq rfl) (hb hby at_205) (fun _ _ => ⟨rfl, ex2, (by decide : 2 + 0 ≤ _), (by decide : 8 + 0 ≤ _)⟩)
          dsimp only [Pt.U, Pt.locs, Pt.cells, Pt.slots] at X40 l40 y40 z40 st40 hQ40
          subst l40 y40 z40
          obtain ⟨rfl, N40q, K3r, E3r, Fb3r, Fl3r, Fp3r⟩ := hQ40
          have N40 := Fr.app N37 N40q
          refine own_go (S' := T40.setTop (mkF m 208 #[.val (.int p1), .val (.int p2), .val (.int p3), .val (.ref b), .val (.int sa), .val (.int li), .val (.ref r), .val (.int ((((1 : Int32) &&& (1 : Int32)) &&& (1 : Int32)) &&& (1 : Int32))), .val (.int (((sa + (1 : Int32)) + (1 : Int32)) + (1 : Int32))), .val (.int ((own_by p1 ((sa + (1 : Int32)) + (1 : Int32))) &&& (255 : Int32)))] [(.int ((own_by p1 (((sa + (1 : Int32)) + (1 : Int32)) + (1 : Int32))) &&& (255 : Int32)))])) (fun t k => st40.trans k) ?_
          have V3r := V2r.keep K3r (ninS ne_b_r nin0)
          have go41 : ∀ t, Steps p.tables e below (T40.setTop (mkF m 217 #[.val (.int p1), .val (.int p2), .val (.int p3), .val (.ref b), .val (.int sa), .val (.int li), .val (.ref r), .val (.int ((((1 : Int32) &&& (1 : Int32)) &&& (1 : Int32)) &&& (1 : Int32))), .val (.int (((sa + (1 : Int32)) + (1 : Int32)) + (1 : Int32))), .val (.int ((own_by p1 (((sa + (1 : Int32)) + (1 : Int32)) + (1 : Int32))) &&& (255 : Int32)))] [(.int (((sa + (1 : Int32)) + (1 : Int32)) + (1 : Int32))), (.int p1), (.int ((own_by p1 (((sa + (1 : Int32)) + (1 : Int32)) + (1 : Int32))) &&& (255 : Int32))), (.int ((((1 : Int32) &&& (1 : Int32)) &&& (1 : Int32)) &&& (1 : Int32)))])) t → Steps p.tables e below (T40.setTop (mkF m 208 #[.val (.int p1), .val (.int p2), .val (.int p3), .val (.ref b), .val (.int sa), .val (.int li), .val (.ref r), .val (.int ((((1 : Int32) &&& (1 : Int32)) &&& (1 : Int32)) &&& (1 : Int32))), .val (.int (((sa + (1 : Int32)) + (1 : Int32)) + (1 : Int32))), .val (.int ((own_by p1 ((sa + (1 : Int32)) + (1 : Int32))) &&& (255 : Int32)))] [(.int ((own_by p1 (((sa + (1 : Int32)) + (1 : Int32)) + (1 : Int32))) &&& (255 : Int32)))])) t := by
            intro t kt
            show Steps p.tables e below (T40.setTop (mkF m 208 #[.val (.int p1), .val (.int p2), .val (.int p3), .val (.ref b), .val (.int sa), .val (.int li), .val (.ref r), .val (.int ((((1 : Int32) &&& (1 : Int32)) &&& (1 : Int32)) &&& (1 : Int32))), .val (.int (((sa + (1 : Int32)) + (1 : Int32)) + (1 : Int32))), .val (.int ((own_by p1 ((sa + (1 : Int32)) + (1 : Int32))) &&& (255 : Int32)))] [(.int ((own_by p1 (((sa + (1 : Int32)) + (1 : Int32)) + (1 : Int32))) &&& (255 : Int32)))])) _
            refine XS.istore X40.here hx rfl (hb hby at_208) rfl (l' := #[.val (.int p1), .val (.int p2), .val (.int p3), .val (.ref b), .val (.int sa), .val (.int li), .val (.ref r), .val (.int ((((1 : Int32) &&& (1 : Int32)) &&& (1 : Int32)) &&& (1 : Int32))), .val (.int (((sa + (1 : Int32)) + (1 : Int32)) + (1 : Int32))), .val (.int ((own_by p1 (((sa + (1 : Int32)) + (1 : Int32)) + (1 : Int32))) &&& (255 : Int32)))]) rfl ?_
            show Steps p.tables e below (T40.setTop (mkF m 210 #[.val (.int p1), .val (.int p2), .val (.int p3), .val (.ref b), .val (.int sa), .val (.int li), .val (.ref r), .val (.int ((((1 : Int32) &&& (1 : Int32)) &&& (1 : Int32)) &&& (1 : Int32))), .val (.int (((sa + (1 : Int32)) + (1 : Int32)) + (1 : Int32))), .val (.int ((own_by p1 (((sa + (1 : Int32)) + (1 : Int32)) + (1 : Int32))) &&& (255 : Int32)))] [])) _
            refine XS.iload X40.here hx rfl (hb hby at_210) rfl ?_
            show Steps p.tables e below (T40.setTop (mkF m 212 #[.val (.int p1), .val (.int p2), .val (.int p3), .val (.ref b), .val (.int sa), .val (.int li), .val (.ref r), .val (.int ((((1 : Int32) &&& (1 : Int32)) &&& (1 : Int32)) &&& (1 : Int32))), .val (.int (((sa + (1 : Int32)) + (1 : Int32)) + (1 : Int32))), .val (.int ((own_by p1 (((sa + (1 : Int32)) + (1 : Int32)) + (1 : Int32))) &&& (255 : Int32)))] [(.int ((((1 : Int32) &&& (1 : Int32)) &&& (1 : Int32)) &&& (1 : Int32)))])) _
            refine XS.iload X40.here hx rfl (hb hby at_212) rfl ?_
            show Steps p.tables e below (T40.setTop (mkF m 214 #[.val (.int p1), .val (.int p2), .val (.int p3), .val (.ref b), .val (.int sa), .val (.int li), .val (.ref r), .val (.int ((((1 : Int32) &&& (1 : Int32)) &&& (1 : Int32)) &&& (1 : Int32))), .val (.int (((sa + (1 : Int32)) + (1 : Int32)) + (1 : Int32))), .val (.int ((own_by p1 (((sa + (1 : Int32)) + (1 : Int32)) + (1 : Int32))) &&& (255 : Int32)))] [(.int ((own_by p1 (((sa + (1 : Int32)) + (1 : Int32)) + (1 : Int32))) &&& (255 : Int32))), (.int ((((1 : Int32) &&& (1 : Int32)) &&& (1 : Int32)) &&& (1 : Int32)))])) _
            refine XS.iloadN X40.here hx rfl (hb hby at_214) rfl ?_
            show Steps p.tables e below (T40.setTop (mkF m 215 #[.val (.int p1), .val (.int p2), .val (.int p3), .val (.ref b), .val (.int sa), .val (.int li), .val (.ref r), .val (.int ((((1 : Int32) &&& (1 : Int32)) &&& (1 : Int32)) &&& (1 : Int32))), .val (.int (((sa + (1 : Int32)) + (1 : Int32)) + (1 : Int32))), .val (.int ((own_by p1 (((sa + (1 : Int32)) + (1 : Int32)) + (1 : Int32))) &&& (255 : Int32)))] [(.int p1), (.int ((own_by p1 (((sa + (1 : Int32)) + (1 : Int32)) + (1 : Int32))) &&& (255 : Int32))), (.int ((((1 : Int32) &&& (1 : Int32)) &&& (1 : Int32)) &&& (1 : Int32)))])) _
            refine XS.iload X40.here hx rfl (hb hby at_215) rfl ?_
            exact kt
          refine own_go go41 ?_
          obtain ⟨_, _, ⟨T42, L42, k42, n42⟩, -, X42, ⟨Lc42, hQ42, l42, y42, z42⟩, st42⟩ := Jvm.LawKit.callS X40 hx (y := (⟨"com/example/hilera/hilera/ByteReaderReadPinLaw", "expected", "(II)I"⟩ : MethodName)) hown (mvT hZ (hw _ (List.mem_of_getElem? (i := 34) rfl))) (mvT hZ (hw _ (List.mem_of_getElem? (i := 35) rfl))) (mvT hZ (hw _ (List.mem_of_getElem? (i := 36) rfl))) (mvT hZ (hw _ (List.mem_of_getElem? (i := 37) rfl))) (by decide) (backOf (W := 2) (rm6 l Z a0 hw [] p1 (((sa + (1 : Int32)) + (1 : Int32)) + (1 : Int32)) T40.heap n0 (Nat.le_trans (Nat.le_trans (Nat.le_trans (Nat.le_trans (Nat.le_trans (Nat.le_trans (Nat.le_trans (Nat.le_trans (Nat.le_trans (Nat.le_trans (Nat.le_trans Z0 E2.1) (Keep.of_wr W5).1) (Keep.of_wr W8).1) (Keep.of_wr W11).1) (Keep.of_wr W14).1) E19.1) Kc.1) K0r.1) K1r.1) K2r.1) K3r.1)) hZ (hw _ (List.mem_of_getElem? (i := 37) rfl)) (hw _ (List.mem_of_getElem? (i := 36) rfl)) (by decide) (by decide)) (g := (mkF m 217 #[.val (.int p1), .val (.int p2), .val (.int p3), .val (.ref b), .val (.int sa), .val (.int li), .val (.ref r), .val (.int ((((1 : Int32) &&& (1 : Int32)) &&& (1 : Int32)) &&& (1 : Int32))), .val (.int (((sa + (1 : Int32)) + (1 : Int32)) + (1 : Int32))), .val (.int ((own_by p1 (((sa + (1 : Int32)) + (1 : Int32)) + (1 : Int32))) &&& (255 : Int32)))] [(.int (((sa + (1 : Int32)) + (1 : Int32)) + (1 : Int32))), (.int p1), (.int ((own_by p1 (((sa + (1 : Int32)) + (1 : Int32)) + (1 : Int32))) &&& (255 : Int32))), (.int ((((1 : Int32) &&& (1 : Int32)) &&& (1 : Int32)) &&& (1 : Int32)))])) rfl (by rw [hml]; rfl) (argsL := [(.int p1), (.int (((sa + (1 : Int32)) + (1 : Int32)) + (1 : Int32)))]) (rest := [(.int ((own_by p1 (((sa + (1 : Int32)) + (1 : Int32)) + (1 : Int32))) &&& (255 : Int32))), (.int ((((1 : Int32) &&& (1 : Int32)) &&& (1 : Int32)) &&& (1 : Int32)))]) (lenOf pd_2 rfl) rfl (by show 2 * 0 + _ ≤ _; exact Nat.le_of_eq rfl) (hb hby at_217) (fun _ _ => ⟨rfl, rfl, (by decide : 2 + 0 ≤ _), (by decide : 8 + 0 ≤ _)⟩)
          dsimp only [Pt.U, Pt.locs, Pt.cells, Pt.slots] at X42 l42 y42 z42 st42 hQ42
          subst l42 y42 z42
          obtain ⟨rfl, N42q, ex3⟩ := hQ42
          have N42 := Fr.app N40 N42q
          refine own_go (S' := T42.setTop (mkF m 220 #[.val (.int p1), .val (.int p2), .val (.int p3), .val (.ref b), .val (.int sa), .val (.int li), .val (.ref r), .val (.int ((((1 : Int32) &&& (1 : Int32)) &&& (1 : Int32)) &&& (1 : Int32))), .val (.int (((sa + (1 : Int32)) + (1 : Int32)) + (1 : Int32))), .val (.int ((own_by p1 (((sa + (1 : Int32)) + (1 : Int32)) + (1 : Int32))) &&& (255 : Int32)))] [(.int (own_exp p1 (((sa + (1 : Int32)) + (1 : Int32)) + (1 : Int32)))), (.int ((own_by p1 (((sa + (1 : Int32)) + (1 : Int32)) + (1 : Int32))) &&& (255 : Int32))), (.int ((((1 : Int32) &&& (1 : Int32)) &&& (1 : Int32)) &&& (1 : Int32)))])) st42 ?_
          have go43 : ∀ t, Steps p.tables e below (T42.setTop (mkF m 251 #[.val (.int p1), .val (.int p2), .val (.int p3), .val (.ref b), .val (.int sa), .val (.int li), .val (.ref r), .val (.int (((((1 : Int32) &&& (1 : Int32)) &&& (1 : Int32)) &&& (1 : Int32)) &&& (1 : Int32))), .val (.int ((((sa + (1 : Int32)) + (1 : Int32)) + (1 : Int32)) + (1 : Int32))), .val (.int ((own_by p1 (((sa + (1 : Int32)) + (1 : Int32)) + (1 : Int32))) &&& (255 : Int32)))] [(.ref r)])) t → Steps p.tables e below (T42.setTop (mkF m 220 #[.val (.int p1), .val (.int p2), .val (.int p3), .val (.ref b), .val (.int sa), .val (.int li), .val (.ref r), .val (.int ((((1 : Int32) &&& (1 : Int32)) &&& (1 : Int32)) &&& (1 : Int32))), .val (.int (((sa + (1 : Int32)) + (1 : Int32)) + (1 : Int32))), .val (.int ((own_by p1 (((sa + (1 : Int32)) + (1 : Int32)) + (1 : Int32))) &&& (255 : Int32)))] [(.int (own_exp p1 (((sa + (1 : Int32)) + (1 : Int32)) + (1 : Int32)))), (.int ((own_by p1 (((sa + (1 : Int32)) + (1 : Int32)) + (1 : Int32))) &&& (255 : Int32))), (.int ((((1 : Int32) &&& (1 : Int32)) &&& (1 : Int32)) &&& (1 : Int32)))])) t := by
            intro t kt
            show Steps p.tables e below (T42.setTop (mkF m 220 #[.val (.int p1), .val (.int p2), .val (.int p3), .val (.ref b), .val (.int sa), .val (.int li), .val (.ref r), .val (.int ((((1 : Int32) &&& (1 : Int32)) &&& (1 : Int32)) &&& (1 : Int32))), .val (.int (((sa + (1 : Int32)) + (1 : Int32)) + (1 : Int32))), .val (.int ((own_by p1 (((sa + (1 : Int32)) + (1 : Int32)) + (1 : Int32))) &&& (255 : Int32)))] [(.int (own_exp p1 (((sa + (1 : Int32)) + (1 : Int32)) + (1 : Int32)))), (.int ((own_by p1 (((sa + (1 : Int32)) + (1 : Int32)) + (1 : Int32))) &&& (255 : Int32))), (.int ((((1 : Int32) &&& (1 : Int32)) &&& (1 : Int32)) &&& (1 : Int32)))])) _
            refine XS.icmpNo X42.here hx rfl (hb hby at_220) rfl (teq (own_rd p1 _ v3)).2 ?_
            show Steps p.tables e below (T42.setTop (mkF m 223 #[.val (.int p1), .val (.int p2), .val (.int p3), .val (.ref b), .val (.int sa), .val (.int li), .val (.ref r), .val (.int ((((1 : Int32) &&& (1 : Int32)) &&& (1 : Int32)) &&& (1 : Int32))), .val (.int (((sa + (1 : Int32)) + (1 : Int32)) + (1 : Int32))), .val (.int ((own_by p1 (((sa + (1 : Int32)) + (1 : Int32)) + (1 : Int32))) &&& (255 : Int32)))] [(.int ((((1 : Int32) &&& (1 : Int32)) &&& (1 : Int32)) &&& (1 : Int32)))])) _
            refine XS.iconst X42.here hx rfl (hb hby at_223) ?_
            show Steps p.tables e below (T42.setTop (mkF m 224 #[.val (.int p1), .val (.int p2), .val (.int p3), .val (.ref b), .val (.int sa), .val (.int li), .val (.ref r), .val (.int ((((1 : Int32) &&& (1 : Int32)) &&& (1 : Int32)) &&& (1 : Int32))), .val (.int (((sa + (1 : Int32)) + (1 : Int32)) + (1 : Int32))), .val (.int ((own_by p1 (((sa + (1 : Int32)) + (1 : Int32)) + (1 : Int32))) &&& (255 : Int32)))] [(.int (1 : Int32)), (.int ((((1 : Int32) &&& (1 : Int32)) &&& (1 : Int32)) &&& (1 : Int32)))])) _
            refine XS.goto X42.here hx rfl (pc0 := 224) (pc' := 228) rfl (hb hby at_224) (by decide) (by decide) ?_
            show Steps p.tables e below (T42.setTop (mkF m 228 #[.val (.int p1), .val (.int p2), .val (.int p3), .val (.ref b), .val (.int sa), .val (.int li), .val (.ref r), .val (.int ((((1 : Int32) &&& (1 : Int32)) &&& (1 : Int32)) &&& (1 : Int32))), .val (.int (((sa + (1 : Int32)) + (1 : Int32)) + (1 : Int32))), .val (.int ((own_by p1 (((sa + (1 : Int32)) + (1 : Int32)) + (1 : Int32))) &&& (255 : Int32)))] [(.int (1 : Int32)), (.int ((((1 : Int32) &&& (1 : Int32)) &&& (1 : Int32)) &&& (1 : Int32)))])) _
            refine XS.iand X42.here hx rfl (hb hby at_228) rfl ?_
            show Steps p.tables e below (T42.setTop (mkF m 229 #[.val (.int p1), .val (.int p2), .val (.int p3), .val (.ref b), .val (.int sa), .val (.int li), .val (.ref r), .val (.int ((((1 : Int32) &&& (1 : Int32)) &&& (1 : Int32)) &&& (1 : Int32))), .val (.int (((sa + (1 : Int32)) + (1 : Int32)) + (1 : Int32))), .val (.int ((own_by p1 (((sa + (1 : Int32)) + (1 : Int32)) + (1 : Int32))) &&& (255 : Int32)))] [(.int (((((1 : Int32) &&& (1 : Int32)) &&& (1 : Int32)) &&& (1 : Int32)) &&& (1 : Int32)))])) _
            refine XS.istore X42.here hx rfl (hb hby at_229) rfl (l' := #[.val (.int p1), .val (.int p2), .val (.int p3), .val (.ref b), .val (.int sa), .val (.int li), .val (.ref r), .val (.int (((((1 : Int32) &&& (1 : Int32)) &&& (1 : Int32)) &&& (1 : Int32)) &&& (1 : Int32))), .val (.int (((sa + (1 : Int32)) + (1 : Int32)) + (1 : Int32))), .val (.int ((own_by p1 (((sa + (1 : Int32)) + (1 : Int32)) + (1 : Int32))) &&& (255 : Int32)))]) rfl ?_
            show Steps p.tables e below (T42.setTop (mkF m 231 #[.val (.int p1), .val (.int p2), .val (.int p3), .val (.ref b), .val (.int sa), .val (.int li), .val (.ref r), .val (.int (((((1 : Int32) &&& (1 : Int32)) &&& (1 : Int32)) &&& (1 : Int32)) &&& (1 : Int32))), .val (.int (((sa + (1 : Int32)) + (1 : Int32)) + (1 : Int32))), .val (.int ((own_by p1 (((sa + (1 : Int32)) + (1 : Int32)) + (1 : Int32))) &&& (255 : Int32)))] [])) _
            refine XS.iload X42.here hx rfl (hb hby at_231) rfl ?_
            show Steps p.tables e below (T42.setTop (mkF m 233 #[.val (.int p1), .val (.int p2), .val (.int p3), .val (.ref b), .val (.int sa), .val (.int li), .val (.ref r), .val (.int (((((1 : Int32) &&& (1 : Int32)) &&& (1 : Int32)) &&& (1 : Int32)) &&& (1 : Int32))), .val (.int (((sa + (1 : Int32)) + (1 : Int32)) + (1 : Int32))), .val (.int ((own_by p1 (((sa + (1 : Int32)) + (1 : Int32)) + (1 : Int32))) &&& (255 : Int32)))] [(.int (((sa + (1 : Int32)) + (1 : Int32)) + (1 : Int32)))])) _
            refine XS.iconst X42.here hx rfl (hb hby at_233) ?_
            show Steps p.tables e below (T42.setTop (mkF m 234 #[.val (.int p1), .val (.int p2), .val (.int p3), .val (.ref b), .val (.int sa), .val (.int li), .val (.ref r), .val (.int (((((1 : Int32) &&& (1 : Int32)) &&& (1 : Int32)) &&& (1 : Int32)) &&& (1 : Int32))), .val (.int (((sa + (1 : Int32)) + (1 : Int32)) + (1 : Int32))), .val (.int ((own_by p1 (((sa + (1 : Int32)) + (1 : Int32)) + (1 : Int32))) &&& (255 : Int32)))] [(.int (1 : Int32)), (.int (((sa + (1 : Int32)) + (1 : Int32)) + (1 : Int32)))])) _
            refine XS.iadd X42.here hx rfl (hb hby at_234) rfl ?_
            show Steps p.tables e below (T42.setTop (mkF m 235 #[.val (.int p1), .val (.int p2), .val (.int p3), .val (.ref b), .val (.int sa), .val (.int li), .val (.ref r), .val (.int (((((1 : Int32) &&& (1 : Int32)) &&& (1 : Int32)) &&& (1 : Int32)) &&& (1 : Int32))), .val (.int (((sa + (1 : Int32)) + (1 : Int32)) + (1 : Int32))), .val (.int ((own_by p1 (((sa + (1 : Int32)) + (1 : Int32)) + (1 : Int32))) &&& (255 : Int32)))] [(.int ((((sa + (1 : Int32)) + (1 : Int32)) + (1 : Int32)) + (1 : Int32)))])) _
            refine XS.istore X42.here hx rfl (hb hby at_235) rfl (l' := #[.val (.int p1), .val (.int p2), .val (.int p3), .val (.ref b), .val (.int sa), .val (.int li), .val (.ref r), .val (.int (((((1 : Int32) &&& (1 : Int32)) &&& (1 : Int32)) &&& (1 : Int32)) &&& (1 : Int32))), .val (.int ((((sa + (1 : Int32)) + (1 : Int32)) + (1 : Int32)) + (1 : Int32))), .val (.int ((own_by p1 (((sa + (1 : Int32)) + (1 : Int32)) + (1 : Int32))) &&& (255 : Int32)))]) rfl ?_
            show Steps p.tables e below (T42.setTop (mkF m 237 #[.val (.int p1), .val (.int p2), .val (.int p3), .val (.ref b), .val (.int sa), .val (.int li), .val (.ref r), .val (.int (((((1 : Int32) &&& (1 : Int32)) &&& (1 : Int32)) &&& (1 : Int32)) &&& (1 : Int32))), .val (.int ((((sa + (1 : Int32)) + (1 : Int32)) + (1 : Int32)) + (1 : Int32))), .val (.int ((own_by p1 (((sa + (1 : Int32)) + (1 : Int32)) + (1 : Int32))) &&& (255 : Int32)))] [])) _
            refine XS.iload X42.here hx rfl (hb hby at_237) rfl ?_
            show Steps p.tables e below (T42.setTop (mkF m 239 #[.val (.int p1), .val (.int p2), .val (.int p3), .val (.ref b), .val (.int sa), .val (.int li), .val (.ref r), .val (.int (((((1 : Int32) &&& (1 : Int32)) &&& (1 : Int32)) &&& (1 : Int32)) &&& (1 : Int32))), .val (.int ((((sa + (1 : Int32)) + (1 : Int32)) + (1 : Int32)) + (1 : Int32))), .val (.int ((own_by p1 (((sa + (1 : Int32)) + (1 : Int32)) + (1 : Int32))) &&& (255 : Int32)))] [(.int (((((1 : Int32) &&& (1 : Int32)) &&& (1 : Int32)) &&& (1 : Int32)) &&& (1 : Int32)))])) _
            refine XS.ifNo X42.here hx rfl (hb hby at_239) rfl ((if0 _ _).trans (feq (by decide)).1) ?_
            show Steps p.tables e below (T42.setTop (mkF m 242 #[.val (.int p1), .val (.int p2), .val (.int p3), .val (.ref b), .val (.int sa), .val (.int li), .val (.ref r), .val (.int (((((1 : Int32) &&& (1 : Int32)) &&& (1 : Int32)) &&& (1 : Int32)) &&& (1 : Int32))), .val (.int ((((sa + (1 : Int32)) + (1 : Int32)) + (1 : Int32)) + (1 : Int32))), .val (.int ((own_by p1 (((sa + (1 : Int32)) + (1 : Int32)) + (1 : Int32))) &&& (255 : Int32)))] [])) _
            refine XS.iload X42.here hx rfl (hb hby at_242) rfl ?_
            show Steps p.tables e below (T42.setTop (mkF m 244 #[.val (.int p1), .val (.int p2), .val (.int p3), .val (.ref b), .val (.int sa), .val (.int li), .val (.ref r), .val (.int (((((1 : Int32) &&& (1 : Int32)) &&& (1 : Int32)) &&& (1 : Int32)) &&& (1 : Int32))), .val (.int ((((sa + (1 : Int32)) + (1 : Int32)) + (1 : Int32)) + (1 : Int32))), .val (.int ((own_by p1 (((sa + (1 : Int32)) + (1 : Int32)) + (1 : Int32))) &&& (255 : Int32)))] [(.int ((((sa + (1 : Int32)) + (1 : Int32)) + (1 : Int32)) + (1 : Int32)))])) _
            refine XS.iload X42.here hx rfl (hb hby at_244) rfl ?_
            show Steps p.tables e below (T42.setTop (mkF m 246 #[.val (.int p1), .val (.int p2), .val (.int p3), .val (.ref b), .val (.int sa), .val (.int li), .val (.ref r), .val (.int (((((1 : Int32) &&& (1 : Int32)) &&& (1 : Int32)) &&& (1 : Int32)) &&& (1 : Int32))), .val (.int ((((sa + (1 : Int32)) + (1 : Int32)) + (1 : Int32)) + (1 : Int32))), .val (.int ((own_by p1 (((sa + (1 : Int32)) + (1 : Int32)) + (1 : Int32))) &&& (255 : Int32)))] [(.int li), (.int ((((sa + (1 : Int32)) + (1 : Int32)) + (1 : Int32)) + (1 : Int32)))])) _
            refine XS.icmpNo X42.here hx rfl (hb hby at_246) rfl (teq (Int32.toInt_inj.mp (by omega))).2 ?_
            show Steps p.tables e below (T42.setTop (mkF m 249 #[.val (.int p1), .val (.int p2), .val (.int p3), .val (.ref b), .val (.int sa), .val (.int li), .val (.ref r), .val (.int (((((1 : Int32) &&& (1 : Int32)) &&& (1 : Int32)) &&& (1 : Int32)) &&& (1 : Int32))), .val (.int ((((sa + (1 : Int32)) + (1 : Int32)) + (1 : Int32)) + (1 : Int32))), .val (.int ((own_by p1 (((sa + (1 : Int32)) + (1 : Int32)) + (1 : Int32))) &&& (255 : Int32)))] [])) _
            refine XS.aload X42.here hx rfl (hb hby at_249) rfl rfl ?_
            exact kt
          refine own_go go43 ?_
          obtain ⟨cq44, kq44, q44a, q44b, q44c⟩ := isOf hZ ex3 E3r
          obtain ⟨_, _, ⟨T44, L44, k44, n44⟩, -, X44, ⟨Lc44, hQ44, l44, y44, z44⟩, st44⟩ := X42.virtualBack hx (y := (⟨"com/example/hilera/hilera/ByteReader", "position", "()I"⟩ : MethodName)) (z := (⟨"com/example/hilera/hilera/ByteReader", "position", "()I"⟩ : MethodName)) hown (mvT hZ (hw _ (List.mem_of_getElem? (i := 19) rfl))) (mvT hZ (hw _ (List.mem_of_getElem? (i := 20) rfl))) (notFace_of_selects (args := #[]) (mvT hZ (hw _ (List.mem_of_getElem? (i := 22) rfl)))) (mvT hZ (hw _ (List.mem_of_getElem? (i := 22) rfl))) (mvT hZ (hw _ (List.mem_of_getElem? (i := 21) rfl))) (by decide) (backOf (W := 0) (rm3 l Z a0 hw [] r ((((sa + (1 : Int32)) + (1 : Int32)) + (1 : Int32)) + (1 : Int32)) T40.heap n0 (Nat.le_trans (Nat.le_trans (Nat.le_trans (Nat.le_trans (Nat.le_trans (Nat.le_trans (Nat.le_trans (Nat.le_trans (Nat.le_trans (Nat.le_trans (Nat.le_trans Z0 E2.1) (Keep.of_wr W5).1) (Keep.of_wr W8).1) (Keep.of_wr W11).1) (Keep.of_wr W14).1) E19.1) Kc.1) K0r.1) K1r.1) K2r.1) K3r.1) Fp3r) hZ (hw _ (List.mem_of_getElem? (i := 23) rfl)) (hw _ (List.mem_of_getElem? (i := 4) rfl)) (by decide) (by decide)) q44a q44c (g := (mkF m 251 #[.val (.int p1), .val (.int p2), .val (.int p3), .val (.ref b), .val (.int sa), .val (.int li), .val (.ref r), .val (.int (((((1 : Int32) &&& (1 : Int32)) &&& (1 : Int32)) &&& (1 : Int32)) &&& (1 : Int32))), .val (.int ((((sa + (1 : Int32)) + (1 : Int32)) + (1 : Int32)) + (1 : Int32))), .val (.int ((own_by p1 (((sa + (1 : Int32)) + (1 : Int32)) + (1 : Int32))) &&& (255 : Int32)))] [(.ref r)])) rfl (by rw [hml]; rfl) (Steps.refl _) (argsL := []) (rest := []) (lenOf pd_1 rfl) rfl (by show 2 * 0 + _ ≤ _; exact Nat.le_of_eq rfl) (hb hby at_251) (fun _ _ => ⟨rfl, ex3, (by decide : 2 + 0 ≤ _), (by decide : 8 + 0 ≤ _)⟩)
          dsimp only [Pt.U, Pt.locs, Pt.cells, Pt.slots] at X44 l44 y44 z44 st44 hQ44
          subst l44 y44 z44
          obtain ⟨rfl, N44q, ep⟩ := hQ44
          have N44 := Fr.app N42 N44q
          refine own_go (S' := T44.setTop (mkF m 254 #[.val (.int p1), .val (.int p2), .val (.int p3), .val (.ref b), .val (.int sa), .val (.int li), .val (.ref r), .val (.int (((((1 : Int32) &&& (1 : Int32)) &&& (1 : Int32)) &&& (1 : Int32)) &&& (1 : Int32))), .val (.int ((((sa + (1 : Int32)) + (1 : Int32)) + (1 : Int32)) + (1 : Int32))), .val (.int ((own_by p1 (((sa + (1 : Int32)) + (1 : Int32)) + (1 : Int32))) &&& (255 : Int32)))] [(.int ((((sa + (1 : Int32)) + (1 : Int32)) + (1 : Int32)) + (1 : Int32)))])) (fun t k => st44.trans k) ?_
          have go45 : ∀ t, Steps p.tables e below (T44.setTop (mkF m 261 #[.val (.int p1), .val (.int p2), .val (.int p3), .val (.ref b), .val (.int sa), .val (.int li), .val (.ref r), .val (.int (((((1 : Int32) &&& (1 : Int32)) &&& (1 : Int32)) &&& (1 : Int32)) &&& (1 : Int32))), .val (.int ((((sa + (1 : Int32)) + (1 : Int32)) + (1 : Int32)) + (1 : Int32))), .val (.int ((own_by p1 (((sa + (1 : Int32)) + (1 : Int32)) + (1 : Int32))) &&& (255 : Int32)))] [(.ref r)])) t → Steps p.tables e below (T44.setTop (mkF m 254 #[.val (.int p1), .val (.int p2), .val (.int p3), .val (.ref b), .val (.int sa), .val (.int li), .val (.ref r), .val (.int (((((1 : Int32) &&& (1 : Int32)) &&& (1 : Int32)) &&& (1 : Int32)) &&& (1 : Int32))), .val (.int ((((sa + (1 : Int32)) + (1 : Int32)) + (1 : Int32)) + (1 : Int32))), .val (.int ((own_by p1 (((sa + (1 : Int32)) + (1 : Int32)) + (1 : Int32))) &&& (255 : Int32)))] [(.int ((((sa + (1 : Int32)) + (1 : Int32)) + (1 : Int32)) + (1 : Int32)))])) t := by
            intro t kt
            show Steps p.tables e below (T44.setTop (mkF m 254 #[.val (.int p1), .val (.int p2), .val (.int p3), .val (.ref b), .val (.int sa), .val (.int li), .val (.ref r), .val (.int (((((1 : Int32) &&& (1 : Int32)) &&& (1 : Int32)) &&& (1 : Int32)) &&& (1 : Int32))), .val (.int ((((sa + (1 : Int32)) + (1 : Int32)) + (1 : Int32)) + (1 : Int32))), .val (.int ((own_by p1 (((sa + (1 : Int32)) + (1 : Int32)) + (1 : Int32))) &&& (255 : Int32)))] [(.int ((((sa + (1 : Int32)) + (1 : Int32)) + (1 : Int32)) + (1 : Int32)))])) _
            refine XS.iload X44.here hx rfl (hb hby at_254) rfl ?_
            show Steps p.tables e below (T44.setTop (mkF m 256 #[.val (.int p1), .val (.int p2), .val (.int p3), .val (.ref b), .val (.int sa), .val (.int li), .val (.ref r), .val (.int (((((1 : Int32) &&& (1 : Int32)) &&& (1 : Int32)) &&& (1 : Int32)) &&& (1 : Int32))), .val (.int ((((sa + (1 : Int32)) + (1 : Int32)) + (1 : Int32)) + (1 : Int32))), .val (.int ((own_by p1 (((sa + (1 : Int32)) + (1 : Int32)) + (1 : Int32))) &&& (255 : Int32)))] [(.int li), (.int ((((sa + (1 : Int32)) + (1 : Int32)) + (1 : Int32)) + (1 : Int32)))])) _
            refine XS.icmpNo X44.here hx rfl (hb hby at_256) rfl (teq (Int32.toInt_inj.mp (by omega))).2 ?_
            show Steps p.tables e below (T44.setTop (mkF m 259 #[.val (.int p1), .val (.int p2), .val (.int p3), .val (.ref b), .val (.int sa), .val (.int li), .val (.ref r), .val (.int (((((1 : Int32) &&& (1 : Int32)) &&& (1 : Int32)) &&& (1 : Int32)) &&& (1 : Int32))), .val (.int ((((sa + (1 : Int32)) + (1 : Int32)) + (1 : Int32)) + (1 : Int32))), .val (.int ((own_by p1 (((sa + (1 : Int32)) + (1 : Int32)) + (1 : Int32))) &&& (255 : Int32)))] [])) _
            refine XS.aload X44.here hx rfl (hb hby at_259) rfl rfl ?_
            exact kt
          refine own_go go45 ?_
          obtain ⟨cq46, kq46, q46a, q46b, q46c⟩ := isOf hZ ep E3r
          obtain ⟨_, _, ⟨T46, L46, k46, n46⟩, -, X46, ⟨Lc46, hQ46, l46, y46, z46⟩, st46⟩ := X44.virtualBack hx (y := (⟨"com/example/hilera/hilera/ByteReader", "hasRemaining", "()Z"⟩ : MethodName)) (z := (⟨"com/example/hilera/hilera/ByteReader", "hasRemaining", "()Z"⟩ : MethodName)) hown (mvT hZ (hw _ (List.mem_of_getElem? (i := 24) rfl))) (mvT hZ (hw _ (List.mem_of_getElem? (i := 25) rfl))) (notFace_of_selects (args := #[]) (mvT hZ (hw _ (List.mem_of_getElem? (i := 27) rfl)))) (mvT hZ (hw _ (List.mem_of_getElem? (i := 27) rfl))) (mvT hZ (hw _ (List.mem_of_getElem? (i := 26) rfl))) (by decide) (backOf (W := 0) (rm4 l Z a0 hw [] r ((((sa + (1 : Int32)) + (1 : Int32)) + (1 : Int32)) + (1 : Int32)) li T40.heap n0 (Nat.le_trans (Nat.le_trans (Nat.le_trans (Nat.le_trans (Nat.le_trans (Nat.le_trans (Nat.le_trans (Nat.le_trans (Nat.le_trans (Nat.le_trans (Nat.le_trans Z0 E2.1) (Keep.of_wr W5).1) (Keep.of_wr W8).1) (Keep.of_wr W11).1) (Keep.of_wr W14).1) E19.1) Kc.1) K0r.1) K1r.1) K2r.1) K3r.1) Fp3r Fl3r) hZ (hw _ (List.mem_of_getElem? (i := 28) rfl)) (hw _ (List.mem_of_getElem? (i := 4) rfl)) (by decide) (by decide)) q46a q46c (g := (mkF m 261 #[.val (.int p1), .val (.int p2), .val (.int p3), .val (.ref b), .val (.int sa), .val (.int li), .val (.ref r), .val (.int (((((1 : Int32) &&& (1 : Int32)) &&& (1 : Int32)) &&& (1 : Int32)) &&& (1 : Int32))), .val (.int ((((sa + (1 : Int32)) + (1 : Int32)) + (1 : Int32)) + (1 : Int32))), .val (.int ((own_by p1 (((sa + (1 : Int32)) + (1 : Int32)) + (1 : Int32))) &&& (255 : Int32)))] [(.ref r)])) rfl (by rw [hml]; rfl) (Steps.refl _) (argsL := []) (rest := []) (lenOf pd_3 rfl) rfl (by show 2 * 0 + _ ≤ _; exact Nat.le_of_eq rfl) (hb hby at_261) (fun _ _ => ⟨rfl, ep, (by decide : 2 + 0 ≤ _), (by decide : 8 + 0 ≤ _)⟩)
          dsimp only [Pt.U, Pt.locs, Pt.cells, Pt.slots] at X46 l46 y46 z46 st46 hQ46
          subst l46 y46 z46
          obtain ⟨rfl, N46q, eh⟩ := hQ46
          have N46 := Fr.app N44 N46q
          refine own_go (S' := T46.setTop (mkF m 264 #[.val (.int p1), .val (.int p2), .val (.int p3), .val (.ref b), .val (.int sa), .val (.int li), .val (.ref r), .val (.int (((((1 : Int32) &&& (1 : Int32)) &&& (1 : Int32)) &&& (1 : Int32)) &&& (1 : Int32))), .val (.int ((((sa + (1 : Int32)) + (1 : Int32)) + (1 : Int32)) + (1 : Int32))), .val (.int ((own_by p1 (((sa + (1 : Int32)) + (1 : Int32)) + (1 : Int32))) &&& (255 : Int32)))] [(.int (own_rem ((((sa + (1 : Int32)) + (1 : Int32)) + (1 : Int32)) + (1 : Int32)) li))])) (fun t k => st46.trans k) ?_
          have go47 : ∀ t, Steps p.tables e below (T46.setTop (mkF m 272 #[.val (.int p1), .val (.int p2), .val (.int p3), .val (.ref b), .val (.int sa), .val (.int li), .val (.ref r), .val (.int (((((1 : Int32) &&& (1 : Int32)) &&& (1 : Int32)) &&& (1 : Int32)) &&& (1 : Int32))), .val (.int ((((sa + (1 : Int32)) + (1 : Int32)) + (1 : Int32)) + (1 : Int32))), .val (.int ((own_by p1 (((sa + (1 : Int32)) + (1 : Int32)) + (1 : Int32))) &&& (255 : Int32)))] [(.int (1 : Int32))])) t → Steps p.tables e below (T46.setTop (mkF m 264 #[.val (.int p1), .val (.int p2), .val (.int p3), .val (.ref b), .val (.int sa), .val (.int li), .val (.ref r), .val (.int (((((1 : Int32) &&& (1 : Int32)) &&& (1 : Int32)) &&& (1 : Int32)) &&& (1 : Int32))), .val (.int ((((sa + (1 : Int32)) + (1 : Int32)) + (1 : Int32)) + (1 : Int32))), .val (.int ((own_by p1 (((sa + (1 : Int32)) + (1 : Int32)) + (1 : Int32))) &&& (255 : Int32)))] [(.int (own_rem ((((sa + (1 : Int32)) + (1 : Int32)) + (1 : Int32)) + (1 : Int32)) li))])) t := by
            intro t kt
            show Steps p.tables e below (T46.setTop (mkF m 264 #[.val (.int p1), .val (.int p2), .val (.int p3), .val (.ref b), .val (.int sa), .val (.int li), .val (.ref r), .val (.int (((((1 : Int32) &&& (1 : Int32)) &&& (1 : Int32)) &&& (1 : Int32)) &&& (1 : Int32))), .val (.int ((((sa + (1 : Int32)) + (1 : Int32)) + (1 : Int32)) + (1 : Int32))), .val (.int ((own_by p1 (((sa + (1 : Int32)) + (1 : Int32)) + (1 : Int32))) &&& (255 : Int32)))] [(.int (own_rem ((((sa + (1 : Int32)) + (1 : Int32)) + (1 : Int32)) + (1 : Int32)) li))])) _
            refine XS.ifNo X46.here hx rfl (hb hby at_264) rfl ((if0 _ _).trans (teq (own_rem0 _ _ (Int32.toInt_inj.mp (by omega)))).2) ?_
            show Steps p.tables e below (T46.setTop (mkF m 267 #[.val (.int p1), .val (.int p2), .val (.int p3), .val (.ref b), .val (.int sa), .val (.int li), .val (.ref r), .val (.int (((((1 : Int32) &&& (1 : Int32)) &&& (1 : Int32)) &&& (1 : Int32)) &&& (1 : Int32))), .val (.int ((((sa + (1 : Int32)) + (1 : Int32)) + (1 : Int32)) + (1 : Int32))), .val (.int ((own_by p1 (((sa + (1 : Int32)) + (1 : Int32)) + (1 : Int32))) &&& (255 : Int32)))] [])) _
            refine XS.iconst X46.here hx rfl (hb hby at_267) ?_
            show Steps p.tables e below (T46.setTop (mkF m 268 #[.val (.int p1), .val (.int p2), .val (.int p3), .val (.ref b), .val (.int sa), .val (.int li), .val (.ref r), .val (.int (((((1 : Int32) &&& (1 : Int32)) &&& (1 : Int32)) &&& (1 : Int32)) &&& (1 : Int32))), .val (.int ((((sa + (1 : Int32)) + (1 : Int32)) + (1 : Int32)) + (1 : Int32))), .val (.int ((own_by p1 (((sa + (1 : Int32)) + (1 : Int32)) + (1 : Int32))) &&& (255 : Int32)))] [(.int (1 : Int32))])) _
            refine XS.goto X46.here hx rfl (pc0 := 268) (pc' := 272) rfl (hb hby at_268) (by decide) (by decide) ?_
            exact kt
          refine own_go go47 ?_
          obtain ⟨fs, hr, hrun, hended, hW, hsame⟩ := X46.leave (v := some (.int (1 : Int32))) (fun h => by rw [Bd.returns] at h; cases h)
          refine ⟨_, _, retN X46 hx (t := .boolean) Bd.returns (by simp) (hb hby at_272) hr, hrun, hended, _, _, rfl, ?_, ⟨_, rfl⟩, hW, hsame.mono (by decide) (by decide)⟩
          show Q0 Z  h0 n0 _ T46.heap _
          rw [eh]
          exact ⟨rfl, N46⟩
        · have go48 : ∀ t, Steps p.tables e below (T37.setTop (mkF m 251 #[.val (.int p1), .val (.int p2), .val (.int p3), .val (.ref b), .val (.int sa), .val (.int li), .val (.ref r), .val (.int ((((1 : Int32) &&& (1 : Int32)) &&& (1 : Int32)) &&& (1 : Int32))), .val (.int (((sa + (1 : Int32)) + (1 : Int32)) + (1 : Int32))), .val (.int ((own_by p1 ((sa + (1 : Int32)) + (1 : Int32))) &&& (255 : Int32)))] [(.ref r)])) t → Steps p.tables e below (T37.setTop (mkF m 200 #[.val (.int p1), .val (.int p2), .val (.int p3), .val (.ref b), .val (.int sa), .val (.int li), .val (.ref r), .val (.int ((((1 : Int32) &&& (1 : Int32)) &&& (1 : Int32)) &&& (1 : Int32))), .val (.int (((sa + (1 : Int32)) + (1 : Int32)) + (1 : Int32))), .val (.int ((own_by p1 ((sa + (1 : Int32)) + (1 : Int32))) &&& (255 : Int32)))] [(.int li), (.int (((sa + (1 : Int32)) + (1 : Int32)) + (1 : Int32)))])) t := by
            intro t kt
            show Steps p.tables e below (T37.setTop (mkF m 200 #[.val (.int p1), .val (.int p2), .val (.int p3), .val (.ref b), .val (.int sa), .val (.int li), .val (.ref r), .val (.int ((((1 : Int32) &&& (1 : Int32)) &&& (1 : Int32)) &&& (1 : Int32))), .val (.int (((sa + (1 : Int32)) + (1 : Int32)) + (1 : Int32))), .val (.int ((own_by p1 ((sa + (1 : Int32)) + (1 : Int32))) &&& (255 : Int32)))] [(.int li), (.int (((sa + (1 : Int32)) + (1 : Int32)) + (1 : Int32)))])) _
            refine XS.icmpYes X37.here hx rfl (pc0 := 200) (pc' := 237) rfl (hb hby at_200) rfl (flt hc200).2.1 (by decide) (by decide) ?_
            show Steps p.tables e below (T37.setTop (mkF m 237 #[.val (.int p1), .val (.int p2), .val (.int p3), .val (.ref b), .val (.int sa), .val (.int li), .val (.ref r), .val (.int ((((1 : Int32) &&& (1 : Int32)) &&& (1 : Int32)) &&& (1 : Int32))), .val (.int (((sa + (1 : Int32)) + (1 : Int32)) + (1 : Int32))), .val (.int ((own_by p1 ((sa + (1 : Int32)) + (1 : Int32))) &&& (255 : Int32)))] [])) _
            refine XS.iload X37.here hx rfl (hb hby at_237) rfl ?_
            show Steps p.tables e below (T37.setTop (mkF m 239 #[.val (.int p1), .val (.int p2), .val (.int p3), .val (.ref b), .val (.int sa), .val (.int li), .val (.ref r), .val (.int ((((1 : Int32) &&& (1 : Int32)) &&& (1 : Int32)) &&& (1 : Int32))), .val (.int (((sa + (1 : Int32)) + (1 : Int32)) + (1 : Int32))), .val (.int ((own_by p1 ((sa + (1 : Int32)) + (1 : Int32))) &&& (255 : Int32)))] [(.int ((((1 : Int32) &&& (1 : Int32)) &&& (1 : Int32)) &&& (1 : Int32)))])) _
            refine XS.ifNo X37.here hx rfl (hb hby at_239) rfl ((if0 _ _).trans (feq (by decide)).1) ?_
            show Steps p.tables e below (T37.setTop (mkF m 242 #[.val (.int p1), .val (.int p2), .val (.int p3), .val (.ref b), .val (.int sa), .val (.int li), .val (.ref r), .val (.int ((((1 : Int32) &&& (1 : Int32)) &&& (1 : Int32)) &&& (1 : Int32))), .val (.int (((sa + (1 : Int32)) + (1 : Int32)) + (1 : Int32))), .val (.int ((own_by p1 ((sa + (1 : Int32)) + (1 : Int32))) &&& (255 : Int32)))] [])) _
            refine XS.iload X37.here hx rfl (hb hby at_242) rfl ?_
            show Steps p.tables e below (T37.setTop (mkF m 244 #[.val (.int p1), .val (.int p2), .val (.int p3), .val (.ref b), .val (.int sa), .val (.int li), .val (.ref r), .val (.int ((((1 : Int32) &&& (1 : Int32)) &&& (1 : Int32)) &&& (1 : Int32))), .val (.int (((sa + (1 : Int32)) + (1 : Int32)) + (1 : Int32))), .val (.int ((own_by p1 ((sa + (1 : Int32)) + (1 : Int32))) &&& (255 : Int32)))] [(.int (((sa + (1 : Int32)) + (1 : Int32)) + (1 : Int32)))])) _
            refine XS.iload X37.here hx rfl (hb hby at_244) rfl ?_
            show Steps p.tables e below (T37.setTop (mkF m 246 #[.val (.int p1), .val (.int p2), .val (.int p3), .val (.ref b), .val (.int sa), .val (.int li), .val (.ref r), .val (.int ((((1 : Int32) &&& (1 : Int32)) &&& (1 : Int32)) &&& (1 : Int32))), .val (.int (((sa + (1 : Int32)) + (1 : Int32)) + (1 : Int32))), .val (.int ((own_by p1 ((sa + (1 : Int32)) + (1 : Int32))) &&& (255 : Int32)))] [(.int li), (.int (((sa + (1 : Int32)) + (1 : Int32)) + (1 : Int32)))])) _
            refine XS.icmpNo X37.here hx rfl (hb hby at_246) rfl (teq (Int32.toInt_inj.mp (by have z := hc200; rw [Int32.lt_iff_toInt_lt] at z; omega))).2 ?_
            show Steps p.tables e below (T37.setTop (mkF m 249 #[.val (.int p1), .val (.int p2), .val (.int p3), .val (.ref b), .val (.int sa), .val (.int li), .val (.ref r), .val (.int ((((1 : Int32) &&& (1 : Int32)) &&& (1 : Int32)) &&& (1 : Int32))), .val (.int (((sa + (1 : Int32)) + (1 : Int32)) + (1 : Int32))), .val (.int ((own_by p1 ((sa + (1 : Int32)) + (1 : Int32))) &&& (255 : Int32)))] [])) _
            refine XS.aload X37.here hx rfl (hb hby at_249) rfl rfl ?_
            exact kt
          refine own_go go48 ?_
          obtain ⟨cq49, kq49, q49a, q49b, q49c⟩ := isOf hZ ex2 E2r
          obtain ⟨_, _, ⟨T49, L49, k49, n49⟩, -, X49, ⟨Lc49, hQ49, l49, y49, z49⟩, st49⟩ := X37.virtualBack hx (y := (⟨"com/example/hilera/hilera/ByteReader", "position", "()I"⟩ : MethodName)) (z := (⟨"com/example/hilera/hilera/ByteReader", "position", "()I"⟩ : MethodName)) hown (mvT hZ (hw _ (List.mem_of_getElem? (i := 19) rfl))) (mvT hZ (hw _ (List.mem_of_getElem? (i := 20) rfl))) (notFace_of_selects (args := #[]) (mvT hZ (hw _ (List.mem_of_getElem? (i := 22) rfl)))) (mvT hZ (hw _ (List.mem_of_getElem? (i := 22) rfl))) (mvT hZ (hw _ (List.mem_of_getElem? (i := 21) rfl))) (by decide) (backOf (W := 0) (rm3 l Z a0 hw [] r (((sa + (1 : Int32)) + (1 : Int32)) + (1 : Int32)) T35.heap n0 (Nat.le_trans (Nat.le_trans (Nat.le_trans (Nat.le_trans (Nat.le_trans (Nat.le_trans (Nat.le_trans (Nat.le_trans (Nat.le_trans (Nat.le_trans Z0 E2.1) (Keep.of_wr W5).1) (Keep.of_wr W8).1) (Keep.of_wr W11).1) (Keep.of_wr W14).1) E19.1) Kc.1) K0r.1) K1r.1) K2r.1) Fp2r) hZ (hw _ (List.mem_of_getElem? (i := 23) rfl)) (hw _ (List.mem_of_getElem? (i := 4) rfl)) (by decide) (by decide)) q49a q49c (g := (mkF m 251 #[.val (.int p1), .val (.int p2), .val (.int p3), .val (.ref b), .val (.int sa), .val (.int li), .val (.ref r), .val (.int ((((1 : Int32) &&& (1 : Int32)) &&& (1 : Int32)) &&& (1 : Int32))), .val (.int (((sa + (1 : Int32)) + (1 : Int32)) + (1 : Int32))), .val (.int ((own_by p1 ((sa + (1 : Int32)) + (1 : Int32))) &&& (255 : Int32)))] [(.ref r)])) rfl (by rw [hml]; rfl) (Steps.refl _) (argsL := []) (rest := []) (lenOf pd_1 rfl) rfl (by show 2 * 0 + _ ≤ _; exact Nat.le_of_eq rfl) (hb hby at_251) (fun _ _ => ⟨rfl, ex2, (by decide : 2 + 0 ≤ _), (by decide : 8 + 0 ≤ _)⟩)
          dsimp only [Pt.U, Pt.locs, Pt.cells, Pt.slots] at X49 l49 y49 z49 st49 hQ49
          subst l49 y49 z49
          obtain ⟨rfl, N49q, ep⟩ := hQ49
          have N49 := Fr.app N37 N49q
          refine own_go (S' := T49.setTop (mkF m 254 #[.val (.int p1), .val (.int p2), .val (.int p3), .val (.ref b), .val (.int sa), .val (.int li), .val (.ref r), .val (.int ((((1 : Int32) &&& (1 : Int32)) &&& (1 : Int32)) &&& (1 : Int32))), .val (.int (((sa + (1 : Int32)) + (1 : Int32)) + (1 : Int32))), .val (.int ((own_by p1 ((sa + (1 : Int32)) + (1 : Int32))) &&& (255 : Int32)))] [(.int (((sa + (1 : Int32)) + (1 : Int32)) + (1 : Int32)))])) (fun t k => st49.trans k) ?_
          have go50 : ∀ t, Steps p.tables e below (T49.setTop (mkF m 261 #[.val (.int p1), .val (.int p2), .val (.int p3), .val (.ref b), .val (.int sa), .val (.int li), .val (.ref r), .val (.int ((((1 : Int32) &&& (1 : Int32)) &&& (1 : Int32)) &&& (1 : Int32))), .val (.int (((sa + (1 : Int32)) + (1 : Int32)) + (1 : Int32))), .val (.int ((own_by p1 ((sa + (1 : Int32)) + (1 : Int32))) &&& (255 : Int32)))] [(.ref r)])) t → Steps p.tables e below (T49.setTop (mkF m 254 #[.val (.int p1), .val (.int p2), .val (.int p3), .val (.ref b), .val (.int sa), .val (.int li), .val (.ref r), .val (.int ((((1 : Int32) &&& (1 : Int32)) &&& (1 : Int32)) &&& (1 : Int32))), .val (.int (((sa + (1 : Int32)) + (1 : Int32)) + (1 : Int32))), .val (.int ((own_by p1 ((sa + (1 : Int32)) + (1 : Int32))) &&& (255 : Int32)))] [(.int (((sa + (1 : Int32)) + (1 : Int32)) + (1 : Int32)))])) t := by
            intro t kt
            show Steps p.tables e below (T49.setTop (mkF m 254 #[.val (.int p1), .val (.int p2), .val (.int p3), .val (.ref b), .val (.int sa), .val (.int li), .val (.ref r), .val (.int ((((1 : Int32) &&& (1 : Int32)) &&& (1 : Int32)) &&& (1 : Int32))), .val (.int (((sa + (1 : Int32)) + (1 : Int32)) + (1 : Int32))), .val (.int ((own_by p1 ((sa + (1 : Int32)) + (1 : Int32))) &&& (255 : Int32)))] [(.int (((sa + (1 : Int32)) + (1 : Int32)) + (1 : Int32)))])) _
            refine XS.iload X49.here hx rfl (hb hby at_254) rfl ?_
            show Steps p.tables e below (T49.setTop (mkF m 256 #[.val (.int p1), .val (.int p2), .val (.int p3), .val (.ref b), .val (.int sa), .val (.int li), .val (.ref r), .val (.int ((((1 : Int32) &&& (1 : Int32)) &&& (1 : Int32)) &&& (1 : Int32))), .val (.int (((sa + (1 : Int32)) + (1 : Int32)) + (1 : Int32))), .val (.int ((own_by p1 ((sa + (1 : Int32)) + (1 : Int32))) &&& (255 : Int32)))] [(.int li), (.int (((sa + (1 : Int32)) + (1 : Int32)) + (1 : Int32)))])) _
            refine XS.icmpNo X49.here hx rfl (hb hby at_256) rfl (teq (Int32.toInt_inj.mp (by have z := hc200; rw [Int32.lt_iff_toInt_lt] at z; omega))).2 ?_
            show Steps p.tables e below (T49.setTop (mkF m 259 #[.val (.int p1), .val (.int p2), .val (.int p3), .val (.ref b), .val (.int sa), .val (.int li), .val (.ref r), .val (.int ((((1 : Int32) &&& (1 : Int32)) &&& (1 : Int32)) &&& (1 : Int32))), .val (.int (((sa + (1 : Int32)) + (1 : Int32)) + (1 : Int32))), .val (.int ((own_by p1 ((sa + (1 : Int32)) + (1 : Int32))) &&& (255 : Int32)))] [])) _
            refine XS.aload X49.here hx rfl (hb hby at_259) rfl rfl ?_
            exact kt
          refine own_go go50 ?_
          obtain ⟨cq51, kq51, q51a, q51b, q51c⟩ := isOf hZ ep E2r
          obtain ⟨_, _, ⟨T51, L51, k51, n51⟩, -, X51, ⟨Lc51, hQ51, l51, y51, z51⟩, st51⟩ := X49.virtualBack hx (y := (⟨"com/example/hilera/hilera/ByteReader", "hasRemaining", "()Z"⟩ : MethodName)) (z := (⟨"com/example/hilera/hilera/ByteReader", "hasRemaining", "()Z"⟩ : MethodName)) hown (mvT hZ (hw _ (List.mem_of_getElem? (i := 24) rfl))) (mvT hZ (hw _ (List.mem_of_getElem? (i := 25) rfl))) (notFace_of_selects (args := #[]) (mvT hZ (hw _ (List.mem_of_getElem? (i := 27) rfl)))) (mvT hZ (hw _ (List.mem_of_getElem? (i := 27) rfl))) (mvT hZ (hw _ (List.mem_of_getElem? (i := 26) rfl))) (by decide) (backOf (W := 0) (rm4 l Z a0 hw [] r (((sa + (1 : Int32)) + (1 : Int32)) + (1 : Int32)) li T35.heap n0 (Nat.le_trans (Nat.le_trans (Nat.le_trans (Nat.le_trans (Nat.le_trans (Nat.le_trans (Nat.le_trans (Nat.le_trans (Nat.le_trans (Nat.le_trans Z0 E2.1) (Keep.of_wr W5).1) (Keep.of_wr W8).1) (Keep.of_wr W11).1) (Keep.of_wr W14).1) E19.1) Kc.1) K0r.1) K1r.1) K2r.1) Fp2r Fl2r) hZ (hw _ (List.mem_of_getElem? (i := 28) rfl)) (hw _ (List.mem_of_getElem? (i := 4) rfl)) (by decide) (by decide)) q51a q51c (g := (mkF m 261 #[.val (.int p1), .val (.int p2), .val (.int p3), .val (.ref b), .val (.int sa), .val (.int li), .val (.ref r), .val (.int ((((1 : Int32) &&& (1 : Int32)) &&& (1 : Int32)) &&& (1 : Int32))), .val (.int (((sa + (1 : Int32)) + (1 : Int32)) + (1 : Int32))), .val (.int ((own_by p1 ((sa + (1 : Int32)) + (1 : Int32))) &&& (255 : Int32)))] [(.ref r)])) rfl (by rw [hml]; rfl) (Steps.refl _) (argsL := []) (rest := []) (lenOf pd_3 rfl) rfl (by show 2 * 0 + _ ≤ _; exact Nat.le_of_eq rfl) (hb hby at_261) (fun _ _ => ⟨rfl, ep, (by decide : 2 + 0 ≤ _), (by decide : 8 + 0 ≤ _)⟩)
          dsimp only [Pt.U, Pt.locs, Pt.cells, Pt.slots] at X51 l51 y51 z51 st51 hQ51
          subst l51 y51 z51
          obtain ⟨rfl, N51q, eh⟩ := hQ51
          have N51 := Fr.app N49 N51q
          refine own_go (S' := T51.setTop (mkF m 264 #[.val (.int p1), .val (.int p2), .val (.int p3), .val (.ref b), .val (.int sa), .val (.int li), .val (.ref r), .val (.int ((((1 : Int32) &&& (1 : Int32)) &&& (1 : Int32)) &&& (1 : Int32))), .val (.int (((sa + (1 : Int32)) + (1 : Int32)) + (1 : Int32))), .val (.int ((own_by p1 ((sa + (1 : Int32)) + (1 : Int32))) &&& (255 : Int32)))] [(.int (own_rem (((sa + (1 : Int32)) + (1 : Int32)) + (1 : Int32)) li))])) (fun t k => st51.trans k) ?_
          have go52 : ∀ t, Steps p.tables e below (T51.setTop (mkF m 272 #[.val (.int p1), .val (.int p2), .val (.int p3), .val (.ref b), .val (.int sa), .val (.int li), .val (.ref r), .val (.int ((((1 : Int32) &&& (1 : Int32)) &&& (1 : Int32)) &&& (1 : Int32))), .val (.int (((sa + (1 : Int32)) + (1 : Int32)) + (1 : Int32))), .val (.int ((own_by p1 ((sa + (1 : Int32)) + (1 : Int32))) &&& (255 : Int32)))] [(.int (1 : Int32))])) t → Steps p.tables e below (T51.setTop (mkF m 264 #[.val (.int p1), .val (.int p2), .val (.int p3), .val (.ref b), .val (.int sa), .val (.int li), .val (.ref r), .val (.int ((((1 : Int32) &&& (1 : Int32)) &&& (1 : Int32)) &&& (1 : Int32))), .val (.int (((sa + (1 : Int32)) + (1 : Int32)) + (1 : Int32))), .val (.int ((own_by p1 ((sa + (1 : Int32)) + (1 : Int32))) &&& (255 : Int32)))] [(.int (own_rem (((sa + (1 : Int32)) + (1 : Int32)) + (1 : Int32)) li))])) t := by
            intro t kt
            show Steps p.tables e below (T51.setTop (mkF m 264 #[.val (.int p1), .val (.int p2), .val (.int p3), .val (.ref b), .val (.int sa), .val (.int li), .val (.ref r), .val (.int ((((1 : Int32) &&& (1 : Int32)) &&& (1 : Int32)) &&& (1 : Int32))), .val (.int (((sa + (1 : Int32)) + (1 : Int32)) + (1 : Int32))), .val (.int ((own_by p1 ((sa + (1 : Int32)) + (1 : Int32))) &&& (255 : Int32)))] [(.int (own_rem (((sa + (1 : Int32)) + (1 : Int32)) + (1 : Int32)) li))])) _
            refine XS.ifNo X51.here hx rfl (hb hby at_264) rfl ((if0 _ _).trans (teq (own_rem0 _ _ (Int32.toInt_inj.mp (by have z := hc200; rw [Int32.lt_iff_toInt_lt] at z; omega)))).2) ?_
            show Steps p.tables e below (T51.setTop (mkF m 267 #[.val (.int p1), .val (.int p2), .val (.int p3), .val (.ref b), .val (.int sa), .val (.int li), .val (.ref r), .val (.int ((((1 : Int32) &&& (1 : Int32)) &&& (1 : Int32)) &&& (1 : Int32))), .val (.int (((sa + (1 : Int32)) + (1 : Int32)) + (1 : Int32))), .val (.int ((own_by p1 ((sa + (1 : Int32)) + (1 : Int32))) &&& (255 : Int32)))] [])) _
            refine XS.iconst X51.here hx rfl (hb hby at_267) ?_
            show Steps p.tables e below (T51.setTop (mkF m 268 #[.val (.int p1), .val (.int p2), .val (.int p3), .val (.ref b), .val (.int sa), .val (.int li), .val (.ref r), .val (.int ((((1 : Int32) &&& (1 : Int32)) &&& (1 : Int32)) &&& (1 : Int32))), .val (.int (((sa + (1 : Int32)) + (1 : Int32)) + (1 : Int32))), .val (.int ((own_by p1 ((sa + (1 : Int32)) + (1 : Int32))) &&& (255 : Int32)))] [(.int (1 : Int32))])) _
            refine XS.goto X51.here hx rfl (pc0 := 268) (pc' := 272) rfl (hb hby at_268) (by decide) (by decide) ?_
            exact kt
          refine own_go go52 ?_
          obtain ⟨fs, hr, hrun, hended, hW, hsame⟩ := X51.leave (v := some (.int (1 : Int32))) (fun h => by rw [Bd.returns] at h; cases h)
          refine ⟨_, _, retN X51 hx (t := .boolean) Bd.returns (by simp) (hb hby at_272) hr, hrun, hended, _, _, rfl, ?_, ⟨_, rfl⟩, hW, hsame.mono (by decide) (by decide)⟩
          show Q0 Z  h0 n0 _ T51.heap _
          rw [eh]
          exact ⟨rfl, N51⟩
      · have go53 : ∀ t, Steps p.tables e below (T32.setTop (mkF m 251 #[.val (.int p1), .val (.int p2), .val (.int p3), .val (.ref b), .val (.int sa), .val (.int li), .val (.ref r), .val (.int (((1 : Int32) &&& (1 : Int32)) &&& (1 : Int32))), .val (.int ((sa + (1 : Int32)) + (1 : Int32))), .val (.int ((own_by p1 (sa + (1 : Int32))) &&& (255 : Int32)))] [(.ref r)])) t → Steps p.tables e below (T32.setTop (mkF m 159 #[.val (.int p1), .val (.int p2), .val (.int p3), .val (.ref b), .val (.int sa), .val (.int li), .val (.ref r), .val (.int (((1 : Int32) &&& (1 : Int32)) &&& (1 : Int32))), .val (.int ((sa + (1 : Int32)) + (1 : Int32))), .val (.int ((own_by p1 (sa + (1 : Int32))) &&& (255 : Int32)))] [(.int li), (.int ((sa + (1 : Int32)) + (1 : Int32)))])) t := by
          intro t kt
          show Steps p.tables e below (T32.setTop (mkF m 159 #[.val (.int p1), .val (.int p2), .val (.int p3), .val (.ref b), .val (.int sa), .val (.int li), .val (.ref r), .val (.int (((1 : Int32) &&& (1 : Int32)) &&& (1 : Int32))), .val (.int ((sa + (1 : Int32)) + (1 : Int32))), .val (.int ((own_by p1 (sa + (1 : Int32))) &&& (255 : Int32)))] [(.int li), (.int ((sa + (1 : Int32)) + (1 : Int32)))])) _
          refine XS.icmpYes X32.here hx rfl (pc0 := 159) (pc' := 196) rfl (hb hby at_159) rfl (flt hc159).2.1 (by decide) (by decide) ?_
          show Steps p.tables e below (T32.setTop (mkF m 196 #[.val (.int p1), .val (.int p2), .val (.int p3), .val (.ref b), .val (.int sa), .val (.int li), .val (.ref r), .val (.int (((1 : Int32) &&& (1 : Int32)) &&& (1 : Int32))), .val (.int ((sa + (1 : Int32)) + (1 : Int32))), .val (.int ((own_by p1 (sa + (1 : Int32))) &&& (255 : Int32)))] [])) _
          refine XS.iload X32.here hx rfl (hb hby at_196) rfl ?_
          show Steps p.tables e below (T32.setTop (mkF m 198 #[.val (.int p1), .val (.int p2), .val (.int p3), .val (.ref b), .val (.int sa), .val (.int li), .val (.ref r), .val (.int (((1 : Int32) &&& (1 : Int32)) &&& (1 : Int32))), .val (.int ((sa + (1 : Int32)) + (1 : Int32))), .val (.int ((own_by p1 (sa + (1 : Int32))) &&& (255 : Int32)))] [(.int ((sa + (1 : Int32)) + (1 : Int32)))])) _
          refine XS.iload X32.here hx rfl (hb hby at_198) rfl ?_
          show Steps p.tables e below (T32.setTop (mkF m 200 #[.val (.int p1), .val (.int p2), .val (.int p3), .val (.ref b), .val (.int sa), .val (.int li), .val (.ref r), .val (.int (((1 : Int32) &&& (1 : Int32)) &&& (1 : Int32))), .val (.int ((sa + (1 : Int32)) + (1 : Int32))), .val (.int ((own_by p1 (sa + (1 : Int32))) &&& (255 : Int32)))] [(.int li), (.int ((sa + (1 : Int32)) + (1 : Int32)))])) _
          refine XS.icmpYes X32.here hx rfl (pc0 := 200) (pc' := 237) rfl (hb hby at_200) rfl (flt hc159).2.1 (by decide) (by decide) ?_
          show Steps p.tables e below (T32.setTop (mkF m 237 #[.val (.int p1), .val (.int p2), .val (.int p3), .val (.ref b), .val (.int sa), .val (.int li), .val (.ref r), .val (.int (((1 : Int32) &&& (1 : Int32)) &&& (1 : Int32))), .val (.int ((sa + (1 : Int32)) + (1 : Int32))), .val (.int ((own_by p1 (sa + (1 : Int32))) &&& (255 : Int32)))] [])) _
          refine XS.iload X32.here hx rfl (hb hby at_237) rfl ?_
          show Steps p.tables e below (T32.setTop (mkF m 239 #[.val (.int p1), .val (.int p2), .val (.int p3), .val (.ref b), .val (.int sa), .val (.int li), .val (.ref r), .val (.int (((1 : Int32) &&& (1 : Int32)) &&& (1 : Int32))), .val (.int ((sa + (1 : Int32)) + (1 : Int32))), .val (.int ((own_by p1 (sa + (1 : Int32))) &&& (255 : Int32)))] [(.int (((1 : Int32) &&& (1 : Int32)) &&& (1 : Int32)))])) _
          refine XS.ifNo X32.here hx rfl (hb hby at_239) rfl ((if0 _ _).trans (feq (by decide)).1) ?_
          show Steps p.tables e below (T32.setTop (mkF m 242 #[.val (.int p1), .val (.int p2), .val (.int p3), .val (.ref b), .val (.int sa), .val (.int li), .val (.ref r), .val (.int (((1 : Int32) &&& (1 : Int32)) &&& (1 : Int32))), .val (.int ((sa + (1 : Int32)) + (1 : Int32))), .val (.int ((own_by p1 (sa + (1 : Int32))) &&& (255 : Int32)))] [])) _
          refine XS.iload X32.here hx rfl (hb hby at_242) rfl ?_
          show Steps p.tables e below (T32.setTop (mkF m 244 #[.val (.int p1), .val (.int p2), .val (.int p3), .val (.ref b), .val (.int sa), .val (.int li), .val (.ref r), .val (.int (((1 : Int32) &&& (1 : Int32)) &&& (1 : Int32))), .val (.int ((sa + (1 : Int32)) + (1 : Int32))), .val (.int ((own_by p1 (sa + (1 : Int32))) &&& (255 : Int32)))] [(.int ((sa + (1 : Int32)) + (1 : Int32)))])) _
          refine XS.iload X32.here hx rfl (hb hby at_244) rfl ?_
          show Steps p.tables e below (T32.setTop (mkF m 246 #[.val (.int p1), .val (.int p2), .val (.int p3), .val (.ref b), .val (.int sa), .val (.int li), .val (.ref r), .val (.int (((1 : Int32) &&& (1 : Int32)) &&& (1 : Int32))), .val (.int ((sa + (1 : Int32)) + (1 : Int32))), .val (.int ((own_by p1 (sa + (1 : Int32))) &&& (255 : Int32)))] [(.int li), (.int ((sa + (1 : Int32)) + (1 : Int32)))])) _
          refine XS.icmpNo X32.here hx rfl (hb hby at_246) rfl (teq (Int32.toInt_inj.mp (by have z := hc159; rw [Int32.lt_iff_toInt_lt] at z; omega))).2 ?_
          show Steps p.tables e below (T32.setTop (mkF m 249 #[.val (.int p1), .val (.int p2), .val (.int p3), .val (.ref b), .val (.int sa), .val (.int li), .val (.ref r), .val (.int (((1 : Int32) &&& (1 : Int32)) &&& (1 : Int32))), .val (.int ((sa + (1 : Int32)) + (1 : Int32))), .val (.int ((own_by p1 (sa + (1 : Int32))) &&& (255 : Int32)))] [])) _
          refine XS.aload X32.here hx rfl (hb hby at_249) rfl rfl ?_
          exact kt
        refine own_go go53 ?_
        obtain ⟨cq54, kq54, q54a, q54b, q54c⟩ := isOf hZ ex1 E1r
        obtain ⟨_, _, ⟨T54, L54, k54, n54⟩, -, X54, ⟨Lc54, hQ54, l54, y54, z54⟩, st54⟩ := X32.virtualBack hx (y := (⟨"com/example/hilera/hilera/ByteReader", "position", "()I"⟩ : MethodName)) (z := (⟨"com/example/hilera/hilera/ByteReader", "position", "()I"⟩ : MethodName)) hown (mvT hZ (hw _ (List.mem_of_getElem? (i := 19) rfl))) (mvT hZ (hw _ (List.mem_of_getElem? (i := 20) rfl))) (notFace_of_selects (args := #[]) (mvT hZ (hw _ (List.mem_of_getElem? (i := 22) rfl)))) (mvT hZ (hw _ (List.mem_of_getElem? (i := 22) rfl))) (mvT hZ (hw _ (List.mem_of_getElem? (i := 21) rfl))) (by decide) (backOf (W := 0) (rm3 l Z a0 hw [] r ((sa + (1 : Int32)) + (1 : Int32)) T30.heap n0 (Nat.le_trans (Nat.le_trans (Nat.le_trans (Nat.le_trans (Nat.le_trans (Nat.le_trans (Nat.le_trans (Nat.le_trans (Nat.le_trans Z0 E2.1) (Keep.of_wr W5).1) (Keep.of_wr W8).1) (Keep.of_wr W11).1) (Keep.of_wr W14).1) E19.1) Kc.1) K0r.1) K1r.1) Fp1r) hZ (hw _ (List.mem_of_getElem? (i := 23) rfl)) (hw _ (List.mem_of_getElem? (i := 4) rfl)) (by decide) (by decide)) q54a q54c (g := (mkF m 251 #[.val (.int p1), .val (.int p2), .val (.int p3), .val (.ref b), .val (.int sa), .val (.int li), .val (.ref r), .val (.int (((1 : Int32) &&& (1 : Int32)) &&& (1 : Int32))), .val (.int ((sa + (1 : Int32)) + (1 : Int32))), .val (.int ((own_by p1 (sa + (1 : Int32))) &&& (255 : Int32)))] [(.ref r)])) rfl (by rw [hml]; rfl) (Steps.refl _) (argsL := []) (rest := []) (lenOf pd_1 rfl) rfl (by show 2 * 0 + _ ≤ _; exact Nat.le_of_eq rfl) (hb hby at_251) (fun _ _ => ⟨rfl, ex1, (by decide : 2 + 0 ≤ _), (by decide : 8 + 0 ≤ _)⟩)
        dsimp only [Pt.U, Pt.locs, Pt.cells, Pt.slots] at X54 l54 y54 z54 st54 hQ54
        subst l54 y54 z54
        obtain ⟨rfl, N54q, ep⟩ := hQ54
        have N54 := Fr.app N32 N54q
        refine own_go (S' := T54.setTop (mkF m 254 #[.val (.int p1), .val (.int p2), .val (.int p3), .val (.ref b), .val (.int sa), .val (.int li), .val (.ref r), .val (.int (((1 : Int32) &&& (1 : Int32)) &&& (1 : Int32))), .val (.int ((sa + (1 : Int32)) + (1 : Int32))), .val (.int ((own_by p1 (sa + (1 : Int32))) &&& (255 : Int32)))] [(.int ((sa + (1 : Int32)) + (1 : Int32)))])) (fun t k => st54.trans k) ?_
        have go55 : ∀ t, Steps p.tables e below (T54.setTop (mkF m 261 #[.val (.int p1), .val (.int p2), .val (.int p3), .val (.ref b), .val (.int sa), .val (.int li), .val (.ref r), .val (.int (((1 : Int32) &&& (1 : Int32)) &&& (1 : Int32))), .val (.int ((sa + (1 : Int32)) + (1 : Int32))), .val (.int ((own_by p1 (sa + (1 : Int32))) &&& (255 : Int32)))] [(.ref r)])) t → Steps p.tables e below (T54.setTop (mkF m 254 #[.val (.int p1), .val (.int p2), .val (.int p3), .val (.ref b), .val (.int sa), .val (.int li), .val (.ref r), .val (.int (((1 : Int32) &&& (1 : Int32)) &&& (1 : Int32))), .val (.int ((sa + (1 : Int32)) + (1 : Int32))), .val (.int ((own_by p1 (sa + (1 : Int32))) &&& (255 : Int32)))] [(.int ((sa + (1 : Int32)) + (1 : Int32)))])) t := by
          intro t kt
          show Steps p.tables e below (T54.setTop (mkF m 254 #[.val (.int p1), .val (.int p2), .val (.int p3), .val (.ref b), .val (.int sa), .val (.int li), .val (.ref r), .val (.int (((1 : Int32) &&& (1 : Int32)) &&& (1 : Int32))), .val (.int ((sa + (1 : Int32)) + (1 : Int32))), .val (.int ((own_by p1 (sa + (1 : Int32))) &&& (255 : Int32)))] [(.int ((sa + (1 : Int32)) + (1 : Int32)))])) _
          refine XS.iload X54.here hx rfl (hb hby at_254) rfl ?_
          show Steps p.tables e below (T54.setTop (mkF m 256 #[.val (.int p1), .val (.int p2), .val (.int p3), .val (.ref b), .val (.int sa), .val (.int li), .val (.ref r), .val (.int (((1 : Int32) &&& (1 : Int32)) &&& (1 : Int32))), .val (.int ((sa + (1 : Int32)) + (1 : Int32))), .val (.int ((own_by p1 (sa + (1 : Int32))) &&& (255 : Int32)))] [(.int li), (.int ((sa + (1 : Int32)) + (1 : Int32)))])) _
          refine XS.icmpNo X54.here hx rfl (hb hby at_256) rfl (teq (Int32.toInt_inj.mp (by have z := hc159; rw [Int32.lt_iff_toInt_lt] at z; omega))).2 ?_
          show Steps p.tables e below (T54.setTop (mkF m 259 #[.val (.int p1), .val (.int p2), .val (.int p3), .val (.ref b), .val (.int sa), .val (.int li), .val (.ref r), .val (.int (((1 : Int32) &&& (1 : Int32)) &&& (1 : Int32))), .val (.int ((sa + (1 : Int32)) + (1 : Int32))), .val (.int ((own_by p1 (sa + (1 : Int32))) &&& (255 : Int32)))] [])) _
          refine XS.aload X54.here hx rfl (hb hby at_259) rfl rfl ?_
          exact kt
        refine own_go go55 ?_
        obtain ⟨cq56, kq56, q56a, q56b, q56c⟩ := isOf hZ ep E1r
        obtain ⟨_, _, ⟨T56, L56, k56, n56⟩, -, X56, ⟨Lc56, hQ56, l56, y56, z56⟩, st56⟩ := X54.virtualBack hx (y := (⟨"com/example/hilera/hilera/ByteReader", "hasRemaining", "()Z"⟩ : MethodName)) (z := (⟨"com/example/hilera/hilera/ByteReader", "hasRemaining", "()Z"⟩ : MethodName)) hown (mvT hZ (hw _ (List.mem_of_getElem? (i := 24) rfl))) (mvT hZ (hw _ (List.mem_of_getElem? (i := 25) rfl))) (notFace_of_selects (args := #[]) (mvT hZ (hw _ (List.mem_of_getElem? (i := 27) rfl)))) (mvT hZ (hw _ (List.mem_of_getElem? (i := 27) rfl))) (mvT hZ (hw _ (List.mem_of_getElem? (i := 26) rfl))) (by decide) (backOf (W := 0) (rm4 l Z a0 hw [] r ((sa + (1 : Int32)) + (1 : Int32)) li T30.heap n0 (Nat.le_trans (Nat.le_trans (Nat.le_trans (Nat.le_trans (Nat.le_trans (Nat.le_trans (Nat.le_trans (Nat.le_trans (Nat.le_trans Z0 E2.1) (Keep.of_wr W5).1) (Keep.of_wr W8).1) (Keep.of_wr W11).1) (Keep.of_wr W14).1) E19.1) Kc.1) K0r.1) K1r.1) Fp1r Fl1r) hZ (hw _ (List.mem_of_getElem? (i := 28) rfl)) (hw _ (List.mem_of_getElem? (i := 4) rfl)) (by decide) (by decide)) q56a q56c (g := (mkF m 261 #[.val (.int p1), .val (.int p2), .val (.int p3), .val (.ref b), .val (.int sa), .val (.int li), .val (.ref r), .val (.int (((1 : Int32) &&& (1 : Int32)) &&& (1 : Int32))), .val (.int ((sa + (1 : Int32)) + (1 : Int32))), .val (.int ((own_by p1 (sa + (1 : Int32))) &&& (255 : Int32)))] [(.ref r)])) rfl (by rw [hml]; rfl) (Steps.refl _) (argsL := []) (rest := []) (lenOf pd_3 rfl) rfl (by show 2 * 0 + _ ≤ _; exact Nat.le_of_eq rfl) (hb hby at_261) (fun _ _ => ⟨rfl, ep, (by decide : 2 + 0 ≤ _), (by decide : 8 + 0 ≤ _)⟩)
        dsimp only [Pt.U, Pt.locs, Pt.cells, Pt.slots] at X56 l56 y56 z56 st56 hQ56
        subst l56 y56 z56
        obtain ⟨rfl, N56q, eh⟩ := hQ56
        have N56 := Fr.app N54 N56q
        refine own_go (S' := T56.setTop (mkF m 264 #[.val (.int p1), .val (.int p2), .val (.int p3), .val (.ref b), .val (.int sa), .val (.int li), .val (.ref r), .val (.int (((1 : Int32) &&& (1 : Int32)) &&& (1 : Int32))), .val (.int ((sa + (1 : Int32)) + (1 : Int32))), .val (.int ((own_by p1 (sa + (1 : Int32))) &&& (255 : Int32)))] [(.int (own_rem ((sa + (1 : Int32)) + (1 : Int32)) li))])) (fun t k => st56.trans k) ?_
        have go57 : ∀ t, Steps p.tables e below (T56.setTop (mkF m 272 #[.val (.int p1), .val (.int p2), .val (.int p3), .val (.ref b), .val (.int sa), .val (.int li), .val (.ref r), .val (.int (((1 : Int32) &&& (1 : Int32)) &&& (1 : Int32))), .val (.int ((sa + (1 : Int32)) + (1 : Int32))), .val (.int ((own_by p1 (sa + (1 : Int32))) &&& (255 : Int32)))] [(.int (1 : Int32))])) t → Steps p.tables e below (T56.setTop (mkF m 264 #[.val (.int p1), .val (.int p2), .val (.int p3), .val (.ref b), .val (.int sa), .val (.int li), .val (.ref r), .val (.int (((1 : Int32) &&& (1 : Int32)) &&& (1 : Int32))), .val (.int ((sa + (1 : Int32)) + (1 : Int32))), .val (.int ((own_by p1 (sa + (1 : Int32))) &&& (255 : Int32)))] [(.int (own_rem ((sa + (1 : Int32)) + (1 : Int32)) li))])) t := by
          intro t kt
          show Steps p.tables e below (T56.setTop (mkF m 264 #[.val (.int p1), .val (.int p2), .val (.int p3), .val (.ref b), .val (.int sa), .val (.int li), .val (.ref r), .val (.int (((1 : Int32) &&& (1 : Int32)) &&& (1 : Int32))), .val (.int ((sa + (1 : Int32)) + (1 : Int32))), .val (.int ((own_by p1 (sa + (1 : Int32))) &&& (255 : Int32)))] [(.int (own_rem ((sa + (1 : Int32)) + (1 : Int32)) li))])) _
          refine XS.ifNo X56.here hx rfl (hb hby at_264) rfl ((if0 _ _).trans (teq (own_rem0 _ _ (Int32.toInt_inj.mp (by have z := hc159; rw [Int32.lt_iff_toInt_lt] at z; omega)))).2) ?_
          show Steps p.tables e below (T56.setTop (mkF m 267 #[.val (.int p1), .val (.int p2), .val (.int p3), .val (.ref b), .val (.int sa), .val (.int li), .val (.ref r), .val (.int (((1 : Int32) &&& (1 : Int32)) &&& (1 : Int32))), .val (.int ((sa + (1 : Int32)) + (1 : Int32))), .val (.int ((own_by p1 (sa + (1 : Int32))) &&& (255 : Int32)))] [])) _
          refine XS.iconst X56.here hx rfl (hb hby at_267) ?_
          show Steps p.tables e below (T56.setTop (mkF m 268 #[.val (.int p1), .val (.int p2), .val (.int p3), .val (.ref b), .val (.int sa), .val (.int li), .val (.ref r), .val (.int (((1 : Int32) &&& (1 : Int32)) &&& (1 : Int32))), .val (.int ((sa + (1 : Int32)) + (1 : Int32))), .val (.int ((own_by p1 (sa + (1 : Int32))) &&& (255 : Int32)))] [(.int (1 : Int32))])) _
          refine XS.goto X56.here hx rfl (pc0 := 268) (pc' := 272) rfl (hb hby at_268) (by decide) (by decide) ?_
          exact kt
        refine own_go go57 ?_
        obtain ⟨fs, hr, hrun, hended, hW, hsame⟩ := X56.leave (v := some (.int (1 : Int32))) (fun h => by rw [Bd.returns] at h; cases h)
        refine ⟨_, _, retN X56 hx (t := .boolean) Bd.returns (by simp) (hb hby at_272) hr, hrun, hended, _, _, rfl, ?_, ⟨_, rfl⟩, hW, hsame.mono (by decide) (by decide)⟩
        show Q0 Z  h0 n0 _ T56.heap _
        rw [eh]
        exact ⟨rfl, N56⟩
    · have go58 : ∀ t, Steps p.tables e below (T27.setTop (mkF m 251 #[.val (.int p1), .val (.int p2), .val (.int p3), .val (.ref b), .val (.int sa), .val (.int li), .val (.ref r), .val (.int ((1 : Int32) &&& (1 : Int32))), .val (.int (sa + (1 : Int32))), .val (.int ((own_by p1 sa) &&& (255 : Int32)))] [(.ref r)])) t → Steps p.tables e below (T27.setTop (mkF m 118 #[.val (.int p1), .val (.int p2), .val (.int p3), .val (.ref b), .val (.int sa), .val (.int li), .val (.ref r), .val (.int ((1 : Int32) &&& (1 : Int32))), .val (.int (sa + (1 : Int32))), .val (.int ((own_by p1 sa) &&& (255 : Int32)))] [(.int li), (.int (sa + (1 : Int32)))])) t := by
        intro t kt
        show Steps p.tables e below (T27.setTop (mkF m 118 #[.val (.int p1), .val (.int p2), .val (.int p3), .val (.ref b), .val (.int sa), .val (.int li), .val (.ref r), .val (.int ((1 : Int32) &&& (1 : Int32))), .val (.int (sa + (1 : Int32))), .val (.int ((own_by p1 sa) &&& (255 : Int32)))] [(.int li), (.int (sa + (1 : Int32)))])) _
        refine XS.icmpYes X27.here hx rfl (pc0 := 118) (pc' := 155) rfl (hb hby at_118) rfl (flt hc118).2.1 (by decide) (by decide) ?_
        show Steps p.tables e below (T27.setTop (mkF m 155 #[.val (.int p1), .val (.int p2), .val (.int p3), .val (.ref b), .val (.int sa), .val (.int li), .val (.ref r), .val (.int ((1 : Int32) &&& (1 : Int32))), .val (.int (sa + (1 : Int32))), .val (.int ((own_by p1 sa) &&& (255 : Int32)))] [])) _
        refine XS.iload X27.here hx rfl (hb hby at_155) rfl ?_
        show Steps p.tables e below (T27.setTop (mkF m 157 #[.val (.int p1), .val (.int p2), .val (.int p3), .val (.ref b), .val (.int sa), .val (.int li), .val (.ref r), .val (.int ((1 : Int32) &&& (1 : Int32))), .val (.int (sa + (1 : Int32))), .val (.int ((own_by p1 sa) &&& (255 : Int32)))] [(.int (sa + (1 : Int32)))])) _
        refine XS.iload X27.here hx rfl (hb hby at_157) rfl ?_
        show Steps p.tables e below (T27.setTop (mkF m 159 #[.val (.int p1), .val (.int p2), .val (.int p3), .val (.ref b), .val (.int sa), .val (.int li), .val (.ref r), .val (.int ((1 : Int32) &&& (1 : Int32))), .val (.int (sa + (1 : Int32))), .val (.int ((own_by p1 sa) &&& (255 : Int32)))] [(.int li), (.int (sa + (1 : Int32)))])) _
        refine XS.icmpYes X27.here hx rfl (pc0 := 159) (pc' := 196) rfl (hb hby at_159) rfl (flt hc118).2.1 (by decide) (by decide) ?_
        show Steps p.tables e below (T27.setTop (mkF m 196 #[.val (.int p1), .val (.int p2), .val (.int p3), .val (.ref b), .val (.int sa), .val (.int li), .val (.ref r), .val (.int ((1 : Int32) &&& (1 : Int32))), .val (.int (sa + (1 : Int32))), .val (.int ((own_by p1 sa) &&& (255 : Int32)))] [])) _
        refine XS.iload X27.here hx rfl (hb hby at_196) rfl ?_
        show Steps p.tables e below (T27.setTop (mkF m 198 #[.val (.int p1), .val (.int p2), .val (.int p3), .val (.ref b), .val (.int sa), .val (.int li), .val (.ref r), .val (.int ((1 : Int32) &&& (1 : Int32))), .val (.int (sa + (1 : Int32))), .val (.int ((own_by p1 sa) &&& (255 : Int32)))] [(.int (sa + (1 : Int32)))])) _
        refine XS.iload X27.here hx rfl (hb hby at_198) rfl ?_
        show Steps p.tables e below (T27.setTop (mkF m 200 #[.val (.int p1), .val (.int p2), .val (.int p3), .val (.ref b), .val (.int sa), .val (.int li), .val (.ref r), .val (.int ((1 : Int32) &&& (1 : Int32))), .val (.int (sa + (1 : Int32))), .val (.int ((own_by p1 sa) &&& (255 : Int32)))] [(.int li), (.int (sa + (1 : Int32)))])) _
        refine XS.icmpYes X27.here hx rfl (pc0 := 200) (pc' := 237) rfl (hb hby at_200) rfl (flt hc118).2.1 (by decide) (by decide) ?_
        show Steps p.tables e below (T27.setTop (mkF m 237 #[.val (.int p1), .val (.int p2), .val (.int p3), .val (.ref b), .val (.int sa), .val (.int li), .val (.ref r), .val (.int ((1 : Int32) &&& (1 : Int32))), .val (.int (sa + (1 : Int32))), .val (.int ((own_by p1 sa) &&& (255 : Int32)))] [])) _
        refine XS.iload X27.here hx rfl (hb hby at_237) rfl ?_
        show Steps p.tables e below (T27.setTop (mkF m 239 #[.val (.int p1), .val (.int p2), .val (.int p3), .val (.ref b), .val (.int sa), .val (.int li), .val (.ref r), .val (.int ((1 : Int32) &&& (1 : Int32))), .val (.int (sa + (1 : Int32))), .val (.int ((own_by p1 sa) &&& (255 : Int32)))] [(.int ((1 : Int32) &&& (1 : Int32)))])) _
        refine XS.ifNo X27.here hx rfl (hb hby at_239) rfl ((if0 _ _).trans (feq (by decide)).1) ?_
        show Steps p.tables e below (T27.setTop (mkF m 242 #[.val (.int p1), .val (.int p2), .val (.int p3), .val (.ref b), .val (.int sa), .val (.int li), .val (.ref r), .val (.int ((1 : Int32) &&& (1 : Int32))), .val (.int (sa + (1 : Int32))), .val (.int ((own_by p1 sa) &&& (255 : Int32)))] [])) _
        refine XS.iload X27.here hx rfl (hb hby at_242) rfl ?_
        show Steps p.tables e below (T27.setTop (mkF m 244 #[.val (.int p1), .val (.int p2), .val (.int p3), .val (.ref b), .val (.int sa), .val (.int li), .val (.ref r), .val (.int ((1 : Int32) &&& (1 : Int32))), .val (.int (sa + (1 : Int32))), .val (.int ((own_by p1 sa) &&& (255 : Int32)))] [(.int (sa + (1 : Int32)))])) _
        refine XS.iload X27.here hx rfl (hb hby at_244) rfl ?_
        show Steps p.tables e below (T27.setTop (mkF m 246 #[.val (.int p1), .val (.int p2), .val (.int p3), .val (.ref b), .val (.int sa), .val (.int li), .val (.ref r), .val (.int ((1 : Int32) &&& (1 : Int32))), .val (.int (sa + (1 : Int32))), .val (.int ((own_by p1 sa) &&& (255 : Int32)))] [(.int li), (.int (sa + (1 : Int32)))])) _
        refine XS.icmpNo X27.here hx rfl (hb hby at_246) rfl (teq (Int32.toInt_inj.mp (by have z := hc118; rw [Int32.lt_iff_toInt_lt] at z; omega))).2 ?_
        show Steps p.tables e below (T27.setTop (mkF m 249 #[.val (.int p1), .val (.int p2), .val (.int p3), .val (.ref b), .val (.int sa), .val (.int li), .val (.ref r), .val (.int ((1 : Int32) &&& (1 : Int32))), .val (.int (sa + (1 : Int32))), .val (.int ((own_by p1 sa) &&& (255 : Int32)))] [])) _
        refine XS.aload X27.here hx rfl (hb hby at_249) rfl rfl ?_
        exact kt
      refine own_go go58 ?_
      obtain ⟨cq59, kq59, q59a, q59b, q59c⟩ := isOf hZ ex0 E0r
      obtain ⟨_, _, ⟨T59, L59, k59, n59⟩, -, X59, ⟨Lc59, hQ59, l59, y59, z59⟩, st59⟩ := X27.virtualBack hx (y := (⟨"com/example/hilera/hilera/ByteReader", "position", "()I"⟩ : MethodName)) (z := (⟨"com/example/hilera/hilera/ByteReader", "position", "()I"⟩ : MethodName)) hown (mvT hZ (hw _ (List.mem_of_getElem? (i := 19) rfl))) (mvT hZ (hw _ (List.mem_of_getElem? (i := 20) rfl))) (notFace_of_selects (args := #[]) (mvT hZ (hw _ (List.mem_of_getElem? (i := 22) rfl)))) (mvT hZ (hw _ (List.mem_of_getElem? (i := 22) rfl))) (mvT hZ (hw _ (List.mem_of_getElem? (i := 21) rfl))) (by decide) (backOf (W := 0) (rm3 l Z a0 hw [] r (sa + (1 : Int32)) T25.heap n0 (Nat.le_trans (Nat.le_trans (Nat.le_trans (Nat.le_trans (Nat.le_trans (Nat.le_trans (Nat.le_trans (Nat.le_trans Z0 E2.1) (Keep.of_wr W5).1) (Keep.of_wr W8).1) (Keep.of_wr W11).1) (Keep.of_wr W14).1) E19.1) Kc.1) K0r.1) Fp0r) hZ (hw _ (List.mem_of_getElem? (i := 23) rfl)) (hw _ (List.mem_of_getElem? (i := 4) rfl)) (by decide) (by decide)) q59a q59c (g := (mkF m 251 #[.val (.int p1), .val (.int p2), .val (.int p3), .val (.ref b), .val (.int sa), .val (.int li), .val (.ref r), .val (.int ((1 : Int32) &&& (1 : Int32))), .val (.int (sa + (1 : Int32))), .val (.int ((own_by p1 sa) &&& (255 : Int32)))] [(.ref r)])) rfl (by rw [hml]; rfl) (Steps.refl _) (argsL := []) (rest := []) (lenOf pd_1 rfl) rfl (by show 2 * 0 + _ ≤ _; exact Nat.le_of_eq rfl) (hb hby at_251) (fun _ _ => ⟨rfl, ex0, (by decide : 2 + 0 ≤ _), (by decide : 8 + 0 ≤ _)⟩)
      dsimp only [Pt.U, Pt.locs, Pt.cells, Pt.slots] at X59 l59 y59 z59 st59 hQ59
      subst l59 y59 z59
      obtain ⟨rfl, N59q, ep⟩ := hQ59
      have N59 := Fr.app N27 N59q
      refine own_go (S' := T59.setTop (mkF m 254 #[.val (.int p1), .val (.int p2), .val (.int p3), .val (.ref b), .val (.int sa), .val (.int li), .val (.ref r), .val (.int ((1 : Int32) &&& (1 : Int32))), .val (.int (sa + (1 : Int32))), .val (.int ((own_by p1 sa) &&& (255 : Int32)))] [(.int (sa + (1 : Int32)))])) (fun t k => st59.trans k) ?_
      have go60 : ∀ t, Steps p.tables e below (T59.setTop (mkF m 261 #[.val (.int p1), .val (.int p2), .val (.int p3), .val (.ref b), .val (.int sa), .val (.int li), .val (.ref r), .val (.int ((1 : Int32) &&& (1 : Int32))), .val (.int (sa + (1 : Int32))), .val (.int ((own_by p1 sa) &&& (255 : Int32)))] [(.ref r)])) t → Steps p.tables e below (T59.setTop (mkF m 254 #[.val (.int p1), .val (.int p2), .val (.int p3), .val (.ref b), .val (.int sa), .val (.int li), .val (.ref r), .val (.int ((1 : Int32) &&& (1 : Int32))), .val (.int (sa + (1 : Int32))), .val (.int ((own_by p1 sa) &&& (255 : Int32)))] [(.int (sa + (1 : Int32)))])) t := by
        intro t kt
        show Steps p.tables e below (T59.setTop (mkF m 254 #[.val (.int p1), .val (.int p2), .val (.int p3), .val (.ref b), .val (.int sa), .val (.int li), .val (.ref r), .val (.int ((1 : Int32) &&& (1 : Int32))), .val (.int (sa + (1 : Int32))), .val (.int ((own_by p1 sa) &&& (255 : Int32)))] [(.int (sa + (1 : Int32)))])) _
        refine XS.iload X59.here hx rfl (hb hby at_254) rfl ?_
        show Steps p.tables e below (T59.setTop (mkF m 256 #[.val (.int p1), .val (.int p2), .val (.int p3), .val (.ref b), .val (.int sa), .val (.int li), .val (.ref r), .val (.int ((1 : Int32) &&& (1 : Int32))), .val (.int (sa + (1 : Int32))), .val (.int ((own_by p1 sa) &&& (255 : Int32)))] [(.int li), (.int (sa + (1 : Int32)))])) _
        refine XS.icmpNo X59.here hx rfl (hb hby at_256) rfl (teq (Int32.toInt_inj.mp (by have z := hc118; rw [Int32.lt_iff_toInt_lt] at z; omega))).2 ?_
        show Steps p.tables e below (T59.setTop (mkF m 259 #[.val (.int p1), .val (.int p2), .val (.int p3), .val (.ref b), .val (.int sa), .val (.int li), .val (.ref r), .val (.int ((1 : Int32) &&& (1 : Int32))), .val (.int (sa + (1 : Int32))), .val (.int ((own_by p1 sa) &&& (255 : Int32)))] [])) _
        refine XS.aload X59.here hx rfl (hb hby at_259) rfl rfl ?_
        exact kt
      refine own_go go60 ?_
      obtain ⟨cq61, kq61, q61a, q61b, q61c⟩ := isOf hZ ep E0r
      obtain ⟨_, _, ⟨T61, L61, k61, n61⟩, -, X61, ⟨Lc61, hQ61, l61, y61, z61⟩, st61⟩ := X59.virtualBack hx (y := (⟨"com/example/hilera/hilera/ByteReader", "hasRemaining", "()Z"⟩ : MethodName)) (z := (⟨"com/example/hilera/hilera/ByteReader", "hasRemaining", "()Z"⟩ : MethodName)) hown (mvT hZ (hw _ (List.mem_of_getElem? (i := 24) rfl))) (mvT hZ (hw _ (List.mem_of_getElem? (i := 25) rfl))) (notFace_of_selects (args := #[]) (mvT hZ (hw _ (List.mem_of_getElem? (i := 27) rfl)))) (mvT hZ (hw _ (List.mem_of_getElem? (i := 27) rfl))) (mvT hZ (hw _ (List.mem_of_getElem? (i := 26) rfl))) (by decide) (backOf (W := 0) (rm4 l Z a0 hw [] r (sa + (1 : Int32)) li T25.heap n0 (Nat.le_trans (Nat.le_trans (Nat.le_trans (Nat.le_trans (Nat.le_trans (Nat.le_trans (Nat.le_trans (Nat.le_trans Z0 E2.1) (Keep.of_wr W5).1) (Keep.of_wr W8).1) (Keep.of_wr W11).1) (Keep.of_wr W14).1) E19.1) Kc.1) K0r.1) Fp0r Fl0r) hZ (hw _ (List.mem_of_getElem? (i := 28) rfl)) (hw _ (List.mem_of_getElem? (i := 4) rfl)) (by decide) (by decide)) q61a q61c (g := (mkF m 261 #[.val (.int p1), .val (.int p2), .val (.int p3), .val (.ref b), .val (.int sa), .val (.int li), .val (.ref r), .val (.int ((1 : Int32) &&& (1 : Int32))), .val (.int (sa + (1 : Int32))), .val (.int ((own_by p1 sa) &&& (255 : Int32)))] [(.ref r)])) rfl (by rw [hml]; rfl) (Steps.refl _) (argsL := []) (rest := []) (lenOf pd_3 rfl) rfl (by show 2 * 0 + _ ≤ _; exact Nat.le_of_eq rfl) (hb hby at_261) (fun _ _ => ⟨rfl, ep, (by decide : 2 + 0 ≤ _), (by decide : 8 + 0 ≤ _)⟩)
      dsimp only [Pt.U, Pt.locs, Pt.cells, Pt.slots] at X61 l61 y61 z61 st61 hQ61
      subst l61 y61 z61
      obtain ⟨rfl, N61q, eh⟩ := hQ61
      have N61 := Fr.app N59 N61q
      refine own_go (S' := T61.setTop (mkF m 264 #[.val (.int p1), .val (.int p2), .val (.int p3), .val (.ref b), .val (.int sa), .val (.int li), .val (.ref r), .val (.int ((1 : Int32) &&& (1 : Int32))), .val (.int (sa + (1 : Int32))), .val (.int ((own_by p1 sa) &&& (255 : Int32)))] [(.int (own_rem (sa + (1 : Int32)) li))])) (fun t k => st61.trans k) ?_
      have go62 : ∀ t, Steps p.tables e below (T61.setTop (mkF m 272 #[.val (.int p1), .val (.int p2), .val (.int p3), .val (.ref b), .val (.int sa), .val (.int li), .val (.ref r), .val (.int ((1 : Int32) &&& (1 : Int32))), .val (.int (sa + (1 : Int32))), .val (.int ((own_by p1 sa) &&& (255 : Int32)))] [(.int (1 : Int32))])) t → Steps p.tables e below (T61.setTop (mkF m 264 #[.val (.int p1), .val (.int p2), .val (.int p3), .val (.ref b), .val (.int sa), .val (.int li), .val (.ref r), .val (.int ((1 : Int32) &&& (1 : Int32))), .val (.int (sa + (1 : Int32))), .val (.int ((own_by p1 sa) &&& (255 : Int32)))] [(.int (own_rem (sa + (1 : Int32)) li))])) t := by
        intro t kt
        show Steps p.tables e below (T61.setTop (mkF m 264 #[.val (.int p1), .val (.int p2), .val (.int p3), .val (.ref b), .val (.int sa), .val (.int li), .val (.ref r), .val (.int ((1 : Int32) &&& (1 : Int32))), .val (.int (sa + (1 : Int32))), .val (.int ((own_by p1 sa) &&& (255 : Int32)))] [(.int (own_rem (sa + (1 : Int32)) li))])) _
        refine XS.ifNo X61.here hx rfl (hb hby at_264) rfl ((if0 _ _).trans (teq (own_rem0 _ _ (Int32.toInt_inj.mp (by have z := hc118; rw [Int32.lt_iff_toInt_lt] at z; omega)))).2) ?_
        show Steps p.tables e below (T61.setTop (mkF m 267 #[.val (.int p1), .val (.int p2), .val (.int p3), .val (.ref b), .val (.int sa), .val (.int li), .val (.ref r), .val (.int ((1 : Int32) &&& (1 : Int32))), .val (.int (sa + (1 : Int32))), .val (.int ((own_by p1 sa) &&& (255 : Int32)))] [])) _
        refine XS.iconst X61.here hx rfl (hb hby at_267) ?_
        show Steps p.tables e below (T61.setTop (mkF m 268 #[.val (.int p1), .val (.int p2), .val (.int p3), .val (.ref b), .val (.int sa), .val (.int li), .val (.ref r), .val (.int ((1 : Int32) &&& (1 : Int32))), .val (.int (sa + (1 : Int32))), .val (.int ((own_by p1 sa) &&& (255 : Int32)))] [(.int (1 : Int32))])) _
        refine XS.goto X61.here hx rfl (pc0 := 268) (pc' := 272) rfl (hb hby at_268) (by decide) (by decide) ?_
        exact kt
      refine own_go go62 ?_
      obtain ⟨fs, hr, hrun, hended, hW, hsame⟩ := X61.leave (v := some (.int (1 : Int32))) (fun h => by rw [Bd.returns] at h; cases h)
      refine ⟨_, _, retN X61 hx (t := .boolean) Bd.returns (by simp) (hb hby at_272) hr, hrun, hended, _, _, rfl, ?_, ⟨_, rfl⟩, hW, hsame.mono (by decide) (by decide)⟩
      show Q0 Z  h0 n0 _ T61.heap _
      rw [eh]
      exact ⟨rfl, N61⟩
  · have go63 : ∀ t, Steps p.tables e below (T21.setTop (mkF m 251 #[.val (.int p1), .val (.int p2), .val (.int p3), .val (.ref b), .val (.int sa), .val (.int li), .val (.ref r), .val (.int (1 : Int32)), .val (.int sa), .unset] [(.ref r)])) t → Steps p.tables e below (T21.setTop (mkF m 77 #[.val (.int p1), .val (.int p2), .val (.int p3), .val (.ref b), .val (.int sa), .val (.int li), .val (.ref r), .val (.int (1 : Int32)), .val (.int sa), .unset] [(.int li), (.int sa)])) t := by
      intro t kt
      show Steps p.tables e below (T21.setTop (mkF m 77 #[.val (.int p1), .val (.int p2), .val (.int p3), .val (.ref b), .val (.int sa), .val (.int li), .val (.ref r), .val (.int (1 : Int32)), .val (.int sa), .unset] [(.int li), (.int sa)])) _
      refine XS.icmpYes X21.here hx rfl (pc0 := 77) (pc' := 114) rfl (hb hby at_77) rfl (flt hc77).2.1 (by decide) (by decide) ?_
      show Steps p.tables e below (T21.setTop (mkF m 114 #[.val (.int p1), .val (.int p2), .val (.int p3), .val (.ref b), .val (.int sa), .val (.int li), .val (.ref r), .val (.int (1 : Int32)), .val (.int sa), .unset] [])) _
      refine XS.iload X21.here hx rfl (hb hby at_114) rfl ?_
      show Steps p.tables e below (T21.setTop (mkF m 116 #[.val (.int p1), .val (.int p2), .val (.int p3), .val (.ref b), .val (.int sa), .val (.int li), .val (.ref r), .val (.int (1 : Int32)), .val (.int sa), .unset] [(.int sa)])) _
      refine XS.iload X21.here hx rfl (hb hby at_116) rfl ?_
      show Steps p.tables e below (T21.setTop (mkF m 118 #[.val (.int p1), .val (.int p2), .val (.int p3), .val (.ref b), .val (.int sa), .val (.int li), .val (.ref r), .val (.int (1 : Int32)), .val (.int sa), .unset] [(.int li), (.int sa)])) _
      refine XS.icmpYes X21.here hx rfl (pc0 := 118) (pc' := 155) rfl (hb hby at_118) rfl (flt hc77).2.1 (by decide) (by decide) ?_
      show Steps p.tables e below (T21.setTop (mkF m 155 #[.val (.int p1), .val (.int p2), .val (.int p3), .val (.ref b), .val (.int sa), .val (.int li), .val (.ref r), .val (.int (1 : Int32)), .val (.int sa), .unset] [])) _
      refine XS.iload X21.here hx rfl (hb hby at_155) rfl ?_
      show Steps p.tables e below (T21.setTop (mkF m 157 #[.val (.int p1), .val (.int p2), .val (.int p3), .val (.ref b), .val (.int sa), .val (.int li), .val (.ref r), .val (.int (1 : Int32)), .val (.int sa), .unset] [(.int sa)])) _
      refine XS.iload X21.here hx rfl (hb hby at_157) rfl ?_
      show Steps p.tables e below (T21.setTop (mkF m 159 #[.val (.int p1), .val (.int p2), .val (.int p3), .val (.ref b), .val (.int sa), .val (.int li), .val (.ref r), .val (.int (1 : Int32)), .val (.int sa), .unset] [(.int li), (.int sa)])) _
      refine XS.icmpYes X21.here hx rfl (pc0 := 159) (pc' := 196) rfl (hb hby at_159) rfl (flt hc77).2.1 (by decide) (by decide) ?_
      show Steps p.tables e below (T21.setTop (mkF m 196 #[.val (.int p1), .val (.int p2), .val (.int p3), .val (.ref b), .val (.int sa), .val (.int li), .val (.ref r), .val (.int (1 : Int32)), .val (.int sa), .unset] [])) _
      refine XS.iload X21.here hx rfl (hb hby at_196) rfl ?_
      show Steps p.tables e below (T21.setTop (mkF m 198 #[.val (.int p1), .val (.int p2), .val (.int p3), .val (.ref b), .val (.int sa), .val (.int li), .val (.ref r), .val (.int (1 : Int32)), .val (.int sa), .unset] [(.int sa)])) _
      refine XS.iload X21.here hx rfl (hb hby at_198) rfl ?_
      show Steps p.tables e below (T21.setTop (mkF m 200 #[.val (.int p1), .val (.int p2), .val (.int p3), .val (.ref b), .val (.int sa), .val (.int li), .val (.ref r), .val (.int (1 : Int32)), .val (.int sa), .unset] [(.int li), (.int sa)])) _
      refine XS.icmpYes X21.here hx rfl (pc0 := 200) (pc' := 237) rfl (hb hby at_200) rfl (flt hc77).2.1 (by decide) (by decide) ?_
      show Steps p.tables e below (T21.setTop (mkF m 237 #[.val (.int p1), .val (.int p2), .val (.int p3), .val (.ref b), .val (.int sa), .val (.int li), .val (.ref r), .val (.int (1 : Int32)), .val (.int sa), .unset] [])) _
      refine XS.iload X21.here hx rfl (hb hby at_237) rfl ?_
      show Steps p.tables e below (T21.setTop (mkF m 239 #[.val (.int p1), .val (.int p2), .val (.int p3), .val (.ref b), .val (.int sa), .val (.int li), .val (.ref r), .val (.int (1 : Int32)), .val (.int sa), .unset] [(.int (1 : Int32))])) _
      refine XS.ifNo X21.here hx rfl (hb hby at_239) rfl ((if0 _ _).trans (feq (by decide)).1) ?_
      show Steps p.tables e below (T21.setTop (mkF m 242 #[.val (.int p1), .val (.int p2), .val (.int p3), .val (.ref b), .val (.int sa), .val (.int li), .val (.ref r), .val (.int (1 : Int32)), .val (.int sa), .unset] [])) _
      refine XS.iload X21.here hx rfl (hb hby at_242) rfl ?_
      show Steps p.tables e below (T21.setTop (mkF m 244 #[.val (.int p1), .val (.int p2), .val (.int p3), .val (.ref b), .val (.int sa), .val (.int li), .val (.ref r), .val (.int (1 : Int32)), .val (.int sa), .unset] [(.int sa)])) _
      refine XS.iload X21.here hx rfl (hb hby at_244) rfl ?_
      show Steps p.tables e below (T21.setTop (mkF m 246 #[.val (.int p1), .val (.int p2), .val (.int p3), .val (.ref b), .val (.int sa), .val (.int li), .val (.ref r), .val (.int (1 : Int32)), .val (.int sa), .unset] [(.int li), (.int sa)])) _
      refine XS.icmpNo X21.here hx rfl (hb hby at_246) rfl (teq (Int32.toInt_inj.mp (by have z := hc77; rw [Int32.lt_iff_toInt_lt] at z; omega))).2 ?_
      show Steps p.tables e below (T21.setTop (mkF m 249 #[.val (.int p1), .val (.int p2), .val (.int p3), .val (.ref b), .val (.int sa), .val (.int li), .val (.ref r), .val (.int (1 : Int32)), .val (.int sa), .unset] [])) _
      refine XS.aload X21.here hx rfl (hb hby at_249) rfl rfl ?_
      exact kt
    refine own_go go63 ?_
    obtain ⟨cq64, kq64, q64a, q64b, q64c⟩ := isOf hZ rfl Ec
    obtain ⟨_, _, ⟨T64, L64, k64, n64⟩, -, X64, ⟨Lc64, hQ64, l64, y64, z64⟩, st64⟩ := X21.virtualBack hx (y := (⟨"com/example/hilera/hilera/ByteReader", "position", "()I"⟩ : MethodName)) (z := (⟨"com/example/hilera/hilera/ByteReader", "position", "()I"⟩ : MethodName)) hown (mvT hZ (hw _ (List.mem_of_getElem? (i := 19) rfl))) (mvT hZ (hw _ (List.mem_of_getElem? (i := 20) rfl))) (notFace_of_selects (args := #[]) (mvT hZ (hw _ (List.mem_of_getElem? (i := 22) rfl)))) (mvT hZ (hw _ (List.mem_of_getElem? (i := 22) rfl))) (mvT hZ (hw _ (List.mem_of_getElem? (i := 21) rfl))) (by decide) (backOf (W := 0) (rm3 l Z a0 hw [] r sa T21.heap n0 (Nat.le_trans (Nat.le_trans (Nat.le_trans (Nat.le_trans (Nat.le_trans (Nat.le_trans (Nat.le_trans Z0 E2.1) (Keep.of_wr W5).1) (Keep.of_wr W8).1) (Keep.of_wr W11).1) (Keep.of_wr W14).1) E19.1) Kc.1) Fpc) hZ (hw _ (List.mem_of_getElem? (i := 23) rfl)) (hw _ (List.mem_of_getElem? (i := 4) rfl)) (by decide) (by decide)) q64a q64c (g := (mkF m 251 #[.val (.int p1), .val (.int p2), .val (.int p3), .val (.ref b), .val (.int sa), .val (.int li), .val (.ref r), .val (.int (1 : Int32)), .val (.int sa), .unset] [(.ref r)])) rfl (by rw [hml]; rfl) (Steps.refl _) (argsL := []) (rest := []) (lenOf pd_1 rfl) rfl (by show 2 * 0 + _ ≤ _; exact Nat.le_of_eq rfl) (hb hby at_251) (fun _ _ => ⟨rfl, rfl, (by decide : 2 + 0 ≤ _), (by decide : 8 + 0 ≤ _)⟩)
    dsimp only [Pt.U, Pt.locs, Pt.cells, Pt.slots] at X64 l64 y64 z64 st64 hQ64
    subst l64 y64 z64
    obtain ⟨rfl, N64q, ep⟩ := hQ64
    have N64 := Fr.app N21 N64q
    refine own_go (S' := T64.setTop (mkF m 254 #[.val (.int p1), .val (.int p2), .val (.int p3), .val (.ref b), .val (.int sa), .val (.int li), .val (.ref r), .val (.int (1 : Int32)), .val (.int sa), .unset] [(.int sa)])) (fun t k => st64.trans k) ?_
    have go65 : ∀ t, Steps p.tables e below (T64.setTop (mkF m 261 #[.val (.int p1), .val (.int p2), .val (.int p3), .val (.ref b), .val (.int sa), .val (.int li), .val (.ref r), .val (.int (1 : Int32)), .val (.int sa), .unset] [(.ref r)])) t → Steps p.tables e below (T64.setTop (mkF m 254 #[.val (.int p1), .val (.int p2), .val (.int p3), .val (.ref b), .val (.int sa), .val (.int li), .val (.ref r), .val (.int (1 : Int32)), .val (.int sa), .unset] [(.int sa)])) t := by
      intro t kt
      show Steps p.tables e below (T64.setTop (mkF m 254 #[.val (.int p1), .val (.int p2), .val (.int p3), .val (.ref b), .val (.int sa), .val (.int li), .val (.ref r), .val (.int (1 : Int32)), .val (.int sa), .unset] [(.int sa)])) _
      refine XS.iload X64.here hx rfl (hb hby at_254) rfl ?_
      show Steps p.tables e below (T64.setTop (mkF m 256 #[.val (.int p1), .val (.int p2), .val (.int p3), .val (.ref b), .val (.int sa), .val (.int li), .val (.ref r), .val (.int (1 : Int32)), .val (.int sa), .unset] [(.int li), (.int sa)])) _
      refine XS.icmpNo X64.here hx rfl (hb hby at_256) rfl (teq (Int32.toInt_inj.mp (by have z := hc77; rw [Int32.lt_iff_toInt_lt] at z; omega))).2 ?_
      show Steps p.tables e below (T64.setTop (mkF m 259 #[.val (.int p1), .val (.int p2), .val (.int p3), .val (.ref b), .val (.int sa), .val (.int li), .val (.ref r), .val (.int (1 : Int32)), .val (.int sa), .unset] [])) _
      refine XS.aload X64.here hx rfl (hb hby at_259) rfl rfl ?_
      exact kt
    refine own_go go65 ?_
    obtain ⟨cq66, kq66, q66a, q66b, q66c⟩ := isOf hZ ep Ec
    obtain ⟨_, _, ⟨T66, L66, k66, n66⟩, -, X66, ⟨Lc66, hQ66, l66, y66, z66⟩, st66⟩ := X64.virtualBack hx (y := (⟨"com/example/hilera/hilera/ByteReader", "hasRemaining", "()Z"⟩ : MethodName)) (z := (⟨"com/example/hilera/hilera/ByteReader", "hasRemaining", "()Z"⟩ : MethodName)) hown (mvT hZ (hw _ (List.mem_of_getElem? (i := 24) rfl))) (mvT hZ (hw _ (List.mem_of_getElem? (i := 25) rfl))) (notFace_of_selects (args := #[]) (mvT hZ (hw _ (List.mem_of_getElem? (i := 27) rfl)))) (mvT hZ (hw _ (List.mem_of_getElem? (i := 27) rfl))) (mvT hZ (hw _ (List.mem_of_getElem? (i := 26) rfl))) (by decide) (backOf (W := 0) (rm4 l Z a0 hw [] r sa li T21.heap n0 (Nat.le_trans (Nat.le_trans (Nat.le_trans (Nat.le_trans (Nat.le_trans (Nat.le_trans (Nat.le_trans Z0 E2.1) (Keep.of_wr W5).1) (Keep.of_wr W8).1) (Keep.of_wr W11).1) (Keep.of_wr W14).1) E19.1) Kc.1) Fpc Flc) hZ (hw _ (List.mem_of_getElem? (i := 28) rfl)) (hw _ (List.mem_of_getElem? (i := 4) rfl)) (by decide) (by decide)) q66a q66c (g := (mkF m 261 #[.val (.int p1), .val (.int p2), .val (.int p3), .val (.ref b), .val (.int sa), .val (.int li), .val (.ref r), .val (.int (1 : Int32)), .val (.int sa), .unset] [(.ref r)])) rfl (by rw [hml]; rfl) (Steps.refl _) (argsL := []) (rest := []) (lenOf pd_3 rfl) rfl (by show 2 * 0 + _ ≤ _; exact Nat.le_of_eq rfl) (hb hby at_261) (fun _ _ => ⟨rfl, ep, (by decide : 2 + 0 ≤ _), (by decide : 8 + 0 ≤ _)⟩)
    dsimp only [Pt.U, Pt.locs, Pt.cells, Pt.slots] at X66 l66 y66 z66 st66 hQ66
    subst l66 y66 z66
    obtain ⟨rfl, N66q, eh⟩ := hQ66
    have N66 := Fr.app N64 N66q
    refine own_go (S' := T66.setTop (mkF m 264 #[.val (.int p1), .val (.int p2), .val (.int p3), .val (.ref b), .val (.int sa), .val (.int li), .val (.ref r), .val (.int (1 : Int32)), .val (.int sa), .unset] [(.int (own_rem sa li))])) (fun t k => st66.trans k) ?_
    have go67 : ∀ t, Steps p.tables e below (T66.setTop (mkF m 272 #[.val (.int p1), .val (.int p2), .val (.int p3), .val (.ref b), .val (.int sa), .val (.int li), .val (.ref r), .val (.int (1 : Int32)), .val (.int sa), .unset] [(.int (1 : Int32))])) t → Steps p.tables e below (T66.setTop (mkF m 264 #[.val (.int p1), .val (.int p2), .val (.int p3), .val (.ref b), .val (.int sa), .val (.int li), .val (.ref r), .val (.int (1 : Int32)), .val (.int sa), .unset] [(.int (own_rem sa li))])) t := by
      intro t kt
      show Steps p.tables e below (T66.setTop (mkF m 264 #[.val (.int p1), .val (.int p2), .val (.int p3), .val (.ref b), .val (.int sa), .val (.int li), .val (.ref r), .val (.int (1 : Int32)), .val (.int sa), .unset] [(.int (own_rem sa li))])) _
      refine XS.ifNo X66.here hx rfl (hb hby at_264) rfl ((if0 _ _).trans (teq (own_rem0 _ _ (Int32.toInt_inj.mp (by have z := hc77; rw [Int32.lt_iff_toInt_lt] at z; omega)))).2) ?_
      show Steps p.tables e below (T66.setTop (mkF m 267 #[.val (.int p1), .val (.int p2), .val (.int p3), .val (.ref b), .val (.int sa), .val (.int li), .val (.ref r), .val (.int (1 : Int32)), .val (.int sa), .unset] [])) _
      refine XS.iconst X66.here hx rfl (hb hby at_267) ?_
      show Steps p.tables e below (T66.setTop (mkF m 268 #[.val (.int p1), .val (.int p2), .val (.int p3), .val (.ref b), .val (.int sa), .val (.int li), .val (.ref r), .val (.int (1 : Int32)), .val (.int sa), .unset] [(.int (1 : Int32))])) _
      refine XS.goto X66.here hx rfl (pc0 := 268) (pc' := 272) rfl (hb hby at_268) (by decide) (by decide) ?_
      exact kt
    refine own_go go67 ?_
    obtain ⟨fs, hr, hrun, hended, hW, hsame⟩ := X66.leave (v := some (.int (1 : Int32))) (fun h => by rw [Bd.returns] at h; cases h)
    refine ⟨_, _, retN X66 hx (t := .boolean) Bd.returns (by simp) (hb hby at_272) hr, hrun, hended, _, _, rfl, ?_, ⟨_, rfl⟩, hW, hsame.mono (by decide) (by decide)⟩
    show Q0 Z  h0 n0 _ T66.heap _
    rw [eh]
    exact ⟨rfl, N66⟩
set_option maxRecDepth 65536 in
set_option maxHeartbeats 40000000 in
theorem comes_1 {Post : Tables → Env → Array Value → State → Outcome → State → Prop} (hpost : ∀ tb e args s v u, (limb_1_1.after args s (.returned v) u = true ∧ limb_1_2.after args s (.returned v) u = true ∧ True) → FrameEnd s (.returned v) u (Jvm.fieldLocs frame_1_writes args s ++ Jvm.arrayLocs frame_1_arrays args s ++ Jvm.staticLocs frame_1_statics s) 16 128 → Post tb e args s (.returned v) u) :
    ArmFor flags0 classFile x code maxLocals ret World_1 tables_1 room_1 Calls_1 rest_1 Pre_1 Post := by
  intro l hfl _ _ p e ha hc hk s m args below hf hA hF happ hP
  obtain ⟨hcalls, hrest, hpre⟩ := hP
  obtain ⟨-, -, -, hnamed, -, -, -, hat⟩ := (Spec.applies_iff hf).mp happ
  obtain ⟨hg, hn⟩ := and_e (Cond.before_iff.mp (show (Jvm.Cond.and given_1 narrow_1).before args s = true from hpre))
  obtain ⟨gc, r0⟩ := and_e hg
  obtain ⟨g0, r1⟩ := and_e r0
  obtain ⟨g1, r2⟩ := and_e r1
  obtain ⟨w0, w1, w2, rfl⟩ : ∃ w0 w1 w2 : Value, args = #[w0, w1, w2] := by
    have hs : args.size = 3 := by simpa [Cond.value, given_1] using gc
    obtain ⟨L⟩ := args
    match L, hs with
    | [w0, w1, w2], _ => exact ⟨w0, w1, w2, rfl⟩
  have hw := fun d (hd : d ∈ tables_1) => atoms_spec (ws := Jvm.Cond.code x code maxLocals ret :: tables_1) hat d (List.mem_cons_of_mem _ hd)
  obtain ⟨i0, ei0⟩ := is_v g0
  obtain rfl : w0 = (.int i0) := Option.some.inj ei0
  obtain ⟨i1, ei1⟩ := is_v g1
  obtain rfl : w1 = (.int i1) := Option.some.inj ei1
  obtain ⟨i2, ei2⟩ := is_v r2
  obtain rfl : w2 = (.int i2) := Option.some.inj ei2
  obtain ⟨n, o, h1, h2, h3, _, L, rfl, ⟨rfl, N⟩, hq⟩ := rm0 l s _ hw tables_1 i0 i1 i2 s.heap s.heap.size (Nat.le_refl _) p e ha hc hk s m _ below hf ((Spec.applies_iff_loose hf).mp happ).1 ⟨rfl, State.Warmed39.refl s, rfl⟩ trivial
  refine ⟨n, _, h1, h2, h3, hpost _ _ _ _ _ _ ⟨Cond.after_iff.mpr rfl, Cond.after_iff.mpr (eq_i res_at (Term.int_eval (1)) rfl), trivial⟩ ⟨hq.1, hq.2.1, (hq.2.2.sift fun y hy => Or.inr (N y hy)).mono (by decide) (by decide)⟩⟩
theorem main_1_1 : Claimed_1_1 := comes_1 fun _ _ _ _ _ _ h hF => ⟨h.1, hF⟩
theorem main_1_2 : Claimed_1_2 := comes_1 fun _ _ _ _ _ _ h hF => ⟨h.2.1, hF⟩
end Jvm.Pilot.@@N@@
namespace Jvm.Pilot.@@N@@
open Jvm Jvm.ClassFile Sem Op Lib Jvm.Free Jvm.Stand Jvm.Pilot.@@N@@.Jvm.D
/-! MADE BY PROGRAM (witnessworld.py) out of the Statement's table words and the real class files: 9 classes; the members and pool entries that the words name. The judged class is class 1, her method 1. -/
namespace start1
open Jvm.ClassFile
def u (s : String) : CpInfo := .utf8 (stringToUtf16 s)
/-- a pool by its gaps: so many unusable entries, then the entry; so many at the end -/
def gap : Nat → List CpInfo → List CpInfo
  | 0, r => r
  | n + 1, r => .unusable :: gap n r
def poolList (es : List (Nat × CpInfo)) (last : Nat) : List CpInfo := es.foldr (fun e r => gap e.1 (e.2 :: r)) (gap last [])
def pool (es : List (Nat × CpInfo)) (last : Nat) : Array CpInfo := ⟨poolList es last⟩
def fileOf (pool : Array CpInfo) (this : Nat) (attrs : Array Attribute := #[]) (ms : Array MethodInfo := #[]) (fl : Nat := 33) (sup : Nat := 0) (ifs : Array Nat := #[]) (fds : Array FieldInfo := #[]) : ClassFile where
  minorVersion := 0
  majorVersion := 65
  constantPool := pool
  accessFlags := fl
  thisClass := this
  superClass := sup
  interfaces := ifs
  fields := fds
  methods := ms
  attributes := attrs
def plain (name : String) (sup : Option ClassId) : Class where
  name := name
  kind := .ordinary
  loader := none
  accessFlags := 33
  super := sup
  interfaces := #[]
  cf := none
  fields := #[]
  methods := #[]
  instanceTypes := #[]
  staticTypes := #[]
  resolved := #[]
  callSites := []
  init := .initialized
  statics := none
  mirror := none

def pool0 : Array CpInfo := pool [(5, u "<init>"), (0, u "()V"), (1, .class_ 10), (1, u "java/lang/Object")] 113

def k0c0 : Code := { maxStack := 0, maxLocals := 1, code := object_method_1_code, exceptionTable := #[], attributes := #[] }
def k0m0 : Method := { name := "<init>", desc := "()V", sig := { parameters := [], returnType := none }, accessFlags := 1, code := some k0c0 }
/-- java/lang/Object -/
def k0 : Class := { plain "java/lang/Object" none with
  accessFlags := 33
  interfaces := #[]
  cf := some (fileOf pool0 8 #[] #[{ accessFlags := 1, nameIndex := 5, descriptorIndex := 6, attributes := #[] }] 33 0 #[] #[])
  fields := #[]
  methods := #[k0m0]
  instanceTypes := #[]
  staticTypes := #[]
  resolved := Array.replicate 124 none
  statics := none }

def pool1 : Array CpInfo := pool [(2, .class_ 4), (1, u "java/lang/Object"), (0, u "<init>"), (0, u "()V"), (0, .integer 2147483647), (0, .class_ 9), (0, u "com/example/hilera/hilera/ByteReader"), (0, .methodref 8 11), (0, .nameAndType 5 12), (0, u "([BII)V"), (0, .methodref 8 14), (0, .nameAndType 15 16), (0, u "read"), (0, u "()I"), (0, .methodref 18 19), (0, .class_ 20), (0, .nameAndType 21 22), (0, u "com/example/hilera/hilera/ByteReaderReadPinLaw"), (0, u "expected"), (0, u "(II)I"), (0, .methodref 8 24), (0, .nameAndType 25 16), (0, u "position"), (0, .methodref 8 27), (0, .nameAndType 28 29), (0, u "hasRemaining"), (0, u "()Z"), (2, u "law"), (0, u "(III)Z")] 5

def k1m0 : Method := { name := "<init>", desc := "()V", sig := { parameters := [], returnType := none }, accessFlags := 1, code := none }
def k1c1 : Code := { maxStack := 5, maxLocals := 10, code := code, exceptionTable := #[], attributes := #[] }
def k1m1 : Method := { name := "law", desc := "(III)Z", sig := { parameters := [.int, .int, .int], returnType := some .boolean }, accessFlags := 9, code := some k1c1 }
def k1c2 : Code := { maxStack := 3, maxLocals := 2, code := method_3_code, exceptionTable := #[], attributes := #[] }
def k1m2 : Method := { name := "expected", desc := "(II)I", sig := { parameters := [.int, .int], returnType := some .int }, accessFlags := 10, code := some k1c2 }
/-- com/example/hilera/hilera/ByteReaderReadPinLaw -/
def k1 : Class := { plain "com/example/hilera/hilera/ByteReaderReadPinLaw" (some 0) with
  accessFlags := 49
  interfaces := #[]
  cf := some (fileOf pool1 18 #[] #[{ accessFlags := 1, nameIndex := 5, descriptorIndex := 6, attributes := #[] }, { accessFlags := 9, nameIndex := 32, descriptorIndex := 33, attributes := #[] }, { accessFlags := 10, nameIndex := 21, descriptorIndex := 22, attributes := #[] }] 49 2 #[] #[])
  fields := #[]
  methods := #[k1m0, k1m1, k1m2]
  instanceTypes := #[]
  staticTypes := #[]
  resolved := Array.replicate 39 none
  statics := none }

def pool2 : Array CpInfo := pool [(2, .class_ 4), (1, u "com/example/hilera/hilera/ByteReader"), (0, u "<init>"), (0, u "([BII)V"), (0, .methodref 8 9), (0, .class_ 10), (0, .nameAndType 5 11), (0, u "java/lang/Object"), (0, u "()V"), (0, .fieldref 2 13), (0, .nameAndType 14 15), (0, u "bytes"), (0, u "[B"), (0, .fieldref 2 17), (0, .nameAndType 18 19), (0, u "start"), (0, u "I"), (0, .fieldref 2 21), (0, .nameAndType 22 19), (0, u "limit"), (0, .fieldref 2 24), (0, .nameAndType 25 19), (0, u "position"), (20, u "read"), (0, u "()I"), (14, u "hasRemaining"), (0, u "()Z")] 21

def k2c0 : Code := { maxStack := 2, maxLocals := 4, code := prog_12_method_2_code, exceptionTable := #[], attributes := #[] }
def k2m0 : Method := { name := "<init>", desc := "([BII)V", sig := { parameters := [(.array .byte), .int, .int], returnType := none }, accessFlags := 0, code := some k2c0 }
def k2c1 : Code := { maxStack := 1, maxLocals := 1, code := prog_12_method_5_code, exceptionTable := #[], attributes := #[] }
def k2m1 : Method := { name := "position", desc := "()I", sig := { parameters := [], returnType := some .int }, accessFlags := 0, code := some k2c1 }
def k2c2 : Code := { maxStack := 2, maxLocals := 1, code := prog_12_method_9_code, exceptionTable := #[], attributes := #[] }
def k2m2 : Method := { name := "hasRemaining", desc := "()Z", sig := { parameters := [], returnType := some .boolean }, accessFlags := 0, code := some k2c2 }
def k2c3 : Code := { maxStack := 5, maxLocals := 1, code := prog_12_method_10_code, exceptionTable := #[], attributes := #[] }
def k2m3 : Method := { name := "read", desc := "()I", sig := { parameters := [], returnType := some .int }, accessFlags := 0, code := some k2c3 }
/-- com/example/hilera/hilera/ByteReader -/
def k2 : Class := { plain "com/example/hilera/hilera/ByteReader" (some 0) with
  accessFlags := 48
  interfaces := #[]
  cf := some (fileOf pool2 2 #[] #[{ accessFlags := 0, nameIndex := 5, descriptorIndex := 6, attributes := #[] }, { accessFlags := 0, nameIndex := 25, descriptorIndex := 47, attributes := #[] }, { accessFlags := 0, nameIndex := 62, descriptorIndex := 63, attributes := #[] }, { accessFlags := 0, nameIndex := 46, descriptorIndex := 47, attributes := #[] }] 48 8 #[] #[{ accessFlags := 18, nameIndex := 14, descriptorIndex := 15, attributes := #[] }, { accessFlags := 18, nameIndex := 18, descriptorIndex := 19, attributes := #[] }, { accessFlags := 18, nameIndex := 22, descriptorIndex := 19, attributes := #[] }, { accessFlags := 2, nameIndex := 25, descriptorIndex := 19, attributes := #[] }])
  fields := #[{ name := "bytes", type := (.array .byte), accessFlags := 18, slot := 0, constantValue := 0 }, { name := "start", type := .int, accessFlags := 18, slot := 1, constantValue := 0 }, { name := "limit", type := .int, accessFlags := 18, slot := 2, constantValue := 0 }, { name := "position", type := .int, accessFlags := 2, slot := 3, constantValue := 0 }]
  methods := #[k2m0, k2m1, k2m2, k2m3]
  instanceTypes := #[(.array .byte), .int, .int, .int]
  staticTypes := #[]
  resolved := Array.replicate 85 none
  statics := none }

def pool3 : Array CpInfo := pool [(1, u "java/lang/Cloneable"), (0, .class_ 1), (0, u "java/lang/Object"), (0, .class_ 3)] 3

/-- java/lang/Cloneable -/
def k3 : Class := { plain "java/lang/Cloneable" (some 0) with
  accessFlags := 1537
  interfaces := #[]
  cf := some (fileOf pool3 2 #[] #[] 1537 4 #[] #[])
  fields := #[]
  methods := #[]
  instanceTypes := #[]
  staticTypes := #[]
  resolved := Array.replicate 8 none
  statics := none }

def pool4 : Array CpInfo := pool [(1, u "java/io/Serializable"), (0, .class_ 1), (0, u "java/lang/Object"), (0, .class_ 3)] 3

/-- java/io/Serializable -/
def k4 : Class := { plain "java/io/Serializable" (some 0) with
  accessFlags := 1537
  interfaces := #[]
  cf := some (fileOf pool4 2 #[] #[] 1537 4 #[] #[])
  fields := #[]
  methods := #[]
  instanceTypes := #[]
  staticTypes := #[]
  resolved := Array.replicate 8 none
  statics := none }

/-- the primitive byte -/
def k5 : Class := { plain "byte" none with kind := .primitive 'B', accessFlags := 0x411 }
/-- [B -/
def k6 : Class := { plain "[B" (some 0) with kind := .array 5 .byte, interfaces := #[3, 4], accessFlags := 1041 }

/-- the primitive int -/
def k7 : Class := { plain "int" none with kind := .primitive 'I', accessFlags := 0x411 }
/-- [I -/
def k8 : Class := { plain "[I" (some 0) with kind := .array 7 .int, interfaces := #[3, 4], accessFlags := 1041 }

def heap : Heap := #[]
def classes : Array Class := #[k0, k1, k2, k3, k4, k5, k6, k7, k8]
def interned : List (Array UInt16 × Addr) := []
def slotsUsed : Nat := 0
def theMethod : MethodId := ⟨1, 1⟩
def args0 : Array Value := #[.int 5, .int 1, .int 300]
def aboutOver (below : List Frame) : State where
  vm := { classes := classes, interned := interned.toArray }
  heap := heap
  slotsUsed := slotsUsed
  threads := #[{ frames := .invoking theMethod args0 :: below }]
def below0 : List Frame := [.native { method := ⟨0, 0⟩, args := #[] }]
def about1 : State := aboutOver below0
def p0 : Program := .bare "" "" ""
def e0 : Env := launch0.env 0 0 0
theorem w_frames : about1.frames = Frame.invoking theMethod args0 :: below0 := rfl
set_option maxRecDepth 65536 in
theorem w_args : argsFit about1.vm theMethod args0 = true := by decide +kernel
set_option maxRecDepth 65536 in
theorem w_heap : heapFits about1 = true := by decide +kernel
set_option maxRecDepth 65536 in
theorem w_runnable : about1.curStatus? = some .runnable := by decide +kernel
set_option maxRecDepth 65536 in
theorem w_alone : about1.alone = true := by decide +kernel
set_option maxRecDepth 65536 in
theorem w_named : about1.methodNamed? x = some theMethod := by decide +kernel
set_option maxRecDepth 65536 in
theorem w_hears : about1.hears theMethod below0 = true := by decide +kernel
set_option maxRecDepth 65536 in
theorem w_ripe : about1.ripe theMethod args0 below0 = true := by decide +kernel
theorem w_running : about1.status = .running := rfl
set_option maxRecDepth 65536 in
theorem w_room : about1.hasRoom e0.platform room_1 = true :=
  launch0.hasRoom_least _ room_1 (by decide +kernel) (by decide +kernel) (by decide +kernel) (by decide +kernel) (by decide +kernel) (by decide +kernel)
theorem allAtoms_all (ts : List Jvm.Cond) (a : Array Jvm.Value) (st : Jvm.State) : (allAtoms ts).before a st = ts.all (fun c => c.before a st) := by
  induction ts with
  | nil => rfl
  | cons c t ih =>
    show (Jvm.Cond.and c (allAtoms t)).before a st = _
    rw [Jvm.Cond.before_and, ih, List.all_cons]
def words1 : List Jvm.Cond := Jvm.Cond.code x code maxLocals ret :: tables_1
/-- a 'code' word, met by the world's own term for the bytes: nothing is compared byte by byte -/
theorem code_word {y : MethodName} {bytes : ByteArray} {mx : Nat} {rt : Option FieldType} {a : Array Value} {s : State} {m : MethodId} {meth : Method} {c : Code} (h1 : s.methodNamed? y = some m) (h2 : s.vm.method? m = some meth) (h3 : meth.code = some c) (h4 : c.code = bytes)
    (h5 : (c.maxLocals == mx && c.exceptionTable.isEmpty && decide (c.maxStack ≤ mostOperands) && decide (meth.sig.returnType = rt) && !meth.locks && decide (parseMethodDescriptor y.desc = some meth.sig)) = true) : (Jvm.Cond.code y bytes mx rt).before a s = true := by
  simp only [Bool.and_eq_true, beq_iff_eq, Bool.not_eq_true', decide_eq_true_eq] at h5
  obtain ⟨⟨⟨⟨⟨g1, g2⟩, g3⟩, g4⟩, g5⟩, g6⟩ := h5
  simp [Cond.before, Cond.holds, Cond.value, h1, h2, h3, h4, g1, g2, g3, g4, g5, g6]
def isCode : Jvm.Cond → Bool
  | .code _ _ _ _ => true
  | _ => false
theorem all_split {L : List Jvm.Cond} {P : Jvm.Cond → Bool} (h1 : L.all (fun c => isCode c || P c) = true) (h2 : ∀ c ∈ L.filter isCode, P c = true) : L.all P = true := by
  refine List.all_eq_true.mpr fun c hc => ?_
  have h := List.all_eq_true.mp h1 c hc
  rcases Bool.eq_false_or_eq_true (isCode c) with hi | hi
  · exact h2 c (List.mem_filter.mpr ⟨hc, hi⟩)
  · simpa [hi] using h
set_option maxRecDepth 65536 in
theorem w_c0 : (Jvm.Cond.code x code maxLocals ret).before args0 about1 = true := code_word (m := ⟨1, 1⟩) (meth := k1m1) (c := k1c1) (by decide +kernel) rfl rfl rfl (by decide +kernel)
set_option maxRecDepth 65536 in
theorem w_c1 : (Jvm.Cond.code ({ cls := "com/example/hilera/hilera/ByteReader", name := "<init>", desc := "([BII)V" } : Jvm.MethodName) prog_12_method_2_code (4 : Nat) (Option.none : Option Jvm.ClassFile.FieldType)).before args0 about1 = true := code_word (m := ⟨2, 0⟩) (meth := k2m0) (c := k2c0) (by decide +kernel) rfl rfl rfl (by decide +kernel)
set_option maxRecDepth 65536 in
theorem w_c2 : (Jvm.Cond.code ({ cls := "java/lang/Object", name := "<init>", desc := "()V" } : Jvm.MethodName) object_method_1_code (1 : Nat) (Option.none : Option Jvm.ClassFile.FieldType)).before args0 about1 = true := code_word (m := ⟨0, 0⟩) (meth := k0m0) (c := k0c0) (by decide +kernel) rfl rfl rfl (by decide +kernel)
set_option maxRecDepth 65536 in
theorem w_c3 : (Jvm.Cond.code ({ cls := "com/example/hilera/hilera/ByteReader", name := "position", desc := "()I" } : Jvm.MethodName) prog_12_method_5_code (1 : Nat) (Option.some Jvm.ClassFile.FieldType.int)).before args0 about1 = true := code_word (m := ⟨2, 1⟩) (meth := k2m1) (c := k2c1) (by decide +kernel) rfl rfl rfl (by decide +kernel)
set_option maxRecDepth 65536 in
theorem w_c4 : (Jvm.Cond.code ({ cls := "com/example/hilera/hilera/ByteReader", name := "hasRemaining", desc := "()Z" } : Jvm.MethodName) prog_12_method_9_code (1 : Nat) (Option.some Jvm.ClassFile.FieldType.boolean)).before args0 about1 = true := code_word (m := ⟨2, 2⟩) (meth := k2m2) (c := k2c2) (by decide +kernel) rfl rfl rfl (by decide +kernel)
set_option maxRecDepth 65536 in
theorem w_c5 : (Jvm.Cond.code ({ cls := "com/example/hilera/hilera/ByteReader", name := "read", desc := "()I" } : Jvm.MethodName) prog_12_method_10_code (1 : Nat) (Option.some Jvm.ClassFile.FieldType.int)).before args0 about1 = true := code_word (m := ⟨2, 3⟩) (meth := k2m3) (c := k2c3) (by decide +kernel) rfl rfl rfl (by decide +kernel)
set_option maxRecDepth 65536 in
theorem w_c6 : (Jvm.Cond.code ({ cls := "com/example/hilera/hilera/ByteReaderReadPinLaw", name := "expected", desc := "(II)I" } : Jvm.MethodName) method_3_code (2 : Nat) (Option.some Jvm.ClassFile.FieldType.int)).before args0 about1 = true := code_word (m := ⟨1, 2⟩) (meth := k1m2) (c := k1c2) (by decide +kernel) rfl rfl rfl (by decide +kernel)
def codes1 : List Jvm.Cond := [Jvm.Cond.code x code maxLocals ret, Jvm.Cond.code ({ cls := "com/example/hilera/hilera/ByteReader", name := "<init>", desc := "([BII)V" } : Jvm.MethodName) prog_12_method_2_code (4 : Nat) (Option.none : Option Jvm.ClassFile.FieldType), Jvm.Cond.code ({ cls := "java/lang/Object", name := "<init>", desc := "()V" } : Jvm.MethodName) object_method_1_code (1 : Nat) (Option.none : Option Jvm.ClassFile.FieldType), Jvm.Cond.code ({ cls := "com/example/hilera/hilera/ByteReader", name := "position", desc := "()I" } : Jvm.MethodName) prog_12_method_5_code (1 : Nat) (Option.some Jvm.ClassFile.FieldType.int), Jvm.Cond.code ({ cls := "com/example/hilera/hilera/ByteReader", name := "hasRemaining", desc := "()Z" } : Jvm.MethodName) prog_12_method_9_code (1 : Nat) (Option.some Jvm.ClassFile.FieldType.boolean), Jvm.Cond.code ({ cls := "com/example/hilera/hilera/ByteReader", name := "read", desc := "()I" } : Jvm.MethodName) prog_12_method_10_code (1 : Nat) (Option.some Jvm.ClassFile.FieldType.int), Jvm.Cond.code ({ cls := "com/example/hilera/hilera/ByteReaderReadPinLaw", name := "expected", desc := "(II)I" } : Jvm.MethodName) method_3_code (2 : Nat) (Option.some Jvm.ClassFile.FieldType.int)]
set_option maxRecDepth 65536 in
theorem codes_eq : words1.filter isCode = codes1 := rfl
theorem w_codes : ∀ c ∈ words1.filter isCode, c.before args0 about1 = true := by
  rw [codes_eq]
  intro c hc
  simp only [codes1, List.mem_cons, List.not_mem_nil, or_false] at hc
  rcases hc with rfl | rfl | rfl | rfl | rfl | rfl | rfl
  · exact w_c0
  · exact w_c1
  · exact w_c2
  · exact w_c3
  · exact w_c4
  · exact w_c5
  · exact w_c6
set_option maxRecDepth 65536 in
theorem w_t1 : (words1.take 24).all (fun c => isCode c || c.before args0 about1) = true := by decide +kernel
set_option maxRecDepth 65536 in
theorem w_t2 : (words1.drop 24).all (fun c => isCode c || c.before args0 about1) = true := by decide +kernel
theorem w_tables : (allAtoms (Jvm.Cond.code x code maxLocals ret :: tables_1)).before args0 about1 = true := by
  rw [allAtoms_all]
  show words1.all (fun c => c.before args0 about1) = true
  refine all_split ?_ w_codes
  rw [← List.take_append_drop 24 words1, List.all_append, w_t1, w_t2]
  rfl
set_option maxRecDepth 65536 in
theorem w_case : (Jvm.Cond.and given_1 narrow_1).before args0 about1 = true := by decide +kernel
theorem w_applies : (headSpec (Jvm.Cond.code x code maxLocals ret :: tables_1) room_1).applies x e0.platform about1 = true :=
  (Spec.applies_iff w_frames).mpr ⟨w_running, w_runnable, w_alone, w_named, w_hears, w_ripe, w_room, w_tables⟩
theorem atStart : AtStart classFile x code maxLocals ret World_1 tables_1 room_1 Calls_1 rest_1 Pre_1 launch0 p0 e0 about1 theMethod args0 below0 :=
  ⟨lists_1, trivial, launch0.admits_env _ _ _, launch0.least_env, fairChoices_fair.cas, fairChoices_fair.clock, w_frames, w_args, w_heap, w_applies, trivial, trivial, w_case⟩
end start1
theorem witness_1 : WitnessClaimed_1 := ⟨start1.p0, start1.e0, start1.about1, start1.theMethod, start1.args0, start1.below0, start1.atStart⟩
end Jvm.Pilot.@@N@@
