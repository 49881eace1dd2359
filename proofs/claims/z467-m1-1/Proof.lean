import JvmDerived
import JvmDerived.Pilot.@@N@@Statement
import JvmDerived.Pilot.@@N@@Code
set_option linter.unusedVariables false
set_option linter.unusedSimpArgs false
namespace Jvm.Pilot.@@N@@
open Jvm Jvm.ClassFile Sem Op Lib Jvm.Free Jvm.Stand Jvm.LawKit Jvm.RoadKit Bundle Jvm.Pilot.@@N@@.Jvm.D
theorem d1_0 : decode prog_16_method_1_code 0 = .ok (.aload_n 0, 1) := by decide +kernel
theorem d1_1 : decode prog_16_method_1_code 1 = .ok (.invokespecial 1, 3) := by decide +kernel
theorem d1_4 : decode prog_16_method_1_code 4 = .ok (.aload_n 0, 1) := by decide +kernel
theorem d1_5 : decode prog_16_method_1_code 5 = .ok (.iload_n 1, 1) := by decide +kernel
theorem d1_6 : decode prog_16_method_1_code 6 = .ok (.putfield 7, 3) := by decide +kernel
theorem d1_9 : decode prog_16_method_1_code 9 = .ok (.aload_n 0, 1) := by decide +kernel
theorem d1_10 : decode prog_16_method_1_code 10 = .ok (.iload_n 2, 1) := by decide +kernel
theorem d1_11 : decode prog_16_method_1_code 11 = .ok (.putfield 13, 3) := by decide +kernel
theorem d1_14 : decode prog_16_method_1_code 14 = .ok (.aload_n 0, 1) := by decide +kernel
theorem d1_15 : decode prog_16_method_1_code 15 = .ok (.dload_n 3, 1) := by decide +kernel
theorem d1_16 : decode prog_16_method_1_code 16 = .ok (.putfield 16, 3) := by decide +kernel
theorem d1_19 : decode prog_16_method_1_code 19 = .ok (.aload_n 0, 1) := by decide +kernel
theorem d1_20 : decode prog_16_method_1_code 20 = .ok (.dload 5, 2) := by decide +kernel
theorem d1_22 : decode prog_16_method_1_code 22 = .ok (.putfield 20, 3) := by decide +kernel
theorem d1_25 : decode prog_16_method_1_code 25 = .ok (.aload_n 0, 1) := by decide +kernel
theorem d1_26 : decode prog_16_method_1_code 26 = .ok (.dload 7, 2) := by decide +kernel
theorem d1_28 : decode prog_16_method_1_code 28 = .ok (.putfield 23, 3) := by decide +kernel
theorem d1_31 : decode prog_16_method_1_code 31 = .ok (.return_, 1) := by decide +kernel
theorem d3_0 : decode prog_16_method_2_code 0 = .ok (.aload_n 0, 1) := by decide +kernel
theorem d3_1 : decode prog_16_method_2_code 1 = .ok (.getfield 7, 3) := by decide +kernel
theorem d3_4 : decode prog_16_method_2_code 4 = .ok (.ifCond .ne 14, 3) := by decide +kernel
theorem d3_7 : decode prog_16_method_2_code 7 = .ok (.aload_n 0, 1) := by decide +kernel
theorem d3_8 : decode prog_16_method_2_code 8 = .ok (.getfield 13, 3) := by decide +kernel
theorem d3_11 : decode prog_16_method_2_code 11 = .ok (.ifCond .ne 7, 3) := by decide +kernel
theorem d3_14 : decode prog_16_method_2_code 14 = .ok (.iconst 1, 1) := by decide +kernel
theorem d3_15 : decode prog_16_method_2_code 15 = .ok (.goto 4, 3) := by decide +kernel
theorem d3_18 : decode prog_16_method_2_code 18 = .ok (.iconst 0, 1) := by decide +kernel
theorem d3_19 : decode prog_16_method_2_code 19 = .ok (.ireturn, 1) := by decide +kernel
theorem own_pn : plainName "com/example/tyr/tyr/bench/Report" = true := by first | (simp [plainName, overriddenIn]; done) | decide +kernel
theorem own_pnL : plainName "com/example/tyr/tyr/bench/ReportAgreesPinLaw" = true := by first | (simp [plainName, overriddenIn]; done) | decide +kernel
theorem own_pdI : parseMethodDescriptor "(IIDDD)V" = some ⟨[.int, .int, .double, .double, .double], none⟩ := by decide +kernel
theorem own_pdA : parseMethodDescriptor "()Z" = some ⟨[], some .boolean⟩ := by decide +kernel
theorem own_ef0 (m : MethodId) (x0 x1 x2 x3 : Int32) : entryFrame m #[(.int x0), (.int x1), (.int x2), (.int x3)] maxLocals = mkF m 0 #[.val (.int x0), .val (.int x1), .val (.int x2), .val (.int x3), .unset, .unset, .unset, .unset, .unset, .unset, .unset, .unset, .unset, .unset] [] := by first | (simp [entryFrame, mkF, argsToLocals, Value.category, maxLocals]; done) | rfl
theorem own_efI (m : MethodId) (x0 : Addr) (x1 x2 : Int32) (y1 y2 y3 : UInt64) : entryFrame m #[(.ref x0), (.int x1), (.int x2), (.double y1), (.double y2), (.double y3)] 9 = mkF m 0 #[.val (.ref x0), .val (.int x1), .val (.int x2), .val (.double y1), .second, .val (.double y2), .second, .val (.double y3), .second] [] := by first | (simp [entryFrame, mkF, argsToLocals, Value.category]; done) | rfl
theorem own_efA (m : MethodId) (x0 : Addr) : entryFrame m #[(.ref x0)] 1 = mkF m 0 #[.val (.ref x0)] [] := by first | (simp [entryFrame, mkF, argsToLocals, Value.category]; done) | rfl
def own_agr (x y : Int32) : Int32 := if x = 0 then (if y = 0 then 1 else 0) else 0
def own_exp (x y : Int32) : Int32 := if x ||| y = 0 then 1 else 0
theorem own_or0 (x y : Int32) : x ||| y = 0 ↔ x = 0 ∧ y = 0 := by
  constructor
  · intro h
    have hb : x.toBitVec ||| y.toBitVec = 0#32 := by
      have := congrArg Int32.toBitVec h
      simpa using this
    have hz := BitVec.or_eq_zero_iff.mp hb
    exact ⟨Int32.toBitVec_inj.mp (by simpa using hz.1), Int32.toBitVec_inj.mp (by simpa using hz.2)⟩
  · rintro ⟨rfl, rfl⟩; rfl
theorem own_same (x y : Int32) : own_agr x y = own_exp x y := by
  unfold own_agr own_exp
  by_cases hx : x = 0
  · by_cases hy : y = 0
    · rw [if_pos hx, if_pos hy, if_pos ((own_or0 x y).mpr ⟨hx, hy⟩)]
    · rw [if_pos hx, if_neg hy, if_neg (fun h => hy ((own_or0 x y).mp h).2)]
  · rw [if_neg hx, if_neg (fun h => hx ((own_or0 x y).mp h).1)]
def own_QI (Z : State) (a5 : Addr) (p1 p2 : Int32) (h0 : Heap) (n0 : Nat) (v : Option Value) (h : Heap) (L : List Loc) : Prop := (v = none ∧ Fr n0 L ∧ (Keep h0 h [a5]) ∧ (Exa Z h a5 "com/example/tyr/tyr/bench/Report") ∧ (Fld Z h a5 "com/example/tyr/tyr/bench/Report" "tyrMismatches" "I" (.int p1)) ∧ (Fld Z h a5 "com/example/tyr/tyr/bench/Report" "casbinMismatches" "I" (.int p2)))
set_option maxRecDepth 65536 in
set_option maxHeartbeats 40000000 in
theorem own_rmI (l : Launch) (Z : State) (a0 : Array Value) (hw : ∀ d ∈ tables_1, d.before a0 Z = true) (ws : List Jvm.Cond) (a5 : Addr) (p1 p2 : Int32) (q1 q2 q3 : UInt64) (h0 : Heap) (n0 : Nat) (Z0 : n0 ≤ h0.size) (F0 : Fld Z h0 a5 "com/example/tyr/tyr/bench/Report" "tyrMismatches" "I" (defaultValue .int)) (F1 : Fld Z h0 a5 "com/example/tyr/tyr/bench/Report" "casbinMismatches" "I" (defaultValue .int)) (F2 : Fld Z h0 a5 "com/example/tyr/tyr/bench/Report" "tyrNanos" "D" (defaultValue .double)) (F3 : Fld Z h0 a5 "com/example/tyr/tyr/bench/Report" "casbinNanos" "D" (defaultValue .double)) (F4 : Fld Z h0 a5 "com/example/tyr/tyr/bench/Report" "purchasingNanos" "D" (defaultValue .double)) (E : Exa Z h0 a5 "com/example/tyr/tyr/bench/Report") (g9 : n0 ≤ a5) :
    MetFree l (⟨"com/example/tyr/tyr/bench/Report", "<init>", "(IIDDD)V"⟩ : MethodName) (head1 (Jvm.Cond.code (⟨"com/example/tyr/tyr/bench/Report", "<init>", "(IIDDD)V"⟩ : MethodName) prog_16_method_1_code 9 none :: ws) ({ frames := 1, cells := 0, slots := 0, locals := 12 } : Room)) (fun a U => a = #[(.ref a5), (.int p1), (.int p2), (.double q1), (.double q2), (.double q3)] ∧ Z.Warmed39 U.vm ∧ U.heap = h0) (fun _ _ _ _ _ => True) (fun _ U o U' => ∃ v L, o = .returned v ∧ own_QI Z a5 p1 p2 h0 n0 v U'.heap L ∧ FrameEnd U o U' L ({ frames := 1, cells := 0, slots := 0, locals := 12 } : Room).cells ({ frames := 1, cells := 0, slots := 0, locals := 12 } : Room).slots) := by
  refine MetFree.of_bodySF (plainFor_of_name own_pn) hisR ?_
  intro p e s m args below meth c s₁ Bd hml0 hP hK
  obtain ⟨rfl, hZ, hh⟩ := hP
  have hx := Bd.exec
  have hby := Bd.bytes
  have hml : c.maxLocals = 9 := hml0
  have hown : s.vm.findClass "com/example/tyr/tyr/bench/Report" = some m.cls := findClass_of_methodNamed Bd.named
  have hnm := (name_of_methodNamed Bd.named Bd.method).1
  have X0 : Stand p l e ({ frames := 1, cells := 0, slots := 0, locals := 12 } : Room) s m #[(.ref a5), (.int p1), (.int p2), (.double q1), (.double q2), (.double q3)] below meth c s₁ [] 0 0 := Stand.of_body Bd
  have e0 : s₁.heap = h0 := by rw [← hh, Bd.state]; rfl
  have N0 := Fr.nil n0
  have pre0 : ∀ t, Steps p.tables e below (s₁.setTop (mkF m 0 #[.val (.ref a5), .val (.int p1), .val (.int p2), .val (.double q1), .second, .val (.double q2), .second, .val (.double q3), .second] [])) t → Steps p.tables e below (s₁.setTop (entryFrame m #[(.ref a5), (.int p1), (.int p2), (.double q1), (.double q2), (.double q3)] 9)) t := fun t k => castTop (own_efI m a5 p1 p2 q1 q2 q3) k
  obtain ⟨T10, X10, e10, st10⟩ := initO X0 hx hZ hown (hw _ (List.mem_of_getElem? (i := 7) rfl)) (hw _ (List.mem_of_getElem? (i := 8) rfl)) (hw _ (List.mem_of_getElem? (i := 9) rfl)) e0 (g := (mkF m 1 #[.val (.ref a5), .val (.int p1), .val (.int p2), .val (.double q1), .second, .val (.double q2), .second, .val (.double q3), .second] [(.ref a5)])) rfl (by rw [hml]; rfl) rfl (hb hby d1_1) (by decide) (W := 0) (by show 2 * 0 + _ ≤ _; exact Nat.le_of_eq rfl) (by decide)
  obtain ⟨T11, h11, X11, e11, W11, st11⟩ := putF X10 hx hZ hown (host := "") (Or.inl (hw _ (List.mem_of_getElem? (i := 10) rfl))) Via.refl e10 F0 E (Or.inr ⟨(hw _ (List.mem_of_getElem? (i := 11) rfl)), rfl, hnm⟩) (hw _ (List.mem_of_getElem? (i := 2) rfl)) (ty := .int) (by decide) rfl rfl (g := (mkF m 6 #[.val (.ref a5), .val (.int p1), .val (.int p2), .val (.double q1), .second, .val (.double q2), .second, .val (.double q3), .second] [(.int p1), (.ref a5)])) rfl rfl (hb hby d1_6)
  have N11 := Fr.snoc X11 N0 g9
  have K11 : Keep h0 h11 [a5] := ((Keep.refl _ _).wr W11 (Or.inl (List.mem_of_getElem? (i := 0) rfl)))
  have E11 : Exa Z h11 a5 "com/example/tyr/tyr/bench/Report" := (E.wr W11)
  have G11_0 : Fld Z h11 a5 "com/example/tyr/tyr/bench/Report" "tyrMismatches" "I" (.int p1) := (F0.same W11)
  have G11_1 := (F1.other W11 (Or.inr (slot_ne (t := .int) (t' := .int) (Or.inr (hw _ (List.mem_of_getElem? (i := 13) rfl))) (Or.inr (hw _ (List.mem_of_getElem? (i := 11) rfl))) (by decide) (by decide) (by decide))))
  have G11_2 := (F2.other W11 (Or.inr (slot_ne (t := .double) (t' := .int) (Or.inr (hw _ (List.mem_of_getElem? (i := 15) rfl))) (Or.inr (hw _ (List.mem_of_getElem? (i := 11) rfl))) (by decide) (by decide) (by decide))))
  have G11_3 := (F3.other W11 (Or.inr (slot_ne (t := .double) (t' := .int) (Or.inr (hw _ (List.mem_of_getElem? (i := 17) rfl))) (Or.inr (hw _ (List.mem_of_getElem? (i := 11) rfl))) (by decide) (by decide) (by decide))))
  have G11_4 := (F4.other W11 (Or.inr (slot_ne (t := .double) (t' := .int) (Or.inr (hw _ (List.mem_of_getElem? (i := 19) rfl))) (Or.inr (hw _ (List.mem_of_getElem? (i := 11) rfl))) (by decide) (by decide) (by decide))))
  obtain ⟨T12, h12, X12, e12, W12, st12⟩ := putF X11 hx hZ hown (host := "") (Or.inl (hw _ (List.mem_of_getElem? (i := 12) rfl))) Via.refl e11 G11_1 E11 (Or.inr ⟨(hw _ (List.mem_of_getElem? (i := 13) rfl)), rfl, hnm⟩) (hw _ (List.mem_of_getElem? (i := 2) rfl)) (ty := .int) (by decide) rfl rfl (g := (mkF m 11 #[.val (.ref a5), .val (.int p1), .val (.int p2), .val (.double q1), .second, .val (.double q2), .second, .val (.double q3), .second] [(.int p2), (.ref a5)])) rfl rfl (hb hby d1_11)
  have N12 := Fr.snoc X12 N11 g9
  have K12 : Keep h0 h12 [a5] := (K11.wr W12 (Or.inl (List.mem_of_getElem? (i := 0) rfl)))
  have E12 : Exa Z h12 a5 "com/example/tyr/tyr/bench/Report" := (E11.wr W12)
  have G12_0 := (G11_0.other W12 (Or.inr (slot_ne (t := .int) (t' := .int) (Or.inr (hw _ (List.mem_of_getElem? (i := 11) rfl))) (Or.inr (hw _ (List.mem_of_getElem? (i := 13) rfl))) (by decide) (by decide) (by decide))))
  have G12_1 : Fld Z h12 a5 "com/example/tyr/tyr/bench/Report" "casbinMismatches" "I" (.int p2) := (G11_1.same W12)
  have G12_2 := (G11_2.other W12 (Or.inr (slot_ne (t := .double) (t' := .int) (Or.inr (hw _ (List.mem_of_getElem? (i := 15) rfl))) (Or.inr (hw _ (List.mem_of_getElem? (i := 13) rfl))) (by decide) (by decide) (by decide))))
  have G12_3 := (G11_3.other W12 (Or.inr (slot_ne (t := .double) (t' := .int) (Or.inr (hw _ (List.mem_of_getElem? (i := 17) rfl))) (Or.inr (hw _ (List.mem_of_getElem? (i := 13) rfl))) (by decide) (by decide) (by decide))))
  have G12_4 := (G11_4.other W12 (Or.inr (slot_ne (t := .double) (t' := .int) (Or.inr (hw _ (List.mem_of_getElem? (i := 19) rfl))) (Or.inr (hw _ (List.mem_of_getElem? (i := 13) rfl))) (by decide) (by decide) (by decide))))
  obtain ⟨T13, h13, X13, e13, W13, st13⟩ := putF X12 hx hZ hown (host := "") (Or.inl (hw _ (List.mem_of_getElem? (i := 14) rfl))) Via.refl e12 G12_2 E12 (Or.inr ⟨(hw _ (List.mem_of_getElem? (i := 15) rfl)), rfl, hnm⟩) (hw _ (List.mem_of_getElem? (i := 2) rfl)) (ty := .double) (by decide) rfl rfl (g := (mkF m 16 #[.val (.ref a5), .val (.int p1), .val (.int p2), .val (.double q1), .second, .val (.double q2), .second, .val (.double q3), .second] [(.double q1), (.ref a5)])) rfl rfl (hb hby d1_16)
  have N13 := Fr.snoc X13 N12 g9
  have K13 : Keep h0 h13 [a5] := (K12.wr W13 (Or.inl (List.mem_of_getElem? (i := 0) rfl)))
  have E13 : Exa Z h13 a5 "com/example/tyr/tyr/bench/Report" := (E12.wr W13)
  have G13_0 := (G12_0.other W13 (Or.inr (slot_ne (t := .int) (t' := .double) (Or.inr (hw _ (List.mem_of_getElem? (i := 11) rfl))) (Or.inr (hw _ (List.mem_of_getElem? (i := 15) rfl))) (by decide) (by decide) (by decide))))
  have G13_1 := (G12_1.other W13 (Or.inr (slot_ne (t := .int) (t' := .double) (Or.inr (hw _ (List.mem_of_getElem? (i := 13) rfl))) (Or.inr (hw _ (List.mem_of_getElem? (i := 15) rfl))) (by decide) (by decide) (by decide))))
  have G13_2 : Fld Z h13 a5 "com/example/tyr/tyr/bench/Report" "tyrNanos" "D" (.double q1) := (G12_2.same W13)
  have G13_3 := (G12_3.other W13 (Or.inr (slot_ne (t := .double) (t' := .double) (Or.inr (hw _ (List.mem_of_getElem? (i := 17) rfl))) (Or.inr (hw _ (List.mem_of_getElem? (i := 15) rfl))) (by decide) (by decide) (by decide))))
  have G13_4 := (G12_4.other W13 (Or.inr (slot_ne (t := .double) (t' := .double) (Or.inr (hw _ (List.mem_of_getElem? (i := 19) rfl))) (Or.inr (hw _ (List.mem_of_getElem? (i := 15) rfl))) (by decide) (by decide) (by decide))))
  obtain ⟨T14, h14, X14, e14, W14, st14⟩ := putF X13 hx hZ hown (host := "") (Or.inl (hw _ (List.mem_of_getElem? (i := 16) rfl))) Via.refl e13 G13_3 E13 (Or.inr ⟨(hw _ (List.mem_of_getElem? (i := 17) rfl)), rfl, hnm⟩) (hw _ (List.mem_of_getElem? (i := 2) rfl)) (ty := .double) (by decide) rfl rfl (g := (mkF m 22 #[.val (.ref a5), .val (.int p1), .val (.int p2), .val (.double q1), .second, .val (.double q2), .second, .val (.double q3), .second] [(.double q2), (.ref a5)])) rfl rfl (hb hby d1_22)
  have N14 := Fr.snoc X14 N13 g9
  have K14 : Keep h0 h14 [a5] := (K13.wr W14 (Or.inl (List.mem_of_getElem? (i := 0) rfl)))
  have E14 : Exa Z h14 a5 "com/example/tyr/tyr/bench/Report" := (E13.wr W14)
  have G14_0 := (G13_0.other W14 (Or.inr (slot_ne (t := .int) (t' := .double) (Or.inr (hw _ (List.mem_of_getElem? (i := 11) rfl))) (Or.inr (hw _ (List.mem_of_getElem? (i := 17) rfl))) (by decide) (by decide) (by decide))))
  have G14_1 := (G13_1.other W14 (Or.inr (slot_ne (t := .int) (t' := .double) (Or.inr (hw _ (List.mem_of_getElem? (i := 13) rfl))) (Or.inr (hw _ (List.mem_of_getElem? (i := 17) rfl))) (by decide) (by decide) (by decide))))
  have G14_3 : Fld Z h14 a5 "com/example/tyr/tyr/bench/Report" "casbinNanos" "D" (.double q2) := (G13_3.same W14)
  have G14_4 := (G13_4.other W14 (Or.inr (slot_ne (t := .double) (t' := .double) (Or.inr (hw _ (List.mem_of_getElem? (i := 19) rfl))) (Or.inr (hw _ (List.mem_of_getElem? (i := 17) rfl))) (by decide) (by decide) (by decide))))
  obtain ⟨T15, h15, X15, e15, W15, st15⟩ := putF X14 hx hZ hown (host := "") (Or.inl (hw _ (List.mem_of_getElem? (i := 18) rfl))) Via.refl e14 G14_4 E14 (Or.inr ⟨(hw _ (List.mem_of_getElem? (i := 19) rfl)), rfl, hnm⟩) (hw _ (List.mem_of_getElem? (i := 2) rfl)) (ty := .double) (by decide) rfl rfl (g := (mkF m 28 #[.val (.ref a5), .val (.int p1), .val (.int p2), .val (.double q1), .second, .val (.double q2), .second, .val (.double q3), .second] [(.double q3), (.ref a5)])) rfl rfl (hb hby d1_28)
  have N15 := Fr.snoc X15 N14 g9
  have K15 : Keep h0 h15 [a5] := (K14.wr W15 (Or.inl (List.mem_of_getElem? (i := 0) rfl)))
  have E15 : Exa Z h15 a5 "com/example/tyr/tyr/bench/Report" := (E14.wr W15)
  have G15_0 := (G14_0.other W15 (Or.inr (slot_ne (t := .int) (t' := .double) (Or.inr (hw _ (List.mem_of_getElem? (i := 11) rfl))) (Or.inr (hw _ (List.mem_of_getElem? (i := 19) rfl))) (by decide) (by decide) (by decide))))
  have G15_1 := (G14_1.other W15 (Or.inr (slot_ne (t := .int) (t' := .double) (Or.inr (hw _ (List.mem_of_getElem? (i := 13) rfl))) (Or.inr (hw _ (List.mem_of_getElem? (i := 19) rfl))) (by decide) (by decide) (by decide))))
  have G15_4 : Fld Z h15 a5 "com/example/tyr/tyr/bench/Report" "purchasingNanos" "D" (.double q3) := (G14_4.same W15)
  obtain ⟨fs, hr, hrun, hended, hW, hsame⟩ := X15.leave (v := none) (fun _ => rfl)
  refine ⟨_, _, pre0 _ ?_, hrun, hended, _, _, rfl, ?_, ⟨_, rfl⟩, hW, hsame.mono (by decide) (by decide)⟩
  · show Steps p.tables e below (s₁.setTop (mkF m 0 #[.val (.ref a5), .val (.int p1), .val (.int p2), .val (.double q1), .second, .val (.double q2), .second, .val (.double q3), .second] [])) _
    refine XS.aloadN X0.here hx rfl (hb hby d1_0) rfl rfl ?_
    show Steps p.tables e below (s₁.setTop (mkF m 1 #[.val (.ref a5), .val (.int p1), .val (.int p2), .val (.double q1), .second, .val (.double q2), .second, .val (.double q3), .second] [(.ref a5)])) _
    refine st10 _ ?_
    show Steps p.tables e below (T10.setTop (mkF m 4 #[.val (.ref a5), .val (.int p1), .val (.int p2), .val (.double q1), .second, .val (.double q2), .second, .val (.double q3), .second] [])) _
    refine XS.aloadN X10.here hx rfl (hb hby d1_4) rfl rfl ?_
    show Steps p.tables e below (T10.setTop (mkF m 5 #[.val (.ref a5), .val (.int p1), .val (.int p2), .val (.double q1), .second, .val (.double q2), .second, .val (.double q3), .second] [(.ref a5)])) _
    refine XS.iloadN X10.here hx rfl (hb hby d1_5) rfl ?_
    show Steps p.tables e below (T10.setTop (mkF m 6 #[.val (.ref a5), .val (.int p1), .val (.int p2), .val (.double q1), .second, .val (.double q2), .second, .val (.double q3), .second] [(.int p1), (.ref a5)])) _
    refine st11 _ ?_
    show Steps p.tables e below (T11.setTop (mkF m 9 #[.val (.ref a5), .val (.int p1), .val (.int p2), .val (.double q1), .second, .val (.double q2), .second, .val (.double q3), .second] [])) _
    refine XS.aloadN X11.here hx rfl (hb hby d1_9) rfl rfl ?_
    show Steps p.tables e below (T11.setTop (mkF m 10 #[.val (.ref a5), .val (.int p1), .val (.int p2), .val (.double q1), .second, .val (.double q2), .second, .val (.double q3), .second] [(.ref a5)])) _
    refine XS.iloadN X11.here hx rfl (hb hby d1_10) rfl ?_
    show Steps p.tables e below (T11.setTop (mkF m 11 #[.val (.ref a5), .val (.int p1), .val (.int p2), .val (.double q1), .second, .val (.double q2), .second, .val (.double q3), .second] [(.int p2), (.ref a5)])) _
    refine st12 _ ?_
    show Steps p.tables e below (T12.setTop (mkF m 14 #[.val (.ref a5), .val (.int p1), .val (.int p2), .val (.double q1), .second, .val (.double q2), .second, .val (.double q3), .second] [])) _
    refine XS.aloadN X12.here hx rfl (hb hby d1_14) rfl rfl ?_
    show Steps p.tables e below (T12.setTop (mkF m 15 #[.val (.ref a5), .val (.int p1), .val (.int p2), .val (.double q1), .second, .val (.double q2), .second, .val (.double q3), .second] [(.ref a5)])) _
    refine XS.dloadN X12.here hx rfl (hb hby d1_15) rfl ?_
    show Steps p.tables e below (T12.setTop (mkF m 16 #[.val (.ref a5), .val (.int p1), .val (.int p2), .val (.double q1), .second, .val (.double q2), .second, .val (.double q3), .second] [(.double q1), (.ref a5)])) _
    refine st13 _ ?_
    show Steps p.tables e below (T13.setTop (mkF m 19 #[.val (.ref a5), .val (.int p1), .val (.int p2), .val (.double q1), .second, .val (.double q2), .second, .val (.double q3), .second] [])) _
    refine XS.aloadN X13.here hx rfl (hb hby d1_19) rfl rfl ?_
    show Steps p.tables e below (T13.setTop (mkF m 20 #[.val (.ref a5), .val (.int p1), .val (.int p2), .val (.double q1), .second, .val (.double q2), .second, .val (.double q3), .second] [(.ref a5)])) _
    refine XS.dload X13.here hx rfl (hb hby d1_20) rfl ?_
    show Steps p.tables e below (T13.setTop (mkF m 22 #[.val (.ref a5), .val (.int p1), .val (.int p2), .val (.double q1), .second, .val (.double q2), .second, .val (.double q3), .second] [(.double q2), (.ref a5)])) _
    refine st14 _ ?_
    show Steps p.tables e below (T14.setTop (mkF m 25 #[.val (.ref a5), .val (.int p1), .val (.int p2), .val (.double q1), .second, .val (.double q2), .second, .val (.double q3), .second] [])) _
    refine XS.aloadN X14.here hx rfl (hb hby d1_25) rfl rfl ?_
    show Steps p.tables e below (T14.setTop (mkF m 26 #[.val (.ref a5), .val (.int p1), .val (.int p2), .val (.double q1), .second, .val (.double q2), .second, .val (.double q3), .second] [(.ref a5)])) _
    refine XS.dload X14.here hx rfl (hb hby d1_26) rfl ?_
    show Steps p.tables e below (T14.setTop (mkF m 28 #[.val (.ref a5), .val (.int p1), .val (.int p2), .val (.double q1), .second, .val (.double q2), .second, .val (.double q3), .second] [(.double q3), (.ref a5)])) _
    refine st15 _ ?_
    show Steps p.tables e below (T15.setTop (mkF m 31 #[.val (.ref a5), .val (.int p1), .val (.int p2), .val (.double q1), .second, .val (.double q2), .second, .val (.double q3), .second] [])) _
    exact X15.returnOut hx Bd.returns (hb hby d1_31) hr
  · show own_QI Z a5 p1 p2 h0 n0 _ T15.heap _
    rw [e15]
    exact ⟨rfl, N15, K15, E15, G15_0, G15_1⟩
def own_QA (Z : State) (a5 : Addr) (p1 p2 : Int32) (h0 : Heap) (n0 : Nat) (v : Option Value) (h : Heap) (L : List Loc) : Prop := (v = some (.int (own_agr p1 p2)) ∧ Fr n0 L ∧ (h = h0))
set_option maxRecDepth 65536 in
set_option maxHeartbeats 40000000 in
theorem own_rmA (l : Launch) (Z : State) (a0 : Array Value) (hw : ∀ d ∈ tables_1, d.before a0 Z = true) (ws : List Jvm.Cond) (a5 : Addr) (p1 p2 : Int32) (h0 : Heap) (n0 : Nat) (Z0 : n0 ≤ h0.size) (F0 : Fld Z h0 a5 "com/example/tyr/tyr/bench/Report" "tyrMismatches" "I" (.int p1)) (F1 : Fld Z h0 a5 "com/example/tyr/tyr/bench/Report" "casbinMismatches" "I" (.int p2)) :
    MetFree l (⟨"com/example/tyr/tyr/bench/Report", "agrees", "()Z"⟩ : MethodName) (head1 (Jvm.Cond.code (⟨"com/example/tyr/tyr/bench/Report", "agrees", "()Z"⟩ : MethodName) prog_16_method_2_code 1 (some .boolean) :: ws) ({ frames := 0, cells := 0, slots := 0, locals := 0 } : Room)) (fun a U => a = #[(.ref a5)] ∧ Z.Warmed39 U.vm ∧ U.heap = h0) (fun _ _ _ _ _ => True) (fun _ U o U' => ∃ v L, o = .returned v ∧ own_QA Z a5 p1 p2 h0 n0 v U'.heap L ∧ FrameEnd U o U' L ({ frames := 0, cells := 0, slots := 0, locals := 0 } : Room).cells ({ frames := 0, cells := 0, slots := 0, locals := 0 } : Room).slots) := by
  refine MetFree.of_bodySF (plainFor_of_name own_pn) hisR ?_
  intro p e s m args below meth c s₁ Bd hml0 hP hK
  obtain ⟨rfl, hZ, hh⟩ := hP
  have hx := Bd.exec
  have hby := Bd.bytes
  have hml : c.maxLocals = 1 := hml0
  have hown : s.vm.findClass "com/example/tyr/tyr/bench/Report" = some m.cls := findClass_of_methodNamed Bd.named
  have hnm := (name_of_methodNamed Bd.named Bd.method).1
  have X0 : Stand p l e ({ frames := 0, cells := 0, slots := 0, locals := 0 } : Room) s m #[(.ref a5)] below meth c s₁ [] 0 0 := Stand.of_body Bd
  have e0 : s₁.heap = h0 := by rw [← hh, Bd.state]; rfl
  have N0 := Fr.nil n0
  have pre0 : ∀ t, Steps p.tables e below (s₁.setTop (mkF m 0 #[.val (.ref a5)] [])) t → Steps p.tables e below (s₁.setTop (entryFrame m #[(.ref a5)] 1)) t := fun t k => castTop (own_efA m a5) k
  obtain ⟨T1, X1, e1, st1⟩ := getF X0 hx hZ hown (host := "") (Or.inl (hw _ (List.mem_of_getElem? (i := 10) rfl))) Via.refl e0 F0 (g := (mkF m 1 #[.val (.ref a5)] [(.ref a5)])) rfl rfl (hb hby d3_1)
  by_cases c1 : p1 = (0 : Int32)
  · obtain ⟨T2, X2, e2, st2⟩ := getF X1 hx hZ hown (host := "") (Or.inl (hw _ (List.mem_of_getElem? (i := 12) rfl))) Via.refl e1 F1 (g := (mkF m 8 #[.val (.ref a5)] [(.ref a5)])) rfl rfl (hb hby d3_8)
    by_cases c2 : p2 = (0 : Int32)
    · obtain ⟨fs, hr, hrun, hended, hW, hsame⟩ := X2.leave (v := some (.int (1 : Int32))) (fun h => by rw [Bd.returns] at h; cases h)
      refine ⟨_, _, pre0 _ ?_, hrun, hended, _, _, rfl, ?_, ⟨_, rfl⟩, hW, hsame.mono (by decide) (by decide)⟩
      · show Steps p.tables e below (s₁.setTop (mkF m 0 #[.val (.ref a5)] [])) _
        refine XS.aloadN X0.here hx rfl (hb hby d3_0) rfl rfl ?_
        show Steps p.tables e below (s₁.setTop (mkF m 1 #[.val (.ref a5)] [(.ref a5)])) _
        refine st1 _ ?_
        show Steps p.tables e below (T1.setTop (mkF m 4 #[.val (.ref a5)] [(.int p1)])) _
        refine XS.ifNo X1.here hx rfl (hb hby d3_4) rfl ((if0 _ _).trans (teq c1).2) ?_
        show Steps p.tables e below (T1.setTop (mkF m 7 #[.val (.ref a5)] [])) _
        refine XS.aloadN X1.here hx rfl (hb hby d3_7) rfl rfl ?_
        show Steps p.tables e below (T1.setTop (mkF m 8 #[.val (.ref a5)] [(.ref a5)])) _
        refine st2 _ ?_
        show Steps p.tables e below (T2.setTop (mkF m 11 #[.val (.ref a5)] [(.int p2)])) _
        refine XS.ifNo X2.here hx rfl (hb hby d3_11) rfl ((if0 _ _).trans (teq c2).2) ?_
        show Steps p.tables e below (T2.setTop (mkF m 14 #[.val (.ref a5)] [])) _
        refine XS.iconst X2.here hx rfl (hb hby d3_14) ?_
        show Steps p.tables e below (T2.setTop (mkF m 15 #[.val (.ref a5)] [(.int (1 : Int32))])) _
        refine XS.goto X2.here hx rfl (pc0 := 15) (pc' := 19) rfl (hb hby d3_15) (by decide) (by decide) ?_
        show Steps p.tables e below (T2.setTop (mkF m 19 #[.val (.ref a5)] [(.int (1 : Int32))])) _
        exact retN X2 hx (t := .boolean) Bd.returns (by simp) (hb hby d3_19) hr
      · show own_QA Z a5 p1 p2 h0 n0 _ T2.heap _
        rw [e2]
        exact ⟨by rw [own_agr, if_pos c1, if_pos c2], N0, rfl⟩
    · obtain ⟨fs, hr, hrun, hended, hW, hsame⟩ := X2.leave (v := some (.int (0 : Int32))) (fun h => by rw [Bd.returns] at h; cases h)
      refine ⟨_, _, pre0 _ ?_, hrun, hended, _, _, rfl, ?_, ⟨_, rfl⟩, hW, hsame.mono (by decide) (by decide)⟩
      · show Steps p.tables e below (s₁.setTop (mkF m 0 #[.val (.ref a5)] [])) _
        refine XS.aloadN X0.here hx rfl (hb hby d3_0) rfl rfl ?_
        show Steps p.tables e below (s₁.setTop (mkF m 1 #[.val (.ref a5)] [(.ref a5)])) _
        refine st1 _ ?_
        show Steps p.tables e below (T1.setTop (mkF m 4 #[.val (.ref a5)] [(.int p1)])) _
        refine XS.ifNo X1.here hx rfl (hb hby d3_4) rfl ((if0 _ _).trans (teq c1).2) ?_
        show Steps p.tables e below (T1.setTop (mkF m 7 #[.val (.ref a5)] [])) _
        refine XS.aloadN X1.here hx rfl (hb hby d3_7) rfl rfl ?_
        show Steps p.tables e below (T1.setTop (mkF m 8 #[.val (.ref a5)] [(.ref a5)])) _
        refine st2 _ ?_
        show Steps p.tables e below (T2.setTop (mkF m 11 #[.val (.ref a5)] [(.int p2)])) _
        refine XS.ifYes X2.here hx rfl (pc0 := 11) (pc' := 18) rfl (hb hby d3_11) rfl ((if0 _ _).trans (feq c2).2) (by decide) (by decide) ?_
        show Steps p.tables e below (T2.setTop (mkF m 18 #[.val (.ref a5)] [])) _
        refine XS.iconst X2.here hx rfl (hb hby d3_18) ?_
        show Steps p.tables e below (T2.setTop (mkF m 19 #[.val (.ref a5)] [(.int (0 : Int32))])) _
        exact retN X2 hx (t := .boolean) Bd.returns (by simp) (hb hby d3_19) hr
      · show own_QA Z a5 p1 p2 h0 n0 _ T2.heap _
        rw [e2]
        exact ⟨by rw [own_agr, if_pos c1, if_neg c2], N0, rfl⟩
  · obtain ⟨fs, hr, hrun, hended, hW, hsame⟩ := X1.leave (v := some (.int (0 : Int32))) (fun h => by rw [Bd.returns] at h; cases h)
    refine ⟨_, _, pre0 _ ?_, hrun, hended, _, _, rfl, ?_, ⟨_, rfl⟩, hW, hsame.mono (by decide) (by decide)⟩
    · show Steps p.tables e below (s₁.setTop (mkF m 0 #[.val (.ref a5)] [])) _
      refine XS.aloadN X0.here hx rfl (hb hby d3_0) rfl rfl ?_
      show Steps p.tables e below (s₁.setTop (mkF m 1 #[.val (.ref a5)] [(.ref a5)])) _
      refine st1 _ ?_
      show Steps p.tables e below (T1.setTop (mkF m 4 #[.val (.ref a5)] [(.int p1)])) _
      refine XS.ifYes X1.here hx rfl (pc0 := 4) (pc' := 18) rfl (hb hby d3_4) rfl ((if0 _ _).trans (feq c1).2) (by decide) (by decide) ?_
      show Steps p.tables e below (T1.setTop (mkF m 18 #[.val (.ref a5)] [])) _
      refine XS.iconst X1.here hx rfl (hb hby d3_18) ?_
      show Steps p.tables e below (T1.setTop (mkF m 19 #[.val (.ref a5)] [(.int (0 : Int32))])) _
      exact retN X1 hx (t := .boolean) Bd.returns (by simp) (hb hby d3_19) hr
    · show own_QA Z a5 p1 p2 h0 n0 _ T1.heap _
      rw [e1]
      exact ⟨by rw [own_agr, if_neg c1], N0, rfl⟩
def own_sel (a sel k : Int32) : Int32 := if sel &&& k = 0 then a else 0
def own_Q1 (Z : State) (h0 : Heap) (n0 : Nat) (v : Option Value) (h : Heap) (L : List Loc) : Prop := v = some (.int 1) ∧ Fr n0 L
set_option maxRecDepth 65536 in
set_option maxHeartbeats 40000000 in
theorem own_rm0 (l : Launch) (Z : State) (a0 : Array Value) (hw : ∀ d ∈ tables_1, d.before a0 Z = true) (ws : List Jvm.Cond) (p0 p1 p2 p3 : Int32) (h0 : Heap) (n0 : Nat) (Z0 : n0 ≤ h0.size) :
    MetFree l x (head1 (Jvm.Cond.code x code maxLocals ret :: ws) room_1) (fun a U => a = #[(.int p0), (.int p1), (.int p2), (.int p3)] ∧ Z.Warmed39 U.vm ∧ U.heap = h0) (fun _ _ _ _ _ => True) (fun _ U o U' => ∃ v L, o = .returned v ∧ own_Q1 Z h0 n0 v U'.heap L ∧ FrameEnd U o U' L 1 5) := by
  refine MetFree.of_bodySF (plainFor_of_name own_pnL) hisR ?_
  intro p e s m args below meth c s₁ Bd hml0 hP hK
  obtain ⟨rfl, hZ, hh⟩ := hP
  have hx := Bd.exec
  have hby := Bd.bytes
  have hml : c.maxLocals = 14 := hml0
  have hown : s.vm.findClass "com/example/tyr/tyr/bench/ReportAgreesPinLaw" = some m.cls := findClass_of_methodNamed Bd.named
  have hnm := (name_of_methodNamed Bd.named Bd.method).1
  have X0 : Stand p l e room_1 s m #[(.int p0), (.int p1), (.int p2), (.int p3)] below meth c s₁ [] 0 0 := Stand.of_body Bd
  have e0 : s₁.heap = h0 := by rw [← hh, Bd.state]; rfl
  have N0 := Fr.nil n0
  have pre0 : ∀ t, Steps p.tables e below (s₁.setTop (mkF m 0 #[.val (.int p0), .val (.int p1), .val (.int p2), .val (.int p3), .unset, .unset, .unset, .unset, .unset, .unset, .unset, .unset, .unset, .unset] [])) t → Steps p.tables e below (s₁.setTop (entryFrame m #[(.int p0), (.int p1), (.int p2), (.int p3)] maxLocals)) t := fun t k => castTop (own_ef0 m p0 p1 p2 p3) k
  obtain ⟨vx, hvx⟩ : ∃ z, z = own_sel p0 p2 1 := ⟨_, rfl⟩
  obtain ⟨vy, hvy⟩ : ∃ z, z = own_sel p1 p2 2 := ⟨_, rfl⟩
  obtain ⟨ve, hve⟩ : ∃ z, z = own_exp vx vy := ⟨_, rfl⟩
  obtain ⟨y1, hy1⟩ : ∃ z, FP.i2d (p3 &&& (65535 : Int32)) = z := ⟨_, rfl⟩
  obtain ⟨y2, hy2⟩ : ∃ z, FP.i2d ((XT.ushr p3 (16 : Int32)) &&& (65535 : Int32)) = z := ⟨_, rfl⟩
  obtain ⟨y3, hy3⟩ : ∃ z, FP.i2d ((XT.ushr p2 (2 : Int32)) &&& (65535 : Int32)) = z := ⟨_, rfl⟩
  have sg1 : ∀ t, Steps p.tables e below (s₁.setTop (mkF m 11 #[.val (.int p0), .val (.int p1), .val (.int p2), .val (.int p3), .unset, .unset, .unset, .unset, .unset, .unset, .unset, .unset, .unset, .unset] [(.int vx)])) t → Steps p.tables e below (s₁.setTop (mkF m 0 #[.val (.int p0), .val (.int p1), .val (.int p2), .val (.int p3), .unset, .unset, .unset, .unset, .unset, .unset, .unset, .unset, .unset, .unset] [])) t := by
    intro t k
    refine XS.iloadN X0.here hx rfl (hb hby at_0) rfl ?_
    show Steps p.tables e below (s₁.setTop (mkF m 1 #[.val (.int p0), .val (.int p1), .val (.int p2), .val (.int p3), .unset, .unset, .unset, .unset, .unset, .unset, .unset, .unset, .unset, .unset] [(.int p2)])) _
    refine XS.iconst X0.here hx rfl (hb hby at_1) ?_
    show Steps p.tables e below (s₁.setTop (mkF m 2 #[.val (.int p0), .val (.int p1), .val (.int p2), .val (.int p3), .unset, .unset, .unset, .unset, .unset, .unset, .unset, .unset, .unset, .unset] [(.int (1 : Int32)), (.int p2)])) _
    refine XS.iand X0.here hx rfl (hb hby at_2) rfl ?_
    show Steps p.tables e below (s₁.setTop (mkF m 3 #[.val (.int p0), .val (.int p1), .val (.int p2), .val (.int p3), .unset, .unset, .unset, .unset, .unset, .unset, .unset, .unset, .unset, .unset] [(.int (p2 &&& (1 : Int32)))])) _
    by_cases c1 : p2 &&& (1 : Int32) = (0 : Int32)
    · refine XS.ifYes X0.here hx rfl (pc0 := 3) (pc' := 10) rfl (hb hby at_3) rfl ((if0 _ _).trans (teq c1).1) (by decide) (by decide) ?_
      show Steps p.tables e below (s₁.setTop (mkF m 10 #[.val (.int p0), .val (.int p1), .val (.int p2), .val (.int p3), .unset, .unset, .unset, .unset, .unset, .unset, .unset, .unset, .unset, .unset] [])) _
      refine XS.iloadN X0.here hx rfl (hb hby at_10) rfl ?_
      show Steps p.tables e below (s₁.setTop (mkF m 11 #[.val (.int p0), .val (.int p1), .val (.int p2), .val (.int p3), .unset, .unset, .unset, .unset, .unset, .unset, .unset, .unset, .unset, .unset] [(.int p0)])) _
      have q : vx = p0 := by rw [hvx, own_sel, if_pos c1]
      rw [q] at k; exact k
    · refine XS.ifNo X0.here hx rfl (hb hby at_3) rfl ((if0 _ _).trans (feq c1).1) ?_
      show Steps p.tables e below (s₁.setTop (mkF m 6 #[.val (.int p0), .val (.int p1), .val (.int p2), .val (.int p3), .unset, .unset, .unset, .unset, .unset, .unset, .unset, .unset, .unset, .unset] [])) _
      refine XS.iconst X0.here hx rfl (hb hby at_6) ?_
      show Steps p.tables e below (s₁.setTop (mkF m 7 #[.val (.int p0), .val (.int p1), .val (.int p2), .val (.int p3), .unset, .unset, .unset, .unset, .unset, .unset, .unset, .unset, .unset, .unset] [(.int (0 : Int32))])) _
      refine XS.goto X0.here hx rfl (pc0 := 7) (pc' := 11) rfl (hb hby at_7) (by decide) (by decide) ?_
      show Steps p.tables e below (s₁.setTop (mkF m 11 #[.val (.int p0), .val (.int p1), .val (.int p2), .val (.int p3), .unset, .unset, .unset, .unset, .unset, .unset, .unset, .unset, .unset, .unset] [(.int (0 : Int32))])) _
      have q : vx = (0 : Int32) := by rw [hvx, own_sel, if_neg c1]
      rw [q] at k; exact k
  have sg2 : ∀ t, Steps p.tables e below (s₁.setTop (mkF m 24 #[.val (.int p0), .val (.int p1), .val (.int p2), .val (.int p3), .val (.int vx), .unset, .unset, .unset, .unset, .unset, .unset, .unset, .unset, .unset] [(.int vy)])) t → Steps p.tables e below (s₁.setTop (mkF m 13 #[.val (.int p0), .val (.int p1), .val (.int p2), .val (.int p3), .val (.int vx), .unset, .unset, .unset, .unset, .unset, .unset, .unset, .unset, .unset] [])) t := by
    intro t k
    refine XS.iloadN X0.here hx rfl (hb hby at_13) rfl ?_
    show Steps p.tables e below (s₁.setTop (mkF m 14 #[.val (.int p0), .val (.int p1), .val (.int p2), .val (.int p3), .val (.int vx), .unset, .unset, .unset, .unset, .unset, .unset, .unset, .unset, .unset] [(.int p2)])) _
    refine XS.iconst X0.here hx rfl (hb hby at_14) ?_
    show Steps p.tables e below (s₁.setTop (mkF m 15 #[.val (.int p0), .val (.int p1), .val (.int p2), .val (.int p3), .val (.int vx), .unset, .unset, .unset, .unset, .unset, .unset, .unset, .unset, .unset] [(.int (2 : Int32)), (.int p2)])) _
    refine XS.iand X0.here hx rfl (hb hby at_15) rfl ?_
    show Steps p.tables e below (s₁.setTop (mkF m 16 #[.val (.int p0), .val (.int p1), .val (.int p2), .val (.int p3), .val (.int vx), .unset, .unset, .unset, .unset, .unset, .unset, .unset, .unset, .unset] [(.int (p2 &&& (2 : Int32)))])) _
    by_cases c1 : p2 &&& (2 : Int32) = (0 : Int32)
    · refine XS.ifYes X0.here hx rfl (pc0 := 16) (pc' := 23) rfl (hb hby at_16) rfl ((if0 _ _).trans (teq c1).1) (by decide) (by decide) ?_
      show Steps p.tables e below (s₁.setTop (mkF m 23 #[.val (.int p0), .val (.int p1), .val (.int p2), .val (.int p3), .val (.int vx), .unset, .unset, .unset, .unset, .unset, .unset, .unset, .unset, .unset] [])) _
      refine XS.iloadN X0.here hx rfl (hb hby at_23) rfl ?_
      show Steps p.tables e below (s₁.setTop (mkF m 24 #[.val (.int p0), .val (.int p1), .val (.int p2), .val (.int p3), .val (.int vx), .unset, .unset, .unset, .unset, .unset, .unset, .unset, .unset, .unset] [(.int p1)])) _
      have q : vy = p1 := by rw [hvy, own_sel, if_pos c1]
      rw [q] at k; exact k
    · refine XS.ifNo X0.here hx rfl (hb hby at_16) rfl ((if0 _ _).trans (feq c1).1) ?_
      show Steps p.tables e below (s₁.setTop (mkF m 19 #[.val (.int p0), .val (.int p1), .val (.int p2), .val (.int p3), .val (.int vx), .unset, .unset, .unset, .unset, .unset, .unset, .unset, .unset, .unset] [])) _
      refine XS.iconst X0.here hx rfl (hb hby at_19) ?_
      show Steps p.tables e below (s₁.setTop (mkF m 20 #[.val (.int p0), .val (.int p1), .val (.int p2), .val (.int p3), .val (.int vx), .unset, .unset, .unset, .unset, .unset, .unset, .unset, .unset, .unset] [(.int (0 : Int32))])) _
      refine XS.goto X0.here hx rfl (pc0 := 20) (pc' := 24) rfl (hb hby at_20) (by decide) (by decide) ?_
      show Steps p.tables e below (s₁.setTop (mkF m 24 #[.val (.int p0), .val (.int p1), .val (.int p2), .val (.int p3), .val (.int vx), .unset, .unset, .unset, .unset, .unset, .unset, .unset, .unset, .unset] [(.int (0 : Int32))])) _
      have q : vy = (0 : Int32) := by rw [hvy, own_sel, if_neg c1]
      rw [q] at k; exact k
  obtain ⟨T2, h2, X2, e2, E2, A2, D2, -, st2⟩ := newO X0 hx hZ hown (hw _ (List.mem_of_getElem? (i := 1) rfl)) (hw _ (List.mem_of_getElem? (i := 2) rfl)) (hw _ (List.mem_of_getElem? (i := 3) rfl)) e0 (g := (mkF m 52 #[.val (.int p0), .val (.int p1), .val (.int p2), .val (.int p3), .val (.int vx), .val (.int vy), .val (.double y1), .second, .val (.double y2), .second, .val (.double y3), .second, .unset, .unset] [])) rfl (hb hby at_52) (by decide) (by decide)
  obtain ⟨a3, g2⟩ : ∃ z, z = h0.size := ⟨_, rfl⟩
  rw [← g2] at A2 D2 st2
  have F0 : Fld Z h2 a3 "com/example/tyr/tyr/bench/Report" "tyrMismatches" "I" (defaultValue .int) := (D2 (Or.inr (hw _ (List.mem_of_getElem? (i := 11) rfl))) (ty := .int) (by decide))
  have F1 : Fld Z h2 a3 "com/example/tyr/tyr/bench/Report" "casbinMismatches" "I" (defaultValue .int) := (D2 (Or.inr (hw _ (List.mem_of_getElem? (i := 13) rfl))) (ty := .int) (by decide))
  have F2 : Fld Z h2 a3 "com/example/tyr/tyr/bench/Report" "tyrNanos" "D" (defaultValue .double) := (D2 (Or.inr (hw _ (List.mem_of_getElem? (i := 15) rfl))) (ty := .double) (by decide))
  have F3 : Fld Z h2 a3 "com/example/tyr/tyr/bench/Report" "casbinNanos" "D" (defaultValue .double) := (D2 (Or.inr (hw _ (List.mem_of_getElem? (i := 17) rfl))) (ty := .double) (by decide))
  have F4 : Fld Z h2 a3 "com/example/tyr/tyr/bench/Report" "purchasingNanos" "D" (defaultValue .double) := (D2 (Or.inr (hw _ (List.mem_of_getElem? (i := 19) rfl))) (ty := .double) (by decide))
  have Z17 : n0 ≤ h2.size := (Nat.le_trans Z0 E2.1)
  obtain ⟨_, _, ⟨T18, L18, k18, n18⟩, -, X18, ⟨Lc18, hQ18, l18, y18, z18⟩, st18⟩ := X2.specialBack hx (y := (⟨"com/example/tyr/tyr/bench/Report", "<init>", "(IIDDD)V"⟩ : MethodName)) rfl hown (mvT hZ (hw _ (List.mem_of_getElem? (i := 4) rfl))) (mvT hZ (hw _ (List.mem_of_getElem? (i := 5) rfl))) (mvT hZ (hw _ (List.mem_of_getElem? (i := 6) rfl))) (by decide) (backOf (W := 1) (own_rmI l Z a0 hw [] a3 vx vy y1 y2 y3 h2 n0 Z17 F0 F1 F2 F3 F4 A2 (Nat.le_trans Z0 (Nat.le_of_eq g2.symm))) hZ (hw _ (List.mem_of_getElem? (i := 6) rfl)) (hw _ (List.mem_of_getElem? (i := 3) rfl)) (by decide) (by decide)) (g := (mkF m 66 #[.val (.int p0), .val (.int p1), .val (.int p2), .val (.int p3), .val (.int vx), .val (.int vy), .val (.double y1), .second, .val (.double y2), .second, .val (.double y3), .second, .unset, .unset] [(.double y3), (.double y2), (.double y1), (.int vy), (.int vx), (.ref a3), (.ref a3)])) rfl (by rw [hml]; rfl) (Steps.refl _) (a := a3) (argsL := [(.int vx), (.int vy), (.double y1), (.double y2), (.double y3)]) (rest := [(.ref a3)]) (lenOf own_pdI rfl) rfl (by show 2 * 0 + _ ≤ _; exact Nat.le_of_eq rfl) (hb hby at_66) (fun _ _ => ⟨rfl, e2, (by decide : 1 + 0 ≤ _), (by decide : 5 + 0 ≤ _)⟩)
  dsimp only [Pt.U, Pt.locs, Pt.cells, Pt.slots] at X18 l18 y18 z18 st18 hQ18
  subst l18 y18 z18
  obtain ⟨rfl, N20, K21, g22, g23, g24⟩ := hQ18
  have N24 := Fr.app N0 N20
  have Z33 : n0 ≤ T18.heap.size := (Nat.le_trans Z17 K21.1)
  obtain ⟨cq34, kq34, q34a, q34b, q34c⟩ := isOf hZ rfl g22
  have sg3 : ∀ t, Steps p.tables e below (T18.setTop (mkF m 84 #[.val (.int p0), .val (.int p1), .val (.int p2), .val (.int p3), .val (.int vx), .val (.int vy), .val (.double y1), .second, .val (.double y2), .second, .val (.double y3), .second, .val (.ref a3), .unset] [(.int ve)])) t → Steps p.tables e below (T18.setTop (mkF m 76 #[.val (.int p0), .val (.int p1), .val (.int p2), .val (.int p3), .val (.int vx), .val (.int vy), .val (.double y1), .second, .val (.double y2), .second, .val (.double y3), .second, .val (.ref a3), .unset] [(.int (vx ||| vy))])) t := by
    intro t k
    by_cases c1 : vx ||| vy = (0 : Int32)
    · refine XS.ifNo X18.here hx rfl (hb hby at_76) rfl ((if0 _ _).trans (teq c1).2) ?_
      show Steps p.tables e below (T18.setTop (mkF m 79 #[.val (.int p0), .val (.int p1), .val (.int p2), .val (.int p3), .val (.int vx), .val (.int vy), .val (.double y1), .second, .val (.double y2), .second, .val (.double y3), .second, .val (.ref a3), .unset] [])) _
      refine XS.iconst X18.here hx rfl (hb hby at_79) ?_
      show Steps p.tables e below (T18.setTop (mkF m 80 #[.val (.int p0), .val (.int p1), .val (.int p2), .val (.int p3), .val (.int vx), .val (.int vy), .val (.double y1), .second, .val (.double y2), .second, .val (.double y3), .second, .val (.ref a3), .unset] [(.int (1 : Int32))])) _
      refine XS.goto X18.here hx rfl (pc0 := 80) (pc' := 84) rfl (hb hby at_80) (by decide) (by decide) ?_
      show Steps p.tables e below (T18.setTop (mkF m 84 #[.val (.int p0), .val (.int p1), .val (.int p2), .val (.int p3), .val (.int vx), .val (.int vy), .val (.double y1), .second, .val (.double y2), .second, .val (.double y3), .second, .val (.ref a3), .unset] [(.int (1 : Int32))])) _
      have q : ve = (1 : Int32) := by rw [hve, own_exp, if_pos c1]
      rw [q] at k; exact k
    · refine XS.ifYes X18.here hx rfl (pc0 := 76) (pc' := 83) rfl (hb hby at_76) rfl ((if0 _ _).trans (feq c1).2) (by decide) (by decide) ?_
      show Steps p.tables e below (T18.setTop (mkF m 83 #[.val (.int p0), .val (.int p1), .val (.int p2), .val (.int p3), .val (.int vx), .val (.int vy), .val (.double y1), .second, .val (.double y2), .second, .val (.double y3), .second, .val (.ref a3), .unset] [])) _
      refine XS.iconst X18.here hx rfl (hb hby at_83) ?_
      show Steps p.tables e below (T18.setTop (mkF m 84 #[.val (.int p0), .val (.int p1), .val (.int p2), .val (.int p3), .val (.int vx), .val (.int vy), .val (.double y1), .second, .val (.double y2), .second, .val (.double y3), .second, .val (.ref a3), .unset] [(.int (0 : Int32))])) _
      have q : ve = (0 : Int32) := by rw [hve, own_exp, if_neg c1]
      rw [q] at k; exact k
  obtain ⟨_, _, ⟨T36, L36, k36, n36⟩, -, X36, ⟨Lc36, hQ36, l36, y36, z36⟩, st36⟩ := X18.virtualBack hx (y := (⟨"com/example/tyr/tyr/bench/Report", "agrees", "()Z"⟩ : MethodName)) (z := (⟨"com/example/tyr/tyr/bench/Report", "agrees", "()Z"⟩ : MethodName)) hown (mvT hZ (hw _ (List.mem_of_getElem? (i := 20) rfl))) (mvT hZ (hw _ (List.mem_of_getElem? (i := 21) rfl))) (notFace_of_selects (args := #[]) (mvT hZ (hw _ (List.mem_of_getElem? (i := 23) rfl)))) (mvT hZ (hw _ (List.mem_of_getElem? (i := 23) rfl))) (mvT hZ (hw _ (List.mem_of_getElem? (i := 22) rfl))) (by decide) (backOf (W := 0) (own_rmA l Z a0 hw [] a3 vx vy T18.heap n0 Z33 g23 g24) hZ (hw _ (List.mem_of_getElem? (i := 24) rfl)) (hw _ (List.mem_of_getElem? (i := 3) rfl)) (by decide) (by decide)) q34a q34c (g := (mkF m 88 #[.val (.int p0), .val (.int p1), .val (.int p2), .val (.int p3), .val (.int vx), .val (.int vy), .val (.double y1), .second, .val (.double y2), .second, .val (.double y3), .second, .val (.ref a3), .val (.int ve)] [(.ref a3)])) rfl (by rw [hml]; rfl) (Steps.refl _) (argsL := []) (rest := []) (lenOf own_pdA rfl) rfl (by show 2 * 0 + _ ≤ _; exact Nat.le_of_eq rfl) (hb hby at_88) (fun _ _ => ⟨rfl, rfl, (by decide : 1 + 0 ≤ _), (by decide : 5 + 0 ≤ _)⟩)
  dsimp only [Pt.U, Pt.locs, Pt.cells, Pt.slots] at X36 l36 y36 z36 st36 hQ36
  subst l36 y36 z36
  obtain ⟨rfl, N38, e39⟩ := hQ36
  have N40 := Fr.app N24 N38
  have hlast : own_agr vx vy = ve := by rw [hve]; exact own_same vx vy
  obtain ⟨fs, hr, hrun, hended, hW, hsame⟩ := X36.leave (v := some (.int (1 : Int32))) (fun h => by rw [Bd.returns] at h; cases h)
  refine ⟨_, _, pre0 _ ?_, hrun, hended, _, _, rfl, ?_, ⟨_, rfl⟩, hW, hsame.mono (by decide) (by decide)⟩
  · show Steps p.tables e below (s₁.setTop (mkF m 0 #[.val (.int p0), .val (.int p1), .val (.int p2), .val (.int p3), .unset, .unset, .unset, .unset, .unset, .unset, .unset, .unset, .unset, .unset] [])) _
    refine sg1 _ ?_
    show Steps p.tables e below (s₁.setTop (mkF m 11 #[.val (.int p0), .val (.int p1), .val (.int p2), .val (.int p3), .unset, .unset, .unset, .unset, .unset, .unset, .unset, .unset, .unset, .unset] [(.int vx)])) _
    refine XS.istore X0.here hx rfl (hb hby at_11) rfl (l' := #[.val (.int p0), .val (.int p1), .val (.int p2), .val (.int p3), .val (.int vx), .unset, .unset, .unset, .unset, .unset, .unset, .unset, .unset, .unset]) rfl ?_
    show Steps p.tables e below (s₁.setTop (mkF m 13 #[.val (.int p0), .val (.int p1), .val (.int p2), .val (.int p3), .val (.int vx), .unset, .unset, .unset, .unset, .unset, .unset, .unset, .unset, .unset] [])) _
    refine sg2 _ ?_
    show Steps p.tables e below (s₁.setTop (mkF m 24 #[.val (.int p0), .val (.int p1), .val (.int p2), .val (.int p3), .val (.int vx), .unset, .unset, .unset, .unset, .unset, .unset, .unset, .unset, .unset] [(.int vy)])) _
    refine XS.istore X0.here hx rfl (hb hby at_24) rfl (l' := #[.val (.int p0), .val (.int p1), .val (.int p2), .val (.int p3), .val (.int vx), .val (.int vy), .unset, .unset, .unset, .unset, .unset, .unset, .unset, .unset]) rfl ?_
    show Steps p.tables e below (s₁.setTop (mkF m 26 #[.val (.int p0), .val (.int p1), .val (.int p2), .val (.int p3), .val (.int vx), .val (.int vy), .unset, .unset, .unset, .unset, .unset, .unset, .unset, .unset] [])) _
    refine XS.iloadN X0.here hx rfl (hb hby at_26) rfl ?_
    show Steps p.tables e below (s₁.setTop (mkF m 27 #[.val (.int p0), .val (.int p1), .val (.int p2), .val (.int p3), .val (.int vx), .val (.int vy), .unset, .unset, .unset, .unset, .unset, .unset, .unset, .unset] [(.int p3)])) _
    refine X0.ldcInt hx hown (mvT hZ (hw _ (List.mem_of_getElem? (i := 0) rfl))) (g := (mkF m 27 #[.val (.int p0), .val (.int p1), .val (.int p2), .val (.int p3), .val (.int vx), .val (.int vy), .unset, .unset, .unset, .unset, .unset, .unset, .unset, .unset] [(.int p3)])) rfl (hb hby at_27) _ ?_
    show Steps p.tables e below (s₁.setTop (mkF m 29 #[.val (.int p0), .val (.int p1), .val (.int p2), .val (.int p3), .val (.int vx), .val (.int vy), .unset, .unset, .unset, .unset, .unset, .unset, .unset, .unset] [(.int (65535 : Int32)), (.int p3)])) _
    refine XS.iand X0.here hx rfl (hb hby at_29) rfl ?_
    show Steps p.tables e below (s₁.setTop (mkF m 30 #[.val (.int p0), .val (.int p1), .val (.int p2), .val (.int p3), .val (.int vx), .val (.int vy), .unset, .unset, .unset, .unset, .unset, .unset, .unset, .unset] [(.int (p3 &&& (65535 : Int32)))])) _
    refine XS.i2dS X0.here hx rfl (hb hby at_30) rfl hy1 ?_
    show Steps p.tables e below (s₁.setTop (mkF m 31 #[.val (.int p0), .val (.int p1), .val (.int p2), .val (.int p3), .val (.int vx), .val (.int vy), .unset, .unset, .unset, .unset, .unset, .unset, .unset, .unset] [(.double y1)])) _
    refine XS.dstore X0.here hx rfl (hb hby at_31) rfl (l' := #[.val (.int p0), .val (.int p1), .val (.int p2), .val (.int p3), .val (.int vx), .val (.int vy), .val (.double y1), .second, .unset, .unset, .unset, .unset, .unset, .unset]) rfl ?_
    show Steps p.tables e below (s₁.setTop (mkF m 33 #[.val (.int p0), .val (.int p1), .val (.int p2), .val (.int p3), .val (.int vx), .val (.int vy), .val (.double y1), .second, .unset, .unset, .unset, .unset, .unset, .unset] [])) _
    refine XS.iloadN X0.here hx rfl (hb hby at_33) rfl ?_
    show Steps p.tables e below (s₁.setTop (mkF m 34 #[.val (.int p0), .val (.int p1), .val (.int p2), .val (.int p3), .val (.int vx), .val (.int vy), .val (.double y1), .second, .unset, .unset, .unset, .unset, .unset, .unset] [(.int p3)])) _
    refine XS.bipush X0.here hx rfl (hb hby at_34) ?_
    show Steps p.tables e below (s₁.setTop (mkF m 36 #[.val (.int p0), .val (.int p1), .val (.int p2), .val (.int p3), .val (.int vx), .val (.int vy), .val (.double y1), .second, .unset, .unset, .unset, .unset, .unset, .unset] [(.int (16 : Int32)), (.int p3)])) _
    refine XT.iushr X0.here hx rfl (hb hby at_36) rfl ?_
    show Steps p.tables e below (s₁.setTop (mkF m 37 #[.val (.int p0), .val (.int p1), .val (.int p2), .val (.int p3), .val (.int vx), .val (.int vy), .val (.double y1), .second, .unset, .unset, .unset, .unset, .unset, .unset] [(.int (XT.ushr p3 (16 : Int32)))])) _
    refine X0.ldcInt hx hown (mvT hZ (hw _ (List.mem_of_getElem? (i := 0) rfl))) (g := (mkF m 37 #[.val (.int p0), .val (.int p1), .val (.int p2), .val (.int p3), .val (.int vx), .val (.int vy), .val (.double y1), .second, .unset, .unset, .unset, .unset, .unset, .unset] [(.int (XT.ushr p3 (16 : Int32)))])) rfl (hb hby at_37) _ ?_
    show Steps p.tables e below (s₁.setTop (mkF m 39 #[.val (.int p0), .val (.int p1), .val (.int p2), .val (.int p3), .val (.int vx), .val (.int vy), .val (.double y1), .second, .unset, .unset, .unset, .unset, .unset, .unset] [(.int (65535 : Int32)), (.int (XT.ushr p3 (16 : Int32)))])) _
    refine XS.iand X0.here hx rfl (hb hby at_39) rfl ?_
    show Steps p.tables e below (s₁.setTop (mkF m 40 #[.val (.int p0), .val (.int p1), .val (.int p2), .val (.int p3), .val (.int vx), .val (.int vy), .val (.double y1), .second, .unset, .unset, .unset, .unset, .unset, .unset] [(.int ((XT.ushr p3 (16 : Int32)) &&& (65535 : Int32)))])) _
    refine XS.i2dS X0.here hx rfl (hb hby at_40) rfl hy2 ?_
    show Steps p.tables e below (s₁.setTop (mkF m 41 #[.val (.int p0), .val (.int p1), .val (.int p2), .val (.int p3), .val (.int vx), .val (.int vy), .val (.double y1), .second, .unset, .unset, .unset, .unset, .unset, .unset] [(.double y2)])) _
    refine XS.dstore X0.here hx rfl (hb hby at_41) rfl (l' := #[.val (.int p0), .val (.int p1), .val (.int p2), .val (.int p3), .val (.int vx), .val (.int vy), .val (.double y1), .second, .val (.double y2), .second, .unset, .unset, .unset, .unset]) rfl ?_
    show Steps p.tables e below (s₁.setTop (mkF m 43 #[.val (.int p0), .val (.int p1), .val (.int p2), .val (.int p3), .val (.int vx), .val (.int vy), .val (.double y1), .second, .val (.double y2), .second, .unset, .unset, .unset, .unset] [])) _
    refine XS.iloadN X0.here hx rfl (hb hby at_43) rfl ?_
    show Steps p.tables e below (s₁.setTop (mkF m 44 #[.val (.int p0), .val (.int p1), .val (.int p2), .val (.int p3), .val (.int vx), .val (.int vy), .val (.double y1), .second, .val (.double y2), .second, .unset, .unset, .unset, .unset] [(.int p2)])) _
    refine XS.iconst X0.here hx rfl (hb hby at_44) ?_
    show Steps p.tables e below (s₁.setTop (mkF m 45 #[.val (.int p0), .val (.int p1), .val (.int p2), .val (.int p3), .val (.int vx), .val (.int vy), .val (.double y1), .second, .val (.double y2), .second, .unset, .unset, .unset, .unset] [(.int (2 : Int32)), (.int p2)])) _
    refine XT.iushr X0.here hx rfl (hb hby at_45) rfl ?_
    show Steps p.tables e below (s₁.setTop (mkF m 46 #[.val (.int p0), .val (.int p1), .val (.int p2), .val (.int p3), .val (.int vx), .val (.int vy), .val (.double y1), .second, .val (.double y2), .second, .unset, .unset, .unset, .unset] [(.int (XT.ushr p2 (2 : Int32)))])) _
    refine X0.ldcInt hx hown (mvT hZ (hw _ (List.mem_of_getElem? (i := 0) rfl))) (g := (mkF m 46 #[.val (.int p0), .val (.int p1), .val (.int p2), .val (.int p3), .val (.int vx), .val (.int vy), .val (.double y1), .second, .val (.double y2), .second, .unset, .unset, .unset, .unset] [(.int (XT.ushr p2 (2 : Int32)))])) rfl (hb hby at_46) _ ?_
    show Steps p.tables e below (s₁.setTop (mkF m 48 #[.val (.int p0), .val (.int p1), .val (.int p2), .val (.int p3), .val (.int vx), .val (.int vy), .val (.double y1), .second, .val (.double y2), .second, .unset, .unset, .unset, .unset] [(.int (65535 : Int32)), (.int (XT.ushr p2 (2 : Int32)))])) _
    refine XS.iand X0.here hx rfl (hb hby at_48) rfl ?_
    show Steps p.tables e below (s₁.setTop (mkF m 49 #[.val (.int p0), .val (.int p1), .val (.int p2), .val (.int p3), .val (.int vx), .val (.int vy), .val (.double y1), .second, .val (.double y2), .second, .unset, .unset, .unset, .unset] [(.int ((XT.ushr p2 (2 : Int32)) &&& (65535 : Int32)))])) _
    refine XS.i2dS X0.here hx rfl (hb hby at_49) rfl hy3 ?_
    show Steps p.tables e below (s₁.setTop (mkF m 50 #[.val (.int p0), .val (.int p1), .val (.int p2), .val (.int p3), .val (.int vx), .val (.int vy), .val (.double y1), .second, .val (.double y2), .second, .unset, .unset, .unset, .unset] [(.double y3)])) _
    refine XS.dstore X0.here hx rfl (hb hby at_50) rfl (l' := #[.val (.int p0), .val (.int p1), .val (.int p2), .val (.int p3), .val (.int vx), .val (.int vy), .val (.double y1), .second, .val (.double y2), .second, .val (.double y3), .second, .unset, .unset]) rfl ?_
    show Steps p.tables e below (s₁.setTop (mkF m 52 #[.val (.int p0), .val (.int p1), .val (.int p2), .val (.int p3), .val (.int vx), .val (.int vy), .val (.double y1), .second, .val (.double y2), .second, .val (.double y3), .second, .unset, .unset] [])) _
    refine st2 _ ?_
    show Steps p.tables e below (T2.setTop (mkF m 55 #[.val (.int p0), .val (.int p1), .val (.int p2), .val (.int p3), .val (.int vx), .val (.int vy), .val (.double y1), .second, .val (.double y2), .second, .val (.double y3), .second, .unset, .unset] [(.ref a3)])) _
    refine XS.dup X2.here hx rfl (hb hby at_55) rfl rfl ?_
    show Steps p.tables e below (T2.setTop (mkF m 56 #[.val (.int p0), .val (.int p1), .val (.int p2), .val (.int p3), .val (.int vx), .val (.int vy), .val (.double y1), .second, .val (.double y2), .second, .val (.double y3), .second, .unset, .unset] [(.ref a3), (.ref a3)])) _
    refine XS.iload X2.here hx rfl (hb hby at_56) rfl ?_
    show Steps p.tables e below (T2.setTop (mkF m 58 #[.val (.int p0), .val (.int p1), .val (.int p2), .val (.int p3), .val (.int vx), .val (.int vy), .val (.double y1), .second, .val (.double y2), .second, .val (.double y3), .second, .unset, .unset] [(.int vx), (.ref a3), (.ref a3)])) _
    refine XS.iload X2.here hx rfl (hb hby at_58) rfl ?_
    show Steps p.tables e below (T2.setTop (mkF m 60 #[.val (.int p0), .val (.int p1), .val (.int p2), .val (.int p3), .val (.int vx), .val (.int vy), .val (.double y1), .second, .val (.double y2), .second, .val (.double y3), .second, .unset, .unset] [(.int vy), (.int vx), (.ref a3), (.ref a3)])) _
    refine XS.dload X2.here hx rfl (hb hby at_60) rfl ?_
    show Steps p.tables e below (T2.setTop (mkF m 62 #[.val (.int p0), .val (.int p1), .val (.int p2), .val (.int p3), .val (.int vx), .val (.int vy), .val (.double y1), .second, .val (.double y2), .second, .val (.double y3), .second, .unset, .unset] [(.double y1), (.int vy), (.int vx), (.ref a3), (.ref a3)])) _
    refine XS.dload X2.here hx rfl (hb hby at_62) rfl ?_
    show Steps p.tables e below (T2.setTop (mkF m 64 #[.val (.int p0), .val (.int p1), .val (.int p2), .val (.int p3), .val (.int vx), .val (.int vy), .val (.double y1), .second, .val (.double y2), .second, .val (.double y3), .second, .unset, .unset] [(.double y2), (.double y1), (.int vy), (.int vx), (.ref a3), (.ref a3)])) _
    refine XS.dload X2.here hx rfl (hb hby at_64) rfl ?_
    show Steps p.tables e below (T2.setTop (mkF m 66 #[.val (.int p0), .val (.int p1), .val (.int p2), .val (.int p3), .val (.int vx), .val (.int vy), .val (.double y1), .second, .val (.double y2), .second, .val (.double y3), .second, .unset, .unset] [(.double y3), (.double y2), (.double y1), (.int vy), (.int vx), (.ref a3), (.ref a3)])) _
    refine st18.trans ?_
    show Steps p.tables e below (T18.setTop (mkF m 69 #[.val (.int p0), .val (.int p1), .val (.int p2), .val (.int p3), .val (.int vx), .val (.int vy), .val (.double y1), .second, .val (.double y2), .second, .val (.double y3), .second, .unset, .unset] [(.ref a3)])) _
    refine XS.astore X18.here hx rfl (hb hby at_69) rfl rfl (l' := #[.val (.int p0), .val (.int p1), .val (.int p2), .val (.int p3), .val (.int vx), .val (.int vy), .val (.double y1), .second, .val (.double y2), .second, .val (.double y3), .second, .val (.ref a3), .unset]) rfl ?_
    show Steps p.tables e below (T18.setTop (mkF m 71 #[.val (.int p0), .val (.int p1), .val (.int p2), .val (.int p3), .val (.int vx), .val (.int vy), .val (.double y1), .second, .val (.double y2), .second, .val (.double y3), .second, .val (.ref a3), .unset] [])) _
    refine XS.iload X18.here hx rfl (hb hby at_71) rfl ?_
    show Steps p.tables e below (T18.setTop (mkF m 73 #[.val (.int p0), .val (.int p1), .val (.int p2), .val (.int p3), .val (.int vx), .val (.int vy), .val (.double y1), .second, .val (.double y2), .second, .val (.double y3), .second, .val (.ref a3), .unset] [(.int vx)])) _
    refine XS.iload X18.here hx rfl (hb hby at_73) rfl ?_
    show Steps p.tables e below (T18.setTop (mkF m 75 #[.val (.int p0), .val (.int p1), .val (.int p2), .val (.int p3), .val (.int vx), .val (.int vy), .val (.double y1), .second, .val (.double y2), .second, .val (.double y3), .second, .val (.ref a3), .unset] [(.int vy), (.int vx)])) _
    refine XT.ior X18.here hx rfl (hb hby at_75) rfl ?_
    show Steps p.tables e below (T18.setTop (mkF m 76 #[.val (.int p0), .val (.int p1), .val (.int p2), .val (.int p3), .val (.int vx), .val (.int vy), .val (.double y1), .second, .val (.double y2), .second, .val (.double y3), .second, .val (.ref a3), .unset] [(.int (vx ||| vy))])) _
    refine sg3 _ ?_
    show Steps p.tables e below (T18.setTop (mkF m 84 #[.val (.int p0), .val (.int p1), .val (.int p2), .val (.int p3), .val (.int vx), .val (.int vy), .val (.double y1), .second, .val (.double y2), .second, .val (.double y3), .second, .val (.ref a3), .unset] [(.int ve)])) _
    refine XS.istore X18.here hx rfl (hb hby at_84) rfl (l' := #[.val (.int p0), .val (.int p1), .val (.int p2), .val (.int p3), .val (.int vx), .val (.int vy), .val (.double y1), .second, .val (.double y2), .second, .val (.double y3), .second, .val (.ref a3), .val (.int ve)]) rfl ?_
    show Steps p.tables e below (T18.setTop (mkF m 86 #[.val (.int p0), .val (.int p1), .val (.int p2), .val (.int p3), .val (.int vx), .val (.int vy), .val (.double y1), .second, .val (.double y2), .second, .val (.double y3), .second, .val (.ref a3), .val (.int ve)] [])) _
    refine XS.aload X18.here hx rfl (hb hby at_86) rfl rfl ?_
    show Steps p.tables e below (T18.setTop (mkF m 88 #[.val (.int p0), .val (.int p1), .val (.int p2), .val (.int p3), .val (.int vx), .val (.int vy), .val (.double y1), .second, .val (.double y2), .second, .val (.double y3), .second, .val (.ref a3), .val (.int ve)] [(.ref a3)])) _
    refine st36.trans ?_
    show Steps p.tables e below (T36.setTop (mkF m 91 #[.val (.int p0), .val (.int p1), .val (.int p2), .val (.int p3), .val (.int vx), .val (.int vy), .val (.double y1), .second, .val (.double y2), .second, .val (.double y3), .second, .val (.ref a3), .val (.int ve)] [(.int (own_agr vx vy))])) _
    refine XS.iload X36.here hx rfl (hb hby at_91) rfl ?_
    show Steps p.tables e below (T36.setTop (mkF m 93 #[.val (.int p0), .val (.int p1), .val (.int p2), .val (.int p3), .val (.int vx), .val (.int vy), .val (.double y1), .second, .val (.double y2), .second, .val (.double y3), .second, .val (.ref a3), .val (.int ve)] [(.int ve), (.int (own_agr vx vy))])) _
    refine XS.icmpNo X36.here hx rfl (hb hby at_93) rfl (teq hlast).2 ?_
    show Steps p.tables e below (T36.setTop (mkF m 96 #[.val (.int p0), .val (.int p1), .val (.int p2), .val (.int p3), .val (.int vx), .val (.int vy), .val (.double y1), .second, .val (.double y2), .second, .val (.double y3), .second, .val (.ref a3), .val (.int ve)] [])) _
    refine XS.iconst X36.here hx rfl (hb hby at_96) ?_
    show Steps p.tables e below (T36.setTop (mkF m 97 #[.val (.int p0), .val (.int p1), .val (.int p2), .val (.int p3), .val (.int vx), .val (.int vy), .val (.double y1), .second, .val (.double y2), .second, .val (.double y3), .second, .val (.ref a3), .val (.int ve)] [(.int (1 : Int32))])) _
    refine XS.goto X36.here hx rfl (pc0 := 97) (pc' := 101) rfl (hb hby at_97) (by decide) (by decide) ?_
    show Steps p.tables e below (T36.setTop (mkF m 101 #[.val (.int p0), .val (.int p1), .val (.int p2), .val (.int p3), .val (.int vx), .val (.int vy), .val (.double y1), .second, .val (.double y2), .second, .val (.double y3), .second, .val (.ref a3), .val (.int ve)] [(.int (1 : Int32))])) _
    exact retN X36 hx (t := .boolean) Bd.returns (by simp) (hb hby at_101) hr
  · show own_Q1 Z h0 n0 _ T36.heap _
    exact ⟨rfl, N40⟩
set_option maxRecDepth 65536 in
set_option maxHeartbeats 40000000 in
theorem comes_1 {Post : Tables → Env → Array Value → State → Outcome → State → Prop} (hpost : ∀ tb e args s v u, (limb_1_1.after args s (.returned v) u = true ∧ limb_1_2.after args s (.returned v) u = true ∧ True) → FrameEnd s (.returned v) u (Jvm.fieldLocs frame_1_writes args s ++ Jvm.arrayLocs frame_1_arrays args s ++ Jvm.staticLocs frame_1_statics s) 16 128 → Post tb e args s (.returned v) u) :
    ArmFor flags0 classFile x code maxLocals ret World_1 tables_1 room_1 Calls_1 rest_1 Pre_1 Post := by
  intro l hfl _ _ p e ha hc hk s m args below hf hA hF happ hP
  obtain ⟨hcalls, hrest, hpre⟩ := hP
  obtain ⟨-, -, -, hnamed, -, -, -, hat⟩ := (Spec.applies_iff hf).mp happ
  obtain ⟨hg, hn⟩ := and_e (Cond.before_iff.mp (show (Jvm.Cond.and given_1 narrow_1).before args s = true from hpre))
  obtain ⟨h1, h2⟩ := and_e hg
  obtain ⟨g0, h3⟩ := and_e h2
  obtain ⟨g1, h4⟩ := and_e h3
  obtain ⟨g2, g3⟩ := and_e h4
  obtain ⟨w0, w1, w2, w3, rfl⟩ : ∃ w0 w1 w2 w3 : Value, args = #[w0, w1, w2, w3] := by
    have hs : args.size = 4 := by simpa [Cond.value, given_1] using h1
    obtain ⟨L⟩ := args
    match L, hs with
    | [w0, w1, w2, w3], _ => exact ⟨w0, w1, w2, w3, rfl⟩
  have hw := fun d (hd : d ∈ tables_1) => atoms_spec (ws := Jvm.Cond.code x code maxLocals ret :: tables_1) hat d (List.mem_cons_of_mem _ hd)
  obtain ⟨i0, e0⟩ := is_v g0
  obtain rfl : w0 = (.int i0) := Option.some.inj e0
  obtain ⟨i1, e1⟩ := is_v g1
  obtain rfl : w1 = (.int i1) := Option.some.inj e1
  obtain ⟨i2, e2⟩ := is_v g2
  obtain rfl : w2 = (.int i2) := Option.some.inj e2
  obtain ⟨i3, e3⟩ := is_v g3
  obtain rfl : w3 = (.int i3) := Option.some.inj e3
  obtain ⟨n, o, h1, h2, h3, _, L, rfl, ⟨rfl, N⟩, hq⟩ := own_rm0 l s _ hw tables_1 i0 i1 i2 i3 s.heap s.heap.size (Nat.le_refl _) p e ha hc hk s m _ below hf ((Spec.applies_iff_loose hf).mp happ).1 ⟨rfl, State.Warmed39.refl s, rfl⟩ trivial
  refine ⟨n, _, h1, h2, h3, hpost _ _ _ _ _ _ ⟨Cond.after_iff.mpr rfl, Cond.after_iff.mpr (eq_i res_at (Term.int_eval (1)) rfl), trivial⟩ ⟨hq.1, hq.2.1, (hq.2.2.sift fun y hy => Or.inr (N y hy)).mono (by decide) (by decide)⟩⟩
theorem main_1_1 : Claimed_1_1 := comes_1 fun _ _ _ _ _ _ h hF => ⟨h.1, hF⟩
theorem main_1_2 : Claimed_1_2 := comes_1 fun _ _ _ _ _ _ h hF => ⟨h.2.1, hF⟩
end Jvm.Pilot.@@N@@
namespace Jvm.Pilot.@@N@@
open Jvm Jvm.ClassFile Sem Op Lib Jvm.Free Jvm.Stand Jvm.Pilot.@@N@@.Jvm.D
/-! MADE BY PROGRAM (witnessworld.py) out of the Statement's table words and the real class files: 7 classes; the members and pool entries that the words name. The judged class is class 1, her method 1. -/
namespace start1
open Jvm.ClassFile
def u (s : String) : CpInfo := .utf8 (stringToUtf16 s)
/-- a pool by its gaps: so many unusable entries, then the entry; so many at the end -/
def gap : Nat → List CpInfo → List CpInfo
  | 0, r => r
  | n + 1, r => .unusable :: gap n r
def poolList (es : List (Nat × CpInfo)) (last : Nat) : List CpInfo := es.foldr (fun e r => gap e.1 (e.2 :: r)) (gap last [])
def pool (es : List (Nat × CpInfo)) (last : Nat) : Array CpInfo := ⟨poolList es last⟩
def fileOf (pool : Array CpInfo) (this : Nat) (attrs : Array Attribute := #[]) (ms : Array MethodInfo := #[]) (fl : Nat := 33) (sup : Nat := 0) (ifs : Array Nat := #[]) (fds : Array FieldInfo := #[]) : ClassFile where
  minorVersion := 0
  majorVersion := 65
  constantPool := pool
  accessFlags := fl
  thisClass := this
  superClass := sup
  interfaces := ifs
  fields := fds
  methods := ms
  attributes := attrs
def plain (name : String) (sup : Option ClassId) : Class where
  name := name
  kind := .ordinary
  loader := none
  accessFlags := 33
  super := sup
  interfaces := #[]
  cf := none
  fields := #[]
  methods := #[]
  instanceTypes := #[]
  staticTypes := #[]
  resolved := #[]
  callSites := []
  init := .initialized
  statics := none
  mirror := none

def pool0 : Array CpInfo := pool [(5, u "<init>"), (0, u "()V"), (1, .class_ 10), (1, u "java/lang/Object")] 113

def k0c0 : Code := { maxStack := 0, maxLocals := 1, code := object_method_1_code, exceptionTable := #[], attributes := #[] }
def k0m0 : Method := { name := "<init>", desc := "()V", sig := { parameters := [], returnType := none }, accessFlags := 1, code := some k0c0 }
/-- java/lang/Object -/
def k0 : Class := { plain "java/lang/Object" none with
  accessFlags := 33
  interfaces := #[]
  cf := some (fileOf pool0 8 #[] #[{ accessFlags := 1, nameIndex := 5, descriptorIndex := 6, attributes := #[] }] 33 0 #[] #[])
  fields := #[]
  methods := #[k0m0]
  instanceTypes := #[]
  staticTypes := #[]
  resolved := Array.replicate 124 none
  statics := none }

def pool1 : Array CpInfo := pool [(2, .class_ 4), (1, u "java/lang/Object"), (0, u "<init>"), (0, u "()V"), (0, .integer 65535), (0, .class_ 9), (0, u "com/example/tyr/tyr/bench/Report"), (0, .methodref 8 11), (0, .nameAndType 5 12), (0, u "(IIDDD)V"), (0, .methodref 8 14), (0, .nameAndType 15 16), (0, u "agrees"), (0, u "()Z"), (0, .class_ 18), (0, u "com/example/tyr/tyr/bench/ReportAgreesPinLaw"), (2, u "law"), (0, u "(IIII)Z")] 3

def k1m0 : Method := { name := "<init>", desc := "()V", sig := { parameters := [], returnType := none }, accessFlags := 1, code := none }
def k1c1 : Code := { maxStack := 10, maxLocals := 14, code := code, exceptionTable := #[], attributes := #[] }
def k1m1 : Method := { name := "law", desc := "(IIII)Z", sig := { parameters := [.int, .int, .int, .int], returnType := some .boolean }, accessFlags := 9, code := some k1c1 }
/-- com/example/tyr/tyr/bench/ReportAgreesPinLaw -/
def k1 : Class := { plain "com/example/tyr/tyr/bench/ReportAgreesPinLaw" (some 0) with
  accessFlags := 49
  interfaces := #[]
  cf := some (fileOf pool1 17 #[] #[{ accessFlags := 1, nameIndex := 5, descriptorIndex := 6, attributes := #[] }, { accessFlags := 9, nameIndex := 21, descriptorIndex := 22, attributes := #[] }] 49 2 #[] #[])
  fields := #[]
  methods := #[k1m0, k1m1]
  instanceTypes := #[]
  staticTypes := #[]
  resolved := Array.replicate 26 none
  statics := none }

def pool2 : Array CpInfo := pool [(1, .methodref 2 3), (0, .class_ 4), (0, .nameAndType 5 6), (0, u "java/lang/Object"), (0, u "<init>"), (0, u "()V"), (0, .fieldref 8 9), (0, .class_ 10), (0, .nameAndType 11 12), (0, u "com/example/tyr/tyr/bench/Report"), (0, u "tyrMismatches"), (0, u "I"), (0, .fieldref 8 14), (0, .nameAndType 15 12), (0, u "casbinMismatches"), (0, .fieldref 8 17), (0, .nameAndType 18 19), (0, u "tyrNanos"), (0, u "D"), (0, .fieldref 8 21), (0, .nameAndType 22 19), (0, u "casbinNanos"), (0, .fieldref 8 24), (0, .nameAndType 25 19), (0, u "purchasingNanos"), (67, u "SIGNIFICANT_DIGITS"), (2, u "(IIDDD)V"), (2, u "agrees"), (0, u "()Z")] 32

def k2c0 : Code := { maxStack := 3, maxLocals := 9, code := prog_16_method_1_code, exceptionTable := #[], attributes := #[] }
def k2m0 : Method := { name := "<init>", desc := "(IIDDD)V", sig := { parameters := [.int, .int, .double, .double, .double], returnType := none }, accessFlags := 0, code := some k2c0 }
def k2c1 : Code := { maxStack := 1, maxLocals := 1, code := prog_16_method_2_code, exceptionTable := #[], attributes := #[] }
def k2m1 : Method := { name := "agrees", desc := "()Z", sig := { parameters := [], returnType := some .boolean }, accessFlags := 0, code := some k2c1 }
/-- com/example/tyr/tyr/bench/Report -/
def k2 : Class := { plain "com/example/tyr/tyr/bench/Report" (some 0) with
  accessFlags := 48
  interfaces := #[]
  cf := some (fileOf pool2 8 #[] #[{ accessFlags := 0, nameIndex := 5, descriptorIndex := 96, attributes := #[] }, { accessFlags := 0, nameIndex := 99, descriptorIndex := 100, attributes := #[] }] 48 2 #[] #[{ accessFlags := 26, nameIndex := 93, descriptorIndex := 12, attributes := #[] }, { accessFlags := 18, nameIndex := 11, descriptorIndex := 12, attributes := #[] }, { accessFlags := 18, nameIndex := 15, descriptorIndex := 12, attributes := #[] }, { accessFlags := 18, nameIndex := 18, descriptorIndex := 19, attributes := #[] }, { accessFlags := 18, nameIndex := 22, descriptorIndex := 19, attributes := #[] }, { accessFlags := 18, nameIndex := 25, descriptorIndex := 19, attributes := #[] }])
  fields := #[{ name := "SIGNIFICANT_DIGITS", type := .int, accessFlags := 26, slot := 0, constantValue := 0 }, { name := "tyrMismatches", type := .int, accessFlags := 18, slot := 0, constantValue := 0 }, { name := "casbinMismatches", type := .int, accessFlags := 18, slot := 1, constantValue := 0 }, { name := "tyrNanos", type := .double, accessFlags := 18, slot := 2, constantValue := 0 }, { name := "casbinNanos", type := .double, accessFlags := 18, slot := 3, constantValue := 0 }, { name := "purchasingNanos", type := .double, accessFlags := 18, slot := 4, constantValue := 0 }]
  methods := #[k2m0, k2m1]
  instanceTypes := #[.int, .int, .double, .double, .double]
  staticTypes := #[.int]
  resolved := Array.replicate 133 none
  statics := none }

def pool3 : Array CpInfo := pool [(1, u "java/lang/Cloneable"), (0, .class_ 1), (0, u "java/lang/Object"), (0, .class_ 3)] 3

/-- java/lang/Cloneable -/
def k3 : Class := { plain "java/lang/Cloneable" (some 0) with
  accessFlags := 1537
  interfaces := #[]
  cf := some (fileOf pool3 2 #[] #[] 1537 4 #[] #[])
  fields := #[]
  methods := #[]
  instanceTypes := #[]
  staticTypes := #[]
  resolved := Array.replicate 8 none
  statics := none }

def pool4 : Array CpInfo := pool [(1, u "java/io/Serializable"), (0, .class_ 1), (0, u "java/lang/Object"), (0, .class_ 3)] 3

/-- java/io/Serializable -/
def k4 : Class := { plain "java/io/Serializable" (some 0) with
  accessFlags := 1537
  interfaces := #[]
  cf := some (fileOf pool4 2 #[] #[] 1537 4 #[] #[])
  fields := #[]
  methods := #[]
  instanceTypes := #[]
  staticTypes := #[]
  resolved := Array.replicate 8 none
  statics := none }

/-- the primitive byte -/
def k5 : Class := { plain "byte" none with kind := .primitive 'B', accessFlags := 0x411 }
/-- [B -/
def k6 : Class := { plain "[B" (some 0) with kind := .array 5 .byte, interfaces := #[3, 4], accessFlags := 1041 }

def heap : Heap := #[]
def classes : Array Class := #[k0, k1, k2, k3, k4, k5, k6]
def interned : List (Array UInt16 × Addr) := []
def slotsUsed : Nat := 0
def theMethod : MethodId := ⟨1, 1⟩
def args0 : Array Value := #[.int 5, .int 6, .int 7, .int 8]
def aboutOver (below : List Frame) : State where
  vm := { classes := classes, interned := interned.toArray }
  heap := heap
  slotsUsed := slotsUsed
  threads := #[{ frames := .invoking theMethod args0 :: below }]
def below0 : List Frame := [.native { method := ⟨0, 0⟩, args := #[] }]
def about1 : State := aboutOver below0
def p0 : Program := .bare "" "" ""
def e0 : Env := launch0.env 0 0 0
theorem w_frames : about1.frames = Frame.invoking theMethod args0 :: below0 := rfl
set_option maxRecDepth 65536 in
theorem w_args : argsFit about1.vm theMethod args0 = true := by decide +kernel
set_option maxRecDepth 65536 in
theorem w_heap : heapFits about1 = true := by decide +kernel
set_option maxRecDepth 65536 in
theorem w_runnable : about1.curStatus? = some .runnable := by decide +kernel
set_option maxRecDepth 65536 in
theorem w_alone : about1.alone = true := by decide +kernel
set_option maxRecDepth 65536 in
theorem w_named : about1.methodNamed? x = some theMethod := by decide +kernel
set_option maxRecDepth 65536 in
theorem w_hears : about1.hears theMethod below0 = true := by decide +kernel
set_option maxRecDepth 65536 in
theorem w_ripe : about1.ripe theMethod args0 below0 = true := by decide +kernel
theorem w_running : about1.status = .running := rfl
set_option maxRecDepth 65536 in
theorem w_room : about1.hasRoom e0.platform room_1 = true :=
  launch0.hasRoom_least _ room_1 (by decide +kernel) (by decide +kernel) (by decide +kernel) (by decide +kernel) (by decide +kernel) (by decide +kernel)
theorem allAtoms_all (ts : List Jvm.Cond) (a : Array Jvm.Value) (st : Jvm.State) : (allAtoms ts).before a st = ts.all (fun c => c.before a st) := by
  induction ts with
  | nil => rfl
  | cons c t ih =>
    show (Jvm.Cond.and c (allAtoms t)).before a st = _
    rw [Jvm.Cond.before_and, ih, List.all_cons]
def words1 : List Jvm.Cond := Jvm.Cond.code x code maxLocals ret :: tables_1
/-- a 'code' word, met by the world's own term for the bytes: nothing is compared byte by byte -/
theorem code_word {y : MethodName} {bytes : ByteArray} {mx : Nat} {rt : Option FieldType} {a : Array Value} {s : State} {m : MethodId} {meth : Method} {c : Code} (h1 : s.methodNamed? y = some m) (h2 : s.vm.method? m = some meth) (h3 : meth.code = some c) (h4 : c.code = bytes)
    (h5 : (c.maxLocals == mx && c.exceptionTable.isEmpty && decide (c.maxStack ≤ mostOperands) && decide (meth.sig.returnType = rt) && !meth.locks && decide (parseMethodDescriptor y.desc = some meth.sig)) = true) : (Jvm.Cond.code y bytes mx rt).before a s = true := by
  simp only [Bool.and_eq_true, beq_iff_eq, Bool.not_eq_true', decide_eq_true_eq] at h5
  obtain ⟨⟨⟨⟨⟨g1, g2⟩, g3⟩, g4⟩, g5⟩, g6⟩ := h5
  simp [Cond.before, Cond.holds, Cond.value, h1, h2, h3, h4, g1, g2, g3, g4, g5, g6]
def isCode : Jvm.Cond → Bool
  | .code _ _ _ _ => true
  | _ => false
theorem all_split {L : List Jvm.Cond} {P : Jvm.Cond → Bool} (h1 : L.all (fun c => isCode c || P c) = true) (h2 : ∀ c ∈ L.filter isCode, P c = true) : L.all P = true := by
  refine List.all_eq_true.mpr fun c hc => ?_
  have h := List.all_eq_true.mp h1 c hc
  rcases Bool.eq_false_or_eq_true (isCode c) with hi | hi
  · exact h2 c (List.mem_filter.mpr ⟨hc, hi⟩)
  · simpa [hi] using h
set_option maxRecDepth 65536 in
theorem w_c0 : (Jvm.Cond.code x code maxLocals ret).before args0 about1 = true := code_word (m := ⟨1, 1⟩) (meth := k1m1) (c := k1c1) (by decide +kernel) rfl rfl rfl (by decide +kernel)
set_option maxRecDepth 65536 in
theorem w_c1 : (Jvm.Cond.code ({ cls := "com/example/tyr/tyr/bench/Report", name := "<init>", desc := "(IIDDD)V" } : Jvm.MethodName) prog_16_method_1_code (9 : Nat) (Option.none : Option Jvm.ClassFile.FieldType)).before args0 about1 = true := code_word (m := ⟨2, 0⟩) (meth := k2m0) (c := k2c0) (by decide +kernel) rfl rfl rfl (by decide +kernel)
set_option maxRecDepth 65536 in
theorem w_c2 : (Jvm.Cond.code ({ cls := "java/lang/Object", name := "<init>", desc := "()V" } : Jvm.MethodName) object_method_1_code (1 : Nat) (Option.none : Option Jvm.ClassFile.FieldType)).before args0 about1 = true := code_word (m := ⟨0, 0⟩) (meth := k0m0) (c := k0c0) (by decide +kernel) rfl rfl rfl (by decide +kernel)
set_option maxRecDepth 65536 in
theorem w_c3 : (Jvm.Cond.code ({ cls := "com/example/tyr/tyr/bench/Report", name := "agrees", desc := "()Z" } : Jvm.MethodName) prog_16_method_2_code (1 : Nat) (Option.some Jvm.ClassFile.FieldType.boolean)).before args0 about1 = true := code_word (m := ⟨2, 1⟩) (meth := k2m1) (c := k2c1) (by decide +kernel) rfl rfl rfl (by decide +kernel)
def codes1 : List Jvm.Cond := [Jvm.Cond.code x code maxLocals ret, Jvm.Cond.code ({ cls := "com/example/tyr/tyr/bench/Report", name := "<init>", desc := "(IIDDD)V" } : Jvm.MethodName) prog_16_method_1_code (9 : Nat) (Option.none : Option Jvm.ClassFile.FieldType), Jvm.Cond.code ({ cls := "java/lang/Object", name := "<init>", desc := "()V" } : Jvm.MethodName) object_method_1_code (1 : Nat) (Option.none : Option Jvm.ClassFile.FieldType), Jvm.Cond.code ({ cls := "com/example/tyr/tyr/bench/Report", name := "agrees", desc := "()Z" } : Jvm.MethodName) prog_16_method_2_code (1 : Nat) (Option.some Jvm.ClassFile.FieldType.boolean)]
set_option maxRecDepth 65536 in
theorem codes_eq : words1.filter isCode = codes1 := rfl
theorem w_codes : ∀ c ∈ words1.filter isCode, c.before args0 about1 = true := by
  rw [codes_eq]
  intro c hc
  simp only [codes1, List.mem_cons, List.not_mem_nil, or_false] at hc
  rcases hc with rfl | rfl | rfl | rfl
  · exact w_c0
  · exact w_c1
  · exact w_c2
  · exact w_c3
set_option maxRecDepth 65536 in
theorem w_t1 : (words1.take 24).all (fun c => isCode c || c.before args0 about1) = true := by decide +kernel
set_option maxRecDepth 65536 in
theorem w_t2 : (words1.drop 24).all (fun c => isCode c || c.before args0 about1) = true := by decide +kernel
theorem w_tables : (allAtoms (Jvm.Cond.code x code maxLocals ret :: tables_1)).before args0 about1 = true := by
  rw [allAtoms_all]
  show words1.all (fun c => c.before args0 about1) = true
  refine all_split ?_ w_codes
  rw [← List.take_append_drop 24 words1, List.all_append, w_t1, w_t2]
  rfl
set_option maxRecDepth 65536 in
theorem w_case : (Jvm.Cond.and given_1 narrow_1).before args0 about1 = true := by decide +kernel
theorem w_applies : (headSpec (Jvm.Cond.code x code maxLocals ret :: tables_1) room_1).applies x e0.platform about1 = true :=
  (Spec.applies_iff w_frames).mpr ⟨w_running, w_runnable, w_alone, w_named, w_hears, w_ripe, w_room, w_tables⟩
theorem atStart : AtStart classFile x code maxLocals ret World_1 tables_1 room_1 Calls_1 rest_1 Pre_1 launch0 p0 e0 about1 theMethod args0 below0 :=
  ⟨lists_1, trivial, launch0.admits_env _ _ _, launch0.least_env, fairChoices_fair.cas, fairChoices_fair.clock, w_frames, w_args, w_heap, w_applies, trivial, trivial, w_case⟩
end start1
theorem witness_1 : WitnessClaimed_1 := ⟨start1.p0, start1.e0, start1.about1, start1.theMethod, start1.args0, start1.below0, start1.atStart⟩
end Jvm.Pilot.@@N@@
