import JvmDerived
import JvmDerived.Pilot.@@N@@Statement
import JvmDerived.Pilot.@@N@@Code
set_option linter.unusedVariables false
set_option linter.unusedSimpArgs false
namespace Jvm.Pilot.@@N@@
open Jvm Jvm.ClassFile Sem Op Lib Jvm.Free Jvm.Stand Jvm.LawKit Jvm.RoadKit Bundle Jvm.Pilot.@@N@@.Jvm.D
theorem own_retI {p : Program} {l : Launch} {e : Env} {R : Room} {s : State} {m : MethodId} {args : Array Value} {below : List Frame} {meth : Method} {c : Code} {T : State} {locs : List Loc} {cells slots : Nat} (X : Stand p l e R s m args below meth c T locs cells slots) (hx : p.tables.exec = Jvm.exec) {pc : Nat} {Ls : Array Slot} {z : Int32} {rest : List Value} (hret : meth.sig.returnType = some .int) (hd : decode c.code pc = .ok (.ireturn, 1)) {fs : List Frame}
    (hl : ∀ (f : JFrame) (acts : List Action), f.method = m → f.locked = none → f.entered = [] → (doReturn e (T.setTop f) acts (some (.int z))).1 = T.setFrames fs) : Steps p.tables e below (T.setTop (mkF m pc Ls (.int z :: rest))) (T.setFrames fs) :=
  retOut X hx hret rfl (Or.inl ⟨rfl, Or.inl rfl, z, rfl⟩) hd hl
theorem d1_0 : decode jdk_29_method_69_code 0 = .ok (.iload_n 0, 1) := by decide +kernel
theorem d1_1 : decode jdk_29_method_69_code 1 = .ok (.iload_n 1, 1) := by decide +kernel
theorem d1_2 : decode jdk_29_method_69_code 2 = .ok (.if_icmp .gt 7, 3) := by decide +kernel
theorem d1_5 : decode jdk_29_method_69_code 5 = .ok (.iload_n 0, 1) := by decide +kernel
theorem d1_6 : decode jdk_29_method_69_code 6 = .ok (.goto 4, 3) := by decide +kernel
theorem d1_9 : decode jdk_29_method_69_code 9 = .ok (.iload_n 1, 1) := by decide +kernel
theorem d1_10 : decode jdk_29_method_69_code 10 = .ok (.ireturn, 1) := by decide +kernel
theorem d2_0 : decode jdk_29_method_65_code 0 = .ok (.iload_n 0, 1) := by decide +kernel
theorem d2_1 : decode jdk_29_method_65_code 1 = .ok (.iload_n 1, 1) := by decide +kernel
theorem d2_2 : decode jdk_29_method_65_code 2 = .ok (.if_icmp .lt 7, 3) := by decide +kernel
theorem d2_5 : decode jdk_29_method_65_code 5 = .ok (.iload_n 0, 1) := by decide +kernel
theorem d2_6 : decode jdk_29_method_65_code 6 = .ok (.goto 4, 3) := by decide +kernel
theorem d2_9 : decode jdk_29_method_65_code 9 = .ok (.iload_n 1, 1) := by decide +kernel
theorem d2_10 : decode jdk_29_method_65_code 10 = .ok (.ireturn, 1) := by decide +kernel
theorem d3_0 : decode prog_42_method_8_code 0 = .ok (.aload_n 0, 1) := by decide +kernel
theorem d3_1 : decode prog_42_method_8_code 1 = .ok (.arraylength, 1) := by decide +kernel
theorem d3_2 : decode prog_42_method_8_code 2 = .ok (.iconst 2, 1) := by decide +kernel
theorem d3_3 : decode prog_42_method_8_code 3 = .ok (.idiv, 1) := by decide +kernel
theorem d3_4 : decode prog_42_method_8_code 4 = .ok (.istore_n 1, 1) := by decide +kernel
theorem d3_5 : decode prog_42_method_8_code 5 = .ok (.aload_n 0, 1) := by decide +kernel
theorem d3_6 : decode prog_42_method_8_code 6 = .ok (.arraylength, 1) := by decide +kernel
theorem d3_7 : decode prog_42_method_8_code 7 = .ok (.iconst 2, 1) := by decide +kernel
theorem d3_8 : decode prog_42_method_8_code 8 = .ok (.irem, 1) := by decide +kernel
theorem d3_9 : decode prog_42_method_8_code 9 = .ok (.iconst 1, 1) := by decide +kernel
theorem d3_10 : decode prog_42_method_8_code 10 = .ok (.if_icmp .ne 9, 3) := by decide +kernel
theorem d3_13 : decode prog_42_method_8_code 13 = .ok (.aload_n 0, 1) := by decide +kernel
theorem d3_14 : decode prog_42_method_8_code 14 = .ok (.iload_n 1, 1) := by decide +kernel
theorem d3_15 : decode prog_42_method_8_code 15 = .ok (.daload, 1) := by decide +kernel
theorem d3_16 : decode prog_42_method_8_code 16 = .ok (.goto 16, 3) := by decide +kernel
theorem d3_19 : decode prog_42_method_8_code 19 = .ok (.aload_n 0, 1) := by decide +kernel
theorem d3_20 : decode prog_42_method_8_code 20 = .ok (.iload_n 1, 1) := by decide +kernel
theorem d3_21 : decode prog_42_method_8_code 21 = .ok (.iconst 1, 1) := by decide +kernel
theorem d3_22 : decode prog_42_method_8_code 22 = .ok (.isub, 1) := by decide +kernel
theorem d3_23 : decode prog_42_method_8_code 23 = .ok (.daload, 1) := by decide +kernel
theorem d3_24 : decode prog_42_method_8_code 24 = .ok (.aload_n 0, 1) := by decide +kernel
theorem d3_25 : decode prog_42_method_8_code 25 = .ok (.iload_n 1, 1) := by decide +kernel
theorem d3_26 : decode prog_42_method_8_code 26 = .ok (.daload, 1) := by decide +kernel
theorem d3_27 : decode prog_42_method_8_code 27 = .ok (.dadd, 1) := by decide +kernel
theorem d3_28 : decode prog_42_method_8_code 28 = .ok (.ldc2_w 238, 3) := by decide +kernel
theorem d3_31 : decode prog_42_method_8_code 31 = .ok (.ddiv, 1) := by decide +kernel
theorem d3_32 : decode prog_42_method_8_code 32 = .ok (.dreturn, 1) := by decide +kernel
theorem own_pnC : plainName "com/example/archerfish/archerfish/benchmark/Comparison" = true := by first | (simp [plainName, overriddenIn]; done) | decide +kernel
theorem own_pnL : plainName "com/example/archerfish/archerfish/benchmark/ComparisonMedianPinLaw" = true := by first | (simp [plainName, overriddenIn]; done) | decide +kernel
theorem own_pfMin : plainFor (⟨"java/lang/Math", "min", "(II)I"⟩ : MethodName) = true := by decide +kernel
theorem own_pfMax : plainFor (⟨"java/lang/Math", "max", "(II)I"⟩ : MethodName) = true := by decide +kernel
theorem own_pdM : parseMethodDescriptor "(II)I" = some ⟨[.int, .int], some .int⟩ := by decide +kernel
theorem own_pdD : parseMethodDescriptor "([D)D" = some ⟨[.array .double], some .double⟩ := by decide +kernel
theorem own_ef0 (m : MethodId) (x0 x1 x2 x3 x4 : Int32) : entryFrame m #[(.int x0), (.int x1), (.int x2), (.int x3), (.int x4)] maxLocals = mkF m 0 #[.val (.int x0), .val (.int x1), .val (.int x2), .val (.int x3), .val (.int x4), .unset, .unset, .unset, .unset, .unset, .unset, .unset, .unset, .unset, .unset, .unset, .unset, .unset, .unset] [] := by first | (simp [entryFrame, mkF, argsToLocals, Value.category, maxLocals]; done) | rfl
theorem own_efM (m : MethodId) (x0 x1 : Int32) : entryFrame m #[(.int x0), (.int x1)] 2 = mkF m 0 #[.val (.int x0), .val (.int x1)] [] := by first | (simp [entryFrame, mkF, argsToLocals, Value.category]; done) | rfl
theorem own_efD (m : MethodId) (x0 : Addr) : entryFrame m #[(.ref x0)] 2 = mkF m 0 #[.val (.ref x0), .unset] [] := by first | (simp [entryFrame, mkF, argsToLocals, Value.category]; done) | rfl
section Halves
open Jvm.FP.Core
theorem own_two : val64 (4611686018427387904 : UInt64) = .fin false 4503599627370496 (-51) := by decide +kernel
theorem own_half_fits {s : Bool} {c : Nat} {q : Int} (hf : Jvm.FP.Core.fits b64 (.fin s c q)) (hq : b64.qmin < q) : Jvm.FP.Core.fits b64 (.fin s c (q - 1)) := by
  obtain ⟨h1, h2, h3, h4⟩ := hf
  refine ⟨h1, by omega, by omega, Or.inr ?_⟩
  rcases h4 with h4 | h4
  · omega
  · exact h4
theorem own_half_ratio {s : Bool} {c : Nat} {q : Int} (hf : Jvm.FP.Core.fits b64 (.fin s c q)) (hq : b64.qmin < q) : roundRatio b64 s c 4503599627370496 (q - (-51)) = .fin s c (q - 1) := by
  refine roundRatio_exact good_b64 (by decide) (own_half_fits hf hq) ?_
  rw [show (q - (-51) - (q - 1)).toNat = 52 by omega, show (q - 1 - (q - (-51))).toNat = 0 by omega]
  rw [Nat.pow_zero, Nat.mul_one]
theorem own_dbl_ratio {s : Bool} {c : Nat} {q : Int} (hf : Jvm.FP.Core.fits b64 (.fin s c q)) : roundRatio b64 s (4503599627370496 * c) 1 (-51 + (q - 1)) = .fin s c q := by
  refine roundRatio_exact good_b64 (by decide) hf ?_
  rw [show (-51 + (q - 1) - q).toNat = 0 by omega, show (q - (-51 + (q - 1))).toNat = 52 by omega]
  rw [Nat.pow_zero, Nat.mul_one, Nat.mul_one, Nat.mul_comm]
theorem own_zero_ratio (s : Bool) (B : Nat) (e : Int) : roundRatio b64 s 0 B e = .fin s 0 b64.qmin := rfl
theorem own_exp_big {i : Int} {s : Bool} {c : Nat} {q : Int} (hf : Jvm.FP.Core.fits b64 (.fin s c q)) (hW : Whole i (.fin s c q)) (hi : i ≠ 0) : b64.qmin < q := by
  obtain ⟨h1, h2, -, -⟩ := hf
  have hm : b64.qmin = -1074 := by decide
  have hp : (2 : Nat) ^ b64.p = 9007199254740992 := by decide
  rw [hm] at h2 ⊢
  rw [hp] at h1
  refine Int.lt_of_not_ge fun hge => ?_
  have e := whole_natAbs hW
  have hq : q.toNat = 0 := by omega
  have hq2 : (-q).toNat = 53 + ((-q).toNat - 53) := by omega
  rw [hq, Nat.pow_zero, Nat.mul_one, hq2, Nat.pow_add] at e
  have p1 : 1 ≤ i.natAbs := by omega
  have p2 := Nat.two_pow_pos ((-q).toNat - 53)
  have p3 : 2 ^ 53 * 1 ≤ 2 ^ 53 * 2 ^ ((-q).toNat - 53) := Nat.mul_le_mul_left _ p2
  have p4 : 1 * (2 ^ 53 * 2 ^ ((-q).toNat - 53)) ≤ i.natAbs * (2 ^ 53 * 2 ^ ((-q).toNat - 53)) := Nat.mul_le_mul_right _ p1
  rw [← e] at p4
  have p5 : (2 : Nat) ^ 53 = 9007199254740992 := by decide
  rw [p5] at p3 p4
  omega
theorem own_halfdbl {S : Int64} (h : Small53 S) : dmul (4611686018427387904 : UInt64) (ddiv (l2d S) (4611686018427387904 : UInt64)) = l2d S := by
  have hW := l2d_whole h
  have hF := val64_fits (l2d S)
  have hne := (l2d_fin S).ne_nan
  obtain ⟨c, q, ea⟩ := l2d_shape S
  refine (val64_inj hne ?_).symm
  rw [val64_dmul, val64_ddiv, own_two, ea]
  rw [ea] at hW hF
  generalize decide (S.toInt < 0) = s at hW hF ⊢
  by_cases hz : S.toInt = 0
  · have hc : c = 0 := (whole_zero hW).mpr hz
    subst hc
    have hq : q = b64.qmin := fits_zero_q good_b64 hF
    subst hq
    cases s <;> decide +kernel
  · have hq := own_exp_big hF hW hz
    show Datum.fin s c q = round b64 (exactProduct (.fin false 4503599627370496 (-51)) (quotient b64 (.fin s c q) (.fin false 4503599627370496 (-51))))
    have e1 : quotient b64 (.fin s c q) (.fin false 4503599627370496 (-51)) = .fin s c (q - 1) := by
      show (if (4503599627370496 : Nat) = 0 then (if c = 0 then Datum.nan else Datum.inf (s != false)) else roundRatio b64 (s != false) c 4503599627370496 (q - (-51))) = _
      rw [if_neg (by decide), show (s != false) = s by cases s <;> rfl, own_half_ratio hF hq]
    rw [e1]
    show Datum.fin s c q = roundRatio b64 (false != s) (4503599627370496 * c) 1 (-51 + (q - 1))
    rw [show (false != s) = s by cases s <;> rfl, own_dbl_ratio hF]
end Halves
section Means
open Jvm.FP Jvm.Free.Fl
theorem own_b53 (a : Int32) : B53 a.toInt64 := by
  have h1 := Int32.toInt_lt a
  have h2 := Int32.le_toInt a
  have e : a.toInt64.toInt = a.toInt := Int32.toInt_toInt64 a
  exact ⟨by omega, by omega⟩
theorem own_b53s (a b : Int32) : B53 (a.toInt64 + b.toInt64) := by
  have h1 := Int32.toInt_lt a
  have h2 := Int32.le_toInt a
  have h3 := Int32.toInt_lt b
  have h4 := Int32.le_toInt b
  have e := add64 (own_b53 a) (own_b53 b)
  rw [Int32.toInt_toInt64, Int32.toInt_toInt64] at e
  exact ⟨by omega, by omega⟩
theorem own_sum (a b : Int32) : FP.dadd (FP.i2d a) (FP.i2d b) = FP.l2d (a.toInt64 + b.toInt64) := by
  rw [i2d_w a, i2d_w b]; exact dadd_w (own_b53 a) (own_b53 b)
theorem own_nn1 (a b : Int32) : NoNaN64 (FP.dadd (FP.i2d a) (FP.i2d b)) := nn_w (own_sum a b)
theorem own_nn2 (a b : Int32) : NoNaN64 (FP.ddiv (FP.dadd (FP.i2d a) (FP.i2d b)) (4611686018427387904 : UInt64)) := ddiv_out (own_nn1 a b) (show (4611686018427387904 : UInt64) &&& 0x7fffffffffffffff < 0x7ff0000000000000 by decide) (show (4611686018427387904 : UInt64) &&& 0x7fffffffffffffff ≠ 0 by decide)
theorem own_mean (a b : Int32) : FP.dmul (4611686018427387904 : UInt64) (FP.ddiv (FP.dadd (FP.i2d a) (FP.i2d b)) (4611686018427387904 : UInt64)) = FP.l2d (a.toInt64 + b.toInt64) := by
  rw [own_sum a b]; exact own_halfdbl (own_b53s a b)
theorem own_nn3 (a b : Int32) : NoNaN64 (FP.dmul (4611686018427387904 : UInt64) (FP.ddiv (FP.dadd (FP.i2d a) (FP.i2d b)) (4611686018427387904 : UInt64))) := nn_w (own_mean a b)
theorem own_self (a : Int32) : cmpValue (FP.dcmp (FP.i2d a) (FP.i2d a)) .l = 0 := dcmpV_self (i2d_fin a).noNaN .l
theorem own_eqm (a b : Int32) : cmpValue (FP.dcmp (FP.dmul (4611686018427387904 : UInt64) (FP.ddiv (FP.dadd (FP.i2d a) (FP.i2d b)) (4611686018427387904 : UInt64))) (FP.l2d (a.toInt64 + b.toInt64))) .l = 0 := dcmpV_eq (own_mean a b) (own_nn3 a b) .l
end Means
theorem own_and3 (x : Int32) : x &&& 3 = 0 ∨ x &&& 3 = 1 ∨ x &&& 3 = 2 ∨ x &&& 3 = 3 := by
  have h : (x &&& 3).toBitVec.toNat = x.toBitVec.toNat % 4 := by
    rw [Int32.toBitVec_and]
    show (x.toBitVec &&& 3#32).toNat = _
    rw [BitVec.toNat_and]
    exact Nat.and_two_pow_sub_one_eq_mod _ 2
  have hlt : x.toBitVec.toNat % 4 < 4 := Nat.mod_lt _ (by decide)
  rcases (show x.toBitVec.toNat % 4 = 0 ∨ x.toBitVec.toNat % 4 = 1 ∨ x.toBitVec.toNat % 4 = 2 ∨ x.toBitVec.toNat % 4 = 3 by omega) with q | q | q | q
  · exact Or.inl (Int32.toBitVec_inj.mp (BitVec.eq_of_toNat_eq (by rw [h, q]; rfl)))
  · exact Or.inr (Or.inl (Int32.toBitVec_inj.mp (BitVec.eq_of_toNat_eq (by rw [h, q]; rfl))))
  · exact Or.inr (Or.inr (Or.inl (Int32.toBitVec_inj.mp (BitVec.eq_of_toNat_eq (by rw [h, q]; rfl)))))
  · exact Or.inr (Or.inr (Or.inr (Int32.toBitVec_inj.mp (BitVec.eq_of_toNat_eq (by rw [h, q]; rfl)))))
theorem own_n4 (x : Int32) : (1 : Int32) + (x &&& 3) = 1 ∨ (1 : Int32) + (x &&& 3) = 2 ∨ (1 : Int32) + (x &&& 3) = 3 ∨ (1 : Int32) + (x &&& 3) = 4 := by
  rcases own_and3 x with q | q | q | q <;> rw [q] <;> decide
def own_min (x y : Int32) : Int32 := if y < x then y else x
def own_max (x y : Int32) : Int32 := if x < y then y else x
def own_QM (z : Int32) (h0 : Heap) (n0 : Nat) (v : Option Value) (h : Heap) (L : List Loc) : Prop := (v = some (.int z) ∧ Fr n0 L ∧ (h = h0))
set_option maxRecDepth 65536 in
set_option maxHeartbeats 40000000 in
theorem own_rmMin (l : Launch) (Z : State) (ws : List Jvm.Cond) (x y z : Int32) (hz : own_min x y = z) (h0 : Heap) (n0 : Nat) :
    MetFree l (⟨"java/lang/Math", "min", "(II)I"⟩ : MethodName) (head1 (Jvm.Cond.code (⟨"java/lang/Math", "min", "(II)I"⟩ : MethodName) jdk_29_method_69_code 2 (some .int) :: ws) ({ frames := 0, cells := 0, slots := 0, locals := 0 } : Room)) (fun a U => a = #[(.int x), (.int y)] ∧ Z.Warmed39 U.vm ∧ U.heap = h0) (fun _ _ _ _ _ => True) (fun _ U o U' => ∃ v L, o = .returned v ∧ own_QM z h0 n0 v U'.heap L ∧ FrameEnd U o U' L ({ frames := 0, cells := 0, slots := 0, locals := 0 } : Room).cells ({ frames := 0, cells := 0, slots := 0, locals := 0 } : Room).slots) := by
  refine MetFree.of_bodySF own_pfMin hisR ?_
  intro p e s m args below meth c s₁ Bd hml0 hP hK
  obtain ⟨rfl, hZ, hh⟩ := hP
  have hx := Bd.exec
  have hby := Bd.bytes
  have hml : c.maxLocals = 2 := hml0
  have hown : s.vm.findClass "java/lang/Math" = some m.cls := findClass_of_methodNamed Bd.named
  have X0 : Stand p l e ({ frames := 0, cells := 0, slots := 0, locals := 0 } : Room) s m #[(.int x), (.int y)] below meth c s₁ [] 0 0 := Stand.of_body Bd
  have e0 : s₁.heap = h0 := by rw [← hh, Bd.state]; rfl
  have N0 := Fr.nil n0
  have pre0 : ∀ t, Steps p.tables e below (s₁.setTop (mkF m 0 #[.val (.int x), .val (.int y)] [])) t → Steps p.tables e below (s₁.setTop (entryFrame m #[(.int x), (.int y)] 2)) t := fun t k => castTop (own_efM m x y) k
  obtain ⟨fs, hr, hrun, hended, hW, hsame⟩ := X0.leave (v := some (.int z)) (fun h => by rw [Bd.returns] at h; cases h)
  refine ⟨_, _, pre0 _ ?_, hrun, hended, _, _, rfl, ?_, ⟨_, rfl⟩, hW, hsame.mono (by decide) (by decide)⟩
  · show Steps p.tables e below (s₁.setTop (mkF m 0 #[.val (.int x), .val (.int y)] [])) _
    refine XS.iloadN X0.here hx rfl (hb hby d1_0) rfl ?_
    show Steps p.tables e below (s₁.setTop (mkF m 1 #[.val (.int x), .val (.int y)] [(.int x)])) _
    refine XS.iloadN X0.here hx rfl (hb hby d1_1) rfl ?_
    show Steps p.tables e below (s₁.setTop (mkF m 2 #[.val (.int x), .val (.int y)] [(.int y), (.int x)])) _
    by_cases c1 : y < x
    · refine XS.icmpYes X0.here hx rfl (pc0 := 2) (pc' := 9) rfl (hb hby d1_2) rfl (tlt c1).2.2.1 (by decide) (by decide) ?_
      show Steps p.tables e below (s₁.setTop (mkF m 9 #[.val (.int x), .val (.int y)] [])) _
      refine XS.iloadN X0.here hx rfl (hb hby d1_9) rfl ?_
      show Steps p.tables e below (s₁.setTop (mkF m 10 #[.val (.int x), .val (.int y)] [(.int y)])) _
      have q : z = y := by rw [← hz, own_min, if_pos c1]
      subst q
      exact own_retI X0 hx Bd.returns (hb hby d1_10) hr
    · refine XS.icmpNo X0.here hx rfl (hb hby d1_2) rfl (flt c1).2.2.1 ?_
      show Steps p.tables e below (s₁.setTop (mkF m 5 #[.val (.int x), .val (.int y)] [])) _
      refine XS.iloadN X0.here hx rfl (hb hby d1_5) rfl ?_
      show Steps p.tables e below (s₁.setTop (mkF m 6 #[.val (.int x), .val (.int y)] [(.int x)])) _
      refine XS.goto X0.here hx rfl (pc0 := 6) (pc' := 10) rfl (hb hby d1_6) (by decide) (by decide) ?_
      show Steps p.tables e below (s₁.setTop (mkF m 10 #[.val (.int x), .val (.int y)] [(.int x)])) _
      have q : z = x := by rw [← hz, own_min, if_neg c1]
      subst q
      exact own_retI X0 hx Bd.returns (hb hby d1_10) hr
  · show own_QM z h0 n0 _ s₁.heap _
    rw [e0]
    exact ⟨rfl, N0, rfl⟩
set_option maxRecDepth 65536 in
set_option maxHeartbeats 40000000 in
theorem own_rmMax (l : Launch) (Z : State) (ws : List Jvm.Cond) (x y z : Int32) (hz : own_max x y = z) (h0 : Heap) (n0 : Nat) :
    MetFree l (⟨"java/lang/Math", "max", "(II)I"⟩ : MethodName) (head1 (Jvm.Cond.code (⟨"java/lang/Math", "max", "(II)I"⟩ : MethodName) jdk_29_method_65_code 2 (some .int) :: ws) ({ frames := 0, cells := 0, slots := 0, locals := 0 } : Room)) (fun a U => a = #[(.int x), (.int y)] ∧ Z.Warmed39 U.vm ∧ U.heap = h0) (fun _ _ _ _ _ => True) (fun _ U o U' => ∃ v L, o = .returned v ∧ own_QM z h0 n0 v U'.heap L ∧ FrameEnd U o U' L ({ frames := 0, cells := 0, slots := 0, locals := 0 } : Room).cells ({ frames := 0, cells := 0, slots := 0, locals := 0 } : Room).slots) := by
  refine MetFree.of_bodySF own_pfMax hisR ?_
  intro p e s m args below meth c s₁ Bd hml0 hP hK
  obtain ⟨rfl, hZ, hh⟩ := hP
  have hx := Bd.exec
  have hby := Bd.bytes
  have hml : c.maxLocals = 2 := hml0
  have hown : s.vm.findClass "java/lang/Math" = some m.cls := findClass_of_methodNamed Bd.named
  have X0 : Stand p l e ({ frames := 0, cells := 0, slots := 0, locals := 0 } : Room) s m #[(.int x), (.int y)] below meth c s₁ [] 0 0 := Stand.of_body Bd
  have e0 : s₁.heap = h0 := by rw [← hh, Bd.state]; rfl
  have N0 := Fr.nil n0
  have pre0 : ∀ t, Steps p.tables e below (s₁.setTop (mkF m 0 #[.val (.int x), .val (.int y)] [])) t → Steps p.tables e below (s₁.setTop (entryFrame m #[(.int x), (.int y)] 2)) t := fun t k => castTop (own_efM m x y) k
  obtain ⟨fs, hr, hrun, hended, hW, hsame⟩ := X0.leave (v := some (.int z)) (fun h => by rw [Bd.returns] at h; cases h)
  refine ⟨_, _, pre0 _ ?_, hrun, hended, _, _, rfl, ?_, ⟨_, rfl⟩, hW, hsame.mono (by decide) (by decide)⟩
  · show Steps p.tables e below (s₁.setTop (mkF m 0 #[.val (.int x), .val (.int y)] [])) _
    refine XS.iloadN X0.here hx rfl (hb hby d2_0) rfl ?_
    show Steps p.tables e below (s₁.setTop (mkF m 1 #[.val (.int x), .val (.int y)] [(.int x)])) _
    refine XS.iloadN X0.here hx rfl (hb hby d2_1) rfl ?_
    show Steps p.tables e below (s₁.setTop (mkF m 2 #[.val (.int x), .val (.int y)] [(.int y), (.int x)])) _
    by_cases c1 : x < y
    · refine XS.icmpYes X0.here hx rfl (pc0 := 2) (pc' := 9) rfl (hb hby d2_2) rfl (tlt c1).1 (by decide) (by decide) ?_
      show Steps p.tables e below (s₁.setTop (mkF m 9 #[.val (.int x), .val (.int y)] [])) _
      refine XS.iloadN X0.here hx rfl (hb hby d2_9) rfl ?_
      show Steps p.tables e below (s₁.setTop (mkF m 10 #[.val (.int x), .val (.int y)] [(.int y)])) _
      have q : z = y := by rw [← hz, own_max, if_pos c1]
      subst q
      exact own_retI X0 hx Bd.returns (hb hby d2_10) hr
    · refine XS.icmpNo X0.here hx rfl (hb hby d2_2) rfl (flt c1).1 ?_
      show Steps p.tables e below (s₁.setTop (mkF m 5 #[.val (.int x), .val (.int y)] [])) _
      refine XS.iloadN X0.here hx rfl (hb hby d2_5) rfl ?_
      show Steps p.tables e below (s₁.setTop (mkF m 6 #[.val (.int x), .val (.int y)] [(.int x)])) _
      refine XS.goto X0.here hx rfl (pc0 := 6) (pc' := 10) rfl (hb hby d2_6) (by decide) (by decide) ?_
      show Steps p.tables e below (s₁.setTop (mkF m 10 #[.val (.int x), .val (.int y)] [(.int x)])) _
      have q : z = x := by rw [← hz, own_max, if_neg c1]
      subst q
      exact own_retI X0 hx Bd.returns (hb hby d2_10) hr
  · show own_QM z h0 n0 _ s₁.heap _
    rw [e0]
    exact ⟨rfl, N0, rfl⟩
def own_QD (u : UInt64) (h0 : Heap) (n0 : Nat) (v : Option Value) (h : Heap) (L : List Loc) : Prop := (v = some (.double u) ∧ Fr n0 L ∧ (h = h0))
set_option maxRecDepth 65536 in
set_option maxHeartbeats 40000000 in
theorem own_rmOdd (l : Launch) (Z : State) (a0 : Array Value) (hw : ∀ d ∈ tables_1, d.before a0 Z = true) (ws : List Jvm.Cond) (a5 : Addr) (cl : Cell) (n k : Int32) (u : UInt64) (h0 : Heap) (n0 : Nat) (A : Arr Z h0 a5 cl .double) (hn : cl.slots.size.toInt32 = n) (hk : n / (2 : Int32) = k) (hodd : n % (2 : Int32) = (1 : Int32)) (hin : ¬ (k < 0 ∨ cl.slots.size ≤ k.toNatClampNeg)) (hat : cl.slots[k.toNatClampNeg]? = some (.double u)) :
    MetFree l (⟨"com/example/archerfish/archerfish/benchmark/Comparison", "median", "([D)D"⟩ : MethodName) (head1 (Jvm.Cond.code (⟨"com/example/archerfish/archerfish/benchmark/Comparison", "median", "([D)D"⟩ : MethodName) prog_42_method_8_code 2 (some .double) :: ws) ({ frames := 0, cells := 0, slots := 0, locals := 0 } : Room)) (fun a U => a = #[(.ref a5)] ∧ Z.Warmed39 U.vm ∧ U.heap = h0) (fun _ _ _ _ _ => True) (fun _ U o U' => ∃ v L, o = .returned v ∧ own_QD u h0 n0 v U'.heap L ∧ FrameEnd U o U' L ({ frames := 0, cells := 0, slots := 0, locals := 0 } : Room).cells ({ frames := 0, cells := 0, slots := 0, locals := 0 } : Room).slots) := by
  refine MetFree.of_bodySF (plainFor_of_name own_pnC) hisR ?_
  intro p e s m args below meth c s₁ Bd hml0 hP hK
  obtain ⟨rfl, hZ, hh⟩ := hP
  have hx := Bd.exec
  have hby := Bd.bytes
  have hml : c.maxLocals = 2 := hml0
  have hown : s.vm.findClass "com/example/archerfish/archerfish/benchmark/Comparison" = some m.cls := findClass_of_methodNamed Bd.named
  have X0 : Stand p l e ({ frames := 0, cells := 0, slots := 0, locals := 0 } : Room) s m #[(.ref a5)] below meth c s₁ [] 0 0 := Stand.of_body Bd
  have e0 : s₁.heap = h0 := by rw [← hh, Bd.state]; rfl
  have N0 := Fr.nil n0
  have pre0 : ∀ t, Steps p.tables e below (s₁.setTop (mkF m 0 #[.val (.ref a5), .unset] [])) t → Steps p.tables e below (s₁.setTop (entryFrame m #[(.ref a5)] 2)) t := fun t k => castTop (own_efD m a5) k
  have hA : s₁.heap[a5]? = some cl := by rw [e0]; exact A.1
  have hAr := State.isArrayOf_alike hZ.alike A.2.1
  obtain ⟨fs, hr, hrun, hended, hW, hsame⟩ := X0.leave (v := some (.double u)) (fun h => by rw [Bd.returns] at h; cases h)
  refine ⟨_, _, pre0 _ ?_, hrun, hended, _, _, rfl, ?_, ⟨_, rfl⟩, hW, hsame.mono (by decide) (by decide)⟩
  · show Steps p.tables e below (s₁.setTop (mkF m 0 #[.val (.ref a5), .unset] [])) _
    refine XS.aloadN X0.here hx rfl (hb hby d3_0) rfl rfl ?_
    show Steps p.tables e below (s₁.setTop (mkF m 1 #[.val (.ref a5), .unset] [(.ref a5)])) _
    refine X0.arraylength hx (cell := cl) hA hAr (g := (mkF m 1 #[.val (.ref a5), .unset] [(.ref a5)])) rfl (rest := []) rfl (hb hby d3_1) _ ?_
    show Steps p.tables e below (s₁.setTop (mkF m 2 #[.val (.ref a5), .unset] [(.int cl.slots.size.toInt32)])) _
    rw [hn]
    show Steps p.tables e below (s₁.setTop (mkF m 2 #[.val (.ref a5), .unset] [(.int n)])) _
    refine XS.iconst X0.here hx rfl (hb hby d3_2) ?_
    show Steps p.tables e below (s₁.setTop (mkF m 3 #[.val (.ref a5), .unset] [(.int (2 : Int32)), (.int n)])) _
    refine XS.idiv X0.here hx rfl (hb hby d3_3) rfl (by decide) ?_
    show Steps p.tables e below (s₁.setTop (mkF m 4 #[.val (.ref a5), .unset] [(.int (n / (2 : Int32)))])) _
    rw [hk]
    show Steps p.tables e below (s₁.setTop (mkF m 4 #[.val (.ref a5), .unset] [(.int k)])) _
    refine XS.istoreN X0.here hx rfl (hb hby d3_4) rfl (l' := #[.val (.ref a5), .val (.int k)]) rfl ?_
    show Steps p.tables e below (s₁.setTop (mkF m 5 #[.val (.ref a5), .val (.int k)] [])) _
    refine XS.aloadN X0.here hx rfl (hb hby d3_5) rfl rfl ?_
    show Steps p.tables e below (s₁.setTop (mkF m 6 #[.val (.ref a5), .val (.int k)] [(.ref a5)])) _
    refine X0.arraylength hx (cell := cl) hA hAr (g := (mkF m 6 #[.val (.ref a5), .val (.int k)] [(.ref a5)])) rfl (rest := []) rfl (hb hby d3_6) _ ?_
    show Steps p.tables e below (s₁.setTop (mkF m 7 #[.val (.ref a5), .val (.int k)] [(.int cl.slots.size.toInt32)])) _
    rw [hn]
    show Steps p.tables e below (s₁.setTop (mkF m 7 #[.val (.ref a5), .val (.int k)] [(.int n)])) _
    refine XS.iconst X0.here hx rfl (hb hby d3_7) ?_
    show Steps p.tables e below (s₁.setTop (mkF m 8 #[.val (.ref a5), .val (.int k)] [(.int (2 : Int32)), (.int n)])) _
    refine iremM X0 hx rfl (hb hby d3_8) rfl (by decide) ?_
    show Steps p.tables e below (s₁.setTop (mkF m 9 #[.val (.ref a5), .val (.int k)] [(.int (n % (2 : Int32)))])) _
    refine XS.iconst X0.here hx rfl (hb hby d3_9) ?_
    show Steps p.tables e below (s₁.setTop (mkF m 10 #[.val (.ref a5), .val (.int k)] [(.int (1 : Int32)), (.int (n % (2 : Int32)))])) _
    refine XS.icmpNo X0.here hx rfl (hb hby d3_10) rfl (teq hodd).2 ?_
    show Steps p.tables e below (s₁.setTop (mkF m 13 #[.val (.ref a5), .val (.int k)] [])) _
    refine XS.aloadN X0.here hx rfl (hb hby d3_13) rfl rfl ?_
    show Steps p.tables e below (s₁.setTop (mkF m 14 #[.val (.ref a5), .val (.int k)] [(.ref a5)])) _
    refine XS.iloadN X0.here hx rfl (hb hby d3_14) rfl ?_
    show Steps p.tables e below (s₁.setTop (mkF m 15 #[.val (.ref a5), .val (.int k)] [(.int k), (.ref a5)])) _
    refine X0.daload hx (j := k) (v := (.double u)) hA hAr A.2.2 hin hat (g := (mkF m 15 #[.val (.ref a5), .val (.int k)] [(.int k), (.ref a5)])) rfl rfl (hb hby d3_15) _ ?_
    show Steps p.tables e below (s₁.setTop (mkF m 16 #[.val (.ref a5), .val (.int k)] [(.double u)])) _
    refine XS.goto X0.here hx rfl (pc0 := 16) (pc' := 32) rfl (hb hby d3_16) (by decide) (by decide) ?_
    show Steps p.tables e below (s₁.setTop (mkF m 32 #[.val (.ref a5), .val (.int k)] [(.double u)])) _
    exact retOut X0 hx Bd.returns rfl (Or.inr (Or.inr (Or.inl ⟨rfl, rfl, _, rfl⟩))) (hb hby d3_32) hr
  · show own_QD u h0 n0 _ s₁.heap _
    rw [e0]
    exact ⟨rfl, N0, rfl⟩
set_option maxRecDepth 65536 in
set_option maxHeartbeats 40000000 in
theorem own_rmEven (l : Launch) (Z : State) (a0 : Array Value) (hw : ∀ d ∈ tables_1, d.before a0 Z = true) (ws : List Jvm.Cond) (a5 : Addr) (cl : Cell) (n k j : Int32) (u w : UInt64) (h0 : Heap) (n0 : Nat) (A : Arr Z h0 a5 cl .double) (hn : cl.slots.size.toInt32 = n) (hk : n / (2 : Int32) = k) (heven : ¬ n % (2 : Int32) = (1 : Int32)) (hj : k - (1 : Int32) = j) (hin : ¬ (k < 0 ∨ cl.slots.size ≤ k.toNatClampNeg)) (hat : cl.slots[k.toNatClampNeg]? = some (.double w)) (hinj : ¬ (j < 0 ∨ cl.slots.size ≤ j.toNatClampNeg)) (hatj : cl.slots[j.toNatClampNeg]? = some (.double u)) (nn1 : Jvm.Free.Fl.NoNaN64 (FP.dadd u w)) (nn2 : Jvm.Free.Fl.NoNaN64 (FP.ddiv (FP.dadd u w) (4611686018427387904 : UInt64))) :
    MetFree l (⟨"com/example/archerfish/archerfish/benchmark/Comparison", "median", "([D)D"⟩ : MethodName) (head1 (Jvm.Cond.code (⟨"com/example/archerfish/archerfish/benchmark/Comparison", "median", "([D)D"⟩ : MethodName) prog_42_method_8_code 2 (some .double) :: ws) ({ frames := 0, cells := 0, slots := 0, locals := 0 } : Room)) (fun a U => a = #[(.ref a5)] ∧ Z.Warmed39 U.vm ∧ U.heap = h0) (fun _ _ _ _ _ => True) (fun _ U o U' => ∃ v L, o = .returned v ∧ own_QD (FP.ddiv (FP.dadd u w) (4611686018427387904 : UInt64)) h0 n0 v U'.heap L ∧ FrameEnd U o U' L ({ frames := 0, cells := 0, slots := 0, locals := 0 } : Room).cells ({ frames := 0, cells := 0, slots := 0, locals := 0 } : Room).slots) := by
  refine MetFree.of_bodySF (plainFor_of_name own_pnC) hisR ?_
  intro p e s m args below meth c s₁ Bd hml0 hP hK
  obtain ⟨rfl, hZ, hh⟩ := hP
  have hx := Bd.exec
  have hby := Bd.bytes
  have hml : c.maxLocals = 2 := hml0
  have hown : s.vm.findClass "com/example/archerfish/archerfish/benchmark/Comparison" = some m.cls := findClass_of_methodNamed Bd.named
  have X0 : Stand p l e ({ frames := 0, cells := 0, slots := 0, locals := 0 } : Room) s m #[(.ref a5)] below meth c s₁ [] 0 0 := Stand.of_body Bd
  have e0 : s₁.heap = h0 := by rw [← hh, Bd.state]; rfl
  have N0 := Fr.nil n0
  have pre0 : ∀ t, Steps p.tables e below (s₁.setTop (mkF m 0 #[.val (.ref a5), .unset] [])) t → Steps p.tables e below (s₁.setTop (entryFrame m #[(.ref a5)] 2)) t := fun t k => castTop (own_efD m a5) k
  have hA : s₁.heap[a5]? = some cl := by rw [e0]; exact A.1
  have hAr := State.isArrayOf_alike hZ.alike A.2.1
  obtain ⟨fs, hr, hrun, hended, hW, hsame⟩ := X0.leave (v := some (.double (FP.ddiv (FP.dadd u w) (4611686018427387904 : UInt64)))) (fun h => by rw [Bd.returns] at h; cases h)
  refine ⟨_, _, pre0 _ ?_, hrun, hended, _, _, rfl, ?_, ⟨_, rfl⟩, hW, hsame.mono (by decide) (by decide)⟩
  · show Steps p.tables e below (s₁.setTop (mkF m 0 #[.val (.ref a5), .unset] [])) _
    refine XS.aloadN X0.here hx rfl (hb hby d3_0) rfl rfl ?_
    show Steps p.tables e below (s₁.setTop (mkF m 1 #[.val (.ref a5), .unset] [(.ref a5)])) _
    refine X0.arraylength hx (cell := cl) hA hAr (g := (mkF m 1 #[.val (.ref a5), .unset] [(.ref a5)])) rfl (rest := []) rfl (hb hby d3_1) _ ?_
    show Steps p.tables e below (s₁.setTop (mkF m 2 #[.val (.ref a5), .unset] [(.int cl.slots.size.toInt32)])) _
    rw [hn]
    show Steps p.tables e below (s₁.setTop (mkF m 2 #[.val (.ref a5), .unset] [(.int n)])) _
    refine XS.iconst X0.here hx rfl (hb hby d3_2) ?_
    show Steps p.tables e below (s₁.setTop (mkF m 3 #[.val (.ref a5), .unset] [(.int (2 : Int32)), (.int n)])) _
    refine XS.idiv X0.here hx rfl (hb hby d3_3) rfl (by decide) ?_
    show Steps p.tables e below (s₁.setTop (mkF m 4 #[.val (.ref a5), .unset] [(.int (n / (2 : Int32)))])) _
    rw [hk]
    show Steps p.tables e below (s₁.setTop (mkF m 4 #[.val (.ref a5), .unset] [(.int k)])) _
    refine XS.istoreN X0.here hx rfl (hb hby d3_4) rfl (l' := #[.val (.ref a5), .val (.int k)]) rfl ?_
    show Steps p.tables e below (s₁.setTop (mkF m 5 #[.val (.ref a5), .val (.int k)] [])) _
    refine XS.aloadN X0.here hx rfl (hb hby d3_5) rfl rfl ?_
    show Steps p.tables e below (s₁.setTop (mkF m 6 #[.val (.ref a5), .val (.int k)] [(.ref a5)])) _
    refine X0.arraylength hx (cell := cl) hA hAr (g := (mkF m 6 #[.val (.ref a5), .val (.int k)] [(.ref a5)])) rfl (rest := []) rfl (hb hby d3_6) _ ?_
    show Steps p.tables e below (s₁.setTop (mkF m 7 #[.val (.ref a5), .val (.int k)] [(.int cl.slots.size.toInt32)])) _
    rw [hn]
    show Steps p.tables e below (s₁.setTop (mkF m 7 #[.val (.ref a5), .val (.int k)] [(.int n)])) _
    refine XS.iconst X0.here hx rfl (hb hby d3_7) ?_
    show Steps p.tables e below (s₁.setTop (mkF m 8 #[.val (.ref a5), .val (.int k)] [(.int (2 : Int32)), (.int n)])) _
    refine iremM X0 hx rfl (hb hby d3_8) rfl (by decide) ?_
    show Steps p.tables e below (s₁.setTop (mkF m 9 #[.val (.ref a5), .val (.int k)] [(.int (n % (2 : Int32)))])) _
    refine XS.iconst X0.here hx rfl (hb hby d3_9) ?_
    show Steps p.tables e below (s₁.setTop (mkF m 10 #[.val (.ref a5), .val (.int k)] [(.int (1 : Int32)), (.int (n % (2 : Int32)))])) _
    refine XS.icmpYes X0.here hx rfl (pc0 := 10) (pc' := 19) rfl (hb hby d3_10) rfl (feq heven).2 (by decide) (by decide) ?_
    show Steps p.tables e below (s₁.setTop (mkF m 19 #[.val (.ref a5), .val (.int k)] [])) _
    refine XS.aloadN X0.here hx rfl (hb hby d3_19) rfl rfl ?_
    show Steps p.tables e below (s₁.setTop (mkF m 20 #[.val (.ref a5), .val (.int k)] [(.ref a5)])) _
    refine XS.iloadN X0.here hx rfl (hb hby d3_20) rfl ?_
    show Steps p.tables e below (s₁.setTop (mkF m 21 #[.val (.ref a5), .val (.int k)] [(.int k), (.ref a5)])) _
    refine XS.iconst X0.here hx rfl (hb hby d3_21) ?_
    show Steps p.tables e below (s₁.setTop (mkF m 22 #[.val (.ref a5), .val (.int k)] [(.int (1 : Int32)), (.int k), (.ref a5)])) _
    refine XS.isub X0.here hx rfl (hb hby d3_22) rfl ?_
    show Steps p.tables e below (s₁.setTop (mkF m 23 #[.val (.ref a5), .val (.int k)] [(.int (k - (1 : Int32))), (.ref a5)])) _
    rw [hj]
    show Steps p.tables e below (s₁.setTop (mkF m 23 #[.val (.ref a5), .val (.int k)] [(.int j), (.ref a5)])) _
    refine X0.daload hx (j := j) (v := (.double u)) hA hAr A.2.2 hinj hatj (g := (mkF m 23 #[.val (.ref a5), .val (.int k)] [(.int j), (.ref a5)])) rfl rfl (hb hby d3_23) _ ?_
    show Steps p.tables e below (s₁.setTop (mkF m 24 #[.val (.ref a5), .val (.int k)] [(.double u)])) _
    refine XS.aloadN X0.here hx rfl (hb hby d3_24) rfl rfl ?_
    show Steps p.tables e below (s₁.setTop (mkF m 25 #[.val (.ref a5), .val (.int k)] [(.ref a5), (.double u)])) _
    refine XS.iloadN X0.here hx rfl (hb hby d3_25) rfl ?_
    show Steps p.tables e below (s₁.setTop (mkF m 26 #[.val (.ref a5), .val (.int k)] [(.int k), (.ref a5), (.double u)])) _
    refine X0.daload hx (j := k) (v := (.double w)) hA hAr A.2.2 hin hat (g := (mkF m 26 #[.val (.ref a5), .val (.int k)] [(.int k), (.ref a5), (.double u)])) rfl rfl (hb hby d3_26) _ ?_
    show Steps p.tables e below (s₁.setTop (mkF m 27 #[.val (.ref a5), .val (.int k)] [(.double w), (.double u)])) _
    refine XS.daddS X0.here hx rfl (hb hby d3_27) rfl nn1 rfl ?_
    show Steps p.tables e below (s₁.setTop (mkF m 28 #[.val (.ref a5), .val (.int k)] [(.double (FP.dadd u w))])) _
    refine X0.ldc2DoubleC hx hown (mvT hZ (hw _ (List.mem_of_getElem? (i := 12) rfl))) (g := (mkF m 28 #[.val (.ref a5), .val (.int k)] [(.double (FP.dadd u w))])) rfl (hb hby d3_28) _ ?_
    show Steps p.tables e below (s₁.setTop (mkF m 31 #[.val (.ref a5), .val (.int k)] [(.double (4611686018427387904 : UInt64)), (.double (FP.dadd u w))])) _
    refine XS.ddivS X0.here hx rfl (hb hby d3_31) rfl nn2 rfl ?_
    show Steps p.tables e below (s₁.setTop (mkF m 32 #[.val (.ref a5), .val (.int k)] [(.double (FP.ddiv (FP.dadd u w) (4611686018427387904 : UInt64)))])) _
    exact retOut X0 hx Bd.returns rfl (Or.inr (Or.inr (Or.inl ⟨rfl, rfl, _, rfl⟩))) (hb hby d3_32) hr
  · show own_QD (FP.ddiv (FP.dadd u w) (4611686018427387904 : UInt64)) h0 n0 _ s₁.heap _
    rw [e0]
    exact ⟨rfl, N0, rfl⟩
set_option maxRecDepth 65536 in
set_option maxHeartbeats 40000000 in
theorem own_tail1 {p : Program} {l : Launch} {e : Env} {s : State} {m : MethodId} {args : Array Value} {below : List Frame} {meth : Method} {c : Code} {T0 : State} {locs : List Loc} {Z : State} {a0 : Array Value} {h0 : Heap} {n0 : Nat} (p0 p1 p2 p3 p4 v5 v6 v7 v8 v9 v10 v11 v12 v13 v14 : Int32)
    (X0 : Stand p l e room_1 s m args below meth c T0 locs 0 0) (hx : p.tables.exec = Jvm.exec) (hZ : Z.Warmed39 s.vm) (hw : ∀ d ∈ tables_1, d.before a0 Z = true) (hby : c.code = code) (hml : c.maxLocals = 19) (hown : s.vm.findClass "com/example/archerfish/archerfish/benchmark/ComparisonMedianPinLaw" = some m.cls) (e0 : T0.heap = h0) (N0 : Fr n0 locs) (Z0 : n0 ≤ h0.size) :
    ∃ (T' : State) (locs' : List Loc) (pc' : Nat) (Ls' : Array Slot), Stand p l e room_1 s m args below meth c T' locs' 1 4 ∧ Fr n0 locs' ∧ decode c.code pc' = .ok (.ireturn, 1) ∧
      ∀ target, Steps p.tables e below (T'.setTop (mkF m pc' Ls' [(.int (1 : Int32))])) target → Steps p.tables e below (T0.setTop (mkF m 91 #[.val (.int p0), .val (.int p1), .val (.int p2), .val (.int p3), .val (.int p4), .val (.int v5), .val (.int v6), .val (.int v7), .val (.int v8), .val (.int v9), .val (.int v10), .val (.int v11), .val (.int v12), .val (.int v13), .val (.int v14), .val (.int (1 : Int32)), .unset, .unset, .unset] [])) target := by
  obtain ⟨T1, h1, k1, X1, e1, E1, A1, st1⟩ := newP X0 hx hZ (hw _ (List.mem_of_getElem? (i := 7) rfl)) e0 (g := (mkF m 93 #[.val (.int p0), .val (.int p1), .val (.int p2), .val (.int p3), .val (.int p4), .val (.int v5), .val (.int v6), .val (.int v7), .val (.int v8), .val (.int v9), .val (.int v10), .val (.int v11), .val (.int v12), .val (.int v13), .val (.int v14), .val (.int (1 : Int32)), .unset, .unset, .unset] [(.int (1 : Int32))])) rfl (hb hby at_93) rfl (by decide) (cap := 4) (by decide) (by decide) (by decide) (by decide)
  obtain ⟨a3, g2⟩ : ∃ z, z = h0.size := ⟨_, rfl⟩
  rw [← g2] at A1 st1
  have g9 : n0 ≤ a3 := Nat.le_trans Z0 (Nat.le_of_eq g2.symm)
  have Z1 : n0 ≤ h1.size := Nat.le_trans Z0 E1.1
  obtain ⟨c1, B1, S1⟩ : ∃ cl : Cell, Arr Z h1 a3 cl .double ∧ cl.slots.size = 1 := ⟨_, A1, (sz_new _ _ _).trans (by decide)⟩
  have J1 : ¬ ((0 : Int32) < 0 ∨ c1.slots.size ≤ (0 : Int32).toNatClampNeg) := by rw [S1]; decide
  obtain ⟨T2, h2, X2, e2, W2, st2⟩ := stD X1 hx hZ e1 B1 (j := (0 : Int32)) (x := FP.i2d v9) J1 (g := (mkF m 103 #[.val (.int p0), .val (.int p1), .val (.int p2), .val (.int p3), .val (.int p4), .val (.int v5), .val (.int v6), .val (.int v7), .val (.int v8), .val (.int v9), .val (.int v10), .val (.int v11), .val (.int v12), .val (.int v13), .val (.int v14), .val (.int (1 : Int32)), .val (.ref a3), .unset, .unset] [(.double (FP.i2d v9)), (.int (0 : Int32)), (.ref a3)])) rfl rfl (hb hby at_103)
  have N2 := Fr.snoc X2 N0 g9
  obtain ⟨c2, B2, S2, u2_0⟩ : ∃ cl : Cell, Arr Z h2 a3 cl .double ∧ cl.slots.size = 1 ∧ cl.slots[(0 : Int32).toNatClampNeg]? = some (.double (FP.i2d v9)) := ⟨_, B1.same W2, (sz_set _ _ _).trans S1, get_hit J1 rfl⟩
  have Z2 : n0 ≤ h2.size := Nat.le_trans Z1 (Nat.le_of_eq W2.size.symm)
  have hk : ¬ ((0 : Int32) < 0 ∨ c2.slots.size ≤ (0 : Int32).toNatClampNeg) := by rw [S2]; decide
  have hn : c2.slots.size.toInt32 = (1 : Int32) := by rw [S2]; decide
  obtain ⟨_, _, ⟨T9, L9, k9, n9⟩, -, X9, ⟨Lc9, hQ9, l9, y9, z9⟩, st9⟩ := Jvm.LawKit.callS X2 hx (y := (⟨"com/example/archerfish/archerfish/benchmark/Comparison", "median", "([D)D"⟩ : MethodName)) hown (mvT hZ (hw _ (List.mem_of_getElem? (i := 8) rfl))) (mvT hZ (hw _ (List.mem_of_getElem? (i := 9) rfl))) (mvT hZ (hw _ (List.mem_of_getElem? (i := 10) rfl))) (mvT hZ (hw _ (List.mem_of_getElem? (i := 11) rfl))) (by decide) (backOf (W := 0) (own_rmOdd l Z a0 hw [] a3 c2 (1 : Int32) (0 : Int32) (FP.i2d v9) h2 n0 B2 hn (by decide) (by decide) hk u2_0) hZ (hw _ (List.mem_of_getElem? (i := 11) rfl)) (hw _ (List.mem_of_getElem? (i := 10) rfl)) (by decide) (by decide)) (g := (mkF m 145 #[.val (.int p0), .val (.int p1), .val (.int p2), .val (.int p3), .val (.int p4), .val (.int v5), .val (.int v6), .val (.int v7), .val (.int v8), .val (.int v9), .val (.int v10), .val (.int v11), .val (.int v12), .val (.int v13), .val (.int v14), .val (.int (1 : Int32)), .val (.ref a3), .unset, .unset] [(.ref a3)])) rfl (by rw [hml]; rfl) (argsL := [(.ref a3)]) (rest := []) (lenOf own_pdD rfl) rfl (by show 2 * 0 + _ ≤ _; exact Nat.le_of_eq rfl) (hb hby at_145) (fun _ _ => ⟨rfl, e2, (by decide : 1 + 0 ≤ _), (by decide : 4 + 0 ≤ _)⟩)
  dsimp only [Pt.U, Pt.locs, Pt.cells, Pt.slots] at X9 l9 y9 z9 st9 hQ9
  subst l9 y9 z9
  obtain ⟨rfl, N9, e9⟩ := hQ9
  have N10 := Fr.app N2 N9
  refine ⟨T9, _, 170, #[.val (.int p0), .val (.int p1), .val (.int p2), .val (.int p3), .val (.int p4), .val (.int v5), .val (.int v6), .val (.int v7), .val (.int v8), .val (.int v9), .val (.int v10), .val (.int v11), .val (.int v12), .val (.int v13), .val (.int v14), .val (.int (1 : Int32)), .val (.ref a3), .val (.double (FP.i2d v9)), .second], X9, N10, (hb hby at_170), fun target kt => ?_⟩
  show Steps p.tables e below (T0.setTop (mkF m 91 #[.val (.int p0), .val (.int p1), .val (.int p2), .val (.int p3), .val (.int p4), .val (.int v5), .val (.int v6), .val (.int v7), .val (.int v8), .val (.int v9), .val (.int v10), .val (.int v11), .val (.int v12), .val (.int v13), .val (.int v14), .val (.int (1 : Int32)), .unset, .unset, .unset] [])) _
  refine XS.iload X0.here hx rfl (hb hby at_91) rfl ?_
  show Steps p.tables e below (T0.setTop (mkF m 93 #[.val (.int p0), .val (.int p1), .val (.int p2), .val (.int p3), .val (.int p4), .val (.int v5), .val (.int v6), .val (.int v7), .val (.int v8), .val (.int v9), .val (.int v10), .val (.int v11), .val (.int v12), .val (.int v13), .val (.int v14), .val (.int (1 : Int32)), .unset, .unset, .unset] [(.int (1 : Int32))])) _
  refine st1 _ ?_
  show Steps p.tables e below (T1.setTop (mkF m 95 #[.val (.int p0), .val (.int p1), .val (.int p2), .val (.int p3), .val (.int p4), .val (.int v5), .val (.int v6), .val (.int v7), .val (.int v8), .val (.int v9), .val (.int v10), .val (.int v11), .val (.int v12), .val (.int v13), .val (.int v14), .val (.int (1 : Int32)), .unset, .unset, .unset] [(.ref a3)])) _
  refine XS.astore X1.here hx rfl (hb hby at_95) rfl rfl (l' := #[.val (.int p0), .val (.int p1), .val (.int p2), .val (.int p3), .val (.int p4), .val (.int v5), .val (.int v6), .val (.int v7), .val (.int v8), .val (.int v9), .val (.int v10), .val (.int v11), .val (.int v12), .val (.int v13), .val (.int v14), .val (.int (1 : Int32)), .val (.ref a3), .unset, .unset]) rfl ?_
  show Steps p.tables e below (T1.setTop (mkF m 97 #[.val (.int p0), .val (.int p1), .val (.int p2), .val (.int p3), .val (.int p4), .val (.int v5), .val (.int v6), .val (.int v7), .val (.int v8), .val (.int v9), .val (.int v10), .val (.int v11), .val (.int v12), .val (.int v13), .val (.int v14), .val (.int (1 : Int32)), .val (.ref a3), .unset, .unset] [])) _
  refine XS.aload X1.here hx rfl (hb hby at_97) rfl rfl ?_
  show Steps p.tables e below (T1.setTop (mkF m 99 #[.val (.int p0), .val (.int p1), .val (.int p2), .val (.int p3), .val (.int p4), .val (.int v5), .val (.int v6), .val (.int v7), .val (.int v8), .val (.int v9), .val (.int v10), .val (.int v11), .val (.int v12), .val (.int v13), .val (.int v14), .val (.int (1 : Int32)), .val (.ref a3), .unset, .unset] [(.ref a3)])) _
  refine XS.iconst X1.here hx rfl (hb hby at_99) ?_
  show Steps p.tables e below (T1.setTop (mkF m 100 #[.val (.int p0), .val (.int p1), .val (.int p2), .val (.int p3), .val (.int p4), .val (.int v5), .val (.int v6), .val (.int v7), .val (.int v8), .val (.int v9), .val (.int v10), .val (.int v11), .val (.int v12), .val (.int v13), .val (.int v14), .val (.int (1 : Int32)), .val (.ref a3), .unset, .unset] [(.int (0 : Int32)), (.ref a3)])) _
  refine XS.iload X1.here hx rfl (hb hby at_100) rfl ?_
  show Steps p.tables e below (T1.setTop (mkF m 102 #[.val (.int p0), .val (.int p1), .val (.int p2), .val (.int p3), .val (.int p4), .val (.int v5), .val (.int v6), .val (.int v7), .val (.int v8), .val (.int v9), .val (.int v10), .val (.int v11), .val (.int v12), .val (.int v13), .val (.int v14), .val (.int (1 : Int32)), .val (.ref a3), .unset, .unset] [(.int v9), (.int (0 : Int32)), (.ref a3)])) _
  refine XS.i2dS X1.here hx rfl (hb hby at_102) rfl rfl ?_
  show Steps p.tables e below (T1.setTop (mkF m 103 #[.val (.int p0), .val (.int p1), .val (.int p2), .val (.int p3), .val (.int p4), .val (.int v5), .val (.int v6), .val (.int v7), .val (.int v8), .val (.int v9), .val (.int v10), .val (.int v11), .val (.int v12), .val (.int v13), .val (.int v14), .val (.int (1 : Int32)), .val (.ref a3), .unset, .unset] [(.double (FP.i2d v9)), (.int (0 : Int32)), (.ref a3)])) _
  refine st2 _ ?_
  show Steps p.tables e below (T2.setTop (mkF m 104 #[.val (.int p0), .val (.int p1), .val (.int p2), .val (.int p3), .val (.int p4), .val (.int v5), .val (.int v6), .val (.int v7), .val (.int v8), .val (.int v9), .val (.int v10), .val (.int v11), .val (.int v12), .val (.int v13), .val (.int v14), .val (.int (1 : Int32)), .val (.ref a3), .unset, .unset] [])) _
  refine XS.iload X2.here hx rfl (hb hby at_104) rfl ?_
  show Steps p.tables e below (T2.setTop (mkF m 106 #[.val (.int p0), .val (.int p1), .val (.int p2), .val (.int p3), .val (.int p4), .val (.int v5), .val (.int v6), .val (.int v7), .val (.int v8), .val (.int v9), .val (.int v10), .val (.int v11), .val (.int v12), .val (.int v13), .val (.int v14), .val (.int (1 : Int32)), .val (.ref a3), .unset, .unset] [(.int (1 : Int32))])) _
  refine XS.iconst X2.here hx rfl (hb hby at_106) ?_
  show Steps p.tables e below (T2.setTop (mkF m 107 #[.val (.int p0), .val (.int p1), .val (.int p2), .val (.int p3), .val (.int p4), .val (.int v5), .val (.int v6), .val (.int v7), .val (.int v8), .val (.int v9), .val (.int v10), .val (.int v11), .val (.int v12), .val (.int v13), .val (.int v14), .val (.int (1 : Int32)), .val (.ref a3), .unset, .unset] [(.int (1 : Int32)), (.int (1 : Int32))])) _
  refine XS.icmpYes X2.here hx rfl (pc0 := 107) (pc' := 117) rfl (hb hby at_107) rfl (by decide) (by decide) (by decide) ?_
  show Steps p.tables e below (T2.setTop (mkF m 117 #[.val (.int p0), .val (.int p1), .val (.int p2), .val (.int p3), .val (.int p4), .val (.int v5), .val (.int v6), .val (.int v7), .val (.int v8), .val (.int v9), .val (.int v10), .val (.int v11), .val (.int v12), .val (.int v13), .val (.int v14), .val (.int (1 : Int32)), .val (.ref a3), .unset, .unset] [])) _
  refine XS.iload X2.here hx rfl (hb hby at_117) rfl ?_
  show Steps p.tables e below (T2.setTop (mkF m 119 #[.val (.int p0), .val (.int p1), .val (.int p2), .val (.int p3), .val (.int p4), .val (.int v5), .val (.int v6), .val (.int v7), .val (.int v8), .val (.int v9), .val (.int v10), .val (.int v11), .val (.int v12), .val (.int v13), .val (.int v14), .val (.int (1 : Int32)), .val (.ref a3), .unset, .unset] [(.int (1 : Int32))])) _
  refine XS.iconst X2.here hx rfl (hb hby at_119) ?_
  show Steps p.tables e below (T2.setTop (mkF m 120 #[.val (.int p0), .val (.int p1), .val (.int p2), .val (.int p3), .val (.int p4), .val (.int v5), .val (.int v6), .val (.int v7), .val (.int v8), .val (.int v9), .val (.int v10), .val (.int v11), .val (.int v12), .val (.int v13), .val (.int v14), .val (.int (1 : Int32)), .val (.ref a3), .unset, .unset] [(.int (2 : Int32)), (.int (1 : Int32))])) _
  refine XS.icmpYes X2.here hx rfl (pc0 := 120) (pc' := 130) rfl (hb hby at_120) rfl (by decide) (by decide) (by decide) ?_
  show Steps p.tables e below (T2.setTop (mkF m 130 #[.val (.int p0), .val (.int p1), .val (.int p2), .val (.int p3), .val (.int p4), .val (.int v5), .val (.int v6), .val (.int v7), .val (.int v8), .val (.int v9), .val (.int v10), .val (.int v11), .val (.int v12), .val (.int v13), .val (.int v14), .val (.int (1 : Int32)), .val (.ref a3), .unset, .unset] [])) _
  refine XS.iload X2.here hx rfl (hb hby at_130) rfl ?_
  show Steps p.tables e below (T2.setTop (mkF m 132 #[.val (.int p0), .val (.int p1), .val (.int p2), .val (.int p3), .val (.int p4), .val (.int v5), .val (.int v6), .val (.int v7), .val (.int v8), .val (.int v9), .val (.int v10), .val (.int v11), .val (.int v12), .val (.int v13), .val (.int v14), .val (.int (1 : Int32)), .val (.ref a3), .unset, .unset] [(.int (1 : Int32))])) _
  refine XS.iconst X2.here hx rfl (hb hby at_132) ?_
  show Steps p.tables e below (T2.setTop (mkF m 133 #[.val (.int p0), .val (.int p1), .val (.int p2), .val (.int p3), .val (.int p4), .val (.int v5), .val (.int v6), .val (.int v7), .val (.int v8), .val (.int v9), .val (.int v10), .val (.int v11), .val (.int v12), .val (.int v13), .val (.int v14), .val (.int (1 : Int32)), .val (.ref a3), .unset, .unset] [(.int (3 : Int32)), (.int (1 : Int32))])) _
  refine XS.icmpYes X2.here hx rfl (pc0 := 133) (pc' := 143) rfl (hb hby at_133) rfl (by decide) (by decide) (by decide) ?_
  show Steps p.tables e below (T2.setTop (mkF m 143 #[.val (.int p0), .val (.int p1), .val (.int p2), .val (.int p3), .val (.int p4), .val (.int v5), .val (.int v6), .val (.int v7), .val (.int v8), .val (.int v9), .val (.int v10), .val (.int v11), .val (.int v12), .val (.int v13), .val (.int v14), .val (.int (1 : Int32)), .val (.ref a3), .unset, .unset] [])) _
  refine XS.aload X2.here hx rfl (hb hby at_143) rfl rfl ?_
  show Steps p.tables e below (T2.setTop (mkF m 145 #[.val (.int p0), .val (.int p1), .val (.int p2), .val (.int p3), .val (.int p4), .val (.int v5), .val (.int v6), .val (.int v7), .val (.int v8), .val (.int v9), .val (.int v10), .val (.int v11), .val (.int v12), .val (.int v13), .val (.int v14), .val (.int (1 : Int32)), .val (.ref a3), .unset, .unset] [(.ref a3)])) _
  refine st9 _ ?_
  show Steps p.tables e below (T9.setTop (mkF m 148 #[.val (.int p0), .val (.int p1), .val (.int p2), .val (.int p3), .val (.int p4), .val (.int v5), .val (.int v6), .val (.int v7), .val (.int v8), .val (.int v9), .val (.int v10), .val (.int v11), .val (.int v12), .val (.int v13), .val (.int v14), .val (.int (1 : Int32)), .val (.ref a3), .unset, .unset] [(.double (FP.i2d v9))])) _
  refine XS.dstore X9.here hx rfl (hb hby at_148) rfl (l' := #[.val (.int p0), .val (.int p1), .val (.int p2), .val (.int p3), .val (.int p4), .val (.int v5), .val (.int v6), .val (.int v7), .val (.int v8), .val (.int v9), .val (.int v10), .val (.int v11), .val (.int v12), .val (.int v13), .val (.int v14), .val (.int (1 : Int32)), .val (.ref a3), .val (.double (FP.i2d v9)), .second]) rfl ?_
  show Steps p.tables e below (T9.setTop (mkF m 150 #[.val (.int p0), .val (.int p1), .val (.int p2), .val (.int p3), .val (.int p4), .val (.int v5), .val (.int v6), .val (.int v7), .val (.int v8), .val (.int v9), .val (.int v10), .val (.int v11), .val (.int v12), .val (.int v13), .val (.int v14), .val (.int (1 : Int32)), .val (.ref a3), .val (.double (FP.i2d v9)), .second] [])) _
  refine XS.iload X9.here hx rfl (hb hby at_150) rfl ?_
  show Steps p.tables e below (T9.setTop (mkF m 152 #[.val (.int p0), .val (.int p1), .val (.int p2), .val (.int p3), .val (.int p4), .val (.int v5), .val (.int v6), .val (.int v7), .val (.int v8), .val (.int v9), .val (.int v10), .val (.int v11), .val (.int v12), .val (.int v13), .val (.int v14), .val (.int (1 : Int32)), .val (.ref a3), .val (.double (FP.i2d v9)), .second] [(.int (1 : Int32))])) _
  refine XS.iconst X9.here hx rfl (hb hby at_152) ?_
  show Steps p.tables e below (T9.setTop (mkF m 153 #[.val (.int p0), .val (.int p1), .val (.int p2), .val (.int p3), .val (.int p4), .val (.int v5), .val (.int v6), .val (.int v7), .val (.int v8), .val (.int v9), .val (.int v10), .val (.int v11), .val (.int v12), .val (.int v13), .val (.int v14), .val (.int (1 : Int32)), .val (.ref a3), .val (.double (FP.i2d v9)), .second] [(.int (1 : Int32)), (.int (1 : Int32))])) _
  refine XS.icmpNo X9.here hx rfl (hb hby at_153) rfl (teq rfl).2 ?_
  show Steps p.tables e below (T9.setTop (mkF m 156 #[.val (.int p0), .val (.int p1), .val (.int p2), .val (.int p3), .val (.int p4), .val (.int v5), .val (.int v6), .val (.int v7), .val (.int v8), .val (.int v9), .val (.int v10), .val (.int v11), .val (.int v12), .val (.int v13), .val (.int v14), .val (.int (1 : Int32)), .val (.ref a3), .val (.double (FP.i2d v9)), .second] [])) _
  refine XS.dload X9.here hx rfl (hb hby at_156) rfl ?_
  show Steps p.tables e below (T9.setTop (mkF m 158 #[.val (.int p0), .val (.int p1), .val (.int p2), .val (.int p3), .val (.int p4), .val (.int v5), .val (.int v6), .val (.int v7), .val (.int v8), .val (.int v9), .val (.int v10), .val (.int v11), .val (.int v12), .val (.int v13), .val (.int v14), .val (.int (1 : Int32)), .val (.ref a3), .val (.double (FP.i2d v9)), .second] [(.double (FP.i2d v9))])) _
  refine XS.iload X9.here hx rfl (hb hby at_158) rfl ?_
  show Steps p.tables e below (T9.setTop (mkF m 160 #[.val (.int p0), .val (.int p1), .val (.int p2), .val (.int p3), .val (.int p4), .val (.int v5), .val (.int v6), .val (.int v7), .val (.int v8), .val (.int v9), .val (.int v10), .val (.int v11), .val (.int v12), .val (.int v13), .val (.int v14), .val (.int (1 : Int32)), .val (.ref a3), .val (.double (FP.i2d v9)), .second] [(.int v9), (.double (FP.i2d v9))])) _
  refine XS.i2dS X9.here hx rfl (hb hby at_160) rfl rfl ?_
  show Steps p.tables e below (T9.setTop (mkF m 161 #[.val (.int p0), .val (.int p1), .val (.int p2), .val (.int p3), .val (.int p4), .val (.int v5), .val (.int v6), .val (.int v7), .val (.int v8), .val (.int v9), .val (.int v10), .val (.int v11), .val (.int v12), .val (.int v13), .val (.int v14), .val (.int (1 : Int32)), .val (.ref a3), .val (.double (FP.i2d v9)), .second] [(.double (FP.i2d v9)), (.double (FP.i2d v9))])) _
  refine XS.dcmpS X9.here hx rfl (hb hby at_161) rfl (own_self v9) ?_
  show Steps p.tables e below (T9.setTop (mkF m 162 #[.val (.int p0), .val (.int p1), .val (.int p2), .val (.int p3), .val (.int p4), .val (.int v5), .val (.int v6), .val (.int v7), .val (.int v8), .val (.int v9), .val (.int v10), .val (.int v11), .val (.int v12), .val (.int v13), .val (.int v14), .val (.int (1 : Int32)), .val (.ref a3), .val (.double (FP.i2d v9)), .second] [(.int (0 : Int32))])) _
  refine XS.ifNo X9.here hx rfl (hb hby at_162) rfl ((if0 _ _).trans (teq rfl).2) ?_
  show Steps p.tables e below (T9.setTop (mkF m 165 #[.val (.int p0), .val (.int p1), .val (.int p2), .val (.int p3), .val (.int p4), .val (.int v5), .val (.int v6), .val (.int v7), .val (.int v8), .val (.int v9), .val (.int v10), .val (.int v11), .val (.int v12), .val (.int v13), .val (.int v14), .val (.int (1 : Int32)), .val (.ref a3), .val (.double (FP.i2d v9)), .second] [])) _
  refine XS.iconst X9.here hx rfl (hb hby at_165) ?_
  show Steps p.tables e below (T9.setTop (mkF m 166 #[.val (.int p0), .val (.int p1), .val (.int p2), .val (.int p3), .val (.int p4), .val (.int v5), .val (.int v6), .val (.int v7), .val (.int v8), .val (.int v9), .val (.int v10), .val (.int v11), .val (.int v12), .val (.int v13), .val (.int v14), .val (.int (1 : Int32)), .val (.ref a3), .val (.double (FP.i2d v9)), .second] [(.int (1 : Int32))])) _
  refine XS.goto X9.here hx rfl (pc0 := 166) (pc' := 170) rfl (hb hby at_166) (by decide) (by decide) ?_
  show Steps p.tables e below (T9.setTop (mkF m 170 #[.val (.int p0), .val (.int p1), .val (.int p2), .val (.int p3), .val (.int p4), .val (.int v5), .val (.int v6), .val (.int v7), .val (.int v8), .val (.int v9), .val (.int v10), .val (.int v11), .val (.int v12), .val (.int v13), .val (.int v14), .val (.int (1 : Int32)), .val (.ref a3), .val (.double (FP.i2d v9)), .second] [(.int (1 : Int32))])) _
  exact kt
set_option maxRecDepth 65536 in
set_option maxHeartbeats 40000000 in
theorem own_tail2 {p : Program} {l : Launch} {e : Env} {s : State} {m : MethodId} {args : Array Value} {below : List Frame} {meth : Method} {c : Code} {T0 : State} {locs : List Loc} {Z : State} {a0 : Array Value} {h0 : Heap} {n0 : Nat} (p0 p1 p2 p3 p4 v5 v6 v7 v8 v9 v10 v11 v12 v13 v14 : Int32)
    (X0 : Stand p l e room_1 s m args below meth c T0 locs 0 0) (hx : p.tables.exec = Jvm.exec) (hZ : Z.Warmed39 s.vm) (hw : ∀ d ∈ tables_1, d.before a0 Z = true) (hby : c.code = code) (hml : c.maxLocals = 19) (hown : s.vm.findClass "com/example/archerfish/archerfish/benchmark/ComparisonMedianPinLaw" = some m.cls) (e0 : T0.heap = h0) (N0 : Fr n0 locs) (Z0 : n0 ≤ h0.size) :
    ∃ (T' : State) (locs' : List Loc) (pc' : Nat) (Ls' : Array Slot), Stand p l e room_1 s m args below meth c T' locs' 1 4 ∧ Fr n0 locs' ∧ decode c.code pc' = .ok (.ireturn, 1) ∧
      ∀ target, Steps p.tables e below (T'.setTop (mkF m pc' Ls' [(.int (1 : Int32))])) target → Steps p.tables e below (T0.setTop (mkF m 91 #[.val (.int p0), .val (.int p1), .val (.int p2), .val (.int p3), .val (.int p4), .val (.int v5), .val (.int v6), .val (.int v7), .val (.int v8), .val (.int v9), .val (.int v10), .val (.int v11), .val (.int v12), .val (.int v13), .val (.int v14), .val (.int (2 : Int32)), .unset, .unset, .unset] [])) target := by
  obtain ⟨T1, h1, k1, X1, e1, E1, A1, st1⟩ := newP X0 hx hZ (hw _ (List.mem_of_getElem? (i := 7) rfl)) e0 (g := (mkF m 93 #[.val (.int p0), .val (.int p1), .val (.int p2), .val (.int p3), .val (.int p4), .val (.int v5), .val (.int v6), .val (.int v7), .val (.int v8), .val (.int v9), .val (.int v10), .val (.int v11), .val (.int v12), .val (.int v13), .val (.int v14), .val (.int (2 : Int32)), .unset, .unset, .unset] [(.int (2 : Int32))])) rfl (hb hby at_93) rfl (by decide) (cap := 4) (by decide) (by decide) (by decide) (by decide)
  obtain ⟨a3, g2⟩ : ∃ z, z = h0.size := ⟨_, rfl⟩
  rw [← g2] at A1 st1
  have g9 : n0 ≤ a3 := Nat.le_trans Z0 (Nat.le_of_eq g2.symm)
  have Z1 : n0 ≤ h1.size := Nat.le_trans Z0 E1.1
  obtain ⟨c1, B1, S1⟩ : ∃ cl : Cell, Arr Z h1 a3 cl .double ∧ cl.slots.size = 2 := ⟨_, A1, (sz_new _ _ _).trans (by decide)⟩
  have J1 : ¬ ((0 : Int32) < 0 ∨ c1.slots.size ≤ (0 : Int32).toNatClampNeg) := by rw [S1]; decide
  obtain ⟨T2, h2, X2, e2, W2, st2⟩ := stD X1 hx hZ e1 B1 (j := (0 : Int32)) (x := FP.i2d v9) J1 (g := (mkF m 103 #[.val (.int p0), .val (.int p1), .val (.int p2), .val (.int p3), .val (.int p4), .val (.int v5), .val (.int v6), .val (.int v7), .val (.int v8), .val (.int v9), .val (.int v10), .val (.int v11), .val (.int v12), .val (.int v13), .val (.int v14), .val (.int (2 : Int32)), .val (.ref a3), .unset, .unset] [(.double (FP.i2d v9)), (.int (0 : Int32)), (.ref a3)])) rfl rfl (hb hby at_103)
  have N2 := Fr.snoc X2 N0 g9
  obtain ⟨c2, B2, S2, u2_0⟩ : ∃ cl : Cell, Arr Z h2 a3 cl .double ∧ cl.slots.size = 2 ∧ cl.slots[(0 : Int32).toNatClampNeg]? = some (.double (FP.i2d v9)) := ⟨_, B1.same W2, (sz_set _ _ _).trans S1, get_hit J1 rfl⟩
  have Z2 : n0 ≤ h2.size := Nat.le_trans Z1 (Nat.le_of_eq W2.size.symm)
  have J2 : ¬ ((1 : Int32) < 0 ∨ c2.slots.size ≤ (1 : Int32).toNatClampNeg) := by rw [S2]; decide
  obtain ⟨T3, h3, X3, e3, W3, st3⟩ := stD X2 hx hZ e2 B2 (j := (1 : Int32)) (x := FP.i2d v13) J2 (g := (mkF m 116 #[.val (.int p0), .val (.int p1), .val (.int p2), .val (.int p3), .val (.int p4), .val (.int v5), .val (.int v6), .val (.int v7), .val (.int v8), .val (.int v9), .val (.int v10), .val (.int v11), .val (.int v12), .val (.int v13), .val (.int v14), .val (.int (2 : Int32)), .val (.ref a3), .unset, .unset] [(.double (FP.i2d v13)), (.int (1 : Int32)), (.ref a3)])) rfl rfl (hb hby at_116)
  have N3 := Fr.snoc X3 N2 g9
  obtain ⟨c3, B3, S3, u3_0, u3_1⟩ : ∃ cl : Cell, Arr Z h3 a3 cl .double ∧ cl.slots.size = 2 ∧ cl.slots[(0 : Int32).toNatClampNeg]? = some (.double (FP.i2d v9)) ∧ cl.slots[(1 : Int32).toNatClampNeg]? = some (.double (FP.i2d v13)) := ⟨_, B2.same W3, (sz_set _ _ _).trans S2, (get_miss (by decide) (by decide) (by decide)).trans u2_0, get_hit J2 rfl⟩
  have Z3 : n0 ≤ h3.size := Nat.le_trans Z2 (Nat.le_of_eq W3.size.symm)
  have hj : ¬ ((0 : Int32) < 0 ∨ c3.slots.size ≤ (0 : Int32).toNatClampNeg) := by rw [S3]; decide
  have hk : ¬ ((1 : Int32) < 0 ∨ c3.slots.size ≤ (1 : Int32).toNatClampNeg) := by rw [S3]; decide
  have hn : c3.slots.size.toInt32 = (2 : Int32) := by rw [S3]; decide
  obtain ⟨_, _, ⟨T9, L9, k9, n9⟩, -, X9, ⟨Lc9, hQ9, l9, y9, z9⟩, st9⟩ := Jvm.LawKit.callS X3 hx (y := (⟨"com/example/archerfish/archerfish/benchmark/Comparison", "median", "([D)D"⟩ : MethodName)) hown (mvT hZ (hw _ (List.mem_of_getElem? (i := 8) rfl))) (mvT hZ (hw _ (List.mem_of_getElem? (i := 9) rfl))) (mvT hZ (hw _ (List.mem_of_getElem? (i := 10) rfl))) (mvT hZ (hw _ (List.mem_of_getElem? (i := 11) rfl))) (by decide) (backOf (W := 0) (own_rmEven l Z a0 hw [] a3 c3 (2 : Int32) (1 : Int32) (0 : Int32) (FP.i2d v9) (FP.i2d v13) h3 n0 B3 hn (by decide) (by decide) (by decide) hk u3_1 hj u3_0 (own_nn1 v9 v13) (own_nn2 v9 v13)) hZ (hw _ (List.mem_of_getElem? (i := 11) rfl)) (hw _ (List.mem_of_getElem? (i := 10) rfl)) (by decide) (by decide)) (g := (mkF m 145 #[.val (.int p0), .val (.int p1), .val (.int p2), .val (.int p3), .val (.int p4), .val (.int v5), .val (.int v6), .val (.int v7), .val (.int v8), .val (.int v9), .val (.int v10), .val (.int v11), .val (.int v12), .val (.int v13), .val (.int v14), .val (.int (2 : Int32)), .val (.ref a3), .unset, .unset] [(.ref a3)])) rfl (by rw [hml]; rfl) (argsL := [(.ref a3)]) (rest := []) (lenOf own_pdD rfl) rfl (by show 2 * 0 + _ ≤ _; exact Nat.le_of_eq rfl) (hb hby at_145) (fun _ _ => ⟨rfl, e3, (by decide : 1 + 0 ≤ _), (by decide : 4 + 0 ≤ _)⟩)
  dsimp only [Pt.U, Pt.locs, Pt.cells, Pt.slots] at X9 l9 y9 z9 st9 hQ9
  subst l9 y9 z9
  obtain ⟨rfl, N9, e9⟩ := hQ9
  have N10 := Fr.app N3 N9
  refine ⟨T9, _, 200, #[.val (.int p0), .val (.int p1), .val (.int p2), .val (.int p3), .val (.int p4), .val (.int v5), .val (.int v6), .val (.int v7), .val (.int v8), .val (.int v9), .val (.int v10), .val (.int v11), .val (.int v12), .val (.int v13), .val (.int v14), .val (.int (2 : Int32)), .val (.ref a3), .val (.double (FP.ddiv (FP.dadd (FP.i2d v9) (FP.i2d v13)) (4611686018427387904 : UInt64))), .second], X9, N10, (hb hby at_200), fun target kt => ?_⟩
  show Steps p.tables e below (T0.setTop (mkF m 91 #[.val (.int p0), .val (.int p1), .val (.int p2), .val (.int p3), .val (.int p4), .val (.int v5), .val (.int v6), .val (.int v7), .val (.int v8), .val (.int v9), .val (.int v10), .val (.int v11), .val (.int v12), .val (.int v13), .val (.int v14), .val (.int (2 : Int32)), .unset, .unset, .unset] [])) _
  refine XS.iload X0.here hx rfl (hb hby at_91) rfl ?_
  show Steps p.tables e below (T0.setTop (mkF m 93 #[.val (.int p0), .val (.int p1), .val (.int p2), .val (.int p3), .val (.int p4), .val (.int v5), .val (.int v6), .val (.int v7), .val (.int v8), .val (.int v9), .val (.int v10), .val (.int v11), .val (.int v12), .val (.int v13), .val (.int v14), .val (.int (2 : Int32)), .unset, .unset, .unset] [(.int (2 : Int32))])) _
  refine st1 _ ?_
  show Steps p.tables e below (T1.setTop (mkF m 95 #[.val (.int p0), .val (.int p1), .val (.int p2), .val (.int p3), .val (.int p4), .val (.int v5), .val (.int v6), .val (.int v7), .val (.int v8), .val (.int v9), .val (.int v10), .val (.int v11), .val (.int v12), .val (.int v13), .val (.int v14), .val (.int (2 : Int32)), .unset, .unset, .unset] [(.ref a3)])) _
  refine XS.astore X1.here hx rfl (hb hby at_95) rfl rfl (l' := #[.val (.int p0), .val (.int p1), .val (.int p2), .val (.int p3), .val (.int p4), .val (.int v5), .val (.int v6), .val (.int v7), .val (.int v8), .val (.int v9), .val (.int v10), .val (.int v11), .val (.int v12), .val (.int v13), .val (.int v14), .val (.int (2 : Int32)), .val (.ref a3), .unset, .unset]) rfl ?_
  show Steps p.tables e below (T1.setTop (mkF m 97 #[.val (.int p0), .val (.int p1), .val (.int p2), .val (.int p3), .val (.int p4), .val (.int v5), .val (.int v6), .val (.int v7), .val (.int v8), .val (.int v9), .val (.int v10), .val (.int v11), .val (.int v12), .val (.int v13), .val (.int v14), .val (.int (2 : Int32)), .val (.ref a3), .unset, .unset] [])) _
  refine XS.aload X1.here hx rfl (hb hby at_97) rfl rfl ?_
  show Steps p.tables e below (T1.setTop (mkF m 99 #[.val (.int p0), .val (.int p1), .val (.int p2), .val (.int p3), .val (.int p4), .val (.int v5), .val (.int v6), .val (.int v7), .val (.int v8), .val (.int v9), .val (.int v10), .val (.int v11), .val (.int v12), .val (.int v13), .val (.int v14), .val (.int (2 : Int32)), .val (.ref a3), .unset, .unset] [(.ref a3)])) _
  refine XS.iconst X1.here hx rfl (hb hby at_99) ?_
  show Steps p.tables e below (T1.setTop (mkF m 100 #[.val (.int p0), .val (.int p1), .val (.int p2), .val (.int p3), .val (.int p4), .val (.int v5), .val (.int v6), .val (.int v7), .val (.int v8), .val (.int v9), .val (.int v10), .val (.int v11), .val (.int v12), .val (.int v13), .val (.int v14), .val (.int (2 : Int32)), .val (.ref a3), .unset, .unset] [(.int (0 : Int32)), (.ref a3)])) _
  refine XS.iload X1.here hx rfl (hb hby at_100) rfl ?_
  show Steps p.tables e below (T1.setTop (mkF m 102 #[.val (.int p0), .val (.int p1), .val (.int p2), .val (.int p3), .val (.int p4), .val (.int v5), .val (.int v6), .val (.int v7), .val (.int v8), .val (.int v9), .val (.int v10), .val (.int v11), .val (.int v12), .val (.int v13), .val (.int v14), .val (.int (2 : Int32)), .val (.ref a3), .unset, .unset] [(.int v9), (.int (0 : Int32)), (.ref a3)])) _
  refine XS.i2dS X1.here hx rfl (hb hby at_102) rfl rfl ?_
  show Steps p.tables e below (T1.setTop (mkF m 103 #[.val (.int p0), .val (.int p1), .val (.int p2), .val (.int p3), .val (.int p4), .val (.int v5), .val (.int v6), .val (.int v7), .val (.int v8), .val (.int v9), .val (.int v10), .val (.int v11), .val (.int v12), .val (.int v13), .val (.int v14), .val (.int (2 : Int32)), .val (.ref a3), .unset, .unset] [(.double (FP.i2d v9)), (.int (0 : Int32)), (.ref a3)])) _
  refine st2 _ ?_
  show Steps p.tables e below (T2.setTop (mkF m 104 #[.val (.int p0), .val (.int p1), .val (.int p2), .val (.int p3), .val (.int p4), .val (.int v5), .val (.int v6), .val (.int v7), .val (.int v8), .val (.int v9), .val (.int v10), .val (.int v11), .val (.int v12), .val (.int v13), .val (.int v14), .val (.int (2 : Int32)), .val (.ref a3), .unset, .unset] [])) _
  refine XS.iload X2.here hx rfl (hb hby at_104) rfl ?_
  show Steps p.tables e below (T2.setTop (mkF m 106 #[.val (.int p0), .val (.int p1), .val (.int p2), .val (.int p3), .val (.int p4), .val (.int v5), .val (.int v6), .val (.int v7), .val (.int v8), .val (.int v9), .val (.int v10), .val (.int v11), .val (.int v12), .val (.int v13), .val (.int v14), .val (.int (2 : Int32)), .val (.ref a3), .unset, .unset] [(.int (2 : Int32))])) _
  refine XS.iconst X2.here hx rfl (hb hby at_106) ?_
  show Steps p.tables e below (T2.setTop (mkF m 107 #[.val (.int p0), .val (.int p1), .val (.int p2), .val (.int p3), .val (.int p4), .val (.int v5), .val (.int v6), .val (.int v7), .val (.int v8), .val (.int v9), .val (.int v10), .val (.int v11), .val (.int v12), .val (.int v13), .val (.int v14), .val (.int (2 : Int32)), .val (.ref a3), .unset, .unset] [(.int (1 : Int32)), (.int (2 : Int32))])) _
  refine XS.icmpNo X2.here hx rfl (hb hby at_107) rfl (by decide) ?_
  show Steps p.tables e below (T2.setTop (mkF m 110 #[.val (.int p0), .val (.int p1), .val (.int p2), .val (.int p3), .val (.int p4), .val (.int v5), .val (.int v6), .val (.int v7), .val (.int v8), .val (.int v9), .val (.int v10), .val (.int v11), .val (.int v12), .val (.int v13), .val (.int v14), .val (.int (2 : Int32)), .val (.ref a3), .unset, .unset] [])) _
  refine XS.aload X2.here hx rfl (hb hby at_110) rfl rfl ?_
  show Steps p.tables e below (T2.setTop (mkF m 112 #[.val (.int p0), .val (.int p1), .val (.int p2), .val (.int p3), .val (.int p4), .val (.int v5), .val (.int v6), .val (.int v7), .val (.int v8), .val (.int v9), .val (.int v10), .val (.int v11), .val (.int v12), .val (.int v13), .val (.int v14), .val (.int (2 : Int32)), .val (.ref a3), .unset, .unset] [(.ref a3)])) _
  refine XS.iconst X2.here hx rfl (hb hby at_112) ?_
  show Steps p.tables e below (T2.setTop (mkF m 113 #[.val (.int p0), .val (.int p1), .val (.int p2), .val (.int p3), .val (.int p4), .val (.int v5), .val (.int v6), .val (.int v7), .val (.int v8), .val (.int v9), .val (.int v10), .val (.int v11), .val (.int v12), .val (.int v13), .val (.int v14), .val (.int (2 : Int32)), .val (.ref a3), .unset, .unset] [(.int (1 : Int32)), (.ref a3)])) _
  refine XS.iload X2.here hx rfl (hb hby at_113) rfl ?_
  show Steps p.tables e below (T2.setTop (mkF m 115 #[.val (.int p0), .val (.int p1), .val (.int p2), .val (.int p3), .val (.int p4), .val (.int v5), .val (.int v6), .val (.int v7), .val (.int v8), .val (.int v9), .val (.int v10), .val (.int v11), .val (.int v12), .val (.int v13), .val (.int v14), .val (.int (2 : Int32)), .val (.ref a3), .unset, .unset] [(.int v13), (.int (1 : Int32)), (.ref a3)])) _
  refine XS.i2dS X2.here hx rfl (hb hby at_115) rfl rfl ?_
  show Steps p.tables e below (T2.setTop (mkF m 116 #[.val (.int p0), .val (.int p1), .val (.int p2), .val (.int p3), .val (.int p4), .val (.int v5), .val (.int v6), .val (.int v7), .val (.int v8), .val (.int v9), .val (.int v10), .val (.int v11), .val (.int v12), .val (.int v13), .val (.int v14), .val (.int (2 : Int32)), .val (.ref a3), .unset, .unset] [(.double (FP.i2d v13)), (.int (1 : Int32)), (.ref a3)])) _
  refine st3 _ ?_
  show Steps p.tables e below (T3.setTop (mkF m 117 #[.val (.int p0), .val (.int p1), .val (.int p2), .val (.int p3), .val (.int p4), .val (.int v5), .val (.int v6), .val (.int v7), .val (.int v8), .val (.int v9), .val (.int v10), .val (.int v11), .val (.int v12), .val (.int v13), .val (.int v14), .val (.int (2 : Int32)), .val (.ref a3), .unset, .unset] [])) _
  refine XS.iload X3.here hx rfl (hb hby at_117) rfl ?_
  show Steps p.tables e below (T3.setTop (mkF m 119 #[.val (.int p0), .val (.int p1), .val (.int p2), .val (.int p3), .val (.int p4), .val (.int v5), .val (.int v6), .val (.int v7), .val (.int v8), .val (.int v9), .val (.int v10), .val (.int v11), .val (.int v12), .val (.int v13), .val (.int v14), .val (.int (2 : Int32)), .val (.ref a3), .unset, .unset] [(.int (2 : Int32))])) _
  refine XS.iconst X3.here hx rfl (hb hby at_119) ?_
  show Steps p.tables e below (T3.setTop (mkF m 120 #[.val (.int p0), .val (.int p1), .val (.int p2), .val (.int p3), .val (.int p4), .val (.int v5), .val (.int v6), .val (.int v7), .val (.int v8), .val (.int v9), .val (.int v10), .val (.int v11), .val (.int v12), .val (.int v13), .val (.int v14), .val (.int (2 : Int32)), .val (.ref a3), .unset, .unset] [(.int (2 : Int32)), (.int (2 : Int32))])) _
  refine XS.icmpYes X3.here hx rfl (pc0 := 120) (pc' := 130) rfl (hb hby at_120) rfl (by decide) (by decide) (by decide) ?_
  show Steps p.tables e below (T3.setTop (mkF m 130 #[.val (.int p0), .val (.int p1), .val (.int p2), .val (.int p3), .val (.int p4), .val (.int v5), .val (.int v6), .val (.int v7), .val (.int v8), .val (.int v9), .val (.int v10), .val (.int v11), .val (.int v12), .val (.int v13), .val (.int v14), .val (.int (2 : Int32)), .val (.ref a3), .unset, .unset] [])) _
  refine XS.iload X3.here hx rfl (hb hby at_130) rfl ?_
  show Steps p.tables e below (T3.setTop (mkF m 132 #[.val (.int p0), .val (.int p1), .val (.int p2), .val (.int p3), .val (.int p4), .val (.int v5), .val (.int v6), .val (.int v7), .val (.int v8), .val (.int v9), .val (.int v10), .val (.int v11), .val (.int v12), .val (.int v13), .val (.int v14), .val (.int (2 : Int32)), .val (.ref a3), .unset, .unset] [(.int (2 : Int32))])) _
  refine XS.iconst X3.here hx rfl (hb hby at_132) ?_
  show Steps p.tables e below (T3.setTop (mkF m 133 #[.val (.int p0), .val (.int p1), .val (.int p2), .val (.int p3), .val (.int p4), .val (.int v5), .val (.int v6), .val (.int v7), .val (.int v8), .val (.int v9), .val (.int v10), .val (.int v11), .val (.int v12), .val (.int v13), .val (.int v14), .val (.int (2 : Int32)), .val (.ref a3), .unset, .unset] [(.int (3 : Int32)), (.int (2 : Int32))])) _
  refine XS.icmpYes X3.here hx rfl (pc0 := 133) (pc' := 143) rfl (hb hby at_133) rfl (by decide) (by decide) (by decide) ?_
  show Steps p.tables e below (T3.setTop (mkF m 143 #[.val (.int p0), .val (.int p1), .val (.int p2), .val (.int p3), .val (.int p4), .val (.int v5), .val (.int v6), .val (.int v7), .val (.int v8), .val (.int v9), .val (.int v10), .val (.int v11), .val (.int v12), .val (.int v13), .val (.int v14), .val (.int (2 : Int32)), .val (.ref a3), .unset, .unset] [])) _
  refine XS.aload X3.here hx rfl (hb hby at_143) rfl rfl ?_
  show Steps p.tables e below (T3.setTop (mkF m 145 #[.val (.int p0), .val (.int p1), .val (.int p2), .val (.int p3), .val (.int p4), .val (.int v5), .val (.int v6), .val (.int v7), .val (.int v8), .val (.int v9), .val (.int v10), .val (.int v11), .val (.int v12), .val (.int v13), .val (.int v14), .val (.int (2 : Int32)), .val (.ref a3), .unset, .unset] [(.ref a3)])) _
  refine st9 _ ?_
  show Steps p.tables e below (T9.setTop (mkF m 148 #[.val (.int p0), .val (.int p1), .val (.int p2), .val (.int p3), .val (.int p4), .val (.int v5), .val (.int v6), .val (.int v7), .val (.int v8), .val (.int v9), .val (.int v10), .val (.int v11), .val (.int v12), .val (.int v13), .val (.int v14), .val (.int (2 : Int32)), .val (.ref a3), .unset, .unset] [(.double (FP.ddiv (FP.dadd (FP.i2d v9) (FP.i2d v13)) (4611686018427387904 : UInt64)))])) _
  refine XS.dstore X9.here hx rfl (hb hby at_148) rfl (l' := #[.val (.int p0), .val (.int p1), .val (.int p2), .val (.int p3), .val (.int p4), .val (.int v5), .val (.int v6), .val (.int v7), .val (.int v8), .val (.int v9), .val (.int v10), .val (.int v11), .val (.int v12), .val (.int v13), .val (.int v14), .val (.int (2 : Int32)), .val (.ref a3), .val (.double (FP.ddiv (FP.dadd (FP.i2d v9) (FP.i2d v13)) (4611686018427387904 : UInt64))), .second]) rfl ?_
  show Steps p.tables e below (T9.setTop (mkF m 150 #[.val (.int p0), .val (.int p1), .val (.int p2), .val (.int p3), .val (.int p4), .val (.int v5), .val (.int v6), .val (.int v7), .val (.int v8), .val (.int v9), .val (.int v10), .val (.int v11), .val (.int v12), .val (.int v13), .val (.int v14), .val (.int (2 : Int32)), .val (.ref a3), .val (.double (FP.ddiv (FP.dadd (FP.i2d v9) (FP.i2d v13)) (4611686018427387904 : UInt64))), .second] [])) _
  refine XS.iload X9.here hx rfl (hb hby at_150) rfl ?_
  show Steps p.tables e below (T9.setTop (mkF m 152 #[.val (.int p0), .val (.int p1), .val (.int p2), .val (.int p3), .val (.int p4), .val (.int v5), .val (.int v6), .val (.int v7), .val (.int v8), .val (.int v9), .val (.int v10), .val (.int v11), .val (.int v12), .val (.int v13), .val (.int v14), .val (.int (2 : Int32)), .val (.ref a3), .val (.double (FP.ddiv (FP.dadd (FP.i2d v9) (FP.i2d v13)) (4611686018427387904 : UInt64))), .second] [(.int (2 : Int32))])) _
  refine XS.iconst X9.here hx rfl (hb hby at_152) ?_
  show Steps p.tables e below (T9.setTop (mkF m 153 #[.val (.int p0), .val (.int p1), .val (.int p2), .val (.int p3), .val (.int p4), .val (.int v5), .val (.int v6), .val (.int v7), .val (.int v8), .val (.int v9), .val (.int v10), .val (.int v11), .val (.int v12), .val (.int v13), .val (.int v14), .val (.int (2 : Int32)), .val (.ref a3), .val (.double (FP.ddiv (FP.dadd (FP.i2d v9) (FP.i2d v13)) (4611686018427387904 : UInt64))), .second] [(.int (1 : Int32)), (.int (2 : Int32))])) _
  refine XS.icmpYes X9.here hx rfl (pc0 := 153) (pc' := 171) rfl (hb hby at_153) rfl (feq (by decide)).2 (by decide) (by decide) ?_
  show Steps p.tables e below (T9.setTop (mkF m 171 #[.val (.int p0), .val (.int p1), .val (.int p2), .val (.int p3), .val (.int p4), .val (.int v5), .val (.int v6), .val (.int v7), .val (.int v8), .val (.int v9), .val (.int v10), .val (.int v11), .val (.int v12), .val (.int v13), .val (.int v14), .val (.int (2 : Int32)), .val (.ref a3), .val (.double (FP.ddiv (FP.dadd (FP.i2d v9) (FP.i2d v13)) (4611686018427387904 : UInt64))), .second] [])) _
  refine XS.iload X9.here hx rfl (hb hby at_171) rfl ?_
  show Steps p.tables e below (T9.setTop (mkF m 173 #[.val (.int p0), .val (.int p1), .val (.int p2), .val (.int p3), .val (.int p4), .val (.int v5), .val (.int v6), .val (.int v7), .val (.int v8), .val (.int v9), .val (.int v10), .val (.int v11), .val (.int v12), .val (.int v13), .val (.int v14), .val (.int (2 : Int32)), .val (.ref a3), .val (.double (FP.ddiv (FP.dadd (FP.i2d v9) (FP.i2d v13)) (4611686018427387904 : UInt64))), .second] [(.int (2 : Int32))])) _
  refine XS.iconst X9.here hx rfl (hb hby at_173) ?_
  show Steps p.tables e below (T9.setTop (mkF m 174 #[.val (.int p0), .val (.int p1), .val (.int p2), .val (.int p3), .val (.int p4), .val (.int v5), .val (.int v6), .val (.int v7), .val (.int v8), .val (.int v9), .val (.int v10), .val (.int v11), .val (.int v12), .val (.int v13), .val (.int v14), .val (.int (2 : Int32)), .val (.ref a3), .val (.double (FP.ddiv (FP.dadd (FP.i2d v9) (FP.i2d v13)) (4611686018427387904 : UInt64))), .second] [(.int (2 : Int32)), (.int (2 : Int32))])) _
  refine XS.icmpNo X9.here hx rfl (hb hby at_174) rfl (teq rfl).2 ?_
  show Steps p.tables e below (T9.setTop (mkF m 177 #[.val (.int p0), .val (.int p1), .val (.int p2), .val (.int p3), .val (.int p4), .val (.int v5), .val (.int v6), .val (.int v7), .val (.int v8), .val (.int v9), .val (.int v10), .val (.int v11), .val (.int v12), .val (.int v13), .val (.int v14), .val (.int (2 : Int32)), .val (.ref a3), .val (.double (FP.ddiv (FP.dadd (FP.i2d v9) (FP.i2d v13)) (4611686018427387904 : UInt64))), .second] [])) _
  refine X9.ldc2DoubleC hx hown (mvT hZ (hw _ (List.mem_of_getElem? (i := 13) rfl))) (g := (mkF m 177 #[.val (.int p0), .val (.int p1), .val (.int p2), .val (.int p3), .val (.int p4), .val (.int v5), .val (.int v6), .val (.int v7), .val (.int v8), .val (.int v9), .val (.int v10), .val (.int v11), .val (.int v12), .val (.int v13), .val (.int v14), .val (.int (2 : Int32)), .val (.ref a3), .val (.double (FP.ddiv (FP.dadd (FP.i2d v9) (FP.i2d v13)) (4611686018427387904 : UInt64))), .second] [])) rfl (hb hby at_177) _ ?_
  show Steps p.tables e below (T9.setTop (mkF m 180 #[.val (.int p0), .val (.int p1), .val (.int p2), .val (.int p3), .val (.int p4), .val (.int v5), .val (.int v6), .val (.int v7), .val (.int v8), .val (.int v9), .val (.int v10), .val (.int v11), .val (.int v12), .val (.int v13), .val (.int v14), .val (.int (2 : Int32)), .val (.ref a3), .val (.double (FP.ddiv (FP.dadd (FP.i2d v9) (FP.i2d v13)) (4611686018427387904 : UInt64))), .second] [(.double (4611686018427387904 : UInt64))])) _
  refine XS.dload X9.here hx rfl (hb hby at_180) rfl ?_
  show Steps p.tables e below (T9.setTop (mkF m 182 #[.val (.int p0), .val (.int p1), .val (.int p2), .val (.int p3), .val (.int p4), .val (.int v5), .val (.int v6), .val (.int v7), .val (.int v8), .val (.int v9), .val (.int v10), .val (.int v11), .val (.int v12), .val (.int v13), .val (.int v14), .val (.int (2 : Int32)), .val (.ref a3), .val (.double (FP.ddiv (FP.dadd (FP.i2d v9) (FP.i2d v13)) (4611686018427387904 : UInt64))), .second] [(.double (FP.ddiv (FP.dadd (FP.i2d v9) (FP.i2d v13)) (4611686018427387904 : UInt64))), (.double (4611686018427387904 : UInt64))])) _
  refine XS.dmulS X9.here hx rfl (hb hby at_182) rfl (own_nn3 v9 v13) rfl ?_
  show Steps p.tables e below (T9.setTop (mkF m 183 #[.val (.int p0), .val (.int p1), .val (.int p2), .val (.int p3), .val (.int p4), .val (.int v5), .val (.int v6), .val (.int v7), .val (.int v8), .val (.int v9), .val (.int v10), .val (.int v11), .val (.int v12), .val (.int v13), .val (.int v14), .val (.int (2 : Int32)), .val (.ref a3), .val (.double (FP.ddiv (FP.dadd (FP.i2d v9) (FP.i2d v13)) (4611686018427387904 : UInt64))), .second] [(.double (FP.dmul (4611686018427387904 : UInt64) (FP.ddiv (FP.dadd (FP.i2d v9) (FP.i2d v13)) (4611686018427387904 : UInt64))))])) _
  refine XS.iload X9.here hx rfl (hb hby at_183) rfl ?_
  show Steps p.tables e below (T9.setTop (mkF m 185 #[.val (.int p0), .val (.int p1), .val (.int p2), .val (.int p3), .val (.int p4), .val (.int v5), .val (.int v6), .val (.int v7), .val (.int v8), .val (.int v9), .val (.int v10), .val (.int v11), .val (.int v12), .val (.int v13), .val (.int v14), .val (.int (2 : Int32)), .val (.ref a3), .val (.double (FP.ddiv (FP.dadd (FP.i2d v9) (FP.i2d v13)) (4611686018427387904 : UInt64))), .second] [(.int v9), (.double (FP.dmul (4611686018427387904 : UInt64) (FP.ddiv (FP.dadd (FP.i2d v9) (FP.i2d v13)) (4611686018427387904 : UInt64))))])) _
  refine XT.i2l X9.here hx rfl (hb hby at_185) rfl ?_
  show Steps p.tables e below (T9.setTop (mkF m 186 #[.val (.int p0), .val (.int p1), .val (.int p2), .val (.int p3), .val (.int p4), .val (.int v5), .val (.int v6), .val (.int v7), .val (.int v8), .val (.int v9), .val (.int v10), .val (.int v11), .val (.int v12), .val (.int v13), .val (.int v14), .val (.int (2 : Int32)), .val (.ref a3), .val (.double (FP.ddiv (FP.dadd (FP.i2d v9) (FP.i2d v13)) (4611686018427387904 : UInt64))), .second] [(.long v9.toInt64), (.double (FP.dmul (4611686018427387904 : UInt64) (FP.ddiv (FP.dadd (FP.i2d v9) (FP.i2d v13)) (4611686018427387904 : UInt64))))])) _
  refine XS.iload X9.here hx rfl (hb hby at_186) rfl ?_
  show Steps p.tables e below (T9.setTop (mkF m 188 #[.val (.int p0), .val (.int p1), .val (.int p2), .val (.int p3), .val (.int p4), .val (.int v5), .val (.int v6), .val (.int v7), .val (.int v8), .val (.int v9), .val (.int v10), .val (.int v11), .val (.int v12), .val (.int v13), .val (.int v14), .val (.int (2 : Int32)), .val (.ref a3), .val (.double (FP.ddiv (FP.dadd (FP.i2d v9) (FP.i2d v13)) (4611686018427387904 : UInt64))), .second] [(.int v13), (.long v9.toInt64), (.double (FP.dmul (4611686018427387904 : UInt64) (FP.ddiv (FP.dadd (FP.i2d v9) (FP.i2d v13)) (4611686018427387904 : UInt64))))])) _
  refine XT.i2l X9.here hx rfl (hb hby at_188) rfl ?_
  show Steps p.tables e below (T9.setTop (mkF m 189 #[.val (.int p0), .val (.int p1), .val (.int p2), .val (.int p3), .val (.int p4), .val (.int v5), .val (.int v6), .val (.int v7), .val (.int v8), .val (.int v9), .val (.int v10), .val (.int v11), .val (.int v12), .val (.int v13), .val (.int v14), .val (.int (2 : Int32)), .val (.ref a3), .val (.double (FP.ddiv (FP.dadd (FP.i2d v9) (FP.i2d v13)) (4611686018427387904 : UInt64))), .second] [(.long v13.toInt64), (.long v9.toInt64), (.double (FP.dmul (4611686018427387904 : UInt64) (FP.ddiv (FP.dadd (FP.i2d v9) (FP.i2d v13)) (4611686018427387904 : UInt64))))])) _
  refine XT.ladd X9.here hx rfl (hb hby at_189) rfl ?_
  show Steps p.tables e below (T9.setTop (mkF m 190 #[.val (.int p0), .val (.int p1), .val (.int p2), .val (.int p3), .val (.int p4), .val (.int v5), .val (.int v6), .val (.int v7), .val (.int v8), .val (.int v9), .val (.int v10), .val (.int v11), .val (.int v12), .val (.int v13), .val (.int v14), .val (.int (2 : Int32)), .val (.ref a3), .val (.double (FP.ddiv (FP.dadd (FP.i2d v9) (FP.i2d v13)) (4611686018427387904 : UInt64))), .second] [(.long (v9.toInt64 + v13.toInt64)), (.double (FP.dmul (4611686018427387904 : UInt64) (FP.ddiv (FP.dadd (FP.i2d v9) (FP.i2d v13)) (4611686018427387904 : UInt64))))])) _
  refine XS.l2dS X9.here hx rfl (hb hby at_190) rfl rfl ?_
  show Steps p.tables e below (T9.setTop (mkF m 191 #[.val (.int p0), .val (.int p1), .val (.int p2), .val (.int p3), .val (.int p4), .val (.int v5), .val (.int v6), .val (.int v7), .val (.int v8), .val (.int v9), .val (.int v10), .val (.int v11), .val (.int v12), .val (.int v13), .val (.int v14), .val (.int (2 : Int32)), .val (.ref a3), .val (.double (FP.ddiv (FP.dadd (FP.i2d v9) (FP.i2d v13)) (4611686018427387904 : UInt64))), .second] [(.double (FP.l2d (v9.toInt64 + v13.toInt64))), (.double (FP.dmul (4611686018427387904 : UInt64) (FP.ddiv (FP.dadd (FP.i2d v9) (FP.i2d v13)) (4611686018427387904 : UInt64))))])) _
  refine XS.dcmpS X9.here hx rfl (hb hby at_191) rfl (own_eqm v9 v13) ?_
  show Steps p.tables e below (T9.setTop (mkF m 192 #[.val (.int p0), .val (.int p1), .val (.int p2), .val (.int p3), .val (.int p4), .val (.int v5), .val (.int v6), .val (.int v7), .val (.int v8), .val (.int v9), .val (.int v10), .val (.int v11), .val (.int v12), .val (.int v13), .val (.int v14), .val (.int (2 : Int32)), .val (.ref a3), .val (.double (FP.ddiv (FP.dadd (FP.i2d v9) (FP.i2d v13)) (4611686018427387904 : UInt64))), .second] [(.int (0 : Int32))])) _
  refine XS.ifNo X9.here hx rfl (hb hby at_192) rfl ((if0 _ _).trans (teq rfl).2) ?_
  show Steps p.tables e below (T9.setTop (mkF m 195 #[.val (.int p0), .val (.int p1), .val (.int p2), .val (.int p3), .val (.int p4), .val (.int v5), .val (.int v6), .val (.int v7), .val (.int v8), .val (.int v9), .val (.int v10), .val (.int v11), .val (.int v12), .val (.int v13), .val (.int v14), .val (.int (2 : Int32)), .val (.ref a3), .val (.double (FP.ddiv (FP.dadd (FP.i2d v9) (FP.i2d v13)) (4611686018427387904 : UInt64))), .second] [])) _
  refine XS.iconst X9.here hx rfl (hb hby at_195) ?_
  show Steps p.tables e below (T9.setTop (mkF m 196 #[.val (.int p0), .val (.int p1), .val (.int p2), .val (.int p3), .val (.int p4), .val (.int v5), .val (.int v6), .val (.int v7), .val (.int v8), .val (.int v9), .val (.int v10), .val (.int v11), .val (.int v12), .val (.int v13), .val (.int v14), .val (.int (2 : Int32)), .val (.ref a3), .val (.double (FP.ddiv (FP.dadd (FP.i2d v9) (FP.i2d v13)) (4611686018427387904 : UInt64))), .second] [(.int (1 : Int32))])) _
  refine XS.goto X9.here hx rfl (pc0 := 196) (pc' := 200) rfl (hb hby at_196) (by decide) (by decide) ?_
  show Steps p.tables e below (T9.setTop (mkF m 200 #[.val (.int p0), .val (.int p1), .val (.int p2), .val (.int p3), .val (.int p4), .val (.int v5), .val (.int v6), .val (.int v7), .val (.int v8), .val (.int v9), .val (.int v10), .val (.int v11), .val (.int v12), .val (.int v13), .val (.int v14), .val (.int (2 : Int32)), .val (.ref a3), .val (.double (FP.ddiv (FP.dadd (FP.i2d v9) (FP.i2d v13)) (4611686018427387904 : UInt64))), .second] [(.int (1 : Int32))])) _
  exact kt
set_option maxRecDepth 65536 in
set_option maxHeartbeats 40000000 in
theorem own_tail3 {p : Program} {l : Launch} {e : Env} {s : State} {m : MethodId} {args : Array Value} {below : List Frame} {meth : Method} {c : Code} {T0 : State} {locs : List Loc} {Z : State} {a0 : Array Value} {h0 : Heap} {n0 : Nat} (p0 p1 p2 p3 p4 v5 v6 v7 v8 v9 v10 v11 v12 v13 v14 : Int32)
    (X0 : Stand p l e room_1 s m args below meth c T0 locs 0 0) (hx : p.tables.exec = Jvm.exec) (hZ : Z.Warmed39 s.vm) (hw : ∀ d ∈ tables_1, d.before a0 Z = true) (hby : c.code = code) (hml : c.maxLocals = 19) (hown : s.vm.findClass "com/example/archerfish/archerfish/benchmark/ComparisonMedianPinLaw" = some m.cls) (e0 : T0.heap = h0) (N0 : Fr n0 locs) (Z0 : n0 ≤ h0.size) :
    ∃ (T' : State) (locs' : List Loc) (pc' : Nat) (Ls' : Array Slot), Stand p l e room_1 s m args below meth c T' locs' 1 4 ∧ Fr n0 locs' ∧ decode c.code pc' = .ok (.ireturn, 1) ∧
      ∀ target, Steps p.tables e below (T'.setTop (mkF m pc' Ls' [(.int (1 : Int32))])) target → Steps p.tables e below (T0.setTop (mkF m 91 #[.val (.int p0), .val (.int p1), .val (.int p2), .val (.int p3), .val (.int p4), .val (.int v5), .val (.int v6), .val (.int v7), .val (.int v8), .val (.int v9), .val (.int v10), .val (.int v11), .val (.int v12), .val (.int v13), .val (.int v14), .val (.int (3 : Int32)), .unset, .unset, .unset] [])) target := by
  obtain ⟨T1, h1, k1, X1, e1, E1, A1, st1⟩ := newP X0 hx hZ (hw _ (List.mem_of_getElem? (i := 7) rfl)) e0 (g := (mkF m 93 #[.val (.int p0), .val (.int p1), .val (.int p2), .val (.int p3), .val (.int p4), .val (.int v5), .val (.int v6), .val (.int v7), .val (.int v8), .val (.int v9), .val (.int v10), .val (.int v11), .val (.int v12), .val (.int v13), .val (.int v14), .val (.int (3 : Int32)), .unset, .unset, .unset] [(.int (3 : Int32))])) rfl (hb hby at_93) rfl (by decide) (cap := 4) (by decide) (by decide) (by decide) (by decide)
  obtain ⟨a3, g2⟩ : ∃ z, z = h0.size := ⟨_, rfl⟩
  rw [← g2] at A1 st1
  have g9 : n0 ≤ a3 := Nat.le_trans Z0 (Nat.le_of_eq g2.symm)
  have Z1 : n0 ≤ h1.size := Nat.le_trans Z0 E1.1
  obtain ⟨c1, B1, S1⟩ : ∃ cl : Cell, Arr Z h1 a3 cl .double ∧ cl.slots.size = 3 := ⟨_, A1, (sz_new _ _ _).trans (by decide)⟩
  have J1 : ¬ ((0 : Int32) < 0 ∨ c1.slots.size ≤ (0 : Int32).toNatClampNeg) := by rw [S1]; decide
  obtain ⟨T2, h2, X2, e2, W2, st2⟩ := stD X1 hx hZ e1 B1 (j := (0 : Int32)) (x := FP.i2d v9) J1 (g := (mkF m 103 #[.val (.int p0), .val (.int p1), .val (.int p2), .val (.int p3), .val (.int p4), .val (.int v5), .val (.int v6), .val (.int v7), .val (.int v8), .val (.int v9), .val (.int v10), .val (.int v11), .val (.int v12), .val (.int v13), .val (.int v14), .val (.int (3 : Int32)), .val (.ref a3), .unset, .unset] [(.double (FP.i2d v9)), (.int (0 : Int32)), (.ref a3)])) rfl rfl (hb hby at_103)
  have N2 := Fr.snoc X2 N0 g9
  obtain ⟨c2, B2, S2, u2_0⟩ : ∃ cl : Cell, Arr Z h2 a3 cl .double ∧ cl.slots.size = 3 ∧ cl.slots[(0 : Int32).toNatClampNeg]? = some (.double (FP.i2d v9)) := ⟨_, B1.same W2, (sz_set _ _ _).trans S1, get_hit J1 rfl⟩
  have Z2 : n0 ≤ h2.size := Nat.le_trans Z1 (Nat.le_of_eq W2.size.symm)
  have J2 : ¬ ((1 : Int32) < 0 ∨ c2.slots.size ≤ (1 : Int32).toNatClampNeg) := by rw [S2]; decide
  obtain ⟨T3, h3, X3, e3, W3, st3⟩ := stD X2 hx hZ e2 B2 (j := (1 : Int32)) (x := FP.i2d v13) J2 (g := (mkF m 116 #[.val (.int p0), .val (.int p1), .val (.int p2), .val (.int p3), .val (.int p4), .val (.int v5), .val (.int v6), .val (.int v7), .val (.int v8), .val (.int v9), .val (.int v10), .val (.int v11), .val (.int v12), .val (.int v13), .val (.int v14), .val (.int (3 : Int32)), .val (.ref a3), .unset, .unset] [(.double (FP.i2d v13)), (.int (1 : Int32)), (.ref a3)])) rfl rfl (hb hby at_116)
  have N3 := Fr.snoc X3 N2 g9
  obtain ⟨c3, B3, S3, u3_0, u3_1⟩ : ∃ cl : Cell, Arr Z h3 a3 cl .double ∧ cl.slots.size = 3 ∧ cl.slots[(0 : Int32).toNatClampNeg]? = some (.double (FP.i2d v9)) ∧ cl.slots[(1 : Int32).toNatClampNeg]? = some (.double (FP.i2d v13)) := ⟨_, B2.same W3, (sz_set _ _ _).trans S2, (get_miss (by decide) (by decide) (by decide)).trans u2_0, get_hit J2 rfl⟩
  have Z3 : n0 ≤ h3.size := Nat.le_trans Z2 (Nat.le_of_eq W3.size.symm)
  have J3 : ¬ ((2 : Int32) < 0 ∨ c3.slots.size ≤ (2 : Int32).toNatClampNeg) := by rw [S3]; decide
  obtain ⟨T4, h4, X4, e4, W4, st4⟩ := stD X3 hx hZ e3 B3 (j := (2 : Int32)) (x := FP.i2d v14) J3 (g := (mkF m 129 #[.val (.int p0), .val (.int p1), .val (.int p2), .val (.int p3), .val (.int p4), .val (.int v5), .val (.int v6), .val (.int v7), .val (.int v8), .val (.int v9), .val (.int v10), .val (.int v11), .val (.int v12), .val (.int v13), .val (.int v14), .val (.int (3 : Int32)), .val (.ref a3), .unset, .unset] [(.double (FP.i2d v14)), (.int (2 : Int32)), (.ref a3)])) rfl rfl (hb hby at_129)
  have N4 := Fr.snoc X4 N3 g9
  obtain ⟨c4, B4, S4, u4_0, u4_1, u4_2⟩ : ∃ cl : Cell, Arr Z h4 a3 cl .double ∧ cl.slots.size = 3 ∧ cl.slots[(0 : Int32).toNatClampNeg]? = some (.double (FP.i2d v9)) ∧ cl.slots[(1 : Int32).toNatClampNeg]? = some (.double (FP.i2d v13)) ∧ cl.slots[(2 : Int32).toNatClampNeg]? = some (.double (FP.i2d v14)) := ⟨_, B3.same W4, (sz_set _ _ _).trans S3, (get_miss (by decide) (by decide) (by decide)).trans u3_0, (get_miss (by decide) (by decide) (by decide)).trans u3_1, get_hit J3 rfl⟩
  have Z4 : n0 ≤ h4.size := Nat.le_trans Z3 (Nat.le_of_eq W4.size.symm)
  have hk : ¬ ((1 : Int32) < 0 ∨ c4.slots.size ≤ (1 : Int32).toNatClampNeg) := by rw [S4]; decide
  have hn : c4.slots.size.toInt32 = (3 : Int32) := by rw [S4]; decide
  obtain ⟨_, _, ⟨T9, L9, k9, n9⟩, -, X9, ⟨Lc9, hQ9, l9, y9, z9⟩, st9⟩ := Jvm.LawKit.callS X4 hx (y := (⟨"com/example/archerfish/archerfish/benchmark/Comparison", "median", "([D)D"⟩ : MethodName)) hown (mvT hZ (hw _ (List.mem_of_getElem? (i := 8) rfl))) (mvT hZ (hw _ (List.mem_of_getElem? (i := 9) rfl))) (mvT hZ (hw _ (List.mem_of_getElem? (i := 10) rfl))) (mvT hZ (hw _ (List.mem_of_getElem? (i := 11) rfl))) (by decide) (backOf (W := 0) (own_rmOdd l Z a0 hw [] a3 c4 (3 : Int32) (1 : Int32) (FP.i2d v13) h4 n0 B4 hn (by decide) (by decide) hk u4_1) hZ (hw _ (List.mem_of_getElem? (i := 11) rfl)) (hw _ (List.mem_of_getElem? (i := 10) rfl)) (by decide) (by decide)) (g := (mkF m 145 #[.val (.int p0), .val (.int p1), .val (.int p2), .val (.int p3), .val (.int p4), .val (.int v5), .val (.int v6), .val (.int v7), .val (.int v8), .val (.int v9), .val (.int v10), .val (.int v11), .val (.int v12), .val (.int v13), .val (.int v14), .val (.int (3 : Int32)), .val (.ref a3), .unset, .unset] [(.ref a3)])) rfl (by rw [hml]; rfl) (argsL := [(.ref a3)]) (rest := []) (lenOf own_pdD rfl) rfl (by show 2 * 0 + _ ≤ _; exact Nat.le_of_eq rfl) (hb hby at_145) (fun _ _ => ⟨rfl, e4, (by decide : 1 + 0 ≤ _), (by decide : 4 + 0 ≤ _)⟩)
  dsimp only [Pt.U, Pt.locs, Pt.cells, Pt.slots] at X9 l9 y9 z9 st9 hQ9
  subst l9 y9 z9
  obtain ⟨rfl, N9, e9⟩ := hQ9
  have N10 := Fr.app N4 N9
  refine ⟨T9, _, 221, #[.val (.int p0), .val (.int p1), .val (.int p2), .val (.int p3), .val (.int p4), .val (.int v5), .val (.int v6), .val (.int v7), .val (.int v8), .val (.int v9), .val (.int v10), .val (.int v11), .val (.int v12), .val (.int v13), .val (.int v14), .val (.int (3 : Int32)), .val (.ref a3), .val (.double (FP.i2d v13)), .second], X9, N10, (hb hby at_221), fun target kt => ?_⟩
  show Steps p.tables e below (T0.setTop (mkF m 91 #[.val (.int p0), .val (.int p1), .val (.int p2), .val (.int p3), .val (.int p4), .val (.int v5), .val (.int v6), .val (.int v7), .val (.int v8), .val (.int v9), .val (.int v10), .val (.int v11), .val (.int v12), .val (.int v13), .val (.int v14), .val (.int (3 : Int32)), .unset, .unset, .unset] [])) _
  refine XS.iload X0.here hx rfl (hb hby at_91) rfl ?_
  show Steps p.tables e below (T0.setTop (mkF m 93 #[.val (.int p0), .val (.int p1), .val (.int p2), .val (.int p3), .val (.int p4), .val (.int v5), .val (.int v6), .val (.int v7), .val (.int v8), .val (.int v9), .val (.int v10), .val (.int v11), .val (.int v12), .val (.int v13), .val (.int v14), .val (.int (3 : Int32)), .unset, .unset, .unset] [(.int (3 : Int32))])) _
  refine st1 _ ?_
  show Steps p.tables e below (T1.setTop (mkF m 95 #[.val (.int p0), .val (.int p1), .val (.int p2), .val (.int p3), .val (.int p4), .val (.int v5), .val (.int v6), .val (.int v7), .val (.int v8), .val (.int v9), .val (.int v10), .val (.int v11), .val (.int v12), .val (.int v13), .val (.int v14), .val (.int (3 : Int32)), .unset, .unset, .unset] [(.ref a3)])) _
  refine XS.astore X1.here hx rfl (hb hby at_95) rfl rfl (l' := #[.val (.int p0), .val (.int p1), .val (.int p2), .val (.int p3), .val (.int p4), .val (.int v5), .val (.int v6), .val (.int v7), .val (.int v8), .val (.int v9), .val (.int v10), .val (.int v11), .val (.int v12), .val (.int v13), .val (.int v14), .val (.int (3 : Int32)), .val (.ref a3), .unset, .unset]) rfl ?_
  show Steps p.tables e below (T1.setTop (mkF m 97 #[.val (.int p0), .val (.int p1), .val (.int p2), .val (.int p3), .val (.int p4), .val (.int v5), .val (.int v6), .val (.int v7), .val (.int v8), .val (.int v9), .val (.int v10), .val (.int v11), .val (.int v12), .val (.int v13), .val (.int v14), .val (.int (3 : Int32)), .val (.ref a3), .unset, .unset] [])) _
  refine XS.aload X1.here hx rfl (hb hby at_97) rfl rfl ?_
  show Steps p.tables e below (T1.setTop (mkF m 99 #[.val (.int p0), .val (.int p1), .val (.int p2), .val (.int p3), .val (.int p4), .val (.int v5), .val (.int v6), .val (.int v7), .val (.int v8), .val (.int v9), .val (.int v10), .val (.int v11), .val (.int v12), .val (.int v13), .val (.int v14), .val (.int (3 : Int32)), .val (.ref a3), .unset, .unset] [(.ref a3)])) _
  refine XS.iconst X1.here hx rfl (hb hby at_99) ?_
  show Steps p.tables e below (T1.setTop (mkF m 100 #[.val (.int p0), .val (.int p1), .val (.int p2), .val (.int p3), .val (.int p4), .val (.int v5), .val (.int v6), .val (.int v7), .val (.int v8), .val (.int v9), .val (.int v10), .val (.int v11), .val (.int v12), .val (.int v13), .val (.int v14), .val (.int (3 : Int32)), .val (.ref a3), .unset, .unset] [(.int (0 : Int32)), (.ref a3)])) _
  refine XS.iload X1.here hx rfl (hb hby at_100) rfl ?_
  show Steps p.tables e below (T1.setTop (mkF m 102 #[.val (.int p0), .val (.int p1), .val (.int p2), .val (.int p3), .val (.int p4), .val (.int v5), .val (.int v6), .val (.int v7), .val (.int v8), .val (.int v9), .val (.int v10), .val (.int v11), .val (.int v12), .val (.int v13), .val (.int v14), .val (.int (3 : Int32)), .val (.ref a3), .unset, .unset] [(.int v9), (.int (0 : Int32)), (.ref a3)])) _
  refine XS.i2dS X1.here hx rfl (hb hby at_102) rfl rfl ?_
  show Steps p.tables e below (T1.setTop (mkF m 103 #[.val (.int p0), .val (.int p1), .val (.int p2), .val (.int p3), .val (.int p4), .val (.int v5), .val (.int v6), .val (.int v7), .val (.int v8), .val (.int v9), .val (.int v10), .val (.int v11), .val (.int v12), .val (.int v13), .val (.int v14), .val (.int (3 : Int32)), .val (.ref a3), .unset, .unset] [(.double (FP.i2d v9)), (.int (0 : Int32)), (.ref a3)])) _
  refine st2 _ ?_
  show Steps p.tables e below (T2.setTop (mkF m 104 #[.val (.int p0), .val (.int p1), .val (.int p2), .val (.int p3), .val (.int p4), .val (.int v5), .val (.int v6), .val (.int v7), .val (.int v8), .val (.int v9), .val (.int v10), .val (.int v11), .val (.int v12), .val (.int v13), .val (.int v14), .val (.int (3 : Int32)), .val (.ref a3), .unset, .unset] [])) _
  refine XS.iload X2.here hx rfl (hb hby at_104) rfl ?_
  show Steps p.tables e below (T2.setTop (mkF m 106 #[.val (.int p0), .val (.int p1), .val (.int p2), .val (.int p3), .val (.int p4), .val (.int v5), .val (.int v6), .val (.int v7), .val (.int v8), .val (.int v9), .val (.int v10), .val (.int v11), .val (.int v12), .val (.int v13), .val (.int v14), .val (.int (3 : Int32)), .val (.ref a3), .unset, .unset] [(.int (3 : Int32))])) _
  refine XS.iconst X2.here hx rfl (hb hby at_106) ?_
  show Steps p.tables e below (T2.setTop (mkF m 107 #[.val (.int p0), .val (.int p1), .val (.int p2), .val (.int p3), .val (.int p4), .val (.int v5), .val (.int v6), .val (.int v7), .val (.int v8), .val (.int v9), .val (.int v10), .val (.int v11), .val (.int v12), .val (.int v13), .val (.int v14), .val (.int (3 : Int32)), .val (.ref a3), .unset, .unset] [(.int (1 : Int32)), (.int (3 : Int32))])) _
  refine XS.icmpNo X2.here hx rfl (hb hby at_107) rfl (by decide) ?_
  show Steps p.tables e below (T2.setTop (mkF m 110 #[.val (.int p0), .val (.int p1), .val (.int p2), .val (.int p3), .val (.int p4), .val (.int v5), .val (.int v6), .val (.int v7), .val (.int v8), .val (.int v9), .val (.int v10), .val (.int v11), .val (.int v12), .val (.int v13), .val (.int v14), .val (.int (3 : Int32)), .val (.ref a3), .unset, .unset] [])) _
  refine XS.aload X2.here hx rfl (hb hby at_110) rfl rfl ?_
  show Steps p.tables e below (T2.setTop (mkF m 112 #[.val (.int p0), .val (.int p1), .val (.int p2), .val (.int p3), .val (.int p4), .val (.int v5), .val (.int v6), .val (.int v7), .val (.int v8), .val (.int v9), .val (.int v10), .val (.int v11), .val (.int v12), .val (.int v13), .val (.int v14), .val (.int (3 : Int32)), .val (.ref a3), .unset, .unset] [(.ref a3)])) _
  refine XS.iconst X2.here hx rfl (hb hby at_112) ?_
  show Steps p.tables e below (T2.setTop (mkF m 113 #[.val (.int p0), .val (.int p1), .val (.int p2), .val (.int p3), .val (.int p4), .val (.int v5), .val (.int v6), .val (.int v7), .val (.int v8), .val (.int v9), .val (.int v10), .val (.int v11), .val (.int v12), .val (.int v13), .val (.int v14), .val (.int (3 : Int32)), .val (.ref a3), .unset, .unset] [(.int (1 : Int32)), (.ref a3)])) _
  refine XS.iload X2.here hx rfl (hb hby at_113) rfl ?_
  show Steps p.tables e below (T2.setTop (mkF m 115 #[.val (.int p0), .val (.int p1), .val (.int p2), .val (.int p3), .val (.int p4), .val (.int v5), .val (.int v6), .val (.int v7), .val (.int v8), .val (.int v9), .val (.int v10), .val (.int v11), .val (.int v12), .val (.int v13), .val (.int v14), .val (.int (3 : Int32)), .val (.ref a3), .unset, .unset] [(.int v13), (.int (1 : Int32)), (.ref a3)])) _
  refine XS.i2dS X2.here hx rfl (hb hby at_115) rfl rfl ?_
  show Steps p.tables e below (T2.setTop (mkF m 116 #[.val (.int p0), .val (.int p1), .val (.int p2), .val (.int p3), .val (.int p4), .val (.int v5), .val (.int v6), .val (.int v7), .val (.int v8), .val (.int v9), .val (.int v10), .val (.int v11), .val (.int v12), .val (.int v13), .val (.int v14), .val (.int (3 : Int32)), .val (.ref a3), .unset, .unset] [(.double (FP.i2d v13)), (.int (1 : Int32)), (.ref a3)])) _
  refine st3 _ ?_
  show Steps p.tables e below (T3.setTop (mkF m 117 #[.val (.int p0), .val (.int p1), .val (.int p2), .val (.int p3), .val (.int p4), .val (.int v5), .val (.int v6), .val (.int v7), .val (.int v8), .val (.int v9), .val (.int v10), .val (.int v11), .val (.int v12), .val (.int v13), .val (.int v14), .val (.int (3 : Int32)), .val (.ref a3), .unset, .unset] [])) _
  refine XS.iload X3.here hx rfl (hb hby at_117) rfl ?_
  show Steps p.tables e below (T3.setTop (mkF m 119 #[.val (.int p0), .val (.int p1), .val (.int p2), .val (.int p3), .val (.int p4), .val (.int v5), .val (.int v6), .val (.int v7), .val (.int v8), .val (.int v9), .val (.int v10), .val (.int v11), .val (.int v12), .val (.int v13), .val (.int v14), .val (.int (3 : Int32)), .val (.ref a3), .unset, .unset] [(.int (3 : Int32))])) _
  refine XS.iconst X3.here hx rfl (hb hby at_119) ?_
  show Steps p.tables e below (T3.setTop (mkF m 120 #[.val (.int p0), .val (.int p1), .val (.int p2), .val (.int p3), .val (.int p4), .val (.int v5), .val (.int v6), .val (.int v7), .val (.int v8), .val (.int v9), .val (.int v10), .val (.int v11), .val (.int v12), .val (.int v13), .val (.int v14), .val (.int (3 : Int32)), .val (.ref a3), .unset, .unset] [(.int (2 : Int32)), (.int (3 : Int32))])) _
  refine XS.icmpNo X3.here hx rfl (hb hby at_120) rfl (by decide) ?_
  show Steps p.tables e below (T3.setTop (mkF m 123 #[.val (.int p0), .val (.int p1), .val (.int p2), .val (.int p3), .val (.int p4), .val (.int v5), .val (.int v6), .val (.int v7), .val (.int v8), .val (.int v9), .val (.int v10), .val (.int v11), .val (.int v12), .val (.int v13), .val (.int v14), .val (.int (3 : Int32)), .val (.ref a3), .unset, .unset] [])) _
  refine XS.aload X3.here hx rfl (hb hby at_123) rfl rfl ?_
  show Steps p.tables e below (T3.setTop (mkF m 125 #[.val (.int p0), .val (.int p1), .val (.int p2), .val (.int p3), .val (.int p4), .val (.int v5), .val (.int v6), .val (.int v7), .val (.int v8), .val (.int v9), .val (.int v10), .val (.int v11), .val (.int v12), .val (.int v13), .val (.int v14), .val (.int (3 : Int32)), .val (.ref a3), .unset, .unset] [(.ref a3)])) _
  refine XS.iconst X3.here hx rfl (hb hby at_125) ?_
  show Steps p.tables e below (T3.setTop (mkF m 126 #[.val (.int p0), .val (.int p1), .val (.int p2), .val (.int p3), .val (.int p4), .val (.int v5), .val (.int v6), .val (.int v7), .val (.int v8), .val (.int v9), .val (.int v10), .val (.int v11), .val (.int v12), .val (.int v13), .val (.int v14), .val (.int (3 : Int32)), .val (.ref a3), .unset, .unset] [(.int (2 : Int32)), (.ref a3)])) _
  refine XS.iload X3.here hx rfl (hb hby at_126) rfl ?_
  show Steps p.tables e below (T3.setTop (mkF m 128 #[.val (.int p0), .val (.int p1), .val (.int p2), .val (.int p3), .val (.int p4), .val (.int v5), .val (.int v6), .val (.int v7), .val (.int v8), .val (.int v9), .val (.int v10), .val (.int v11), .val (.int v12), .val (.int v13), .val (.int v14), .val (.int (3 : Int32)), .val (.ref a3), .unset, .unset] [(.int v14), (.int (2 : Int32)), (.ref a3)])) _
  refine XS.i2dS X3.here hx rfl (hb hby at_128) rfl rfl ?_
  show Steps p.tables e below (T3.setTop (mkF m 129 #[.val (.int p0), .val (.int p1), .val (.int p2), .val (.int p3), .val (.int p4), .val (.int v5), .val (.int v6), .val (.int v7), .val (.int v8), .val (.int v9), .val (.int v10), .val (.int v11), .val (.int v12), .val (.int v13), .val (.int v14), .val (.int (3 : Int32)), .val (.ref a3), .unset, .unset] [(.double (FP.i2d v14)), (.int (2 : Int32)), (.ref a3)])) _
  refine st4 _ ?_
  show Steps p.tables e below (T4.setTop (mkF m 130 #[.val (.int p0), .val (.int p1), .val (.int p2), .val (.int p3), .val (.int p4), .val (.int v5), .val (.int v6), .val (.int v7), .val (.int v8), .val (.int v9), .val (.int v10), .val (.int v11), .val (.int v12), .val (.int v13), .val (.int v14), .val (.int (3 : Int32)), .val (.ref a3), .unset, .unset] [])) _
  refine XS.iload X4.here hx rfl (hb hby at_130) rfl ?_
  show Steps p.tables e below (T4.setTop (mkF m 132 #[.val (.int p0), .val (.int p1), .val (.int p2), .val (.int p3), .val (.int p4), .val (.int v5), .val (.int v6), .val (.int v7), .val (.int v8), .val (.int v9), .val (.int v10), .val (.int v11), .val (.int v12), .val (.int v13), .val (.int v14), .val (.int (3 : Int32)), .val (.ref a3), .unset, .unset] [(.int (3 : Int32))])) _
  refine XS.iconst X4.here hx rfl (hb hby at_132) ?_
  show Steps p.tables e below (T4.setTop (mkF m 133 #[.val (.int p0), .val (.int p1), .val (.int p2), .val (.int p3), .val (.int p4), .val (.int v5), .val (.int v6), .val (.int v7), .val (.int v8), .val (.int v9), .val (.int v10), .val (.int v11), .val (.int v12), .val (.int v13), .val (.int v14), .val (.int (3 : Int32)), .val (.ref a3), .unset, .unset] [(.int (3 : Int32)), (.int (3 : Int32))])) _
  refine XS.icmpYes X4.here hx rfl (pc0 := 133) (pc' := 143) rfl (hb hby at_133) rfl (by decide) (by decide) (by decide) ?_
  show Steps p.tables e below (T4.setTop (mkF m 143 #[.val (.int p0), .val (.int p1), .val (.int p2), .val (.int p3), .val (.int p4), .val (.int v5), .val (.int v6), .val (.int v7), .val (.int v8), .val (.int v9), .val (.int v10), .val (.int v11), .val (.int v12), .val (.int v13), .val (.int v14), .val (.int (3 : Int32)), .val (.ref a3), .unset, .unset] [])) _
  refine XS.aload X4.here hx rfl (hb hby at_143) rfl rfl ?_
  show Steps p.tables e below (T4.setTop (mkF m 145 #[.val (.int p0), .val (.int p1), .val (.int p2), .val (.int p3), .val (.int p4), .val (.int v5), .val (.int v6), .val (.int v7), .val (.int v8), .val (.int v9), .val (.int v10), .val (.int v11), .val (.int v12), .val (.int v13), .val (.int v14), .val (.int (3 : Int32)), .val (.ref a3), .unset, .unset] [(.ref a3)])) _
  refine st9 _ ?_
  show Steps p.tables e below (T9.setTop (mkF m 148 #[.val (.int p0), .val (.int p1), .val (.int p2), .val (.int p3), .val (.int p4), .val (.int v5), .val (.int v6), .val (.int v7), .val (.int v8), .val (.int v9), .val (.int v10), .val (.int v11), .val (.int v12), .val (.int v13), .val (.int v14), .val (.int (3 : Int32)), .val (.ref a3), .unset, .unset] [(.double (FP.i2d v13))])) _
  refine XS.dstore X9.here hx rfl (hb hby at_148) rfl (l' := #[.val (.int p0), .val (.int p1), .val (.int p2), .val (.int p3), .val (.int p4), .val (.int v5), .val (.int v6), .val (.int v7), .val (.int v8), .val (.int v9), .val (.int v10), .val (.int v11), .val (.int v12), .val (.int v13), .val (.int v14), .val (.int (3 : Int32)), .val (.ref a3), .val (.double (FP.i2d v13)), .second]) rfl ?_
  show Steps p.tables e below (T9.setTop (mkF m 150 #[.val (.int p0), .val (.int p1), .val (.int p2), .val (.int p3), .val (.int p4), .val (.int v5), .val (.int v6), .val (.int v7), .val (.int v8), .val (.int v9), .val (.int v10), .val (.int v11), .val (.int v12), .val (.int v13), .val (.int v14), .val (.int (3 : Int32)), .val (.ref a3), .val (.double (FP.i2d v13)), .second] [])) _
  refine XS.iload X9.here hx rfl (hb hby at_150) rfl ?_
  show Steps p.tables e below (T9.setTop (mkF m 152 #[.val (.int p0), .val (.int p1), .val (.int p2), .val (.int p3), .val (.int p4), .val (.int v5), .val (.int v6), .val (.int v7), .val (.int v8), .val (.int v9), .val (.int v10), .val (.int v11), .val (.int v12), .val (.int v13), .val (.int v14), .val (.int (3 : Int32)), .val (.ref a3), .val (.double (FP.i2d v13)), .second] [(.int (3 : Int32))])) _
  refine XS.iconst X9.here hx rfl (hb hby at_152) ?_
  show Steps p.tables e below (T9.setTop (mkF m 153 #[.val (.int p0), .val (.int p1), .val (.int p2), .val (.int p3), .val (.int p4), .val (.int v5), .val (.int v6), .val (.int v7), .val (.int v8), .val (.int v9), .val (.int v10), .val (.int v11), .val (.int v12), .val (.int v13), .val (.int v14), .val (.int (3 : Int32)), .val (.ref a3), .val (.double (FP.i2d v13)), .second] [(.int (1 : Int32)), (.int (3 : Int32))])) _
  refine XS.icmpYes X9.here hx rfl (pc0 := 153) (pc' := 171) rfl (hb hby at_153) rfl (feq (by decide)).2 (by decide) (by decide) ?_
  show Steps p.tables e below (T9.setTop (mkF m 171 #[.val (.int p0), .val (.int p1), .val (.int p2), .val (.int p3), .val (.int p4), .val (.int v5), .val (.int v6), .val (.int v7), .val (.int v8), .val (.int v9), .val (.int v10), .val (.int v11), .val (.int v12), .val (.int v13), .val (.int v14), .val (.int (3 : Int32)), .val (.ref a3), .val (.double (FP.i2d v13)), .second] [])) _
  refine XS.iload X9.here hx rfl (hb hby at_171) rfl ?_
  show Steps p.tables e below (T9.setTop (mkF m 173 #[.val (.int p0), .val (.int p1), .val (.int p2), .val (.int p3), .val (.int p4), .val (.int v5), .val (.int v6), .val (.int v7), .val (.int v8), .val (.int v9), .val (.int v10), .val (.int v11), .val (.int v12), .val (.int v13), .val (.int v14), .val (.int (3 : Int32)), .val (.ref a3), .val (.double (FP.i2d v13)), .second] [(.int (3 : Int32))])) _
  refine XS.iconst X9.here hx rfl (hb hby at_173) ?_
  show Steps p.tables e below (T9.setTop (mkF m 174 #[.val (.int p0), .val (.int p1), .val (.int p2), .val (.int p3), .val (.int p4), .val (.int v5), .val (.int v6), .val (.int v7), .val (.int v8), .val (.int v9), .val (.int v10), .val (.int v11), .val (.int v12), .val (.int v13), .val (.int v14), .val (.int (3 : Int32)), .val (.ref a3), .val (.double (FP.i2d v13)), .second] [(.int (2 : Int32)), (.int (3 : Int32))])) _
  refine XS.icmpYes X9.here hx rfl (pc0 := 174) (pc' := 201) rfl (hb hby at_174) rfl (feq (by decide)).2 (by decide) (by decide) ?_
  show Steps p.tables e below (T9.setTop (mkF m 201 #[.val (.int p0), .val (.int p1), .val (.int p2), .val (.int p3), .val (.int p4), .val (.int v5), .val (.int v6), .val (.int v7), .val (.int v8), .val (.int v9), .val (.int v10), .val (.int v11), .val (.int v12), .val (.int v13), .val (.int v14), .val (.int (3 : Int32)), .val (.ref a3), .val (.double (FP.i2d v13)), .second] [])) _
  refine XS.iload X9.here hx rfl (hb hby at_201) rfl ?_
  show Steps p.tables e below (T9.setTop (mkF m 203 #[.val (.int p0), .val (.int p1), .val (.int p2), .val (.int p3), .val (.int p4), .val (.int v5), .val (.int v6), .val (.int v7), .val (.int v8), .val (.int v9), .val (.int v10), .val (.int v11), .val (.int v12), .val (.int v13), .val (.int v14), .val (.int (3 : Int32)), .val (.ref a3), .val (.double (FP.i2d v13)), .second] [(.int (3 : Int32))])) _
  refine XS.iconst X9.here hx rfl (hb hby at_203) ?_
  show Steps p.tables e below (T9.setTop (mkF m 204 #[.val (.int p0), .val (.int p1), .val (.int p2), .val (.int p3), .val (.int p4), .val (.int v5), .val (.int v6), .val (.int v7), .val (.int v8), .val (.int v9), .val (.int v10), .val (.int v11), .val (.int v12), .val (.int v13), .val (.int v14), .val (.int (3 : Int32)), .val (.ref a3), .val (.double (FP.i2d v13)), .second] [(.int (3 : Int32)), (.int (3 : Int32))])) _
  refine XS.icmpNo X9.here hx rfl (hb hby at_204) rfl (teq rfl).2 ?_
  show Steps p.tables e below (T9.setTop (mkF m 207 #[.val (.int p0), .val (.int p1), .val (.int p2), .val (.int p3), .val (.int p4), .val (.int v5), .val (.int v6), .val (.int v7), .val (.int v8), .val (.int v9), .val (.int v10), .val (.int v11), .val (.int v12), .val (.int v13), .val (.int v14), .val (.int (3 : Int32)), .val (.ref a3), .val (.double (FP.i2d v13)), .second] [])) _
  refine XS.dload X9.here hx rfl (hb hby at_207) rfl ?_
  show Steps p.tables e below (T9.setTop (mkF m 209 #[.val (.int p0), .val (.int p1), .val (.int p2), .val (.int p3), .val (.int p4), .val (.int v5), .val (.int v6), .val (.int v7), .val (.int v8), .val (.int v9), .val (.int v10), .val (.int v11), .val (.int v12), .val (.int v13), .val (.int v14), .val (.int (3 : Int32)), .val (.ref a3), .val (.double (FP.i2d v13)), .second] [(.double (FP.i2d v13))])) _
  refine XS.iload X9.here hx rfl (hb hby at_209) rfl ?_
  show Steps p.tables e below (T9.setTop (mkF m 211 #[.val (.int p0), .val (.int p1), .val (.int p2), .val (.int p3), .val (.int p4), .val (.int v5), .val (.int v6), .val (.int v7), .val (.int v8), .val (.int v9), .val (.int v10), .val (.int v11), .val (.int v12), .val (.int v13), .val (.int v14), .val (.int (3 : Int32)), .val (.ref a3), .val (.double (FP.i2d v13)), .second] [(.int v13), (.double (FP.i2d v13))])) _
  refine XS.i2dS X9.here hx rfl (hb hby at_211) rfl rfl ?_
  show Steps p.tables e below (T9.setTop (mkF m 212 #[.val (.int p0), .val (.int p1), .val (.int p2), .val (.int p3), .val (.int p4), .val (.int v5), .val (.int v6), .val (.int v7), .val (.int v8), .val (.int v9), .val (.int v10), .val (.int v11), .val (.int v12), .val (.int v13), .val (.int v14), .val (.int (3 : Int32)), .val (.ref a3), .val (.double (FP.i2d v13)), .second] [(.double (FP.i2d v13)), (.double (FP.i2d v13))])) _
  refine XS.dcmpS X9.here hx rfl (hb hby at_212) rfl (own_self v13) ?_
  show Steps p.tables e below (T9.setTop (mkF m 213 #[.val (.int p0), .val (.int p1), .val (.int p2), .val (.int p3), .val (.int p4), .val (.int v5), .val (.int v6), .val (.int v7), .val (.int v8), .val (.int v9), .val (.int v10), .val (.int v11), .val (.int v12), .val (.int v13), .val (.int v14), .val (.int (3 : Int32)), .val (.ref a3), .val (.double (FP.i2d v13)), .second] [(.int (0 : Int32))])) _
  refine XS.ifNo X9.here hx rfl (hb hby at_213) rfl ((if0 _ _).trans (teq rfl).2) ?_
  show Steps p.tables e below (T9.setTop (mkF m 216 #[.val (.int p0), .val (.int p1), .val (.int p2), .val (.int p3), .val (.int p4), .val (.int v5), .val (.int v6), .val (.int v7), .val (.int v8), .val (.int v9), .val (.int v10), .val (.int v11), .val (.int v12), .val (.int v13), .val (.int v14), .val (.int (3 : Int32)), .val (.ref a3), .val (.double (FP.i2d v13)), .second] [])) _
  refine XS.iconst X9.here hx rfl (hb hby at_216) ?_
  show Steps p.tables e below (T9.setTop (mkF m 217 #[.val (.int p0), .val (.int p1), .val (.int p2), .val (.int p3), .val (.int p4), .val (.int v5), .val (.int v6), .val (.int v7), .val (.int v8), .val (.int v9), .val (.int v10), .val (.int v11), .val (.int v12), .val (.int v13), .val (.int v14), .val (.int (3 : Int32)), .val (.ref a3), .val (.double (FP.i2d v13)), .second] [(.int (1 : Int32))])) _
  refine XS.goto X9.here hx rfl (pc0 := 217) (pc' := 221) rfl (hb hby at_217) (by decide) (by decide) ?_
  show Steps p.tables e below (T9.setTop (mkF m 221 #[.val (.int p0), .val (.int p1), .val (.int p2), .val (.int p3), .val (.int p4), .val (.int v5), .val (.int v6), .val (.int v7), .val (.int v8), .val (.int v9), .val (.int v10), .val (.int v11), .val (.int v12), .val (.int v13), .val (.int v14), .val (.int (3 : Int32)), .val (.ref a3), .val (.double (FP.i2d v13)), .second] [(.int (1 : Int32))])) _
  exact kt
set_option maxRecDepth 65536 in
set_option maxHeartbeats 40000000 in
theorem own_tail4 {p : Program} {l : Launch} {e : Env} {s : State} {m : MethodId} {args : Array Value} {below : List Frame} {meth : Method} {c : Code} {T0 : State} {locs : List Loc} {Z : State} {a0 : Array Value} {h0 : Heap} {n0 : Nat} (p0 p1 p2 p3 p4 v5 v6 v7 v8 v9 v10 v11 v12 v13 v14 : Int32)
    (X0 : Stand p l e room_1 s m args below meth c T0 locs 0 0) (hx : p.tables.exec = Jvm.exec) (hZ : Z.Warmed39 s.vm) (hw : ∀ d ∈ tables_1, d.before a0 Z = true) (hby : c.code = code) (hml : c.maxLocals = 19) (hown : s.vm.findClass "com/example/archerfish/archerfish/benchmark/ComparisonMedianPinLaw" = some m.cls) (e0 : T0.heap = h0) (N0 : Fr n0 locs) (Z0 : n0 ≤ h0.size) :
    ∃ (T' : State) (locs' : List Loc) (pc' : Nat) (Ls' : Array Slot), Stand p l e room_1 s m args below meth c T' locs' 1 4 ∧ Fr n0 locs' ∧ decode c.code pc' = .ok (.ireturn, 1) ∧
      ∀ target, Steps p.tables e below (T'.setTop (mkF m pc' Ls' [(.int (1 : Int32))])) target → Steps p.tables e below (T0.setTop (mkF m 91 #[.val (.int p0), .val (.int p1), .val (.int p2), .val (.int p3), .val (.int p4), .val (.int v5), .val (.int v6), .val (.int v7), .val (.int v8), .val (.int v9), .val (.int v10), .val (.int v11), .val (.int v12), .val (.int v13), .val (.int v14), .val (.int (4 : Int32)), .unset, .unset, .unset] [])) target := by
  obtain ⟨T1, h1, k1, X1, e1, E1, A1, st1⟩ := newP X0 hx hZ (hw _ (List.mem_of_getElem? (i := 7) rfl)) e0 (g := (mkF m 93 #[.val (.int p0), .val (.int p1), .val (.int p2), .val (.int p3), .val (.int p4), .val (.int v5), .val (.int v6), .val (.int v7), .val (.int v8), .val (.int v9), .val (.int v10), .val (.int v11), .val (.int v12), .val (.int v13), .val (.int v14), .val (.int (4 : Int32)), .unset, .unset, .unset] [(.int (4 : Int32))])) rfl (hb hby at_93) rfl (by decide) (cap := 4) (by decide) (by decide) (by decide) (by decide)
  obtain ⟨a3, g2⟩ : ∃ z, z = h0.size := ⟨_, rfl⟩
  rw [← g2] at A1 st1
  have g9 : n0 ≤ a3 := Nat.le_trans Z0 (Nat.le_of_eq g2.symm)
  have Z1 : n0 ≤ h1.size := Nat.le_trans Z0 E1.1
  obtain ⟨c1, B1, S1⟩ : ∃ cl : Cell, Arr Z h1 a3 cl .double ∧ cl.slots.size = 4 := ⟨_, A1, (sz_new _ _ _).trans (by decide)⟩
  have J1 : ¬ ((0 : Int32) < 0 ∨ c1.slots.size ≤ (0 : Int32).toNatClampNeg) := by rw [S1]; decide
  obtain ⟨T2, h2, X2, e2, W2, st2⟩ := stD X1 hx hZ e1 B1 (j := (0 : Int32)) (x := FP.i2d v9) J1 (g := (mkF m 103 #[.val (.int p0), .val (.int p1), .val (.int p2), .val (.int p3), .val (.int p4), .val (.int v5), .val (.int v6), .val (.int v7), .val (.int v8), .val (.int v9), .val (.int v10), .val (.int v11), .val (.int v12), .val (.int v13), .val (.int v14), .val (.int (4 : Int32)), .val (.ref a3), .unset, .unset] [(.double (FP.i2d v9)), (.int (0 : Int32)), (.ref a3)])) rfl rfl (hb hby at_103)
  have N2 := Fr.snoc X2 N0 g9
  obtain ⟨c2, B2, S2, u2_0⟩ : ∃ cl : Cell, Arr Z h2 a3 cl .double ∧ cl.slots.size = 4 ∧ cl.slots[(0 : Int32).toNatClampNeg]? = some (.double (FP.i2d v9)) := ⟨_, B1.same W2, (sz_set _ _ _).trans S1, get_hit J1 rfl⟩
  have Z2 : n0 ≤ h2.size := Nat.le_trans Z1 (Nat.le_of_eq W2.size.symm)
  have J2 : ¬ ((1 : Int32) < 0 ∨ c2.slots.size ≤ (1 : Int32).toNatClampNeg) := by rw [S2]; decide
  obtain ⟨T3, h3, X3, e3, W3, st3⟩ := stD X2 hx hZ e2 B2 (j := (1 : Int32)) (x := FP.i2d v13) J2 (g := (mkF m 116 #[.val (.int p0), .val (.int p1), .val (.int p2), .val (.int p3), .val (.int p4), .val (.int v5), .val (.int v6), .val (.int v7), .val (.int v8), .val (.int v9), .val (.int v10), .val (.int v11), .val (.int v12), .val (.int v13), .val (.int v14), .val (.int (4 : Int32)), .val (.ref a3), .unset, .unset] [(.double (FP.i2d v13)), (.int (1 : Int32)), (.ref a3)])) rfl rfl (hb hby at_116)
  have N3 := Fr.snoc X3 N2 g9
  obtain ⟨c3, B3, S3, u3_0, u3_1⟩ : ∃ cl : Cell, Arr Z h3 a3 cl .double ∧ cl.slots.size = 4 ∧ cl.slots[(0 : Int32).toNatClampNeg]? = some (.double (FP.i2d v9)) ∧ cl.slots[(1 : Int32).toNatClampNeg]? = some (.double (FP.i2d v13)) := ⟨_, B2.same W3, (sz_set _ _ _).trans S2, (get_miss (by decide) (by decide) (by decide)).trans u2_0, get_hit J2 rfl⟩
  have Z3 : n0 ≤ h3.size := Nat.le_trans Z2 (Nat.le_of_eq W3.size.symm)
  have J3 : ¬ ((2 : Int32) < 0 ∨ c3.slots.size ≤ (2 : Int32).toNatClampNeg) := by rw [S3]; decide
  obtain ⟨T4, h4, X4, e4, W4, st4⟩ := stD X3 hx hZ e3 B3 (j := (2 : Int32)) (x := FP.i2d v14) J3 (g := (mkF m 129 #[.val (.int p0), .val (.int p1), .val (.int p2), .val (.int p3), .val (.int p4), .val (.int v5), .val (.int v6), .val (.int v7), .val (.int v8), .val (.int v9), .val (.int v10), .val (.int v11), .val (.int v12), .val (.int v13), .val (.int v14), .val (.int (4 : Int32)), .val (.ref a3), .unset, .unset] [(.double (FP.i2d v14)), (.int (2 : Int32)), (.ref a3)])) rfl rfl (hb hby at_129)
  have N4 := Fr.snoc X4 N3 g9
  obtain ⟨c4, B4, S4, u4_0, u4_1, u4_2⟩ : ∃ cl : Cell, Arr Z h4 a3 cl .double ∧ cl.slots.size = 4 ∧ cl.slots[(0 : Int32).toNatClampNeg]? = some (.double (FP.i2d v9)) ∧ cl.slots[(1 : Int32).toNatClampNeg]? = some (.double (FP.i2d v13)) ∧ cl.slots[(2 : Int32).toNatClampNeg]? = some (.double (FP.i2d v14)) := ⟨_, B3.same W4, (sz_set _ _ _).trans S3, (get_miss (by decide) (by decide) (by decide)).trans u3_0, (get_miss (by decide) (by decide) (by decide)).trans u3_1, get_hit J3 rfl⟩
  have Z4 : n0 ≤ h4.size := Nat.le_trans Z3 (Nat.le_of_eq W4.size.symm)
  have J4 : ¬ ((3 : Int32) < 0 ∨ c4.slots.size ≤ (3 : Int32).toNatClampNeg) := by rw [S4]; decide
  obtain ⟨T5, h5, X5, e5, W5, st5⟩ := stD X4 hx hZ e4 B4 (j := (3 : Int32)) (x := FP.i2d v12) J4 (g := (mkF m 142 #[.val (.int p0), .val (.int p1), .val (.int p2), .val (.int p3), .val (.int p4), .val (.int v5), .val (.int v6), .val (.int v7), .val (.int v8), .val (.int v9), .val (.int v10), .val (.int v11), .val (.int v12), .val (.int v13), .val (.int v14), .val (.int (4 : Int32)), .val (.ref a3), .unset, .unset] [(.double (FP.i2d v12)), (.int (3 : Int32)), (.ref a3)])) rfl rfl (hb hby at_142)
  have N5 := Fr.snoc X5 N4 g9
  obtain ⟨c5, B5, S5, u5_0, u5_1, u5_2, u5_3⟩ : ∃ cl : Cell, Arr Z h5 a3 cl .double ∧ cl.slots.size = 4 ∧ cl.slots[(0 : Int32).toNatClampNeg]? = some (.double (FP.i2d v9)) ∧ cl.slots[(1 : Int32).toNatClampNeg]? = some (.double (FP.i2d v13)) ∧ cl.slots[(2 : Int32).toNatClampNeg]? = some (.double (FP.i2d v14)) ∧ cl.slots[(3 : Int32).toNatClampNeg]? = some (.double (FP.i2d v12)) := ⟨_, B4.same W5, (sz_set _ _ _).trans S4, (get_miss (by decide) (by decide) (by decide)).trans u4_0, (get_miss (by decide) (by decide) (by decide)).trans u4_1, (get_miss (by decide) (by decide) (by decide)).trans u4_2, get_hit J4 rfl⟩
  have Z5 : n0 ≤ h5.size := Nat.le_trans Z4 (Nat.le_of_eq W5.size.symm)
  have hj : ¬ ((1 : Int32) < 0 ∨ c5.slots.size ≤ (1 : Int32).toNatClampNeg) := by rw [S5]; decide
  have hk : ¬ ((2 : Int32) < 0 ∨ c5.slots.size ≤ (2 : Int32).toNatClampNeg) := by rw [S5]; decide
  have hn : c5.slots.size.toInt32 = (4 : Int32) := by rw [S5]; decide
  obtain ⟨_, _, ⟨T9, L9, k9, n9⟩, -, X9, ⟨Lc9, hQ9, l9, y9, z9⟩, st9⟩ := Jvm.LawKit.callS X5 hx (y := (⟨"com/example/archerfish/archerfish/benchmark/Comparison", "median", "([D)D"⟩ : MethodName)) hown (mvT hZ (hw _ (List.mem_of_getElem? (i := 8) rfl))) (mvT hZ (hw _ (List.mem_of_getElem? (i := 9) rfl))) (mvT hZ (hw _ (List.mem_of_getElem? (i := 10) rfl))) (mvT hZ (hw _ (List.mem_of_getElem? (i := 11) rfl))) (by decide) (backOf (W := 0) (own_rmEven l Z a0 hw [] a3 c5 (4 : Int32) (2 : Int32) (1 : Int32) (FP.i2d v13) (FP.i2d v14) h5 n0 B5 hn (by decide) (by decide) (by decide) hk u5_2 hj u5_1 (own_nn1 v13 v14) (own_nn2 v13 v14)) hZ (hw _ (List.mem_of_getElem? (i := 11) rfl)) (hw _ (List.mem_of_getElem? (i := 10) rfl)) (by decide) (by decide)) (g := (mkF m 145 #[.val (.int p0), .val (.int p1), .val (.int p2), .val (.int p3), .val (.int p4), .val (.int v5), .val (.int v6), .val (.int v7), .val (.int v8), .val (.int v9), .val (.int v10), .val (.int v11), .val (.int v12), .val (.int v13), .val (.int v14), .val (.int (4 : Int32)), .val (.ref a3), .unset, .unset] [(.ref a3)])) rfl (by rw [hml]; rfl) (argsL := [(.ref a3)]) (rest := []) (lenOf own_pdD rfl) rfl (by show 2 * 0 + _ ≤ _; exact Nat.le_of_eq rfl) (hb hby at_145) (fun _ _ => ⟨rfl, e5, (by decide : 1 + 0 ≤ _), (by decide : 4 + 0 ≤ _)⟩)
  dsimp only [Pt.U, Pt.locs, Pt.cells, Pt.slots] at X9 l9 y9 z9 st9 hQ9
  subst l9 y9 z9
  obtain ⟨rfl, N9, e9⟩ := hQ9
  have N10 := Fr.app N5 N9
  refine ⟨T9, _, 245, #[.val (.int p0), .val (.int p1), .val (.int p2), .val (.int p3), .val (.int p4), .val (.int v5), .val (.int v6), .val (.int v7), .val (.int v8), .val (.int v9), .val (.int v10), .val (.int v11), .val (.int v12), .val (.int v13), .val (.int v14), .val (.int (4 : Int32)), .val (.ref a3), .val (.double (FP.ddiv (FP.dadd (FP.i2d v13) (FP.i2d v14)) (4611686018427387904 : UInt64))), .second], X9, N10, (hb hby at_245), fun target kt => ?_⟩
  show Steps p.tables e below (T0.setTop (mkF m 91 #[.val (.int p0), .val (.int p1), .val (.int p2), .val (.int p3), .val (.int p4), .val (.int v5), .val (.int v6), .val (.int v7), .val (.int v8), .val (.int v9), .val (.int v10), .val (.int v11), .val (.int v12), .val (.int v13), .val (.int v14), .val (.int (4 : Int32)), .unset, .unset, .unset] [])) _
  refine XS.iload X0.here hx rfl (hb hby at_91) rfl ?_
  show Steps p.tables e below (T0.setTop (mkF m 93 #[.val (.int p0), .val (.int p1), .val (.int p2), .val (.int p3), .val (.int p4), .val (.int v5), .val (.int v6), .val (.int v7), .val (.int v8), .val (.int v9), .val (.int v10), .val (.int v11), .val (.int v12), .val (.int v13), .val (.int v14), .val (.int (4 : Int32)), .unset, .unset, .unset] [(.int (4 : Int32))])) _
  refine st1 _ ?_
  show Steps p.tables e below (T1.setTop (mkF m 95 #[.val (.int p0), .val (.int p1), .val (.int p2), .val (.int p3), .val (.int p4), .val (.int v5), .val (.int v6), .val (.int v7), .val (.int v8), .val (.int v9), .val (.int v10), .val (.int v11), .val (.int v12), .val (.int v13), .val (.int v14), .val (.int (4 : Int32)), .unset, .unset, .unset] [(.ref a3)])) _
  refine XS.astore X1.here hx rfl (hb hby at_95) rfl rfl (l' := #[.val (.int p0), .val (.int p1), .val (.int p2), .val (.int p3), .val (.int p4), .val (.int v5), .val (.int v6), .val (.int v7), .val (.int v8), .val (.int v9), .val (.int v10), .val (.int v11), .val (.int v12), .val (.int v13), .val (.int v14), .val (.int (4 : Int32)), .val (.ref a3), .unset, .unset]) rfl ?_
  show Steps p.tables e below (T1.setTop (mkF m 97 #[.val (.int p0), .val (.int p1), .val (.int p2), .val (.int p3), .val (.int p4), .val (.int v5), .val (.int v6), .val (.int v7), .val (.int v8), .val (.int v9), .val (.int v10), .val (.int v11), .val (.int v12), .val (.int v13), .val (.int v14), .val (.int (4 : Int32)), .val (.ref a3), .unset, .unset] [])) _
  refine XS.aload X1.here hx rfl (hb hby at_97) rfl rfl ?_
  show Steps p.tables e below (T1.setTop (mkF m 99 #[.val (.int p0), .val (.int p1), .val (.int p2), .val (.int p3), .val (.int p4), .val (.int v5), .val (.int v6), .val (.int v7), .val (.int v8), .val (.int v9), .val (.int v10), .val (.int v11), .val (.int v12), .val (.int v13), .val (.int v14), .val (.int (4 : Int32)), .val (.ref a3), .unset, .unset] [(.ref a3)])) _
  refine XS.iconst X1.here hx rfl (hb hby at_99) ?_
  show Steps p.tables e below (T1.setTop (mkF m 100 #[.val (.int p0), .val (.int p1), .val (.int p2), .val (.int p3), .val (.int p4), .val (.int v5), .val (.int v6), .val (.int v7), .val (.int v8), .val (.int v9), .val (.int v10), .val (.int v11), .val (.int v12), .val (.int v13), .val (.int v14), .val (.int (4 : Int32)), .val (.ref a3), .unset, .unset] [(.int (0 : Int32)), (.ref a3)])) _
  refine XS.iload X1.here hx rfl (hb hby at_100) rfl ?_
  show Steps p.tables e below (T1.setTop (mkF m 102 #[.val (.int p0), .val (.int p1), .val (.int p2), .val (.int p3), .val (.int p4), .val (.int v5), .val (.int v6), .val (.int v7), .val (.int v8), .val (.int v9), .val (.int v10), .val (.int v11), .val (.int v12), .val (.int v13), .val (.int v14), .val (.int (4 : Int32)), .val (.ref a3), .unset, .unset] [(.int v9), (.int (0 : Int32)), (.ref a3)])) _
  refine XS.i2dS X1.here hx rfl (hb hby at_102) rfl rfl ?_
  show Steps p.tables e below (T1.setTop (mkF m 103 #[.val (.int p0), .val (.int p1), .val (.int p2), .val (.int p3), .val (.int p4), .val (.int v5), .val (.int v6), .val (.int v7), .val (.int v8), .val (.int v9), .val (.int v10), .val (.int v11), .val (.int v12), .val (.int v13), .val (.int v14), .val (.int (4 : Int32)), .val (.ref a3), .unset, .unset] [(.double (FP.i2d v9)), (.int (0 : Int32)), (.ref a3)])) _
  refine st2 _ ?_
  show Steps p.tables e below (T2.setTop (mkF m 104 #[.val (.int p0), .val (.int p1), .val (.int p2), .val (.int p3), .val (.int p4), .val (.int v5), .val (.int v6), .val (.int v7), .val (.int v8), .val (.int v9), .val (.int v10), .val (.int v11), .val (.int v12), .val (.int v13), .val (.int v14), .val (.int (4 : Int32)), .val (.ref a3), .unset, .unset] [])) _
  refine XS.iload X2.here hx rfl (hb hby at_104) rfl ?_
  show Steps p.tables e below (T2.setTop (mkF m 106 #[.val (.int p0), .val (.int p1), .val (.int p2), .val (.int p3), .val (.int p4), .val (.int v5), .val (.int v6), .val (.int v7), .val (.int v8), .val (.int v9), .val (.int v10), .val (.int v11), .val (.int v12), .val (.int v13), .val (.int v14), .val (.int (4 : Int32)), .val (.ref a3), .unset, .unset] [(.int (4 : Int32))])) _
  refine XS.iconst X2.here hx rfl (hb hby at_106) ?_
  show Steps p.tables e below (T2.setTop (mkF m 107 #[.val (.int p0), .val (.int p1), .val (.int p2), .val (.int p3), .val (.int p4), .val (.int v5), .val (.int v6), .val (.int v7), .val (.int v8), .val (.int v9), .val (.int v10), .val (.int v11), .val (.int v12), .val (.int v13), .val (.int v14), .val (.int (4 : Int32)), .val (.ref a3), .unset, .unset] [(.int (1 : Int32)), (.int (4 : Int32))])) _
  refine XS.icmpNo X2.here hx rfl (hb hby at_107) rfl (by decide) ?_
  show Steps p.tables e below (T2.setTop (mkF m 110 #[.val (.int p0), .val (.int p1), .val (.int p2), .val (.int p3), .val (.int p4), .val (.int v5), .val (.int v6), .val (.int v7), .val (.int v8), .val (.int v9), .val (.int v10), .val (.int v11), .val (.int v12), .val (.int v13), .val (.int v14), .val (.int (4 : Int32)), .val (.ref a3), .unset, .unset] [])) _
  refine XS.aload X2.here hx rfl (hb hby at_110) rfl rfl ?_
  show Steps p.tables e below (T2.setTop (mkF m 112 #[.val (.int p0), .val (.int p1), .val (.int p2), .val (.int p3), .val (.int p4), .val (.int v5), .val (.int v6), .val (.int v7), .val (.int v8), .val (.int v9), .val (.int v10), .val (.int v11), .val (.int v12), .val (.int v13), .val (.int v14), .val (.int (4 : Int32)), .val (.ref a3), .unset, .unset] [(.ref a3)])) _
  refine XS.iconst X2.here hx rfl (hb hby at_112) ?_
  show Steps p.tables e below (T2.setTop (mkF m 113 #[.val (.int p0), .val (.int p1), .val (.int p2), .val (.int p3), .val (.int p4), .val (.int v5), .val (.int v6), .val (.int v7), .val (.int v8), .val (.int v9), .val (.int v10), .val (.int v11), .val (.int v12), .val (.int v13), .val (.int v14), .val (.int (4 : Int32)), .val (.ref a3), .unset, .unset] [(.int (1 : Int32)), (.ref a3)])) _
  refine XS.iload X2.here hx rfl (hb hby at_113) rfl ?_
  show Steps p.tables e below (T2.setTop (mkF m 115 #[.val (.int p0), .val (.int p1), .val (.int p2), .val (.int p3), .val (.int p4), .val (.int v5), .val (.int v6), .val (.int v7), .val (.int v8), .val (.int v9), .val (.int v10), .val (.int v11), .val (.int v12), .val (.int v13), .val (.int v14), .val (.int (4 : Int32)), .val (.ref a3), .unset, .unset] [(.int v13), (.int (1 : Int32)), (.ref a3)])) _
  refine XS.i2dS X2.here hx rfl (hb hby at_115) rfl rfl ?_
  show Steps p.tables e below (T2.setTop (mkF m 116 #[.val (.int p0), .val (.int p1), .val (.int p2), .val (.int p3), .val (.int p4), .val (.int v5), .val (.int v6), .val (.int v7), .val (.int v8), .val (.int v9), .val (.int v10), .val (.int v11), .val (.int v12), .val (.int v13), .val (.int v14), .val (.int (4 : Int32)), .val (.ref a3), .unset, .unset] [(.double (FP.i2d v13)), (.int (1 : Int32)), (.ref a3)])) _
  refine st3 _ ?_
  show Steps p.tables e below (T3.setTop (mkF m 117 #[.val (.int p0), .val (.int p1), .val (.int p2), .val (.int p3), .val (.int p4), .val (.int v5), .val (.int v6), .val (.int v7), .val (.int v8), .val (.int v9), .val (.int v10), .val (.int v11), .val (.int v12), .val (.int v13), .val (.int v14), .val (.int (4 : Int32)), .val (.ref a3), .unset, .unset] [])) _
  refine XS.iload X3.here hx rfl (hb hby at_117) rfl ?_
  show Steps p.tables e below (T3.setTop (mkF m 119 #[.val (.int p0), .val (.int p1), .val (.int p2), .val (.int p3), .val (.int p4), .val (.int v5), .val (.int v6), .val (.int v7), .val (.int v8), .val (.int v9), .val (.int v10), .val (.int v11), .val (.int v12), .val (.int v13), .val (.int v14), .val (.int (4 : Int32)), .val (.ref a3), .unset, .unset] [(.int (4 : Int32))])) _
  refine XS.iconst X3.here hx rfl (hb hby at_119) ?_
  show Steps p.tables e below (T3.setTop (mkF m 120 #[.val (.int p0), .val (.int p1), .val (.int p2), .val (.int p3), .val (.int p4), .val (.int v5), .val (.int v6), .val (.int v7), .val (.int v8), .val (.int v9), .val (.int v10), .val (.int v11), .val (.int v12), .val (.int v13), .val (.int v14), .val (.int (4 : Int32)), .val (.ref a3), .unset, .unset] [(.int (2 : Int32)), (.int (4 : Int32))])) _
  refine XS.icmpNo X3.here hx rfl (hb hby at_120) rfl (by decide) ?_
  show Steps p.tables e below (T3.setTop (mkF m 123 #[.val (.int p0), .val (.int p1), .val (.int p2), .val (.int p3), .val (.int p4), .val (.int v5), .val (.int v6), .val (.int v7), .val (.int v8), .val (.int v9), .val (.int v10), .val (.int v11), .val (.int v12), .val (.int v13), .val (.int v14), .val (.int (4 : Int32)), .val (.ref a3), .unset, .unset] [])) _
  refine XS.aload X3.here hx rfl (hb hby at_123) rfl rfl ?_
  show Steps p.tables e below (T3.setTop (mkF m 125 #[.val (.int p0), .val (.int p1), .val (.int p2), .val (.int p3), .val (.int p4), .val (.int v5), .val (.int v6), .val (.int v7), .val (.int v8), .val (.int v9), .val (.int v10), .val (.int v11), .val (.int v12), .val (.int v13), .val (.int v14), .val (.int (4 : Int32)), .val (.ref a3), .unset, .unset] [(.ref a3)])) _
  refine XS.iconst X3.here hx rfl (hb hby at_125) ?_
  show Steps p.tables e below (T3.setTop (mkF m 126 #[.val (.int p0), .val (.int p1), .val (.int p2), .val (.int p3), .val (.int p4), .val (.int v5), .val (.int v6), .val (.int v7), .val (.int v8), .val (.int v9), .val (.int v10), .val (.int v11), .val (.int v12), .val (.int v13), .val (.int v14), .val (.int (4 : Int32)), .val (.ref a3), .unset, .unset] [(.int (2 : Int32)), (.ref a3)])) _
  refine XS.iload X3.here hx rfl (hb hby at_126) rfl ?_
  show Steps p.tables e below (T3.setTop (mkF m 128 #[.val (.int p0), .val (.int p1), .val (.int p2), .val (.int p3), .val (.int p4), .val (.int v5), .val (.int v6), .val (.int v7), .val (.int v8), .val (.int v9), .val (.int v10), .val (.int v11), .val (.int v12), .val (.int v13), .val (.int v14), .val (.int (4 : Int32)), .val (.ref a3), .unset, .unset] [(.int v14), (.int (2 : Int32)), (.ref a3)])) _
  refine XS.i2dS X3.here hx rfl (hb hby at_128) rfl rfl ?_
  show Steps p.tables e below (T3.setTop (mkF m 129 #[.val (.int p0), .val (.int p1), .val (.int p2), .val (.int p3), .val (.int p4), .val (.int v5), .val (.int v6), .val (.int v7), .val (.int v8), .val (.int v9), .val (.int v10), .val (.int v11), .val (.int v12), .val (.int v13), .val (.int v14), .val (.int (4 : Int32)), .val (.ref a3), .unset, .unset] [(.double (FP.i2d v14)), (.int (2 : Int32)), (.ref a3)])) _
  refine st4 _ ?_
  show Steps p.tables e below (T4.setTop (mkF m 130 #[.val (.int p0), .val (.int p1), .val (.int p2), .val (.int p3), .val (.int p4), .val (.int v5), .val (.int v6), .val (.int v7), .val (.int v8), .val (.int v9), .val (.int v10), .val (.int v11), .val (.int v12), .val (.int v13), .val (.int v14), .val (.int (4 : Int32)), .val (.ref a3), .unset, .unset] [])) _
  refine XS.iload X4.here hx rfl (hb hby at_130) rfl ?_
  show Steps p.tables e below (T4.setTop (mkF m 132 #[.val (.int p0), .val (.int p1), .val (.int p2), .val (.int p3), .val (.int p4), .val (.int v5), .val (.int v6), .val (.int v7), .val (.int v8), .val (.int v9), .val (.int v10), .val (.int v11), .val (.int v12), .val (.int v13), .val (.int v14), .val (.int (4 : Int32)), .val (.ref a3), .unset, .unset] [(.int (4 : Int32))])) _
  refine XS.iconst X4.here hx rfl (hb hby at_132) ?_
  show Steps p.tables e below (T4.setTop (mkF m 133 #[.val (.int p0), .val (.int p1), .val (.int p2), .val (.int p3), .val (.int p4), .val (.int v5), .val (.int v6), .val (.int v7), .val (.int v8), .val (.int v9), .val (.int v10), .val (.int v11), .val (.int v12), .val (.int v13), .val (.int v14), .val (.int (4 : Int32)), .val (.ref a3), .unset, .unset] [(.int (3 : Int32)), (.int (4 : Int32))])) _
  refine XS.icmpNo X4.here hx rfl (hb hby at_133) rfl (by decide) ?_
  show Steps p.tables e below (T4.setTop (mkF m 136 #[.val (.int p0), .val (.int p1), .val (.int p2), .val (.int p3), .val (.int p4), .val (.int v5), .val (.int v6), .val (.int v7), .val (.int v8), .val (.int v9), .val (.int v10), .val (.int v11), .val (.int v12), .val (.int v13), .val (.int v14), .val (.int (4 : Int32)), .val (.ref a3), .unset, .unset] [])) _
  refine XS.aload X4.here hx rfl (hb hby at_136) rfl rfl ?_
  show Steps p.tables e below (T4.setTop (mkF m 138 #[.val (.int p0), .val (.int p1), .val (.int p2), .val (.int p3), .val (.int p4), .val (.int v5), .val (.int v6), .val (.int v7), .val (.int v8), .val (.int v9), .val (.int v10), .val (.int v11), .val (.int v12), .val (.int v13), .val (.int v14), .val (.int (4 : Int32)), .val (.ref a3), .unset, .unset] [(.ref a3)])) _
  refine XS.iconst X4.here hx rfl (hb hby at_138) ?_
  show Steps p.tables e below (T4.setTop (mkF m 139 #[.val (.int p0), .val (.int p1), .val (.int p2), .val (.int p3), .val (.int p4), .val (.int v5), .val (.int v6), .val (.int v7), .val (.int v8), .val (.int v9), .val (.int v10), .val (.int v11), .val (.int v12), .val (.int v13), .val (.int v14), .val (.int (4 : Int32)), .val (.ref a3), .unset, .unset] [(.int (3 : Int32)), (.ref a3)])) _
  refine XS.iload X4.here hx rfl (hb hby at_139) rfl ?_
  show Steps p.tables e below (T4.setTop (mkF m 141 #[.val (.int p0), .val (.int p1), .val (.int p2), .val (.int p3), .val (.int p4), .val (.int v5), .val (.int v6), .val (.int v7), .val (.int v8), .val (.int v9), .val (.int v10), .val (.int v11), .val (.int v12), .val (.int v13), .val (.int v14), .val (.int (4 : Int32)), .val (.ref a3), .unset, .unset] [(.int v12), (.int (3 : Int32)), (.ref a3)])) _
  refine XS.i2dS X4.here hx rfl (hb hby at_141) rfl rfl ?_
  show Steps p.tables e below (T4.setTop (mkF m 142 #[.val (.int p0), .val (.int p1), .val (.int p2), .val (.int p3), .val (.int p4), .val (.int v5), .val (.int v6), .val (.int v7), .val (.int v8), .val (.int v9), .val (.int v10), .val (.int v11), .val (.int v12), .val (.int v13), .val (.int v14), .val (.int (4 : Int32)), .val (.ref a3), .unset, .unset] [(.double (FP.i2d v12)), (.int (3 : Int32)), (.ref a3)])) _
  refine st5 _ ?_
  show Steps p.tables e below (T5.setTop (mkF m 143 #[.val (.int p0), .val (.int p1), .val (.int p2), .val (.int p3), .val (.int p4), .val (.int v5), .val (.int v6), .val (.int v7), .val (.int v8), .val (.int v9), .val (.int v10), .val (.int v11), .val (.int v12), .val (.int v13), .val (.int v14), .val (.int (4 : Int32)), .val (.ref a3), .unset, .unset] [])) _
  refine XS.aload X5.here hx rfl (hb hby at_143) rfl rfl ?_
  show Steps p.tables e below (T5.setTop (mkF m 145 #[.val (.int p0), .val (.int p1), .val (.int p2), .val (.int p3), .val (.int p4), .val (.int v5), .val (.int v6), .val (.int v7), .val (.int v8), .val (.int v9), .val (.int v10), .val (.int v11), .val (.int v12), .val (.int v13), .val (.int v14), .val (.int (4 : Int32)), .val (.ref a3), .unset, .unset] [(.ref a3)])) _
  refine st9 _ ?_
  show Steps p.tables e below (T9.setTop (mkF m 148 #[.val (.int p0), .val (.int p1), .val (.int p2), .val (.int p3), .val (.int p4), .val (.int v5), .val (.int v6), .val (.int v7), .val (.int v8), .val (.int v9), .val (.int v10), .val (.int v11), .val (.int v12), .val (.int v13), .val (.int v14), .val (.int (4 : Int32)), .val (.ref a3), .unset, .unset] [(.double (FP.ddiv (FP.dadd (FP.i2d v13) (FP.i2d v14)) (4611686018427387904 : UInt64)))])) _
  refine XS.dstore X9.here hx rfl (hb hby at_148) rfl (l' := #[.val (.int p0), .val (.int p1), .val (.int p2), .val (.int p3), .val (.int p4), .val (.int v5), .val (.int v6), .val (.int v7), .val (.int v8), .val (.int v9), .val (.int v10), .val (.int v11), .val (.int v12), .val (.int v13), .val (.int v14), .val (.int (4 : Int32)), .val (.ref a3), .val (.double (FP.ddiv (FP.dadd (FP.i2d v13) (FP.i2d v14)) (4611686018427387904 : UInt64))), .second]) rfl ?_
  show Steps p.tables e below (T9.setTop (mkF m 150 #[.val (.int p0), .val (.int p1), .val (.int p2), .val (.int p3), .val (.int p4), .val (.int v5), .val (.int v6), .val (.int v7), .val (.int v8), .val (.int v9), .val (.int v10), .val (.int v11), .val (.int v12), .val (.int v13), .val (.int v14), .val (.int (4 : Int32)), .val (.ref a3), .val (.double (FP.ddiv (FP.dadd (FP.i2d v13) (FP.i2d v14)) (4611686018427387904 : UInt64))), .second] [])) _
  refine XS.iload X9.here hx rfl (hb hby at_150) rfl ?_
  show Steps p.tables e below (T9.setTop (mkF m 152 #[.val (.int p0), .val (.int p1), .val (.int p2), .val (.int p3), .val (.int p4), .val (.int v5), .val (.int v6), .val (.int v7), .val (.int v8), .val (.int v9), .val (.int v10), .val (.int v11), .val (.int v12), .val (.int v13), .val (.int v14), .val (.int (4 : Int32)), .val (.ref a3), .val (.double (FP.ddiv (FP.dadd (FP.i2d v13) (FP.i2d v14)) (4611686018427387904 : UInt64))), .second] [(.int (4 : Int32))])) _
  refine XS.iconst X9.here hx rfl (hb hby at_152) ?_
  show Steps p.tables e below (T9.setTop (mkF m 153 #[.val (.int p0), .val (.int p1), .val (.int p2), .val (.int p3), .val (.int p4), .val (.int v5), .val (.int v6), .val (.int v7), .val (.int v8), .val (.int v9), .val (.int v10), .val (.int v11), .val (.int v12), .val (.int v13), .val (.int v14), .val (.int (4 : Int32)), .val (.ref a3), .val (.double (FP.ddiv (FP.dadd (FP.i2d v13) (FP.i2d v14)) (4611686018427387904 : UInt64))), .second] [(.int (1 : Int32)), (.int (4 : Int32))])) _
  refine XS.icmpYes X9.here hx rfl (pc0 := 153) (pc' := 171) rfl (hb hby at_153) rfl (feq (by decide)).2 (by decide) (by decide) ?_
  show Steps p.tables e below (T9.setTop (mkF m 171 #[.val (.int p0), .val (.int p1), .val (.int p2), .val (.int p3), .val (.int p4), .val (.int v5), .val (.int v6), .val (.int v7), .val (.int v8), .val (.int v9), .val (.int v10), .val (.int v11), .val (.int v12), .val (.int v13), .val (.int v14), .val (.int (4 : Int32)), .val (.ref a3), .val (.double (FP.ddiv (FP.dadd (FP.i2d v13) (FP.i2d v14)) (4611686018427387904 : UInt64))), .second] [])) _
  refine XS.iload X9.here hx rfl (hb hby at_171) rfl ?_
  show Steps p.tables e below (T9.setTop (mkF m 173 #[.val (.int p0), .val (.int p1), .val (.int p2), .val (.int p3), .val (.int p4), .val (.int v5), .val (.int v6), .val (.int v7), .val (.int v8), .val (.int v9), .val (.int v10), .val (.int v11), .val (.int v12), .val (.int v13), .val (.int v14), .val (.int (4 : Int32)), .val (.ref a3), .val (.double (FP.ddiv (FP.dadd (FP.i2d v13) (FP.i2d v14)) (4611686018427387904 : UInt64))), .second] [(.int (4 : Int32))])) _
  refine XS.iconst X9.here hx rfl (hb hby at_173) ?_
  show Steps p.tables e below (T9.setTop (mkF m 174 #[.val (.int p0), .val (.int p1), .val (.int p2), .val (.int p3), .val (.int p4), .val (.int v5), .val (.int v6), .val (.int v7), .val (.int v8), .val (.int v9), .val (.int v10), .val (.int v11), .val (.int v12), .val (.int v13), .val (.int v14), .val (.int (4 : Int32)), .val (.ref a3), .val (.double (FP.ddiv (FP.dadd (FP.i2d v13) (FP.i2d v14)) (4611686018427387904 : UInt64))), .second] [(.int (2 : Int32)), (.int (4 : Int32))])) _
  refine XS.icmpYes X9.here hx rfl (pc0 := 174) (pc' := 201) rfl (hb hby at_174) rfl (feq (by decide)).2 (by decide) (by decide) ?_
  show Steps p.tables e below (T9.setTop (mkF m 201 #[.val (.int p0), .val (.int p1), .val (.int p2), .val (.int p3), .val (.int p4), .val (.int v5), .val (.int v6), .val (.int v7), .val (.int v8), .val (.int v9), .val (.int v10), .val (.int v11), .val (.int v12), .val (.int v13), .val (.int v14), .val (.int (4 : Int32)), .val (.ref a3), .val (.double (FP.ddiv (FP.dadd (FP.i2d v13) (FP.i2d v14)) (4611686018427387904 : UInt64))), .second] [])) _
  refine XS.iload X9.here hx rfl (hb hby at_201) rfl ?_
  show Steps p.tables e below (T9.setTop (mkF m 203 #[.val (.int p0), .val (.int p1), .val (.int p2), .val (.int p3), .val (.int p4), .val (.int v5), .val (.int v6), .val (.int v7), .val (.int v8), .val (.int v9), .val (.int v10), .val (.int v11), .val (.int v12), .val (.int v13), .val (.int v14), .val (.int (4 : Int32)), .val (.ref a3), .val (.double (FP.ddiv (FP.dadd (FP.i2d v13) (FP.i2d v14)) (4611686018427387904 : UInt64))), .second] [(.int (4 : Int32))])) _
  refine XS.iconst X9.here hx rfl (hb hby at_203) ?_
  show Steps p.tables e below (T9.setTop (mkF m 204 #[.val (.int p0), .val (.int p1), .val (.int p2), .val (.int p3), .val (.int p4), .val (.int v5), .val (.int v6), .val (.int v7), .val (.int v8), .val (.int v9), .val (.int v10), .val (.int v11), .val (.int v12), .val (.int v13), .val (.int v14), .val (.int (4 : Int32)), .val (.ref a3), .val (.double (FP.ddiv (FP.dadd (FP.i2d v13) (FP.i2d v14)) (4611686018427387904 : UInt64))), .second] [(.int (3 : Int32)), (.int (4 : Int32))])) _
  refine XS.icmpYes X9.here hx rfl (pc0 := 204) (pc' := 222) rfl (hb hby at_204) rfl (feq (by decide)).2 (by decide) (by decide) ?_
  show Steps p.tables e below (T9.setTop (mkF m 222 #[.val (.int p0), .val (.int p1), .val (.int p2), .val (.int p3), .val (.int p4), .val (.int v5), .val (.int v6), .val (.int v7), .val (.int v8), .val (.int v9), .val (.int v10), .val (.int v11), .val (.int v12), .val (.int v13), .val (.int v14), .val (.int (4 : Int32)), .val (.ref a3), .val (.double (FP.ddiv (FP.dadd (FP.i2d v13) (FP.i2d v14)) (4611686018427387904 : UInt64))), .second] [])) _
  refine X9.ldc2DoubleC hx hown (mvT hZ (hw _ (List.mem_of_getElem? (i := 13) rfl))) (g := (mkF m 222 #[.val (.int p0), .val (.int p1), .val (.int p2), .val (.int p3), .val (.int p4), .val (.int v5), .val (.int v6), .val (.int v7), .val (.int v8), .val (.int v9), .val (.int v10), .val (.int v11), .val (.int v12), .val (.int v13), .val (.int v14), .val (.int (4 : Int32)), .val (.ref a3), .val (.double (FP.ddiv (FP.dadd (FP.i2d v13) (FP.i2d v14)) (4611686018427387904 : UInt64))), .second] [])) rfl (hb hby at_222) _ ?_
  show Steps p.tables e below (T9.setTop (mkF m 225 #[.val (.int p0), .val (.int p1), .val (.int p2), .val (.int p3), .val (.int p4), .val (.int v5), .val (.int v6), .val (.int v7), .val (.int v8), .val (.int v9), .val (.int v10), .val (.int v11), .val (.int v12), .val (.int v13), .val (.int v14), .val (.int (4 : Int32)), .val (.ref a3), .val (.double (FP.ddiv (FP.dadd (FP.i2d v13) (FP.i2d v14)) (4611686018427387904 : UInt64))), .second] [(.double (4611686018427387904 : UInt64))])) _
  refine XS.dload X9.here hx rfl (hb hby at_225) rfl ?_
  show Steps p.tables e below (T9.setTop (mkF m 227 #[.val (.int p0), .val (.int p1), .val (.int p2), .val (.int p3), .val (.int p4), .val (.int v5), .val (.int v6), .val (.int v7), .val (.int v8), .val (.int v9), .val (.int v10), .val (.int v11), .val (.int v12), .val (.int v13), .val (.int v14), .val (.int (4 : Int32)), .val (.ref a3), .val (.double (FP.ddiv (FP.dadd (FP.i2d v13) (FP.i2d v14)) (4611686018427387904 : UInt64))), .second] [(.double (FP.ddiv (FP.dadd (FP.i2d v13) (FP.i2d v14)) (4611686018427387904 : UInt64))), (.double (4611686018427387904 : UInt64))])) _
  refine XS.dmulS X9.here hx rfl (hb hby at_227) rfl (own_nn3 v13 v14) rfl ?_
  show Steps p.tables e below (T9.setTop (mkF m 228 #[.val (.int p0), .val (.int p1), .val (.int p2), .val (.int p3), .val (.int p4), .val (.int v5), .val (.int v6), .val (.int v7), .val (.int v8), .val (.int v9), .val (.int v10), .val (.int v11), .val (.int v12), .val (.int v13), .val (.int v14), .val (.int (4 : Int32)), .val (.ref a3), .val (.double (FP.ddiv (FP.dadd (FP.i2d v13) (FP.i2d v14)) (4611686018427387904 : UInt64))), .second] [(.double (FP.dmul (4611686018427387904 : UInt64) (FP.ddiv (FP.dadd (FP.i2d v13) (FP.i2d v14)) (4611686018427387904 : UInt64))))])) _
  refine XS.iload X9.here hx rfl (hb hby at_228) rfl ?_
  show Steps p.tables e below (T9.setTop (mkF m 230 #[.val (.int p0), .val (.int p1), .val (.int p2), .val (.int p3), .val (.int p4), .val (.int v5), .val (.int v6), .val (.int v7), .val (.int v8), .val (.int v9), .val (.int v10), .val (.int v11), .val (.int v12), .val (.int v13), .val (.int v14), .val (.int (4 : Int32)), .val (.ref a3), .val (.double (FP.ddiv (FP.dadd (FP.i2d v13) (FP.i2d v14)) (4611686018427387904 : UInt64))), .second] [(.int v13), (.double (FP.dmul (4611686018427387904 : UInt64) (FP.ddiv (FP.dadd (FP.i2d v13) (FP.i2d v14)) (4611686018427387904 : UInt64))))])) _
  refine XT.i2l X9.here hx rfl (hb hby at_230) rfl ?_
  show Steps p.tables e below (T9.setTop (mkF m 231 #[.val (.int p0), .val (.int p1), .val (.int p2), .val (.int p3), .val (.int p4), .val (.int v5), .val (.int v6), .val (.int v7), .val (.int v8), .val (.int v9), .val (.int v10), .val (.int v11), .val (.int v12), .val (.int v13), .val (.int v14), .val (.int (4 : Int32)), .val (.ref a3), .val (.double (FP.ddiv (FP.dadd (FP.i2d v13) (FP.i2d v14)) (4611686018427387904 : UInt64))), .second] [(.long v13.toInt64), (.double (FP.dmul (4611686018427387904 : UInt64) (FP.ddiv (FP.dadd (FP.i2d v13) (FP.i2d v14)) (4611686018427387904 : UInt64))))])) _
  refine XS.iload X9.here hx rfl (hb hby at_231) rfl ?_
  show Steps p.tables e below (T9.setTop (mkF m 233 #[.val (.int p0), .val (.int p1), .val (.int p2), .val (.int p3), .val (.int p4), .val (.int v5), .val (.int v6), .val (.int v7), .val (.int v8), .val (.int v9), .val (.int v10), .val (.int v11), .val (.int v12), .val (.int v13), .val (.int v14), .val (.int (4 : Int32)), .val (.ref a3), .val (.double (FP.ddiv (FP.dadd (FP.i2d v13) (FP.i2d v14)) (4611686018427387904 : UInt64))), .second] [(.int v14), (.long v13.toInt64), (.double (FP.dmul (4611686018427387904 : UInt64) (FP.ddiv (FP.dadd (FP.i2d v13) (FP.i2d v14)) (4611686018427387904 : UInt64))))])) _
  refine XT.i2l X9.here hx rfl (hb hby at_233) rfl ?_
  show Steps p.tables e below (T9.setTop (mkF m 234 #[.val (.int p0), .val (.int p1), .val (.int p2), .val (.int p3), .val (.int p4), .val (.int v5), .val (.int v6), .val (.int v7), .val (.int v8), .val (.int v9), .val (.int v10), .val (.int v11), .val (.int v12), .val (.int v13), .val (.int v14), .val (.int (4 : Int32)), .val (.ref a3), .val (.double (FP.ddiv (FP.dadd (FP.i2d v13) (FP.i2d v14)) (4611686018427387904 : UInt64))), .second] [(.long v14.toInt64), (.long v13.toInt64), (.double (FP.dmul (4611686018427387904 : UInt64) (FP.ddiv (FP.dadd (FP.i2d v13) (FP.i2d v14)) (4611686018427387904 : UInt64))))])) _
  refine XT.ladd X9.here hx rfl (hb hby at_234) rfl ?_
  show Steps p.tables e below (T9.setTop (mkF m 235 #[.val (.int p0), .val (.int p1), .val (.int p2), .val (.int p3), .val (.int p4), .val (.int v5), .val (.int v6), .val (.int v7), .val (.int v8), .val (.int v9), .val (.int v10), .val (.int v11), .val (.int v12), .val (.int v13), .val (.int v14), .val (.int (4 : Int32)), .val (.ref a3), .val (.double (FP.ddiv (FP.dadd (FP.i2d v13) (FP.i2d v14)) (4611686018427387904 : UInt64))), .second] [(.long (v13.toInt64 + v14.toInt64)), (.double (FP.dmul (4611686018427387904 : UInt64) (FP.ddiv (FP.dadd (FP.i2d v13) (FP.i2d v14)) (4611686018427387904 : UInt64))))])) _
  refine XS.l2dS X9.here hx rfl (hb hby at_235) rfl rfl ?_
  show Steps p.tables e below (T9.setTop (mkF m 236 #[.val (.int p0), .val (.int p1), .val (.int p2), .val (.int p3), .val (.int p4), .val (.int v5), .val (.int v6), .val (.int v7), .val (.int v8), .val (.int v9), .val (.int v10), .val (.int v11), .val (.int v12), .val (.int v13), .val (.int v14), .val (.int (4 : Int32)), .val (.ref a3), .val (.double (FP.ddiv (FP.dadd (FP.i2d v13) (FP.i2d v14)) (4611686018427387904 : UInt64))), .second] [(.double (FP.l2d (v13.toInt64 + v14.toInt64))), (.double (FP.dmul (4611686018427387904 : UInt64) (FP.ddiv (FP.dadd (FP.i2d v13) (FP.i2d v14)) (4611686018427387904 : UInt64))))])) _
  refine XS.dcmpS X9.here hx rfl (hb hby at_236) rfl (own_eqm v13 v14) ?_
  show Steps p.tables e below (T9.setTop (mkF m 237 #[.val (.int p0), .val (.int p1), .val (.int p2), .val (.int p3), .val (.int p4), .val (.int v5), .val (.int v6), .val (.int v7), .val (.int v8), .val (.int v9), .val (.int v10), .val (.int v11), .val (.int v12), .val (.int v13), .val (.int v14), .val (.int (4 : Int32)), .val (.ref a3), .val (.double (FP.ddiv (FP.dadd (FP.i2d v13) (FP.i2d v14)) (4611686018427387904 : UInt64))), .second] [(.int (0 : Int32))])) _
  refine XS.ifNo X9.here hx rfl (hb hby at_237) rfl ((if0 _ _).trans (teq rfl).2) ?_
  show Steps p.tables e below (T9.setTop (mkF m 240 #[.val (.int p0), .val (.int p1), .val (.int p2), .val (.int p3), .val (.int p4), .val (.int v5), .val (.int v6), .val (.int v7), .val (.int v8), .val (.int v9), .val (.int v10), .val (.int v11), .val (.int v12), .val (.int v13), .val (.int v14), .val (.int (4 : Int32)), .val (.ref a3), .val (.double (FP.ddiv (FP.dadd (FP.i2d v13) (FP.i2d v14)) (4611686018427387904 : UInt64))), .second] [])) _
  refine XS.iconst X9.here hx rfl (hb hby at_240) ?_
  show Steps p.tables e below (T9.setTop (mkF m 241 #[.val (.int p0), .val (.int p1), .val (.int p2), .val (.int p3), .val (.int p4), .val (.int v5), .val (.int v6), .val (.int v7), .val (.int v8), .val (.int v9), .val (.int v10), .val (.int v11), .val (.int v12), .val (.int v13), .val (.int v14), .val (.int (4 : Int32)), .val (.ref a3), .val (.double (FP.ddiv (FP.dadd (FP.i2d v13) (FP.i2d v14)) (4611686018427387904 : UInt64))), .second] [(.int (1 : Int32))])) _
  refine XS.goto X9.here hx rfl (pc0 := 241) (pc' := 245) rfl (hb hby at_241) (by decide) (by decide) ?_
  show Steps p.tables e below (T9.setTop (mkF m 245 #[.val (.int p0), .val (.int p1), .val (.int p2), .val (.int p3), .val (.int p4), .val (.int v5), .val (.int v6), .val (.int v7), .val (.int v8), .val (.int v9), .val (.int v10), .val (.int v11), .val (.int v12), .val (.int v13), .val (.int v14), .val (.int (4 : Int32)), .val (.ref a3), .val (.double (FP.ddiv (FP.dadd (FP.i2d v13) (FP.i2d v14)) (4611686018427387904 : UInt64))), .second] [(.int (1 : Int32))])) _
  exact kt
def own_Q1 (Z : State) (h0 : Heap) (n0 : Nat) (v : Option Value) (h : Heap) (L : List Loc) : Prop := v = some (.int 1) ∧ Fr n0 L
set_option maxRecDepth 65536 in
set_option maxHeartbeats 40000000 in
theorem own_rm0 (l : Launch) (Z : State) (a0 : Array Value) (hw : ∀ d ∈ tables_1, d.before a0 Z = true) (ws : List Jvm.Cond) (p0 p1 p2 p3 p4 : Int32) (h0 : Heap) (n0 : Nat) (Z0 : n0 ≤ h0.size) :
    MetFree l x (head1 (Jvm.Cond.code x code maxLocals ret :: ws) room_1) (fun a U => a = #[(.int p0), (.int p1), (.int p2), (.int p3), (.int p4)] ∧ Z.Warmed39 U.vm ∧ U.heap = h0) (fun _ _ _ _ _ => True) (fun _ U o U' => ∃ v L, o = .returned v ∧ own_Q1 Z h0 n0 v U'.heap L ∧ FrameEnd U o U' L 1 4) := by
  refine MetFree.of_bodySF (plainFor_of_name own_pnL) hisR ?_
  intro p e s m args below meth c s₁ Bd hml0 hP hK
  obtain ⟨rfl, hZ, hh⟩ := hP
  have hx := Bd.exec
  have hby := Bd.bytes
  have hml : c.maxLocals = 19 := hml0
  have hown : s.vm.findClass "com/example/archerfish/archerfish/benchmark/ComparisonMedianPinLaw" = some m.cls := findClass_of_methodNamed Bd.named
  have X0 : Stand p l e room_1 s m #[(.int p0), (.int p1), (.int p2), (.int p3), (.int p4)] below meth c s₁ [] 0 0 := Stand.of_body Bd
  have e0 : s₁.heap = h0 := by rw [← hh, Bd.state]; rfl
  have N0 := Fr.nil n0
  have pre0 : ∀ t, Steps p.tables e below (s₁.setTop (mkF m 0 #[.val (.int p0), .val (.int p1), .val (.int p2), .val (.int p3), .val (.int p4), .unset, .unset, .unset, .unset, .unset, .unset, .unset, .unset, .unset, .unset, .unset, .unset, .unset, .unset] [])) t → Steps p.tables e below (s₁.setTop (entryFrame m #[(.int p0), (.int p1), (.int p2), (.int p3), (.int p4)] maxLocals)) t := fun t k => castTop (own_ef0 m p0 p1 p2 p3 p4) k
  obtain ⟨v5, hv5⟩ : ∃ z, own_min p1 p2 = z := ⟨_, rfl⟩
  obtain ⟨_, _, ⟨T5, L5, k5, n5⟩, -, X5, ⟨Lc5, hQ5, l5, y5, z5⟩, st5⟩ := Jvm.LawKit.callS X0 hx (y := (⟨"java/lang/Math", "min", "(II)I"⟩ : MethodName)) hown (mvT hZ (hw _ (List.mem_of_getElem? (i := 0) rfl))) (mvT hZ (hw _ (List.mem_of_getElem? (i := 1) rfl))) (mvT hZ (hw _ (List.mem_of_getElem? (i := 2) rfl))) (mvT hZ (hw _ (List.mem_of_getElem? (i := 3) rfl))) (by decide) (backOf (W := 0) (own_rmMin l Z [] p1 p2 v5 hv5 h0 n0) hZ (hw _ (List.mem_of_getElem? (i := 3) rfl)) (hw _ (List.mem_of_getElem? (i := 2) rfl)) (by decide) (by decide)) (g := (mkF m 2 #[.val (.int p0), .val (.int p1), .val (.int p2), .val (.int p3), .val (.int p4), .unset, .unset, .unset, .unset, .unset, .unset, .unset, .unset, .unset, .unset, .unset, .unset, .unset, .unset] [(.int p2), (.int p1)])) rfl (by rw [hml]; rfl) (argsL := [(.int p1), (.int p2)]) (rest := []) (lenOf own_pdM rfl) rfl (by show 2 * 0 + _ ≤ _; exact Nat.le_of_eq rfl) (hb hby at_2) (fun _ _ => ⟨rfl, e0, (by decide : 0 + 0 ≤ _), (by decide : 0 + 0 ≤ _)⟩)
  dsimp only [Pt.U, Pt.locs, Pt.cells, Pt.slots] at X5 l5 y5 z5 st5 hQ5
  subst l5 y5 z5
  obtain ⟨rfl, M5, e5⟩ := hQ5
  have N5 := Fr.app N0 M5
  obtain ⟨v6, hv6⟩ : ∃ z, own_max p1 p2 = z := ⟨_, rfl⟩
  obtain ⟨_, _, ⟨T6, L6, k6, n6⟩, -, X6, ⟨Lc6, hQ6, l6, y6, z6⟩, st6⟩ := Jvm.LawKit.callS X5 hx (y := (⟨"java/lang/Math", "max", "(II)I"⟩ : MethodName)) hown (mvT hZ (hw _ (List.mem_of_getElem? (i := 4) rfl))) (mvT hZ (hw _ (List.mem_of_getElem? (i := 5) rfl))) (mvT hZ (hw _ (List.mem_of_getElem? (i := 2) rfl))) (mvT hZ (hw _ (List.mem_of_getElem? (i := 6) rfl))) (by decide) (backOf (W := 0) (own_rmMax l Z [] p1 p2 v6 hv6 h0 n0) hZ (hw _ (List.mem_of_getElem? (i := 6) rfl)) (hw _ (List.mem_of_getElem? (i := 2) rfl)) (by decide) (by decide)) (g := (mkF m 9 #[.val (.int p0), .val (.int p1), .val (.int p2), .val (.int p3), .val (.int p4), .val (.int v5), .unset, .unset, .unset, .unset, .unset, .unset, .unset, .unset, .unset, .unset, .unset, .unset, .unset] [(.int p2), (.int p1)])) rfl (by rw [hml]; rfl) (argsL := [(.int p1), (.int p2)]) (rest := []) (lenOf own_pdM rfl) rfl (by show 2 * 0 + _ ≤ _; exact Nat.le_of_eq rfl) (hb hby at_9) (fun _ _ => ⟨rfl, e5, (by decide : 0 + 0 ≤ _), (by decide : 0 + 0 ≤ _)⟩)
  dsimp only [Pt.U, Pt.locs, Pt.cells, Pt.slots] at X6 l6 y6 z6 st6 hQ6
  subst l6 y6 z6
  obtain ⟨rfl, M6, e6⟩ := hQ6
  have N6 := Fr.app N5 M6
  obtain ⟨v7, hv7⟩ : ∃ z, own_min p3 p4 = z := ⟨_, rfl⟩
  obtain ⟨_, _, ⟨T7, L7, k7, n7⟩, -, X7, ⟨Lc7, hQ7, l7, y7, z7⟩, st7⟩ := Jvm.LawKit.callS X6 hx (y := (⟨"java/lang/Math", "min", "(II)I"⟩ : MethodName)) hown (mvT hZ (hw _ (List.mem_of_getElem? (i := 0) rfl))) (mvT hZ (hw _ (List.mem_of_getElem? (i := 1) rfl))) (mvT hZ (hw _ (List.mem_of_getElem? (i := 2) rfl))) (mvT hZ (hw _ (List.mem_of_getElem? (i := 3) rfl))) (by decide) (backOf (W := 0) (own_rmMin l Z [] p3 p4 v7 hv7 h0 n0) hZ (hw _ (List.mem_of_getElem? (i := 3) rfl)) (hw _ (List.mem_of_getElem? (i := 2) rfl)) (by decide) (by decide)) (g := (mkF m 17 #[.val (.int p0), .val (.int p1), .val (.int p2), .val (.int p3), .val (.int p4), .val (.int v5), .val (.int v6), .unset, .unset, .unset, .unset, .unset, .unset, .unset, .unset, .unset, .unset, .unset, .unset] [(.int p4), (.int p3)])) rfl (by rw [hml]; rfl) (argsL := [(.int p3), (.int p4)]) (rest := []) (lenOf own_pdM rfl) rfl (by show 2 * 0 + _ ≤ _; exact Nat.le_of_eq rfl) (hb hby at_17) (fun _ _ => ⟨rfl, e6, (by decide : 0 + 0 ≤ _), (by decide : 0 + 0 ≤ _)⟩)
  dsimp only [Pt.U, Pt.locs, Pt.cells, Pt.slots] at X7 l7 y7 z7 st7 hQ7
  subst l7 y7 z7
  obtain ⟨rfl, M7, e7⟩ := hQ7
  have N7 := Fr.app N6 M7
  obtain ⟨v8, hv8⟩ : ∃ z, own_max p3 p4 = z := ⟨_, rfl⟩
  obtain ⟨_, _, ⟨T8, L8, k8, n8⟩, -, X8, ⟨Lc8, hQ8, l8, y8, z8⟩, st8⟩ := Jvm.LawKit.callS X7 hx (y := (⟨"java/lang/Math", "max", "(II)I"⟩ : MethodName)) hown (mvT hZ (hw _ (List.mem_of_getElem? (i := 4) rfl))) (mvT hZ (hw _ (List.mem_of_getElem? (i := 5) rfl))) (mvT hZ (hw _ (List.mem_of_getElem? (i := 2) rfl))) (mvT hZ (hw _ (List.mem_of_getElem? (i := 6) rfl))) (by decide) (backOf (W := 0) (own_rmMax l Z [] p3 p4 v8 hv8 h0 n0) hZ (hw _ (List.mem_of_getElem? (i := 6) rfl)) (hw _ (List.mem_of_getElem? (i := 2) rfl)) (by decide) (by decide)) (g := (mkF m 25 #[.val (.int p0), .val (.int p1), .val (.int p2), .val (.int p3), .val (.int p4), .val (.int v5), .val (.int v6), .val (.int v7), .unset, .unset, .unset, .unset, .unset, .unset, .unset, .unset, .unset, .unset, .unset] [(.int p4), (.int p3)])) rfl (by rw [hml]; rfl) (argsL := [(.int p3), (.int p4)]) (rest := []) (lenOf own_pdM rfl) rfl (by show 2 * 0 + _ ≤ _; exact Nat.le_of_eq rfl) (hb hby at_25) (fun _ _ => ⟨rfl, e7, (by decide : 0 + 0 ≤ _), (by decide : 0 + 0 ≤ _)⟩)
  dsimp only [Pt.U, Pt.locs, Pt.cells, Pt.slots] at X8 l8 y8 z8 st8 hQ8
  subst l8 y8 z8
  obtain ⟨rfl, M8, e8⟩ := hQ8
  have N8 := Fr.app N7 M8
  obtain ⟨v9, hv9⟩ : ∃ z, own_min v5 v7 = z := ⟨_, rfl⟩
  obtain ⟨_, _, ⟨T9, L9, k9, n9⟩, -, X9, ⟨Lc9, hQ9, l9, y9, z9⟩, st9⟩ := Jvm.LawKit.callS X8 hx (y := (⟨"java/lang/Math", "min", "(II)I"⟩ : MethodName)) hown (mvT hZ (hw _ (List.mem_of_getElem? (i := 0) rfl))) (mvT hZ (hw _ (List.mem_of_getElem? (i := 1) rfl))) (mvT hZ (hw _ (List.mem_of_getElem? (i := 2) rfl))) (mvT hZ (hw _ (List.mem_of_getElem? (i := 3) rfl))) (by decide) (backOf (W := 0) (own_rmMin l Z [] v5 v7 v9 hv9 h0 n0) hZ (hw _ (List.mem_of_getElem? (i := 3) rfl)) (hw _ (List.mem_of_getElem? (i := 2) rfl)) (by decide) (by decide)) (g := (mkF m 34 #[.val (.int p0), .val (.int p1), .val (.int p2), .val (.int p3), .val (.int p4), .val (.int v5), .val (.int v6), .val (.int v7), .val (.int v8), .unset, .unset, .unset, .unset, .unset, .unset, .unset, .unset, .unset, .unset] [(.int v7), (.int v5)])) rfl (by rw [hml]; rfl) (argsL := [(.int v5), (.int v7)]) (rest := []) (lenOf own_pdM rfl) rfl (by show 2 * 0 + _ ≤ _; exact Nat.le_of_eq rfl) (hb hby at_34) (fun _ _ => ⟨rfl, e8, (by decide : 0 + 0 ≤ _), (by decide : 0 + 0 ≤ _)⟩)
  dsimp only [Pt.U, Pt.locs, Pt.cells, Pt.slots] at X9 l9 y9 z9 st9 hQ9
  subst l9 y9 z9
  obtain ⟨rfl, M9, e9⟩ := hQ9
  have N9 := Fr.app N8 M9
  obtain ⟨v10, hv10⟩ : ∃ z, own_max v5 v7 = z := ⟨_, rfl⟩
  obtain ⟨_, _, ⟨T10, L10, k10, n10⟩, -, X10, ⟨Lc10, hQ10, l10, y10, z10⟩, st10⟩ := Jvm.LawKit.callS X9 hx (y := (⟨"java/lang/Math", "max", "(II)I"⟩ : MethodName)) hown (mvT hZ (hw _ (List.mem_of_getElem? (i := 4) rfl))) (mvT hZ (hw _ (List.mem_of_getElem? (i := 5) rfl))) (mvT hZ (hw _ (List.mem_of_getElem? (i := 2) rfl))) (mvT hZ (hw _ (List.mem_of_getElem? (i := 6) rfl))) (by decide) (backOf (W := 0) (own_rmMax l Z [] v5 v7 v10 hv10 h0 n0) hZ (hw _ (List.mem_of_getElem? (i := 6) rfl)) (hw _ (List.mem_of_getElem? (i := 2) rfl)) (by decide) (by decide)) (g := (mkF m 43 #[.val (.int p0), .val (.int p1), .val (.int p2), .val (.int p3), .val (.int p4), .val (.int v5), .val (.int v6), .val (.int v7), .val (.int v8), .val (.int v9), .unset, .unset, .unset, .unset, .unset, .unset, .unset, .unset, .unset] [(.int v7), (.int v5)])) rfl (by rw [hml]; rfl) (argsL := [(.int v5), (.int v7)]) (rest := []) (lenOf own_pdM rfl) rfl (by show 2 * 0 + _ ≤ _; exact Nat.le_of_eq rfl) (hb hby at_43) (fun _ _ => ⟨rfl, e9, (by decide : 0 + 0 ≤ _), (by decide : 0 + 0 ≤ _)⟩)
  dsimp only [Pt.U, Pt.locs, Pt.cells, Pt.slots] at X10 l10 y10 z10 st10 hQ10
  subst l10 y10 z10
  obtain ⟨rfl, M10, e10⟩ := hQ10
  have N10 := Fr.app N9 M10
  obtain ⟨v11, hv11⟩ : ∃ z, own_min v6 v8 = z := ⟨_, rfl⟩
  obtain ⟨_, _, ⟨T11, L11, k11, n11⟩, -, X11, ⟨Lc11, hQ11, l11, y11, z11⟩, st11⟩ := Jvm.LawKit.callS X10 hx (y := (⟨"java/lang/Math", "min", "(II)I"⟩ : MethodName)) hown (mvT hZ (hw _ (List.mem_of_getElem? (i := 0) rfl))) (mvT hZ (hw _ (List.mem_of_getElem? (i := 1) rfl))) (mvT hZ (hw _ (List.mem_of_getElem? (i := 2) rfl))) (mvT hZ (hw _ (List.mem_of_getElem? (i := 3) rfl))) (by decide) (backOf (W := 0) (own_rmMin l Z [] v6 v8 v11 hv11 h0 n0) hZ (hw _ (List.mem_of_getElem? (i := 3) rfl)) (hw _ (List.mem_of_getElem? (i := 2) rfl)) (by decide) (by decide)) (g := (mkF m 52 #[.val (.int p0), .val (.int p1), .val (.int p2), .val (.int p3), .val (.int p4), .val (.int v5), .val (.int v6), .val (.int v7), .val (.int v8), .val (.int v9), .val (.int v10), .unset, .unset, .unset, .unset, .unset, .unset, .unset, .unset] [(.int v8), (.int v6)])) rfl (by rw [hml]; rfl) (argsL := [(.int v6), (.int v8)]) (rest := []) (lenOf own_pdM rfl) rfl (by show 2 * 0 + _ ≤ _; exact Nat.le_of_eq rfl) (hb hby at_52) (fun _ _ => ⟨rfl, e10, (by decide : 0 + 0 ≤ _), (by decide : 0 + 0 ≤ _)⟩)
  dsimp only [Pt.U, Pt.locs, Pt.cells, Pt.slots] at X11 l11 y11 z11 st11 hQ11
  subst l11 y11 z11
  obtain ⟨rfl, M11, e11⟩ := hQ11
  have N11 := Fr.app N10 M11
  obtain ⟨v12, hv12⟩ : ∃ z, own_max v6 v8 = z := ⟨_, rfl⟩
  obtain ⟨_, _, ⟨T12, L12, k12, n12⟩, -, X12, ⟨Lc12, hQ12, l12, y12, z12⟩, st12⟩ := Jvm.LawKit.callS X11 hx (y := (⟨"java/lang/Math", "max", "(II)I"⟩ : MethodName)) hown (mvT hZ (hw _ (List.mem_of_getElem? (i := 4) rfl))) (mvT hZ (hw _ (List.mem_of_getElem? (i := 5) rfl))) (mvT hZ (hw _ (List.mem_of_getElem? (i := 2) rfl))) (mvT hZ (hw _ (List.mem_of_getElem? (i := 6) rfl))) (by decide) (backOf (W := 0) (own_rmMax l Z [] v6 v8 v12 hv12 h0 n0) hZ (hw _ (List.mem_of_getElem? (i := 6) rfl)) (hw _ (List.mem_of_getElem? (i := 2) rfl)) (by decide) (by decide)) (g := (mkF m 61 #[.val (.int p0), .val (.int p1), .val (.int p2), .val (.int p3), .val (.int p4), .val (.int v5), .val (.int v6), .val (.int v7), .val (.int v8), .val (.int v9), .val (.int v10), .val (.int v11), .unset, .unset, .unset, .unset, .unset, .unset, .unset] [(.int v8), (.int v6)])) rfl (by rw [hml]; rfl) (argsL := [(.int v6), (.int v8)]) (rest := []) (lenOf own_pdM rfl) rfl (by show 2 * 0 + _ ≤ _; exact Nat.le_of_eq rfl) (hb hby at_61) (fun _ _ => ⟨rfl, e11, (by decide : 0 + 0 ≤ _), (by decide : 0 + 0 ≤ _)⟩)
  dsimp only [Pt.U, Pt.locs, Pt.cells, Pt.slots] at X12 l12 y12 z12 st12 hQ12
  subst l12 y12 z12
  obtain ⟨rfl, M12, e12⟩ := hQ12
  have N12 := Fr.app N11 M12
  obtain ⟨v13, hv13⟩ : ∃ z, own_min v11 v10 = z := ⟨_, rfl⟩
  obtain ⟨_, _, ⟨T13, L13, k13, n13⟩, -, X13, ⟨Lc13, hQ13, l13, y13, z13⟩, st13⟩ := Jvm.LawKit.callS X12 hx (y := (⟨"java/lang/Math", "min", "(II)I"⟩ : MethodName)) hown (mvT hZ (hw _ (List.mem_of_getElem? (i := 0) rfl))) (mvT hZ (hw _ (List.mem_of_getElem? (i := 1) rfl))) (mvT hZ (hw _ (List.mem_of_getElem? (i := 2) rfl))) (mvT hZ (hw _ (List.mem_of_getElem? (i := 3) rfl))) (by decide) (backOf (W := 0) (own_rmMin l Z [] v11 v10 v13 hv13 h0 n0) hZ (hw _ (List.mem_of_getElem? (i := 3) rfl)) (hw _ (List.mem_of_getElem? (i := 2) rfl)) (by decide) (by decide)) (g := (mkF m 70 #[.val (.int p0), .val (.int p1), .val (.int p2), .val (.int p3), .val (.int p4), .val (.int v5), .val (.int v6), .val (.int v7), .val (.int v8), .val (.int v9), .val (.int v10), .val (.int v11), .val (.int v12), .unset, .unset, .unset, .unset, .unset, .unset] [(.int v10), (.int v11)])) rfl (by rw [hml]; rfl) (argsL := [(.int v11), (.int v10)]) (rest := []) (lenOf own_pdM rfl) rfl (by show 2 * 0 + _ ≤ _; exact Nat.le_of_eq rfl) (hb hby at_70) (fun _ _ => ⟨rfl, e12, (by decide : 0 + 0 ≤ _), (by decide : 0 + 0 ≤ _)⟩)
  dsimp only [Pt.U, Pt.locs, Pt.cells, Pt.slots] at X13 l13 y13 z13 st13 hQ13
  subst l13 y13 z13
  obtain ⟨rfl, M13, e13⟩ := hQ13
  have N13 := Fr.app N12 M13
  obtain ⟨v14, hv14⟩ : ∃ z, own_max v11 v10 = z := ⟨_, rfl⟩
  obtain ⟨_, _, ⟨T14, L14, k14, n14⟩, -, X14, ⟨Lc14, hQ14, l14, y14, z14⟩, st14⟩ := Jvm.LawKit.callS X13 hx (y := (⟨"java/lang/Math", "max", "(II)I"⟩ : MethodName)) hown (mvT hZ (hw _ (List.mem_of_getElem? (i := 4) rfl))) (mvT hZ (hw _ (List.mem_of_getElem? (i := 5) rfl))) (mvT hZ (hw _ (List.mem_of_getElem? (i := 2) rfl))) (mvT hZ (hw _ (List.mem_of_getElem? (i := 6) rfl))) (by decide) (backOf (W := 0) (own_rmMax l Z [] v11 v10 v14 hv14 h0 n0) hZ (hw _ (List.mem_of_getElem? (i := 6) rfl)) (hw _ (List.mem_of_getElem? (i := 2) rfl)) (by decide) (by decide)) (g := (mkF m 79 #[.val (.int p0), .val (.int p1), .val (.int p2), .val (.int p3), .val (.int p4), .val (.int v5), .val (.int v6), .val (.int v7), .val (.int v8), .val (.int v9), .val (.int v10), .val (.int v11), .val (.int v12), .val (.int v13), .unset, .unset, .unset, .unset, .unset] [(.int v10), (.int v11)])) rfl (by rw [hml]; rfl) (argsL := [(.int v11), (.int v10)]) (rest := []) (lenOf own_pdM rfl) rfl (by show 2 * 0 + _ ≤ _; exact Nat.le_of_eq rfl) (hb hby at_79) (fun _ _ => ⟨rfl, e13, (by decide : 0 + 0 ≤ _), (by decide : 0 + 0 ≤ _)⟩)
  dsimp only [Pt.U, Pt.locs, Pt.cells, Pt.slots] at X14 l14 y14 z14 st14 hQ14
  subst l14 y14 z14
  obtain ⟨rfl, M14, e14⟩ := hQ14
  have N14 := Fr.app N13 M14
  obtain ⟨nn, hnn⟩ : ∃ z, (1 : Int32) + (p0 &&& (3 : Int32)) = z := ⟨_, rfl⟩
  obtain ⟨T', locs', pc', Ls', X', N', hdec, st'⟩ : ∃ (T' : State) (locs' : List Loc) (pc' : Nat) (Ls' : Array Slot), Stand p l e room_1 s m #[(.int p0), (.int p1), (.int p2), (.int p3), (.int p4)] below meth c T' locs' 1 4 ∧ Fr n0 locs' ∧ decode c.code pc' = .ok (.ireturn, 1) ∧
      ∀ target, Steps p.tables e below (T'.setTop (mkF m pc' Ls' [(.int (1 : Int32))])) target → Steps p.tables e below (T14.setTop (mkF m 91 #[.val (.int p0), .val (.int p1), .val (.int p2), .val (.int p3), .val (.int p4), .val (.int v5), .val (.int v6), .val (.int v7), .val (.int v8), .val (.int v9), .val (.int v10), .val (.int v11), .val (.int v12), .val (.int v13), .val (.int v14), .val (.int nn), .unset, .unset, .unset] [])) target := by
    have h4 := own_n4 p0
    rw [hnn] at h4
    rcases h4 with q | q | q | q
    · rw [q]; exact own_tail1 p0 p1 p2 p3 p4 v5 v6 v7 v8 v9 v10 v11 v12 v13 v14 X14 hx hZ hw hby hml hown e14 N14 Z0
    · rw [q]; exact own_tail2 p0 p1 p2 p3 p4 v5 v6 v7 v8 v9 v10 v11 v12 v13 v14 X14 hx hZ hw hby hml hown e14 N14 Z0
    · rw [q]; exact own_tail3 p0 p1 p2 p3 p4 v5 v6 v7 v8 v9 v10 v11 v12 v13 v14 X14 hx hZ hw hby hml hown e14 N14 Z0
    · rw [q]; exact own_tail4 p0 p1 p2 p3 p4 v5 v6 v7 v8 v9 v10 v11 v12 v13 v14 X14 hx hZ hw hby hml hown e14 N14 Z0
  obtain ⟨fs, hr, hrun, hended, hW, hsame⟩ := X'.leave (v := some (.int (1 : Int32))) (fun h => by rw [Bd.returns] at h; cases h)
  refine ⟨_, _, pre0 _ ?_, hrun, hended, _, _, rfl, ?_, ⟨_, rfl⟩, hW, hsame.mono (by decide) (by decide)⟩
  · show Steps p.tables e below (s₁.setTop (mkF m 0 #[.val (.int p0), .val (.int p1), .val (.int p2), .val (.int p3), .val (.int p4), .unset, .unset, .unset, .unset, .unset, .unset, .unset, .unset, .unset, .unset, .unset, .unset, .unset, .unset] [])) _
    refine XS.iloadN X0.here hx rfl (hb hby at_0) rfl ?_
    show Steps p.tables e below (s₁.setTop (mkF m 1 #[.val (.int p0), .val (.int p1), .val (.int p2), .val (.int p3), .val (.int p4), .unset, .unset, .unset, .unset, .unset, .unset, .unset, .unset, .unset, .unset, .unset, .unset, .unset, .unset] [(.int p1)])) _
    refine XS.iloadN X0.here hx rfl (hb hby at_1) rfl ?_
    show Steps p.tables e below (s₁.setTop (mkF m 2 #[.val (.int p0), .val (.int p1), .val (.int p2), .val (.int p3), .val (.int p4), .unset, .unset, .unset, .unset, .unset, .unset, .unset, .unset, .unset, .unset, .unset, .unset, .unset, .unset] [(.int p2), (.int p1)])) _
    refine st5 _ ?_
    show Steps p.tables e below (T5.setTop (mkF m 5 #[.val (.int p0), .val (.int p1), .val (.int p2), .val (.int p3), .val (.int p4), .unset, .unset, .unset, .unset, .unset, .unset, .unset, .unset, .unset, .unset, .unset, .unset, .unset, .unset] [(.int v5)])) _
    refine XS.istore X5.here hx rfl (hb hby at_5) rfl (l' := #[.val (.int p0), .val (.int p1), .val (.int p2), .val (.int p3), .val (.int p4), .val (.int v5), .unset, .unset, .unset, .unset, .unset, .unset, .unset, .unset, .unset, .unset, .unset, .unset, .unset]) rfl ?_
    show Steps p.tables e below (T5.setTop (mkF m 7 #[.val (.int p0), .val (.int p1), .val (.int p2), .val (.int p3), .val (.int p4), .val (.int v5), .unset, .unset, .unset, .unset, .unset, .unset, .unset, .unset, .unset, .unset, .unset, .unset, .unset] [])) _
    refine XS.iloadN X5.here hx rfl (hb hby at_7) rfl ?_
    show Steps p.tables e below (T5.setTop (mkF m 8 #[.val (.int p0), .val (.int p1), .val (.int p2), .val (.int p3), .val (.int p4), .val (.int v5), .unset, .unset, .unset, .unset, .unset, .unset, .unset, .unset, .unset, .unset, .unset, .unset, .unset] [(.int p1)])) _
    refine XS.iloadN X5.here hx rfl (hb hby at_8) rfl ?_
    show Steps p.tables e below (T5.setTop (mkF m 9 #[.val (.int p0), .val (.int p1), .val (.int p2), .val (.int p3), .val (.int p4), .val (.int v5), .unset, .unset, .unset, .unset, .unset, .unset, .unset, .unset, .unset, .unset, .unset, .unset, .unset] [(.int p2), (.int p1)])) _
    refine st6 _ ?_
    show Steps p.tables e below (T6.setTop (mkF m 12 #[.val (.int p0), .val (.int p1), .val (.int p2), .val (.int p3), .val (.int p4), .val (.int v5), .unset, .unset, .unset, .unset, .unset, .unset, .unset, .unset, .unset, .unset, .unset, .unset, .unset] [(.int v6)])) _
    refine XS.istore X6.here hx rfl (hb hby at_12) rfl (l' := #[.val (.int p0), .val (.int p1), .val (.int p2), .val (.int p3), .val (.int p4), .val (.int v5), .val (.int v6), .unset, .unset, .unset, .unset, .unset, .unset, .unset, .unset, .unset, .unset, .unset, .unset]) rfl ?_
    show Steps p.tables e below (T6.setTop (mkF m 14 #[.val (.int p0), .val (.int p1), .val (.int p2), .val (.int p3), .val (.int p4), .val (.int v5), .val (.int v6), .unset, .unset, .unset, .unset, .unset, .unset, .unset, .unset, .unset, .unset, .unset, .unset] [])) _
    refine XS.iloadN X6.here hx rfl (hb hby at_14) rfl ?_
    show Steps p.tables e below (T6.setTop (mkF m 15 #[.val (.int p0), .val (.int p1), .val (.int p2), .val (.int p3), .val (.int p4), .val (.int v5), .val (.int v6), .unset, .unset, .unset, .unset, .unset, .unset, .unset, .unset, .unset, .unset, .unset, .unset] [(.int p3)])) _
    refine XS.iload X6.here hx rfl (hb hby at_15) rfl ?_
    show Steps p.tables e below (T6.setTop (mkF m 17 #[.val (.int p0), .val (.int p1), .val (.int p2), .val (.int p3), .val (.int p4), .val (.int v5), .val (.int v6), .unset, .unset, .unset, .unset, .unset, .unset, .unset, .unset, .unset, .unset, .unset, .unset] [(.int p4), (.int p3)])) _
    refine st7 _ ?_
    show Steps p.tables e below (T7.setTop (mkF m 20 #[.val (.int p0), .val (.int p1), .val (.int p2), .val (.int p3), .val (.int p4), .val (.int v5), .val (.int v6), .unset, .unset, .unset, .unset, .unset, .unset, .unset, .unset, .unset, .unset, .unset, .unset] [(.int v7)])) _
    refine XS.istore X7.here hx rfl (hb hby at_20) rfl (l' := #[.val (.int p0), .val (.int p1), .val (.int p2), .val (.int p3), .val (.int p4), .val (.int v5), .val (.int v6), .val (.int v7), .unset, .unset, .unset, .unset, .unset, .unset, .unset, .unset, .unset, .unset, .unset]) rfl ?_
    show Steps p.tables e below (T7.setTop (mkF m 22 #[.val (.int p0), .val (.int p1), .val (.int p2), .val (.int p3), .val (.int p4), .val (.int v5), .val (.int v6), .val (.int v7), .unset, .unset, .unset, .unset, .unset, .unset, .unset, .unset, .unset, .unset, .unset] [])) _
    refine XS.iloadN X7.here hx rfl (hb hby at_22) rfl ?_
    show Steps p.tables e below (T7.setTop (mkF m 23 #[.val (.int p0), .val (.int p1), .val (.int p2), .val (.int p3), .val (.int p4), .val (.int v5), .val (.int v6), .val (.int v7), .unset, .unset, .unset, .unset, .unset, .unset, .unset, .unset, .unset, .unset, .unset] [(.int p3)])) _
    refine XS.iload X7.here hx rfl (hb hby at_23) rfl ?_
    show Steps p.tables e below (T7.setTop (mkF m 25 #[.val (.int p0), .val (.int p1), .val (.int p2), .val (.int p3), .val (.int p4), .val (.int v5), .val (.int v6), .val (.int v7), .unset, .unset, .unset, .unset, .unset, .unset, .unset, .unset, .unset, .unset, .unset] [(.int p4), (.int p3)])) _
    refine st8 _ ?_
    show Steps p.tables e below (T8.setTop (mkF m 28 #[.val (.int p0), .val (.int p1), .val (.int p2), .val (.int p3), .val (.int p4), .val (.int v5), .val (.int v6), .val (.int v7), .unset, .unset, .unset, .unset, .unset, .unset, .unset, .unset, .unset, .unset, .unset] [(.int v8)])) _
    refine XS.istore X8.here hx rfl (hb hby at_28) rfl (l' := #[.val (.int p0), .val (.int p1), .val (.int p2), .val (.int p3), .val (.int p4), .val (.int v5), .val (.int v6), .val (.int v7), .val (.int v8), .unset, .unset, .unset, .unset, .unset, .unset, .unset, .unset, .unset, .unset]) rfl ?_
    show Steps p.tables e below (T8.setTop (mkF m 30 #[.val (.int p0), .val (.int p1), .val (.int p2), .val (.int p3), .val (.int p4), .val (.int v5), .val (.int v6), .val (.int v7), .val (.int v8), .unset, .unset, .unset, .unset, .unset, .unset, .unset, .unset, .unset, .unset] [])) _
    refine XS.iload X8.here hx rfl (hb hby at_30) rfl ?_
    show Steps p.tables e below (T8.setTop (mkF m 32 #[.val (.int p0), .val (.int p1), .val (.int p2), .val (.int p3), .val (.int p4), .val (.int v5), .val (.int v6), .val (.int v7), .val (.int v8), .unset, .unset, .unset, .unset, .unset, .unset, .unset, .unset, .unset, .unset] [(.int v5)])) _
    refine XS.iload X8.here hx rfl (hb hby at_32) rfl ?_
    show Steps p.tables e below (T8.setTop (mkF m 34 #[.val (.int p0), .val (.int p1), .val (.int p2), .val (.int p3), .val (.int p4), .val (.int v5), .val (.int v6), .val (.int v7), .val (.int v8), .unset, .unset, .unset, .unset, .unset, .unset, .unset, .unset, .unset, .unset] [(.int v7), (.int v5)])) _
    refine st9 _ ?_
    show Steps p.tables e below (T9.setTop (mkF m 37 #[.val (.int p0), .val (.int p1), .val (.int p2), .val (.int p3), .val (.int p4), .val (.int v5), .val (.int v6), .val (.int v7), .val (.int v8), .unset, .unset, .unset, .unset, .unset, .unset, .unset, .unset, .unset, .unset] [(.int v9)])) _
    refine XS.istore X9.here hx rfl (hb hby at_37) rfl (l' := #[.val (.int p0), .val (.int p1), .val (.int p2), .val (.int p3), .val (.int p4), .val (.int v5), .val (.int v6), .val (.int v7), .val (.int v8), .val (.int v9), .unset, .unset, .unset, .unset, .unset, .unset, .unset, .unset, .unset]) rfl ?_
    show Steps p.tables e below (T9.setTop (mkF m 39 #[.val (.int p0), .val (.int p1), .val (.int p2), .val (.int p3), .val (.int p4), .val (.int v5), .val (.int v6), .val (.int v7), .val (.int v8), .val (.int v9), .unset, .unset, .unset, .unset, .unset, .unset, .unset, .unset, .unset] [])) _
    refine XS.iload X9.here hx rfl (hb hby at_39) rfl ?_
    show Steps p.tables e below (T9.setTop (mkF m 41 #[.val (.int p0), .val (.int p1), .val (.int p2), .val (.int p3), .val (.int p4), .val (.int v5), .val (.int v6), .val (.int v7), .val (.int v8), .val (.int v9), .unset, .unset, .unset, .unset, .unset, .unset, .unset, .unset, .unset] [(.int v5)])) _
    refine XS.iload X9.here hx rfl (hb hby at_41) rfl ?_
    show Steps p.tables e below (T9.setTop (mkF m 43 #[.val (.int p0), .val (.int p1), .val (.int p2), .val (.int p3), .val (.int p4), .val (.int v5), .val (.int v6), .val (.int v7), .val (.int v8), .val (.int v9), .unset, .unset, .unset, .unset, .unset, .unset, .unset, .unset, .unset] [(.int v7), (.int v5)])) _
    refine st10 _ ?_
    show Steps p.tables e below (T10.setTop (mkF m 46 #[.val (.int p0), .val (.int p1), .val (.int p2), .val (.int p3), .val (.int p4), .val (.int v5), .val (.int v6), .val (.int v7), .val (.int v8), .val (.int v9), .unset, .unset, .unset, .unset, .unset, .unset, .unset, .unset, .unset] [(.int v10)])) _
    refine XS.istore X10.here hx rfl (hb hby at_46) rfl (l' := #[.val (.int p0), .val (.int p1), .val (.int p2), .val (.int p3), .val (.int p4), .val (.int v5), .val (.int v6), .val (.int v7), .val (.int v8), .val (.int v9), .val (.int v10), .unset, .unset, .unset, .unset, .unset, .unset, .unset, .unset]) rfl ?_
    show Steps p.tables e below (T10.setTop (mkF m 48 #[.val (.int p0), .val (.int p1), .val (.int p2), .val (.int p3), .val (.int p4), .val (.int v5), .val (.int v6), .val (.int v7), .val (.int v8), .val (.int v9), .val (.int v10), .unset, .unset, .unset, .unset, .unset, .unset, .unset, .unset] [])) _
    refine XS.iload X10.here hx rfl (hb hby at_48) rfl ?_
    show Steps p.tables e below (T10.setTop (mkF m 50 #[.val (.int p0), .val (.int p1), .val (.int p2), .val (.int p3), .val (.int p4), .val (.int v5), .val (.int v6), .val (.int v7), .val (.int v8), .val (.int v9), .val (.int v10), .unset, .unset, .unset, .unset, .unset, .unset, .unset, .unset] [(.int v6)])) _
    refine XS.iload X10.here hx rfl (hb hby at_50) rfl ?_
    show Steps p.tables e below (T10.setTop (mkF m 52 #[.val (.int p0), .val (.int p1), .val (.int p2), .val (.int p3), .val (.int p4), .val (.int v5), .val (.int v6), .val (.int v7), .val (.int v8), .val (.int v9), .val (.int v10), .unset, .unset, .unset, .unset, .unset, .unset, .unset, .unset] [(.int v8), (.int v6)])) _
    refine st11 _ ?_
    show Steps p.tables e below (T11.setTop (mkF m 55 #[.val (.int p0), .val (.int p1), .val (.int p2), .val (.int p3), .val (.int p4), .val (.int v5), .val (.int v6), .val (.int v7), .val (.int v8), .val (.int v9), .val (.int v10), .unset, .unset, .unset, .unset, .unset, .unset, .unset, .unset] [(.int v11)])) _
    refine XS.istore X11.here hx rfl (hb hby at_55) rfl (l' := #[.val (.int p0), .val (.int p1), .val (.int p2), .val (.int p3), .val (.int p4), .val (.int v5), .val (.int v6), .val (.int v7), .val (.int v8), .val (.int v9), .val (.int v10), .val (.int v11), .unset, .unset, .unset, .unset, .unset, .unset, .unset]) rfl ?_
    show Steps p.tables e below (T11.setTop (mkF m 57 #[.val (.int p0), .val (.int p1), .val (.int p2), .val (.int p3), .val (.int p4), .val (.int v5), .val (.int v6), .val (.int v7), .val (.int v8), .val (.int v9), .val (.int v10), .val (.int v11), .unset, .unset, .unset, .unset, .unset, .unset, .unset] [])) _
    refine XS.iload X11.here hx rfl (hb hby at_57) rfl ?_
    show Steps p.tables e below (T11.setTop (mkF m 59 #[.val (.int p0), .val (.int p1), .val (.int p2), .val (.int p3), .val (.int p4), .val (.int v5), .val (.int v6), .val (.int v7), .val (.int v8), .val (.int v9), .val (.int v10), .val (.int v11), .unset, .unset, .unset, .unset, .unset, .unset, .unset] [(.int v6)])) _
    refine XS.iload X11.here hx rfl (hb hby at_59) rfl ?_
    show Steps p.tables e below (T11.setTop (mkF m 61 #[.val (.int p0), .val (.int p1), .val (.int p2), .val (.int p3), .val (.int p4), .val (.int v5), .val (.int v6), .val (.int v7), .val (.int v8), .val (.int v9), .val (.int v10), .val (.int v11), .unset, .unset, .unset, .unset, .unset, .unset, .unset] [(.int v8), (.int v6)])) _
    refine st12 _ ?_
    show Steps p.tables e below (T12.setTop (mkF m 64 #[.val (.int p0), .val (.int p1), .val (.int p2), .val (.int p3), .val (.int p4), .val (.int v5), .val (.int v6), .val (.int v7), .val (.int v8), .val (.int v9), .val (.int v10), .val (.int v11), .unset, .unset, .unset, .unset, .unset, .unset, .unset] [(.int v12)])) _
    refine XS.istore X12.here hx rfl (hb hby at_64) rfl (l' := #[.val (.int p0), .val (.int p1), .val (.int p2), .val (.int p3), .val (.int p4), .val (.int v5), .val (.int v6), .val (.int v7), .val (.int v8), .val (.int v9), .val (.int v10), .val (.int v11), .val (.int v12), .unset, .unset, .unset, .unset, .unset, .unset]) rfl ?_
    show Steps p.tables e below (T12.setTop (mkF m 66 #[.val (.int p0), .val (.int p1), .val (.int p2), .val (.int p3), .val (.int p4), .val (.int v5), .val (.int v6), .val (.int v7), .val (.int v8), .val (.int v9), .val (.int v10), .val (.int v11), .val (.int v12), .unset, .unset, .unset, .unset, .unset, .unset] [])) _
    refine XS.iload X12.here hx rfl (hb hby at_66) rfl ?_
    show Steps p.tables e below (T12.setTop (mkF m 68 #[.val (.int p0), .val (.int p1), .val (.int p2), .val (.int p3), .val (.int p4), .val (.int v5), .val (.int v6), .val (.int v7), .val (.int v8), .val (.int v9), .val (.int v10), .val (.int v11), .val (.int v12), .unset, .unset, .unset, .unset, .unset, .unset] [(.int v11)])) _
    refine XS.iload X12.here hx rfl (hb hby at_68) rfl ?_
    show Steps p.tables e below (T12.setTop (mkF m 70 #[.val (.int p0), .val (.int p1), .val (.int p2), .val (.int p3), .val (.int p4), .val (.int v5), .val (.int v6), .val (.int v7), .val (.int v8), .val (.int v9), .val (.int v10), .val (.int v11), .val (.int v12), .unset, .unset, .unset, .unset, .unset, .unset] [(.int v10), (.int v11)])) _
    refine st13 _ ?_
    show Steps p.tables e below (T13.setTop (mkF m 73 #[.val (.int p0), .val (.int p1), .val (.int p2), .val (.int p3), .val (.int p4), .val (.int v5), .val (.int v6), .val (.int v7), .val (.int v8), .val (.int v9), .val (.int v10), .val (.int v11), .val (.int v12), .unset, .unset, .unset, .unset, .unset, .unset] [(.int v13)])) _
    refine XS.istore X13.here hx rfl (hb hby at_73) rfl (l' := #[.val (.int p0), .val (.int p1), .val (.int p2), .val (.int p3), .val (.int p4), .val (.int v5), .val (.int v6), .val (.int v7), .val (.int v8), .val (.int v9), .val (.int v10), .val (.int v11), .val (.int v12), .val (.int v13), .unset, .unset, .unset, .unset, .unset]) rfl ?_
    show Steps p.tables e below (T13.setTop (mkF m 75 #[.val (.int p0), .val (.int p1), .val (.int p2), .val (.int p3), .val (.int p4), .val (.int v5), .val (.int v6), .val (.int v7), .val (.int v8), .val (.int v9), .val (.int v10), .val (.int v11), .val (.int v12), .val (.int v13), .unset, .unset, .unset, .unset, .unset] [])) _
    refine XS.iload X13.here hx rfl (hb hby at_75) rfl ?_
    show Steps p.tables e below (T13.setTop (mkF m 77 #[.val (.int p0), .val (.int p1), .val (.int p2), .val (.int p3), .val (.int p4), .val (.int v5), .val (.int v6), .val (.int v7), .val (.int v8), .val (.int v9), .val (.int v10), .val (.int v11), .val (.int v12), .val (.int v13), .unset, .unset, .unset, .unset, .unset] [(.int v11)])) _
    refine XS.iload X13.here hx rfl (hb hby at_77) rfl ?_
    show Steps p.tables e below (T13.setTop (mkF m 79 #[.val (.int p0), .val (.int p1), .val (.int p2), .val (.int p3), .val (.int p4), .val (.int v5), .val (.int v6), .val (.int v7), .val (.int v8), .val (.int v9), .val (.int v10), .val (.int v11), .val (.int v12), .val (.int v13), .unset, .unset, .unset, .unset, .unset] [(.int v10), (.int v11)])) _
    refine st14 _ ?_
    show Steps p.tables e below (T14.setTop (mkF m 82 #[.val (.int p0), .val (.int p1), .val (.int p2), .val (.int p3), .val (.int p4), .val (.int v5), .val (.int v6), .val (.int v7), .val (.int v8), .val (.int v9), .val (.int v10), .val (.int v11), .val (.int v12), .val (.int v13), .unset, .unset, .unset, .unset, .unset] [(.int v14)])) _
    refine XS.istore X14.here hx rfl (hb hby at_82) rfl (l' := #[.val (.int p0), .val (.int p1), .val (.int p2), .val (.int p3), .val (.int p4), .val (.int v5), .val (.int v6), .val (.int v7), .val (.int v8), .val (.int v9), .val (.int v10), .val (.int v11), .val (.int v12), .val (.int v13), .val (.int v14), .unset, .unset, .unset, .unset]) rfl ?_
    show Steps p.tables e below (T14.setTop (mkF m 84 #[.val (.int p0), .val (.int p1), .val (.int p2), .val (.int p3), .val (.int p4), .val (.int v5), .val (.int v6), .val (.int v7), .val (.int v8), .val (.int v9), .val (.int v10), .val (.int v11), .val (.int v12), .val (.int v13), .val (.int v14), .unset, .unset, .unset, .unset] [])) _
    refine XS.iconst X14.here hx rfl (hb hby at_84) ?_
    show Steps p.tables e below (T14.setTop (mkF m 85 #[.val (.int p0), .val (.int p1), .val (.int p2), .val (.int p3), .val (.int p4), .val (.int v5), .val (.int v6), .val (.int v7), .val (.int v8), .val (.int v9), .val (.int v10), .val (.int v11), .val (.int v12), .val (.int v13), .val (.int v14), .unset, .unset, .unset, .unset] [(.int (1 : Int32))])) _
    refine XS.iloadN X14.here hx rfl (hb hby at_85) rfl ?_
    show Steps p.tables e below (T14.setTop (mkF m 86 #[.val (.int p0), .val (.int p1), .val (.int p2), .val (.int p3), .val (.int p4), .val (.int v5), .val (.int v6), .val (.int v7), .val (.int v8), .val (.int v9), .val (.int v10), .val (.int v11), .val (.int v12), .val (.int v13), .val (.int v14), .unset, .unset, .unset, .unset] [(.int p0), (.int (1 : Int32))])) _
    refine XS.iconst X14.here hx rfl (hb hby at_86) ?_
    show Steps p.tables e below (T14.setTop (mkF m 87 #[.val (.int p0), .val (.int p1), .val (.int p2), .val (.int p3), .val (.int p4), .val (.int v5), .val (.int v6), .val (.int v7), .val (.int v8), .val (.int v9), .val (.int v10), .val (.int v11), .val (.int v12), .val (.int v13), .val (.int v14), .unset, .unset, .unset, .unset] [(.int (3 : Int32)), (.int p0), (.int (1 : Int32))])) _
    refine XS.iand X14.here hx rfl (hb hby at_87) rfl ?_
    show Steps p.tables e below (T14.setTop (mkF m 88 #[.val (.int p0), .val (.int p1), .val (.int p2), .val (.int p3), .val (.int p4), .val (.int v5), .val (.int v6), .val (.int v7), .val (.int v8), .val (.int v9), .val (.int v10), .val (.int v11), .val (.int v12), .val (.int v13), .val (.int v14), .unset, .unset, .unset, .unset] [(.int (p0 &&& (3 : Int32))), (.int (1 : Int32))])) _
    refine XS.iadd X14.here hx rfl (hb hby at_88) rfl ?_
    show Steps p.tables e below (T14.setTop (mkF m 89 #[.val (.int p0), .val (.int p1), .val (.int p2), .val (.int p3), .val (.int p4), .val (.int v5), .val (.int v6), .val (.int v7), .val (.int v8), .val (.int v9), .val (.int v10), .val (.int v11), .val (.int v12), .val (.int v13), .val (.int v14), .unset, .unset, .unset, .unset] [(.int ((1 : Int32) + (p0 &&& (3 : Int32))))])) _
    refine XS.istore X14.here hx rfl (hb hby at_89) rfl (l' := #[.val (.int p0), .val (.int p1), .val (.int p2), .val (.int p3), .val (.int p4), .val (.int v5), .val (.int v6), .val (.int v7), .val (.int v8), .val (.int v9), .val (.int v10), .val (.int v11), .val (.int v12), .val (.int v13), .val (.int v14), .val (.int ((1 : Int32) + (p0 &&& (3 : Int32)))), .unset, .unset, .unset]) rfl ?_
    show Steps p.tables e below (T14.setTop (mkF m 91 #[.val (.int p0), .val (.int p1), .val (.int p2), .val (.int p3), .val (.int p4), .val (.int v5), .val (.int v6), .val (.int v7), .val (.int v8), .val (.int v9), .val (.int v10), .val (.int v11), .val (.int v12), .val (.int v13), .val (.int v14), .val (.int ((1 : Int32) + (p0 &&& (3 : Int32)))), .unset, .unset, .unset] [])) _
    rw [hnn]
    exact st' _ (retN X' hx (t := .boolean) Bd.returns (by simp) hdec hr)
  · show own_Q1 Z h0 n0 _ T'.heap _
    exact ⟨rfl, N'⟩
set_option maxRecDepth 65536 in
set_option maxHeartbeats 40000000 in
theorem comes_1 {Post : Tables → Env → Array Value → State → Outcome → State → Prop} (hpost : ∀ tb e args s v u, (limb_1_1.after args s (.returned v) u = true ∧ limb_1_2.after args s (.returned v) u = true ∧ True) → FrameEnd s (.returned v) u (Jvm.fieldLocs frame_1_writes args s ++ Jvm.arrayLocs frame_1_arrays args s ++ Jvm.staticLocs frame_1_statics s) 16 128 → Post tb e args s (.returned v) u) :
    ArmFor flags0 classFile x code maxLocals ret World_1 tables_1 room_1 Calls_1 rest_1 Pre_1 Post := by
  intro l hfl _ _ p e ha hc hk s m args below hf hA hF happ hP
  obtain ⟨hcalls, hrest, hpre⟩ := hP
  obtain ⟨-, -, -, hnamed, -, -, -, hat⟩ := (Spec.applies_iff hf).mp happ
  obtain ⟨hg, hn⟩ := and_e (Cond.before_iff.mp (show (Jvm.Cond.and given_1 narrow_1).before args s = true from hpre))
  obtain ⟨h1, h2⟩ := and_e hg
  obtain ⟨g0, h3⟩ := and_e h2
  obtain ⟨g1, h4⟩ := and_e h3
  obtain ⟨g2, h5⟩ := and_e h4
  obtain ⟨g3, g4⟩ := and_e h5
  obtain ⟨w0, w1, w2, w3, w4, rfl⟩ : ∃ w0 w1 w2 w3 w4 : Value, args = #[w0, w1, w2, w3, w4] := by
    have hs : args.size = 5 := by simpa [Cond.value, given_1] using h1
    obtain ⟨L⟩ := args
    match L, hs with
    | [w0, w1, w2, w3, w4], _ => exact ⟨w0, w1, w2, w3, w4, rfl⟩
  have hw := fun d (hd : d ∈ tables_1) => atoms_spec (ws := Jvm.Cond.code x code maxLocals ret :: tables_1) hat d (List.mem_cons_of_mem _ hd)
  obtain ⟨i0, e0⟩ := is_v g0
  obtain rfl : w0 = (.int i0) := Option.some.inj e0
  obtain ⟨i1, e1⟩ := is_v g1
  obtain rfl : w1 = (.int i1) := Option.some.inj e1
  obtain ⟨i2, e2⟩ := is_v g2
  obtain rfl : w2 = (.int i2) := Option.some.inj e2
  obtain ⟨i3, e3⟩ := is_v g3
  obtain rfl : w3 = (.int i3) := Option.some.inj e3
  obtain ⟨i4, e4⟩ := is_v g4
  obtain rfl : w4 = (.int i4) := Option.some.inj e4
  obtain ⟨n, o, h1, h2, h3, _, L, rfl, ⟨rfl, N⟩, hq⟩ := own_rm0 l s _ hw tables_1 i0 i1 i2 i3 i4 s.heap s.heap.size (Nat.le_refl _) p e ha hc hk s m _ below hf ((Spec.applies_iff_loose hf).mp happ).1 ⟨rfl, State.Warmed39.refl s, rfl⟩ trivial
  refine ⟨n, _, h1, h2, h3, hpost _ _ _ _ _ _ ⟨Cond.after_iff.mpr rfl, Cond.after_iff.mpr (eq_i res_at (Term.int_eval (1)) rfl), trivial⟩ ⟨hq.1, hq.2.1, (hq.2.2.sift fun y hy => Or.inr (N y hy)).mono (by decide) (by decide)⟩⟩
theorem main_1_1 : Claimed_1_1 := comes_1 fun _ _ _ _ _ _ h hF => ⟨h.1, hF⟩
theorem main_1_2 : Claimed_1_2 := comes_1 fun _ _ _ _ _ _ h hF => ⟨h.2.1, hF⟩
end Jvm.Pilot.@@N@@
namespace Jvm.Pilot.@@N@@
open Jvm Jvm.ClassFile Sem Op Lib Jvm.Free Jvm.Stand Jvm.Pilot.@@N@@.Jvm.D
/-! MADE BY PROGRAM (witnessworld.py) out of the Statement's table words and the real class files: 10 classes; the members and pool entries that the words name. The judged class is class 1, her method 1. -/
namespace start1
open Jvm.ClassFile
def u (s : String) : CpInfo := .utf8 (stringToUtf16 s)
/-- a pool by its gaps: so many unusable entries, then the entry; so many at the end -/
def gap : Nat → List CpInfo → List CpInfo
  | 0, r => r
  | n + 1, r => .unusable :: gap n r
def poolList (es : List (Nat × CpInfo)) (last : Nat) : List CpInfo := es.foldr (fun e r => gap e.1 (e.2 :: r)) (gap last [])
def pool (es : List (Nat × CpInfo)) (last : Nat) : Array CpInfo := ⟨poolList es last⟩
def fileOf (pool : Array CpInfo) (this : Nat) (attrs : Array Attribute := #[]) (ms : Array MethodInfo := #[]) (fl : Nat := 33) (sup : Nat := 0) (ifs : Array Nat := #[]) (fds : Array FieldInfo := #[]) : ClassFile where
  minorVersion := 0
  majorVersion := 65
  constantPool := pool
  accessFlags := fl
  thisClass := this
  superClass := sup
  interfaces := ifs
  fields := fds
  methods := ms
  attributes := attrs
def plain (name : String) (sup : Option ClassId) : Class where
  name := name
  kind := .ordinary
  loader := none
  accessFlags := 33
  super := sup
  interfaces := #[]
  cf := none
  fields := #[]
  methods := #[]
  instanceTypes := #[]
  staticTypes := #[]
  resolved := #[]
  callSites := []
  init := .initialized
  statics := none
  mirror := none

def pool0 : Array CpInfo := pool [(5, u "<init>"), (0, u "()V"), (1, .class_ 10), (1, u "java/lang/Object")] 113

def k0m0 : Method := { name := "<init>", desc := "()V", sig := { parameters := [], returnType := none }, accessFlags := 1, code := none }
/-- java/lang/Object -/
def k0 : Class := { plain "java/lang/Object" none with
  accessFlags := 33
  interfaces := #[]
  cf := some (fileOf pool0 8 #[] #[{ accessFlags := 1, nameIndex := 5, descriptorIndex := 6, attributes := #[] }] 33 0 #[] #[])
  fields := #[]
  methods := #[k0m0]
  instanceTypes := #[]
  staticTypes := #[]
  resolved := Array.replicate 124 none
  statics := none }

def pool1 : Array CpInfo := pool [(2, .class_ 4), (1, u "java/lang/Object"), (0, u "<init>"), (0, u "()V"), (0, .methodref 8 9), (0, .class_ 10), (0, .nameAndType 11 12), (0, u "java/lang/Math"), (0, u "min"), (0, u "(II)I"), (0, .methodref 8 14), (0, .nameAndType 15 12), (0, u "max"), (0, .methodref 17 18), (0, .class_ 19), (0, .nameAndType 20 21), (0, u "com/example/archerfish/archerfish/benchmark/Comparison"), (0, u "median"), (0, u "([D)D"), (0, .double 4611686018427387904), (1, .class_ 25), (0, u "com/example/archerfish/archerfish/benchmark/ComparisonMedianPinLaw"), (2, u "law"), (0, u "(IIIII)Z")] 5

def k1m0 : Method := { name := "<init>", desc := "()V", sig := { parameters := [], returnType := none }, accessFlags := 1, code := none }
def k1c1 : Code := { maxStack := 6, maxLocals := 19, code := code, exceptionTable := #[], attributes := #[] }
def k1m1 : Method := { name := "law", desc := "(IIIII)Z", sig := { parameters := [.int, .int, .int, .int, .int], returnType := some .boolean }, accessFlags := 9, code := some k1c1 }
/-- com/example/archerfish/archerfish/benchmark/ComparisonMedianPinLaw -/
def k1 : Class := { plain "com/example/archerfish/archerfish/benchmark/ComparisonMedianPinLaw" (some 0) with
  accessFlags := 49
  interfaces := #[]
  cf := some (fileOf pool1 24 #[] #[{ accessFlags := 1, nameIndex := 5, descriptorIndex := 6, attributes := #[] }, { accessFlags := 9, nameIndex := 28, descriptorIndex := 29, attributes := #[] }] 49 2 #[] #[])
  fields := #[]
  methods := #[k1m0, k1m1]
  instanceTypes := #[]
  staticTypes := #[]
  resolved := Array.replicate 35 none
  statics := none }

def pool2 : Array CpInfo := pool [(1, .class_ 2), (0, u "java/lang/Math"), (1, .class_ 6), (1, u "java/lang/Object"), (0, u "<init>"), (0, u "()V"), (89, .class_ 100), (1, u "java/lang/Math$RandomNumberGeneratorHolder"), (71, u "negativeZeroFloatBits"), (0, u "J"), (2, u "negativeZeroDoubleBits"), (21, u "max"), (2, u "min"), (43, u "$assertionsDisabled"), (0, u "Z"), (88, u "(II)I"), (2, u "twoToTheDoubleScaleDown"), (0, u "D"), (4, u "twoToTheDoubleScaleUp"), (9, u "E"), (3, u "PI"), (2, u "TAU"), (2, u "DEGREES_TO_RADIANS"), (0, u "RADIANS_TO_DEGREES")] 94

def k2m0 : Method := { name := "<init>", desc := "()V", sig := { parameters := [], returnType := none }, accessFlags := 2, code := none }
def k2c1 : Code := { maxStack := 2, maxLocals := 2, code := jdk_29_method_65_code, exceptionTable := #[], attributes := #[] }
def k2m1 : Method := { name := "max", desc := "(II)I", sig := { parameters := [.int, .int], returnType := some .int }, accessFlags := 9, code := some k2c1 }
def k2c2 : Code := { maxStack := 2, maxLocals := 2, code := jdk_29_method_69_code, exceptionTable := #[], attributes := #[] }
def k2m2 : Method := { name := "min", desc := "(II)I", sig := { parameters := [.int, .int], returnType := some .int }, accessFlags := 9, code := some k2c2 }
/-- java/lang/Math -/
def k2 : Class := { plain "java/lang/Math" (some 0) with
  accessFlags := 49
  interfaces := #[]
  cf := some (fileOf pool2 1 #[.nestMembers #[98]] #[{ accessFlags := 2, nameIndex := 7, descriptorIndex := 8, attributes := #[] }, { accessFlags := 9, nameIndex := 198, descriptorIndex := 335, attributes := #[] }, { accessFlags := 9, nameIndex := 201, descriptorIndex := 335, attributes := #[] }] 49 4 #[] #[{ accessFlags := 25, nameIndex := 354, descriptorIndex := 339, attributes := #[] }, { accessFlags := 25, nameIndex := 358, descriptorIndex := 339, attributes := #[] }, { accessFlags := 25, nameIndex := 361, descriptorIndex := 339, attributes := #[] }, { accessFlags := 26, nameIndex := 364, descriptorIndex := 339, attributes := #[] }, { accessFlags := 26, nameIndex := 365, descriptorIndex := 339, attributes := #[] }, { accessFlags := 26, nameIndex := 172, descriptorIndex := 173, attributes := #[] }, { accessFlags := 26, nameIndex := 176, descriptorIndex := 173, attributes := #[] }, { accessFlags := 8, nameIndex := 344, descriptorIndex := 339, attributes := #[] }, { accessFlags := 8, nameIndex := 338, descriptorIndex := 339, attributes := #[] }, { accessFlags := 4120, nameIndex := 245, descriptorIndex := 246, attributes := #[] }])
  fields := #[{ name := "E", type := .double, accessFlags := 25, slot := 0, constantValue := 0 }, { name := "PI", type := .double, accessFlags := 25, slot := 1, constantValue := 0 }, { name := "TAU", type := .double, accessFlags := 25, slot := 2, constantValue := 0 }, { name := "DEGREES_TO_RADIANS", type := .double, accessFlags := 26, slot := 3, constantValue := 0 }, { name := "RADIANS_TO_DEGREES", type := .double, accessFlags := 26, slot := 4, constantValue := 0 }, { name := "negativeZeroFloatBits", type := .long, accessFlags := 26, slot := 5, constantValue := 0 }, { name := "negativeZeroDoubleBits", type := .long, accessFlags := 26, slot := 6, constantValue := 0 }, { name := "twoToTheDoubleScaleUp", type := .double, accessFlags := 8, slot := 7, constantValue := 0 }, { name := "twoToTheDoubleScaleDown", type := .double, accessFlags := 8, slot := 8, constantValue := 0 }, { name := "$assertionsDisabled", type := .boolean, accessFlags := 4120, slot := 9, constantValue := 0 }]
  methods := #[k2m0, k2m1, k2m2]
  instanceTypes := #[]
  staticTypes := #[.double, .double, .double, .double, .double, .long, .long, .double, .double, .boolean]
  resolved := Array.replicate 460 none
  statics := none }

def pool3 : Array CpInfo := pool [(2, .class_ 4), (1, u "com/example/archerfish/archerfish/benchmark/Comparison"), (7, .class_ 14), (1, u "java/lang/Object"), (3, u "_title"), (0, u "Ljava/lang/String;"), (2, u "_unit"), (2, u "_nanosPerUnit"), (0, u "D"), (2, u "_perSecond"), (0, u "Z"), (8, u "_contenders"), (0, u "Ljava/util/List;"), (2, u "_ratios"), (17, .class_ 62), (0, u "com/example/archerfish/archerfish/benchmark/Comparison$Contender"), (0, .class_ 64), (0, u "com/example/archerfish/archerfish/benchmark/Comparison$Ratio"), (70, u "([D)D"), (45, u "median"), (56, .double 4611686018427387904), (5, .class_ 246), (1, u "com/example/archerfish/archerfish/benchmark/Comparison$Work")] 84

def k3c0 : Code := { maxStack := 4, maxLocals := 2, code := prog_42_method_8_code, exceptionTable := #[], attributes := #[] }
def k3m0 : Method := { name := "median", desc := "([D)D", sig := { parameters := [(.array .double)], returnType := some .double }, accessFlags := 8, code := some k3c0 }
/-- com/example/archerfish/archerfish/benchmark/Comparison -/
def k3 : Class := { plain "com/example/archerfish/archerfish/benchmark/Comparison" (some 0) with
  accessFlags := 32
  interfaces := #[]
  cf := some (fileOf pool3 2 #[.nestMembers #[63, 61, 244]] #[{ accessFlags := 8, nameIndex := 181, descriptorIndex := 135, attributes := #[] }] 32 12 #[] #[{ accessFlags := 18, nameIndex := 18, descriptorIndex := 19, attributes := #[] }, { accessFlags := 18, nameIndex := 22, descriptorIndex := 19, attributes := #[] }, { accessFlags := 18, nameIndex := 25, descriptorIndex := 26, attributes := #[] }, { accessFlags := 18, nameIndex := 29, descriptorIndex := 30, attributes := #[] }, { accessFlags := 18, nameIndex := 39, descriptorIndex := 40, attributes := #[] }, { accessFlags := 18, nameIndex := 43, descriptorIndex := 40, attributes := #[] }])
  fields := #[{ name := "_title", type := (.object "java/lang/String"), accessFlags := 18, slot := 0, constantValue := 0 }, { name := "_unit", type := (.object "java/lang/String"), accessFlags := 18, slot := 1, constantValue := 0 }, { name := "_nanosPerUnit", type := .double, accessFlags := 18, slot := 2, constantValue := 0 }, { name := "_perSecond", type := .boolean, accessFlags := 18, slot := 3, constantValue := 0 }, { name := "_contenders", type := (.object "java/util/List"), accessFlags := 18, slot := 4, constantValue := 0 }, { name := "_ratios", type := (.object "java/util/List"), accessFlags := 18, slot := 5, constantValue := 0 }]
  methods := #[k3m0]
  instanceTypes := #[(.object "java/lang/String"), (.object "java/lang/String"), .double, .boolean, (.object "java/util/List"), (.object "java/util/List")]
  staticTypes := #[]
  resolved := Array.replicate 331 none
  statics := none }

def pool4 : Array CpInfo := pool [(1, u "java/lang/Cloneable"), (0, .class_ 1), (0, u "java/lang/Object"), (0, .class_ 3)] 3

/-- java/lang/Cloneable -/
def k4 : Class := { plain "java/lang/Cloneable" (some 0) with
  accessFlags := 1537
  interfaces := #[]
  cf := some (fileOf pool4 2 #[] #[] 1537 4 #[] #[])
  fields := #[]
  methods := #[]
  instanceTypes := #[]
  staticTypes := #[]
  resolved := Array.replicate 8 none
  statics := none }

def pool5 : Array CpInfo := pool [(1, u "java/io/Serializable"), (0, .class_ 1), (0, u "java/lang/Object"), (0, .class_ 3)] 3

/-- java/io/Serializable -/
def k5 : Class := { plain "java/io/Serializable" (some 0) with
  accessFlags := 1537
  interfaces := #[]
  cf := some (fileOf pool5 2 #[] #[] 1537 4 #[] #[])
  fields := #[]
  methods := #[]
  instanceTypes := #[]
  staticTypes := #[]
  resolved := Array.replicate 8 none
  statics := none }

/-- the primitive byte -/
def k6 : Class := { plain "byte" none with kind := .primitive 'B', accessFlags := 0x411 }
/-- [B -/
def k7 : Class := { plain "[B" (some 0) with kind := .array 6 .byte, interfaces := #[4, 5], accessFlags := 1041 }

/-- the primitive double -/
def k8 : Class := { plain "double" none with kind := .primitive 'D', accessFlags := 0x411 }
/-- [D -/
def k9 : Class := { plain "[D" (some 0) with kind := .array 8 .double, interfaces := #[4, 5], accessFlags := 1041 }

def heap : Heap := #[]
def classes : Array Class := #[k0, k1, k2, k3, k4, k5, k6, k7, k8, k9]
def interned : List (Array UInt16 × Addr) := []
def slotsUsed : Nat := 0
def theMethod : MethodId := ⟨1, 1⟩
def args0 : Array Value := #[.int 3, .int 5, .int 6, .int 7, .int 8]
def aboutOver (below : List Frame) : State where
  vm := { classes := classes, interned := interned.toArray }
  heap := heap
  slotsUsed := slotsUsed
  threads := #[{ frames := .invoking theMethod args0 :: below }]
def below0 : List Frame := [.native { method := ⟨0, 0⟩, args := #[] }]
def about1 : State := aboutOver below0
def p0 : Program := .bare "" "" ""
def e0 : Env := launch0.env 0 0 0
theorem w_frames : about1.frames = Frame.invoking theMethod args0 :: below0 := rfl
set_option maxRecDepth 65536 in
theorem w_args : argsFit about1.vm theMethod args0 = true := by decide +kernel
set_option maxRecDepth 65536 in
theorem w_heap : heapFits about1 = true := by decide +kernel
set_option maxRecDepth 65536 in
theorem w_runnable : about1.curStatus? = some .runnable := by decide +kernel
set_option maxRecDepth 65536 in
theorem w_alone : about1.alone = true := by decide +kernel
set_option maxRecDepth 65536 in
theorem w_named : about1.methodNamed? x = some theMethod := by decide +kernel
set_option maxRecDepth 65536 in
theorem w_hears : about1.hears theMethod below0 = true := by decide +kernel
set_option maxRecDepth 65536 in
theorem w_ripe : about1.ripe theMethod args0 below0 = true := by decide +kernel
theorem w_running : about1.status = .running := rfl
set_option maxRecDepth 65536 in
theorem w_room : about1.hasRoom e0.platform room_1 = true :=
  launch0.hasRoom_least _ room_1 (by decide +kernel) (by decide +kernel) (by decide +kernel) (by decide +kernel) (by decide +kernel) (by decide +kernel)
theorem allAtoms_all (ts : List Jvm.Cond) (a : Array Jvm.Value) (st : Jvm.State) : (allAtoms ts).before a st = ts.all (fun c => c.before a st) := by
  induction ts with
  | nil => rfl
  | cons c t ih =>
    show (Jvm.Cond.and c (allAtoms t)).before a st = _
    rw [Jvm.Cond.before_and, ih, List.all_cons]
def words1 : List Jvm.Cond := Jvm.Cond.code x code maxLocals ret :: tables_1
/-- a 'code' word, met by the world's own term for the bytes: nothing is compared byte by byte -/
theorem code_word {y : MethodName} {bytes : ByteArray} {mx : Nat} {rt : Option FieldType} {a : Array Value} {s : State} {m : MethodId} {meth : Method} {c : Code} (h1 : s.methodNamed? y = some m) (h2 : s.vm.method? m = some meth) (h3 : meth.code = some c) (h4 : c.code = bytes)
    (h5 : (c.maxLocals == mx && c.exceptionTable.isEmpty && decide (c.maxStack ≤ mostOperands) && decide (meth.sig.returnType = rt) && !meth.locks && decide (parseMethodDescriptor y.desc = some meth.sig)) = true) : (Jvm.Cond.code y bytes mx rt).before a s = true := by
  simp only [Bool.and_eq_true, beq_iff_eq, Bool.not_eq_true', decide_eq_true_eq] at h5
  obtain ⟨⟨⟨⟨⟨g1, g2⟩, g3⟩, g4⟩, g5⟩, g6⟩ := h5
  simp [Cond.before, Cond.holds, Cond.value, h1, h2, h3, h4, g1, g2, g3, g4, g5, g6]
def isCode : Jvm.Cond → Bool
  | .code _ _ _ _ => true
  | _ => false
theorem all_split {L : List Jvm.Cond} {P : Jvm.Cond → Bool} (h1 : L.all (fun c => isCode c || P c) = true) (h2 : ∀ c ∈ L.filter isCode, P c = true) : L.all P = true := by
  refine List.all_eq_true.mpr fun c hc => ?_
  have h := List.all_eq_true.mp h1 c hc
  rcases Bool.eq_false_or_eq_true (isCode c) with hi | hi
  · exact h2 c (List.mem_filter.mpr ⟨hc, hi⟩)
  · simpa [hi] using h
set_option maxRecDepth 65536 in
theorem w_c0 : (Jvm.Cond.code x code maxLocals ret).before args0 about1 = true := code_word (m := ⟨1, 1⟩) (meth := k1m1) (c := k1c1) (by decide +kernel) rfl rfl rfl (by decide +kernel)
set_option maxRecDepth 65536 in
theorem w_c1 : (Jvm.Cond.code ({ cls := "java/lang/Math", name := "min", desc := "(II)I" } : Jvm.MethodName) jdk_29_method_69_code (2 : Nat) (Option.some Jvm.ClassFile.FieldType.int)).before args0 about1 = true := code_word (m := ⟨2, 2⟩) (meth := k2m2) (c := k2c2) (by decide +kernel) rfl rfl rfl (by decide +kernel)
set_option maxRecDepth 65536 in
theorem w_c2 : (Jvm.Cond.code ({ cls := "java/lang/Math", name := "max", desc := "(II)I" } : Jvm.MethodName) jdk_29_method_65_code (2 : Nat) (Option.some Jvm.ClassFile.FieldType.int)).before args0 about1 = true := code_word (m := ⟨2, 1⟩) (meth := k2m1) (c := k2c1) (by decide +kernel) rfl rfl rfl (by decide +kernel)
set_option maxRecDepth 65536 in
theorem w_c3 : (Jvm.Cond.code ({ cls := "com/example/archerfish/archerfish/benchmark/Comparison", name := "median", desc := "([D)D" } : Jvm.MethodName) prog_42_method_8_code (2 : Nat) (Option.some Jvm.ClassFile.FieldType.double)).before args0 about1 = true := code_word (m := ⟨3, 0⟩) (meth := k3m0) (c := k3c0) (by decide +kernel) rfl rfl rfl (by decide +kernel)
def codes1 : List Jvm.Cond := [Jvm.Cond.code x code maxLocals ret, Jvm.Cond.code ({ cls := "java/lang/Math", name := "min", desc := "(II)I" } : Jvm.MethodName) jdk_29_method_69_code (2 : Nat) (Option.some Jvm.ClassFile.FieldType.int), Jvm.Cond.code ({ cls := "java/lang/Math", name := "max", desc := "(II)I" } : Jvm.MethodName) jdk_29_method_65_code (2 : Nat) (Option.some Jvm.ClassFile.FieldType.int), Jvm.Cond.code ({ cls := "com/example/archerfish/archerfish/benchmark/Comparison", name := "median", desc := "([D)D" } : Jvm.MethodName) prog_42_method_8_code (2 : Nat) (Option.some Jvm.ClassFile.FieldType.double)]
set_option maxRecDepth 65536 in
theorem codes_eq : words1.filter isCode = codes1 := rfl
theorem w_codes : ∀ c ∈ words1.filter isCode, c.before args0 about1 = true := by
  rw [codes_eq]
  intro c hc
  simp only [codes1, List.mem_cons, List.not_mem_nil, or_false] at hc
  rcases hc with rfl | rfl | rfl | rfl
  · exact w_c0
  · exact w_c1
  · exact w_c2
  · exact w_c3
set_option maxRecDepth 65536 in
theorem w_t1 : words1.all (fun c => isCode c || c.before args0 about1) = true := by decide +kernel
theorem w_tables : (allAtoms (Jvm.Cond.code x code maxLocals ret :: tables_1)).before args0 about1 = true := by
  rw [allAtoms_all]
  show words1.all (fun c => c.before args0 about1) = true
  refine all_split ?_ w_codes
  rw [w_t1]
set_option maxRecDepth 65536 in
theorem w_case : (Jvm.Cond.and given_1 narrow_1).before args0 about1 = true := by decide +kernel
theorem w_applies : (headSpec (Jvm.Cond.code x code maxLocals ret :: tables_1) room_1).applies x e0.platform about1 = true :=
  (Spec.applies_iff w_frames).mpr ⟨w_running, w_runnable, w_alone, w_named, w_hears, w_ripe, w_room, w_tables⟩
theorem atStart : AtStart classFile x code maxLocals ret World_1 tables_1 room_1 Calls_1 rest_1 Pre_1 launch0 p0 e0 about1 theMethod args0 below0 :=
  ⟨lists_1, trivial, launch0.admits_env _ _ _, launch0.least_env, fairChoices_fair.cas, fairChoices_fair.clock, w_frames, w_args, w_heap, w_applies, trivial, trivial, w_case⟩
end start1
theorem witness_1 : WitnessClaimed_1 := ⟨start1.p0, start1.e0, start1.about1, start1.theMethod, start1.args0, start1.below0, start1.atStart⟩
end Jvm.Pilot.@@N@@
