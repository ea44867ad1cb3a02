/-
  Filled by an AI agent out of the given shell. The walk is ours; the row's step is the shell's.
-/
import Derived.Test.YbulkkhaRows
import Derived.Test.YbulkkhaFloat
import Derived.Test.YbulkkhaRound
import Derived.WalkKit
import Derived.ProofKit
import Derived.OpenShut
import Derived.ShutString
namespace Go.Proofs.Ybulkkha.lawS0546BIntExact
open Go.ChangeShapes Go.WideShapes Go.ChangeAt Go.RowKit
open Go.ChangeMaps (open_string shut_string)
set_option linter.unusedVariables false      -- a walk need not use every 'w<i>' (that an integer argument fits its kind)

theorem own : ownKnob Yba.prog.godebug = none := by kernel_rfl

theorem grown_trans {a b c : World} (h : Grown a b) (g : Grown b c) : Grown a c :=
  ⟨World.keptBut_trans h.1 g.1, fun x => (g.2.1 x).trans (h.2.1 x), Nat.le_trans h.2.2 g.2.2⟩

theorem toIntegral_num (name : String) (way : Ieee.Toward) (F : Nat) (s : Bool) (m : Nat) (p : Int) (hr : FloatKind.f64.decode F = .number s m p) :
    Extern.MathFloor.toIntegral name way #[.float .f64 F] = pure (.float .f64 (FloatKind.f64.encode ((Ieee.Datum.number s m p).integral way))) := by
  change ((match FloatKind.f64.decode F with | .nan s t => _ | d => pure (Value.float .f64 (FloatKind.f64.encode (d.integral way)))) : Sem Value) = _
  rw [hr]

/-- math.archTrunc, the model's entry, at a double that is a whole number. -/
theorem run_trunc (F : Nat) (s : Bool) (m : Nat) (p : Int) (hr : Ieee.double.read F = .number s m p) (hw : Ieee.double.write ((Ieee.Datum.number s m p).integral .zero) = F) (w : World) :
    (callFunc 15 #[.float .f64 F]).run Yba.prog w = .ok (.value (.float .f64 F)) w := by
  refine (run_callFunc_extern (e := Extern.MathFloor.toIntegral "math.archTrunc" .zero) Yba.func15 (by kernel_rfl) (by kernel_rfl) (by kernel_rfl) (by kernel_rfl) _ w).trans ?_
  have hw' : FloatKind.f64.encode ((Ieee.Datum.number s m p).integral .zero) = F := hw
  rw [toIntegral_num _ _ F s m p hr, hw']
  rfl

/-- math.Trunc (function 12) where its entry hands the double back. -/
theorem trunc_same (F : Nat) (hr : ∀ w : World, (callFunc 15 #[.float .f64 F]).run Yba.prog w = .ok (.value (.float .f64 F)) w) (w : World) :
    Calls Yba.prog 12 #[.float .f64 F] w fun e w' => e = .returned (.float .f64 F) ∧ w' = w := by
  go_enter Yba.func12, Yba.ntmps12
  go_wp2
  go_ret
  exact ⟨rfl, rfl⟩

theorem float_int' (i b : Int) (F : Nat) (hF : floatOfInt .f64 i = F) (w : World) :
    Calls Yba.prog 10 #[.agg #[.int .i64 i, .bool false, .int .u8 b]] w fun e w' => e = .returned (.float .f64 F) ∧ w' = w.alloc (.cells #[.int .i64 i, .bool false, .int .u8 b] 29) := by
  subst hF
  exact float_int i b w

theorem walk_in (i b : Int) (F : Nat) (HF : Hid (floatOfInt .f64 i = F)) (HT : Hid (∀ w : World, (callFunc 15 #[.float .f64 F]).run Yba.prog w = .ok (.value (.float .f64 F)) w))
    (h1 : (FloatKind.f64.format.order F F != some .eq) = false) (h2 : (FloatKind.f64.format.order F 14114281232179134464 == some .lt) = false) (h3 : (FloatKind.f64.format.order F 4890909195324358656 == some .gt) = false)
    (h4 : (FloatKind.f64.format.order F 0 == some .eq) = false) (h5 : (i == 0) = false) (r1 : -9007199254740992 ≤ i) (r2 : i ≤ 9007199254740992) (hc : ∀ w : World, (convert 30 2 (.float .f64 F)).run Yba.prog w = .ok (.int .i64 i) w) (w : World) :
    Calls Yba.prog 6 #[.int .i64 i, .int .u8 b] w fun e w' => e = .returned (.bool true) ∧ Grown w w' := by
  go_enter Yba.func6, Yba.ntmps6
  go_wp2_with fail
  refine (float_int' _ _ F HF.out _).mono ?_
  rintro e w1 ⟨rfl, rfl⟩
  go_wp2_with fail
  refine (trunc_same F HT.out _).mono ?_
  rintro e w1 ⟨rfl, rfl⟩
  go_wp2_with fail
  refine (iszero_int _ _ _).mono ?_
  rintro e w1 ⟨rfl, g1⟩
  go_wp2
  go_ret
  exact ⟨rfl, grown_trans (((Grown.refl _).alloc _ _).alloc _ _) g1⟩

theorem walk_zero (i b : Int) (F : Nat) (HF : Hid (floatOfInt .f64 i = F)) (HT : Hid (∀ w : World, (callFunc 15 #[.float .f64 F]).run Yba.prog w = .ok (.value (.float .f64 F)) w))
    (h1 : (FloatKind.f64.format.order F F != some .eq) = false) (h2 : (FloatKind.f64.format.order F 14114281232179134464 == some .lt) = false) (h3 : (FloatKind.f64.format.order F 4890909195324358656 == some .gt) = false)
    (h4 : (FloatKind.f64.format.order F 0 == some .eq) = true) (h5 : (i == 0) = true) (r1 : -9007199254740992 ≤ i) (r2 : i ≤ 9007199254740992) (hc : ∀ w : World, (convert 30 2 (.float .f64 F)).run Yba.prog w = .ok (.int .i64 i) w) (w : World) :
    Calls Yba.prog 6 #[.int .i64 i, .int .u8 b] w fun e w' => e = .returned (.bool true) ∧ Grown w w' := by
  go_enter Yba.func6, Yba.ntmps6
  go_wp2_with fail
  refine (float_int' _ _ F HF.out _).mono ?_
  rintro e w1 ⟨rfl, rfl⟩
  go_wp2_with fail
  refine (trunc_same F HT.out _).mono ?_
  rintro e w1 ⟨rfl, rfl⟩
  go_wp2_with fail
  refine (iszero_int _ _ _).mono ?_
  rintro e w1 ⟨rfl, g1⟩
  go_wp2
  go_ret
  exact ⟨rfl, grown_trans (((Grown.refl _).alloc _ _).alloc _ _) g1⟩

theorem walk_lo (i b : Int) (F : Nat) (HF : Hid (floatOfInt .f64 i = F)) (HT : Hid (∀ w : World, (callFunc 15 #[.float .f64 F]).run Yba.prog w = .ok (.value (.float .f64 F)) w))
    (h1 : (FloatKind.f64.format.order F F != some .eq) = false) (h2 : (FloatKind.f64.format.order F 14114281232179134464 == some .lt) = false) (h3 : (FloatKind.f64.format.order F 4890909195324358656 == some .gt) = false)
    (h4 : (FloatKind.f64.format.order F 0 == some .eq) = false) (h5 : (i == 0) = false) (r1 : i < -9007199254740992) (w : World) :
    Calls Yba.prog 6 #[.int .i64 i, .int .u8 b] w fun e w' => e = .returned (.bool true) ∧ Grown w w' := by
  go_enter Yba.func6, Yba.ntmps6
  go_wp2_with fail
  refine (float_int' _ _ F HF.out _).mono ?_
  rintro e w1 ⟨rfl, rfl⟩
  go_wp2_with fail
  refine (trunc_same F HT.out _).mono ?_
  rintro e w1 ⟨rfl, rfl⟩
  go_wp2_with fail
  refine (iszero_int _ _ _).mono ?_
  rintro e w1 ⟨rfl, g1⟩
  go_wp2
  go_ret
  exact ⟨rfl, grown_trans (((Grown.refl _).alloc _ _).alloc _ _) g1⟩

theorem walk_hi (i b : Int) (F : Nat) (HF : Hid (floatOfInt .f64 i = F)) (HT : Hid (∀ w : World, (callFunc 15 #[.float .f64 F]).run Yba.prog w = .ok (.value (.float .f64 F)) w))
    (h1 : (FloatKind.f64.format.order F F != some .eq) = false) (h2 : (FloatKind.f64.format.order F 14114281232179134464 == some .lt) = false) (h3 : (FloatKind.f64.format.order F 4890909195324358656 == some .gt) = false)
    (h4 : (FloatKind.f64.format.order F 0 == some .eq) = false) (h5 : (i == 0) = false) (r2 : 9007199254740992 < i) (w : World) :
    Calls Yba.prog 6 #[.int .i64 i, .int .u8 b] w fun e w' => e = .returned (.bool true) ∧ Grown w w' := by
  go_enter Yba.func6, Yba.ntmps6
  go_wp2_with fail
  refine (float_int' _ _ F HF.out _).mono ?_
  rintro e w1 ⟨rfl, rfl⟩
  go_wp2_with fail
  refine (trunc_same F HT.out _).mono ?_
  rintro e w1 ⟨rfl, rfl⟩
  go_wp2_with fail
  refine (iszero_int _ _ _).mono ?_
  rintro e w1 ⟨rfl, g1⟩
  go_wp2
  go_ret
  exact ⟨rfl, grown_trans (((Grown.refl _).alloc _ _).alloc _ _) g1⟩

/-- What 'int64(f)' gives at such a double. -/
theorem conv_back (i : Int) (F : Nat) (h : (Ieee.double.read F).toInt .zero = some i) (r1 : -9007199254740992 ≤ i) (r2 : i ≤ 9007199254740992) (w : World) : (convert 30 2 (.float .f64 F)).run Yba.prog w = .ok (.int .i64 i) w := by
  refine run_convert_float_int w 30 2 .f64 .i64 F i (by rw [Yba.underlying30]; rfl) Yba.underlying2 ?_
  have h' : (FloatKind.f64.decode F).toInt .zero = some i := h
  unfold floatToIntVal
  rw [h']
  show (if (-9223372036854775808 : Int) ≤ i ∧ i ≤ 9223372036854775807 then some i else none) = some i
  rw [if_pos (by omega)]

theorem walk (a0 : Int) (a1 : Int) (w0 : (Lit.int .i64 a0).wf = true) (w1 : (Lit.int .u8 a1).wf = true) (w : World) :
    Calls Yba.prog 6 #[.int .i64 a0, .int .u8 a1] w fun e w' => e = .returned (.bool true) ∧ Grown w w' := by
  obtain ⟨k0, u0⟩ := bounds_i64 w0
  by_cases h0 : a0 = 0
  · subst h0
    have e : floatOfInt .f64 0 = 0 := by decide
    exact walk_zero 0 a1 0 e (fun w => run_trunc 0 false 0 (-1074) read_zero (by decide) w) (by decide) (by decide) (by decide) (by decide) (by decide) (by omega) (by omega) (fun w => conv_back 0 0 (by decide) (by omega) (by omega) w) w
  · obtain ⟨M, p, h⟩ := whole_any (decide (a0 < 0)) a0.natAbs (by omega) (by omega)
    have e : floatOfInt .f64 a0 = Ieee.double.nearest (decide (a0 < 0)) a0.natAbs 0 := rfl
    have ht : ∀ w : World, (callFunc 15 #[.float .f64 (Ieee.double.nearest (decide (a0 < 0)) a0.natAbs 0)]).run Yba.prog w = .ok (.value (.float .f64 (Ieee.double.nearest (decide (a0 < 0)) a0.natAbs 0))) w := fun w => run_trunc _ _ _ _ h.reads h.whole w
    have hs : Ieee.signed (decide (a0 < 0)) a0.natAbs 0 = a0 := by
      unfold Ieee.signed
      rw [Nat.shiftLeft_zero]
      by_cases hn : a0 < 0
      · simp [hn]; omega
      · simp [hn]; omega
    have hz : (a0 == 0) = false := by simp [h0]
    generalize hF : Ieee.double.nearest (decide (a0 < 0)) a0.natAbs 0 = F at h e ht
    by_cases r1 : a0 < -9007199254740992
    · exact walk_lo a0 a1 F e ht h.self h.not_below h.not_above h.not_zero hz r1 w
    by_cases r2 : 9007199254740992 < a0
    · exact walk_hi a0 a1 F e ht h.self h.not_below h.not_above h.not_zero hz r2 w
    have hc := h.toInt (by omega)
    rw [hs] at hc
    exact walk_in a0 a1 F e ht h.self h.not_below h.not_above h.not_zero hz (by omega) (by omega) (fun w => conv_back a0 F hc (by omega) (by omega) w) w

/-! The row's step (the given shell's own text) -/
set_option maxRecDepth 100000 in
theorem lifted (os : Os) (started : os.Started) (H : Type) (enc : TypeId × Value → H) :
    ReturnsInHanded {} Yba.checked os 6 .any (Rows.lawS0546BIntExactSpec.pre6 enc Yba.prog Yba.f6 Rows.lawS0546BIntExactRow.domain false) (Rows.lawS0546BIntExactSpec.post enc Yba.prog Yba.f6 false true false false) := by
  refine returnsInHanded_of_change (C := Yba.checked) own started (by kernel_rfl) Yba.func6
    (ChangeSpec.witness6 (enc := enc) (C := Yba.checked) false ⟨#[], #[.int .i64 0, .int .u8 0], []⟩ 8 (by kernel_rfl) (by kernel_rfl) (by kernel_rfl) (by kernel_rfl)) ?_
  intro W base args ds gs before hval0 hW hcnd _
  have hval : ∀ (j : Nat) t v, Yba.f6.params[j]? = some t → args[j]? = some v → Value.okWide Yba.prog W .any base t v := hval0
  have hW' := hW
  obtain ⟨p, q, hA0, hV, rfl, hfz, hnd⟩ := hW
  have hA : DataW.TrodAll enc Yba.prog W 0 (fun _ => true) true Yba.f6.params.toList args.toList ds p := hA0
  rw [Yba.params6] at hA hval
  obtain ⟨v0, vs0, d0, ds0, p0, q0, hargs, rfl, rfl, h0, r0⟩ := trodAll_cons hA
  obtain ⟨v1, vs1, d1, ds1, p1, q1, rfl, rfl, rfl, h1, r1⟩ := trodAll_cons r0
  obtain ⟨rfl, rfl, rfl⟩ := trodAll_nil r1
  obtain rfl : args = #[v0, v1] := by cases args; simp_all
  obtain ⟨rfl, rfl⟩ := trodVars_none hV
  obtain ⟨a0, rfl, rfl, rfl, w0⟩ := open_int Yba.underlying2 (hval 0 2 v0 rfl rfl) h0
  obtain ⟨a1, rfl, rfl, rfl, w1⟩ := open_int Yba.underlying5 (hval 1 5 v1 rfl rfl) h1
  clear hA0 hval0
  simp only [List.append_nil] at hW'
  refine (walk a0 a1 w0 w1 W).mono fun e W' ⟨he, hg⟩ => ?_
  subst he
  exact ⟨_, rfl, post_of_same (pa := []) (pv := []) hW' (fun _ _ _ => (trodAll_cons_mk (shut_bool Yba.underlying4 _) trodAll_mk0)) (fun sp _ => (trodAll_cons_mk (shut_int Yba.underlying2 w0) (trodAll_cons_mk (shut_int Yba.underlying5 w1) trodAll_mk0))) (fun _ _ => rfl) rfl
    (hg.frame _) hg.2.1 (ok_one (by kernel_rfl) rfl (okWide_bool_mk Yba.underlying4 _))⟩

theorem over : Rows.lawS0546BIntExactRow.holds Yba.pinned (OpenSpec.ofChange Rows.lawS0546BIntExactSpec) :=
  OpenClaim.holds_of_wide 6 Yba.f6 rfl rfl rfl rfl rfl rfl rfl ⟨rfl, rfl, rfl, rfl, rfl⟩ rfl rfl rfl rfl rfl (by kernel_rfl) Yba.func6 (by kernel_rfl)
    (of_decide_eq_true (by kernel_rfl)) (by unfold Func.isWrapper; first | (rw [if_pos (by decide +kernel)]; kernel_rfl) | (rw [if_neg (by decide +kernel)]; exact ⟨rfl, rfl⟩))
    (fun os started H enc _ => lifted os started H enc)

/-- The given statement. -/
theorem proved : Rows.LawS0546BIntExactSaid :=
  over
end Go.Proofs.Ybulkkha.lawS0546BIntExact
