/-
  Filled by an AI agent out of the given shell. The walk is ours; the row's step is the shell's.
-/
import Derived.Test.YbulkkhaRows
import Derived.Test.YbulkkhaFloat
import Derived.Test.YbulkkhaIeee
import Derived.WalkKit
import Derived.ProofKit
import Derived.OpenShut
import Derived.ShutString
namespace Go.Proofs.Ybulkkha.lawS0546BIsZeroAgrees
open Go.ChangeShapes Go.WideShapes Go.ChangeAt Go.RowKit
open Go.ChangeMaps (open_string shut_string)
set_option linter.unusedVariables false      -- a walk need not use every 'w<i>' (that an integer argument fits its kind)

theorem own : ownKnob Yba.prog.godebug = none := by kernel_rfl

theorem back (x : Nat) (u0 : (x : Int) ≤ 18446744073709551615) : (IntKind.u64.wrap (wrap64 x)).toNat = x := by
  have e : IntKind.u64.wrap (wrap64 x) = (wrap64 x) % 18446744073709551616 := by simp [IntKind.wrap, IntKind.bits, IntKind.signed]
  rw [e]; unfold wrap64; omega

theorem grown_trans {a b c : World} (h : Grown a b) (g : Grown b c) : Grown a c :=
  ⟨World.keptBut_trans h.1 g.1, fun x => (g.2.1 x).trans (h.2.1 x), Nat.le_trans h.2.2 g.2.2⟩

/-- The plain law in the walk's spelling. -/
theorem zero_iff (x : Nat) (h : (x : Int) ≤ 18446744073709551615) : (FloatKind.f64.format.order x 0 == some .eq) = ((x : Int) == 0 || (x : Int) == 9223372036854775808) := by
  have := order_zero x (by omega)
  show (Ieee.double.order x 0 == some .eq) = _
  rw [this, Bool.eq_iff_iff]
  simp
  omega

theorem walk_plus (x : Nat) (HB : Hid ((IntKind.u64.wrap (wrap64 x)).toNat = x)) (h1 : ((x : Int) == 0) = true) (h2 : ((x : Int) == 9223372036854775808) = false) (hz : (FloatKind.f64.format.order x 0 == some .eq) = true) (w : World) :
    Calls Yba.prog 7 #[.int .u64 x] w fun e w' => e = .returned (.bool true) ∧ Grown w w' := by
  go_enter Yba.func7, Yba.ntmps7
  go_wp2_with fail
  refine (float_float _ _ x HB.out _).mono ?_
  rintro e w1 ⟨rfl, rfl⟩
  go_wp2_with fail
  refine (iszero_float _ _ x HB.out _).mono ?_
  rintro e w1 ⟨rfl, g1⟩
  go_wp2
  go_ret
  exact ⟨rfl, grown_trans (((Grown.refl _).alloc _ _).alloc _ _) g1⟩

theorem walk_minus (x : Nat) (HB : Hid ((IntKind.u64.wrap (wrap64 x)).toNat = x)) (h1 : ((x : Int) == 0) = false) (h2 : ((x : Int) == 9223372036854775808) = true) (hz : (FloatKind.f64.format.order x 0 == some .eq) = true) (w : World) :
    Calls Yba.prog 7 #[.int .u64 x] w fun e w' => e = .returned (.bool true) ∧ Grown w w' := by
  go_enter Yba.func7, Yba.ntmps7
  go_wp2_with fail
  refine (float_float _ _ x HB.out _).mono ?_
  rintro e w1 ⟨rfl, rfl⟩
  go_wp2_with fail
  refine (iszero_float _ _ x HB.out _).mono ?_
  rintro e w1 ⟨rfl, g1⟩
  go_wp2
  go_ret
  exact ⟨rfl, grown_trans (((Grown.refl _).alloc _ _).alloc _ _) g1⟩

theorem walk_other (x : Nat) (HB : Hid ((IntKind.u64.wrap (wrap64 x)).toNat = x)) (h1 : ((x : Int) == 0) = false) (h2 : ((x : Int) == 9223372036854775808) = false) (hz : (FloatKind.f64.format.order x 0 == some .eq) = false) (w : World) :
    Calls Yba.prog 7 #[.int .u64 x] w fun e w' => e = .returned (.bool true) ∧ Grown w w' := by
  go_enter Yba.func7, Yba.ntmps7
  go_wp2_with fail
  refine (float_float _ _ x HB.out _).mono ?_
  rintro e w1 ⟨rfl, rfl⟩
  go_wp2_with fail
  refine (iszero_float _ _ x HB.out _).mono ?_
  rintro e w1 ⟨rfl, g1⟩
  go_wp2
  go_ret
  exact ⟨rfl, grown_trans (((Grown.refl _).alloc _ _).alloc _ _) g1⟩

theorem walk (a0 : Int) (w0 : (Lit.int .u64 a0).wf = true) (w : World) :
    Calls Yba.prog 7 #[.int .u64 a0] w fun e w' => e = .returned (.bool true) ∧ Grown w w' := by
  obtain ⟨k0, u0⟩ := bounds_u64 w0
  obtain ⟨x, rfl⟩ := Int.eq_ofNat_of_zero_le k0
  have HB : Hid ((IntKind.u64.wrap (wrap64 x)).toNat = x) := back x u0
  have hz := zero_iff x u0
  rcases h1 : ((x : Int) == 0) with _ | _
  · rcases h2 : ((x : Int) == 9223372036854775808) with _ | _
    · rw [h1, h2] at hz
      exact walk_other x HB h1 h2 hz w
    · rw [h1, h2] at hz
      exact walk_minus x HB h1 h2 hz w
  · have h2 : ((x : Int) == 9223372036854775808) = false := by simp at h1 ⊢; omega
    rw [h1, h2] at hz
    exact walk_plus x HB h1 h2 hz w

/-! The row's step (the given shell's own text) -/
set_option maxRecDepth 100000 in
theorem lifted (os : Os) (started : os.Started) (H : Type) (enc : TypeId × Value → H) :
    ReturnsInHanded {} Yba.checked os 7 .any (Rows.lawS0546BIsZeroAgreesSpec.pre6 enc Yba.prog Yba.f7 Rows.lawS0546BIsZeroAgreesRow.domain false) (Rows.lawS0546BIsZeroAgreesSpec.post enc Yba.prog Yba.f7 false true false false) := by
  refine returnsInHanded_of_change (C := Yba.checked) own started (by kernel_rfl) Yba.func7
    (ChangeSpec.witness6 (enc := enc) (C := Yba.checked) false ⟨#[], #[.int .u64 0], []⟩ 8 (by kernel_rfl) (by kernel_rfl) (by kernel_rfl) (by kernel_rfl)) ?_
  intro W base args ds gs before hval0 hW hcnd _
  have hval : ∀ (j : Nat) t v, Yba.f7.params[j]? = some t → args[j]? = some v → Value.okWide Yba.prog W .any base t v := hval0
  have hW' := hW
  obtain ⟨p, q, hA0, hV, rfl, hfz, hnd⟩ := hW
  have hA : DataW.TrodAll enc Yba.prog W 0 (fun _ => true) true Yba.f7.params.toList args.toList ds p := hA0
  rw [Yba.params7] at hA hval
  obtain ⟨v0, vs0, d0, ds0, p0, q0, hargs, rfl, rfl, h0, r0⟩ := trodAll_cons hA
  obtain ⟨rfl, rfl, rfl⟩ := trodAll_nil r0
  obtain rfl : args = #[v0] := by cases args; simp_all
  obtain ⟨rfl, rfl⟩ := trodVars_none hV
  obtain ⟨a0, rfl, rfl, rfl, w0⟩ := open_int Yba.underlying26 (hval 0 26 v0 rfl rfl) h0
  clear hA0 hval0
  simp only [List.append_nil] at hW'
  refine (walk a0 w0 W).mono fun e W' ⟨he, hg⟩ => ?_
  subst he
  exact ⟨_, rfl, post_of_same (pa := []) (pv := []) hW' (fun _ _ _ => (trodAll_cons_mk (shut_bool Yba.underlying4 _) trodAll_mk0)) (fun sp _ => (trodAll_cons_mk (shut_int Yba.underlying26 w0) trodAll_mk0)) (fun _ _ => rfl) rfl
    (hg.frame _) hg.2.1 (ok_one (by kernel_rfl) rfl (okWide_bool_mk Yba.underlying4 _))⟩

theorem over : Rows.lawS0546BIsZeroAgreesRow.holds Yba.pinned (OpenSpec.ofChange Rows.lawS0546BIsZeroAgreesSpec) :=
  OpenClaim.holds_of_wide 7 Yba.f7 rfl rfl rfl rfl rfl rfl rfl ⟨rfl, rfl, rfl, rfl, rfl⟩ rfl rfl rfl rfl rfl (by kernel_rfl) Yba.func7 (by kernel_rfl)
    (of_decide_eq_true (by kernel_rfl)) (by unfold Func.isWrapper; first | (rw [if_pos (by decide +kernel)]; kernel_rfl) | (rw [if_neg (by decide +kernel)]; exact ⟨rfl, rfl⟩))
    (fun os started H enc _ => lifted os started H enc)

/-- The given statement. -/
theorem proved : Rows.LawS0546BIsZeroAgreesSaid :=
  over
end Go.Proofs.Ybulkkha.lawS0546BIsZeroAgrees
