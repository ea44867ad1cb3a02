/-
  Filled by an AI agent out of the given shell. The walk is ours; the row's step is the shell's.
-/
import Derived.Test.YbulkkoaRows
import Derived.WalkKit
import Derived.ProofKit
import Derived.OpenShut
import Derived.ShutString
namespace Go.Proofs.Ybulkkoa.lawS0559AAbs
open Go.ChangeShapes Go.WideShapes Go.ChangeAt Go.RowKit
open Go.ChangeMaps (open_string shut_string)
set_option linter.unusedVariables false      -- a walk need not use every 'w<i>' (that an integer argument fits its kind)

theorem own : ownKnob Yba.prog.godebug = none := by kernel_rfl

theorem ret_int {k : IntKind} {a b : Int} (h : a = b) : Ending.returned (.int k a) = .returned (.int k b) := by rw [h]

/-- magnitude of a negative number: 'm' names the word that it gives. -/
theorem mag_neg (v m : Int) (h : v < 0) (hm : Hid (IntKind.u64.wrap (wrap64 (-v)) = m)) (w : World) :
    Calls Yba.prog 5 #[.int .i64 v] w fun e w' => e = .returned (.int .u64 m) ∧ w' = w := by
  go_enter Yba.func5, Yba.ntmps5
  go_wp2
  go_ret
  exact ⟨ret_int hm.out, rfl⟩

theorem mag_pos (v : Int) (h : ¬ v < 0) (w : World) :
    Calls Yba.prog 5 #[.int .i64 v] w fun e w' => e = .returned (.int .u64 (IntKind.u64.wrap v)) ∧ w' = w := by
  go_enter Yba.func5, Yba.ntmps5
  go_wp2
  go_ret
  exact ⟨rfl, rfl⟩

theorem ret_bool {a b : Bool} (h : a = b) : Ending.returned (.bool a) = .returned (.bool b) := by rw [h]

theorem walk_neg (v m : Int) (h : v < 0) (HM : Hid (IntKind.u64.wrap (wrap64 (-v)) = m)) (h1 : IntKind.u64.wrap (m + IntKind.u64.wrap v) = 0) (h2 : 1 ≤ m) (H3 : Hid (m ≤ 9223372036854775808)) (w : World) :
    Calls Yba.prog 3 #[.int .i64 v] w fun e w' => e = .returned (.bool true) ∧ Grown w w' := by
  go_enter Yba.func3, Yba.ntmps3
  go_wp2_with fail
  refine (mag_neg v m h HM _).mono ?_
  rintro e w1 ⟨rfl, rfl⟩
  go_wp2
  go_ret
  exact ⟨ret_bool (decide_eq_true H3.out), Grown.refl _⟩

theorem wrap_u64 (x : Int) : IntKind.u64.wrap x = x % 18446744073709551616 := by simp [IntKind.wrap, IntKind.bits, IntKind.signed]

/-- The plain law: the word of -v, and what it adds up to with v. -/
theorem plain (v : Int) (h : v < 0) (h0 : -9223372036854775808 ≤ v) : IntKind.u64.wrap (wrap64 (-v)) = -v ∧ IntKind.u64.wrap (-v + IntKind.u64.wrap v) = 0 := by
  simp only [wrap_u64]
  unfold wrap64
  omega

theorem walk (a0 : Int) (w0 : (Lit.int .i64 a0).wf = true) (w : World) :
    Calls Yba.prog 3 #[.int .i64 a0] w fun e w' => e = .returned (.bool true) ∧ Grown w w' := by
  by_cases h : a0 < 0
  · obtain ⟨k0, u0⟩ := bounds_i64 w0
    obtain ⟨p1, p2⟩ := plain a0 h k0
    exact walk_neg a0 (-a0) h p1 p2 (by omega) (show -a0 ≤ 9223372036854775808 by omega) w
  · go_enter Yba.func3, Yba.ntmps3
    go_wp2_with fail
    refine (mag_pos a0 (by omega) _).mono ?_
    rintro e w1 ⟨rfl, rfl⟩
    go_wp2
    go_ret
    exact ⟨rfl, Grown.refl _⟩

/-! The row's step (the given shell's own text) -/
set_option maxRecDepth 100000 in
theorem lifted (os : Os) (started : os.Started) (H : Type) (enc : TypeId × Value → H) :
    ReturnsInHanded {} Yba.checked os 3 .any (Rows.lawS0559AAbsSpec.pre6 enc Yba.prog Yba.f3 Rows.lawS0559AAbsRow.domain false) (Rows.lawS0559AAbsSpec.post enc Yba.prog Yba.f3 false true false false) := by
  refine returnsInHanded_of_change (C := Yba.checked) own started (by kernel_rfl) Yba.func3
    (ChangeSpec.witness6 (enc := enc) (C := Yba.checked) false ⟨#[], #[.int .i64 0], []⟩ 8 (by kernel_rfl) (by kernel_rfl) (by kernel_rfl) (by kernel_rfl)) ?_
  intro W base args ds gs before hval0 hW hcnd _
  have hval : ∀ (j : Nat) t v, Yba.f3.params[j]? = some t → args[j]? = some v → Value.okWide Yba.prog W .any base t v := hval0
  have hW' := hW
  obtain ⟨p, q, hA0, hV, rfl, hfz, hnd⟩ := hW
  have hA : DataW.TrodAll enc Yba.prog W 0 (fun _ => true) true Yba.f3.params.toList args.toList ds p := hA0
  rw [Yba.params3] at hA hval
  obtain ⟨v0, vs0, d0, ds0, p0, q0, hargs, rfl, rfl, h0, r0⟩ := trodAll_cons hA
  obtain ⟨rfl, rfl, rfl⟩ := trodAll_nil r0
  obtain rfl : args = #[v0] := by cases args; simp_all
  obtain ⟨rfl, rfl⟩ := trodVars_none hV
  obtain ⟨a0, rfl, rfl, rfl, w0⟩ := open_int Yba.underlying2 (hval 0 2 v0 rfl rfl) h0
  clear hA0 hval0
  simp only [List.append_nil] at hW'
  refine (walk a0 w0 W).mono fun e W' ⟨he, hg⟩ => ?_
  subst he
  exact ⟨_, rfl, post_of_same (pa := []) (pv := []) hW' (fun _ _ _ => (trodAll_cons_mk (shut_bool Yba.underlying4 _) trodAll_mk0)) (fun sp _ => (trodAll_cons_mk (shut_int Yba.underlying2 w0) trodAll_mk0)) (fun _ _ => rfl) rfl
    (hg.frame _) hg.2.1 (ok_one (by kernel_rfl) rfl (okWide_bool_mk Yba.underlying4 _))⟩

theorem over : Rows.lawS0559AAbsRow.holds Yba.pinned (OpenSpec.ofChange Rows.lawS0559AAbsSpec) :=
  OpenClaim.holds_of_wide 3 Yba.f3 rfl rfl rfl rfl rfl rfl rfl ⟨rfl, rfl, rfl, rfl, rfl⟩ rfl rfl rfl rfl rfl (by kernel_rfl) Yba.func3 (by kernel_rfl)
    (of_decide_eq_true (by kernel_rfl)) (by unfold Func.isWrapper; first | (rw [if_pos (by decide +kernel)]; kernel_rfl) | (rw [if_neg (by decide +kernel)]; exact ⟨rfl, rfl⟩))
    (fun os started H enc _ => lifted os started H enc)

/-- The given statement. -/
theorem proved : Rows.LawS0559AAbsSaid :=
  over
end Go.Proofs.Ybulkkoa.lawS0559AAbs
