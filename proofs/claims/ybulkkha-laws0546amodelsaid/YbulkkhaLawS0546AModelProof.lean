/-
  Filled by an AI agent out of the given shell. The walk is ours; the row's step is the shell's.
-/
import Derived.Test.YbulkkhaRows
import Derived.Test.YbulkkhaStep
import Derived.WalkKit
import Derived.ProofKit
import Derived.OpenShut
import Derived.ShutString
namespace Go.Proofs.Ybulkkha.lawS0546AModel
open Go.ChangeShapes Go.WideShapes Go.ChangeAt Go.RowKit
open Go.ChangeMaps (open_string shut_string)
set_option linter.unusedVariables false      -- a walk need not use every 'w<i>' (that an integer argument fits its kind)

theorem own : ownKnob Yba.prog.godebug = none := by kernel_rfl

theorem model_short (s : ByteArray) (w : World) (hs : (s.size : Int) < 2) :
    Calls Yba.prog 9 #[.string s] w fun e w' => e = .returned (.int .i64 0) ∧ Grown w w' := by
  go_enter Yba.func9, Yba.ntmps9
  go_wp2
  go_ret
  exact ⟨rfl, Grown.refl _⟩

theorem model_long (s : ByteArray) (w : World) (h1 : 1 < s.size) :
    Calls Yba.prog 9 #[.string s] w fun e w' => e = .returned (.int .i64 (stepB s[0].toNat s[1].toNat)) ∧ Grown w w' := by
  have h0 : 0 < s.size := by omega
  have h2 : (1 : Int) < s.size := by omega
  have hd : decide (2 ≤ (s.size : Int)) = true := by simp; omega
  go_enter Yba.func9, Yba.ntmps9
  go_wp2
  all_goals (go_ret; refine ⟨ret_int ?_, Grown.refl _⟩; unfold stepB; simp_all)
  all_goals omega

theorem grown_trans {a b c : World} (h : Grown a b) (g : Grown b c) : Grown a c :=
  ⟨World.keptBut_trans h.1 g.1, fun x => (g.2.1 x).trans (h.2.1 x), Nat.le_trans h.2.2 g.2.2⟩

theorem walk (a0 : ByteArray) (w0 : a0.size ≤ maxLen) (w : World) :
    Calls Yba.prog 3 #[.string a0] w fun e w' => e = .returned (.bool true) ∧ Grown w w' := by
  by_cases hs : (a0.size : Int) < 2
  · go_enter Yba.func3, Yba.ntmps3
    go_wp2_with fail
    refine (step_short a0 _ hs).mono ?_
    rintro e w1 ⟨rfl, g1⟩
    go_wp2_with fail
    refine (model_short a0 _ hs).mono ?_
    rintro e w2 ⟨rfl, g2⟩
    go_wp2
    go_ret
    exact ⟨rfl, grown_trans g1 g2⟩
  · have h1 : 1 < a0.size := by omega
    go_enter Yba.func3, Yba.ntmps3
    go_wp2_with fail
    refine (step_long a0 _ h1).mono ?_
    rintro e w1 ⟨rfl, g1⟩
    go_wp2_with fail
    refine (model_long a0 _ h1).mono ?_
    rintro e w2 ⟨rfl, g2⟩
    go_wp2
    go_ret
    exact ⟨rfl, grown_trans g1 g2⟩

/-! The row's step (the given shell's own text) -/
set_option maxRecDepth 100000 in
theorem lifted (os : Os) (started : os.Started) (H : Type) (enc : TypeId × Value → H) :
    ReturnsInHanded {} Yba.checked os 3 .any (Rows.lawS0546AModelSpec.pre6 enc Yba.prog Yba.f3 Rows.lawS0546AModelRow.domain false) (Rows.lawS0546AModelSpec.post enc Yba.prog Yba.f3 false true false false) := by
  refine returnsInHanded_of_change (C := Yba.checked) own started (by kernel_rfl) Yba.func3
    (ChangeSpec.witness6 (enc := enc) (C := Yba.checked) false ⟨#[], #[.string ByteArray.empty], []⟩ 8 (by kernel_rfl) (by kernel_rfl) (by kernel_rfl) (by kernel_rfl)) ?_
  intro W base args ds gs before hval0 hW hcnd _
  have hval : ∀ (j : Nat) t v, Yba.f3.params[j]? = some t → args[j]? = some v → Value.okWide Yba.prog W .any base t v := hval0
  have hW' := hW
  obtain ⟨p, q, hA0, hV, rfl, hfz, hnd⟩ := hW
  have hA : DataW.TrodAll enc Yba.prog W 0 (fun _ => true) true Yba.f3.params.toList args.toList ds p := hA0
  rw [Yba.params3] at hA hval
  obtain ⟨v0, vs0, d0, ds0, p0, q0, hargs, rfl, rfl, h0, r0⟩ := trodAll_cons hA
  obtain ⟨rfl, rfl, rfl⟩ := trodAll_nil r0
  obtain rfl : args = #[v0] := by cases args; simp_all
  obtain ⟨rfl, rfl⟩ := trodVars_none hV
  obtain ⟨a0, rfl, rfl, rfl, w0⟩ := open_string Yba.underlying9 (hval 0 9 v0 rfl rfl) h0
  clear hA0 hval0
  simp only [List.append_nil] at hW'
  refine (walk a0 w0 W).mono fun e W' ⟨he, hg⟩ => ?_
  subst he
  exact ⟨_, rfl, post_of_same (pa := []) (pv := []) hW' (fun _ _ _ => (trodAll_cons_mk (shut_bool Yba.underlying4 _) trodAll_mk0)) (fun sp _ => (trodAll_cons_mk (shut_string Yba.underlying9 w0) trodAll_mk0)) (fun _ _ => rfl) rfl
    (hg.frame _) hg.2.1 (ok_one (by kernel_rfl) rfl (okWide_bool_mk Yba.underlying4 _))⟩

theorem over : Rows.lawS0546AModelRow.holds Yba.pinned (OpenSpec.ofChange Rows.lawS0546AModelSpec) :=
  OpenClaim.holds_of_wide 3 Yba.f3 rfl rfl rfl rfl rfl rfl rfl ⟨rfl, rfl, rfl, rfl, rfl⟩ rfl rfl rfl rfl rfl (by kernel_rfl) Yba.func3 (by kernel_rfl)
    (of_decide_eq_true (by kernel_rfl)) (by unfold Func.isWrapper; first | (rw [if_pos (by decide +kernel)]; kernel_rfl) | (rw [if_neg (by decide +kernel)]; exact ⟨rfl, rfl⟩))
    (fun os started H enc _ => lifted os started H enc)

/-- The given statement. -/
theorem proved : Rows.LawS0546AModelSaid :=
  over
end Go.Proofs.Ybulkkha.lawS0546AModel
