/-
  Filled by an AI agent out of the given shell. The walk is ours; the row's step is the shell's.
-/
import Derived.Test.YbulkkhaRows
import Derived.Test.YbulkkhaStep
import Derived.WalkKit
import Derived.ProofKit
import Derived.OpenShut
import Derived.ShutString
namespace Go.Proofs.Ybulkkha.lawS0546APrefix
open Go.ChangeShapes Go.WideShapes Go.ChangeAt Go.RowKit
open Go.ChangeMaps (open_string shut_string)
set_option linter.unusedVariables false      -- a walk need not use every 'w<i>' (that an integer argument fits its kind)

theorem own : ownKnob Yba.prog.godebug = none := by kernel_rfl

theorem grown_trans {a b c : World} (h : Grown a b) (g : Grown b c) : Grown a c :=
  ⟨World.keptBut_trans h.1 g.1, fun x => (g.2.1 x).trans (h.2.1 x), Nat.le_trans h.2.2 g.2.2⟩

/-- 'string([]byte{c0, c1})': the two cells just laid, as a string. -/
theorem conv2 (x y : UInt8) (m n : Int) (hm : (x.toNat : Int) = m) (hn : (y.toNat : Int) = n) (w : World) :
    (convert 24 9 (.slice (some ⟨w.heap.size, 0, none⟩) 2 2)).run Yba.prog (w.alloc (.cells #[.int .u8 m, .int .u8 n] 5)) = .ok (.string ⟨#[x, y]⟩) (w.alloc (.cells #[.int .u8 m, .int .u8 n] 5)) := by
  subst hm hn
  refine run_convert_bytes_back _ 24 9 5 ⟨w.heap.size, 0, none⟩ 2 [x, y] Yba.underlying24 Yba.underlying5 Yba.underlying9 ?_
  intro j hj
  match j, hj with
  | 0, _ => simp [Addr.add, go_sem]
  | 1, _ => simp [Addr.add, go_sem]

theorem pre_size (x y : UInt8) (t : ByteArray) : (({ data := #[x, y] } : ByteArray) ++ t).size = 2 + t.size := by
  rw [ByteArray.size_append]; rfl

theorem step_pre (x y : UInt8) (t : ByteArray) (r : Int) (hr : stepB x.toNat y.toNat = r) (w : World) :
    Calls Yba.prog 8 #[.string (({ data := #[x, y] } : ByteArray) ++ t)] w fun e w' => e = .returned (.int .i64 r) ∧ Grown w w' := by
  subst hr
  have h1 : 1 < (({ data := #[x, y] } : ByteArray) ++ t).size := by rw [pre_size]; omega
  have e0 : (({ data := #[x, y] } : ByteArray) ++ t)[0]'(by omega) = x := by
    rw [ByteArray.getElem_append_left (by simp [ByteArray.size])]; rfl
  have e1 : (({ data := #[x, y] } : ByteArray) ++ t)[1] = y := by
    rw [ByteArray.getElem_append_left (by simp [ByteArray.size])]; rfl
  have := step_long _ w h1
  rw [e0, e1] at this
  exact this

theorem short1 (x y : UInt8) (t : ByteArray) : (((({ data := #[x, y] } : ByteArray) ++ t).extract 0 1).size : Int) < 2 := by
  rw [ByteArray.size_extract, pre_size]; omega

theorem walk_00 (a0 : Int) (a1 : Int) (a2 : ByteArray) (k0 : 0 ≤ a0) (k1 : 0 ≤ a1) (u0 : a0 ≤ 255) (u1 : a1 ≤ 255) (e0 : a0 % 3 = 0) (e1 : a1 % 3 = 0) (w2 : a2.size ≤ 1024) (w : World) :
    Calls Yba.prog 4 #[.int .u8 a0, .int .u8 a1, .string a2] w fun e w' => e = .returned (.bool true) ∧ Grown w w' := by
  have t0 : (({ data := #[43, 45, 120] } : ByteArray)[0]).toNat = 43 := rfl
  have hcv := conv2 43 43 43 43 rfl rfl w
  have hsz := pre_size 43 43 a2
  go_enter Yba.func4, Yba.ntmps4
  go_wp2_with fail
  refine (step_pre 43 43 a2 1 (by decide) _).mono ?_
  rintro e w1 ⟨rfl, g1⟩
  go_wp2_with fail
  refine (step_short _ _ (short1 _ _ _)).mono ?_
  rintro e w3 ⟨rfl, g3⟩
  go_wp2
  go_ret
  exact ⟨rfl, grown_trans (grown_trans ((Grown.refl _).alloc _ _) g1) g3⟩

theorem walk_01 (a0 : Int) (a1 : Int) (a2 : ByteArray) (k0 : 0 ≤ a0) (k1 : 0 ≤ a1) (u0 : a0 ≤ 255) (u1 : a1 ≤ 255) (e0 : a0 % 3 = 0) (e1 : a1 % 3 = 1) (w2 : a2.size ≤ 1024) (w : World) :
    Calls Yba.prog 4 #[.int .u8 a0, .int .u8 a1, .string a2] w fun e w' => e = .returned (.bool true) ∧ Grown w w' := by
  have t0 : (({ data := #[43, 45, 120] } : ByteArray)[0]).toNat = 43 := rfl
  have t1 : (({ data := #[43, 45, 120] } : ByteArray)[1]).toNat = 45 := rfl
  have hcv := conv2 43 45 43 45 rfl rfl w
  have hsz := pre_size 43 45 a2
  go_enter Yba.func4, Yba.ntmps4
  go_wp2_with fail
  refine (step_pre 43 45 a2 0 (by decide) _).mono ?_
  rintro e w1 ⟨rfl, g1⟩
  go_wp2_with fail
  refine (step_short _ _ (short1 _ _ _)).mono ?_
  rintro e w3 ⟨rfl, g3⟩
  go_wp2
  go_ret
  exact ⟨rfl, grown_trans (grown_trans ((Grown.refl _).alloc _ _) g1) g3⟩

theorem walk_02 (a0 : Int) (a1 : Int) (a2 : ByteArray) (k0 : 0 ≤ a0) (k1 : 0 ≤ a1) (u0 : a0 ≤ 255) (u1 : a1 ≤ 255) (e0 : a0 % 3 = 0) (e1 : a1 % 3 = 2) (w2 : a2.size ≤ 1024) (w : World) :
    Calls Yba.prog 4 #[.int .u8 a0, .int .u8 a1, .string a2] w fun e w' => e = .returned (.bool true) ∧ Grown w w' := by
  have t0 : (({ data := #[43, 45, 120] } : ByteArray)[0]).toNat = 43 := rfl
  have t2 : (({ data := #[43, 45, 120] } : ByteArray)[2]).toNat = 120 := rfl
  have hcv := conv2 43 120 43 120 rfl rfl w
  have hsz := pre_size 43 120 a2
  go_enter Yba.func4, Yba.ntmps4
  go_wp2_with fail
  refine (step_pre 43 120 a2 0 (by decide) _).mono ?_
  rintro e w1 ⟨rfl, g1⟩
  go_wp2_with fail
  refine (step_short _ _ (short1 _ _ _)).mono ?_
  rintro e w3 ⟨rfl, g3⟩
  go_wp2
  go_ret
  exact ⟨rfl, grown_trans (grown_trans ((Grown.refl _).alloc _ _) g1) g3⟩

theorem walk_10 (a0 : Int) (a1 : Int) (a2 : ByteArray) (k0 : 0 ≤ a0) (k1 : 0 ≤ a1) (u0 : a0 ≤ 255) (u1 : a1 ≤ 255) (e0 : a0 % 3 = 1) (e1 : a1 % 3 = 0) (w2 : a2.size ≤ 1024) (w : World) :
    Calls Yba.prog 4 #[.int .u8 a0, .int .u8 a1, .string a2] w fun e w' => e = .returned (.bool true) ∧ Grown w w' := by
  have t0 : (({ data := #[43, 45, 120] } : ByteArray)[0]).toNat = 43 := rfl
  have t1 : (({ data := #[43, 45, 120] } : ByteArray)[1]).toNat = 45 := rfl
  have hcv := conv2 45 43 45 43 rfl rfl w
  have hsz := pre_size 45 43 a2
  go_enter Yba.func4, Yba.ntmps4
  go_wp2_with fail
  refine (step_pre 45 43 a2 0 (by decide) _).mono ?_
  rintro e w1 ⟨rfl, g1⟩
  go_wp2_with fail
  refine (step_short _ _ (short1 _ _ _)).mono ?_
  rintro e w3 ⟨rfl, g3⟩
  go_wp2
  go_ret
  exact ⟨rfl, grown_trans (grown_trans ((Grown.refl _).alloc _ _) g1) g3⟩

theorem walk_11 (a0 : Int) (a1 : Int) (a2 : ByteArray) (k0 : 0 ≤ a0) (k1 : 0 ≤ a1) (u0 : a0 ≤ 255) (u1 : a1 ≤ 255) (e0 : a0 % 3 = 1) (e1 : a1 % 3 = 1) (w2 : a2.size ≤ 1024) (w : World) :
    Calls Yba.prog 4 #[.int .u8 a0, .int .u8 a1, .string a2] w fun e w' => e = .returned (.bool true) ∧ Grown w w' := by
  have t1 : (({ data := #[43, 45, 120] } : ByteArray)[1]).toNat = 45 := rfl
  have hcv := conv2 45 45 45 45 rfl rfl w
  have hsz := pre_size 45 45 a2
  go_enter Yba.func4, Yba.ntmps4
  go_wp2_with fail
  refine (step_pre 45 45 a2 (-1) (by decide) _).mono ?_
  rintro e w1 ⟨rfl, g1⟩
  go_wp2_with fail
  refine (step_short _ _ (short1 _ _ _)).mono ?_
  rintro e w3 ⟨rfl, g3⟩
  go_wp2
  go_ret
  exact ⟨rfl, grown_trans (grown_trans ((Grown.refl _).alloc _ _) g1) g3⟩

theorem walk_12 (a0 : Int) (a1 : Int) (a2 : ByteArray) (k0 : 0 ≤ a0) (k1 : 0 ≤ a1) (u0 : a0 ≤ 255) (u1 : a1 ≤ 255) (e0 : a0 % 3 = 1) (e1 : a1 % 3 = 2) (w2 : a2.size ≤ 1024) (w : World) :
    Calls Yba.prog 4 #[.int .u8 a0, .int .u8 a1, .string a2] w fun e w' => e = .returned (.bool true) ∧ Grown w w' := by
  have t1 : (({ data := #[43, 45, 120] } : ByteArray)[1]).toNat = 45 := rfl
  have t2 : (({ data := #[43, 45, 120] } : ByteArray)[2]).toNat = 120 := rfl
  have hcv := conv2 45 120 45 120 rfl rfl w
  have hsz := pre_size 45 120 a2
  go_enter Yba.func4, Yba.ntmps4
  go_wp2_with fail
  refine (step_pre 45 120 a2 0 (by decide) _).mono ?_
  rintro e w1 ⟨rfl, g1⟩
  go_wp2_with fail
  refine (step_short _ _ (short1 _ _ _)).mono ?_
  rintro e w3 ⟨rfl, g3⟩
  go_wp2
  go_ret
  exact ⟨rfl, grown_trans (grown_trans ((Grown.refl _).alloc _ _) g1) g3⟩

theorem walk_20 (a0 : Int) (a1 : Int) (a2 : ByteArray) (k0 : 0 ≤ a0) (k1 : 0 ≤ a1) (u0 : a0 ≤ 255) (u1 : a1 ≤ 255) (e0 : a0 % 3 = 2) (e1 : a1 % 3 = 0) (w2 : a2.size ≤ 1024) (w : World) :
    Calls Yba.prog 4 #[.int .u8 a0, .int .u8 a1, .string a2] w fun e w' => e = .returned (.bool true) ∧ Grown w w' := by
  have t0 : (({ data := #[43, 45, 120] } : ByteArray)[0]).toNat = 43 := rfl
  have t2 : (({ data := #[43, 45, 120] } : ByteArray)[2]).toNat = 120 := rfl
  have hcv := conv2 120 43 120 43 rfl rfl w
  have hsz := pre_size 120 43 a2
  go_enter Yba.func4, Yba.ntmps4
  go_wp2_with fail
  refine (step_pre 120 43 a2 0 (by decide) _).mono ?_
  rintro e w1 ⟨rfl, g1⟩
  go_wp2_with fail
  refine (step_short _ _ (short1 _ _ _)).mono ?_
  rintro e w3 ⟨rfl, g3⟩
  go_wp2
  go_ret
  exact ⟨rfl, grown_trans (grown_trans ((Grown.refl _).alloc _ _) g1) g3⟩

theorem walk_21 (a0 : Int) (a1 : Int) (a2 : ByteArray) (k0 : 0 ≤ a0) (k1 : 0 ≤ a1) (u0 : a0 ≤ 255) (u1 : a1 ≤ 255) (e0 : a0 % 3 = 2) (e1 : a1 % 3 = 1) (w2 : a2.size ≤ 1024) (w : World) :
    Calls Yba.prog 4 #[.int .u8 a0, .int .u8 a1, .string a2] w fun e w' => e = .returned (.bool true) ∧ Grown w w' := by
  have t1 : (({ data := #[43, 45, 120] } : ByteArray)[1]).toNat = 45 := rfl
  have t2 : (({ data := #[43, 45, 120] } : ByteArray)[2]).toNat = 120 := rfl
  have hcv := conv2 120 45 120 45 rfl rfl w
  have hsz := pre_size 120 45 a2
  go_enter Yba.func4, Yba.ntmps4
  go_wp2_with fail
  refine (step_pre 120 45 a2 0 (by decide) _).mono ?_
  rintro e w1 ⟨rfl, g1⟩
  go_wp2_with fail
  refine (step_short _ _ (short1 _ _ _)).mono ?_
  rintro e w3 ⟨rfl, g3⟩
  go_wp2
  go_ret
  exact ⟨rfl, grown_trans (grown_trans ((Grown.refl _).alloc _ _) g1) g3⟩

theorem walk_22 (a0 : Int) (a1 : Int) (a2 : ByteArray) (k0 : 0 ≤ a0) (k1 : 0 ≤ a1) (u0 : a0 ≤ 255) (u1 : a1 ≤ 255) (e0 : a0 % 3 = 2) (e1 : a1 % 3 = 2) (w2 : a2.size ≤ 1024) (w : World) :
    Calls Yba.prog 4 #[.int .u8 a0, .int .u8 a1, .string a2] w fun e w' => e = .returned (.bool true) ∧ Grown w w' := by
  have t2 : (({ data := #[43, 45, 120] } : ByteArray)[2]).toNat = 120 := rfl
  have hcv := conv2 120 120 120 120 rfl rfl w
  have hsz := pre_size 120 120 a2
  go_enter Yba.func4, Yba.ntmps4
  go_wp2_with fail
  refine (step_pre 120 120 a2 0 (by decide) _).mono ?_
  rintro e w1 ⟨rfl, g1⟩
  go_wp2_with fail
  refine (step_short _ _ (short1 _ _ _)).mono ?_
  rintro e w3 ⟨rfl, g3⟩
  go_wp2
  go_ret
  exact ⟨rfl, grown_trans (grown_trans ((Grown.refl _).alloc _ _) g1) g3⟩

theorem walk (a0 : Int) (a1 : Int) (a2 : ByteArray) (w0 : (Lit.int .u8 a0).wf = true) (w1 : (Lit.int .u8 a1).wf = true) (w2 : a2.size ≤ maxLen) (w : World) :
    Calls Yba.prog 4 #[.int .u8 a0, .int .u8 a1, .string a2] w fun e w' => e = .returned (.bool true) ∧ Grown w w' := by
  obtain ⟨k0, u0⟩ := bounds_u8 w0
  obtain ⟨k1, u1⟩ := bounds_u8 w1
  by_cases hl : (1024 : Int) < a2.size
  · go_enter Yba.func4, Yba.ntmps4
    go_wp2
    go_ret
    exact ⟨rfl, Grown.refl _⟩
  have hs : a2.size ≤ 1024 := by omega
  have c0 : a0 % 3 = 0 ∨ a0 % 3 = 1 ∨ a0 % 3 = 2 := by omega
  have c1 : a1 % 3 = 0 ∨ a1 % 3 = 1 ∨ a1 % 3 = 2 := by omega
  rcases c0 with c0 | c0 | c0 <;> rcases c1 with c1 | c1 | c1
  · exact walk_00 a0 a1 a2 k0 k1 (by omega) (by omega) c0 c1 hs w
  · exact walk_01 a0 a1 a2 k0 k1 (by omega) (by omega) c0 c1 hs w
  · exact walk_02 a0 a1 a2 k0 k1 (by omega) (by omega) c0 c1 hs w
  · exact walk_10 a0 a1 a2 k0 k1 (by omega) (by omega) c0 c1 hs w
  · exact walk_11 a0 a1 a2 k0 k1 (by omega) (by omega) c0 c1 hs w
  · exact walk_12 a0 a1 a2 k0 k1 (by omega) (by omega) c0 c1 hs w
  · exact walk_20 a0 a1 a2 k0 k1 (by omega) (by omega) c0 c1 hs w
  · exact walk_21 a0 a1 a2 k0 k1 (by omega) (by omega) c0 c1 hs w
  · exact walk_22 a0 a1 a2 k0 k1 (by omega) (by omega) c0 c1 hs w

/-! The row's step (the given shell's own text) -/
set_option maxRecDepth 100000 in
theorem lifted (os : Os) (started : os.Started) (H : Type) (enc : TypeId × Value → H) :
    ReturnsInHanded {} Yba.checked os 4 .any (Rows.lawS0546APrefixSpec.pre6 enc Yba.prog Yba.f4 Rows.lawS0546APrefixRow.domain false) (Rows.lawS0546APrefixSpec.post enc Yba.prog Yba.f4 false true false false) := by
  refine returnsInHanded_of_change (C := Yba.checked) own started (by kernel_rfl) Yba.func4
    (ChangeSpec.witness6 (enc := enc) (C := Yba.checked) false ⟨#[], #[.int .u8 0, .int .u8 0, .string ByteArray.empty], []⟩ 8 (by kernel_rfl) (by kernel_rfl) (by kernel_rfl) (by kernel_rfl)) ?_
  intro W base args ds gs before hval0 hW hcnd _
  have hval : ∀ (j : Nat) t v, Yba.f4.params[j]? = some t → args[j]? = some v → Value.okWide Yba.prog W .any base t v := hval0
  have hW' := hW
  obtain ⟨p, q, hA0, hV, rfl, hfz, hnd⟩ := hW
  have hA : DataW.TrodAll enc Yba.prog W 0 (fun _ => true) true Yba.f4.params.toList args.toList ds p := hA0
  rw [Yba.params4] at hA hval
  obtain ⟨v0, vs0, d0, ds0, p0, q0, hargs, rfl, rfl, h0, r0⟩ := trodAll_cons hA
  obtain ⟨v1, vs1, d1, ds1, p1, q1, rfl, rfl, rfl, h1, r1⟩ := trodAll_cons r0
  obtain ⟨v2, vs2, d2, ds2, p2, q2, rfl, rfl, rfl, h2, r2⟩ := trodAll_cons r1
  obtain ⟨rfl, rfl, rfl⟩ := trodAll_nil r2
  obtain rfl : args = #[v0, v1, v2] := by cases args; simp_all
  obtain ⟨rfl, rfl⟩ := trodVars_none hV
  obtain ⟨a0, rfl, rfl, rfl, w0⟩ := open_int Yba.underlying5 (hval 0 5 v0 rfl rfl) h0
  obtain ⟨a1, rfl, rfl, rfl, w1⟩ := open_int Yba.underlying5 (hval 1 5 v1 rfl rfl) h1
  obtain ⟨a2, rfl, rfl, rfl, w2⟩ := open_string Yba.underlying9 (hval 2 9 v2 rfl rfl) h2
  clear hA0 hval0
  simp only [List.append_nil] at hW'
  refine (walk a0 a1 a2 w0 w1 w2 W).mono fun e W' ⟨he, hg⟩ => ?_
  subst he
  exact ⟨_, rfl, post_of_same (pa := []) (pv := []) hW' (fun _ _ _ => (trodAll_cons_mk (shut_bool Yba.underlying4 _) trodAll_mk0)) (fun sp _ => (trodAll_cons_mk (shut_int Yba.underlying5 w0) (trodAll_cons_mk (shut_int Yba.underlying5 w1) (trodAll_cons_mk (shut_string Yba.underlying9 w2) trodAll_mk0)))) (fun _ _ => rfl) rfl
    (hg.frame _) hg.2.1 (ok_one (by kernel_rfl) rfl (okWide_bool_mk Yba.underlying4 _))⟩

theorem over : Rows.lawS0546APrefixRow.holds Yba.pinned (OpenSpec.ofChange Rows.lawS0546APrefixSpec) :=
  OpenClaim.holds_of_wide 4 Yba.f4 rfl rfl rfl rfl rfl rfl rfl ⟨rfl, rfl, rfl, rfl, rfl⟩ rfl rfl rfl rfl rfl (by kernel_rfl) Yba.func4 (by kernel_rfl)
    (of_decide_eq_true (by kernel_rfl)) (by unfold Func.isWrapper; first | (rw [if_pos (by decide +kernel)]; kernel_rfl) | (rw [if_neg (by decide +kernel)]; exact ⟨rfl, rfl⟩))
    (fun os started H enc _ => lifted os started H enc)

/-- The given statement. -/
theorem proved : Rows.LawS0546APrefixSaid :=
  over
end Go.Proofs.Ybulkkha.lawS0546APrefix
