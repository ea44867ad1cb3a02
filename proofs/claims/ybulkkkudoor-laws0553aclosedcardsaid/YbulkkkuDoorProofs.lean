/-
  LawS0553AClosed: the row, and her tied card. After the guide's worked texts (a sentinel under 'laid'; a tied card). By an AI agent.
-/
import Derived.Test.YbulkkkuDoorRows
import Derived.Test.YbulkkkuDoorTie
import Derived.Test.YbulkkkuDoorCards
import Derived.Test.YbulkkkuDoorWalks
import Derived.ProofKit
import Derived.LaidMore
import Derived.OpenShut
import Derived.Stop.Joined
import Derived.Stop.LaidErr
import Derived.SevenTiedAt
namespace Go.Proofs.YbulkkkuDoor
open Go.ChangeShapes Go.WideShapes Go.ChangeAt Go.WideMaps Go.WideElems Go.RowKit

/-- The listed variable's name, as the given row has it. -/
abbrev nm : String := Rows.lawS0553AClosedSpec.vars.headD ""
abbrev listed : List (String × DataW Unit) := Rows.lawS0553AClosedRow.laid

theorem own : ownKnob Ybad.prog.godebug = none := by kernel_rfl
theorem gErr : Ybad.prog.globalNamed nm = some 0 := by kernel_rfl
theorem tErr : (Ybad.prog.globals[0]?).map (·.type) = some 42 := by kernel_rfl
theorem cells66 : Ybad.prog.cellsOf 66 = 1 := by kernel_rfl
theorem cells9 : Ybad.prog.cellsOf 9 = 1 := by kernel_rfl

/-- The dynamic type's name, as the given datum has it. -/
def tn : String := match (Rows.laid_example_com_orgward_orgward_store_ErrClosed : DataW Unit) with
  | .iface n _ => n
  | _ => ""
theorem row64 (u : TypeId) (h : Ybad.prog.typeName? 3 u = some tn) : u = 64 :=
  typeName_ptr_named (nm := "errors.errorString") (by kernel_rfl) (by kernel_rfl) (by decide) u (h.trans (congrArg some (by decide)))

/-- The door's own heap meets the condition. -/
theorem door_met (os : Os) (args : Array Value) : laidMetH Ybad.prog listed ((World.doorLaid Ybad.prog 400 os).forCall (fun _ _ => 0) ⟨#[], args, []⟩).memory :=
  laidMetH_of_parts3 (fuel := 8) (laidMet_of_run' 8 (by kernel_rfl) (by kernel_rfl)) (by kernel_rfl) (by kernel_rfl)

/-- What the condition gives the walk: the variable's cell. -/
theorem of_laid {W : World} (h : laidMetH Ybad.prog listed W) : ∃ a : Addr, W.var? Ybad.prog nm = some #[.iface 64 (.pointer (some a))] := by
  rw [MakeChecks.laidMetH_plain _ _ _ (by kernel_rfl)] at h
  obtain ⟨a, s, hv, _, _, _⟩ := laid_sentinel (P := Ybad.prog) (nm := tn) (r := []) h gErr tErr Ybad.underlying42 row64 Ybad.underlying64 Ybad.underlying66 rfl rfl Ybad.underlying9 cells66 cells9
  exact ⟨a, hv⟩

/-- The named variable read again as a token, in whatever world holds it so. -/
theorem vars_read {H : Type} (enc : TypeId × Value → H) {W : World} {x : Value} (h : W.var? Ybad.prog nm = some #[x]) (ix : IsIface x) (sp : Nat → Bool) :
    DataW.TrodVars enc Ybad.prog W sp Rows.lawS0553AClosedSpec.vars [tok enc x] [.cell 0 0] :=
  vars_read1 enc gErr tErr Ybad.underlying42 h ix sp

/-- The variable holds that still in a world that has only grown. -/
theorem var_grown {W W' : World} {cs : Array Value} (hg : Grown W W') (h : W.var? Ybad.prog nm = some cs) : W'.var? Ybad.prog nm = some cs := by
  unfold World.var? at h ⊢
  rw [gErr] at h ⊢
  simp only [Option.bind_some] at h ⊢
  cases hb : W.heap[0]? with
  | none => rw [hb] at h; cases h
  | some o =>
    have hlt : 0 < W.heap.size := by
      rcases Nat.lt_or_ge 0 W.heap.size with h' | h'
      · exact h'
      · rw [Array.getElem?_eq_none h'] at hb; cases hb
    have hk := hg.1.2.2 0 hlt
    rw [hb] at h hk
    cases o with
    | cells c t fr =>
      simp only [Option.some.injEq] at h
      subst h
      cases hb' : W'.heap[0]? with
      | none => rw [hb'] at hk; cases hk
      | some o' =>
        rw [hb'] at hk
        cases o' with
        | cells c' t' fr' =>
          obtain ⟨_, _, hs, hc⟩ := hk
          simp only [Option.some.injEq]
          exact Array.ext_getElem? fun j => hc j (fun f => f)
        | map _ _ => cases hk
        | chan _ _ _ => cases hk
        | _ => cases hk
    | _ => cases h

set_option maxRecDepth 100000 in
theorem lifted (os : Os) (started : os.Started) (H : Type) (enc : TypeId × Value → H) :
    ReturnsInHanded {} Ybad.checked os 4 .any (fun w args => (Rows.lawS0553AClosedSpec.pre enc Ybad.prog Ybad.f4 [] false w args ∧ laidMetH Ybad.prog listed w) ∧ sizedMet enc Ybad.prog Ybad.f4 (OpenSpec.ofChange Rows.lawS0553AClosedSpec) false w args)
      (Rows.lawS0553AClosedSpec.post enc Ybad.prog Ybad.f4 false true false false) := by
  refine returnsInHanded_of_change_and (C := Ybad.checked) (X := fun w _ => laidMetH Ybad.prog listed w) (fun _ _ _ hh h => h.of_heap hh) own started (by kernel_rfl) Ybad.func4
    (ChangeSpec.witness_shaped (enc := enc) (C := Ybad.checked) (os := os) (X := fun w _ => laidMetH Ybad.prog listed w) false (World.doorLaid Ybad.prog 400 os) #[.bool false] 8 rfl (World.shaped_of_RefB (by kernel_rfl) (by kernel_rfl)) (by kernel_rfl) (by kernel_rfl) (by kernel_rfl) (door_met os _)) ?_
  intro W base args ds gs before hval0 hW _ _ hL _
  have hval : ∀ (j : Nat) t v, Ybad.f4.params[j]? = some t → args[j]? = some v → Value.okWide Ybad.prog W .any base t v := hval0
  have hW' := hW
  obtain ⟨p, q, hA0, hV0, rfl, hfz, hnd⟩ := hW
  have hA : DataW.TrodAll enc Ybad.prog W 0 (fun _ => true) true Ybad.f4.params.toList args.toList ds p := hA0
  have hV : DataW.TrodVars enc Ybad.prog W (fun _ => true) Rows.lawS0553AClosedSpec.vars gs q := hV0
  rw [Ybad.params4] at hA hval
  obtain ⟨v0, d0, rfl, rfl, h0⟩ := trodAll_one hA
  obtain ⟨fail, rfl, rfl, rfl⟩ := open_bool Ybad.underlying4 (hval 0 4 v0 rfl rfl) h0
  obtain ⟨a, hv⟩ := of_laid hL
  obtain ⟨rfl, rfl⟩ := hV.unique (vars_read enc hv trivial _)
  clear hA0 hV0 hval0
  have hg : W.cell? ⟨0, 0, none⟩ = some (.iface 64 (.pointer (some a))) := by simpa using World.var?_cell gErr hv 0
  have hpos : 0 < W.heap.size := by
    rcases Nat.lt_or_ge 0 W.heap.size with h | h
    · exact h
    · simp [World.cell?, Array.getElem?_eq_none h] at hg
  refine (law_any fail a W hpos hg).mono fun e W' ⟨he, hgr⟩ => ?_
  subst he
  refine ⟨_, rfl, _, _, _, [], [], [.cell 0 0], hW', ?_, ?_, ?_, hgr.frame _, fun h => by cases h⟩
  · exact trodAll_mk1 (shut_bool Ybad.underlying4 true)
  · exact trodAll_mk1 (shut_bool Ybad.underlying4 fail)
  · exact vars_read enc (var_grown hgr hv) trivial _

theorem row_holds : Rows.LawS0553AClosedSaid :=
  OpenClaim.holds_of_wide 4 Ybad.f4 rfl rfl rfl rfl rfl rfl rfl ⟨rfl, rfl, rfl, rfl, rfl⟩ rfl rfl rfl rfl rfl (by kernel_rfl) Ybad.func4 (by kernel_rfl)
    (of_decide_eq_true (by kernel_rfl)) (by unfold Func.isWrapper; first | (rw [if_pos (by decide +kernel)]; kernel_rfl) | (rw [if_neg (by decide +kernel)]; exact ⟨rfl, rfl⟩))
    (fun os started H enc _ => lifted os started H enc)

/-- The given statement: the tied card. -/
theorem card_proved : Rows.LawS0553AClosedCardSaid :=
  Claim7.holds_tied_plain_at .later [] [.sentinel] true Rows.lawS0553AClosedCard.stood.harness true
    row_holds (fun _ h => by cases h) (by kernel_rfl) (fun _ h => by cases h) lawS0553AClosed_row_tie rfl ⟨rfl, rfl⟩ (by kernel_rfl) rfl
    (fun f fn hf hfn => by
      obtain rfl : f = 4 := Option.some.inj ((show Ybad.prog.funcNamed Rows.lawS0553AClosedRow.func = some 4 by kernel_rfl).symm.trans hf) |>.symm
      obtain rfl : fn = Ybad.f4 := (Option.some.inj (Ybad.func4.symm.trans hfn)).symm
      exact ⟨by kernel_rfl, fun j t ht => by
        rw [Ybad.params4] at ht
        have h4 : t = 4 := by
          rcases j with _ | j
          · simpa using ht.symm
          · simp at ht
        subst h4
        exact (show Ybad.prog.wantsStandIn 4 = false by kernel_rfl)⟩)
    (by kernel_rfl)
end Go.Proofs.YbulkkkuDoor
