/-
  WHAT IS PROVED: Rows.FnTokensCardSaid: for every integer the law FnTokens of the given program returns true and leaves the table of the tokens' texts as it was: each of the 73 words and signs is the text of just one of the tokens up to 'yield'. CONDITION: the package variable tokenNames reads as the program's own initialiser lays it (the card ties that to the program's text; the repository beside the seat is a pruned copy, so nothing is said of the project's other packages).
-/
import Derived.Test.YthdeffbhpdcifaaDoorWalks
import Derived.Test.YthdeffbhpdcifaaDoorTie
import Derived.Test.YthdeffbhpdcifaaDoorCards
import Derived.ProofKit
import Derived.OpenVars
import Derived.OpenShut
import Derived.LaidMore
import Derived.Stop.Joined
import Derived.SevenTiedAt
namespace Go.Proofs.YthdeffbhpdcifaaDoor
open Go Go.ChangeShapes Go.WideShapes Go.ChangeAt Go.RowKit

abbrev tabName : String := "loop.example/pub-g03331/pub/starlark/syntax.tokenNames"
theorem own : ownKnob Tryd.prog.godebug = none := by kernel_rfl
theorem laidOut : laidOutB Tryd.prog = true := by kernel_rfl
theorem gTab : Tryd.prog.globalNamed tabName = some 0 := by kernel_rfl
theorem tTab : (Tryd.prog.globals[0]?).map (·.type) = some 29 := by kernel_rfl
theorem c9 : Tryd.prog.cellsOf 9 = 1 := by kernel_rfl
theorem c29 : Tryd.prog.cellsOf 29 = 84 := by kernel_rfl

/-- What the condition on the table gives the walk: its 84 cells. -/
theorem cells_of_laid {W : World} (h : laidMetH Tryd.prog Rows.fnTokensRow.laid W) (k : Nat) (hk : k < 84) : W.cell? ⟨0, k, none⟩ = some (.string (tok k)) := by
  rw [MakeChecks.laidMetH_plain _ _ _ (by kernel_rfl)] at h
  obtain ⟨ps, ⟨g, t, cs, fuel, p, q, hg, ht, hv, hd, _, _⟩, _, _⟩ := h
  obtain rfl := Option.some.inj (gTab.symm.trans hg)
  obtain rfl := Option.some.inj (tTab.symm.trans ht)
  obtain ⟨xs, m, _, ex, hlen, hl, hel⟩ := DataW.trod_array Tryd.underlying29 hd
  have hx := hel k hk
  have hkx : k < xs.length := by rw [hl]; exact hk
  rw [c9, Nat.mul_one, List.getElem?_eq_getElem hkx] at hx
  obtain ⟨s, e1, e2, _⟩ := DataW.trod_string Tryd.underlying9 hx
  have e3 : (tabD : DataW Unit) = .agg (xs.map (·.1)) := (Prod.mk.inj ex).1
  rw [tab_toks] at e3
  have e4 := congrArg (fun l : List (DataW Unit) => l[k]?) (DataW.agg.inj e3)
  have hkt : k < toks.length := by rw [toks_length]; exact hk
  simp only [List.getElem?_map, List.getElem?_eq_getElem hkx, List.getElem?_eq_getElem hkt, Option.map_some, e2, Option.some.injEq, DataW.lit.injEq, Lit.string.injEq] at e4
  have es : s = tok k := by
    unfold tok
    rw [List.getD_eq_getElem?_getD, List.getElem?_eq_getElem hkt, Option.getD_some, e4]
  rw [World.var?_cell gTab hv k, ← Array.getElem?_toList]
  have e5 := congrArg (fun l : List Value => l[0]?) e1
  simp only [List.getElem?_take, List.getElem?_drop, Nat.add_zero, List.getElem?_cons_zero] at e5
  rw [← es]
  simpa using e5

/-- The walk at every integer. -/
theorem tokens_any (n : Int) (w : World) (hc : ∀ k, k < 84 → w.cell? ⟨0, k, none⟩ = some (.string (tok k))) :
    Calls Tryd.prog 3 #[.int .i64 n] w fun e w' => e = .returned (.bool true) ∧ Below w.heap.size w w' := by
  by_cases h0 : n < 0
  · exact tokens_low n w h0
  · by_cases h1 : 73 ≤ n
    · exact tokens_high n w h1
    · obtain ⟨j, rfl⟩ : ∃ j : Nat, n = j := ⟨n.toNat, by omega⟩
      exact tokens_mid j w (by omega) hc

/-- The door's own heap meets the condition. -/
theorem door_met (os : Os) (args : Array Value) : laidMetH Tryd.prog Rows.fnTokensRow.laid ((World.doorLaid Tryd.prog 400 os).forCall (fun _ _ => 0) ⟨#[], args, []⟩).memory :=
  laidMetH_of_parts3 (fuel := 8) (laidMet_of_run' 8 (by kernel_rfl) (by kernel_rfl)) (by kernel_rfl) (by kernel_rfl)

set_option maxRecDepth 100000 in
theorem lifted (os : Os) (started : os.Started) (H : Type) (enc : TypeId × Value → H) :
    ReturnsInHanded {} Tryd.checked os 3 .any (fun w args => (Rows.fnTokensSpec.pre enc Tryd.prog Tryd.f3 [] false w args ∧ laidMetH Tryd.prog Rows.fnTokensRow.laid w) ∧ sizedMet enc Tryd.prog Tryd.f3 (OpenSpec.ofChange Rows.fnTokensSpec) false w args)
      (Rows.fnTokensSpec.post enc Tryd.prog Tryd.f3 false true false false) := by
  refine returnsInHanded_of_change_and (C := Tryd.checked) (X := fun w _ => laidMetH Tryd.prog Rows.fnTokensRow.laid w) (fun _ _ _ hh h => h.of_heap hh) own started (by kernel_rfl) Tryd.func3
    (ChangeSpec.witness_shaped (enc := enc) (C := Tryd.checked) (os := os) (X := fun w _ => laidMetH Tryd.prog Rows.fnTokensRow.laid w) false (World.doorLaid Tryd.prog 400 os) #[.int .i64 0] 8 rfl (World.shaped_of_RefB (by kernel_rfl) (by kernel_rfl)) (by kernel_rfl) (by kernel_rfl) (by kernel_rfl) (door_met os _)) ?_
  intro W base args ds gs before hval0 hW _ _ hL _
  have hval : ∀ (j : Nat) t v, Tryd.f3.params[j]? = some t → args[j]? = some v → Value.okWide Tryd.prog W .any base t v := hval0
  have hW' := hW
  obtain ⟨p, q, hA0, hV0, rfl, hfz, hnd⟩ := hW
  have hA : DataW.TrodAll enc Tryd.prog W 0 (fun _ => true) true Tryd.f3.params.toList args.toList ds p := hA0
  have hV : DataW.TrodVars enc Tryd.prog W (fun _ => true) [tabName] gs q := hV0
  rw [Tryd.params3] at hA hval
  obtain ⟨v0, d0, rfl, rfl, h0⟩ := trodAll_one hA
  obtain ⟨n, rfl, rfl, rfl, wn⟩ := open_int Tryd.underlying3 (hval 0 3 v0 rfl rfl) h0
  obtain ⟨g, t, cs, fuel, d, p', rfl, _, _, _, _, _⟩ := trodVars_one hV
  refine (tokens_any n W (cells_of_laid hL)).mono fun e W' ⟨he, hb⟩ => ?_
  subst he
  exact ⟨_, rfl, _, _, _, [], [], q, hW', trodAll_mk1 (shut_bool Tryd.underlying4 _), trodAll_mk1 (shut_int Tryd.underlying3 wn), hb.trodVars laidOut (by kernel_rfl) hV, hb.frame _, fun h => by cases h⟩

theorem fnTokens_row_holds : Rows.FnTokensSaid :=
  OpenClaim.holds_of_wide 3 Tryd.f3 rfl rfl rfl rfl rfl rfl rfl ⟨rfl, rfl, rfl, rfl, rfl⟩ rfl rfl rfl rfl rfl (by kernel_rfl) Tryd.func3 (by kernel_rfl)
    (of_decide_eq_true (by kernel_rfl)) (by unfold Func.isWrapper; first | (rw [if_pos (by decide +kernel)]; kernel_rfl) | (rw [if_neg (by decide +kernel)]; exact ⟨rfl, rfl⟩))
    (fun os started H enc _ => lifted os started H enc)

/-- THE STATEMENT: the tied card. -/
theorem fnTokens_holds : Rows.FnTokensCardSaid :=
  Claim7.holds_tied_plain_at .later [] [.data] true (true, "a5a7d0a963372ec7fca7a7d0f11320893f827cbe1495c5519c65445d4317641f") false
    fnTokens_row_holds (fun _ h => by cases h) (by kernel_rfl) (fun _ h => by cases h) fnTokens_row_tie rfl ⟨rfl, rfl⟩ (by kernel_rfl) rfl
    (fun f fn hf hfn => by
      obtain rfl : f = 3 := Option.some.inj ((show Tryd.prog.funcNamed "loop.example/pub-g03331/laws.FnTokens" = some 3 by kernel_rfl).symm.trans hf) |>.symm
      obtain rfl : fn = Tryd.f3 := (Option.some.inj (Tryd.func3.symm.trans hfn)).symm
      exact ⟨by kernel_rfl, fun j t ht => by
        rw [Tryd.params3] at ht
        have hm : t ∈ [3] := by simpa using Array.mem_of_getElem? ht
        have hall : ([3].all fun u => !Tryd.prog.wantsStandIn u) = true := by kernel_rfl
        exact (show Tryd.prog.wantsStandIn t = false by simpa using List.all_eq_true.1 hall t hm)⟩)
    (by kernel_rfl)
#print axioms fnTokens_holds
end Go.Proofs.YthdeffbhpdcifaaDoor
