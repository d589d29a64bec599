/- 'laws.FnWords' returns true, at every number it is handed, and leaves its argument as it was, wherever the two listed variables (the kinds' names, the keyword map) hold what the row lists: the tied card 'FnWordsCardSaid'. -/
import Derived.Test.YtplljfbbipeakaaDoorFnW
import Derived.Test.YtplljfbbipeakaaDoorLaidA
import Derived.Test.YtplljfbbipeakaaDoorTie
import Derived.WalkKit
import Derived.ProofKit
import Derived.OpenShut
import Derived.Deep.DeepHandedRow
import Derived.Deep.DeepWitnessRowRef
namespace Go.Proofs.YtplljfbbipeakaaDoor.fnWords
open Go Go.ChangeShapes Go.WideShapes Go.ChangeAt Go.RowKit Go.Maps

theorem own : ownKnob Tryd.prog.godebug = none := by kernel_rfl
theorem words_in : ∀ m, m < 11 → has (Rows.laid_clausescan_pub_opatokens_keywords : DataW Unit) (.string (wordL.getD m [])) = true ∧ wordL.getD m [] ∈ strKeys (Rows.laid_clausescan_pub_opatokens_keywords : DataW Unit) := by
  intro m h
  have : m = 0 ∨ m = 1 ∨ m = 2 ∨ m = 3 ∨ m = 4 ∨ m = 5 ∨ m = 6 ∨ m = 7 ∨ m = 8 ∨ m = 9 ∨ m = 10 := by omega
  rcases this with rfl | rfl | rfl | rfl | rfl | rfl | rfl | rfl | rfl | rfl | rfl <;> exact ⟨by decide +kernel, by decide +kernel⟩
theorem names_at : ∀ m, m < 11 → tokS.getD (m + 5) [] = wordL.getD m [] := by decide +kernel
theorem names_short : ∀ i, i < 54 → (tokS.getD i []).length ≤ 100 := by decide +kernel

set_option maxRecDepth 100000 in
theorem contract (H : Type) (enc : TypeId × Value → H) (W : World) (base : Nat) (args : Array Value) (ds gs : List (DataW H)) (before : List MemPlace)
    (hval : ∀ (j : Nat) t v, Tryd.f3.params[j]? = some t → args[j]? = some v → Value.okWide Tryd.prog W .any base t v)
    (hW : DataW.Whole enc Tryd.prog Tryd.f3.params.toList Rows.fnWordsSpec.vars false W args.toList ds gs before) (hL : laidMetH Tryd.prog Rows.fnWordsRow.laid W) :
    Calls Tryd.prog 3 args W fun e W' => ∃ v, e = .returned v ∧ Rows.fnWordsSpec.post enc Tryd.prog Tryd.f3 false true false false W args v W' := by
  have hW' := hW
  obtain ⟨p, q, hA0, hV, rfl, hfz, hnd⟩ := hW
  have hA : DataW.TrodAll enc Tryd.prog W 0 (fun _ => true) true Tryd.f3.params.toList args.toList ds p := hA0
  rw [Tryd.params3] at hA hval
  obtain ⟨v0, d0, rfl, rfl, h0⟩ := trodAll_one hA
  obtain ⟨rfl, rfl⟩ := trodVars_none hV
  obtain ⟨n, rfl, rfl, rfl, hn⟩ := open_int Tryd.underlying3 (hval 0 3 v0 rfl rfl) h0
  clear hA0
  simp only [List.append_nil] at hW'
  have hb : -9223372036854775808 ≤ n ∧ n ≤ 9223372036854775807 := by
    simpa [Lit.wf, IntKind.has, show IntKind.i64.min = -9223372036854775808 from by decide] using hn
  rw [MakeChecks.laidMetH_plain _ _ _ (by kernel_rfl)] at hL
  have cS := strings_cells (Lib.laidMet.reads hL (.head _))
  obtain ⟨b, k, hg, ho⟩ := keywords_own (Lib.laidMet.reads hL (.tail _ (.head _)))
  refine (fnWords_walk n hb.1 hb.2 W b k _ tokS hg ho (by decide +kernel) (by decide +kernel) cS names_at words_in (by decide +kernel) names_short).mono fun e W' ⟨he, hbl⟩ => ?_
  subst he
  refine ⟨_, rfl, [.lit (.int .i64 n)], [], [], [], [], [], hW', ?_, ?_, ?_, hbl.frame _, fun h => by cases h⟩
  · exact trodAll_mk1 (shut_bool Tryd.underlying4 _)
  · exact trodAll_mk1 (shut_int Tryd.underlying3 hn)
  · exact rfl

/-- The witness: the heap that the door's own run leaves. -/
theorem door_met (os : Os) (args : Array Value) : laidMetH Tryd.prog Rows.fnWordsRow.laid ((World.doorLaid Tryd.prog 103 os).forCall (fun _ _ => 0) ⟨#[], args, []⟩).memory :=
  laidMetH_of_parts3 (fuel := 8) (laidMet_of_run' 8 (by kernel_rfl) (by kernel_rfl)) (by kernel_rfl) (by kernel_rfl)
theorem reads (os : Os) {H : Type} (enc : TypeId × Value → H) : ∃ places, DataW.whole enc Tryd.prog ((World.doorLaid Tryd.prog 103 os).forCall (fun _ _ => 0) ⟨#[], #[.int .i64 0], []⟩).memory Tryd.f3.params.toList Rows.fnWordsSpec.vars false #[Value.int .i64 0].toList 8 = some ([.lit (.int .i64 0)], [], places) :=
  ⟨[], by kernel_rfl⟩

set_option maxRecDepth 100000 in
theorem lifted (os : Os) (started : os.Started) (H : Type) (enc : TypeId × Value → H) (F : Stop.Interp) :
    ReturnsInHanded {} Tryd.checked os 3 .any ((OpenSpec.ofChange Rows.fnWordsSpec).preRow enc Tryd.prog Tryd.f3 Rows.fnWordsRow.domain false Rows.fnWordsRow.laid) (((OpenSpec.ofChange Rows.fnWordsSpec).at F).post enc Tryd.prog Tryd.f3 false true false false) := by
  obtain ⟨places, hx⟩ := reads os enc
  refine returnsInHanded_of_row (C := Tryd.checked) (s := OpenSpec.ofChange Rows.fnWordsSpec) own started (by kernel_rfl) Tryd.func3
    (witness_row_atRef (enc := enc) (C := Tryd.checked) false (World.doorLaid Tryd.prog 103 os) #[.int .i64 0] rfl (by kernel_rfl) (by kernel_rfl) (by kernel_rfl)
      (OpenSpec.preRow_of_cond 8 hx (by kernel_rfl) (fun k hk => by cases hk) (by kernel_rfl) (door_met os _))) ?_
  intro W base args ds gs before hval hW _ _ _ hL _ _
  exact contract H enc W base args ds gs before hval hW hL

theorem said : Rows.FnWordsSaid :=
  OpenClaim.holds_of_cond 3 Tryd.f3 rfl rfl rfl rfl rfl rfl rfl ⟨rfl, rfl, rfl, rfl, rfl⟩ rfl rfl rfl rfl rfl (by kernel_rfl) Tryd.func3 (by kernel_rfl)
    (of_decide_eq_true (by kernel_rfl)) (by unfold Func.isWrapper; first | (rw [if_pos (by decide +kernel)]; kernel_rfl) | (rw [if_neg (by decide +kernel)]; exact ⟨rfl, rfl⟩))
    (fun os started H enc _ F => by rw [OpenClaim.pre_eq_preRow]; exact lifted os started H enc F)

/-- No parameter wants a stand-in; the program's own looks are on: what the card asks. -/
theorem plain (f : FuncId) (fn : Func) (hf : Tryd.pinned.checked.prog.funcNamed "clausescan/laws.FnWords" = some f) (hfn : Tryd.pinned.checked.prog.funcs[f]? = some fn) :
    true = Tryd.pinned.checked.prog.looks [] ∧ ∀ (j : Nat) t, fn.params[j]? = some t → Tryd.pinned.checked.prog.wantsStandIn t = false := by
  obtain rfl : f = 3 := Option.some.inj ((show Tryd.prog.funcNamed "clausescan/laws.FnWords" = some 3 by kernel_rfl).symm.trans hf) |>.symm
  obtain rfl : fn = Tryd.f3 := (Option.some.inj (Tryd.func3.symm.trans hfn)).symm
  refine ⟨by kernel_rfl, fun j t ht => ?_⟩
  rw [Tryd.params3] at ht
  obtain rfl : t = 3 := by simpa using Array.mem_of_getElem? ht
  exact (show Tryd.prog.wantsStandIn 3 = false by kernel_rfl)

/-- THE CARD. -/
theorem card : Rows.FnWordsCardSaid :=
  Claim7.holds_tied_plain_at .later [] _ _ _ _ said (fun _ h => by cases h) (by kernel_rfl) (fun _ h => by cases h) fnWords_row_tie rfl ⟨rfl, rfl⟩ (by kernel_rfl) rfl plain (by kernel_rfl)

end Go.Proofs.YtplljfbbipeakaaDoor.fnWords
