/- 'laws.FnColumns' returns true, at whatever arguments of bulk at most 1048576 it is handed, and leaves them as they were, wherever the listed variables (the keyword map, io.EOF, utf8's two tables, unicode.Digit) hold what the row lists: the tied card 'FnColumnsUptoCardSaid'. -/
import Derived.Test.YtplljfbbipeakaaDoorWit
import Derived.Test.YtplljfbbipeakaaDoorLaidB
import Derived.Test.YtplljfbbipeakaaDoorFnCol
import Derived.Test.YtplljfbbipeakaaDoorOpn
import Derived.Test.YtplljfbbipeakaaDoorTie
import Derived.ChangeMaps5
import Derived.Carry
import Derived.Lib.SmallJoins
namespace Go.Proofs.YtplljfbbipeakaaDoor.fnColumns
open Go Go.ChangeShapes Go.WideShapes Go.ChangeAt Go.RowKit Go.Maps Go.ChangeMaps Go.Joins

theorem own : ownKnob Tryd.prog.godebug = none := by kernel_rfl
theorem laidOut : laidOutB Tryd.prog = true := by kernel_rfl

set_option maxRecDepth 100000 in
theorem contract (H : Type) (enc : TypeId × Value → H) (W : World) (base : Nat) (args : Array Value) (ds gs : List (DataW H)) (before : List MemPlace)
    (hval : ∀ (j : Nat) t v, Tryd.f4.params[j]? = some t → args[j]? = some v → Value.okWide Tryd.prog W .any base t v)
    (hW : DataW.Whole enc Tryd.prog Tryd.f4.params.toList Rows.fnColumnsSpec.vars false W args.toList ds gs before) (hk : Rows.uptoSmall H (ds ++ gs) = true) (hL : laidMetH Tryd.prog Rows.fnColumnsUptoRow.laid W) :
    Calls Tryd.prog 4 args W fun e W' => ∃ v, e = .returned v ∧ Rows.fnColumnsSpec.post enc Tryd.prog Tryd.f4 false true false false W args v W' := by
  have hW' := hW
  have hlt := hW.lt
  obtain ⟨p, q, hA0, hV, rfl, hfz, hnd⟩ := hW
  have hA : DataW.TrodAll enc Tryd.prog W 0 (fun _ => true) true Tryd.f4.params.toList args.toList ds p := hA0
  rw [Tryd.params4] at hA hval
  obtain ⟨v0, v1, v2, d0, d1, d2, p0, p1, p2, rfl, rfl, rfl, h0, h1, h2⟩ := trodAll_three hA
  obtain ⟨rfl, rfl⟩ := trodVars_none hV
  obtain ⟨a0, l0, c0, rfl⟩ := okWide_slice Tryd.underlying29 (hval 0 29 v0 rfl rfl)
  obtain ⟨a1, l1, c1, rfl⟩ := okWide_slice Tryd.underlying23 (hval 1 23 v1 rfl rfl)
  obtain ⟨a2, l2, c2, rfl⟩ := okWide_slice Tryd.underlying22 (hval 2 22 v2 rfl rfl)
  have hbulk := bulk_bound hk
  have hsum : Rows.uptoBulkAll ([d0, d1, d2] ++ ([] : List (DataW H))) = Rows.uptoBulk d0 + (Rows.uptoBulk d1 + (Rows.uptoBulk d2 + 0)) := rfl
  rw [hsum] at hbulk
  obtain ⟨ps, hP, hz⟩ := pieces_open h0
  obtain ⟨gz, hG, hgl⟩ := ints_open h1
  obtain ⟨X, hX, hxl, hxt⟩ := strs_open h2
  clear hA0
  rw [MakeChecks.laidMetH_plain _ _ _ (by kernel_rfl)] at hL
  have hB := base_of_laid hL
  refine (fnColumns_walk hP hG hX hB (by omega) (by omega) (by omega) (fun m hm => by have := hxt m hm; omega)).mono fun e W' ⟨he, hbl⟩ => ?_
  subst he
  refine ⟨_, rfl, [d0, d1, d2], [], _, [], p0 ++ (p1 ++ p2), [], hW', ?_, ?_, ?_, hbl.frame _, fun h => by cases h⟩
  · exact trodAll_mk1 (shut_bool Tryd.underlying4 _)
  · exact trodAll_mk3
      (Below.trod laidOut (by kernel_rfl) (of_decide_eq_true (by kernel_rfl)) h0 hbl (fun x hx => hlt x (by simp [hx])))
      (Below.trod laidOut (by kernel_rfl) (of_decide_eq_true (by kernel_rfl)) h1 hbl (fun x hx => hlt x (by simp [hx])))
      (Below.trod laidOut (by kernel_rfl) (of_decide_eq_true (by kernel_rfl)) h2 hbl (fun x hx => hlt x (by simp [hx])))
  · exact rfl

theorem reads (os : Os) {H : Type} (enc : TypeId × Value → H) : ∃ places, DataW.whole enc Tryd.prog ((wit os).forCall (fun _ _ => 0) ⟨#[], #[.slice none 0 0, .slice none 0 0, .slice none 0 0], []⟩).memory Tryd.f4.params.toList Rows.fnColumnsSpec.vars false #[Value.slice none 0 0, Value.slice none 0 0, Value.slice none 0 0].toList 8 = some ([.nil, .nil, .nil], [], places) :=
  ⟨[], by kernel_rfl⟩

set_option maxRecDepth 100000 in
theorem lifted (os : Os) (started : os.Started) (H : Type) (enc : TypeId × Value → H) (F : Stop.Interp) :
    ReturnsInHanded {} Tryd.checked os 4 .any ((Rows.OpenSpec.upto Rows.fnColumnsSpec).preRow enc Tryd.prog Tryd.f4 Rows.fnColumnsUptoRow.domain false Rows.fnColumnsUptoRow.laid) (((Rows.OpenSpec.upto Rows.fnColumnsSpec).at F).post enc Tryd.prog Tryd.f4 false true false false) := by
  obtain ⟨places, hx⟩ := reads os enc
  refine returnsInHanded_of_row (C := Tryd.checked) (s := Rows.OpenSpec.upto Rows.fnColumnsSpec) own started (by kernel_rfl) Tryd.func4
    (witness_row_atRef (enc := enc) (C := Tryd.checked) false (wit os) #[.slice none 0 0, .slice none 0 0, .slice none 0 0] (by kernel_rfl) (by kernel_rfl) (by kernel_rfl) (by kernel_rfl)
      (OpenSpec.preRow_of_cond 8 hx (by kernel_rfl) (fun k hk => by cases hk; kernel_rfl) (by kernel_rfl) (by rw [MakeChecks.laidMetH_plain _ _ _ (by kernel_rfl)]; exact wit_met os _))) ?_
  intro W base args ds gs before hval hW _ hcond _ hL _ _
  exact contract H enc W base args ds gs before hval hW (hcond _ rfl) hL

theorem said : Rows.FnColumnsUptoSaid :=
  OpenClaim.holds_of_cond 4 Tryd.f4 rfl rfl rfl rfl rfl rfl rfl ⟨rfl, rfl, rfl, rfl, rfl⟩ rfl rfl rfl rfl rfl (by kernel_rfl) Tryd.func4 (by kernel_rfl)
    (of_decide_eq_true (by kernel_rfl)) (by unfold Func.isWrapper; first | (rw [if_pos (by decide +kernel)]; kernel_rfl) | (rw [if_neg (by decide +kernel)]; exact ⟨rfl, rfl⟩))
    (fun os started H enc _ F => by rw [OpenClaim.pre_eq_preRow]; exact lifted os started H enc F)

/-- No parameter wants a stand-in; the program's own looks are on: what the card asks. -/
theorem plain (f : FuncId) (fn : Func) (hf : Tryd.pinned.checked.prog.funcNamed "clausescan/laws.FnColumns" = some f) (hfn : Tryd.pinned.checked.prog.funcs[f]? = some fn) :
    true = Tryd.pinned.checked.prog.looks [] ∧ ∀ (j : Nat) t, fn.params[j]? = some t → Tryd.pinned.checked.prog.wantsStandIn t = false := by
  obtain rfl : f = 4 := Option.some.inj ((show Tryd.prog.funcNamed "clausescan/laws.FnColumns" = some 4 by kernel_rfl).symm.trans hf) |>.symm
  obtain rfl : fn = Tryd.f4 := (Option.some.inj (Tryd.func4.symm.trans hfn)).symm
  refine ⟨by kernel_rfl, fun j t ht => ?_⟩
  rw [Tryd.params4] at ht
  have hm : t ∈ [29, 23, 22] := by simpa using Array.mem_of_getElem? ht
  have hall : ([29, 23, 22].all fun u => !Tryd.prog.wantsStandIn u) = true := by kernel_rfl
  exact (show Tryd.prog.wantsStandIn t = false by simpa using List.all_eq_true.1 hall t hm)

/-- THE CARD. -/
theorem card : Rows.FnColumnsUptoCardSaid :=
  Claim7.holds_tied_plain_at .later [] _ _ _ _ said (fun _ h => by cases h) (by kernel_rfl) (fun _ h => by cases h) fnColumnsUpto_row_tie rfl ⟨rfl, rfl⟩ (by kernel_rfl) rfl plain (by kernel_rfl)

end Go.Proofs.YtplljfbbipeakaaDoor.fnColumns
