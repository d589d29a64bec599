/- 'laws.FnCut' returns true, at every piece and every number it is handed, and leaves its arguments as they were, wherever the listed variables (the keyword map, io.EOF, utf8's two tables, unicode.Digit) hold what the row lists: the tied card 'FnCutCardSaid'. -/
import Derived.Test.YtplljfbbipeakaaDoorWit
import Derived.Test.YtplljfbbipeakaaDoorLaidB
import Derived.Test.YtplljfbbipeakaaDoorFnC
import Derived.Test.YtplljfbbipeakaaDoorTie
import Derived.ChangeMaps5
import Derived.Lib.SmallJoins
namespace Go.Proofs.YtplljfbbipeakaaDoor.fnCut
open Go Go.ChangeShapes Go.WideShapes Go.ChangeAt Go.RowKit Go.Maps Go.ChangeMaps Go.Joins

theorem own : ownKnob Tryd.prog.godebug = none := by kernel_rfl
theorem globals6 : Tryd.prog.globals.size = 6 := by kernel_rfl

set_option maxRecDepth 100000 in
theorem contract (H : Type) (enc : TypeId × Value → H) (W : World) (base : Nat) (args : Array Value) (ds gs : List (DataW H)) (before : List MemPlace)
    (hval : ∀ (j : Nat) t v, Tryd.f5.params[j]? = some t → args[j]? = some v → Value.okWide Tryd.prog W .any base t v)
    (hW : DataW.Whole enc Tryd.prog Tryd.f5.params.toList Rows.fnCutSpec.vars false W args.toList ds gs before) (hL : laidMetH Tryd.prog Rows.fnCutRow.laid W) :
    Calls Tryd.prog 5 args W fun e W' => ∃ v, e = .returned v ∧ Rows.fnCutSpec.post enc Tryd.prog Tryd.f5 false true false false W args v W' := by
  have hW' := hW
  obtain ⟨p, q, hA0, hV, rfl, hfz, hnd⟩ := hW
  have hA : DataW.TrodAll enc Tryd.prog W 0 (fun _ => true) true Tryd.f5.params.toList args.toList ds p := hA0
  rw [Tryd.params5] at hA hval
  obtain ⟨v0, v1, d0, d1, p0, p1, rfl, rfl, rfl, h0, h1⟩ := trodAll_two hA
  obtain ⟨rfl, rfl⟩ := trodVars_none hV
  obtain ⟨n, rfl, rfl, rfl, hn⟩ := open_int Tryd.underlying3 (hval 1 3 v1 rfl rfl) h1
  obtain ⟨u0, u1, u2, y0, y1, y2, m, rfl, rfl, rfl, r0, r1, r2⟩ := open_agg3 Tryd.underlying43 (by kernel_rfl) (by kernel_rfl) (hval 0 43 v0 rfl rfl) h0
  obtain ⟨k, e0, rfl, w0⟩ := DataW.trod_int Tryd.underlying3 r0
  obtain ⟨num, e1, rfl, w1⟩ := DataW.trod_int Tryd.underlying3 r1
  obtain ⟨s, e2, rfl, ws⟩ := DataW.trod_string Tryd.underlying9 r2
  cases e0
  cases e1
  cases e2
  clear hA0
  simp only [List.append_nil] at hW'
  rw [MakeChecks.laidMetH_plain _ _ _ (by kernel_rfl)] at hL
  have hB := base_of_laid hL
  refine (fnCut_walk k num n s W hB ws).mono fun e W' ⟨he, hbl⟩ => ?_
  subst he
  refine ⟨_, rfl, [.agg [.lit (.int .i64 k), .lit (.int .i64 num), .lit (.string s.data.toList)], .lit (.int .i64 n)], [], [], [], [], [], hW', ?_, ?_, ?_, hbl.frame _, fun h => by cases h⟩
  · exact trodAll_mk1 (shut_bool Tryd.underlying4 _)
  · exact trodAll_mk2 (shut_agg3 Tryd.underlying43 (by kernel_rfl) (by kernel_rfl) (y0 := (.lit (.int .i64 k), [])) (y1 := (.lit (.int .i64 num), [])) (y2 := (.lit (.string s.data.toList), []))
      (shut_int Tryd.underlying3 w0) (shut_int Tryd.underlying3 w1) (shut_string Tryd.underlying9 ws)) (shut_int Tryd.underlying3 hn)
  · exact rfl

theorem reads (os : Os) {H : Type} (enc : TypeId × Value → H) : ∃ places, DataW.whole enc Tryd.prog ((wit os).forCall (fun _ _ => 0) ⟨#[], #[.agg #[.int .i64 0, .int .i64 0, .string ⟨#[]⟩], .int .i64 0], []⟩).memory Tryd.f5.params.toList Rows.fnCutSpec.vars false #[Value.agg #[.int .i64 0, .int .i64 0, .string ⟨#[]⟩], Value.int .i64 0].toList 8 = some ([.agg [.lit (.int .i64 0), .lit (.int .i64 0), .lit (.string [])], .lit (.int .i64 0)], [], places) :=
  ⟨[], by kernel_rfl⟩

set_option maxRecDepth 100000 in
theorem lifted (os : Os) (started : os.Started) (H : Type) (enc : TypeId × Value → H) (F : Stop.Interp) :
    ReturnsInHanded {} Tryd.checked os 5 .any ((OpenSpec.ofChange Rows.fnCutSpec).preRow enc Tryd.prog Tryd.f5 Rows.fnCutRow.domain false Rows.fnCutRow.laid) (((OpenSpec.ofChange Rows.fnCutSpec).at F).post enc Tryd.prog Tryd.f5 false true false false) := by
  obtain ⟨places, hx⟩ := reads os enc
  refine returnsInHanded_of_row (C := Tryd.checked) (s := OpenSpec.ofChange Rows.fnCutSpec) own started (by kernel_rfl) Tryd.func5
    (witness_row_atRef (enc := enc) (C := Tryd.checked) false (wit os) #[.agg #[.int .i64 0, .int .i64 0, .string ⟨#[]⟩], .int .i64 0] (by kernel_rfl) (by kernel_rfl) (by kernel_rfl) (by kernel_rfl)
      (OpenSpec.preRow_of_cond 8 hx (by kernel_rfl) (fun k hk => by cases hk) (by kernel_rfl) (by rw [MakeChecks.laidMetH_plain _ _ _ (by kernel_rfl)]; exact wit_met os _))) ?_
  intro W base args ds gs before hval hW _ _ _ hL _ _
  exact contract H enc W base args ds gs before hval hW hL

theorem said : Rows.FnCutSaid :=
  OpenClaim.holds_of_cond 5 Tryd.f5 rfl rfl rfl rfl rfl rfl rfl ⟨rfl, rfl, rfl, rfl, rfl⟩ rfl rfl rfl rfl rfl (by kernel_rfl) Tryd.func5 (by kernel_rfl)
    (of_decide_eq_true (by kernel_rfl)) (by unfold Func.isWrapper; first | (rw [if_pos (by decide +kernel)]; kernel_rfl) | (rw [if_neg (by decide +kernel)]; exact ⟨rfl, rfl⟩))
    (fun os started H enc _ F => by rw [OpenClaim.pre_eq_preRow]; exact lifted os started H enc F)

/-- No parameter wants a stand-in; the program's own looks are on: what the card asks. -/
theorem plain (f : FuncId) (fn : Func) (hf : Tryd.pinned.checked.prog.funcNamed "clausescan/laws.FnCut" = some f) (hfn : Tryd.pinned.checked.prog.funcs[f]? = some fn) :
    true = Tryd.pinned.checked.prog.looks [] ∧ ∀ (j : Nat) t, fn.params[j]? = some t → Tryd.pinned.checked.prog.wantsStandIn t = false := by
  obtain rfl : f = 5 := Option.some.inj ((show Tryd.prog.funcNamed "clausescan/laws.FnCut" = some 5 by kernel_rfl).symm.trans hf) |>.symm
  obtain rfl : fn = Tryd.f5 := (Option.some.inj (Tryd.func5.symm.trans hfn)).symm
  refine ⟨by kernel_rfl, fun j t ht => ?_⟩
  rw [Tryd.params5] at ht
  have hm : t ∈ [43, 3] := by simpa using Array.mem_of_getElem? ht
  have hall : ([43, 3].all fun u => !Tryd.prog.wantsStandIn u) = true := by kernel_rfl
  exact (show Tryd.prog.wantsStandIn t = false by simpa using List.all_eq_true.1 hall t hm)

/-- THE CARD. -/
theorem card : Rows.FnCutCardSaid :=
  Claim7.holds_tied_plain_at .later [] _ _ _ _ said (fun _ h => by cases h) (by kernel_rfl) (fun _ h => by cases h) fnCut_row_tie rfl ⟨rfl, rfl⟩ (by kernel_rfl) rfl plain (by kernel_rfl)

end Go.Proofs.YtplljfbbipeakaaDoor.fnCut
