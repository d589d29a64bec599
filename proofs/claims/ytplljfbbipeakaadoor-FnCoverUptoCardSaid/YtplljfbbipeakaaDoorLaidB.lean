/- What the listed variables give to a scanner: utf8's tables, the keyword map, io.EOF. -/
import Derived.Test.YtplljfbbipeakaaDoorFnK
import Derived.Test.YtplljfbbipeakaaDoorLaidA
import Derived.Stop.LaidErr
namespace Go.Proofs.YtplljfbbipeakaaDoor
open Go Go.RowKit Go.Maps Go.WideMaps Go.WideElems

theorem gFirst : Tryd.prog.globalNamed "unicode/utf8.first" = some 3 := by kernel_rfl
theorem gAccept : Tryd.prog.globalNamed "unicode/utf8.acceptRanges" = some 4 := by kernel_rfl
theorem tFirst : (Tryd.prog.globals[3]?).map (·.type) = some 134 := by kernel_rfl
theorem tAccept : (Tryd.prog.globals[4]?).map (·.type) = some 137 := by kernel_rfl
theorem cells5 : Tryd.prog.cellsOf 5 = 1 := by kernel_rfl
theorem cells134 : Tryd.prog.cellsOf 134 = 256 := by kernel_rfl
theorem cells136 : Tryd.prog.cellsOf 136 = 2 := by kernel_rfl

theorem first_data : (Rows.laid_unicode_utf8_first : DataW Unit) = Lib.firstData := by
  kernel_rfl
theorem accept_data : (Rows.laid_unicode_utf8_acceptRanges : DataW Unit) = Lib.acceptData := by
  kernel_rfl

theorem tabs_of_reads {w : World} (h3 : Lib.VarReads Tryd.prog w "unicode/utf8.first" Lib.firstData) (h4 : Lib.VarReads Tryd.prog w "unicode/utf8.acceptRanges" Lib.acceptData) : Lib.Utf8Tabs 3 4 w := by
  refine ⟨fun c hc => ?_, fun i hi => ?_⟩
  · obtain ⟨g, t, cs, fuel, p, hg, hty, hvar, hd⟩ := h3
    obtain rfl := Option.some.inj (gFirst.symm.trans hg)
    obtain rfl := Option.some.inj (tFirst.symm.trans hty)
    have hcs := Lib.cells_of_tab Tryd.underlying134 Tryd.underlying5 cells5 cells134 hd
    have := World.var?_cell hg hvar c
    rw [this, ← Array.getElem?_toList, hcs]
    simp [Lib.firstTab, hc]
  · obtain ⟨g, t, cs, fuel, p, hg, hty, hvar, hd⟩ := h4
    obtain rfl := Option.some.inj (gAccept.symm.trans hg)
    obtain rfl := Option.some.inj (tAccept.symm.trans hty)
    obtain ⟨fuel', d, q, hdi, he⟩ := Lib.array_elem Tryd.underlying137 hd i hi
    simp only [List.getElem?_map, List.getElem?_range hi, Option.map_some, Option.some.injEq] at hdi
    subst hdi
    rw [cells136] at he
    have hcs := Lib.ints_of_struct Tryd.underlying136 (fun j f hj => by
      match j, hj with
      | 0, hj => simp at hj; subst hj; exact ⟨Tryd.underlying5, rfl, cells5⟩
      | 1, hj => simp at hj; subst hj; exact ⟨Tryd.underlying5, rfl, cells5⟩
      | j + 2, hj => simp at hj) (by rw [cells136]; rfl) he
    have e0 := congrArg (·[0]?) hcs
    have e1 := congrArg (·[1]?) hcs
    simp only [List.getElem?_take, List.getElem?_drop] at e0 e1
    constructor
    · rw [World.var?_cell hg hvar (2 * i), ← Array.getElem?_toList]
      simpa [Nat.mul_comm] using e0
    · rw [World.var?_cell hg hvar (2 * i + 1), ← Array.getElem?_toList]
      simpa [Nat.mul_comm] using e1

/-! io.EOF -/
theorem gEOF : Tryd.prog.globalNamed "io.EOF" = some 2 := by kernel_rfl
theorem tEOF : (Tryd.prog.globals[2]?).map (·.type) = some 63 := by kernel_rfl
theorem cells168 : Tryd.prog.cellsOf 168 = 1 := by kernel_rfl
theorem star_err : "*" ++ "errors.errorString" = "*errors.errorString" := by decide
theorem row153 (u : TypeId) (h : Tryd.prog.typeName? 3 u = some "*errors.errorString") : u = 153 :=
  typeName_ptr_named (nm := "errors.errorString") (by rw [star_err]; kernel_rfl) (by kernel_rfl) (by decide) u (by rw [star_err]; exact h)

/-! the keyword map -/
theorem kw_words : ∀ m, m < 11 → Maps.has (Rows.laid_clausescan_pub_opatokens_keywords : DataW Unit) (.string (wordL.getD m [])) = true ∧
    (Rows.laid_clausescan_pub_opatokens_keywords : DataW Unit).atKey (.string (wordL.getD m [])) (.lit (.int .u8 0)) = .lit (.int .u8 (kt0 (wordL.getD m []))) := by
  intro m h
  have : m = 0 ∨ m = 1 ∨ m = 2 ∨ m = 3 ∨ m = 4 ∨ m = 5 ∨ m = 6 ∨ m = 7 ∨ m = 8 ∨ m = 9 ∨ m = 10 := by omega
  rcases this with rfl | rfl | rfl | rfl | rfl | rfl | rfl | rfl | rfl | rfl | rfl <;> exact ⟨by decide +kernel, by rfl⟩

theorem kw_has (l : List UInt8) (h : Maps.has (Rows.laid_clausescan_pub_opatokens_keywords : DataW Unit) (.string l) = true) : l ∈ wordL := by
  simp only [Maps.has, Rows.laid_clausescan_pub_opatokens_keywords, List.any_cons, List.any_nil, Bool.or_false, Bool.or_eq_true] at h
  simp only [Lit.sameKey, beq_iff_eq] at h
  simp only [wordL, List.mem_cons, List.not_mem_nil, or_false]
  rcases h with h | h | h | h | h | h | h | h | h | h | h <;> subst h <;> simp

theorem kw_map : ∀ l, Maps.has (Rows.laid_clausescan_pub_opatokens_keywords : DataW Unit) (.string l) = kh0 l ∧
    (kh0 l = true → (Rows.laid_clausescan_pub_opatokens_keywords : DataW Unit).atKey (.string l) (.lit (.int .u8 0)) = .lit (.int .u8 (kt0 l))) := by
  intro l
  by_cases h : l ∈ wordL
  · obtain ⟨m, hm, rfl⟩ := List.getElem_of_mem h
    have e : wordL[m] = wordL.getD m [] := by rw [List.getD_eq_getElem?_getD, List.getElem?_eq_getElem hm]; rfl
    have hk := kw_words m hm
    rw [e]
    refine ⟨?_, fun _ => hk.2⟩
    rw [hk.1, ← e]
    exact (decide_eq_true h).symm
  · have hf : kh0 l = false := decide_eq_false h
    refine ⟨?_, fun hh => by rw [hf] at hh; cases hh⟩
    rw [hf]
    cases hb : Maps.has (Rows.laid_clausescan_pub_opatokens_keywords : DataW Unit) (.string l) with
    | false => rfl
    | true => exact absurd (kw_has l hb) h

theorem gDigit : Tryd.prog.globalNamed "unicode.Digit" = some 5 := by kernel_rfl
theorem size_of_var {w : World} {d : DataW Unit} (h : Lib.VarReads Tryd.prog w "unicode.Digit" d) : 6 ≤ w.heap.size := by
  obtain ⟨g, t, cs, fuel, p, hg, hty, hvar, hd⟩ := h
  obtain rfl := Option.some.inj (gDigit.symm.trans hg)
  unfold World.var? at hvar
  simp only [hg, Option.bind_some] at hvar
  rcases Nat.lt_or_ge 5 w.heap.size with h' | h'
  · omega
  · rw [Array.getElem?_eq_none h'] at hvar; cases hvar

theorem base_of_laid {w : World} (hL : laidMet Tryd.prog Rows.fnKeywordRow.laid w) : Base w.heap.size kh0 kt0 w := by
  have h6 := size_of_var (Lib.laidMet.reads hL (n := "unicode.Digit") (d := Rows.laid_unicode_Digit) (.tail _ (.tail _ (.tail _ (.head _)))))
  have h3 := Lib.laidMet.reads hL (n := "unicode/utf8.first") (d := Rows.laid_unicode_utf8_first) (.tail _ (.tail _ (.tail _ (.tail _ (.head _)))))
  have h4 := Lib.laidMet.reads hL (n := "unicode/utf8.acceptRanges") (d := Rows.laid_unicode_utf8_acceptRanges) (.head _)
  rw [first_data] at h3
  rw [accept_data] at h4
  obtain ⟨a, s, hv, _⟩ := laid_sentinel (laidMet.tail (laidMet.tail hL)) gEOF tEOF Tryd.underlying63 row153 Tryd.underlying153 Tryd.underlying168 rfl rfl Tryd.underlying9 cells168 cells9
  obtain ⟨b, k, hg, ho⟩ := keywords_own (Lib.laidMet.reads hL (.tail _ (.head _)))
  refine ⟨h6, Nat.le_refl _, tabs_of_reads h3 h4, ⟨a, by simpa using World.var?_cell gEOF hv 0⟩, b, k, _, hg, ho, ⟨?_, by decide +kernel⟩, kw_map⟩
  obtain ⟨es, clock, hb, _⟩ := ho
  exact lt_of_block hb

end Go.Proofs.YtplljfbbipeakaaDoor
