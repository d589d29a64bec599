/- What the listed variables give: the names' cells, the keyword map. -/
import Derived.Test.YtplljfbbipeakaaDoorWords
import Derived.Test.YtplljfbbipeakaaDoorCards
import Derived.Lib.LaidU8
import Derived.LaidMore
import Derived.MakeChecks
namespace Go.Proofs.YtplljfbbipeakaaDoor
open Go Go.RowKit Go.Maps Go.WideMaps Go.WideElems

/-- The names of the token kinds. -/
def tokS : List (List UInt8) := [[105, 108, 108, 101, 103, 97, 108], [101, 111, 102], [119, 104, 105, 116, 101, 115, 112, 97, 99, 101], [105, 100, 101, 110, 116, 105, 102, 105, 101, 114], [99, 111, 109, 109, 101, 110, 116], [112, 97, 99, 107, 97, 103, 101], [105, 109, 112, 111, 114, 116], [97, 115], [100, 101, 102, 97, 117, 108, 116], [101, 108, 115, 101], [110, 111, 116], [115, 111, 109, 101], [119, 105, 116, 104], [110, 117, 108, 108], [116, 114, 117, 101], [102, 97, 108, 115, 101], [110, 117, 109, 98, 101, 114], [115, 116, 114, 105, 110, 103], [116, 101, 109, 112, 108, 97, 116, 101, 45, 115, 116, 114, 105, 110, 103, 45, 112, 97, 114, 116], [116, 101, 109, 112, 108, 97, 116, 101, 45, 115, 116, 114, 105, 110, 103, 45, 101, 110, 100], [114, 97, 119, 45, 116, 101, 109, 112, 108, 97, 116, 101, 45, 115, 116, 114, 105, 110, 103, 45, 112, 97, 114, 116], [114, 97, 119, 45, 116, 101, 109, 112, 108, 97, 116, 101, 45, 115, 116, 114, 105, 110, 103, 45, 101, 110, 100], [91], [93], [123], [125], [40], [41], [44], [58], [112, 108, 117, 115], [109, 105, 110, 117, 115], [109, 117, 108], [100, 105, 118], [114, 101, 109], [97, 110, 100], [111, 114], [101, 113], [101, 113, 117, 97, 108], [97, 115, 115, 105, 103, 110], [105, 110], [110, 101, 113], [103, 116], [108, 116], [103, 116, 101], [108, 116, 101], [46], [59], [100, 111, 108, 108, 97, 114], [101, 118, 101, 114, 121], [99, 111, 110, 116, 97, 105, 110, 115], [105, 102], [97, 110, 100], [111, 114]]

theorem gStrings : Tryd.prog.globalNamed "clausescan/pub/opatokens.strings" = some 1 := by kernel_rfl
theorem gKeywords : Tryd.prog.globalNamed "clausescan/pub/opatokens.keywords" = some 0 := by kernel_rfl
theorem tStrings : (Tryd.prog.globals[1]?).map (·.type) = some 72 := by kernel_rfl
theorem tKeywords : (Tryd.prog.globals[0]?).map (·.type) = some 51 := by kernel_rfl
theorem cells9 : Tryd.prog.cellsOf 9 = 1 := by kernel_rfl

theorem strings_cells {w : World} (h : Lib.VarReads Tryd.prog w "clausescan/pub/opatokens.strings" Rows.laid_clausescan_pub_opatokens_strings) :
    ∀ i, i < 54 → w.cell? ⟨1, i, none⟩ = some (.string ⟨(tokS.getD i []).toArray⟩) := by
  intro i hi
  obtain ⟨g, t, cs, fuel, p, hg, hty, hvar, hd⟩ := h
  have hu := Tryd.underlying72
  obtain rfl := Option.some.inj (gStrings.symm.trans hg)
  obtain rfl := Option.some.inj (tStrings.symm.trans hty)
  have e0 : (Rows.laid_clausescan_pub_opatokens_strings : DataW Unit) = .agg (tokS.map fun l => .lit (.string l)) := rfl
  rw [e0] at hd
  obtain ⟨fuel', d, q, hdi, he⟩ := Lib.array_elem hu hd i hi
  rw [cells9, Nat.mul_one] at he
  obtain ⟨s, hcs, hx, _⟩ := DataW.trod_string Tryd.underlying9 he
  have hl : i < tokS.length := by have : tokS.length = 54 := rfl; omega
  rw [List.getElem?_map, List.getElem?_eq_getElem hl] at hdi
  simp only [Option.map_some, Option.some.injEq] at hdi
  simp only [Prod.mk.injEq] at hx
  rw [hx.1] at hdi
  simp only [DataW.lit.injEq, Lit.string.injEq] at hdi
  have e1 := congrArg (·[0]?) hcs
  simp only [List.getElem?_take, List.getElem?_drop] at e1
  rw [World.var?_cell hg hvar i, ← Array.getElem?_toList]
  rw [List.getD_eq_getElem?_getD, List.getElem?_eq_getElem hl, Option.getD_some, hdi]
  simpa using e1

theorem keywords_own {w : World} (h : Lib.VarReads Tryd.prog w "clausescan/pub/opatokens.keywords" Rows.laid_clausescan_pub_opatokens_keywords) :
    ∃ b k, w.cell? ⟨0, 0, none⟩ = some (.map (some b)) ∧ w.ownsMap Tryd.prog 9 (plainElem Tryd.prog 55) b k (Rows.laid_clausescan_pub_opatokens_keywords : DataW Unit) := by
  obtain ⟨g, t, cs, fuel, p, hg, hty, hvar, hd⟩ := h
  obtain rfl := Option.some.inj (gKeywords.symm.trans hg)
  obtain rfl := Option.some.inj (tKeywords.symm.trans hty)
  rcases WideElems.open_map Tryd.underlying51 hd with ⟨_, hx⟩ | ⟨bm, es, clock, m, rfl, hcs, hb, _, F, hx⟩
  · simp [Rows.laid_clausescan_pub_opatokens_keywords] at hx
  simp only [Prod.mk.injEq] at hx
  have hcell : w.cell? ⟨0, 0, none⟩ = some (.map (some bm)) := by
    have := World.var?_cell hg hvar 0
    rw [Array.eq_one_of_toList hcs] at this
    simpa using this
  have ho := World.ownsMap_of_fit (R := plainElem Tryd.prog 55) hb F (fun x _ z hz => elemAt_plainElem_int Tryd.underlying55 hz)
  rw [← hx.1] at ho
  exact ⟨bm, _, hcell, ho⟩

end Go.Proofs.YtplljfbbipeakaaDoor
