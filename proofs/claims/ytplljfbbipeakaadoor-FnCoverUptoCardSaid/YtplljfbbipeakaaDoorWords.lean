/- spec.Words; impl.KeywordFor and impl.IsKeywordKind at the words' kinds, walked. -/
import Derived.Test.YtplljfbbipeakaaDoorKeysSorted
import Derived.BigQuiet
import Derived.Deep.QuietTactic
namespace Go.Proofs.YtplljfbbipeakaaDoor
open Go Go.RowKit Go.Maps Go.WideMaps Go.WideElems

/-- The words, as the reference lists them. -/
def wordL : List (List UInt8) := [[112, 97, 99, 107, 97, 103, 101], [105, 109, 112, 111, 114, 116], [97, 115], [100, 101, 102, 97, 117, 108, 116], [101, 108, 115, 101], [110, 111, 116], [115, 111, 109, 101], [119, 105, 116, 104], [110, 117, 108, 108], [116, 114, 117, 101], [102, 97, 108, 115, 101]]
def wordObj : Obj := .cells #[.string ⟨#[112, 97, 99, 107, 97, 103, 101]⟩, .string ⟨#[105, 109, 112, 111, 114, 116]⟩, .string ⟨#[97, 115]⟩, .string ⟨#[100, 101, 102, 97, 117, 108, 116]⟩, .string ⟨#[101, 108, 115, 101]⟩, .string ⟨#[110, 111, 116]⟩, .string ⟨#[115, 111, 109, 101]⟩, .string ⟨#[119, 105, 116, 104]⟩, .string ⟨#[110, 117, 108, 108]⟩, .string ⟨#[116, 114, 117, 101]⟩, .string ⟨#[102, 97, 108, 115, 101]⟩] 9
def kindObj : Obj := .cells #[.int .i64 5, .int .i64 6, .int .i64 7, .int .i64 8, .int .i64 9, .int .i64 10, .int .i64 11, .int .i64 12, .int .i64 13, .int .i64 14, .int .i64 15] 3

set_option maxHeartbeats 1000000 in
theorem words_walk (w : World) :
    Calls Tryd.prog 11 #[] w fun e w' => e = .returned (.tuple #[.slice (some ⟨w.heap.size, 0, none⟩) 11 11, .slice (some ⟨w.heap.size + 1, 0, none⟩) 11 11]) ∧ (w.alloc wordObj).alloc kindObj = w' := by
  go_enter Tryd.func11, Tryd.ntmps11
  go_wp2
  go_ret2
  exact ⟨rfl, rfl⟩

theorem word_cell (w : World) (m : Nat) (h : m < 11) : ((w.alloc wordObj).alloc kindObj).cell? ⟨w.heap.size, m, none⟩ = some (.string ⟨(wordL.getD m []).toArray⟩) := by
  have hb : ((w.alloc wordObj).alloc kindObj).heap[w.heap.size]? = some wordObj := by
    rw [Below.heap_alloc _ _ _ (by simp)]; exact heap_alloc_new w _
  unfold World.cell?
  rw [hb]
  unfold wordObj
  have : m = 0 ∨ m = 1 ∨ m = 2 ∨ m = 3 ∨ m = 4 ∨ m = 5 ∨ m = 6 ∨ m = 7 ∨ m = 8 ∨ m = 9 ∨ m = 10 := by omega
  rcases this with rfl | rfl | rfl | rfl | rfl | rfl | rfl | rfl | rfl | rfl | rfl <;> rfl

theorem kind_cell (w : World) (m : Nat) (h : m < 11) : ((w.alloc wordObj).alloc kindObj).cell? ⟨w.heap.size + 1, m, none⟩ = some (.int .i64 (m + 5 : Nat)) := by
  have hb : ((w.alloc wordObj).alloc kindObj).heap[w.heap.size + 1]? = some kindObj := by
    have := heap_alloc_new (w.alloc wordObj) kindObj
    rwa [World.size_alloc] at this
  unfold World.cell?
  rw [hb]
  unfold kindObj
  have : m = 0 ∨ m = 1 ∨ m = 2 ∨ m = 3 ∨ m = 4 ∨ m = 5 ∨ m = 6 ∨ m = 7 ∨ m = 8 ∨ m = 9 ∨ m = 10 := by omega
  rcases this with rfl | rfl | rfl | rfl | rfl | rfl | rfl | rfl | rfl | rfl | rfl <;> rfl

set_option maxHeartbeats 1000000 in
theorem keywordFor_walk (k : Int) (t : ByteArray) (w : World) (h0 : 0 ≤ k) (h1 : k < 54) (hc : w.cell? ⟨1, k.toNat, none⟩ = some (.string t)) :
    Calls Tryd.prog 13 #[.int .i64 k] w fun e w' => e = .returned (.string t) ∧ w = w' := by
  obtain ⟨n, rfl⟩ := Int.eq_ofNat_of_zero_le h0
  rw [Int.toNat_natCast] at hc
  have e1 : IntKind.u8.wrap (n : Int) = n := IntWalk.u8_in _ ⟨by omega, by omega⟩
  go_enter Tryd.func13, Tryd.ntmps13
  go_wp2
  go_ret
  exact ⟨rfl, rfl⟩

set_option maxHeartbeats 1000000 in
theorem isKeywordKind_walk {H : Type} (k : Int) (t : ByteArray) (w : World) (b n : Nat) (D0 : DataW H) (h0 : 0 ≤ k) (h1 : k < 54) (hc : w.cell? ⟨1, k.toNat, none⟩ = some (.string t)) (hl : t.size ≤ maxLen)
    (hg : w.cell? ⟨0, 0, none⟩ = some (.map (some b))) (hown : w.ownsMap Tryd.prog 9 (plainElem Tryd.prog 55) b n D0) :
    Calls Tryd.prog 14 #[.int .i64 k] w fun e w' => e = .returned (.bool (has D0 (.string t.data.toList))) ∧ ∃ q, w' = w.drewN q := by
  obtain ⟨m, rfl⟩ := Int.eq_ofNat_of_zero_le h0
  rw [Int.toNat_natCast] at hc
  have e1 : IntKind.u8.wrap (m : Int) = m := IntWalk.u8_in _ ⟨by omega, by omega⟩
  have hkey := keyOf_string_mk (P := Tryd.prog) (k := 9) Tryd.underlying9 hl
  have z55 : ∀ w : World, (zeroValue 55).run Tryd.prog w = .ok (.int .u8 0) w := fun w => by kernel_rfl
  have hlk0 : ∀ q, ∃ c, (Instr.lookup 51 (.map (some b)) (.string t) true).run Tryd.prog (w.drewN q) = .ok (.tuple #[.int .u8 c, .bool (has D0 (.string t.data.toList))]) (w.drewN q) ∧ D0.atKey (.string t.data.toList) (.lit (.int .u8 0)) = .lit (.int .u8 c) := fun q => by
    have ho : (w.drewN q).ownsMap Tryd.prog 9 (plainElem Tryd.prog 55) b n D0 := hown
    obtain ⟨v, ps, hrun, hv⟩ := ho.look_ok law9 Tryd.underlying51 (z55 _) (plainElem_int Tryd.underlying55 (by decide)) hkey
    obtain ⟨c, rfl, hc, _⟩ := plainElem_int_inv Tryd.underlying55 hv
    exact ⟨c, hrun, congrArg Prod.fst hc⟩
  obtain ⟨c, _, hc0⟩ := hlk0 0
  have hlk : ∀ q, (Instr.lookup 51 (.map (some b)) (.string t) true).run Tryd.prog (w.drewN q) = .ok (.tuple #[.int .u8 c, .bool (has D0 (.string t.data.toList))]) (w.drewN q) := fun q => by
    obtain ⟨c', hrun, hc'⟩ := hlk0 q
    rw [hc0] at hc'
    cases hc'
    exact hrun
  clear hlk0 hc0
  have HO := Lib.hid hown
  generalize has D0 (.string t.data.toList) = bb at *
  clear hown
  go_enter Tryd.func14, Tryd.ntmps14
  go_wp2
  go_quiet (fail)
  go_wp2
  go_ret
  exact ⟨rfl, _, rfl⟩

end Go.Proofs.YtplljfbbipeakaaDoor
