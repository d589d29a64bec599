/- impl.Keywords, walked: the keys of the map of keywords, collected and sorted. -/
import Derived.Test.YtplljfbbipeakaaDoorKeys
import Derived.Test.YtplljfbbipeakaaDoorShelfSort
import Derived.Sort.OwnSorted
import Derived.Maps.AppendAt
namespace Go.Proofs.YtplljfbbipeakaaDoor
open Go Go.RowKit Go.Maps Go.Sort

theorem info9 : (Tryd.prog.info? 9).map (fun i => (i.zero, i.size, i.bytes)) = some (some (.string ⟨#[]⟩), 1, 16) := by kernel_rfl

set_option maxHeartbeats 2000000 in
set_option maxRecDepth 100000 in
theorem implKeywords_walk {H : Type} (b n : Nat) (D0 : DataW H) (w : World) (hg : w.cell? ⟨0, 0, none⟩ = some (.map (some b))) (hown : w.ownsMap Tryd.prog 9 (plainElem Tryd.prog 55) b n D0) (hmax : Maps.size D0 ≤ 1000) (hpos : strKeys D0 ≠ []) :
    Calls Tryd.prog 12 #[] w fun e w' => ∃ (g cap : Nat) (ss : List (List UInt8)), e = .returned (.slice (some ⟨g, 0, none⟩) ss.length cap) ∧ ss.Perm (strKeys D0) ∧
      w'.ownsRow (w.heap.size + 1) 9 1 (.slice (some ⟨g, 0, none⟩) ss.length cap) ss.length ((ss.mergeSort (fun x y => decide (x ≤ y))).map encStr) ∧ Below w.heap.size w w' := by
  obtain ⟨i0, hi, hz0, hz1, hz2⟩ := info_parts info9
  have hbl := hown.lt
  have hk := keywords_walk b n D0 w hg hown (by unfold maxLen; omega)
  have HK := Lib.hid hk
  have HP := Lib.hid hpos
  clear hk hpos
  go_enter Tryd.func12, Tryd.ntmps12
  go_wp2_with fail
  refine HK.out.mono ?_
  rintro e w1 ⟨rfl, hkb, hb1⟩
  have hkl := hkb.lt
  have HB1 := Lib.hid hb1
  clear hb1
  go_wp2_with (first
    | (at_range; refine wpList_range_own _ rfl _ 51 rfl 9 55 law9 Tryd.underlying51 _ w.heap.size _ _ rfl hkb ?_; intro w0 hrg0 hg0 hs0)
    | go_in)
  go_frame
  go_loopw [1, 2] (fun v _ wr => ∃ (left : Lit → Bool) (cnt : Nat) (ss : List (List UInt8)), wr.ranges Tryd.prog 9 (plainElem Tryd.prog 55) w.heap.size w1.heap.size (Maps.size D0) D0 left cnt ∧ ss.length + cnt ≤ Maps.size D0 ∧
      wr.ownsRow (w.heap.size + 1) 9 1 v ss.length (ss.map encStr) ∧ Collected D0 left ss ∧ Below w.heap.size w wr)
    (fun _ _ wr => wr.rangeLeft w.heap.size w1.heap.size)
  case atStart =>
    exact ⟨_, _, [], hrg0, by simp, World.ownsRow_nil _ _ _ _, Collected.start D0, HB1.out.grown hg0 HB1.out.size (fun j hj => by cases hj)⟩
  case round =>
    obtain ⟨left, cnt, ss, hrg, hcs, hrow, hC, hnx⟩ := hrel
    go_wp2_with (first
      | (at_next; refine wpList_next_ranges _ rfl _ rfl 9 law9 (plainElem Tryd.prog 55) encStr (Value.int .u8) (fun key kl hk => by obtain ⟨x, hx, _⟩ := Maps.keyOf_str Tryd.underlying9 hk; exact ⟨x, hx⟩) (fun v y hv => by obtain ⟨c, rfl, _⟩ := plainElem_int_inv Tryd.underlying55 hv; exact ⟨c, rfl⟩) w.heap.size w1.heap.size (Maps.size D0) _ _ _ rfl hrg ?_ ?_)
      | go_in)
    · intro hc0 hl0
      have hperm := hC.perm hrg.owns law9 Tryd.underlying9 hl0
      have hss : ss ≠ [] := fun e => HP.out (by have h' := hperm.length_eq; rw [e] at h'; exact List.eq_nil_of_length_eq_zero h'.symm)
      rcases hrow.2 with ⟨hnil, h0⟩ | ⟨g, cap, cur, rfl, hbase, hb, h1, h2, h3, h4⟩
      · exact absurd (List.eq_nil_of_length_eq_zero h0) hss
      have hH : Holds encStr wr g 0 ss.toArray := holds_of_block hb (by simpa using h4)
      have hgl : g < wr.heap.size := (Array.getElem?_eq_some_iff.1 hb).1
      have hc := Tryd.slices_Sort_string g 0 cap ss wr hH hgl (by omega)
      have HC := Lib.hid hc
      clear hc
      go_wp2_with fail
      refine HC.out.mono ?_
      rintro e w' ⟨rfl, nn, os, rfl⟩
      go_wp2
      go_ret
      exact ⟨g, cap, ss, rfl, hperm, ownsRow_sorted (by simp) hbase hb h1 h2 h3, hnx.grown (grownBy_sorted _) hnx.size (fun j hj => by cases hj; omega)⟩
    · intro x c kl yd yp w2 cnt2 hkey hlk hv hat hrg2 hlt hg2 hs2 hen
      obtain ⟨x', ex, rfl, _⟩ := Maps.keyOf_str Tryd.underlying9 hkey
      obtain rfl : x = x' := encStr_inj ex
      have hrow2 := hrow.kept hg2 (Or.inr (row_ne_iter hrow hrg).symm)
      clear hs2
      go_wp2_with (first
        | (at_builtin; refine wpList_append_own _ rfl _ _ 22 rfl (w.heap.size + 1) 9 i0 (.string ⟨#[]⟩) 1 16 Tryd.underlying22 hi hz0 hz1 hz2 rfl (by decide) _ _ _ rfl (hrow2.alloc _) ⟨w2.heap.size, 0, none⟩ 1 1 [encStr x] rfl rfl (cell_one_new _ _ _) (by simp [Value.oneCell', encStr]) (by unfold maxLen at *; omega) (by omega) (by have := hnx.size; have := hg2.size; simp; omega) ?_; intro v' w3 hown' hg3 hnil3; go_frame)
        | go_in)
      have hrg3 := (hrg2.alloc _).kept hg3 (row_ne_low hrow2 (Nat.lt_succ_self _)) (row_ne_iter hrow2 hrg2)
      go_roundw
      case rel =>
        refine ⟨_, cnt2, ss ++ [x], hrg3, by simp; omega, by simpa using hown', hC.step hlk hat, ?_⟩
        exact ((hnx.grown hg2 hnx.size (fun j hj => by cases hj; exact Nat.le_of_lt hkl)).alloc (by have := hnx.size; have := hg2.size; omega) _).grown hg3 (by have := hnx.size; have := hg2.size; simp; omega) (fun j hj => Nat.le_of_succ_le (hrow2.lt j hj).1)
      case measure => rw [hrg3.left_eq, hrg.left_eq]; exact hlt

end Go.Proofs.YtplljfbbipeakaaDoor
