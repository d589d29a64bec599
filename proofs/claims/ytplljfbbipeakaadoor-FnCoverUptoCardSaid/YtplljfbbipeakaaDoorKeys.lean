/- tokens.Keywords, walked: a copy of the map of keywords, in whatever order it is ranged over. -/
import Derived.Test.YtplljfbbipeakaaDoorProg
import Derived.WalkKit
import Derived.WalkSpells
import Derived.WalkLawsBesides
import Derived.Lib.Hide
import Derived.Maps.OwnSet
import Derived.Maps.Ext
import Derived.Maps.RangeWalk
import Derived.Sort.KeysCollected
namespace Go.Proofs.YtplljfbbipeakaaDoor
open Go Go.RowKit Go.Maps

theorem law9 : Keyed Tryd.prog 9 := string_keyed Tryd.underlying9

set_option maxHeartbeats 1000000 in
set_option maxRecDepth 100000 in
theorem keywords_walk {H : Type} (b n : Nat) (D0 : DataW H) (w : World) (hg : w.cell? ⟨0, 0, none⟩ = some (.map (some b))) (hown : w.ownsMap Tryd.prog 9 (plainElem Tryd.prog 55) b n D0) (hmax : Maps.size D0 ≤ maxLen) :
    Calls Tryd.prog 28 #[] w fun e w' => e = .returned (.map (some w.heap.size)) ∧ w'.ownsMap Tryd.prog 9 (plainElem Tryd.prog 55) w.heap.size (Maps.size D0) D0 ∧ Below w.heap.size w w' := by
  have hmm := @run_makeMap Tryd.prog
  have hbl := hown.lt
  have hg2 : ∀ o, (w.alloc o).cell? ⟨0, 0, none⟩ = some (.map (some b)) := fun o => (World.cell?_of_block (a := ⟨0, 0, none⟩) (w := w) (w' := w.alloc o) (Below.heap_alloc w o 0 (World.block_lt_of_cell? w _ hg))).trans hg
  have e1 : (w.alloc (.map #[] 0)).heap.size = w.heap.size + 1 := by simp
  go_enter Tryd.func28, Tryd.ntmps28
  go_wp2_with (first
    | (at_range; refine wpList_range_own _ rfl _ 51 rfl 9 55 law9 Tryd.underlying51 _ b n _ rfl (hown.alloc _) ?_; intro w0 hrg0 hg0 hs0)
    | go_in)
  go_frame
  rw [e1] at hrg0 hs0 ⊢
  go_loopw [2, 3] (fun _ _ wr => ∃ (left : Lit → Bool) (cnt : Nat) (Dout : DataW H), wr.ranges Tryd.prog 9 (plainElem Tryd.prog 55) b (w.heap.size + 1) n D0 left cnt ∧ cnt ≤ Maps.size D0 ∧
      wr.ownsMap Tryd.prog 9 (plainElem Tryd.prog 55) w.heap.size (Maps.size D0 - cnt) Dout ∧ Agree Dout D0 left ∧ Below w.heap.size w wr)
    (fun _ _ wr => wr.rangeLeft b (w.heap.size + 1))
  case atStart =>
    exact ⟨_, _, .map [], hrg0, Nat.le_refl _, ((World.ownsMap_made _ _ _ _).kept hg0 (by simp)).mono (Nat.zero_le _), agree_start D0, ((Below.refl _ _).alloc (Nat.le_refl _) _).grown hg0 (by simp) (fun j hj => by cases hj)⟩
  case round =>
    obtain ⟨left, cnt, Dout, hrg, hcs, hout, hA, hnx⟩ := hrel
    go_wp2_with (first
      | (at_next; refine wpList_next_ranges _ rfl _ rfl 9 law9 (plainElem Tryd.prog 55) encStr (Value.int .u8) (fun key kl hk => by obtain ⟨x, hx, _⟩ := Maps.keyOf_str Tryd.underlying9 hk; exact ⟨x, hx⟩) (fun v y hv => by obtain ⟨c, rfl, _⟩ := plainElem_int_inv Tryd.underlying55 hv; exact ⟨c, rfl⟩) b (w.heap.size + 1) n _ _ _ rfl hrg ?_ ?_)
      | go_in)
    · intro hc0 hl0
      go_wp2
      go_ret
      subst hc0
      have e := agree_end hA hl0 (hout.canon law9) (hown.canon law9)
      subst e
      exact ⟨rfl, by simpa using hout, hnx⟩
    · intro x c kl yd yp w1 cnt1 hkey hlx hv hat hrg1 hlt hg1 hs1 hen
      obtain ⟨x', ex, rfl, _⟩ := Maps.keyOf_str Tryd.underlying9 hkey
      obtain rfl : x = x' := encStr_inj ex
      obtain ⟨c', ec, hy, hwc⟩ := plainElem_int_inv Tryd.underlying55 hv
      cases ec
      cases hy
      clear hs1
      have hout1 := hout.kept hg1 (by simp)
      go_wp2_with (first
        | (at_mapUpdate; refine wpList_mapUpdate_own _ rfl _ _ _ 51 rfl 9 55 law9 Tryd.underlying51 _ w.heap.size _ _ rfl hout1 (by omega) _ _ _ rfl rfl hkey _ [] (plainElem_int Tryd.underlying55 hwc) ?_; intro w2 hout2 hg2; go_frame)
        | go_in)
      have hrg2 := hrg1.kept hg2 (fun e => by have := Option.some.inj e; omega) (fun e => by have := Option.some.inj e; omega)
      go_roundw
      case rel =>
        exact ⟨_, cnt1, _, hrg2, by omega, hout2.mono (by omega), agree_step hA hout.isMap trivial hat,
          (hnx.grown hg1 hnx.size (fun j hj => by cases hj; exact Nat.le_succ _)).grown hg2 (by have := hnx.size; have := hg1.size; omega) (fun j hj => by cases hj; exact Nat.le_refl _)⟩
      case measure => rw [hrg2.left_eq, hrg.left_eq]; exact hlt

end Go.Proofs.YtplljfbbipeakaaDoor
