/- The small readers of a scanner: isWhitespace, literalStart; util.ByteSliceToString. -/
import Derived.Test.YtplljfbbipeakaaDoorNextH
import Derived.Test.YtplljfbbipeakaaDoorLeaf
namespace Go.Proofs.YtplljfbbipeakaaDoor
open Go Go.RowKit

theorem addr_add (b o j : Nat) : (⟨b, o, none⟩ : Addr).add j = ⟨b, o + j, none⟩ := by
  unfold Addr.add; split
  · subst_vars; rfl
  · rfl

theorem len_extract (bs : ByteArray) (o n : Nat) (hn : o + n ≤ bs.size) : (bs.extract o (o + n)).data.toList.length = n := by
  rw [Array.length_toList]
  show (bs.extract o (o + n)).size = n
  rw [ByteArray.size_extract]; omega

theorem get_extract (bs : ByteArray) (o n j : Nat) (hn : o + n ≤ bs.size) (hj : j < n) (h : j < (bs.extract o (o + n)).data.toList.length) : (bs.extract o (o + n)).data.toList[j] = bs.get! (o + j) := by
  have h2 : o + j < bs.size := by omega
  rw [Utf8W.get!_of_lt _ _ h2]
  have h1 : j < (bs.extract o (o + n)).size := by rw [ByteArray.size_extract]; omega
  have := ByteArray.getElem_extract (i := j) (b := bs) (start := o) (stop := o + n) h1
  rw [← this]
  simp [ByteArray.getElem_eq_getElem_data]

set_option maxHeartbeats 400000 in
/-- util.ByteSliceToString, of a part of the text's bytes. -/
theorem bts_any {bb o n c : Nat} {bs : ByteArray} {w : World} (hb : BytesAt bb bs w) (hn : o + n ≤ bs.size) :
    Calls Tryd.prog 81 #[.slice (some ⟨bb, o, none⟩) n c] w fun e w' => e = .returned (.string (bs.extract o (o + n))) ∧ w = w' := by
  have hl := len_extract bs o n hn
  have hrun := run_convert_bytes_back (P := Tryd.prog) w 81 9 5 ⟨bb, o, none⟩ c (bs.extract o (o + n)).data.toList Tryd.underlying81 Tryd.underlying5 Tryd.underlying9
    (fun j hj => by rw [addr_add, get_extract bs o n j hn (by omega) hj]; exact hb.cell (o + j) (by omega))
  rw [hl] at hrun
  have e2 : ∀ t : ByteArray, ({ data := t.data.toList.toArray } : ByteArray) = t := fun t => by cases t; simp
  rw [e2] at hrun
  generalize bs.extract o (o + n) = t at hrun ⊢
  clear hl e2
  go_enter Tryd.func81, Tryd.ntmps81
  go_wp2
  go_ret
  exact ⟨rfl, rfl⟩


set_option maxHeartbeats 1000000 in
theorem isWs_walk (sb : Nat) (c : Int) (w : World) (c8 : w.cell? ⟨sb, 8, none⟩ = some (.int .i32 c)) :
    Calls Tryd.prog 64 #[.pointer (some ⟨sb, 0, none⟩)] w fun e w' => e = .returned (.bool (isWsB c)) ∧ w = w' := by
  by_cases h1 : c = 32
  · subst h1
    go_enter Tryd.func64, Tryd.ntmps64
    go_wp2
    go_ret
    exact ⟨rfl, rfl⟩
  · by_cases h2 : c = 9
    · subst h2
      go_enter Tryd.func64, Tryd.ntmps64
      go_wp2
      go_ret
      exact ⟨rfl, rfl⟩
    · by_cases h3 : c = 10
      · subst h3
        go_enter Tryd.func64, Tryd.ntmps64
        go_wp2
        go_ret
        exact ⟨rfl, rfl⟩
      · by_cases h4 : c = 13
        · subst h4
          go_enter Tryd.func64, Tryd.ntmps64
          go_wp2
          go_ret
          exact ⟨rfl, rfl⟩
        · have t1 : (c == 32) = false := by simp [h1]
          have t2 : (c == 9) = false := by simp [h2]
          have t3 : (c == 10) = false := by simp [h3]
          have t4 : (c == 13) = false := by simp [h4]
          have t5 : Hid (isWsB c = false) := decide_eq_false (by omega)
          clear h1 h2 h3 h4
          go_enter Tryd.func64, Tryd.ntmps64
          go_wp2
          go_ret
          rw [t5.out]
          exact ⟨rfl, rfl⟩

set_option maxHeartbeats 1000000 in
theorem literalStart_walk (sb off width : Nat) (w : World) (c4 : w.cell? ⟨sb, 4, none⟩ = some (.int .i64 off)) (c7 : w.cell? ⟨sb, 7, none⟩ = some (.int .i64 width)) (h : width + 1 ≤ off) (h2 : off ≤ 1099511627776) :
    Calls Tryd.prog 80 #[.pointer (some ⟨sb, 0, none⟩)] w fun e w' => e = .returned (.int .i64 (off - (width + 1) : Nat)) ∧ ∃ n, w' = w.drewN n := by
  go_enter Tryd.func80, Tryd.ntmps80
  go_wp2
  go_quiet (fail)
  go_wp2
  go_ret
  exact ⟨ret_int (by omega), _, rfl⟩

end Go.Proofs.YtplljfbbipeakaaDoor
