/- laws.FnCut, walked. -/
import Derived.Test.YtplljfbbipeakaaDoorSp1
import Derived.Test.YtplljfbbipeakaaDoorImp1
import Derived.Test.YtplljfbbipeakaaDoorFnK
namespace Go.Proofs.YtplljfbbipeakaaDoor
open Go Go.RowKit Go.Maps Go.WideMaps Go.WideElems

/-- A piece's block. -/
def PieceAt (b : Nat) (k n : Int) (t : ByteArray) (w : World) : Prop := w.heap[b]? = some (.cells #[.int .i64 k, .int .i64 n, .string t] 43 (0, 0))

theorem PieceAt.below {b : Nat} {k n : Int} {t : ByteArray} {w w' : World} {B : Nat} (h : PieceAt b k n t w) (hb : Below B w w') (hB : b < B) : PieceAt b k n t w' := (hb.block b hB).trans h
theorem PieceAt.cells {b : Nat} {k n : Int} {t : ByteArray} {w : World} (h : PieceAt b k n t w) :
    w.cell? ⟨b, 0, none⟩ = some (.int .i64 k) ∧ w.cell? ⟨b, 1, none⟩ = some (.int .i64 n) ∧ w.cell? ⟨b, 2, none⟩ = some (.string t) ∧ w.frozen? ⟨b, 0, none⟩ = false :=
  ⟨cell_row h 0 _ rfl, cell_row h 1 _ rfl, cell_row h 2 _ rfl, free_row h 0⟩

theorem cutIdx (n : Int) (L : Nat) (h1 : 2 ≤ L) (h2 : L ≤ 68719476736) : ∃ M : Nat, 1 ≤ M ∧ M < L ∧ wrap64 (1 + (n.tmod ((L : Int) - 1) + (L : Int) - 1) % ((L : Int) - 1)) = (M : Int) := by
  have a1 : 0 ≤ (n.tmod ((L : Int) - 1) + (L : Int) - 1) % ((L : Int) - 1) := Int.emod_nonneg _ (by omega)
  have a2 : (n.tmod ((L : Int) - 1) + (L : Int) - 1) % ((L : Int) - 1) < (L : Int) - 1 := Int.emod_lt_of_pos _ (by omega)
  generalize (n.tmod ((L : Int) - 1) + (L : Int) - 1) % ((L : Int) - 1) = x at *
  refine ⟨(1 + x).toNat, by omega, by omega, ?_⟩
  rw [IntWalk.wrap64_in _ ⟨by omega, by omega⟩]; omega

theorem textT_size (m : Nat) (t : ByteArray) (ht : t.size ≤ 2147483647) : 2 ≤ (BA (textT m t)).size ∧ (BA (textT m t)).size ≤ 68719476736 := by
  have h1 := ba_size_le (textT m t)
  have h2 := flat_le (textR_le (decide (m % 2 = 1))) (runesS t)
  have h3 := runesF_len t t.size 0
  have h4 : (textT m t).length = (textL (decide (m % 2 = 1)) t).length + 2 := by unfold textT; simp
  have h5 : (BA (textT m t)).size = (encL (textT m t)).length := ba_size _
  have h6 : (textT m t).length ≤ (encL (textT m t)).length := encL_ge (fun r hr => by
    have hm : markN (decide (m % 2 = 1)) < 128 := by cases decide (m % 2 = 1) <;> decide
    unfold textT at hr
    rcases List.mem_cons.1 hr with rfl | hr
    · exact Or.inl (by omega)
    · rcases List.mem_append.1 hr with hr | hr
      · exact textL_okR r hr
      · rw [List.mem_singleton.1 hr]; exact Or.inl (by omega))
  unfold textL at h4
  unfold runesS at h4 h2
  omega

set_option maxHeartbeats 4000000 in
set_option maxRecDepth 100000 in
theorem fnCut_walk (k num n : Int) (t : ByteArray) (w : World) (hB : Base w.heap.size kh0 kt0 w) (ht : t.size ≤ maxLen) :
    Calls Tryd.prog 5 #[.agg #[.int .i64 k, .int .i64 num, .string t], .int .i64 n] w fun e w' => e = .returned (.bool true) ∧ Below w.heap.size w w' := by
  have hb0 : Below w.heap.size w (w.alloc (.cells #[.int .i64 k, .int .i64 num, .string t] 43)) := (Below.refl _ _).alloc (Nat.le_refl _) _
  have hp0 : PieceAt w.heap.size k num t (w.alloc (.cells #[.int .i64 k, .int .i64 num, .string t] 43)) := by
    exact heap_alloc_new w _
  have HB := Lib.hid hB
  have Hb0 := Lib.hid hb0
  have Hp0 := Lib.hid hp0
  clear hB hb0 hp0
  go_enter Tryd.func5, Tryd.ntmps5
  go_wp2_with fail
  refine (zzFits2_walk k num t _ ht).mono ?_
  rintro e w1 ⟨rfl, hb1⟩
  have hp1 := Hp0.out.below hb1 (by simp)
  have hbl1 := Hb0.out.trans (hb1.mono (by simp))
  have Hb1 := Lib.hid hbl1
  by_cases hf : t.size ≤ 2147483647
  · have hfit : fitsP t = true := decide_eq_true hf
    rw [hfit]
    obtain ⟨c0, c1, c2, f0⟩ := hp1.cells
    have HP1 := Lib.hid hp1
    clear hb1 hbl1 hfit hp1
    go_wp2_with fail
    refine gen_calls (fun W => Below w.heap.size w W) (Hb1.out.setCell (Nat.le_refl _) _) ?_
    intro W hb2
    refine (write3_walk 3 num t _ W (by decide) hf).mono ?_
    rintro e w3 ⟨rfl, hb3⟩
    have hb3' := hb2.trans (hb3.mono hb2.size)
    have Hb3 := Lib.hid hb3'
    clear hb2 hb3 hb3' c0 c1 c2 f0
    generalize modOf 1000 num = m at *
    obtain ⟨hL1, hL2⟩ := textT_size m t hf
    generalize hs : BA (textT m t) = s at *
    have HS := Lib.hid hs
    clear hs
    have hq1 : -((s.size : Int) - 1) < n.tmod ((s.size : Int) - 1) := Int.lt_tmod_of_pos n (by omega)
    have hq2 : n.tmod ((s.size : Int) - 1) < (s.size : Int) - 1 := Int.tmod_lt_of_pos n (by omega)
    obtain ⟨M, hM1, hM2, hM⟩ := cutIdx n s.size hL1 hL2
    have hM3 : (M : Int) ≤ (s.size : Int) := by omega
    have hbs : (s.extract 0 M).data.toList = (encL (textT m t)).take M := by
      rw [ByteArray.data_extract, Array.toList_extract]
      show List.take (M - 0) (List.drop 0 s.data.toList) = _
      rw [← HS.out]; simp [BA]
    have hsz : (s.extract 0 M).size ≤ 274877906944 := by rw [ByteArray.size_extract]; omega
    have hLs : s.size = (encL (textT m t)).length := by rw [← HS.out]; exact ba_size _
    obtain ⟨t1, te, hC, hT, hte, htk, he1, he2⟩ := cut_run (kh := kh0) (kt := kt0) hM1 (by rw [hLs] at hM2; exact hM2) hbs hsz
    have hbb := Base.mono (HB.out.below Hb3.out) Hb3.out.size (Nat.le_refl _)
    have hscan := Scan_walk (implScan_walk (ms := []) (mv := .slice none 0 0) (white := false) (ts := [t1]) (te := te) hbb hsz (StrsAt.nil w3) (Nat.zero_le _) (fun m hm => by cases hm) hC hT hte (by simp)
      (fun x hx => by
        simp only [List.cons_append, List.nil_append, List.mem_cons, List.not_mem_nil, or_false] at hx
        rcases hx with rfl | rfl
        · rw [htk]; decide
        · rw [hte]; decide) (by simpa [errsL] using he2))
    have herr : errsL ([t1] ++ [te]) = t1.s'.errs + te.s'.errs := by simp [errsL]
    have HSC := Lib.hid hscan
    have HBB := Lib.hid hbb
    have HERR := Lib.hid herr
    clear hC hT hscan hbb herr hbs hLs hte htk
    go_wp2_with fail
    refine HSC.out.mono ?_
    rintro e w4 ⟨v, rfl, hown, hb4⟩
    have hbb4 := Base.mono (HBB.out.below hb4) hb4.size (Nat.le_refl _)
    have hwk := works_walk hbb4 kt0_ok (by decide)
    have HWK := Lib.hid hwk
    have Hb4 := Lib.hid (Hb3.out.trans (hb4.mono Hb3.out.size))
    have hpos : (0 : Int) < (errsL ([t1] ++ [te]) : Nat) := by rw [HERR.out]; omega
    generalize errsL ([t1] ++ [te]) = er at *
    clear hown hb4 hbb4 hwk
    go_wp2_with fail
    refine HWK.out.mono ?_
    rintro e w5 ⟨rfl, hb5⟩
    have Hb5 := Lib.hid (Hb4.out.trans (hb5.mono Hb4.out.size))
    clear hb5
    go_wp2
    go_ret
    exact ⟨ret_bool (decide_eq_true (by omega)), Hb5.out⟩
  · have hfit : fitsP t = false := decide_eq_false hf
    rw [hfit]
    clear hp1 hb1 hbl1 hfit
    go_wp2
    go_ret
    exact ⟨rfl, Hb1.out⟩

end Go.Proofs.YtplljfbbipeakaaDoor
