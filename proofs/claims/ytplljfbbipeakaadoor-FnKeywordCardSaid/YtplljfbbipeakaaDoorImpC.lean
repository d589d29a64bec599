/- impl.Scan, impl.ScanAll, impl.Keyword, impl.IsKeyword, laws.works, walked. -/
import Derived.Test.YtplljfbbipeakaaDoorImpB
import Derived.Deep.QuietTactic
import Derived.BigQuiet
namespace Go.Proofs.YtplljfbbipeakaaDoor
open Go Go.RowKit Go.Maps Go.WideMaps Go.WideElems

/-- The scanner's tokens of a text of segments. -/
def runT (gs : List Seg) : List TI := toks (segsR gs) 0 gs ++ [endT (segsR gs)]

theorem errsL_zero : ∀ {ts : List TI}, (∀ t ∈ ts, t.s'.errs = 0) → errsL ts = 0
  | [], _ => rfl
  | t :: ts, h => by
    have h1 := errsL_zero (ts := ts) (fun x hx => h x (.tail _ hx))
    have h2 := h t (.head _)
    unfold errsL at h1 ⊢
    rw [List.map_cons, List.sum_cons, h1, h2]

theorem runT_errs (gs : List Seg) : ∀ t ∈ runT gs, t.s'.errs = 0 := by
  intro t ht
  rcases List.mem_append.1 ht with h | h
  · obtain ⟨_, _, _, h2⟩ := toks_mem h; exact h2
  · rw [List.mem_singleton.1 h]; rfl

/-- impl.scan over a text of segments. -/
theorem implScan_run {kh : List UInt8 → Bool} {kt : List UInt8 → Int} {bs : ByteArray} {mv : Value} {ms : List (List UInt8)} {white : Bool} {w : World} {gs : List Seg}
    (hB : Base w.heap.size kh kt w) (hsz : bs.size ≤ 274877906944) (hM : StrsAt mv ms w) (hml : ms.length ≤ 4294967296) (hmw : ∀ m ∈ ms, m.length ≤ maxLen)
    (hX : Txt bs (segsR gs)) (hG : Segs (kwAll kh kt ms).1 (kwAll kh kt ms).2 gs) (hk : KtOk (kwAll kh kt ms).2) :
    Calls Tryd.prog 33 #[.string bs, mv, .bool white] w (ImpPost w.heap.size (runT gs) white w) := by
  obtain ⟨h1, h2, h3⟩ := run_chain hk hX hG
  refine implScan_walk (te := endT (segsR gs)) hB hsz hM hml hmw h1 h2 rfl (by omega) ?_ ?_
  · intro t ht
    rcases List.mem_append.1 ht with h | h
    · obtain ⟨g, hg, e, _⟩ := toks_mem h
      have := hG.range hk g hg
      omega
    · rw [List.mem_singleton.1 h]; exact ⟨by show (0:Int) ≤ 1; decide, by show (1:Int) ≤ 255; decide⟩
  · have := errsL_zero (runT_errs gs)
    unfold runT at this
    rw [this]; exact Nat.zero_le _

set_option maxHeartbeats 1000000 in
theorem Scan_walk {a1 a2 : Value} {w : World} {B : Nat} {ts : List TI} (h : Calls Tryd.prog 33 #[a1, a2, .bool false] w (ImpPost B ts false w)) : Calls Tryd.prog 20 #[a1, a2] w (ImpPost B ts false w) := by
  have H := Lib.hid h
  clear h
  go_enter Tryd.func20, Tryd.ntmps20
  go_wp2_with fail
  refine H.out.mono ?_
  rintro e w1 ⟨v, rfl, h1, h2⟩
  have H1 := Lib.hid h1
  have H2 := Lib.hid h2
  clear h1 h2
  go_wp2
  go_ret3
  exact ⟨v, rfl, H1.out, H2.out⟩

set_option maxHeartbeats 1000000 in
theorem ScanAll_walk {a1 a2 : Value} {w : World} {B : Nat} {ts : List TI} (h : Calls Tryd.prog 33 #[a1, a2, .bool true] w (ImpPost B ts true w)) : Calls Tryd.prog 24 #[a1, a2] w (ImpPost B ts true w) := by
  have H := Lib.hid h
  clear h
  go_enter Tryd.func24, Tryd.ntmps24
  go_wp2_with fail
  refine H.out.mono ?_
  rintro e w1 ⟨v, rfl, h1, h2⟩
  have H1 := Lib.hid h1
  have H2 := Lib.hid h2
  clear h1 h2
  go_wp2
  go_ret3
  exact ⟨v, rfl, H1.out, H2.out⟩

set_option maxHeartbeats 1000000 in
theorem Keyword_walk {kh : List UInt8 → Bool} {kt : List UInt8 → Int} {s : ByteArray} {w : World} (hB : Base w.heap.size kh kt w) (hs : s.size ≤ maxLen) (hk : KtOk kt) :
    Calls Tryd.prog 26 #[.string s] w fun e w' => e = .returned (.int .i64 (kwTok kh kt s.data.toList)) ∧ Below w.heap.size w w' := by
  have hr := kwTok_range (kh := kh) hk s.data.toList
  have HB := Lib.hid hB
  clear hB hk
  go_enter Tryd.func26, Tryd.ntmps26
  go_wp2_with fail
  refine (newReader_walk ⟨#[]⟩ w).mono ?_
  rintro e w1 ⟨rfl, e1⟩
  have hr1 := heap_alloc_new w (.cells #[.string ⟨#[]⟩, .int .i64 0, .int .i64 (-1)] 90)
  have hb1 : Below w.heap.size w (w.alloc (.cells #[.string ⟨#[]⟩, .int .i64 0, .int .i64 (-1)] 90)) := (Below.refl _ _).alloc (Nat.le_refl _) _
  rw [e1] at hr1 hb1
  have hB1 := HB.out.below hb1
  have HR := Lib.hid hr1
  have HB1 := Lib.hid hB1
  have Hb1 := Lib.hid hb1
  clear e1 hr1 hb1 hB1
  go_wp2_with fail
  refine (new_walk HB1.out (Nat.le_refl _) HR.out (by show 0 ≤ _; omega)).mono ?_
  rintro e w2 ⟨sb, kb, bb, rfl, hS, hK, hkb, hb2⟩
  have hkw := keyword_walk sb kb kh kt w2 hS.c0 (hK.kws (by omega)) s hs
  have HKW := Lib.hid hkw
  have Hb2 := Lib.hid (Hb1.out.trans hb2)
  clear hS hK hb2 hkw
  generalize hkv : kwTok kh kt s.data.toList = kv at *
  have HKV := Lib.hid hkv
  clear hkv
  go_wp2_with fail
  refine HKW.out.mono ?_
  rintro e w3 ⟨rfl, rfl⟩
  go_wp2
  go_ret
  exact ⟨ret_int HKV.out.symm, Hb2.out⟩

set_option maxHeartbeats 1000000 in
theorem IsKeyword_walk {kh : List UInt8 → Bool} {kt : List UInt8 → Int} {s : ByteArray} {w : World} (hB : Base w.heap.size kh kt w) (hs : s.size ≤ maxLen) :
    Calls Tryd.prog 27 #[.string s] w fun e w' => e = .returned (.bool (kh s.data.toList)) ∧ Below w.heap.size w w' := by
  have HB := Lib.hid hB
  clear hB
  go_enter Tryd.func27, Tryd.ntmps27
  go_wp2_with fail
  refine (newReader_walk ⟨#[]⟩ w).mono ?_
  rintro e w1 ⟨rfl, e1⟩
  have hr1 := heap_alloc_new w (.cells #[.string ⟨#[]⟩, .int .i64 0, .int .i64 (-1)] 90)
  have hb1 : Below w.heap.size w (w.alloc (.cells #[.string ⟨#[]⟩, .int .i64 0, .int .i64 (-1)] 90)) := (Below.refl _ _).alloc (Nat.le_refl _) _
  rw [e1] at hr1 hb1
  have hB1 := HB.out.below hb1
  have HR := Lib.hid hr1
  have HB1 := Lib.hid hB1
  have Hb1 := Lib.hid hb1
  clear e1 hr1 hb1 hB1
  go_wp2_with fail
  refine (new_walk HB1.out (Nat.le_refl _) HR.out (by show 0 ≤ _; omega)).mono ?_
  rintro e w2 ⟨sb, kb, bb, rfl, hS, hK, hkb, hb2⟩
  have hkw := isKeyword_walk sb kb kh kt w2 hS.c0 (hK.kws (by omega)) s hs
  have HKW := Lib.hid hkw
  have Hb2 := Lib.hid (Hb1.out.trans hb2)
  clear hS hK hb2 hkw
  generalize hkv : kh s.data.toList = kv at *
  have HKV := Lib.hid hkv
  clear hkv
  go_wp2_with fail
  refine HKW.out.mono ?_
  rintro e w3 ⟨rfl, rfl⟩
  go_wp2
  go_ret
  exact ⟨ret_bool HKV.out.symm, Hb2.out⟩

/-- What came back, opened. -/
theorem own_form {w : World} {B e size n : Nat} {v : Value} {xs : List Value} (h : w.ownsRow B e size v n xs) (hn : 0 < n) :
    ∃ g c, v = .slice (some ⟨g, 0, none⟩) n c ∧ B ≤ g ∧ ∀ j u, xs[j]? = some u → w.cell? ⟨g, j, none⟩ = some u := by
  rcases h.2 with ⟨_, h0⟩ | ⟨g, cap, cur, rfl, hg, hh, r⟩
  · omega
  · refine ⟨g, cap, rfl, hg, fun j u hj => ?_⟩
    have := h.cells (g := g) rfl j u hj
    rwa [addr_add, Nat.zero_add] at this

def abSeg (kh : List UInt8 → Bool) (kt : List UInt8 → Int) : Seg := ⟨[97, 98], kwTok kh kt (encL [97, 98]), BA [97, 98]⟩

theorem ab_txt (kh : List UInt8 → Bool) (kt : List UInt8 → Int) : Txt ⟨#[97, 98]⟩ (segsR [abSeg kh kt]) := by
  refine ⟨?_, ?_⟩
  · intro r hr
    have hr' : r ∈ [97, 98] := hr
    simp only [List.mem_cons, List.not_mem_nil, or_false] at hr'
    rcases hr' with rfl | rfl <;> refine ⟨Or.inl (by decide), by decide, by decide⟩
  · show [97, 98] = encL [97, 98]
    rw [encL_cons, encL_cons, encL_nil, encR1 (by decide), encR1 (by decide)]; rfl

theorem ab_segs (kh : List UInt8 → Bool) (kt : List UInt8 → Int) : Segs kh kt [abSeg kh kt] := by
  refine ⟨SegOk.id [97, 98] [] (by simp) (fun r hr => by cases hr; decide) (fun r hr => by simp at hr; rcases hr with rfl | rfl <;> decide) (fun r hr => by cases hr), trivial⟩

set_option maxHeartbeats 2000000 in
theorem works_walk {kh : List UInt8 → Bool} {kt : List UInt8 → Int} {w : World} (hB : Base w.heap.size kh kt w) (hk : KtOk kt) (hab : kh [97, 98] = false) :
    Calls Tryd.prog 19 #[] w fun e w' => e = .returned (.bool true) ∧ Below w.heap.size w w' := by
  have hscan := Scan_walk (implScan_run (ms := []) (mv := .slice none 0 0) (white := false) (gs := [abSeg kh kt]) hB (by show 2 ≤ _; omega) (StrsAt.nil w) (Nat.zero_le _) (fun m hm => by cases hm) (ab_txt kh kt) (ab_segs kh kt) hk)
  have HSC := Lib.hid hscan
  have hkk : kwTok kh kt (encL [97, 98]) = 3 := by
    have e : encL [97, 98] = [97, 98] := by rw [encL_cons, encL_cons, encL_nil, encR1 (by decide), encR1 (by decide)]; rfl
    rw [e]; unfold kwTok; rw [if_neg (by rw [hab]; decide)]
  have HKK := Lib.hid hkk
  clear hscan hB hk hab hkk
  go_enter Tryd.func19, Tryd.ntmps19
  go_wp2_with fail
  refine HSC.out.mono ?_
  rintro e w1 ⟨v, rfl, hown, hb⟩
  have hkeep : kept false (runT [abSeg kh kt]) = runT [abSeg kh kt] := by
    unfold kept
    rw [List.filter_eq_self]
    intro t ht
    have ht' : t = ⟨kwTok kh kt (encL [97, 98]), BA [97, 98], rs [97, 98] 0, rs [97, 98] 2⟩ ∨ t = endT [97, 98] := by
      rcases List.mem_append.1 ht with h | h
      · exact Or.inl (List.mem_singleton.1 h)
      · exact Or.inr (List.mem_singleton.1 h)
    rcases ht' with rfl | rfl
    · unfold keepB; simp only; rw [HKK.out]; rfl
    · rfl
  rw [hkeep] at hown
  have hl : (runT [abSeg kh kt]).length = 2 := rfl
  rw [hl] at hown
  obtain ⟨g, c, rfl, hg, hc⟩ := own_form hown (by omega)
  have c0 := hc 0 (.int .i64 (kwTok kh kt (encL [97, 98]))) rfl
  have c2 : w1.cell? ⟨g, 2, none⟩ = some (.int .i64 0) := hc 2 _ rfl
  have c3 : w1.cell? ⟨g, 3, none⟩ = some (.int .i64 2) := hc 3 _ rfl
  have c6 : w1.cell? ⟨g, 6, none⟩ = some (.int .i64 1) := hc 6 _ rfl
  rw [HKK.out] at c0
  have he0 : errsL (runT [abSeg kh kt]) = 0 := errsL_zero (runT_errs _)
  rw [he0]
  have HBL := Lib.hid hb
  clear hown hc hkeep hl he0 hb
  go_wp2
  go_ret
  exact ⟨rfl, HBL.out⟩

end Go.Proofs.YtplljfbbipeakaaDoor
