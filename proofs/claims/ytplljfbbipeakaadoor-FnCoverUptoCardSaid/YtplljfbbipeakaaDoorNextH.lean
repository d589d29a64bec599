/- Scanner.next, walked: a character beyond ASCII. -/
import Derived.Test.YtplljfbbipeakaaDoorNextB
namespace Go.Proofs.YtplljfbbipeakaaDoor
open Go Go.RowKit

theorem get!_extract (bs : ByteArray) (o j : Nat) (h : o + j < bs.size) : (bs.extract o bs.size).get! j = bs.get! (o + j) := by
  have h1 : j < (bs.extract o bs.size).size := by rw [ByteArray.size_extract]; omega
  rw [Utf8W.get!_of_lt _ _ h1, Utf8W.get!_of_lt _ _ h, ByteArray.getElem_extract]

theorem decode_extract (bs : ByteArray) (o : Nat) (h : o < bs.size) : Lib.decodeGo (bs.extract o bs.size) = Utf8.decode bs o := by
  have hs : (bs.extract o bs.size).size = bs.size - o := by rw [ByteArray.size_extract]; omega
  unfold Lib.decodeGo
  rw [if_neg (by omega), Lib.decode_at, Lib.decode_at, hs]
  have g : ∀ j, (o + j < bs.size → (bs.extract o bs.size).get! j = bs.get! (o + j)) := fun j hj => get!_extract bs o j hj
  unfold Lib.decodeN
  simp only [Nat.sub_zero, Nat.zero_add]
  rw [g 0 (by omega)]
  by_cases h1 : o + 1 < bs.size
  · rw [g 1 h1]
    by_cases h2 : o + 2 < bs.size
    · rw [g 2 h2]
      by_cases h3 : o + 3 < bs.size
      · rw [g 3 h3]; rfl
      · have n3 : ¬ 3 < bs.size - o := by omega
        simp [n3]
    · have n2 : ¬ 2 < bs.size - o := by omega
      have n3 : ¬ 3 < bs.size - o := by omega
      simp [n2, n3]
  · have n1 : ¬ 1 < bs.size - o := by omega
    have n2 : ¬ 2 < bs.size - o := by omega
    have n3 : ¬ 3 < bs.size - o := by omega
    simp [n1, n2, n3]

theorem gen_then {A : Act → World → Prop} {Q : Exit → Act → World → Prop} {e : Exit} {a : Act} {X : World} (K : World → Prop) (h : K X) (k : ∀ W, K W → Exit.then A Q e a W) : Exit.then A Q e a X := k X h

theorem owns_below {w w' : World} {base : Nat} {e : TypeId} {size n : Nat} {v : Value} {xs : List Value} (h : w.ownsRow base e size v n xs) (hb : Below w.heap.size w w') : w'.ownsRow base e size v n xs := by
  obtain ⟨h1, h2⟩ := h
  refine ⟨h1, ?_⟩
  rcases h2 with h2 | ⟨g, cap, cur, hv, hg, hh, r⟩
  · exact Or.inl h2
  · exact Or.inr ⟨g, cap, cur, hv, hg, by rw [hb.block g (lt_of_block hh)]; exact hh, r⟩

theorem Rows1.below {B sb kb bb : Nat} {bs : ByteArray} {s : SS} {cap : Nat} {ev : Value} {tg tc tn : Nat} {w w' : World} (r : Rows1 B sb kb bb bs s cap ev tg tc tn w) (hb : Below w.heap.size w w') : Rows1 B sb kb bb bs s cap ev tg tc tn w' :=
  let ⟨exs, he⟩ := r.errs
  let ⟨txs, ht⟩ := r.tabs
  ⟨by rw [hb.block sb (lt_of_block r.blk)]; exact r.blk, r.cap, ⟨exs, owns_below he hb⟩, ⟨txs, owns_below ht hb⟩, r.tn⟩

/-- utf8.DecodeRune of the text's rest. -/
theorem decode_rest {bb o c : Nat} {bs : ByteArray} {w : World} (hT : Lib.Utf8Tabs 3 4 w) (hb : BytesAt bb bs w) (ho : o < bs.size) :
    Calls Tryd.prog 73 #[.slice (some ⟨bb, o, none⟩) (bs.size - o) c] w fun e w' => e = .returned (.tuple #[.int .i32 (Utf8.decode bs o).1, .int .i64 (Utf8.decode bs o).2]) ∧ Below w.heap.size w w' := by
  have hs : (bs.extract o bs.size).size = bs.size - o := by rw [ByteArray.size_extract]; omega
  have := Tryd.utf8_DecodeRune (bs.extract o bs.size) bb o c w hT (fun j hj => by rw [get!_extract bs o j (by omega)]; exact hb.cell (o + j) (by omega))
  rw [decode_extract bs o ho, hs] at this
  exact this

theorem high_end {B sb kb bb : Nat} {bs : ByteArray} {s : SS} {w W : World} (h : Scn B sb kb bb bs s w) {c dw k : Nat} {cap : Nat} {ev : Value} {tg tc tn : Nat} (K : Kept B w W)
    (R : Rows1 B sb kb bb bs { s with width := dw, curr := c, errs := s.errs + k } cap ev tg tc tn W)
    (hs : nextS bs s = { off := s.off + dw, row := s.row, col := s.col + 1, width := dw, curr := c, errs := s.errs + k }) :
    Left B sb kb bb bs (nextS bs s) (.tuple #[]) w (.returned (.tuple #[])) ((W.setCell ⟨sb, 4, none⟩ (.int .i64 ((s.off : Int) + (dw : Int)))).setCell ⟨sb, 6, none⟩ (.int .i64 ((s.col : Int) + 1))).drew := by
  have hsb := h.mem.bsb
  have hk5 := R.keptSet hsb K 4 (.int .i64 (s.off + dw : Nat))
  have r6 := R.set_off (s.off + dw) (by have := R.tn; simp only at this; omega)
  have hk6 := (r6.keptSet hsb hk5 6 (.int .i64 (s.col + 1 : Nat))).drew
  have r7 := (r6.set_col (s.col + 1)).drew
  refine ⟨rfl, ⟨?_, nextS_ok h.ok, h.size⟩, hk6⟩
  rw [hs]
  exact h.mem.of_step hk6 r7

set_option maxHeartbeats 2000000 in
set_option maxRecDepth 100000 in
theorem next_high {B sb kb bb : Nat} {bs : ByteArray} {s : SS} {w : World} (h : Scn B sb kb bb bs s w) (ho : s.off < bs.size)
    (hz : 128 ≤ (bs.get! s.off).toNat) :
    Calls Tryd.prog 50 #[.pointer (some ⟨sb, 0, none⟩)] w (Left B sb kb bb bs (nextS bs s) (.tuple #[]) w) := by
  obtain ⟨cap, ev, tg, tc, tn, r⟩ := h.mem.open
  have hsz := h.size
  have c1 := r.c1; have c4 := r.c4; have c6 := r.c6; have c7 := r.c7; have c8 := r.c8; have f4 := r.f 4; have f6 := r.f 6; have f7 := r.f 7; have f8 := r.f 8
  have hcol := h.ok.col
  have hb := h.mem.bytes.cell s.off ho
  have hr := decode_range bs s.off ho
  have hh := decode_high bs s.off hz
  obtain ⟨b, eb, hb256⟩ := byteIntOf bs s.off
  rw [eb] at hb hz
  have b0 : ((b : Int) == 0) = false := by simp; omega
  have b128 : (128 : Int) ≤ b := by omega
  have hcap := r.cap
  have R := Lib.hid r
  have H := Lib.hid h
  clear r h hz eb
  go_enter Tryd.func50, Tryd.ntmps50
  go_wp2
  go_quiet (fail)
  go_wp2
  go_region
  go_wp2_with fail
  have hsb := H.out.mem.bsb
  refine gen_wp (fun W => Rows1 B sb kb bb bs { s with width := 1, curr := b } cap ev tg tc tn W ∧ Kept B w W) ⟨?_, ?_⟩ ?_
  · exact ((R.out.drewN (nq + 1)).set_curr b).set_width 1
  · have r1 := R.out.drewN (nq + 1)
    have k1 := r1.keptSet hsb ((Kept.refl B w).drewN (nq + 1)) 8 (.int .i32 b)
    exact (r1.set_curr b).keptSet hsb k1 7 (.int .i64 (1 : Nat))
  clear c1 c4 c6 c7 c8 f4 f6 f7 f8 hb
  rintro W ⟨r, k⟩
  have c1 := r.c1; have c4 := r.c4; have c7 := r.c7; have c8 := r.c8; have f7 := r.f 7; have f8 := r.f 8
  have lsb := lt_of_block r.blk
  have M := r.toMem H.out.mem k
  have hdec := fun c => decode_rest (c := c) (w := W.drew) M.tabs M.bytes ho
  have HD := Lib.hid hdec
  have R2 := Lib.hid r
  have K2 := Lib.hid k
  clear r k M hdec
  simp only at c4 c7 c8
  have i0 : (0 : Int) ≤ (s.off : Int) := by omega
  have i1 : (s.off : Int) ≤ (bs.size : Int) := by omega
  have i2 : (bs.size : Int) ≤ (cap : Int) := by omega
  have i3 : s.off ≤ bs.size := by omega
  have i4 : ¬ cap = s.off := by omega
  go_region_held3 (fun w' => w'.cell? ⟨sb, 1, none⟩ = some (.slice (some ⟨bb, 0, none⟩) bs.size cap) ∧ w'.cell? ⟨sb, 4, none⟩ = some (.int .i64 s.off))
    (first | go_keep | (refine ⟨?_, ?_⟩ <;> simp [World.cell?_setCell_other, d1, d4]))
    ((go_at_call 73; refine (HD.out _).mono ?_; rintro e w1 ⟨rfl, hb1⟩; have d1 : w1.cell? ⟨sb, 1, none⟩ = some (.slice (some ⟨bb, 0, none⟩) bs.size cap) := (hb1.cell (p := ⟨sb, 1, none⟩) lsb).trans c1; have d4 : w1.cell? ⟨sb, 4, none⟩ = some (.int .i64 s.off) := (hb1.cell (p := ⟨sb, 4, none⟩) lsb).trans c4; have d7 : w1.cell? ⟨sb, 7, none⟩ = some (.int .i64 1) := (hb1.cell (p := ⟨sb, 7, none⟩) lsb).trans c7; have d8 : w1.cell? ⟨sb, 8, none⟩ = some (.int .i32 b) := (hb1.cell (p := ⟨sb, 8, none⟩) lsb).trans c8; have e7 : w1.frozen? ⟨sb, 7, none⟩ = false := (hb1.frozen (p := ⟨sb, 7, none⟩) lsb).trans f7; have e8 : w1.frozen? ⟨sb, 8, none⟩ = false := (hb1.frozen (p := ⟨sb, 8, none⟩) lsb).trans f8))
  have hb1 := ‹Below _ W.drew _›
  have B1 := Lib.hid hb1
  clear hb1
  refine gen_then (fun W' => Rows1 B sb kb bb bs { s with width := (Utf8.decode bs s.off).2, curr := (Utf8.decode bs s.off).1 } cap ev tg tc tn W' ∧ Kept B w W') ⟨?_, ?_⟩ ?_
  · exact ((R2.out.drew.below B1.out).set_curr _).set_width _
  · have r1 := R2.out.drew.below B1.out
    have k1 := r1.keptSet hsb (K2.out.drew.below B1.out) 8 (.int .i32 (Utf8.decode bs s.off).1)
    exact (r1.set_curr _).keptSet hsb k1 7 (.int .i64 (Utf8.decode bs s.off).2)
  rintro W' ⟨r, k⟩
  generalize hD : Utf8.decode bs s.off = d at *
  obtain ⟨c, dw⟩ := d
  simp only at r hr hh
  have c4 := r.c4; have c6 := r.c6; have c7 := r.c7; have c8 := r.c8; have f4 := r.f 4; have f6 := r.f 6
  have hm := Lib.hid (r.toMem H.out.mem k)
  have R3 := Lib.hid r
  have K3 := Lib.hid k
  have HD1 := Lib.hid hD
  clear r k hD B1 R2 K2 HD c1 
  have hw1 : dw ≤ 4 := hr.2.1
  have hN : ∀ k, stepErr s.off (c, dw) = k → nextS bs s = { off := s.off + dw, row := s.row, col := s.col + 1, width := dw, curr := c, errs := s.errs + k } := fun k hk => by
    have h10 : ¬ c = 10 := by omega
    unfold nextS; rw [if_pos ho, HD1.out, hk]; simp [h10]
  have HN := Lib.hid hN
  clear hN
  have t3 : ((c : Int) == 10) = false := by simp; omega
  have t4 : ((c : Int) == 9) = false := by simp; omega
  by_cases e1 : c = 65533
  · by_cases e2 : dw = 1
    · subst e1; subst e2
      clear t3 t4
      go_wp2_with fail
      refine (error_mem _ hm.out (by show s.errs ≤ _; have := H.out.ok.errs; omega)).mono ?_
      rintro e w2 ⟨rfl, hm2, hk2⟩
      obtain ⟨cap1, ev1, tg1, tc1, tn1, r4⟩ := hm2.open
      clear c4 c6 c7 c8 f4 f6
      have c4 := r4.c4; have c6 := r4.c6; have c7 := r4.c7; have c8 := r4.c8; have f4 := r4.f 4; have f6 := r4.f 6
      simp only [SS.err] at c4 c6 c7 c8
      have KE := Lib.hid (K3.out.trans hk2)
      have R4 := Lib.hid r4
      clear r4 hm2 hk2
      go_wp2
      go_region
      go_wp2
      go_end0
      exact high_end H.out KE.out R4.out (HN.out 1 (by simp [stepErr]))
    · subst e1
      have t5 : ((dw : Int) == 1) = false := by simp; omega
      clear t3 t4
      go_wp2
      go_region
      go_wp2
      go_end0
      exact high_end (k := 0) H.out K3.out R3.out (HN.out 0 (by simp [stepErr, e2]))
  · by_cases e2 : c = 65279
    · by_cases e3 : s.off = 0
      · have z0 : ¬ (0 : Int) < (s.off : Int) := by omega
        subst e2
        clear t3 t4 e3
        go_wp2
        go_region
        go_wp2
        go_end0
        exact high_end (k := 0) H.out K3.out R3.out (HN.out 0 (by simp [stepErr]; omega))
      · have z0 : (0 : Int) < (s.off : Int) := by omega
        subst e2
        clear t3 t4 e3
        go_wp2_with fail
        refine (error_mem _ hm.out (by show s.errs ≤ _; have := H.out.ok.errs; omega)).mono ?_
        rintro e w2 ⟨rfl, hm2, hk2⟩
        obtain ⟨cap1, ev1, tg1, tc1, tn1, r4⟩ := hm2.open
        clear c4 c6 c7 c8 f4 f6
        have c4 := r4.c4; have c6 := r4.c6; have c7 := r4.c7; have c8 := r4.c8; have f4 := r4.f 4; have f6 := r4.f 6
        simp only [SS.err] at c4 c6 c7 c8
        have KE := Lib.hid (K3.out.trans hk2)
        have R4 := Lib.hid r4
        clear r4 hm2 hk2
        go_wp2
        go_region
        go_wp2
        go_end0
        exact high_end H.out KE.out R4.out (HN.out 1 (by simp [stepErr]; omega))
    · have t1 : ((c : Int) == 65533) = false := by simp; omega
      have t2 : ((c : Int) == 65279) = false := by simp; omega
      go_wp2
      go_region
      go_wp2
      go_end0
      exact high_end (k := 0) H.out K3.out R3.out (HN.out 0 (by unfold stepErr; simp only; rw [if_neg (by omega), if_neg (by omega), if_neg (by omega)]))

/-- NEXT, AT EVERY TEXT. -/
theorem next_any {B sb kb bb : Nat} {bs : ByteArray} {s : SS} {w : World} (h : Scn B sb kb bb bs s w) :
    Calls Tryd.prog 50 #[.pointer (some ⟨sb, 0, none⟩)] w (Left B sb kb bb bs (nextS bs s) (.tuple #[]) w) := by
  by_cases ho : s.off < bs.size
  · by_cases h1 : 128 ≤ (bs.get! s.off).toNat
    · exact next_high h ho h1
    · by_cases h0 : (bs.get! s.off).toNat = 0
      · exact next_zero h ho h0
      · by_cases h2 : (bs.get! s.off).toNat = 10
        · exact next_newline h ho h2
        · by_cases h3 : (bs.get! s.off).toNat = 9
          · exact next_tab h ho h3
          · exact next_plain h ho h0 (by omega) h2 h3
  · exact next_eof h (by omega)

end Go.Proofs.YtplljfbbipeakaaDoor
