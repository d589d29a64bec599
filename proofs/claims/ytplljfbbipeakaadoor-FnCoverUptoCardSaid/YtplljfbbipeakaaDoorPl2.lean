/- A string in quotes or backquotes that breaks off, as a relation on the scanner's state: it ends with an error. No program in sight. spec.text's text, broken off: its tokens. No program in sight. -/
import Derived.Test.YtplljfbbipeakaaDoorPl1
namespace Go.Proofs.YtplljfbbipeakaaDoor
open Go

/-- The runes that are still to be read. -/
def Rest (bs : ByteArray) (s : SS) (D : List Nat) : Prop := ∃ f, D = runesF bs f s.off ∧ bs.size ≤ s.off + f

theorem rest_next {bs : ByteArray} {s : SS} {D : List Nat} (h : Rest bs s D) : (nextS bs s).curr = curOf D.head? ∧ Rest bs (nextS bs s) D.tail := by
  obtain ⟨f, rfl, hf⟩ := h
  by_cases hlt : s.off < bs.size
  · obtain ⟨f', rfl⟩ : ∃ f', f = f' + 1 := ⟨f - 1, by omega⟩
    have hd := decode_range bs s.off hlt
    rw [runesF_step bs f' s.off hlt]
    have hn : nextS bs s = { off := s.off + (Utf8.decode bs s.off).2
                             row := if (Utf8.decode bs s.off).1 = 10 then s.row + 1 else s.row
                             col := if (Utf8.decode bs s.off).1 = 10 then 0 else s.col + 1
                             width := (Utf8.decode bs s.off).2
                             curr := (Utf8.decode bs s.off).1
                             errs := s.errs + stepErr s.off (Utf8.decode bs s.off) } := by unfold nextS; rw [if_pos hlt]
    rw [hn]
    exact ⟨rfl, f', rfl, by show _ ≤ s.off + (Utf8.decode bs s.off).2 + f'; omega⟩
  · have hn : nextS bs s = { s with curr := -1, off := bs.size + 1 } := by unfold nextS; rw [if_neg hlt]
    rw [hn, runesF_end bs f s.off hlt]
    exact ⟨rfl, 0, rfl, by show _ ≤ bs.size + 1 + 0; omega⟩

theorem nextS_errs {bs : ByteArray} {s : SS} (h : s.errs ≤ s.off) (ho : s.off ≤ bs.size + 1) : (nextS bs s).errs ≤ (nextS bs s).off := by
  unfold nextS
  by_cases hlt : s.off < bs.size
  · rw [if_pos hlt]
    have hd := decode_range bs s.off hlt
    have he := stepErr_le s.off (Utf8.decode bs s.off)
    show s.errs + _ ≤ s.off + _
    omega
  · rw [if_neg hlt]
    show s.errs ≤ bs.size + 1
    omega
theorem nextS_errs_ge {bs : ByteArray} {s : SS} : s.errs ≤ (nextS bs s).errs := by
  unfold nextS
  split
  · exact Nat.le_add_right _ _
  · exact Nat.le_refl _

/-- A state in its bounds, with room for more errors. -/
structure Roomy (bs : ByteArray) (s : SS) : Prop where
  ok : s.Ok bs.size
  errs : s.errs ≤ s.off

theorem Roomy.next {bs : ByteArray} {s : SS} (h : Roomy bs s) : Roomy bs (nextS bs s) := ⟨nextS_ok h.ok, nextS_errs h.errs h.ok.off⟩
theorem Roomy.iter {bs : ByteArray} {s : SS} (h : Roomy bs s) : ∀ n, Roomy bs (iterS bs n s)
  | 0 => h
  | n + 1 => (Roomy.iter h n).next
theorem err_ok {bs : ByteArray} {s : SS} (h : s.Ok bs.size) (he : s.errs ≤ s.off + 1) : s.err.Ok bs.size :=
  ⟨h.off, h.row, h.col, h.width, h.wo, h.lo, h.hi, by show s.errs + 1 ≤ 3 * s.off + 3; omega⟩

theorem rest_iter {bs : ByteArray} : ∀ (n : Nat) {s : SS} {D : List Nat}, Rest bs s D → (iterS bs (n + 1) s).curr = curOf D[n]? ∧ Rest bs (iterS bs (n + 1) s) (D.drop (n + 1))
  | 0, s, D, h => by
    have := rest_next h
    rw [List.head?_eq_getElem?] at this
    rw [List.drop_one]
    exact this
  | n + 1, s, D, h => by
    have h1 := (rest_iter n h).2
    have h2 := rest_next h1
    rw [List.head?_drop, List.tail_drop] at h2
    exact h2

/-- What can be read of a string in quotes that breaks off. -/
inductive PreC : List Nat → Prop
  | nil : PreC []
  | one (r : Nat) (l : List Nat) : r ≠ 34 → r ≠ 92 → r ≠ 10 → PreC l → PreC (r :: l)
  | esc (e : Nat) (l : List Nat) : isEscB (e : Int) = true → PreC l → PreC (92 :: e :: l)
  | uni (a b c : Nat) (l : List Nat) : PreC l → PreC (92 :: 117 :: a :: b :: c :: l)
  | cut0 : PreC [92]
  | cut1 : PreC [92, 117]
  | cut2 (a : Nat) : PreC [92, 117, a]
  | cut3 (a b : Nat) : PreC [92, 117, a, b]

/-- The end of a string that breaks off. -/
theorem str_last {bs : ByteArray} {s : SS} (hc : s.curr = -1) (h : s.Ok bs.size) (he : s.errs ≤ s.off + 1) : ∃ n s', StrTo bs n s s' ∧ s'.curr = -1 ∧ 1 ≤ s'.errs :=
  ⟨0, s.err, Or.inl ⟨Or.inr (by omega), rfl, err_ok h he⟩, hc, by show 1 ≤ s.errs + 1; omega⟩

theorem str_cut {bs : ByteArray} {l : List Nat} (h : PreC l) : ∀ s, s.curr = curOf l.head? → Rest bs s l.tail → Roomy bs s → ∃ n s', StrTo bs n s s' ∧ s'.curr = -1 ∧ 1 ≤ s'.errs := by
  induction h with
  | nil => exact fun s hc _ hr => str_last hc hr.ok (by have := hr.errs; omega)
  | one r l h1 h2 h3 _ ih =>
    intro s hc hR hr
    have hc' : s.curr = (r : Int) := hc
    have hn := rest_next hR
    obtain ⟨n, s', a, b⟩ := ih (nextS bs s) hn.1 hn.2 hr.next
    exact ⟨n + 1, s', ⟨nextS bs s, ⟨by omega, by omega, by omega, Or.inl ⟨by omega, rfl⟩⟩, a⟩, b⟩
  | esc e l h1 _ ih =>
    intro s hc hR hr
    have hc' : s.curr = 92 := hc
    have h0 := rest_iter 0 hR
    have hn := rest_iter 1 hR
    have e1 : (iterS bs 2 s).curr = curOf l.head? := by rw [hn.1, List.head?_eq_getElem?]; rfl
    obtain ⟨n, s', a, b⟩ := ih (iterS bs 2 s) e1 (by have := hn.2; rwa [show List.drop (1 + 1) (92 :: e :: l).tail = l.tail from by cases l <;> rfl] at this) (hr.iter 2)
    have hcur : (nextS bs s).curr = (e : Int) := h0.1
    exact ⟨n + 1, s', ⟨iterS bs 2 s, ⟨by omega, by omega, by omega, Or.inr (Or.inl ⟨hc', by rw [hcur]; exact h1, rfl⟩)⟩, a⟩, b⟩
  | uni a' b' c' l _ ih =>
    intro s hc hR hr
    have hc' : s.curr = 92 := hc
    have h0 := rest_iter 0 hR
    have hn := rest_iter 4 hR
    have e1 : (iterS bs 5 s).curr = curOf l.head? := by rw [hn.1, List.head?_eq_getElem?]; rfl
    obtain ⟨n, s', a, b⟩ := ih (iterS bs 5 s) e1 (by have := hn.2; rwa [show List.drop (4 + 1) (92 :: 117 :: a' :: b' :: c' :: l).tail = l.tail from by cases l <;> rfl] at this) (hr.iter 5)
    have hcur : (nextS bs s).curr = 117 := h0.1
    exact ⟨n + 1, s', ⟨iterS bs 5 s, ⟨by omega, by omega, by omega, Or.inr (Or.inr (Or.inl ⟨hc', hcur, rfl⟩))⟩, a⟩, b⟩
  | cut0 =>
    intro s hc hR hr
    have hc' : s.curr = 92 := hc
    have h0 := rest_next hR
    have hcur : (nextS bs s).curr = -1 := h0.1
    have hk := hr.next
    have hok := err_ok hk.ok (by have := hk.errs; omega)
    obtain ⟨n, s', a, b⟩ := str_last (bs := bs) (s := (nextS bs s).err) hcur hok (by have := hk.errs; show (nextS bs s).errs + 1 ≤ (nextS bs s).off + 1; omega)
    exact ⟨n + 1, s', ⟨(nextS bs s).err, ⟨by omega, by omega, by omega, Or.inr (Or.inr (Or.inr ⟨hc', by rw [hcur]; rfl, by rw [hcur]; decide, rfl, hok⟩))⟩, a⟩, b⟩
  | cut1 =>
    intro s hc hR hr
    have hc' : s.curr = 92 := hc
    have hcur : (nextS bs s).curr = 117 := (rest_iter 0 hR).1
    have e1 : (iterS bs 5 s).curr = -1 := (rest_iter 4 hR).1
    have hk := hr.iter 5
    obtain ⟨n, s', a, b⟩ := str_last e1 hk.ok (by have := hk.errs; omega)
    exact ⟨n + 1, s', ⟨iterS bs 5 s, ⟨by omega, by omega, by omega, Or.inr (Or.inr (Or.inl ⟨hc', hcur, rfl⟩))⟩, a⟩, b⟩
  | cut2 x =>
    intro s hc hR hr
    have hc' : s.curr = 92 := hc
    have hcur : (nextS bs s).curr = 117 := (rest_iter 0 hR).1
    have e1 : (iterS bs 5 s).curr = -1 := (rest_iter 4 hR).1
    have hk := hr.iter 5
    obtain ⟨n, s', a, b⟩ := str_last e1 hk.ok (by have := hk.errs; omega)
    exact ⟨n + 1, s', ⟨iterS bs 5 s, ⟨by omega, by omega, by omega, Or.inr (Or.inr (Or.inl ⟨hc', hcur, rfl⟩))⟩, a⟩, b⟩
  | cut3 x y =>
    intro s hc hR hr
    have hc' : s.curr = 92 := hc
    have hcur : (nextS bs s).curr = 117 := (rest_iter 0 hR).1
    have e1 : (iterS bs 5 s).curr = -1 := (rest_iter 4 hR).1
    have hk := hr.iter 5
    obtain ⟨n, s', a, b⟩ := str_last e1 hk.ok (by have := hk.errs; omega)
    exact ⟨n + 1, s', ⟨iterS bs 5 s, ⟨by omega, by omega, by omega, Or.inr (Or.inr (Or.inl ⟨hc', hcur, rfl⟩))⟩, a⟩, b⟩

theorem raw_cut {bs : ByteArray} : ∀ (l : List Nat), (∀ r ∈ l, r ≠ 96) → ∀ s, s.curr = curOf l.head? → Rest bs s l.tail → Roomy bs s → ∃ n s', RawTo bs n s s' ∧ s'.curr = -1 ∧ 1 ≤ s'.errs
  | [], _, s, hc, hR, hr => by
    have hc' : s.curr = -1 := hc
    have h0 := rest_next hR
    have hk := hr.next
    exact ⟨0, (nextS bs s).err, Or.inl ⟨by omega, rfl, err_ok hk.ok (by have := hk.errs; omega)⟩, h0.1, by show 1 ≤ _ + 1; omega⟩
  | r :: l, hl, s, hc, hR, hr => by
    have hc' : s.curr = (r : Int) := hc
    have hn := rest_next hR
    obtain ⟨n, s', a, b⟩ := raw_cut l (fun x hx => hl x (.tail _ hx)) (nextS bs s) hn.1 hn.2 hr.next
    have := hl r (.head _)
    exact ⟨n + 1, s', ⟨⟨by omega, by omega⟩, a⟩, b⟩

/-! the runes of a text that breaks off -/
theorem high_bytes {r : Nat} (h : okR r) (h1 : 128 ≤ r) : ∀ b ∈ encR r, 128 ≤ b.toNat := by
  unfold okR at h
  by_cases c2 : r < 2048
  · rw [encR2 (by omega) c2]; intro b hb; simp at hb; rcases hb with rfl | rfl <;> simp <;> omega
  by_cases c3 : r < 65536
  · rw [encR3 c2 c3]; intro b hb; simp at hb; rcases hb with rfl | rfl | rfl <;> simp <;> omega
  · rw [encR4 c3]; intro b hb; simp at hb; rcases hb with rfl | rfl | rfl | rfl <;> simp <;> omega

theorem runes_high {bs : ByteArray} : ∀ (f pos : Nat), (∀ i, pos ≤ i → i < bs.size → 128 ≤ (bs.get! i).toNat) → ∀ r ∈ runesF bs f pos, 128 ≤ r
  | 0, _, _, r, h => by cases h
  | f + 1, pos, hb, r, h => by
    unfold runesF at h
    split at h
    · rename_i hlt
      rcases List.mem_cons.1 h with rfl | h
      · exact decode_high bs pos (hb pos (Nat.le_refl _) hlt)
      · exact runes_high f _ (fun i h1 h2 => hb i (by omega) h2) r h
    · cases h

theorem runes_pref {bs : ByteArray} : ∀ (R : List Nat) (n : Nat) (pre : List UInt8) (f : Nat), (∀ r ∈ R, okR r) → bs.data.toList = pre ++ (encL R).take n → bs.size ≤ pre.length + f →
    ∃ R' rest tail, runesF bs f pre.length = R' ++ tail ∧ R = R' ++ rest ∧ (∀ x ∈ tail, 128 ≤ x) ∧ (tail = [] ∨ ∃ r rest', rest = r :: rest' ∧ 128 ≤ r) ∧ (0 < n → (∀ r, R.head? = some r → r < 128) → R ≠ [] → R' ≠ [])
  | [], n, pre, f, _, hb, hf => by
    have hs : bs.size = pre.length := by rw [size_of hb]; simp [encL]
    exact ⟨[], [], [], runesF_end bs f _ (by omega), rfl, (fun x hx => by cases hx), Or.inl rfl, fun _ _ h => absurd rfl h⟩
  | r :: R, n, pre, f, hok, hb, hf => by
    have hr := hok r (.head _)
    have hlen := encR_len hr
    rw [encL_cons] at hb
    by_cases hn : (encR r).length ≤ n
    · rw [List.take_append, List.take_of_length_le hn] at hb
      have hd := decode_enc hr hb
      have hsz : bs.size = pre.length + ((encR r).length + ((encL R).take (n - (encR r).length)).length) := by rw [size_of hb]; simp
      obtain ⟨f', rfl⟩ : ∃ f', f = f' + 1 := ⟨f - 1, by omega⟩
      obtain ⟨R', rest, tail, e1, e2, e3, e4, _⟩ := runes_pref R (n - (encR r).length) (pre ++ encR r) f' (fun x hx => hok x (.tail _ hx)) (by rw [hb, List.append_assoc]) (by rw [List.length_append]; omega)
      rw [List.length_append] at e1
      refine ⟨r :: R', rest, tail, ?_, by rw [e2]; rfl, e3, e4, fun _ _ _ => by simp⟩
      rw [runesF_step bs f' _ (by omega), hd]
      simp only
      rw [e1]; rfl
    · have ht : (encR r ++ encL R).take n = (encR r).take n := by rw [List.take_append_of_le_length (by omega)]
      rw [ht] at hb
      by_cases h0 : n = 0
      · subst h0
        have hs : bs.size = pre.length := by rw [size_of hb]; simp
        exact ⟨[], r :: R, [], runesF_end bs f _ (by omega), rfl, (fun x hx => by cases hx), Or.inl rfl, fun h => absurd h (by omega)⟩
      · have hr128 : 128 ≤ r := by
          by_cases hlt : r < 128
          · have := hlen.2.2.2 hlt; omega
          · omega
        refine ⟨[], r :: R, runesF bs f pre.length, rfl, rfl, ?_, Or.inr ⟨r, R, rfl, hr128⟩, fun _ hh _ => absurd (hh r rfl) (by omega)⟩
        refine runes_high f _ (fun i h1 h2 => ?_)
        have hi : i < (pre ++ (encR r).take n).length := by rw [← hb, Array.length_toList]; exact h2
        have hg : bs.get! i = (pre ++ (encR r).take n)[i] := get_of hb (List.getElem?_eq_getElem hi)
        rw [hg, List.getElem_append_right h1]
        exact high_bytes hr hr128 _ (List.mem_of_mem_take (List.getElem_mem _))

end Go.Proofs.YtplljfbbipeakaaDoor

namespace Go.Proofs.YtplljfbbipeakaaDoor
open Go

theorem preC_high : ∀ l : List Nat, (∀ x ∈ l, 128 ≤ x) → PreC l
  | [], _ => .nil
  | x :: l, h => by
    have := h x (.head _)
    exact .one x l (by omega) (by omega) (by omega) (preC_high l (fun y hy => h y (.tail _ hy)))

theorem hexD_range (d : Nat) (h : d < 16) : 48 ≤ hexD d ∧ hexD d ≤ 102 ∧ hexD d ≠ 92 := by unfold hexD; split <;> omega

/-- The shapes of what is written for a rune in quotes. -/
theorem textR_shape (r : Nat) : textR false r = [] ∨ (textR false r = [92, r] ∧ (r = 34 ∨ r = 92)) ∨ (∃ a b, textR false r = [92, 117, 48, 48, a, b] ∧ (48 ≤ a ∧ a ≤ 102 ∧ a ≠ 92) ∧ (48 ≤ b ∧ b ≤ 102 ∧ b ≠ 92)) ∨
    (textR false r = [r] ∧ r ≠ 34 ∧ r ≠ 92 ∧ 32 ≤ r) := by
  unfold textR
  by_cases h1 : r = 0 ∨ r = 65533 ∨ r = 65279 ∨ (false = true ∧ (r = 96 ∨ r = 13))
  · rw [if_pos h1]; exact Or.inl rfl
  · rw [if_neg h1, if_neg (by decide)]
    by_cases h2 : r = 34 ∨ r = 92
    · rw [if_pos h2]; exact Or.inr (Or.inl ⟨rfl, h2⟩)
    · rw [if_neg h2]
      by_cases h3 : r < 32 ∨ r = 127
      · rw [if_pos h3]
        exact Or.inr (Or.inr (Or.inl ⟨_, _, rfl, hexD_range _ (Nat.mod_lt _ (by decide)), hexD_range _ (Nat.mod_lt _ (by decide))⟩))
      · rw [if_neg h3]
        exact Or.inr (Or.inr (Or.inr ⟨rfl, by omega, by omega, by omega⟩))

theorem tail_nil {r : Nat} {rest tail : List Nat} (h : tail = [] ∨ ∃ x rest', r :: rest = x :: rest' ∧ 128 ≤ x) (hr : r < 128) : tail = [] := by
  rcases h with h | ⟨x, rest', e, h⟩
  · exact h
  · cases e; omega

theorem preC_units : ∀ (P T' rest tail : List Nat), P.flatMap (textR false) = T' ++ rest → (∀ x ∈ tail, 128 ≤ x) → (tail = [] ∨ ∃ r rest', rest = r :: rest' ∧ 128 ≤ r) → PreC (T' ++ tail)
  | [], T', rest, tail, e, ht, hc => by
    have e' : T' ++ rest = [] := e.symm
    obtain ⟨rfl, rfl⟩ := List.append_eq_nil_iff.1 e'
    rcases hc with rfl | ⟨r, rest', h, _⟩
    · exact .nil
    · cases h
  | r :: P, T', rest, tail, e, ht, hc => by
    rw [List.flatMap_cons] at e
    rcases textR_shape r with h | ⟨h, h2⟩ | ⟨a, b, h, ha, hb⟩ | ⟨h, h2, h3, h4⟩
    · rw [h, List.nil_append] at e
      exact preC_units P T' rest tail e ht hc
    · rw [h] at e
      match T', e with
      | [], e =>
        have e' : 92 :: (r :: P.flatMap (textR false)) = rest := e
        rw [← e'] at hc
        rw [tail_nil hc (by decide)]; exact .nil
      | [x], e =>
        simp only [List.cons_append, List.nil_append, List.cons.injEq] at e
        obtain ⟨rfl, e⟩ := e
        rw [← e] at hc
        rw [tail_nil hc (by omega)]; exact .cut0
      | x :: y :: T'', e =>
        simp only [List.cons_append, List.nil_append, List.cons.injEq] at e
        obtain ⟨rfl, rfl, e⟩ := e
        exact .esc r _ (by rcases h2 with rfl | rfl <;> decide) (preC_units P T'' rest tail e ht hc)
    · rw [h] at e
      match T', e with
      | [], e =>
        have e' : 92 :: (117 :: 48 :: 48 :: a :: b :: P.flatMap (textR false)) = rest := e
        rw [← e'] at hc
        rw [tail_nil hc (by decide)]; exact .nil
      | [x1], e =>
        simp only [List.cons_append, List.nil_append, List.cons.injEq] at e
        obtain ⟨rfl, e⟩ := e
        rw [← e] at hc
        rw [tail_nil hc (by decide)]; exact .cut0
      | [x1, x2], e =>
        simp only [List.cons_append, List.nil_append, List.cons.injEq] at e
        obtain ⟨rfl, rfl, e⟩ := e
        rw [← e] at hc
        rw [tail_nil hc (by decide)]; exact .cut1
      | [x1, x2, x3], e =>
        simp only [List.cons_append, List.nil_append, List.cons.injEq] at e
        obtain ⟨rfl, rfl, rfl, e⟩ := e
        rw [← e] at hc
        rw [tail_nil hc (by decide)]; exact .cut2 48
      | [x1, x2, x3, x4], e =>
        simp only [List.cons_append, List.nil_append, List.cons.injEq] at e
        obtain ⟨rfl, rfl, rfl, rfl, e⟩ := e
        rw [← e] at hc
        rw [tail_nil hc (by omega)]; exact .cut3 48 48
      | [x1, x2, x3, x4, x5], e =>
        simp only [List.cons_append, List.nil_append, List.cons.injEq] at e
        obtain ⟨rfl, rfl, rfl, rfl, rfl, e⟩ := e
        rw [← e] at hc
        rw [tail_nil hc (by omega)]; exact .uni 48 48 a [] .nil
      | x1 :: x2 :: x3 :: x4 :: x5 :: x6 :: T'', e =>
        simp only [List.cons_append, List.nil_append, List.cons.injEq] at e
        obtain ⟨rfl, rfl, rfl, rfl, rfl, rfl, e⟩ := e
        exact .uni 48 48 a _ (.one b _ (by omega) (by omega) (by omega) (preC_units P T'' rest tail e ht hc))
    · rw [h] at e
      match T', e with
      | [], _ => exact preC_high tail ht
      | x :: T'', e =>
        simp only [List.cons_append, List.nil_append, List.cons.injEq] at e
        obtain ⟨rfl, e⟩ := e
        exact .one r _ h2 h3 (by omega) (preC_units P T'' rest tail e ht hc)

theorem textR_raw (r : Nat) : ∀ x ∈ textR true r, x ≠ 96 ∧ x = r := by
  unfold textR
  by_cases h1 : r = 0 ∨ r = 65533 ∨ r = 65279 ∨ (true = true ∧ (r = 96 ∨ r = 13))
  · rw [if_pos h1]; intro x hx; cases hx
  · rw [if_neg h1, if_pos rfl]; intro x hx; rw [List.mem_singleton.1 hx]; simp only [true_and] at h1; exact ⟨by omega, rfl⟩

theorem textR_okR {raw : Bool} {r : Nat} (h : okR r) : ∀ x ∈ textR raw r, okR x := by
  intro x hx
  cases raw with
  | true => rw [(textR_raw r x hx).2]; exact h
  | false =>
    unfold okR
    rcases textR_shape r with e | ⟨e, h2⟩ | ⟨a, b, e, ha, hb⟩ | ⟨e, h2⟩ <;> rw [e] at hx
    · cases hx
    · simp at hx; omega
    · simp at hx; omega
    · rw [List.mem_singleton.1 hx]; exact h
theorem textL_okR {raw : Bool} {s : ByteArray} : ∀ x ∈ textL raw s, okR x := by
  intro x hx
  obtain ⟨r, hr, hx⟩ := List.mem_flatMap.1 hx
  exact textR_okR (runesF_ok s _ _ r hr) x hx

theorem nextS_lt {bs : ByteArray} {s : SS} (h : s.off < bs.size) : (nextS bs s).off = s.off + (Utf8.decode bs s.off).2 ∧ (nextS bs s).width = (Utf8.decode bs s.off).2 := by
  unfold nextS; rw [if_pos h]; exact ⟨rfl, rfl⟩
theorem nextS_ge {bs : ByteArray} {s : SS} (h : ¬ s.off < bs.size) : (nextS bs s).off = bs.size + 1 ∧ (nextS bs s).width = s.width := by
  unfold nextS; rw [if_neg h]; exact ⟨rfl, rfl⟩

/-- The mark of a string. -/
def markN (raw : Bool) : Nat := if raw = true then 96 else 34

/-- A STRING THAT BREAKS OFF: its token ends with an error, and then the text ends. -/
theorem cut_run {kh : List UInt8 → Bool} {kt : List UInt8 → Int} {raw : Bool} {s bs : ByteArray} {n : Nat} (h1 : 1 ≤ n) (h2 : n < (encL (markN raw :: (textL raw s ++ [markN raw]))).length)
    (hb : bs.data.toList = (encL (markN raw :: (textL raw s ++ [markN raw]))).take n) (hsz : bs.size ≤ 274877906944) :
    ∃ t te : TI, Chain kh kt bs (sNew bs) [t] te.s ∧ Tok kh kt bs te.s te.s' te.tk te.lit ∧ te.tk = 1 ∧ t.tk = 17 ∧ 1 ≤ t.s'.errs + te.s'.errs ∧ t.s'.errs + te.s'.errs ≤ 1152921504606846976 := by
  have hm : markN raw < 128 := by cases raw <;> decide
  have hm2 : markN raw = 34 ∨ markN raw = 96 := by cases raw <;> simp [markN]
  -- the runes that are read
  have hbT : bs.data.toList = [] ++ (encL (markN raw :: textL raw s)).take n := by
    have e : markN raw :: (textL raw s ++ [markN raw]) = (markN raw :: textL raw s) ++ [markN raw] := rfl
    rw [e, encL_append, List.length_append] at h2
    have e1 : (encL [markN raw]).length = 1 := by rw [encL_cons, encL_nil, encR1 hm]; rfl
    rw [hb, e, encL_append, List.take_append_of_le_length (by omega)]; rfl
  obtain ⟨R', rest, tail, e1, e2, e3, e4, e5⟩ := runes_pref (bs := bs) (markN raw :: textL raw s) n [] bs.size (by
    intro r hr
    rcases List.mem_cons.1 hr with rfl | hr
    · exact Or.inl (by omega)
    · exact textL_okR r hr) hbT (by simp)
  have hne := e5 (by omega) (fun r hr => by cases hr; exact hm) (by simp)
  obtain ⟨q, T', rfl⟩ := List.exists_cons_of_ne_nil hne
  simp only [List.cons_append, List.cons.injEq] at e2
  obtain ⟨rfl, e2⟩ := e2
  have hD : runesS bs = markN raw :: (T' ++ tail) := e1
  -- the first states
  have hR0 : Rest bs s00 (markN raw :: (T' ++ tail)) := ⟨bs.size, hD.symm, by show _ ≤ 0 + _; omega⟩
  have hs0 := rest_next hR0
  have hs1 := rest_next hs0.2
  have r00 : Roomy bs s00 := ⟨⟨Nat.zero_le _, by simp [s00], Nat.zero_le _, Nat.zero_le _, Nat.zero_le _, by simp [s00], by simp [s00], by simp [s00]⟩, Nat.le_refl _⟩
  have r0 := r00.next
  have r1 := r0.next
  have hnew : sNew bs = nextS bs s00 := by
    unfold sNew
    rw [if_neg]
    rw [hs0.1]
    show ¬ ((markN raw : Nat) : Int) = 65279
    omega
  have hc0 : (nextS bs s00).curr = ((markN raw : Nat) : Int) := hs0.1
  -- its place and width
  have hpos : 0 < bs.size := by
    rw [size_of hb, List.length_take]; omega
  have hg0 : bs.get! 0 = UInt8.ofNat (markN raw) := by
    refine get_of hb ?_
    rw [encL_cons, encR1 hm]
    obtain ⟨m, rfl⟩ : ∃ m, n = m + 1 := ⟨n - 1, by omega⟩
    rfl
  have hd0 : Utf8.decode bs 0 = (markN raw, 1) := by
    have e : (bs.get! 0).toNat = markN raw := by rw [hg0]; rcases hm2 with h | h <;> rw [h] <;> rfl
    rw [decode_ascii bs 0 (by rw [e]; exact hm), e]
  have hs0e : (nextS bs s00).off = 1 ∧ (nextS bs s00).width = 1 := by
    have e := nextS_lt (bs := bs) (s := s00) hpos
    have hd : Utf8.decode bs s00.off = (markN raw, 1) := hd0
    rw [hd] at e
    exact e
  have hw1 : (nextS bs (nextS bs s00)).width + 1 ≤ (nextS bs (nextS bs s00)).off ∧ 1 ≤ (nextS bs (nextS bs s00)).width := by
    by_cases hlt : (nextS bs s00).off < bs.size
    · have hd := decode_range bs _ hlt
      have e := nextS_lt hlt
      omega
    · have e := nextS_ge hlt
      omega
  -- the end's token
  have fin : ∀ (lit : ByteArray) (s' : SS), Tok kh kt bs (nextS bs s00) s' 17 lit → s'.Ok bs.size → s'.curr = -1 → 1 ≤ s'.errs →
      ∃ t te : TI, Chain kh kt bs (sNew bs) [t] te.s ∧ Tok kh kt bs te.s te.s' te.tk te.lit ∧ te.tk = 1 ∧ t.tk = 17 ∧ 1 ≤ t.s'.errs + te.s'.errs ∧ t.s'.errs + te.s'.errs ≤ 1152921504606846976 := by
    intro lit s' ht hok hc he
    have hk2 : (nextS bs s'.clr).Ok bs.size := nextS_ok ⟨hok.off, hok.row, hok.col, hok.width, hok.wo, hok.lo, hok.hi, Nat.zero_le _⟩
    refine ⟨⟨17, lit, nextS bs s00, s'⟩, ⟨1, ⟨#[]⟩, s'.clr, nextS bs s'.clr⟩, ⟨hnew.symm, ht, (by decide : (17 : Int) ≠ 1), rfl⟩, Or.inr (Or.inr (Or.inr (Or.inl ⟨hc, rfl, rfl, rfl⟩))), rfl, rfl, by show 1 ≤ s'.errs + _; omega, ?_⟩
    have a1 := hok.errs
    have a2 := hok.off
    have a3 := hk2.errs
    have a4 := hk2.off
    show s'.errs + (nextS bs s'.clr).errs ≤ _
    omega
  cases raw with
  | false =>
    have hP := preC_units (runesS s) T' rest tail e2 e3 e4
    obtain ⟨k, s', a, b, c⟩ := str_cut hP (nextS bs (nextS bs s00)) hs1.1 hs1.2 r1
    exact fin _ s' (Or.inr (Or.inr (Or.inr (Or.inr (Or.inr (Or.inl ⟨hc0, rfl, hw1.1, hw1.2, rfl, k, a⟩)))))) (a.ok r1.ok) b c
  | true =>
    have hP : ∀ x ∈ T' ++ tail, x ≠ 96 := by
      intro x hx
      rcases List.mem_append.1 hx with h | h
      · have hx2 : x ∈ textL true s := by rw [e2]; exact List.mem_append_left _ h
        obtain ⟨r, _, hx3⟩ := List.mem_flatMap.1 hx2
        exact (textR_raw r x hx3).1
      · have := e3 x h; omega
    obtain ⟨k, s', a, b, c⟩ := raw_cut _ hP (nextS bs (nextS bs s00)) hs1.1 hs1.2 r1
    exact fin _ s' (Or.inr (Or.inr (Or.inr (Or.inr (Or.inr (Or.inr (Or.inl ⟨hc0, rfl, hw1.1, hw1.2, rfl, k, a⟩))))))) (a.ok r1.ok) b c

end Go.Proofs.YtplljfbbipeakaaDoor
