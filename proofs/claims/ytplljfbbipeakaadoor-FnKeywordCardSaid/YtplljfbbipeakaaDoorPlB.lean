/- One token of each class, where it stands in a text of runes. No program in sight. -/
import Derived.Test.YtplljfbbipeakaaDoorPlA
namespace Go.Proofs.YtplljfbbipeakaaDoor
open Go

/-- The bytes of a list of runes, as a string. -/
def BA (l : List Nat) : ByteArray := ⟨(encL l).toArray⟩

/-- What may stand behind a token: white space, or nothing. -/
def stopB (post : List Nat) : Prop := ∀ r, post.head? = some r → r = 32 ∨ r = 9 ∨ r = 10 ∨ r = 13

section
variable {bs : ByteArray} {pre l post : List Nat}

theorem cur_at (j : Nat) {X : List Nat} : (rs (pre ++ X) (pre.length + j)).curr = curOf X[j]? := by
  show curOf (pre ++ X)[pre.length + j]? = _
  rw [List.getElem?_append_right (by omega), Nat.add_sub_cancel_left]
theorem cur_zero {X : List Nat} : (rs (pre ++ X) pre.length).curr = curOf X[0]? := cur_at 0
theorem cur_behind {X : List Nat} (a : List Nat) : (rs (pre ++ (a ++ X)) (pre.length + a.length)).curr = curOf X.head? := by
  rw [cur_at, List.getElem?_append_right (Nat.le_refl _), Nat.sub_self, List.head?_eq_getElem?]

theorem pos_pre {X : List Nat} : posR (pre ++ X) pre.length = (encL pre).length := by unfold posR; rw [List.take_left]
theorem pos_mid : posR (pre ++ (l ++ post)) (pre.length + l.length) = (encL pre).length + (encL l).length := by
  unfold posR
  rw [← List.append_assoc, show pre.length + l.length = (pre ++ l).length from (List.length_append).symm, List.take_left, encL_append, List.length_append]

theorem lit_mid (h : bs.data.toList = encL (pre ++ (l ++ post))) : bs.extract (encL pre).length ((encL pre).length + (encL l).length) = BA l := by
  apply ByteArray.ext
  apply Array.toList_inj.1
  rw [ByteArray.data_extract, Array.toList_extract]
  rw [h, encL_append, encL_append]
  simp [BA, List.extract]

/-- The ends of a token that begins with an ASCII rune and stops at one. -/
theorem ends (h : Txt bs (pre ++ (l ++ post))) (h0 : ∀ r, l.head? = some r → r < 128) (hl : l ≠ []) (hp : ∀ r, post.head? = some r → r < 128) :
    (rs (pre ++ (l ++ post)) pre.length).off = (encL pre).length + 1 ∧ (rs (pre ++ (l ++ post)) (pre.length + l.length)).off = (encL pre).length + (encL l).length + 1 ∧ 1 ≤ (encL l).length := by
  obtain ⟨c, t, rfl⟩ := List.exists_cons_of_ne_nil hl
  have hc : c < 128 := h0 c rfl
  refine ⟨?_, ?_, ?_⟩
  · rw [rs_off_one, pos_pre]
    intro r hr
    rw [List.getElem?_append_right (Nat.le_refl _), Nat.sub_self] at hr
    cases hr
    exact hc
  · rw [rs_off_one, pos_mid]
    intro r hr
    rw [List.getElem?_append_right (by omega), Nat.add_sub_cancel_left, List.getElem?_append_right (Nat.le_refl _), Nat.sub_self] at hr
    exact hp r (by rw [List.head?_eq_getElem?]; exact hr)
  · rw [encL_cons, List.length_append, encR1 hc, List.length_singleton]; omega

theorem stop_ascii (h : stopB post) : ∀ r, post.head? = some r → r < 128 := fun r hr => by have := h r hr; omega
theorem stop_cur (h : stopB post) : curOf post.head? = -1 ∨ curOf post.head? = 32 ∨ curOf post.head? = 9 ∨ curOf post.head? = 10 ∨ curOf post.head? = 13 := by
  cases hp : post.head? with
  | none => exact Or.inl rfl
  | some r =>
    have := h r hp
    simp only [curOf]
    omega

theorem tok_ws {kh : List UInt8 → Bool} {kt : List UInt8 → Int} {c : Nat} (h : Txt bs (pre ++ ([c] ++ post))) (hc : c = 32 ∨ c = 9 ∨ c = 10 ∨ c = 13) :
    Tok kh kt bs (rs (pre ++ ([c] ++ post)) pre.length) (rs (pre ++ ([c] ++ post)) (pre.length + [c].length)) 2 (BA [c]) := by
  refine Or.inl ⟨?_, rfl, ?_, (next_rs h _).symm⟩
  · rw [cur_zero]; exact decide_eq_true (by simp only [List.cons_append, List.getElem?_cons_zero, curOf]; omega)
  · rw [cur_zero]
    simp only [List.cons_append, List.getElem?_cons_zero, curOf, Int.toNat_natCast, BA, encL_cons, encL_nil, List.append_nil]
    rw [encR1 (by omega)]

theorem tok_eof {kh : List UInt8 → Bool} {kt : List UInt8 → Int} {R : List Nat} (h : Txt bs R) : Tok kh kt bs (rs R R.length) (rs R R.length) 1 ⟨#[]⟩ := by
  refine Or.inr (Or.inr (Or.inr (Or.inl ⟨?_, rfl, rfl, ?_⟩)))
  · show curOf R[R.length]? = -1
    rw [List.getElem?_eq_none (Nat.le_refl _)]; rfl
  · rw [next_rs h, rs_end (Nat.le_refl _)]

theorem tok_id {kh : List UInt8 → Bool} {kt : List UInt8 → Int} (h : Txt bs (pre ++ (l ++ post))) (hl : l ≠ []) (h0 : ∀ r, l.head? = some r → isLetB (r : Int) = true) (hi : ∀ r ∈ l, isIdB (r : Int) = true) (hp : stopB post) :
    Tok kh kt bs (rs (pre ++ (l ++ post)) pre.length) (rs (pre ++ (l ++ post)) (pre.length + l.length)) (kwTok kh kt (encL l)) (BA l) := by
  have ha : ∀ r : Nat, isIdB (r : Int) = true → r < 128 := fun r hr => by
    simp only [isIdB, isLetB, isDecB, Bool.or_eq_true, decide_eq_true_eq] at hr
    omega
  have hla : ∀ r, l.head? = some r → r < 128 := fun r hr => ha r (hi r (List.mem_of_head? hr))
  obtain ⟨e1, e2, e3⟩ := ends h hla hl (stop_ascii hp)
  refine Or.inr (Or.inl ⟨?_, by omega, by omega, ?_, rfl, l.length, ?_, ?_, ?_, (iter_rs h _ _).symm⟩)
  · obtain ⟨c, t, rfl⟩ := List.exists_cons_of_ne_nil hl
    rw [cur_zero]; exact h0 c rfl
  · rw [e1, e2, Nat.add_sub_cancel, Nat.add_sub_cancel]
    exact (lit_mid h.bytes).symm
  · intro j hj
    rw [iter_rs h, cur_at, List.getElem?_append_left hj, List.getElem?_eq_getElem hj]
    exact hi _ (List.getElem_mem hj)
  · rw [iter_rs h, cur_behind]
    rcases stop_cur hp with e | e | e | e | e <;> rw [e] <;> rfl
  · rw [iter_rs h, cur_behind]
    rcases stop_cur hp with e | e | e | e | e <;> rw [e] <;> decide

/-! numbers -/
theorem digits_at (h : Txt bs (pre ++ (l ++ post))) (a d b : List Nat) (hX : l ++ post = a ++ (d ++ b)) (hd : ∀ r ∈ d, isDecB (r : Int) = true) (hn : d ≠ []) (hb : isDecB (curOf b.head?) = false) :
    Digits bs (rs (pre ++ (l ++ post)) pre.length) a.length d.length := by
  refine ⟨fun j hj => ?_, ?_, ?_⟩
  · rw [iter_rs h, cur_at, hX, List.getElem?_append_right (by omega), Nat.add_sub_cancel_left, List.getElem?_append_left hj, List.getElem?_eq_getElem hj]
    exact hd _ (List.getElem_mem hj)
  · rw [iter_rs h, cur_at, hX, List.getElem?_append_right (by omega), Nat.add_sub_cancel_left, List.getElem?_append_right (Nat.le_refl _), Nat.sub_self, ← List.head?_eq_getElem?]
    exact hb
  · exact List.length_pos_iff.2 hn

/-- The four shapes of a number. -/
inductive NumC : List Nat → Prop
  | int (d1 : List Nat) : d1 ≠ [] → (∀ r ∈ d1, isDecB (r : Int) = true) → NumC d1
  | frac (d1 d2 : List Nat) : d1 ≠ [] → (∀ r ∈ d1, isDecB (r : Int) = true) → d2 ≠ [] → (∀ r ∈ d2, isDecB (r : Int) = true) → NumC (d1 ++ 46 :: d2)
  | exp (d1 d3 : List Nat) : d1 ≠ [] → (∀ r ∈ d1, isDecB (r : Int) = true) → d3 ≠ [] → (∀ r ∈ d3, isDecB (r : Int) = true) → NumC (d1 ++ 101 :: 45 :: d3)
  | both (d1 d2 d3 : List Nat) : d1 ≠ [] → (∀ r ∈ d1, isDecB (r : Int) = true) → d2 ≠ [] → (∀ r ∈ d2, isDecB (r : Int) = true) → d3 ≠ [] → (∀ r ∈ d3, isDecB (r : Int) = true) →
      NumC (d1 ++ 46 :: (d2 ++ 69 :: 43 :: d3))

theorem NumC.head {l : List Nat} (h : NumC l) : l ≠ [] ∧ ∀ r, l.head? = some r → isDecB (r : Int) = true := by
  have go : ∀ d1 t : List Nat, d1 ≠ [] → (∀ r ∈ d1, isDecB (r : Int) = true) → d1 ++ t ≠ [] ∧ ∀ r, (d1 ++ t).head? = some r → isDecB (r : Int) = true := by
    intro d1 t h1 h2
    obtain ⟨c, u, rfl⟩ := List.exists_cons_of_ne_nil h1
    exact ⟨by simp, fun r hr => by simp at hr; subst hr; exact h2 _ (.head _)⟩
  cases h with
  | int _ h1 h2 => have := go l [] h1 h2; simpa using this
  | frac d1 d2 h1 h2 => exact go _ _ h1 h2
  | exp d1 d3 h1 h2 => exact go _ _ h1 h2
  | both d1 d2 d3 h1 h2 => exact go _ _ h1 h2

theorem num_to (h : Txt bs (pre ++ (l ++ post))) (hN : NumC l) (hp : stopB post) : NumTo bs (rs (pre ++ (l ++ post)) pre.length) (rs (pre ++ (l ++ post)) (pre.length + l.length)) := by
  have hs := stop_cur hp
  have hsd : isDecB (curOf post.head?) = false := by rcases hs with e | e | e | e | e <;> rw [e] <;> rfl
  have hs46 : curOf post.head? ≠ 46 := by omega
  have hsE : curOf post.head? ≠ 69 ∧ curOf post.head? ≠ 101 := by omega
  have cb : ∀ m a b, l ++ post = a ++ b → m = a.length → (iterS bs m (rs (pre ++ (l ++ post)) pre.length)).curr = curOf b.head? := fun m a b hX e => by
    rw [iter_rs h, e, hX, cur_behind]
  have ce : ∀ n, n = l.length → rs (pre ++ (l ++ post)) (pre.length + l.length) = iterS bs n (rs (pre ++ (l ++ post)) pre.length) := fun n e => by rw [e, iter_rs h]
  cases hN with
  | int _ h1 h2 =>
    refine Or.inl ⟨l.length, digits_at h [] l post rfl h2 h1 hsd, ?_, ?_, ce _ rfl⟩
    · rw [cb _ l post rfl rfl]; exact hs46
    · rw [cb _ l post rfl rfl]; exact hsE
  | frac d1 d2 h1 h2 h3 h4 =>
    refine Or.inr (Or.inl ⟨d1.length, d2.length, digits_at h [] d1 (46 :: d2 ++ post) (by simp) h2 h1 rfl, ?_, ?_, ?_, ce _ (by simp; omega)⟩)
    · rw [cb _ d1 (46 :: d2 ++ post) (by simp) rfl]; rfl
    · have := digits_at h (d1 ++ [46]) d2 post (by simp) h4 h3 hsd
      simpa using this
    · rw [cb _ (d1 ++ 46 :: d2) post rfl (by simp; omega)]; exact hsE
  | exp d1 d3 h1 h2 h3 h4 =>
    refine Or.inr (Or.inr (Or.inl ⟨d1.length, d3.length, digits_at h [] d1 (101 :: 45 :: d3 ++ post) (by simp) h2 h1 rfl, ?_, ?_, ?_, ?_, ce _ (by simp; omega)⟩))
    · rw [cb _ d1 (101 :: 45 :: d3 ++ post) (by simp) rfl]; show (101 : Int) ≠ 46; decide
    · rw [cb _ d1 (101 :: 45 :: d3 ++ post) (by simp) rfl]; exact Or.inr rfl
    · rw [cb _ (d1 ++ [101]) (45 :: d3 ++ post) (by simp) (by simp)]; exact Or.inr rfl
    · have := digits_at h (d1 ++ [101, 45]) d3 post (by simp) h4 h3 hsd
      simpa using this
  | both d1 d2 d3 h1 h2 h3 h4 h5 h6 =>
    refine Or.inr (Or.inr (Or.inr ⟨d1.length, d2.length, d3.length, digits_at h [] d1 (46 :: (d2 ++ 69 :: 43 :: d3) ++ post) (by simp) h2 h1 rfl, ?_, ?_, ?_, ?_, ?_, ce _ (by simp; omega)⟩))
    · rw [cb _ d1 (46 :: (d2 ++ 69 :: 43 :: d3) ++ post) (by simp) rfl]; rfl
    · have := digits_at h (d1 ++ [46]) d2 (69 :: 43 :: d3 ++ post) (by simp) h4 h3 rfl
      simpa using this
    · rw [cb _ (d1 ++ 46 :: d2) (69 :: 43 :: d3 ++ post) (by simp) (by simp; omega)]; exact Or.inl rfl
    · rw [cb _ (d1 ++ 46 :: d2 ++ [69]) (43 :: d3 ++ post) (by simp) (by simp; omega)]; exact Or.inl rfl
    · have := digits_at h (d1 ++ 46 :: d2 ++ [69, 43]) d3 post (by simp) h6 h5 hsd
      have e : (d1 ++ 46 :: d2 ++ [69, 43]).length = d1.length + 1 + d2.length + 2 := by simp; omega
      rw [e] at this
      exact this

theorem tok_num {kh : List UInt8 → Bool} {kt : List UInt8 → Int} (h : Txt bs (pre ++ (l ++ post))) (hN : NumC l) (hp : stopB post) :
    Tok kh kt bs (rs (pre ++ (l ++ post)) pre.length) (rs (pre ++ (l ++ post)) (pre.length + l.length)) 16 (BA l) := by
  obtain ⟨hl, h0⟩ := hN.head
  have hla : ∀ r, l.head? = some r → r < 128 := fun r hr => by
    have := h0 r hr
    simp only [isDecB, decide_eq_true_eq] at this
    omega
  obtain ⟨e1, e2, e3⟩ := ends h hla hl (stop_ascii hp)
  refine Or.inr (Or.inr (Or.inl ⟨?_, by omega, by omega, ?_, rfl, num_to h hN hp, ?_⟩))
  · obtain ⟨c, t, rfl⟩ := List.exists_cons_of_ne_nil hl
    rw [cur_zero]; exact h0 c rfl
  · rw [e1, e2, Nat.add_sub_cancel, Nat.add_sub_cancel]
    exact (lit_mid h.bytes).symm
  · rw [cur_behind]
    rcases stop_cur hp with e | e | e | e | e <;> rw [e] <;> rfl

/-! strings -/
inductive StrC : List Nat → Prop
  | nil : StrC []
  | one (r : Nat) (l : List Nat) : r ≠ 34 → r ≠ 92 → r ≠ 10 → StrC l → StrC (r :: l)
  | esc (e : Nat) (l : List Nat) : isEscB (e : Int) = true → StrC l → StrC (92 :: e :: l)
  | uni (a b c : Nat) (l : List Nat) : StrC l → StrC (92 :: 117 :: a :: b :: c :: l)

theorem str_to {R : List Nat} (h : Txt bs R) (post : List Nat) : ∀ {l : List Nat}, StrC l → ∀ pre, R = pre ++ (l ++ 34 :: post) → ∃ n, StrTo bs n (rs R pre.length) (rs R (pre.length + l.length + 1)) := by
  intro l hl
  induction hl with
  | nil =>
    intro pre e
    refine ⟨0, Or.inr ⟨?_, ?_⟩⟩
    · rw [e, cur_zero]; rfl
    · rw [next_rs h]; rfl
  | one r l h1 h2 h3 _ ih =>
    intro pre e
    obtain ⟨n, hn⟩ := ih (pre ++ [r]) (by rw [e]; simp)
    have hc : (rs R pre.length).curr = (r : Int) := by rw [e, cur_zero]; rfl
    refine ⟨n + 1, rs R (pre.length + 1), ⟨by omega, by omega, by omega, Or.inl ⟨by omega, (next_rs h _).symm⟩⟩, ?_⟩
    have e1 : (pre ++ [r]).length = pre.length + 1 := by simp
    have e2 : (pre ++ [r]).length + l.length + 1 = pre.length + (r :: l).length + 1 := by simp; omega
    rw [e2, e1] at hn
    exact hn
  | esc x l h1 _ ih =>
    intro pre e
    obtain ⟨n, hn⟩ := ih (pre ++ [92, x]) (by rw [e]; simp)
    have hc : (rs R pre.length).curr = (92 : Int) := by rw [e, cur_zero]; rfl
    have hc1 : (nextS bs (rs R pre.length)).curr = (x : Int) := by rw [next_rs h, e, cur_at]; rfl
    refine ⟨n + 1, rs R (pre.length + 2), ⟨by omega, by omega, by omega, Or.inr (Or.inl ⟨hc, by rw [hc1]; exact h1, (iter_rs h _ _).symm⟩)⟩, ?_⟩
    have e1 : (pre ++ [92, x]).length = pre.length + 2 := by simp
    have e2 : (pre ++ [92, x]).length + l.length + 1 = pre.length + (92 :: x :: l).length + 1 := by simp; omega
    rw [e2, e1] at hn
    exact hn
  | uni a b c l _ ih =>
    intro pre e
    obtain ⟨n, hn⟩ := ih (pre ++ [92, 117, a, b, c]) (by rw [e]; simp)
    have hc : (rs R pre.length).curr = (92 : Int) := by rw [e, cur_zero]; rfl
    have hc1 : (nextS bs (rs R pre.length)).curr = (117 : Int) := by rw [next_rs h, e, cur_at]; rfl
    refine ⟨n + 1, rs R (pre.length + 5), ⟨by omega, by omega, by omega, Or.inr (Or.inr (Or.inl ⟨hc, hc1, (iter_rs h _ _).symm⟩))⟩, ?_⟩
    have e1 : (pre ++ [92, 117, a, b, c]).length = pre.length + 5 := by simp
    have e2 : (pre ++ [92, 117, a, b, c]).length + l.length + 1 = pre.length + (92 :: 117 :: a :: b :: c :: l).length + 1 := by simp; omega
    rw [e2, e1] at hn
    exact hn

theorem raw_to {R : List Nat} (h : Txt bs R) (post : List Nat) : ∀ (l : List Nat), (∀ r ∈ l, r ≠ 96) → ∀ pre, R = pre ++ (l ++ 96 :: post) → ∃ n, RawTo bs n (rs R pre.length) (rs R (pre.length + l.length + 1))
  | [], _, pre, e => ⟨0, Or.inr ⟨by rw [e, cur_zero]; rfl, by rw [next_rs h]; rfl⟩⟩
  | r :: l, hl, pre, e => by
    obtain ⟨n, hn⟩ := raw_to h post l (fun x hx => hl x (.tail _ hx)) (pre ++ [r]) (by rw [e]; simp)
    have hc : (rs R pre.length).curr = (r : Int) := by rw [e, cur_zero]; rfl
    have hr := hl r (.head _)
    refine ⟨n + 1, ⟨by omega, by omega⟩, ?_⟩
    have e1 : (pre ++ [r]).length = pre.length + 1 := by simp
    have e2 : (pre ++ [r]).length + l.length + 1 = pre.length + (r :: l).length + 1 := by simp; omega
    rw [e2, e1] at hn
    rw [next_rs h]
    exact hn

/-- The place of the state behind a quote, a backquote, a '#'. -/
theorem behind_one {c d : Nat} {t : List Nat} (h : Txt bs (pre ++ (c :: d :: t))) (hc : c < 128) :
    (nextS bs (rs (pre ++ (c :: d :: t)) pre.length)).off - ((nextS bs (rs (pre ++ (c :: d :: t)) pre.length)).width + 1) = (encL pre).length ∧
    (nextS bs (rs (pre ++ (c :: d :: t)) pre.length)).width + 1 ≤ (nextS bs (rs (pre ++ (c :: d :: t)) pre.length)).off ∧ 1 ≤ (nextS bs (rs (pre ++ (c :: d :: t)) pre.length)).width := by
  have hlt : pre.length + 1 < (pre ++ (c :: d :: t)).length := by simp only [List.length_append, List.length_cons]; omega
  have hd := (encR_len (h.ok _ (List.getElem_mem hlt)).1).1
  rw [next_rs h, rs_off hlt, rs_width hlt]
  have e : posR (pre ++ (c :: d :: t)) (pre.length + 1) = (encL pre).length + 1 := by
    have := pos_mid (pre := pre) (l := [c]) (post := d :: t)
    simp only [List.length_singleton, List.cons_append, List.nil_append] at this
    rw [this, encL_cons, encL_nil, List.append_nil, encR1 hc]; rfl
  rw [e]
  omega

theorem tok_str {kh : List UInt8 → Bool} {kt : List UInt8 → Int} {x : List Nat} (h : Txt bs (pre ++ ((34 :: (x ++ [34])) ++ post))) (hx : StrC x) (hp : stopB post) :
    Tok kh kt bs (rs (pre ++ ((34 :: (x ++ [34])) ++ post)) pre.length) (rs (pre ++ ((34 :: (x ++ [34])) ++ post)) (pre.length + (34 :: (x ++ [34])).length)) 17 (BA (34 :: (x ++ [34]))) := by
  obtain ⟨e1, e2, e3⟩ := ends h (fun r hr => by cases hr; decide) (by simp) (stop_ascii hp)
  obtain ⟨n, hn⟩ := str_to h post hx (pre ++ [34]) (by simp)
  have hb : (nextS bs (rs (pre ++ ((34 :: (x ++ [34])) ++ post)) pre.length)).off - ((nextS bs (rs (pre ++ ((34 :: (x ++ [34])) ++ post)) pre.length)).width + 1) = (encL pre).length ∧
    (nextS bs (rs (pre ++ ((34 :: (x ++ [34])) ++ post)) pre.length)).width + 1 ≤ (nextS bs (rs (pre ++ ((34 :: (x ++ [34])) ++ post)) pre.length)).off ∧ 1 ≤ (nextS bs (rs (pre ++ ((34 :: (x ++ [34])) ++ post)) pre.length)).width := by
    cases x with
    | nil => exact behind_one h (by decide)
    | cons d t => exact behind_one h (by decide)
  refine Or.inr (Or.inr (Or.inr (Or.inr (Or.inr (Or.inl ⟨?_, rfl, hb.2.1, hb.2.2, ?_, n, ?_⟩)))))
  · rw [cur_zero]; rfl
  · rw [hb.1, e2, Nat.add_sub_cancel]
    exact (lit_mid h.bytes).symm
  · rw [next_rs h]
    have q1 : (pre ++ [34]).length = pre.length + 1 := by simp
    have q2 : (pre ++ [34]).length + x.length + 1 = pre.length + (34 :: (x ++ [34])).length := by simp; omega
    rw [q2, q1] at hn
    exact hn

theorem tok_raw {kh : List UInt8 → Bool} {kt : List UInt8 → Int} {x : List Nat} (h : Txt bs (pre ++ ((96 :: (x ++ [96])) ++ post))) (hx : ∀ r ∈ x, r ≠ 96) (hp : stopB post) :
    Tok kh kt bs (rs (pre ++ ((96 :: (x ++ [96])) ++ post)) pre.length) (rs (pre ++ ((96 :: (x ++ [96])) ++ post)) (pre.length + (96 :: (x ++ [96])).length)) 17 (BA (96 :: (x ++ [96]))) := by
  obtain ⟨e1, e2, e3⟩ := ends h (fun r hr => by cases hr; decide) (by simp) (stop_ascii hp)
  obtain ⟨n, hn⟩ := raw_to h post x hx (pre ++ [96]) (by simp)
  have hb : (nextS bs (rs (pre ++ ((96 :: (x ++ [96])) ++ post)) pre.length)).off - ((nextS bs (rs (pre ++ ((96 :: (x ++ [96])) ++ post)) pre.length)).width + 1) = (encL pre).length ∧
    (nextS bs (rs (pre ++ ((96 :: (x ++ [96])) ++ post)) pre.length)).width + 1 ≤ (nextS bs (rs (pre ++ ((96 :: (x ++ [96])) ++ post)) pre.length)).off ∧ 1 ≤ (nextS bs (rs (pre ++ ((96 :: (x ++ [96])) ++ post)) pre.length)).width := by
    cases x with
    | nil => exact behind_one h (by decide)
    | cons d t => exact behind_one h (by decide)
  refine Or.inr (Or.inr (Or.inr (Or.inr (Or.inr (Or.inr (Or.inl ⟨?_, rfl, hb.2.1, hb.2.2, ?_, n, ?_⟩))))))
  · rw [cur_zero]; rfl
  · rw [hb.1, e2, Nat.add_sub_cancel]
    exact (lit_mid h.bytes).symm
  · rw [next_rs h]
    have q1 : (pre ++ [96]).length = pre.length + 1 := by simp
    have q2 : (pre ++ [96]).length + x.length + 1 = pre.length + (96 :: (x ++ [96])).length := by simp; omega
    rw [q2, q1] at hn
    exact hn

/-- No byte of a rune other than 13 is 13. -/
theorem encR_ne13 {r : Nat} (h : okR r) (hr : r ≠ 13) : ∀ b ∈ encR r, b.toNat ≠ 13 := by
  unfold okR at h
  by_cases c1 : r < 128
  · rw [encR1 c1]; intro b hb; simp at hb; subst hb; simp; omega
  by_cases c2 : r < 2048
  · rw [encR2 c1 c2]; intro b hb; simp at hb; rcases hb with rfl | rfl <;> simp <;> omega
  by_cases c3 : r < 65536
  · rw [encR3 c2 c3]; intro b hb; simp at hb; rcases hb with rfl | rfl | rfl <;> simp <;> omega
  · rw [encR4 c3]; intro b hb; simp at hb; rcases hb with rfl | rfl | rfl | rfl <;> simp <;> omega

theorem tok_comm {kh : List UInt8 → Bool} {kt : List UInt8 → Int} {x t : List Nat} (h : Txt bs (pre ++ ((35 :: x) ++ 10 :: t))) (hx : ∀ r ∈ x, r ≠ 10 ∧ r ≠ 13) :
    Tok kh kt bs (rs (pre ++ ((35 :: x) ++ 10 :: t)) pre.length) (rs (pre ++ ((35 :: x) ++ 10 :: t)) (pre.length + (35 :: x).length)) 4 (BA (35 :: x)) := by
  obtain ⟨e1, e2, e3⟩ := ends h (fun r hr => by cases hr; decide) (by simp) (fun r hr => by cases hr; decide)
  have hb : (nextS bs (rs (pre ++ ((35 :: x) ++ 10 :: t)) pre.length)).off - ((nextS bs (rs (pre ++ ((35 :: x) ++ 10 :: t)) pre.length)).width + 1) = (encL pre).length ∧
    (nextS bs (rs (pre ++ ((35 :: x) ++ 10 :: t)) pre.length)).width + 1 ≤ (nextS bs (rs (pre ++ ((35 :: x) ++ 10 :: t)) pre.length)).off ∧ 1 ≤ (nextS bs (rs (pre ++ ((35 :: x) ++ 10 :: t)) pre.length)).width := by
    cases x with
    | nil => exact behind_one h (by decide)
    | cons d t => exact behind_one h (by decide)
  have hcur : ∀ j, (iterS bs j (nextS bs (rs (pre ++ ((35 :: x) ++ 10 :: t)) pre.length))).curr = curOf (x ++ 10 :: t)[j]? := fun j => by
    rw [next_rs h, iter_rs h, Nat.add_assoc, cur_at, Nat.add_comm 1 j]; rfl
  have hto : iterS bs x.length (nextS bs (rs (pre ++ ((35 :: x) ++ 10 :: t)) pre.length)) = rs (pre ++ ((35 :: x) ++ 10 :: t)) (pre.length + (35 :: x).length) := by
    rw [next_rs h, iter_rs h]; congr 1; simp; omega
  refine Or.inr (Or.inr (Or.inr (Or.inr (Or.inl ⟨?_, rfl, hb.2.1, by omega, ?_, x.length, ?_, ?_, ?_, ?_, hto.symm⟩))))
  · rw [cur_zero]; rfl
  · rw [hb.1, e2, Nat.add_sub_cancel]
    exact (lit_mid h.bytes).symm
  · intro j hj
    rw [hcur, List.getElem?_append_left hj, List.getElem?_eq_getElem hj]
    have := hx _ (List.getElem_mem hj)
    simp only [curOf]
    omega
  · rw [hcur, List.getElem?_append_right (Nat.le_refl _), Nat.sub_self]
    exact Or.inl rfl
  · rw [hto, e2]
    have hlt : (encL pre).length + (encL (35 :: x)).length + 1 - 2 = (encL pre).length + ((encL (35 :: x)).length - 1) := by omega
    have hlt2 : (encL (35 :: x)).length - 1 < (encL (35 :: x)).length := by omega
    have hgt : (encL (pre ++ ((35 :: x) ++ 10 :: t)))[(encL pre).length + ((encL (35 :: x)).length - 1)]? = some (encL (35 :: x))[(encL (35 :: x)).length - 1] := by
      rw [encL_append, List.getElem?_append_right (by omega), Nat.add_sub_cancel_left, encL_append, List.getElem?_append_left hlt2, List.getElem?_eq_getElem hlt2]
    rw [hlt, get_of h.bytes hgt]
    have hm : (encL (35 :: x))[(encL (35 :: x)).length - 1] ∈ encL (35 :: x) := List.getElem_mem hlt2
    obtain ⟨r, hr, hbr⟩ := List.mem_flatMap.1 hm
    refine encR_ne13 (h.ok r (by simp only [List.mem_append]; exact Or.inr (Or.inl hr))).1 ?_ _ hbr
    rcases List.mem_cons.1 hr with e | hr
    · omega
    · exact (hx r hr).2
  · rw [hb.1, hto, e2]; omega

/-! signs -/
theorem tok_s1 {kh : List UInt8 → Bool} {kt : List UInt8 → Int} {c : Nat} {k : Int} (h : Txt bs (pre ++ ([c] ++ post))) (hc : ((c : Int), k) ∈ signs1) :
    Tok kh kt bs (rs (pre ++ ([c] ++ post)) pre.length) (rs (pre ++ ([c] ++ post)) (pre.length + [c].length)) k ⟨#[]⟩ := by
  refine Or.inr (Or.inr (Or.inr (Or.inr (Or.inr (Or.inr (Or.inr (Or.inl ⟨?_, rfl, (next_rs h _).symm⟩)))))))
  rw [cur_zero]; exact hc
theorem tok_s1e {kh : List UInt8 → Bool} {kt : List UInt8 → Int} {c : Nat} {k : Int} (h : Txt bs (pre ++ ([c] ++ post))) (hc : ((c : Int), k) ∈ signs1e) (hp : stopB post) :
    Tok kh kt bs (rs (pre ++ ([c] ++ post)) pre.length) (rs (pre ++ ([c] ++ post)) (pre.length + [c].length)) k ⟨#[]⟩ := by
  refine Or.inr (Or.inr (Or.inr (Or.inr (Or.inr (Or.inr (Or.inr (Or.inr (Or.inl ⟨?_, ?_, rfl, (next_rs h _).symm⟩))))))))
  · rw [cur_zero]; exact hc
  · have := cur_behind (pre := pre) (X := post) [c]
    rw [next_rs h]
    simp only [List.length_singleton] at this
    rw [this]
    have := stop_cur hp
    omega
theorem tok_s2 {kh : List UInt8 → Bool} {kt : List UInt8 → Int} {c : Nat} {k : Int} (h : Txt bs (pre ++ ([c, 61] ++ post))) (hc : ((c : Int), k) ∈ signs2) :
    Tok kh kt bs (rs (pre ++ ([c, 61] ++ post)) pre.length) (rs (pre ++ ([c, 61] ++ post)) (pre.length + [c, 61].length)) k ⟨#[]⟩ := by
  refine Or.inr (Or.inr (Or.inr (Or.inr (Or.inr (Or.inr (Or.inr (Or.inr (Or.inr ⟨?_, ?_, rfl, (iter_rs h _ _).symm⟩))))))))
  · rw [cur_zero]; exact hc
  · rw [next_rs h, cur_at]; rfl

end

end Go.Proofs.YtplljfbbipeakaaDoor
