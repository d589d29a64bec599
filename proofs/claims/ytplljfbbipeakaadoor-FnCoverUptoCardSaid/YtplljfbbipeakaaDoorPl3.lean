/- What spec.Lay writes, as segments of a text; the tokens of segments, as plain records. No walk in sight. -/
import Derived.Test.YtplljfbbipeakaaDoorLayA
import Derived.Test.YtplljfbbipeakaaDoorFnK
import Derived.Test.YtplljfbbipeakaaDoorPl2
namespace Go.Proofs.YtplljfbbipeakaaDoor
open Go Go.RowKit

/-! tokens of segments, as plain records -/
structure TV where
  tk : Int
  lit : ByteArray
  off : Nat
  stop : Nat
  row : Nat
  col : Nat
def TV.cells (t : TV) : List Value := [.int .i64 t.tk, .string t.lit, .int .i64 t.off, .int .i64 t.stop, .int .i64 t.row, .int .i64 t.col]

def seqV : List Nat → List Seg → List TV
  | _, [] => []
  | pre, g :: gs => ⟨g.tk, g.lit, (encL pre).length, (encL (pre ++ g.body)).length, 1 + (pre ++ g.body.take 1).count 10, colOf (pre ++ g.body.take 1)⟩ :: seqV (pre ++ g.body) gs
def endV (R : List Nat) : TV := ⟨1, ⟨#[]⟩, (encL R).length, (encL R).length, 1 + R.count 10, colOf R⟩
def keepV (white : Bool) (t : TV) : Bool := white || decide (t.tk ≠ 2)

theorem seqV_append : ∀ (a b : List Seg) (pre : List Nat), seqV pre (a ++ b) = seqV pre a ++ seqV (pre ++ segsR a) b
  | [], b, pre => by simp [seqV, segsR]
  | g :: a, b, pre => by
    show _ :: seqV (pre ++ g.body) (a ++ b) = _
    rw [seqV_append a b, segsR_cons, List.append_assoc]; rfl

theorem seqV_length : ∀ (a : List Seg) (pre : List Nat), (seqV pre a).length = a.length
  | [], _ => rfl
  | g :: a, pre => by show (seqV _ a).length + 1 = _; rw [seqV_length a]; rfl

def TI.tv (t : TI) : TV := ⟨t.tk, t.lit, t.start.toNat, t.stop.toNat, t.s.row, t.s.col⟩

theorem toks_tv {R : List Nat} (hl : lastA R) (hne : R ≠ []) : ∀ (gs : List Seg) (pre : List Nat), R = pre ++ segsR gs → (∀ g ∈ gs, 1 ≤ g.body.length) →
    (toks R pre.length gs).map TI.tv = seqV pre gs ∧ ∀ t ∈ toks R pre.length gs, t.cells = t.tv.cells
  | [], _, _, _ => ⟨rfl, fun t ht => by cases ht⟩
  | g :: gs, pre, e, hb => by
    have ih := toks_tv hl hne gs (pre ++ g.body) (by rw [e, segsR_cons, List.append_assoc]) (fun x hx => hb x (.tail _ hx))
    rw [List.length_append] at ih
    have hg := hb g (.head _)
    have hp : posR R pre.length = (encL pre).length := by unfold posR; rw [e, List.take_left]
    have hp2 : posR R (pre.length + g.body.length) = (encL (pre ++ g.body)).length := by
      unfold posR; rw [e, segsR_cons, ← List.append_assoc, ← List.length_append, List.take_left]
    have ht : R.take (pre.length + 1) = pre ++ g.body.take 1 := by
      rw [e, segsR_cons, List.take_append, List.take_of_length_le (by omega), Nat.add_sub_cancel_left, List.take_append_of_le_length hg]
    have h1 : (⟨g.tk, g.lit, rs R pre.length, rs R (pre.length + g.body.length)⟩ : TI).start = ((encL pre).length : Int) := by rw [← hp]; exact rs_place hl hne _
    have h2 : (⟨g.tk, g.lit, rs R pre.length, rs R (pre.length + g.body.length)⟩ : TI).stop = ((encL (pre ++ g.body)).length : Int) := by rw [← hp2]; exact rs_place hl hne _
    have hrow : (rs R pre.length).row = 1 + (pre ++ g.body.take 1).count 10 := by show 1 + (R.take (pre.length + 1)).count 10 = _; rw [ht]
    have hcol : (rs R pre.length).col = colOf (pre ++ g.body.take 1) := by show colOf (R.take (pre.length + 1)) = _; rw [ht]
    have htv : (⟨g.tk, g.lit, rs R pre.length, rs R (pre.length + g.body.length)⟩ : TI).tv = ⟨g.tk, g.lit, (encL pre).length, (encL (pre ++ g.body)).length, 1 + (pre ++ g.body.take 1).count 10, colOf (pre ++ g.body.take 1)⟩ := by
      unfold TI.tv; rw [h1, h2, hrow, hcol]; rfl
    refine ⟨?_, ?_⟩
    · show TI.tv _ :: List.map TI.tv (toks R (pre.length + g.body.length) gs) = _ :: seqV (pre ++ g.body) gs
      rw [ih.1, htv]
    · intro t h
      rcases List.mem_cons.1 h with rfl | h
      · rw [htv]; unfold TI.cells TV.cells; rw [h1, h2, hrow, hcol]
      · exact ih.2 t h

theorem endT_tv {R : List Nat} (hl : lastA R) (hne : R ≠ []) : (endT R).tv = endV R ∧ (endT R).cells = (endT R).tv.cells := by
  have h1 : (endT R).start = ((encL R).length : Int) := by rw [← posR_all (R := R) (k := R.length) (Nat.le_refl _)]; exact rs_place hl hne _
  have h2 : (endT R).stop = ((encL R).length : Int) := h1
  have ht : R.take (R.length + 1) = R := List.take_of_length_le (by omega)
  have hrow : (endT R).s.row = 1 + R.count 10 := by show 1 + (R.take (R.length + 1)).count 10 = _; rw [ht]
  have hcol : (endT R).s.col = colOf R := by show colOf (R.take (R.length + 1)) = _; rw [ht]
  have htv : (endT R).tv = endV R := by unfold TI.tv; rw [h1, h2, hrow, hcol]; rfl
  refine ⟨htv, ?_⟩
  rw [htv]; unfold TI.cells TV.cells; rw [h1, h2, hrow, hcol]; rfl

theorem tv_cells : ∀ {ts : List TI}, (∀ t ∈ ts, t.cells = t.tv.cells) → ts.flatMap TI.cells = (ts.map TI.tv).flatMap TV.cells
  | [], _ => rfl
  | t :: ts, h => by
    rw [List.flatMap_cons, List.map_cons, List.flatMap_cons, tv_cells (fun x hx => h x (.tail _ hx)), h t (.head _)]

/-- THE TOKENS OF A TEXT OF SEGMENTS. -/
def gotV (white : Bool) (gs : List Seg) : List TV := (seqV [] gs).filter (keepV white) ++ [endV (segsR gs)]

theorem run_cells {gs : List Seg} (hl : lastA (segsR gs)) (hne : segsR gs ≠ []) (hb : ∀ g ∈ gs, 1 ≤ g.body.length) (white : Bool) :
    (kept white (runT gs)).length = (gotV white gs).length ∧ cellsL (kept white (runT gs)) = (gotV white gs).flatMap TV.cells := by
  obtain ⟨h1, h2⟩ := toks_tv hl hne gs [] rfl hb
  obtain ⟨h3, h4⟩ := endT_tv hl hne
  have hc : ∀ t ∈ runT gs, t.cells = t.tv.cells := by
    intro t ht
    rcases List.mem_append.1 ht with h | h
    · exact h2 t h
    · rw [List.mem_singleton.1 h]; exact h4
  have hm : (runT gs).map TI.tv = seqV [] gs ++ [endV (segsR gs)] := by
    show List.map _ (_ ++ [_]) = _
    rw [List.map_append, List.map_singleton, h3]
    exact congrArg (· ++ [endV (segsR gs)]) h1
  have hk : (kept white (runT gs)).map TI.tv = gotV white gs := by
    have e : kept white (runT gs) = (runT gs).filter (keepV white ∘ TI.tv) := rfl
    rw [e, ← List.filter_map, hm, List.filter_append]
    unfold gotV
    congr 1
    cases white <;> rfl
  refine ⟨by rw [← hk, List.length_map], ?_⟩
  rw [← hk]
  exact tv_cells (fun t ht => hc t ((List.mem_filter.1 ht).1))

/-! what a segment's runes are -/
theorem isId_ascii {r : Nat} (h : isIdB (r : Int) = true) : r < 128 ∧ r ≠ 0 ∧ r ≠ 10 := by
  simp only [isIdB, isLetB, isDecB, Bool.or_eq_true, decide_eq_true_eq] at h; omega
theorem isDec_ascii {r : Nat} (h : isDecB (r : Int) = true) : r < 128 ∧ r ≠ 0 ∧ r ≠ 10 := by
  simp only [isDecB, decide_eq_true_eq] at h; omega
theorem NumC.ascii {l : List Nat} (h : NumC l) : ∀ r ∈ l, r < 128 ∧ r ≠ 0 ∧ r ≠ 10 := by
  intro r hr
  cases h with
  | int _ _ h2 => exact isDec_ascii (h2 r hr)
  | frac d1 d2 _ h2 _ h4 =>
    rcases List.mem_append.1 hr with hr | hr
    · exact isDec_ascii (h2 r hr)
    · rcases List.mem_cons.1 hr with rfl | hr
      · decide
      · exact isDec_ascii (h4 r hr)
  | exp d1 d3 _ h2 _ h4 =>
    rcases List.mem_append.1 hr with hr | hr
    · exact isDec_ascii (h2 r hr)
    · rcases List.mem_cons.1 hr with rfl | hr
      · decide
      · rcases List.mem_cons.1 hr with rfl | hr
        · decide
        · exact isDec_ascii (h4 r hr)
  | both d1 d2 d3 _ h2 _ h4 _ h6 =>
    rcases List.mem_append.1 hr with hr | hr
    · exact isDec_ascii (h2 r hr)
    · rcases List.mem_cons.1 hr with rfl | hr
      · decide
      · rcases List.mem_append.1 hr with hr | hr
        · exact isDec_ascii (h4 r hr)
        · rcases List.mem_cons.1 hr with rfl | hr
          · decide
          · rcases List.mem_cons.1 hr with rfl | hr
            · decide
            · exact isDec_ascii (h6 r hr)
theorem sign_ascii : (∀ p ∈ signs1, 33 ≤ p.1 ∧ p.1 < 128) ∧ (∀ p ∈ signs1e, 33 ≤ p.1 ∧ p.1 < 128) ∧ (∀ p ∈ signs2, 33 ≤ p.1 ∧ p.1 < 128) := by decide

/-- A segment begins with a rune of one byte, and if it is not white space then with no line end; it ends with a rune of one byte, if it is no comment. -/
theorem segOk_ends {kh : List UInt8 → Bool} {kt : List UInt8 → Int} {l post : List Nat} {k : Int} {lit : ByteArray} (h : SegOk kh kt l k lit post) :
    (∃ c t, l = c :: t ∧ c < 128 ∧ (k ≠ 2 → c ≠ 10)) ∧ (k ≠ 4 → ∀ r, l.getLast? = some r → r < 128) := by
  cases h with
  | ws c _ h => exact ⟨⟨c, [], rfl, by omega, fun h => absurd rfl h⟩, fun _ r hr => by simp at hr; omega⟩
  | id _ _ h1 _ h3 _ =>
    obtain ⟨c, t, rfl⟩ := List.exists_cons_of_ne_nil h1
    exact ⟨⟨c, t, rfl, (isId_ascii (h3 c (.head _))).1, fun _ => (isId_ascii (h3 c (.head _))).2.2⟩, fun _ r hr => (isId_ascii (h3 r (List.mem_of_getLast? hr))).1⟩
  | num _ _ h1 _ =>
    obtain ⟨c, t, rfl⟩ := List.exists_cons_of_ne_nil h1.head.1
    exact ⟨⟨c, t, rfl, (h1.ascii c (.head _)).1, fun _ => (h1.ascii c (.head _)).2.2⟩, fun _ r hr => (h1.ascii r (List.mem_of_getLast? hr)).1⟩
  | str x _ _ _ => exact ⟨⟨34, _, rfl, by decide, fun _ => by decide⟩, fun _ r hr => by
      rw [← List.cons_append, List.getLast?_concat] at hr; cases hr; decide⟩
  | raw x _ _ _ => exact ⟨⟨96, _, rfl, by decide, fun _ => by decide⟩, fun _ r hr => by
      rw [← List.cons_append, List.getLast?_concat] at hr; cases hr; decide⟩
  | comm x t _ => exact ⟨⟨35, _, rfl, by decide, fun _ => by decide⟩, fun h => absurd rfl h⟩
  | s1 c k _ h => have := sign_ascii.1 _ h; simp only at this; exact ⟨⟨c, [], rfl, by omega, fun _ => by omega⟩, fun _ r hr => by simp at hr; omega⟩
  | s1e c k _ h => have := sign_ascii.2.1 _ h; simp only at this; exact ⟨⟨c, [], rfl, by omega, fun _ => by omega⟩, fun _ r hr => by simp at hr; omega⟩
  | s2 c k _ h => have := sign_ascii.2.2 _ h; simp only at this; exact ⟨⟨c, [61], rfl, by omega, fun _ => by omega⟩, fun _ r hr => by simp at hr; omega⟩

/-! Lay's segments -/
def gapSegs (g : List Nat) : List Seg := g.map (fun c => ⟨[c], 2, BA [c]⟩)
def litR (p : PV) : ByteArray := if modOf 7 p.k = 1 then ⟨#[]⟩ else BA (writeR p.k p.n p.t)
def pieceSeg (ms : List (List UInt8)) (p : PV) : Seg := ⟨writeR p.k p.n p.t, writeK p.k p.n ms, litR p⟩
def layS (gs : List Int) (ms : List (List UInt8)) : Nat → List PV → List Seg
  | _, [] => []
  | i, p :: ps => gapSegs (gapR gs i) ++ (pieceSeg ms p :: (gapSegs (tailR (writeK p.k p.n ms)) ++ layS gs ms (i + 1) ps))

theorem gapSegs_R : ∀ g : List Nat, segsR (gapSegs g) = g
  | [] => rfl
  | c :: g => by show segsR (_ :: gapSegs g) = _; rw [segsR_cons, gapSegs_R g]; rfl

theorem layAcc_text (gs : List Int) (ms : List (List UInt8)) : ∀ (ps : List PV) (i : Nat) (R : List Nat) (T : List WT), (layAcc gs ms i R T ps).1 = R ++ segsR (layS gs ms i ps)
  | [], _, R, T => by simp [layAcc, layS, segsR]
  | p :: ps, i, R, T => by
    rw [layAcc, layAcc_text gs ms ps, layS, segsR_append, segsR_cons, segsR_append, gapSegs_R, gapSegs_R]
    simp only [List.append_assoc]; rfl

def wsR (c : Nat) : Prop := c = 32 ∨ c = 9 ∨ c = 10 ∨ c = 13
theorem gapL_ws : ∀ m, m < 6 → (∀ c ∈ gapL.getD m [], c = 32 ∨ c = 9 ∨ c = 10 ∨ c = 13) ∧ gapL.getD m [] ≠ [] := by decide
theorem gapR_ws (gs : List Int) (i : Nat) : (∀ c ∈ gapR gs i, wsR c) ∧ gapR gs i ≠ [] := by
  unfold gapR
  split
  · exact ⟨fun c hc => by rw [List.mem_singleton.1 hc]; exact Or.inl rfl, by simp⟩
  · exact gapL_ws _ (modOf_spec 6 (by decide) (by decide) _).2
theorem tailR_ws (k : Int) : ∀ c ∈ tailR k, wsR c := by
  unfold tailR
  split
  · intro c hc; rw [List.mem_singleton.1 hc]; exact Or.inr (Or.inr (Or.inl rfl))
  · intro c hc; cases hc
theorem stopB_ws {g l : List Nat} (h : ∀ c ∈ g, wsR c) (hn : g ≠ []) : stopB (g ++ l) := by
  obtain ⟨c, t, rfl⟩ := List.exists_cons_of_ne_nil hn
  intro r hr
  simp at hr; subst hr
  exact h c (.head _)

theorem layS_stop {gs : List Int} {ms : List (List UInt8)} {Z : List Seg} (hZ : stopB (segsR Z)) (i : Nat) : ∀ ps, stopB (segsR (layS gs ms i ps ++ Z))
  | [] => hZ
  | p :: ps => by
    rw [layS, List.append_assoc, segsR_append, gapSegs_R]
    exact stopB_ws (gapR_ws gs i).1 (gapR_ws gs i).2

theorem segs_gap {kh : List UInt8 → Bool} {kt : List UInt8 → Int} {Z : List Seg} (hZ : Segs kh kt Z) : ∀ g : List Nat, (∀ c ∈ g, wsR c) → Segs kh kt (gapSegs g ++ Z)
  | [], _ => hZ
  | c :: g, h => ⟨SegOk.ws c _ (h c (.head _)), segs_gap hZ g (fun x hx => h x (.tail _ hx))⟩

/-- A piece is a good segment, wherever white space or nothing stands behind it. -/
def PieceGood (kh : List UInt8 → Bool) (kt : List UInt8 → Int) (ms : List (List UInt8)) : Prop :=
  ∀ (p : PV) (post : List Nat), stopB post → (writeK p.k p.n ms = 4 → ∃ t, post = 10 :: t) → SegOk kh kt (writeR p.k p.n p.t) (writeK p.k p.n ms) (litR p) post

theorem layS_segs {kh : List UInt8 → Bool} {kt : List UInt8 → Int} {gs : List Int} {ms : List (List UInt8)} {Z : List Seg} (hP : PieceGood kh kt ms) (hZ : Segs kh kt Z) (hs : stopB (segsR Z)) : ∀ (ps : List PV) (i : Nat), Segs kh kt (layS gs ms i ps ++ Z)
  | [], _ => hZ
  | p :: ps, i => by
    rw [layS, List.append_assoc, List.cons_append, List.append_assoc]
    refine segs_gap (Z := pieceSeg ms p :: (gapSegs (tailR (writeK p.k p.n ms)) ++ (layS gs ms (i + 1) ps ++ Z))) ⟨?_, segs_gap (layS_segs hP hZ hs ps (i + 1)) _ (tailR_ws _)⟩ _ (gapR_ws gs i).1
    refine hP p _ ?_ ?_
    · rw [segsR_append, gapSegs_R]
      by_cases h4 : tailR (writeK p.k p.n ms) = []
      · rw [h4]; exact layS_stop hs _ _
      · exact stopB_ws (tailR_ws _) h4
    · intro h4
      rw [segsR_append, gapSegs_R]
      unfold tailR
      rw [if_pos h4]
      exact ⟨_, rfl⟩

/-! bytes of runes: line ends -/
theorem encR_10 {r : Nat} (h : okR r) : (encR r).count 10 = if r = 10 then 1 else 0 := by
  unfold okR at h
  have key : ∀ n : Nat, (UInt8.ofNat n == 10) = decide (n % 256 = 10) := by
    intro n
    by_cases hn : n % 256 = 10
    · rw [decide_eq_true hn]
      have : UInt8.ofNat n = 10 := by apply UInt8.toNat_inj.1; simpa using hn
      rw [this]; rfl
    · rw [decide_eq_false hn, beq_eq_false_iff_ne]
      intro h2
      have := congrArg UInt8.toNat h2
      simp at this
      omega
  by_cases c1 : r < 128
  · rw [encR1 c1, List.count_singleton, key]
    by_cases h10 : r = 10
    · subst h10; rfl
    · rw [if_neg h10, if_neg]
      simp only [decide_eq_true_eq]; omega
  · have h10 : r ≠ 10 := by omega
    rw [if_neg h10, List.count_eq_zero]
    by_cases c2 : r < 2048
    · rw [encR2 c1 c2]
      intro hm
      simp only [List.mem_cons, List.not_mem_nil, or_false] at hm
      rcases hm with hm | hm <;>
        (have := congrArg UInt8.toNat hm
         simp at this
         omega)
    by_cases c3 : r < 65536
    · rw [encR3 c2 c3]
      intro hm
      simp only [List.mem_cons, List.not_mem_nil, or_false] at hm
      rcases hm with hm | hm | hm <;>
        (have := congrArg UInt8.toNat hm
         simp at this
         omega)
    · rw [encR4 c3]
      intro hm
      simp only [List.mem_cons, List.not_mem_nil, or_false] at hm
      rcases hm with hm | hm | hm | hm <;>
        (have := congrArg UInt8.toNat hm
         simp at this
         omega)

theorem nlB_runes : ∀ {l : List Nat}, (∀ r ∈ l, okR r) → nlB (encL l) = l.count 10
  | [], _ => rfl
  | r :: l, h => by
    have h1 := nlB_runes (l := l) (fun x hx => h x (.tail _ hx))
    have h2 := encR_10 (h r (.head _))
    unfold nlB at h1 ⊢
    rw [encL_cons, List.count_append, h1, h2, List.count_cons]
    by_cases h10 : r = 10
    · subst h10; simp; omega
    · simp [h10]

/-! the tokens that are wanted, against those of the segments -/
structure Fits (x : WT) (v : TV) : Prop where
  kind : x.kind = v.tk
  off : x.off = v.off
  stop : x.stop = v.stop
  row : x.row = v.row
  lit : v.lit = BA x.body ∨ isSignB (encL x.body) = true
  not1 : x.kind ≠ 1
def All2 {α β : Type} (P : α → β → Prop) : List α → List β → Prop
  | [], [] => True
  | x :: xs, v :: vs => P x v ∧ All2 P xs vs
  | _, _ => False

theorem All2.length {α β : Type} {P : α → β → Prop} : ∀ {xs : List α} {vs : List β}, All2 P xs vs → xs.length = vs.length
  | [], [], _ => rfl
  | x :: xs, v :: vs, h => by rw [List.length_cons, List.length_cons, All2.length h.2]
  | [], _ :: _, h => h.elim
  | _ :: _, [], h => h.elim
theorem All2.get {α β : Type} {P : α → β → Prop} : ∀ {xs : List α} {vs : List β}, All2 P xs vs → ∀ j (h1 : j < xs.length) (h2 : j < vs.length), P xs[j] vs[j]
  | x :: xs, v :: vs, h, 0, _, _ => h.1
  | x :: xs, v :: vs, h, j + 1, h1, h2 => All2.get h.2 j (by simpa using h1) (by simpa using h2)
theorem All2.keep {P : TV → TV → Prop} (hP : ∀ x v, P x v → x.tk = v.tk) (f : Bool) : ∀ {xs vs : List TV}, All2 P xs vs → All2 P (xs.filter (keepV f)) (vs.filter (keepV f))
  | [], [], _ => trivial
  | x :: xs, v :: vs, h => by
    have h1 := All2.keep hP f h.2
    have e : keepV f x = keepV f v := by unfold keepV; rw [hP x v h.1]
    rw [List.filter_cons, List.filter_cons, e]
    split
    · exact ⟨h.1, h1⟩
    · exact h1
  | [], _ :: _, h => h.elim
  | _ :: _, [], h => h.elim

theorem keep_gap : ∀ (g pre : List Nat), (seqV pre (gapSegs g)).filter (keepV false) = []
  | [], _ => rfl
  | c :: g, pre => by
    show List.filter (keepV false) (_ :: seqV (pre ++ [c]) (gapSegs g)) = []
    rw [List.filter_cons, keep_gap g]; rfl

theorem asR_enc : ∀ {l : List UInt8}, (∀ c ∈ l, c.toNat < 128) → encL (asR l) = l
  | [], _ => rfl
  | c :: l, h => by
    have h1 := asR_enc (l := l) (fun x hx => h x (.tail _ hx))
    show encL (c.toNat :: asR l) = _
    rw [encL_cons, h1, encR1 (h c (.head _))]; simp

theorem sign_in : ∀ m, m < 25 → signL.getD m [] ∈ signL := by decide
theorem litR_fit (p : PV) : litR p = BA (writeR p.k p.n p.t) ∨ isSignB (encL (writeR p.k p.n p.t)) = true := by
  unfold litR
  by_cases h : modOf 7 p.k = 1
  · refine Or.inr ?_
    have hm : modOf 1000 p.n % 25 < 25 := Nat.mod_lt _ (by decide)
    unfold writeR; rw [h]
    show isSignB (encL (asR (signL.getD (modOf 1000 p.n % 25) []))) = true
    rw [asR_enc (signs_ascii _ hm)]
    exact decide_eq_true (sign_in _ hm)
  · rw [if_neg h]; exact Or.inl rfl

theorem signK_range : ∀ m, m < 25 → 22 ≤ signK.getD m 0 := by decide
theorem moreK_range : ∀ m, m < 4 → 40 ≤ moreK.getD m 0 := by decide
theorem writeK_range (k n : Int) (ms : List (List UInt8)) : 3 ≤ writeK k n ms := by
  have h25 := signK_range _ (Nat.mod_lt (modOf 1000 n) (by decide : 0 < 25))
  have h4 := moreK_range _ (Nat.mod_lt (modOf 1000 n) (by decide : 0 < 4))
  unfold writeK
  split
  · omega
  · omega
  · decide
  · decide
  · decide
  · split
    · omega
    · decide
  · decide

theorem layAcc_fits {gs : List Int} {ms : List (List UInt8)} (hW : ∀ p : PV, (∃ c t, writeR p.k p.n p.t = c :: t ∧ c ≠ 10) ∧ ∀ r ∈ writeR p.k p.n p.t, okR r) : ∀ (ps : List PV) (i : Nat) (R : List Nat) (T : List WT), (∀ r ∈ R, okR r) →
    ∃ X, (layAcc gs ms i R T ps).2 = T ++ X ∧ All2 Fits X ((seqV R (layS gs ms i ps)).filter (keepV false))
  | [], _, R, T, _ => ⟨[], by simp [layAcc], trivial⟩
  | p :: ps, i, R, T, hR => by
    obtain ⟨⟨c, t, hc, h10⟩, hok⟩ := hW p
    have hg : ∀ r ∈ R ++ gapR gs i, okR r := by
      intro r hr
      rcases List.mem_append.1 hr with hr | hr
      · exact hR r hr
      · have := (gapR_ws gs i).1 r hr
        unfold wsR at this
        exact Or.inl (by omega)
    have hall : ∀ r ∈ R ++ gapR gs i ++ writeR p.k p.n p.t ++ tailR (writeK p.k p.n ms), okR r := by
      intro r hr
      rcases List.mem_append.1 hr with hr | hr
      · rcases List.mem_append.1 hr with hr | hr
        · exact hg r hr
        · exact hok r hr
      · have := tailR_ws _ r hr
        unfold wsR at this
        exact Or.inl (by omega)
    obtain ⟨X, h1, h2⟩ := layAcc_fits hW ps (i + 1) (R ++ gapR gs i ++ writeR p.k p.n p.t ++ tailR (writeK p.k p.n ms))
      (T ++ [⟨writeK p.k p.n ms, writeR p.k p.n p.t, (encL (R ++ gapR gs i)).length, (encL (R ++ gapR gs i ++ writeR p.k p.n p.t)).length, 1 + nlB (encL (R ++ gapR gs i))⟩]) hall
    refine ⟨_ :: X, by rw [layAcc, h1, List.append_assoc]; rfl, ?_⟩
    have e : (seqV R (layS gs ms i (p :: ps))).filter (keepV false) =
        ⟨writeK p.k p.n ms, litR p, (encL (R ++ gapR gs i)).length, (encL (R ++ gapR gs i ++ writeR p.k p.n p.t)).length, 1 + (R ++ gapR gs i ++ (writeR p.k p.n p.t).take 1).count 10, colOf (R ++ gapR gs i ++ (writeR p.k p.n p.t).take 1)⟩ ::
          (seqV (R ++ gapR gs i ++ writeR p.k p.n p.t ++ tailR (writeK p.k p.n ms)) (layS gs ms (i + 1) ps)).filter (keepV false) := by
      rw [layS, seqV_append, List.filter_append, keep_gap, List.nil_append, gapSegs_R]
      show List.filter (keepV false) (_ :: seqV (R ++ gapR gs i ++ (pieceSeg ms p).body) _) = _
      rw [List.filter_cons, if_pos, seqV_append, List.filter_append, keep_gap, List.nil_append, gapSegs_R]
      · rfl
      · have := writeK_range p.k p.n ms
        show (false || decide (writeK p.k p.n ms ≠ 2)) = true
        rw [Bool.false_or, decide_eq_true]
        omega
    rw [e]
    refine ⟨⟨rfl, rfl, rfl, ?_, litR_fit p, ?_⟩, h2⟩
    · show 1 + nlB (encL (R ++ gapR gs i)) = 1 + (R ++ gapR gs i ++ (writeR p.k p.n p.t).take 1).count 10
      rw [nlB_runes hg, hc, List.count_append (l₁ := R ++ gapR gs i)]
      simp [h10]
    · have := writeK_range p.k p.n ms
      show writeK p.k p.n ms ≠ 1
      omega

end Go.Proofs.YtplljfbbipeakaaDoor

namespace Go.Proofs.YtplljfbbipeakaaDoor
open Go Go.RowKit

/-! the keywords that are added -/
def fitP (X : List (List UInt8)) (w : List UInt8) : Bool := decide (w ∈ X) || (decide (w = wIn) && decide (wEvery ∈ X))
def fitL (X : List (List UInt8)) : List (List UInt8) := moreL.filter (fitP X)
def fit4 (b1 b2 b3 b4 : Bool) : List (List UInt8) := (if b1 = true then [wIn] else []) ++ ((if b2 = true then [wEvery] else []) ++ ((if b3 = true then [wContains] else []) ++ (if b4 = true then [wIf] else [])))

theorem fit_form (X : List (List UInt8)) : ∃ b1 b2 b3 b4, (b2 = true → b1 = true) ∧ fitL X = fit4 b1 b2 b3 b4 := by
  refine ⟨fitP X wIn, fitP X wEvery, fitP X wContains, fitP X wIf, ?_, ?_⟩
  · intro h
    unfold fitP at h ⊢
    simp only [Bool.or_eq_true, Bool.and_eq_true, decide_eq_true_eq] at h ⊢
    rcases h with h | ⟨h, _⟩
    · exact Or.inr ⟨trivial, h⟩
    · exact absurd h (by decide)
  · show [wIn, wEvery, wContains, wIf].filter (fitP X) = _
    unfold fit4
    simp only [List.filter_cons, List.filter_nil]
    cases fitP X wIn <;> cases fitP X wEvery <;> cases fitP X wContains <;> cases fitP X wIf <;> rfl

theorem kw4_in : ∀ b1 b2 b3 b4 : Bool, (b2 = true → b1 = true) → ∀ l ∈ moreL, kwTok (kwAll kh0 kt0 (fit4 b1 b2 b3 b4)).1 (kwAll kh0 kt0 (fit4 b1 b2 b3 b4)).2 l = if l ∈ fit4 b1 b2 b3 b4 then (kwOf l).getD 3 else 3 := by decide
theorem kw4_out (b1 b2 b3 b4 : Bool) {l : List UInt8} (h : l ∉ moreL) : kwTok (kwAll kh0 kt0 (fit4 b1 b2 b3 b4)).1 (kwAll kh0 kt0 (fit4 b1 b2 b3 b4)).2 l = kwTok kh0 kt0 l := by
  have h' : l ∉ [wIn, wEvery, wContains, wIf] := h
  simp only [List.mem_cons, List.not_mem_nil, or_false, not_or] at h'
  obtain ⟨n1, n2, n3, n4⟩ := h'
  have a1 : ∀ kh kt, kwStep (kh, kt) wIn = (updH kh wIn, updT kt wIn 40) := fun _ _ => rfl
  have a2 : ∀ kh kt, kwStep (kh, kt) wEvery = (updH (updH kh wEvery) wIn, updT (updT kt wEvery 49) wIn 40) := fun _ _ => rfl
  have a3 : ∀ kh kt, kwStep (kh, kt) wContains = (updH kh wContains, updT kt wContains 50) := fun _ _ => rfl
  have a4 : ∀ kh kt, kwStep (kh, kt) wIf = (updH kh wIf, updT kt wIf 51) := fun _ _ => rfl
  have key : (kwAll kh0 kt0 (fit4 b1 b2 b3 b4)).1 l = kh0 l ∧ (kwAll kh0 kt0 (fit4 b1 b2 b3 b4)).2 l = kt0 l := by
    unfold kwAll fit4
    cases b1 <;> cases b2 <;> cases b3 <;> cases b4 <;> simp [a1, a2, a3, a4, updH, updT, n1, n2, n3, n4]
  unfold kwTok
  rw [key.1, key.2]

theorem addT_ok {kt : List UInt8 → Int} (h : KtOk kt) (x : List UInt8) {k : Int} (h1 : 3 ≤ k) (h2 : k ≤ 255) : KtOk (addT kt x k) := by
  intro l
  have := h l
  unfold addT updT
  split
  · simp only; split
    · omega
    · split <;> omega
  · simp only; split <;> omega
theorem kwOf_ge {l : List UInt8} {k : Int} (h : kwOf l = some k) : 3 ≤ k ∧ k ≤ 255 := by
  unfold kwOf at h
  repeat' split at h
  all_goals first | (cases h; done) | (cases h; decide)
theorem kwAll_ok : ∀ (ms : List (List UInt8)) (p : (List UInt8 → Bool) × (List UInt8 → Int)), KtOk p.2 → KtOk (ms.foldl kwStep p).2
  | [], _, h => h
  | m :: ms, p, h => by
    refine kwAll_ok ms (kwStep p m) ?_
    unfold kwStep
    split
    · rename_i k hk
      exact addT_ok h m (kwOf_ge hk).1 (kwOf_ge hk).2
    · exact h

/-! each piece is a good segment -/
theorem asR_app (a b : List UInt8) : asR (a ++ b) = asR a ++ asR b := List.map_append
theorem asR_mem {l : List UInt8} {r : Nat} (h : r ∈ asR l) : ∃ c ∈ l, c.toNat = r := List.mem_map.1 h
theorem asR_ne {l : List UInt8} (h : l ≠ []) : asR l ≠ [] := by unfold asR; simpa using h

theorem asR_dec {l : List UInt8} (h : ∀ c ∈ l, 48 ≤ c.toNat ∧ c.toNat ≤ 57) : ∀ r ∈ asR l, isDecB (r : Int) = true := by
  intro r hr
  obtain ⟨c, hc, rfl⟩ := asR_mem hr
  have := h c hc
  simp only [isDecB, decide_eq_true_eq]; omega
theorem num_good (m : Nat) (s : List UInt8) : NumC (asR (numL m s)) := by
  obtain ⟨h1, h2⟩ := digN_dec s
  obtain ⟨h3, h4⟩ := stripZ_dec _ h1 h2
  have d1 := asR_ne h1
  have d2 := asR_dec h2
  have d3 := asR_ne h3
  have d4 := asR_dec h4
  unfold numL
  repeat' split
  · rw [asR_app, asR_app, List.append_assoc]; exact NumC.frac _ _ d3 d4 d1 d2
  · rw [asR_app, asR_app, List.append_assoc]; exact NumC.exp _ _ d3 d4 d1 d2
  · rw [asR_app, asR_app, asR_app, asR_app]
    simp only [List.append_assoc]
    exact NumC.both _ _ _ d3 d4 d1 d2 d1 d2
  · exact NumC.int _ d3 d4

theorem text_good : ∀ P : List Nat, StrC (P.flatMap (textR false))
  | [] => .nil
  | r :: P => by
    have ih := text_good P
    rw [List.flatMap_cons]
    rcases textR_shape r with h | ⟨h, h2⟩ | ⟨a, b, h, ha, hb⟩ | ⟨h, h2, h3, h4⟩
    · rw [h]; exact ih
    · rw [h]; exact .esc r _ (by simp only [isEscB, decide_eq_true_eq]; omega) ih
    · rw [h]; exact .uni 48 48 a _ (.one b _ (by omega) (by omega) (by omega) ih)
    · rw [h]; exact .one r _ h2 h3 (by omega) ih

theorem hexD_lt (d : Nat) (h : d < 16) : 48 ≤ hexD d ∧ hexD d ≤ 102 := by unfold hexD; split <;> omega
theorem textR_G {raw : Bool} {r : Nat} (h : okR r) : ∀ x ∈ textR raw r, okG x := by
  intro x hx
  refine ⟨textR_okR h x hx, ?_⟩
  have e1 := hexD_lt (r / 16 % 16) (Nat.mod_lt _ (by decide))
  have e2 := hexD_lt (r % 16) (Nat.mod_lt _ (by decide))
  unfold textR at hx
  repeat' split at hx
  all_goals
    simp only [List.mem_cons, List.not_mem_nil, or_false] at hx
  all_goals omega
theorem commR_G {r : Nat} (h : okR r) : ∀ x ∈ commR r, okG x ∧ 32 ≤ x := by
  intro x hx
  unfold commR at hx
  split at hx
  · rw [List.mem_singleton.1 hx]; exact ⟨⟨h, by omega, by omega⟩, by omega⟩
  · cases hx
theorem commL_G (s : ByteArray) : ∀ x ∈ commL s, okG x ∧ 32 ≤ x := by
  intro x hx
  obtain ⟨r, hr, hx⟩ := List.mem_flatMap.1 hx
  exact commR_G (runesF_ok s _ _ r hr) x hx
theorem textL_G (raw : Bool) (s : ByteArray) : ∀ x ∈ textL raw s, okG x := by
  intro x hx
  obtain ⟨r, hr, hx⟩ := List.mem_flatMap.1 hx
  exact textR_G (runesF_ok s _ _ r hr) x hx
theorem okG_low {r : Nat} (h : r < 128) (h0 : r ≠ 0) : okG r := ⟨Or.inl (by omega), h0, by omega⟩

def NameInv (l : List UInt8) : Prop := (∀ c, l.head? = some c → isLetB (c.toNat : Int) = true) ∧ ∀ c ∈ l, isIdB (c.toNat : Int) = true
theorem nameStep_inv {out : List UInt8} (h : NameInv out) (c : UInt8) : NameInv (nameStep out c) := by
  unfold nameStep
  split
  · rename_i hc
    rw [Bool.and_eq_true] at hc
    have h1 := hc.1
    unfold letB at h1
    refine ⟨?_, ?_⟩
    · cases out with
      | nil =>
        intro x hx
        simp at hx; subst hx
        simpa using h1
      | cons a t => intro x hx; exact h.1 x (by simpa using hx)
    · intro x hx
      rcases List.mem_append.1 hx with hx | hx
      · exact h.2 x hx
      · rw [List.mem_singleton.1 hx]
        unfold isIdB
        rw [Bool.or_eq_true] at h1 ⊢
        exact h1.imp id (fun h => (Bool.and_eq_true _ _ ▸ h).2)
  · exact h
theorem fold_inv : ∀ (s out : List UInt8), NameInv out → NameInv (s.foldl nameStep out)
  | [], _, h => h
  | c :: s, _, h => fold_inv s _ (nameStep_inv h c)
theorem name_x : ∀ w ∈ wordL ++ moreL, w ++ [120] ∉ wordL ++ moreL := by decide
theorem name_good (s : List UInt8) : NameInv (nameL s) ∧ nameL s ≠ [] ∧ nameL s ∉ wordL ∧ nameL s ∉ moreL := by
  have h0 : NameInv (name0 s) := fold_inv s [] ⟨fun c hc => (by cases hc), fun c hc => (by cases hc)⟩
  have hx : NameInv [120] := ⟨fun c hc => by cases hc; decide, fun c hc => by rw [List.mem_singleton.1 hc]; decide⟩
  have key : NameInv (nameL s) ∧ nameL s ≠ [] ∧ nameL s ∉ wordL ++ moreL := by
    unfold nameL
    split
    · rename_i hm
      refine ⟨⟨?_, ?_⟩, by simp, name_x _ hm⟩
      · intro c hc
        cases hn : name0 s with
        | nil => rw [hn] at hc; exact hx.1 c hc
        | cons a t => rw [hn] at hc h0; exact h0.1 c (by simpa using hc)
      · intro c hc
        rcases List.mem_append.1 hc with hc | hc
        · exact h0.2 c hc
        · exact hx.2 c hc
    · split
      · exact ⟨hx, by simp, by decide⟩
      · rename_i h1 h2; exact ⟨h0, h2, h1⟩
  rw [List.mem_append, not_or] at key
  exact ⟨key.1, key.2.1, key.2.2.1, key.2.2.2⟩

theorem id_good {kh : List UInt8 → Bool} {kt : List UInt8 → Int} {l : List UInt8} (h : NameInv l) (hn : l ≠ []) {post : List Nat} (hp : stopB post) {k : Int} (hk : kwTok kh kt l = k) : SegOk kh kt (asR l) k (BA (asR l)) post := by
  have hid : ∀ r ∈ asR l, isIdB (r : Int) = true := fun r hr => by obtain ⟨c, hc, rfl⟩ := asR_mem hr; exact h.2 c hc
  have hasc : ∀ c ∈ l, c.toNat < 128 := fun c hc => (isId_ascii (h.2 c hc)).1
  have e := asR_enc hasc
  rw [← hk, ← e, e]
  have := SegOk.id (kh := kh) (kt := kt) (asR l) post (asR_ne hn) (by
    intro r hr
    obtain ⟨a, t, rfl⟩ := List.exists_cons_of_ne_nil hn
    cases hr
    exact h.1 a rfl) hid hp
  rwa [e] at this

theorem word_facts : ∀ m, m < 11 → wordL.getD m [] ∉ moreL ∧ wordL.getD m [] ≠ [] ∧ kwTok kh0 kt0 (wordL.getD m []) = ((m + 5 : Nat) : Int) ∧ (∀ c ∈ wordL.getD m [], 97 ≤ c.toNat ∧ c.toNat ≤ 122) := by decide
theorem more_facts : ∀ m, m < 4 → moreL.getD m [] ∈ moreL ∧ moreL.getD m [] ≠ [] ∧ (kwOf (moreL.getD m [])).getD 3 = moreK.getD m 0 ∧ (∀ c ∈ moreL.getD m [], 97 ≤ c.toNat ∧ c.toNat ≤ 122) := by decide
theorem low_inv {l : List UInt8} (h : ∀ c ∈ l, 97 ≤ c.toNat ∧ c.toNat ≤ 122) : NameInv l := by
  have k : ∀ c ∈ l, isLetB (c.toNat : Int) = true := fun c hc => by have := h c hc; simp only [isLetB, decide_eq_true_eq]; omega
  exact ⟨fun c hc => k c (List.mem_of_mem_head? hc), fun c hc => by unfold isIdB; rw [k c hc]; rfl⟩

theorem sign_good {kh : List UInt8 → Bool} {kt : List UInt8 → Int} {post : List Nat} (hp : stopB post) {m : Nat} (h : m < 25) : SegOk kh kt (asR (signL.getD m [])) (signK.getD m 0) ⟨#[]⟩ post := by
  have : m = 0 ∨ m = 1 ∨ m = 2 ∨ m = 3 ∨ m = 4 ∨ m = 5 ∨ m = 6 ∨ m = 7 ∨ m = 8 ∨ m = 9 ∨ m = 10 ∨ m = 11 ∨ m = 12 ∨ m = 13 ∨ m = 14 ∨ m = 15 ∨ m = 16 ∨ m = 17 ∨ m = 18 ∨ m = 19 ∨ m = 20 ∨ m = 21 ∨ m = 22 ∨ m = 23 ∨ m = 24 := by omega
  rcases this with rfl | rfl | rfl | rfl | rfl | rfl | rfl | rfl | rfl | rfl | rfl | rfl | rfl | rfl | rfl | rfl | rfl | rfl | rfl | rfl | rfl | rfl | rfl | rfl | rfl
  · exact SegOk.s1 91 22 _ (by decide)
  · exact SegOk.s1 93 23 _ (by decide)
  · exact SegOk.s1 123 24 _ (by decide)
  · exact SegOk.s1 125 25 _ (by decide)
  · exact SegOk.s1 40 26 _ (by decide)
  · exact SegOk.s1 41 27 _ (by decide)
  · exact SegOk.s1 44 28 _ (by decide)
  · exact SegOk.s1e 58 29 _ (by decide) hp
  · exact SegOk.s1 43 30 _ (by decide)
  · exact SegOk.s1 45 31 _ (by decide)
  · exact SegOk.s1 42 32 _ (by decide)
  · exact SegOk.s1 47 33 _ (by decide)
  · exact SegOk.s1 37 34 _ (by decide)
  · exact SegOk.s1 38 35 _ (by decide)
  · exact SegOk.s1 124 36 _ (by decide)
  · exact SegOk.s1e 61 37 _ (by decide) hp
  · exact SegOk.s2 61 38 _ (by decide)
  · exact SegOk.s2 58 39 _ (by decide)
  · exact SegOk.s2 33 41 _ (by decide)
  · exact SegOk.s1e 62 42 _ (by decide) hp
  · exact SegOk.s1e 60 43 _ (by decide) hp
  · exact SegOk.s2 62 44 _ (by decide)
  · exact SegOk.s2 60 45 _ (by decide)
  · exact SegOk.s1 46 46 _ (by decide)
  · exact SegOk.s1 59 47 _ (by decide)

theorem mod7_cases (k : Int) : modOf 7 k = 0 ∨ modOf 7 k = 1 ∨ modOf 7 k = 2 ∨ modOf 7 k = 3 ∨ modOf 7 k = 4 ∨ modOf 7 k = 5 ∨ modOf 7 k = 6 := by
  have := (modOf_spec 7 (by decide) (by decide) k).2; omega

/-- EVERY PIECE IS A GOOD SEGMENT, whatever words are added. -/
theorem piece_good (X : List (List UInt8)) : PieceGood (kwAll kh0 kt0 (fitL X)).1 (kwAll kh0 kt0 (fitL X)).2 (fitL X) := by
  obtain ⟨b1, b2, b3, b4, hb, e⟩ := fit_form X
  rw [e]
  intro p post hp hc
  obtain ⟨k, n, t⟩ := p
  simp only at hc ⊢
  unfold litR writeR writeK
  unfold writeK at hc
  have l11 : modOf 1000 n % 11 < 11 := Nat.mod_lt _ (by decide)
  have l25 : modOf 1000 n % 25 < 25 := Nat.mod_lt _ (by decide)
  have l4 : modOf 1000 n % 4 < 4 := Nat.mod_lt _ (by decide)
  rcases mod7_cases k with h | h | h | h | h | h | h <;> simp only [h] at hc ⊢
  · obtain ⟨f1, f2, f3, f4⟩ := word_facts _ l11
    rw [if_neg (by decide)]
    exact id_good (low_inv f4) f2 hp (by rw [kw4_out _ _ _ _ f1]; exact f3)
  · rw [if_pos trivial]; exact sign_good hp l25
  · rw [if_neg (by decide)]; exact SegOk.num _ _ (num_good _ _) hp
  · rw [if_neg (by decide)]
    by_cases hr : modOf 1000 n % 2 = 1
    · unfold textT; rw [decide_eq_true hr]
      refine SegOk.raw (textL true t) _ ?_ hp
      intro r hr
      obtain ⟨x, _, hx⟩ := List.mem_flatMap.1 hr
      exact (textR_raw x r hx).1
    · unfold textT; rw [decide_eq_false hr]
      exact SegOk.str (textL false t) _ (text_good _) hp
  · rw [if_neg (by decide)]
    obtain ⟨t', rfl⟩ := hc trivial
    refine SegOk.comm (commL t) _ ?_
    intro r hr
    have := (commL_G t r hr).2
    omega
  · obtain ⟨f1, f2, f3, f4⟩ := more_facts _ l4
    rw [if_neg (by decide : ¬ (5 : Nat) = 1)]
    refine id_good (low_inv f4) f2 hp ?_
    rw [kw4_in b1 b2 b3 b4 hb _ f1, f3]
  · obtain ⟨f1, f2, f3, f4⟩ := name_good t.data.toList
    rw [if_neg (by decide)]
    refine id_good f1 f2 hp ?_
    rw [kw4_out _ _ _ _ f4]
    unfold kwTok kh0
    rw [if_neg (by simpa using f3)]

theorem write_G (p : PV) : ∀ r ∈ writeR p.k p.n p.t, okG r := by
  obtain ⟨k, n, t⟩ := p
  have l11 : modOf 1000 n % 11 < 11 := Nat.mod_lt _ (by decide)
  have l25 : modOf 1000 n % 25 < 25 := Nat.mod_lt _ (by decide)
  have l4 : modOf 1000 n % 4 < 4 := Nat.mod_lt _ (by decide)
  have low : ∀ l : List UInt8, (∀ c ∈ l, c.toNat < 128 ∧ c.toNat ≠ 0) → ∀ r ∈ asR l, okG r := fun l h r hr => by
    obtain ⟨c, hc, rfl⟩ := asR_mem hr
    exact okG_low (h c hc).1 (h c hc).2
  have sg : ∀ m, m < 25 → ∀ c ∈ signL.getD m [], c.toNat < 128 ∧ c.toNat ≠ 0 := by decide
  intro r hr
  simp only at hr
  unfold writeR at hr
  rcases mod7_cases k with h | h | h | h | h | h | h <;> simp only [h] at hr
  · exact low _ (fun c hc => by have := (word_facts _ l11).2.2.2 c hc; omega) r hr
  · exact low _ (sg _ l25) r hr
  · have := (num_good _ _).ascii r hr; exact okG_low this.1 this.2.1
  · unfold textT at hr
    have hm : okG (markN (decide (modOf 1000 n % 2 = 1))) := by cases decide (modOf 1000 n % 2 = 1) <;> exact okG_low (by decide) (by decide)
    rcases List.mem_cons.1 hr with rfl | hr
    · exact hm
    · rcases List.mem_append.1 hr with hr | hr
      · exact textL_G _ _ r hr
      · rw [List.mem_singleton.1 hr]; exact hm
  · rcases List.mem_cons.1 hr with rfl | hr
    · exact okG_low (by decide) (by decide)
    · exact (commL_G _ r hr).1
  · exact low _ (fun c hc => by have := (more_facts _ l4).2.2.2 c hc; omega) r hr
  · exact low _ (fun c hc => by have := isId_ascii ((name_good _).1.2 c hc); omega) r hr

theorem write_head (p : PV) : ∃ c t, writeR p.k p.n p.t = c :: t ∧ c ≠ 10 := by
  have h := piece_good [] p [10] (fun r hr => by cases hr; omega) (fun _ => ⟨[], rfl⟩)
  obtain ⟨⟨c, t, e, _, h2⟩, _⟩ := segOk_ends h
  have := writeK_range p.k p.n (fitL [])
  exact ⟨c, t, e, h2 (by omega)⟩

theorem layS_G (gs : List Int) (ms : List (List UInt8)) : ∀ (ps : List PV) (i : Nat), ∀ r ∈ segsR (layS gs ms i ps), okG r
  | [], _, r, hr => by cases hr
  | p :: ps, i, r, hr => by
    rw [layS, segsR_append, segsR_cons, segsR_append, gapSegs_R, gapSegs_R] at hr
    have ws : ∀ c, wsR c → okG c := fun c h => by unfold wsR at h; exact okG_low (by omega) (by omega)
    rcases List.mem_append.1 hr with hr | hr
    · exact ws r ((gapR_ws gs i).1 r hr)
    · rcases List.mem_append.1 hr with hr | hr
      · exact write_G p r hr
      · rcases List.mem_append.1 hr with hr | hr
        · exact ws r (tailR_ws _ r hr)
        · exact layS_G gs ms ps (i + 1) r hr

theorem lastA_app {a b : List Nat} (h : lastA b) (hn : b ≠ []) : lastA (a ++ b) := by
  intro r hr
  refine h r ?_
  rw [List.getLast?_append] at hr
  cases hb : b.getLast? with
  | none => exact absurd (List.getLast?_eq_none_iff.1 hb) hn
  | some x => rw [hb] at hr; exact hr

theorem layS_last {kh : List UInt8 → Bool} {kt : List UInt8 → Int} (gs : List Int) {ms : List (List UInt8)} (hP : PieceGood kh kt ms) : ∀ (ps : List PV) (i : Nat), ps ≠ [] → segsR (layS gs ms i ps) ≠ [] ∧ lastA (segsR (layS gs ms i ps))
  | [], _, h => absurd rfl h
  | p :: ps, i, _ => by
    rw [layS, segsR_append, segsR_cons, segsR_append, gapSegs_R, gapSegs_R]
    have hn := (gapR_ws gs i).2
    refine ⟨by simp [hn], ?_⟩
    by_cases hps : ps = []
    · subst hps
      have e : segsR (layS gs ms (i + 1) []) = [] := rfl
      rw [e, List.append_nil]
      obtain ⟨c, t, hc, _⟩ := write_head p
      have hbody : (pieceSeg ms p).body ≠ [] := by show writeR p.k p.n p.t ≠ []; rw [hc]; simp
      by_cases h4 : writeK p.k p.n ms = 4
      · have e4 : tailR (writeK p.k p.n ms) = [10] := by unfold tailR; rw [if_pos h4]
        rw [e4]
        refine lastA_app (lastA_app (fun r hr => by simp at hr; omega) (by simp)) (by simp)
      · have e4 : tailR (writeK p.k p.n ms) = [] := by unfold tailR; rw [if_neg h4]
        rw [e4, List.append_nil]
        refine lastA_app ?_ hbody
        exact (segOk_ends (hP p [] (fun r hr => by cases hr) (fun h => absurd h h4))).2 h4
    · have ih := layS_last gs hP ps (i + 1) hps
      exact lastA_app (lastA_app (lastA_app ih.2 ih.1) (by simp [ih.1])) (by simp [ih.1])

theorem txt_of {gs : List Seg} (h : ∀ r ∈ segsR gs, okG r) : Txt (BA (segsR gs)) (segsR gs) := ⟨h, by simp [BA]⟩

end Go.Proofs.YtplljfbbipeakaaDoor

namespace Go.Proofs.YtplljfbbipeakaaDoor
open Go Go.RowKit

/-! columns in bytes -/
def contB (b : UInt8) : Bool := decide (128 ≤ b.toNat ∧ b.toNat < 192)
def colStep (c : Nat) (b : UInt8) : Nat := if b = 10 then 0 else if contB b = true then c else c + 1
def colB (l : List UInt8) : Nat := l.foldl colStep 0
theorem colB_snoc (l : List UInt8) (b : UInt8) : colB (l ++ [b]) = colStep (colB l) b := by unfold colB; rw [List.foldl_append]; rfl

theorem colStep_nat (c n : Nat) (h : n < 256) : colStep c (UInt8.ofNat n) = if n = 10 then 0 else if 128 ≤ n ∧ n < 192 then c else c + 1 := by
  have hn : (UInt8.ofNat n).toNat = n := by simp; omega
  have h10 : UInt8.ofNat n = 10 ↔ n = 10 := by
    constructor
    · intro h; have := congrArg UInt8.toNat h; rw [hn] at this; exact this
    · rintro rfl; rfl
  unfold colStep contB
  rw [hn]
  by_cases h1 : n = 10
  · rw [if_pos (h10.2 h1), if_pos h1]
  · rw [if_neg (fun h => h1 (h10.1 h)), if_neg h1]
    by_cases h2 : 128 ≤ n ∧ n < 192
    · rw [if_pos (decide_eq_true h2), if_pos h2]
    · rw [if_neg (by simpa using h2), if_neg h2]

theorem col_rune (c r : Nat) (h : okR r) : (encR r).foldl colStep c = if r = 10 then 0 else c + 1 := by
  unfold okR at h
  by_cases c1 : r < 128
  · rw [encR1 c1, List.foldl_cons, List.foldl_nil, colStep_nat _ _ (by omega)]
    split
    · rfl
    · rw [if_neg (by omega)]
  have h10 : ¬ r = 10 := by omega
  rw [if_neg h10]
  have k1 : ∀ c x, x < 64 → colStep c (UInt8.ofNat (128 + x)) = c := fun c x hx => by rw [colStep_nat _ _ (by omega), if_neg (by omega), if_pos (by omega)]
  have k2 : ∀ c x, x < 64 → colStep c (UInt8.ofNat (192 + x)) = c + 1 := fun c x hx => by rw [colStep_nat _ _ (by omega), if_neg (by omega), if_neg (by omega)]
  by_cases c2 : r < 2048
  · rw [encR2 c1 c2]
    simp only [List.foldl_cons, List.foldl_nil]
    rw [k2 _ _ (by omega), k1 _ _ (by omega)]
  by_cases c3 : r < 65536
  · rw [encR3 c2 c3]
    simp only [List.foldl_cons, List.foldl_nil]
    have e : 224 + r / 4096 = 192 + (32 + r / 4096) := by omega
    rw [e, k2 _ _ (by omega), k1 _ _ (by omega), k1 _ _ (by omega)]
  · rw [encR4 c3]
    simp only [List.foldl_cons, List.foldl_nil]
    have e : 240 + r / 262144 = 192 + (48 + r / 262144) := by omega
    rw [e, k2 _ _ (by omega), k1 _ _ (by omega), k1 _ _ (by omega), k1 _ _ (by omega)]

theorem colB_runes {l : List Nat} (h : ∀ r ∈ l, okR r) : colB (encL l) = colOf l := by
  have go : ∀ (l : List Nat), (∀ r ∈ l, okR r) → ∀ c, (encL l).foldl colStep c = l.foldl (fun c r => if r = 10 then 0 else c + 1) c := by
    intro l
    induction l with
    | nil => intro _ c; rfl
    | cons r l ih =>
      intro h c
      rw [encL_cons, List.foldl_append, col_rune c r (h r (.head _)), List.foldl_cons]
      exact ih (fun x hx => h x (.tail _ hx)) _
  exact go l h 0

theorem seqV_col {kh : List UInt8 → Bool} {kt : List UInt8 → Int} : ∀ (gs : List Seg) (pre : List Nat), Segs kh kt gs → (∀ r ∈ pre ++ segsR gs, okR r) →
    ∀ v ∈ (seqV pre gs).filter (keepV false), v.col = 1 + colB ((encL (pre ++ segsR gs)).take v.off) ∧ v.off ≤ (encL (pre ++ segsR gs)).length
  | [], _, _, _, v, hv => by cases hv
  | g :: gs, pre, ⟨h1, h2⟩, hok, v, hv => by
    have ih := seqV_col gs (pre ++ g.body) h2 (by rw [List.append_assoc, ← segsR_cons]; exact hok)
    rw [List.append_assoc, ← segsR_cons] at ih
    have hv' : v ∈ List.filter (keepV false) (⟨g.tk, g.lit, (encL pre).length, (encL (pre ++ g.body)).length, 1 + (pre ++ g.body.take 1).count 10, colOf (pre ++ g.body.take 1)⟩ :: seqV (pre ++ g.body) gs) := hv
    rw [List.filter_cons] at hv'
    by_cases hk : g.tk = 2
    · rw [if_neg (by simp [keepV, hk])] at hv'
      exact ih v hv'
    · rw [if_pos (by simp [keepV, hk])] at hv'
      rcases List.mem_cons.1 hv' with rfl | hv'
      · obtain ⟨⟨c, t, e, _, h10⟩, _⟩ := segOk_ends h1
        have ht : (encL (pre ++ segsR (g :: gs))).take (encL pre).length = encL pre := by rw [encL_append, List.take_left]
        refine ⟨?_, by simp only; rw [encL_append, List.length_append]; omega⟩
        show colOf (pre ++ g.body.take 1) = 1 + colB ((encL (pre ++ segsR (g :: gs))).take (encL pre).length)
        rw [ht, colB_runes (fun r hr => hok r (List.mem_append_left _ hr)), e, List.take_succ_cons, List.take_zero, colOf_snoc, if_neg (h10 hk)]
        omega
      · exact ih v hv'

/-! one behind the other -/
def cutV (gs : List Seg) (j : Nat) : Nat := (encL (segsR (gs.take j))).length
theorem cutV_le (gs : List Seg) (j : Nat) : cutV gs j ≤ cutV gs (j + 1) ∧ cutV gs j ≤ (encL (segsR gs)).length := by
  unfold cutV
  refine ⟨?_, ?_⟩
  · have e : gs.take j = (gs.take (j + 1)).take j := by rw [List.take_take, Nat.min_eq_left (by omega)]
    have e2 := List.take_append_drop j (gs.take (j + 1))
    rw [e]
    conv => rhs; rw [← e2, segsR_append, encL_append, List.length_append]
    omega
  · have e2 := List.take_append_drop j gs
    conv => rhs; rw [← e2, segsR_append, encL_append, List.length_append]
    omega
theorem cutV_end {gs : List Seg} {j : Nat} (h : gs.length ≤ j) : cutV gs j = (encL (segsR gs)).length := by unfold cutV; rw [List.take_of_length_le h]

theorem seqV_at : ∀ (gs : List Seg) (pre : List Nat) (j : Nat) (h : j < (seqV pre gs).length) (hg : j < gs.length),
    (seqV pre gs)[j].tk = gs[j].tk ∧ (seqV pre gs)[j].off = (encL pre).length + cutV gs j ∧ (seqV pre gs)[j].stop = (encL pre).length + cutV gs (j + 1)
  | g :: gs, pre, 0, _, _ => by
    refine ⟨rfl, ?_, ?_⟩
    · show (encL pre).length = (encL pre).length + 0; rfl
    · show (encL (pre ++ g.body)).length = (encL pre).length + (encL (segsR [g])).length
      rw [encL_append, List.length_append, segsR_cons]; simp [segsR]
  | g :: gs, pre, j + 1, h, hg => by
    have h' : j < (seqV (pre ++ g.body) gs).length := by rw [seqV_length]; simpa using hg
    obtain ⟨e1, e2, e3⟩ := seqV_at gs (pre ++ g.body) j h' (by simpa using hg)
    have k : ∀ i, cutV (g :: gs) (i + 1) = (encL g.body).length + cutV gs i := fun i => by
      unfold cutV; rw [List.take_succ_cons, segsR_cons, encL_append, List.length_append]
    refine ⟨e1, ?_, ?_⟩
    · show (seqV (pre ++ g.body) gs)[j].off = _
      rw [e2, k, encL_append, List.length_append]; omega
    · show (seqV (pre ++ g.body) gs)[j].stop = _
      rw [e3, k, encL_append, List.length_append]; omega

/-! two texts joined -/
structure Shift (d : Nat) (x v : TV) : Prop where
  tk : x.tk = v.tk
  lit : x.lit = v.lit
  off : x.off = v.off + d
  stop : x.stop = v.stop + d
theorem seqV_shift (Q : List Nat) : ∀ (gs : List Seg) (pre : List Nat), All2 (Shift (encL Q).length) (seqV (Q ++ pre) gs) (seqV pre gs)
  | [], _ => trivial
  | g :: gs, pre => by
    refine ⟨⟨rfl, rfl, ?_, ?_⟩, ?_⟩
    · show (encL (Q ++ pre)).length = _; rw [encL_append, List.length_append]; exact Nat.add_comm _ _
    · show (encL (Q ++ pre ++ g.body)).length = (encL (pre ++ g.body)).length + _; rw [List.append_assoc, encL_append, List.length_append]; exact Nat.add_comm _ _
    · show All2 _ (seqV (Q ++ pre ++ g.body) gs) (seqV (pre ++ g.body) gs)
      rw [List.append_assoc]; exact seqV_shift Q gs (pre ++ g.body)
theorem All2.app {α β : Type} {P : α → β → Prop} : ∀ {xs xs' : List α} {vs vs' : List β}, All2 P xs vs → All2 P xs' vs' → All2 P (xs ++ xs') (vs ++ vs')
  | [], _, [], _, _, h => h
  | _ :: _, _, _ :: _, _, h, h' => ⟨h.1, All2.app h.2 h'⟩
  | [], _, _ :: _, _, h, _ => h.elim
  | _ :: _, _, [], _, h, _ => h.elim

def nlSeg : Seg := ⟨[10], 2, BA [10]⟩
theorem joined_got (A B : List Seg) : ∃ xs zs, gotV false (A ++ nlSeg :: B) = xs ++ zs ∧ gotV false A = xs ++ [endV (segsR A)] ∧ All2 (Shift ((encL (segsR A)).length + 1)) zs (gotV false B) := by
  have e1 : (encL (segsR A ++ [10])).length = (encL (segsR A)).length + 1 := by rw [encL_append, List.length_append, encL_cons, encL_nil, encR1 (by decide)]; rfl
  have h1 := seqV_shift (segsR A ++ [10]) B []
  rw [List.append_nil, e1] at h1
  refine ⟨(seqV [] A).filter (keepV false), (seqV (segsR A ++ [10]) B).filter (keepV false) ++ [endV (segsR (A ++ nlSeg :: B))], ?_, rfl, ?_⟩
  · unfold gotV
    rw [seqV_append, List.filter_append, ← List.append_assoc]
    congr 2
  · refine All2.app (h1.keep (fun _ _ h => h.tk) false) ⟨⟨rfl, rfl, ?_, ?_⟩, trivial⟩ <;>
    · show (encL (segsR (A ++ nlSeg :: B))).length = (encL (segsR B)).length + _
      rw [segsR_append, segsR_cons, ← List.append_assoc, encL_append, List.length_append]
      show (encL (segsR A ++ [10])).length + _ = _
      rw [e1]; omega

/-! how long -/
theorem asR_len (l : List UInt8) : (asR l).length = l.length := List.length_map _
theorem stripZ_len : ∀ l : List UInt8, (stripZ l).length ≤ l.length
  | [] => Nat.le_refl _
  | [_] => Nat.le_refl _
  | c :: d :: t => by
    unfold stripZ
    split
    · have := stripZ_len (d :: t); simp only [List.length_cons] at this ⊢; omega
    · exact Nat.le_refl _
theorem digN_len (s : List UInt8) : (digN s).length ≤ 9 := by
  unfold digN
  split
  · simp
  · exact digL_le s
theorem write_len (k n : Int) (t : ByteArray) : (writeR k n t).length ≤ 6 * t.size + 40 := by
  have l11 : modOf 1000 n % 11 < 11 := Nat.mod_lt _ (by decide)
  have l25 : modOf 1000 n % 25 < 25 := Nat.mod_lt _ (by decide)
  have l4 : modOf 1000 n % 4 < 4 := Nat.mod_lt _ (by decide)
  have w11 : ∀ m, m < 11 → (wordL.getD m []).length ≤ 8 := by decide
  have w25 : ∀ m, m < 25 → (signL.getD m []).length ≤ 8 := by decide
  have w4 : ∀ m, m < 4 → (moreL.getD m []).length ≤ 8 := by decide
  have hr := runesF_len t t.size 0
  change (runesS t).length ≤ t.size at hr
  unfold writeR
  rcases mod7_cases k with h | h | h | h | h | h | h <;> simp only [h]
  · rw [asR_len]; have := w11 _ l11; omega
  · rw [asR_len]; have := w25 _ l25; omega
  · rw [asR_len]
    have h1 := digN_len t.data.toList
    have h2 := stripZ_len (digN t.data.toList)
    unfold numL
    repeat' split
    all_goals (try simp only [List.length_append, List.length_cons, List.length_nil])
    all_goals omega
  · unfold textT textL
    have := flat_le (textR_le (decide (modOf 1000 n % 2 = 1))) (runesS t)
    simp only [List.length_cons, List.length_append, List.length_nil]
    omega
  · unfold commL
    have := flat_le commR_le (runesS t)
    simp only [List.length_cons]
    omega
  · rw [asR_len]; have := w4 _ l4; omega
  · rw [asR_len]
    have h1 := foldl_name_le t.data.toList [] (by simp)
    change (name0 t.data.toList).length ≤ 16 at h1
    unfold nameL
    repeat' split
    all_goals (try simp only [List.length_append, List.length_cons, List.length_nil])
    all_goals omega

def sumZ (ps : List PV) : Nat := (ps.map (fun p => p.t.size + 1)).sum
theorem gapL_len : ∀ m, m < 6 → (gapL.getD m []).length ≤ 3 := by decide
theorem gapR_len (gs : List Int) (i : Nat) : (gapR gs i).length ≤ 3 := by
  unfold gapR
  split
  · simp
  · exact gapL_len _ (modOf_spec 6 (by decide) (by decide) _).2
theorem tailR_len (k : Int) : (tailR k).length ≤ 1 := by unfold tailR; split <;> simp
theorem layS_len (gs : List Int) (ms : List (List UInt8)) : ∀ (ps : List PV) (i : Nat), (segsR (layS gs ms i ps)).length ≤ 44 * sumZ ps
  | [], _ => Nat.zero_le _
  | p :: ps, i => by
    have ih := layS_len gs ms ps (i + 1)
    have h1 := gapR_len gs i
    have h2 : (pieceSeg ms p).body.length ≤ _ := write_len p.k p.n p.t
    have h3 := tailR_len (writeK p.k p.n ms)
    have e : sumZ (p :: ps) = p.t.size + 1 + sumZ ps := by unfold sumZ; rw [List.map_cons, List.sum_cons]
    rw [layS, segsR_append, segsR_cons, segsR_append, gapSegs_R, gapSegs_R, e]
    simp only [List.length_append]
    omega
theorem layS_bytes (gs : List Int) (ms : List (List UInt8)) (ps : List PV) (i : Nat) : (encL (segsR (layS gs ms i ps))).length ≤ 176 * sumZ ps := by
  have h1 := encL_le (segsR (layS gs ms i ps))
  have h2 := layS_len gs ms ps i
  omega
theorem sumZ_ge (ps : List PV) : ps.length ≤ sumZ ps := by
  induction ps with
  | nil => exact Nat.zero_le _
  | cons p ps ih =>
    have e : sumZ (p :: ps) = p.t.size + 1 + sumZ ps := by unfold sumZ; rw [List.map_cons, List.sum_cons]
    rw [e, List.length_cons]; omega
theorem sumZ_mem {ps : List PV} {p : PV} (h : p ∈ ps) : p.t.size + 1 ≤ sumZ ps := by
  induction ps with
  | nil => cases h
  | cons q ps ih =>
    have e : sumZ (q :: ps) = q.t.size + 1 + sumZ ps := by unfold sumZ; rw [List.map_cons, List.sum_cons]
    rw [e]
    rcases List.mem_cons.1 h with rfl | h
    · omega
    · have := ih h; omega

end Go.Proofs.YtplljfbbipeakaaDoor
