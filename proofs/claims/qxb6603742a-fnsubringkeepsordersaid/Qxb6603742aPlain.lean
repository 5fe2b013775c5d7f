/-
  The plain laws: no Go in sight. Comparing word lists; taking nodes out of one list of words; subrings.
-/
namespace Go.Proofs.Qxb6603742a

/-- F, but v at j. -/
def upd {α : Type} (F : Nat → α) (j : Nat) (v : α) : Nat → α := fun i => if i = j then v else F i
theorem upd_at {α : Type} (F : Nat → α) (j : Nat) (v : α) : upd F j v j = v := by simp [upd]
theorem upd_ne {α : Type} (F : Nat → α) (j : Nat) (v : α) {i : Nat} (h : i ≠ j) : upd F j v i = F i := by simp [upd, h]

/-! ### comparing -/
/-- Word by word, then the shorter first. -/
def cmpL : List Int → List Int → Int
  | [], [] => 0
  | [], _ :: _ => -1
  | _ :: _, [] => 1
  | x :: xs, y :: ys => if x < y then -1 else if y < x then 1 else cmpL xs ys

theorem cmpL_cases : ∀ (a b : List Int), cmpL a b = -1 ∨ cmpL a b = 0 ∨ cmpL a b = 1
  | [], [] => .inr (.inl rfl)
  | [], _ :: _ => .inl rfl
  | _ :: _, [] => .inr (.inr rfl)
  | x :: xs, y :: ys => by
    simp only [cmpL]
    split
    · exact .inl rfl
    · split
      · exact .inr (.inr rfl)
      · exact cmpL_cases xs ys

theorem cmpL_self : ∀ a : List Int, cmpL a a = 0
  | [] => rfl
  | x :: xs => by simp only [cmpL]; rw [if_neg (by omega), if_neg (by omega)]; exact cmpL_self xs

theorem cmpL_eq : ∀ {a b : List Int}, cmpL a b = 0 → a = b
  | [], [], _ => rfl
  | [], _ :: _, h => by simp [cmpL] at h
  | _ :: _, [], h => by simp [cmpL] at h
  | x :: xs, y :: ys, h => by
    simp only [cmpL] at h
    by_cases h1 : x < y
    · rw [if_pos h1] at h; omega
    · rw [if_neg h1] at h
      by_cases h2 : y < x
      · rw [if_pos h2] at h; omega
      · rw [if_neg h2] at h
        rw [show x = y by omega, cmpL_eq h]

theorem cmpL_swap : ∀ a b : List Int, cmpL b a = - cmpL a b
  | [], [] => rfl
  | [], _ :: _ => rfl
  | _ :: _, [] => rfl
  | x :: xs, y :: ys => by
    simp only [cmpL]
    by_cases h1 : x < y
    · rw [if_pos h1, if_neg (by omega), if_pos h1]; omega
    · by_cases h2 : y < x
      · rw [if_pos h2, if_neg h1, if_pos h2]
      · rw [if_neg h1, if_neg h2, if_neg h2, if_neg h1]; exact cmpL_swap xs ys

theorem cmpL_trans : ∀ {a b c : List Int}, cmpL a b ≤ 0 → cmpL b c ≤ 0 → cmpL a c ≤ 0 ∧ ((cmpL a b < 0 ∨ cmpL b c < 0) → cmpL a c < 0)
  | [], [], c, _, h2 => ⟨h2, fun h => by rcases h with h | h
                                         · simp [cmpL] at h
                                         · exact h⟩
  | [], _ :: _, [], _, h2 => by simp [cmpL] at h2
  | [], _ :: _, _ :: _, _, _ => by simp [cmpL]
  | _ :: _, [], _, h1, _ => by simp [cmpL] at h1
  | _ :: _, _ :: _, [], _, h2 => by simp [cmpL] at h2
  | x :: xs, y :: ys, z :: zs, h1, h2 => by
    simp only [cmpL] at h1 h2 ⊢
    by_cases a1 : x < y
    · by_cases b1 : y < z
      · rw [if_pos (show x < z by omega)]; omega
      · rw [if_neg b1] at h2
        by_cases b2 : z < y
        · rw [if_pos b2] at h2; omega
        · rw [if_pos (show x < z by omega)]; omega
    · rw [if_neg a1] at h1 ⊢
      by_cases a2 : y < x
      · rw [if_pos a2] at h1; omega
      · rw [if_neg a2] at h1 ⊢
        by_cases b1 : y < z
        · rw [if_pos (show x < z by omega)]; omega
        · rw [if_neg b1] at h2 ⊢
          by_cases b2 : z < y
          · rw [if_pos b2] at h2; omega
          · rw [if_neg b2] at h2 ⊢
            rw [if_neg (show ¬ x < z by omega), if_neg (show ¬ z < x by omega)]
            exact cmpL_trans h1 h2

theorem cmpL_step {xs ys : List Int} {k : Nat} (h1 : k < xs.length) (h2 : k < ys.length) :
    cmpL (xs.drop k) (ys.drop k) = if xs.getD k 0 < ys.getD k 0 then -1 else if ys.getD k 0 < xs.getD k 0 then 1 else cmpL (xs.drop (k + 1)) (ys.drop (k + 1)) := by
  rw [List.drop_eq_getElem_cons h1, List.drop_eq_getElem_cons h2]
  simp only [cmpL, List.getD, List.getElem?_eq_getElem h1, List.getElem?_eq_getElem h2, Option.getD_some]

theorem cmpL_end {xs ys : List Int} {k : Nat} (h : xs.length ≤ k ∨ ys.length ≤ k) (h1 : k ≤ xs.length) (h2 : k ≤ ys.length) :
    cmpL (xs.drop k) (ys.drop k) = if xs.length < ys.length then -1 else if ys.length < xs.length then 1 else 0 := by
  by_cases e1 : xs.length ≤ k
  · rw [List.drop_eq_nil_of_le e1]
    by_cases e2 : ys.length ≤ k
    · rw [List.drop_eq_nil_of_le e2, if_neg (by omega), if_neg (by omega)]; rfl
    · rw [List.drop_eq_getElem_cons (by omega), if_pos (by omega)]; rfl
  · have e2 : ys.length ≤ k := by omega
    rw [List.drop_eq_nil_of_le e2, List.drop_eq_getElem_cons (by omega), if_neg (by omega), if_pos (by omega)]; rfl

theorem eq_step {xs ys : List Int} {k : Nat} (h1 : k < xs.length) (h2 : k < ys.length) (he : xs.getD k 0 = ys.getD k 0) : (xs.drop k = ys.drop k ↔ xs.drop (k + 1) = ys.drop (k + 1)) := by
  rw [List.drop_eq_getElem_cons h1, List.drop_eq_getElem_cons h2]
  simp only [List.getD, List.getElem?_eq_getElem h1, List.getElem?_eq_getElem h2, Option.getD_some] at he
  rw [he]; simp only [List.cons.injEq, true_and]

theorem ne_step {xs ys : List Int} {k : Nat} (he : xs.getD k 0 ≠ ys.getD k 0) : xs ≠ ys := fun h => he (by rw [h])

/-! ### nodes: L words each -/
/-- The i-th L words. -/
def nd {α : Type} (L : Nat) (xs : List α) (i : Nat) : List α := (xs.drop (i * L)).take L

theorem nd_length {α : Type} {L : Nat} {xs : List α} {i : Nat} (h : (i + 1) * L ≤ xs.length) : (nd L xs i).length = L := by
  have : (i + 1) * L = i * L + L := Nat.succ_mul i L
  simp only [nd, List.length_take, List.length_drop]; omega

theorem nd_getD {L : Nat} {xs : List Int} {i j : Nat} (hj : j < L) : (nd L xs i).getD j 0 = xs.getD (i * L + j) 0 := by
  simp only [nd, List.getD, List.getElem?_take, hj, if_true, List.getElem?_drop]

/-- The ids ascend. -/
def Asc (L : Nat) (xs : List Int) (n : Nat) : Prop := ∀ i, 1 ≤ i → i < n → cmpL (nd L xs (i - 1)) (nd L xs i) ≤ 0

theorem Asc.le {L : Nat} {xs : List Int} {n : Nat} (h : Asc L xs n) : ∀ j i, i ≤ j → j < n → cmpL (nd L xs i) (nd L xs j) ≤ 0 := by
  intro j
  induction j with
  | zero => intro i hi _; obtain rfl : i = 0 := by omega
            rw [cmpL_self]; exact Int.le_refl _
  | succ j ih =>
    intro i hi hj
    by_cases e : i = j + 1
    · rw [e, cmpL_self]; exact Int.le_refl _
    · exact (cmpL_trans (ih i (by omega) (by omega)) (h (j + 1) (by omega) hj)).1

theorem Asc.mono {L : Nat} {xs : List Int} {n : Nat} (h : Asc L xs n) {p : List Int} {i j : Nat} (hij : i ≤ j) (hj : j < n) (hc : cmpL (nd L xs j) p < 0) : cmpL (nd L xs i) p < 0 :=
  (cmpL_trans (h.le j i hij hj) (Int.le_of_lt hc)).2 (.inr hc)

/-! ### what a mask takes -/
/-- The pieces f i of those i below k that the mask keeps, one behind the other. -/
def sel {α : Type} (f : Nat → List α) (kp : List Bool) : Nat → List α
  | 0 => []
  | k + 1 => sel f kp k ++ (if kp.getD k false = true then f k else [])

/-- How many of the first k the mask keeps. -/
def rank (kp : List Bool) : Nat → Nat
  | 0 => 0
  | k + 1 => rank kp k + (if kp.getD k false = true then 1 else 0)

theorem sel_yes {α : Type} {f : Nat → List α} {kp : List Bool} {k : Nat} (h : kp.getD k false = true) : sel f kp (k + 1) = sel f kp k ++ f k := by simp only [sel, h, if_true]
theorem sel_no {α : Type} {f : Nat → List α} {kp : List Bool} {k : Nat} (h : kp.getD k false = false) : sel f kp (k + 1) = sel f kp k := by simp only [sel, h]; simp
theorem rank_yes {kp : List Bool} {k : Nat} (h : kp.getD k false = true) : rank kp (k + 1) = rank kp k + 1 := by simp only [rank, h, if_true]
theorem rank_no {kp : List Bool} {k : Nat} (h : kp.getD k false = false) : rank kp (k + 1) = rank kp k := by simp only [rank, h]; simp

theorem rank_le (kp : List Bool) (k : Nat) : rank kp k ≤ k := by
  induction k with
  | zero => exact Nat.le_refl _
  | succ k ih => simp only [rank]; split <;> omega
theorem rank_mono (kp : List Bool) {a b : Nat} (h : a ≤ b) : rank kp a ≤ rank kp b := by
  induction b with
  | zero => obtain rfl : a = 0 := by omega
            exact Nat.le_refl _
  | succ b ih =>
    by_cases e : a = b + 1
    · rw [e]; exact Nat.le_refl _
    · have := ih (by omega); simp only [rank]; omega

theorem sel_length {α : Type} {f : Nat → List α} {kp : List Bool} {L n : Nat} (hf : ∀ i, i < n → (f i).length = L) : ∀ k, k ≤ n → (sel f kp k).length = rank kp k * L := by
  intro k
  induction k with
  | zero => intro _; simp [sel, rank]
  | succ k ih =>
    intro hk
    cases h : kp.getD k false with
    | true => rw [sel_yes h, rank_yes h, List.length_append, ih (by omega), hf k (by omega), Nat.succ_mul]
    | false => rw [sel_no h, rank_no h]; exact ih (by omega)

theorem sel_prefix {α : Type} {f : Nat → List α} {kp : List Bool} {a b : Nat} (h : a ≤ b) : ∃ r, sel f kp b = sel f kp a ++ r := by
  induction b with
  | zero => obtain rfl : a = 0 := by omega
            exact ⟨[], by simp⟩
  | succ b ih =>
    by_cases e : a = b + 1
    · subst e; exact ⟨[], by simp⟩
    · obtain ⟨r, hr⟩ := ih (by omega)
      exact ⟨r ++ (if kp.getD b false = true then f b else []), by simp only [sel]; rw [hr, List.append_assoc]⟩

/-- The kept node k stands in the subring at k's rank. -/
theorem nd_sel {α : Type} {f : Nat → List α} {kp : List Bool} {L n k : Nat} (hf : ∀ i, i < n → (f i).length = L) (hk : k < n) (h : kp.getD k false = true) : nd L (sel f kp n) (rank kp k) = f k := by
  obtain ⟨r, hr⟩ := sel_prefix (f := f) (kp := kp) (show k + 1 ≤ n by omega)
  have hl := sel_length hf k (by omega) (kp := kp)
  rw [hr, sel_yes h]
  unfold nd
  rw [List.append_assoc, ← hl, List.drop_left, List.take_append_of_le_length (by rw [hf k hk]; exact Nat.le_refl _), List.take_of_length_le (by rw [hf k hk]; exact Nat.le_refl _)]

/-- Beyond the mask's end nothing is kept. -/
theorem sel_beyond {α : Type} {f : Nat → List α} {kp : List Bool} {a b : Nat} (h : a ≤ b) (ha : kp.length ≤ a) : sel f kp b = sel f kp a := by
  induction b with
  | zero => obtain rfl : a = 0 := by omega
            rfl
  | succ b ih =>
    by_cases e : a = b + 1
    · rw [e]
    · rw [sel_no (by simp [List.getD, List.getElem?_eq_none (show kp.length ≤ b by omega)])]; exact ih (by omega)

/-- 'both' keeps i where k1 keeps i and k2 keeps i's rank. -/
def Both (k1 k2 both : List Bool) (n : Nat) : Prop := ∀ i, i < n → both.getD i false = (k1.getD i false && k2.getD (rank k1 i) false)

theorem sel_both {α : Type} {xs : List α} {k1 k2 both : List Bool} {L n : Nat} (hL : n * L ≤ xs.length) (hb : Both k1 k2 both n) (hk2 : k2.length ≤ rank k1 n) :
    sel (nd L (sel (nd L xs) k1 n)) k2 k2.length = sel (nd L xs) both n := by
  have hf : ∀ i, i < n → (nd L xs i).length = L := fun i hi => nd_length (Nat.le_trans (Nat.mul_le_mul_right L hi) hL)
  rw [← sel_beyond hk2 (Nat.le_refl _)]
  have : ∀ k, k ≤ n → sel (nd L (sel (nd L xs) k1 n)) k2 (rank k1 k) = sel (nd L xs) both k := by
    intro k
    induction k with
    | zero => intro _; rfl
    | succ k ih =>
      intro hk
      have hbk := hb k (by omega)
      cases h1 : k1.getD k false with
      | true =>
        rw [rank_yes h1]
        rw [h1, Bool.true_and] at hbk
        cases h2 : k2.getD (rank k1 k) false with
        | true => rw [sel_yes h2, sel_yes (hbk.trans h2), ih (by omega), nd_sel hf (by omega) h1]
        | false => rw [sel_no h2, sel_no (hbk.trans h2)]; exact ih (by omega)
      | false =>
        rw [rank_no h1]
        rw [h1, Bool.false_and] at hbk
        rw [sel_no hbk]; exact ih (by omega)
  exact this n (Nat.le_refl _)

/-- The j-th kept. -/
theorem rank_nth {kp : List Bool} {n j : Nat} (h : j < rank kp n) : ∃ k, k < n ∧ kp.getD k false = true ∧ rank kp k = j := by
  induction n with
  | zero => simp [rank] at h
  | succ n ih =>
    by_cases hj : j < rank kp n
    · obtain ⟨k, h1, h2, h3⟩ := ih hj
      exact ⟨k, by omega, h2, h3⟩
    · cases hk : kp.getD n false with
      | true => rw [rank_yes hk] at h; exact ⟨n, by omega, hk, by omega⟩
      | false => rw [rank_no hk] at h; omega

/-- A subring of a ring whose ids ascend has ids that ascend. -/
theorem Asc.sel {L : Nat} {xs : List Int} {kp : List Bool} {n N : Nat} (h : Asc L xs N) (hn : n ≤ N) (hL : n * L ≤ xs.length) : Asc L (sel (nd L xs) kp n) (rank kp n) := by
  have hf : ∀ i, i < n → (nd L xs i).length = L := fun i hi => nd_length (Nat.le_trans (Nat.mul_le_mul_right L hi) hL)
  intro i h1 h2
  obtain ⟨k1, a1, a2, a3⟩ := rank_nth (kp := kp) (n := n) (j := i - 1) (by omega)
  obtain ⟨k2, b1, b2, b3⟩ := rank_nth (kp := kp) (n := n) (j := i) h2
  have hlt : k1 ≤ k2 := by
    by_cases e : k1 ≤ k2
    · exact e
    · have := rank_mono kp (show k2 ≤ k1 by omega); omega
  have e1 := nd_sel hf a1 a2
  have e2 := nd_sel hf b1 b2
  rw [a3] at e1
  rw [b3] at e2
  rw [e1, e2]
  exact h.le k2 k1 hlt (by omega)

/-- What the search gives: the first node not below p. -/
structure Found (L : Nat) (xs : List Int) (n : Nat) (p : List Int) (lo : Nat) : Prop where
  le : lo ≤ n
  low : ∀ i, i < lo → cmpL (nd L xs i) p < 0
  high : ∀ i, lo ≤ i → i < n → ¬ cmpL (nd L xs i) p < 0

/-- A node that is there is found. -/
theorem Found.hit {L : Nat} {xs : List Int} {n lo j : Nat} {p : List Int} (h : Asc L xs n) (f : Found L xs n p lo) (hj : j < n) (hp : nd L xs j = p) : lo < n ∧ nd L xs lo = p := by
  have h0 : cmpL (nd L xs j) p = 0 := by rw [hp]; exact cmpL_self p
  have hlo : lo ≤ j := by
    by_cases e : lo ≤ j
    · exact e
    · have := f.low j (by omega); omega
  refine ⟨by omega, ?_⟩
  have a := f.high lo (Nat.le_refl _) (by omega)
  have b := h.le j lo hlo hj
  rw [hp] at b
  exact cmpL_eq (by omega)
end Go.Proofs.Qxb6603742a
