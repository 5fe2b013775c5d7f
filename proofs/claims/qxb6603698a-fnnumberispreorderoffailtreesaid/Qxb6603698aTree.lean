/-
  The plain law: no Go in sight. A tree over 0..m by 'par j < j'; sizes and preorder numbers as the Go text gathers them.
-/
namespace Go.Proofs.Qxb6603698a

/-- F, but v at j. -/
def upd {α : Type} (F : Nat → α) (j : Nat) (v : α) : Nat → α := fun i => if i = j then v else F i
theorem upd_at {α : Type} (F : Nat → α) (j : Nat) (v : α) : upd F j v j = v := by simp [upd]
theorem upd_ne {α : Type} (F : Nat → α) (j : Nat) (v : α) {i : Nat} (h : i ≠ j) : upd F j v i = F i := by simp [upd, h]

/-- The sum of s over those c of 1..k for which f holds. -/
def wsum (f : Nat → Bool) (s : Nat → Int) : Nat → Int
  | 0 => 0
  | k + 1 => wsum f s k + (if f (k + 1) = true then s (k + 1) else 0)

/-- How many c of 1..k f holds for. -/
def cnt (f : Nat → Bool) : Nat → Nat
  | 0 => 0
  | k + 1 => cnt f k + (if f (k + 1) = true then 1 else 0)

/-- The sum of s over 0..n-1. -/
def psum (s : Nat → Int) : Nat → Int
  | 0 => 0
  | n + 1 => psum s n + s n

def isKid (par : Nat → Nat) (p c : Nat) : Bool := par c == p
def isBelow (par : Nat → Nat) (p c : Nat) : Bool := decide (par c < p)

theorem wsum_yes {f : Nat → Bool} {s : Nat → Int} {k : Nat} (h : f (k + 1) = true) : wsum f s (k + 1) = wsum f s k + s (k + 1) := by simp [wsum, h]
theorem wsum_no {f : Nat → Bool} {s : Nat → Int} {k : Nat} (h : f (k + 1) = false) : wsum f s (k + 1) = wsum f s k := by simp [wsum, h]
theorem cnt_yes {f : Nat → Bool} {k : Nat} (h : f (k + 1) = true) : cnt f (k + 1) = cnt f k + 1 := by simp [cnt, h]
theorem cnt_no {f : Nat → Bool} {k : Nat} (h : f (k + 1) = false) : cnt f (k + 1) = cnt f k := by simp [cnt, h]

theorem wsum_mono {f : Nat → Bool} {s : Nat → Int} {a b m : Nat} (hs : ∀ c, c ≤ m → 0 ≤ s c) (h : a ≤ b) (hb : b ≤ m) : wsum f s a ≤ wsum f s b := by
  induction b with
  | zero => obtain rfl : a = 0 := by omega
            exact Int.le_refl _
  | succ b ih =>
    by_cases e : a = b + 1
    · subst e; exact Int.le_refl _
    · have h1 := ih (by omega) (by omega)
      have h2 := hs (b + 1) hb
      cases hf : f (b + 1) with
      | true => rw [wsum_yes hf]; omega
      | false => rw [wsum_no hf]; omega

theorem wsum_nonneg {f : Nat → Bool} {s : Nat → Int} {b m : Nat} (hs : ∀ c, c ≤ m → 0 ≤ s c) (hb : b ≤ m) : 0 ≤ wsum f s b := by
  have := wsum_mono (f := f) hs (Nat.zero_le b) hb
  simpa [wsum] using this

theorem wsum_diff_congr {f : Nat → Bool} {s t : Nat → Int} {a b : Nat} (h : a ≤ b) (hc : ∀ c, a < c → c ≤ b → f c = true → s c = t c) : wsum f s b - wsum f s a = wsum f t b - wsum f t a := by
  induction b with
  | zero => obtain rfl : a = 0 := by omega
            simp
  | succ b ih =>
    by_cases e : a = b + 1
    · subst e; simp
    · have h1 := ih (by omega) (fun c h1 h2 => hc c h1 (by omega))
      cases hf : f (b + 1) with
      | true => rw [wsum_yes hf, wsum_yes hf, hc (b + 1) (by omega) (Nat.le_refl _) hf]; omega
      | false => rw [wsum_no hf, wsum_no hf]; omega

theorem wsum_none {f : Nat → Bool} {s : Nat → Int} {b : Nat} (h : ∀ c, 1 ≤ c → c ≤ b → f c = false) : wsum f s b = 0 := by
  induction b with
  | zero => rfl
  | succ b ih => rw [wsum_no (h (b + 1) (by omega) (Nat.le_refl _))]; exact ih (fun c h1 h2 => h c h1 (by omega))

theorem cnt_none {f : Nat → Bool} {b : Nat} (h : ∀ c, 1 ≤ c → c ≤ b → f c = false) : cnt f b = 0 := by
  induction b with
  | zero => rfl
  | succ b ih => rw [cnt_no (h (b + 1) (by omega) (Nat.le_refl _))]; exact ih (fun c h1 h2 => h c h1 (by omega))

theorem cnt_mono {f : Nat → Bool} {a b : Nat} (h : a ≤ b) : cnt f a ≤ cnt f b := by
  induction b with
  | zero => obtain rfl : a = 0 := by omega
            exact Nat.le_refl _
  | succ b ih =>
    by_cases e : a = b + 1
    · subst e; exact Nat.le_refl _
    · have h1 := ih (by omega)
      simp only [cnt]; omega

theorem cnt_le (f : Nat → Bool) (b : Nat) : cnt f b ≤ b := by
  induction b with
  | zero => exact Nat.le_refl _
  | succ b ih => simp only [cnt]; split <;> omega

/-- Where the count stands the sum stands. -/
theorem wsum_of_cnt_le {f : Nat → Bool} {s : Nat → Int} {a b : Nat} (h : a ≤ b) (hc : cnt f a = cnt f b) : wsum f s a = wsum f s b := by
  induction b with
  | zero => obtain rfl : a = 0 := by omega
            rfl
  | succ b ih =>
    by_cases e : a = b + 1
    · subst e; rfl
    · have hm := cnt_mono (f := f) (show a ≤ b by omega)
      cases hf : f (b + 1) with
      | true => rw [cnt_yes hf] at hc; omega
      | false => rw [cnt_no hf] at hc; rw [wsum_no hf]; exact ih (by omega) hc

theorem wsum_of_cnt {f : Nat → Bool} {s : Nat → Int} {a b : Nat} (hc : cnt f a = cnt f b) : wsum f s a = wsum f s b := by
  rcases Nat.le_total a b with h | h
  · exact wsum_of_cnt_le h hc
  · exact (wsum_of_cnt_le h hc.symm).symm

/-- The i-th c for which f holds. -/
theorem cnt_nth {f : Nat → Bool} {b i : Nat} (h : i < cnt f b) : ∃ c, c + 1 ≤ b ∧ f (c + 1) = true ∧ cnt f c = i := by
  induction b with
  | zero => simp [cnt] at h
  | succ b ih =>
    by_cases hi : i < cnt f b
    · obtain ⟨c, h1, h2, h3⟩ := ih hi
      exact ⟨c, by omega, h2, h3⟩
    · cases hf : f (b + 1) with
      | true => rw [cnt_yes hf] at h; exact ⟨b, Nat.le_refl _, hf, by omega⟩
      | false => rw [cnt_no hf] at h; omega

theorem cnt_below_succ (par : Nat → Nat) (p b : Nat) : cnt (isBelow par (p + 1)) b = cnt (isBelow par p) b + cnt (isKid par p) b := by
  induction b with
  | zero => rfl
  | succ b ih =>
    simp only [cnt, ih, isBelow, isKid, decide_eq_true_eq, beq_iff_eq]
    split <;> split <;> split <;> omega

theorem cnt_below_mono (par : Nat → Nat) {p q : Nat} (h : p ≤ q) (b : Nat) : cnt (isBelow par p) b ≤ cnt (isBelow par q) b := by
  induction b with
  | zero => exact Nat.le_refl _
  | succ b ih =>
    have h1 : isBelow par p (b + 1) = true → isBelow par q (b + 1) = true := fun hh => by
      simp only [isBelow, decide_eq_true_eq] at hh ⊢; omega
    simp only [cnt]
    split
    · rw [if_pos (h1 (by assumption))]; omega
    · split <;> omega

theorem psum_nonneg {s : Nat → Int} {n : Nat} (h : ∀ p, p < n → 0 ≤ s p) : 0 ≤ psum s n := by
  induction n with
  | zero => exact Int.le_refl _
  | succ n ih => simp only [psum]; have := ih (fun p hp => h p (by omega)); have := h n (by omega); omega

theorem psum_at {s : Nat → Int} {n p : Nat} (h : ∀ p, p < n → 0 ≤ s p) (hp : p < n) : s p ≤ psum s n := by
  induction n with
  | zero => omega
  | succ n ih =>
    simp only [psum]
    by_cases e : p = n
    · subst e; have := psum_nonneg (s := s) (n := p) (fun q hq => h q (by omega)); omega
    · have := ih (fun q hq => h q (by omega)) (by omega); have := h n (by omega); omega

theorem psum_congr {s t : Nat → Int} {n : Nat} (h : ∀ p, p < n → s p = t p) : psum s n = psum t n := by
  induction n with
  | zero => rfl
  | succ n ih => simp only [psum]; rw [ih (fun p hp => h p (by omega)), h n (by omega)]

theorem psum_upd {s : Nat → Int} {n p : Nat} (hp : p < n) (v : Int) : psum (upd s p v) n = psum s n - s p + v := by
  induction n with
  | zero => omega
  | succ n ih =>
    simp only [psum]
    by_cases e : p = n
    · subst e
      have : psum (upd s p v) p = psum s p := psum_congr (fun q hq => upd_ne s p v (by omega : q ≠ p))
      rw [upd_at, this]
      omega
    · rw [ih (by omega), upd_ne s p v (by omega : n ≠ p)]; omega

/-! ### the tree -/
/-- The parts 0..m, part j under part 'par j', which is smaller. -/
structure Tree (par : Nat → Nat) (m : Nat) : Prop where
  lt : ∀ j, 1 ≤ j → j ≤ m → par j < j

theorem Tree.nokid {par : Nat → Nat} {m : Nat} (t : Tree par m) {p c : Nat} (h1 : 1 ≤ c) (hm : c ≤ m) (hc : c ≤ p) : isKid par p c = false := by
  have := t.lt c h1 hm
  simp [isKid]; omega

/-- The first loop of 'number', parts k..m done: 'to' holds T. -/
structure Down (par : Nat → Nat) (m k : Nat) (T : Nat → Int) : Prop where
  val : ∀ p, p ≤ m → T p = (if k ≤ p then 1 else 0) + (wsum (isKid par p) T m - wsum (isKid par p) T (k - 1))
  nn : ∀ p, p ≤ m → 0 ≤ T p ∧ T p ≤ (m : Int) + 1
  tot : 1 ≤ k → psum T k = (m : Int) + 1 - k
  root : k = 0 → T 0 = (m : Int) + 1

theorem Down.start (par : Nat → Nat) (m : Nat) (T : Nat → Int) (hT : ∀ p, p ≤ m → T p = 0) : Down par m (m + 1) T := by
  refine ⟨fun p hp => ?_, fun p hp => ?_, fun _ => ?_, fun h => by omega⟩
  · rw [hT p hp, if_neg (by omega)]; simp
  · rw [hT p hp]; omega
  · have h0 : psum T (m + 1) = psum (fun _ => 0) (m + 1) := psum_congr (fun p hp => hT p (by omega))
    have h1 : ∀ n, psum (fun _ => 0) n = 0 := fun n => by
      induction n with
      | zero => rfl
      | succ n ih => simp only [psum, ih]; rfl
    rw [h0, h1]; omega

/-- Part k > 0 is counted, and its count goes to its parent. -/
theorem Down.step {par : Nat → Nat} {m k : Nat} {T : Nat → Int} (t : Tree par m) (d : Down par m (k + 1) T) (hk : k ≤ m) (h1 : 1 ≤ k) :
    Down par m k (upd (upd T k (T k + 1)) (par k) (T (par k) + (T k + 1))) := by
  have hlt := t.lt k h1 hk
  have hne : par k ≠ k := by omega
  have htot := d.tot (by omega)
  simp only [psum] at htot
  have hnk := d.nn k hk
  have hnp := d.nn (par k) (by omega)
  have hpk : psum T k = (m : Int) - k - T k := by omega
  have hat := psum_at (s := T) (n := k) (fun p hp => (d.nn p (by omega)).1) hlt
  -- the new values
  have ek : upd (upd T k (T k + 1)) (par k) (T (par k) + (T k + 1)) k = T k + 1 := by rw [upd_ne _ _ _ (by omega : k ≠ par k), upd_at]
  have ep : upd (upd T k (T k + 1)) (par k) (T (par k) + (T k + 1)) (par k) = T (par k) + (T k + 1) := upd_at _ _ _
  have eo : ∀ p, p ≠ k → p ≠ par k → upd (upd T k (T k + 1)) (par k) (T (par k) + (T k + 1)) p = T p := fun p h h' => by rw [upd_ne _ _ _ h', upd_ne _ _ _ h]
  generalize hT' : upd (upd T k (T k + 1)) (par k) (T (par k) + (T k + 1)) = T' at ek ep eo
  have hdiff : ∀ p, wsum (isKid par p) T' m - wsum (isKid par p) T' k = wsum (isKid par p) T m - wsum (isKid par p) T k := fun p =>
    wsum_diff_congr hk (fun c hc _ _ => eo c (by omega) (by omega))
  obtain ⟨k', rfl⟩ : ∃ k', k = k' + 1 := ⟨k - 1, by omega⟩
  have hstep : ∀ p, wsum (isKid par p) T' (k' + 1) = wsum (isKid par p) T' k' + (if p = par (k' + 1) then T (k' + 1) + 1 else 0) := fun p => by
    by_cases e : p = par (k' + 1)
    · rw [wsum_yes (by simp [isKid, e]), ek, if_pos e]
    · rw [wsum_no (by simp [isKid]; omega), if_neg e]; omega
  refine ⟨fun p hp => ?_, fun p hp => ?_, fun _ => ?_, fun h => by omega⟩
  · have hv := d.val p hp
    have hd := hdiff p
    have hs := hstep p
    simp only [Nat.add_sub_cancel] at hv ⊢
    by_cases e1 : p = k' + 1
    · subst e1
      rw [if_neg (by omega)] at hs hv
      rw [ek, if_pos (Nat.le_refl _)]
      omega
    · by_cases e2 : p = par (k' + 1)
      · rw [if_pos e2] at hs
        have : T' p = T p + (T (k' + 1) + 1) := by rw [e2]; exact ep
        rw [if_neg (by omega)] at hv
        rw [this, if_neg (by omega)]
        omega
      · rw [if_neg e2] at hs
        rw [eo p e1 e2]
        by_cases e3 : k' + 1 ≤ p
        · rw [if_pos (by omega)] at hv
          rw [if_pos e3]; omega
        · rw [if_neg (by omega)] at hv
          rw [if_neg e3]; omega
  · by_cases e1 : p = k' + 1
    · subst e1; rw [ek]; have := psum_nonneg (s := T) (n := k' + 1) (fun q hq => (d.nn q (by omega)).1); omega
    · by_cases e2 : p = par (k' + 1)
      · have : T' p = T (par (k' + 1)) + (T (k' + 1) + 1) := by rw [e2]; exact ep
        rw [this]; omega
      · rw [eo p e1 e2]; exact d.nn p hp
  · have h2 : psum T' (k' + 1) = psum (upd T (par (k' + 1)) (T (par (k' + 1)) + (T (k' + 1) + 1))) (k' + 1) := psum_congr (fun q hq => by
      by_cases e : q = par (k' + 1)
      · rw [e, ep, upd_at]
      · rw [eo q (by omega) e, upd_ne _ _ _ e])
    rw [h2, psum_upd hlt]
    omega

/-- Part 0 is counted last. -/
theorem Down.last {par : Nat → Nat} {m : Nat} {T : Nat → Int} (d : Down par m 1 T) : Down par m 0 (upd T 0 (T 0 + 1)) := by
  have htot := d.tot (Nat.le_refl _)
  simp only [psum] at htot
  have hc : ∀ p, wsum (isKid par p) (upd T 0 (T 0 + 1)) m = wsum (isKid par p) T m := fun p => by
    have := wsum_diff_congr (f := isKid par p) (s := upd T 0 (T 0 + 1)) (t := T) (Nat.zero_le m) (fun c hc _ _ => upd_ne _ _ _ (by omega))
    simpa [wsum] using this
  refine ⟨fun p hp => ?_, fun p hp => ?_, fun h => by omega, fun _ => ?_⟩
  · have hv := d.val p hp
    rw [if_pos (Nat.zero_le _), hc]
    simp only [Nat.sub_self, wsum, Int.sub_zero] at hv
    by_cases e : p = 0
    · subst e; rw [if_neg (by omega)] at hv; rw [upd_at]; simp only [wsum, Nat.zero_sub]; omega
    · rw [if_pos (by omega)] at hv; rw [upd_ne _ _ _ e]; simp only [wsum, Nat.zero_sub]; omega
  · by_cases e : p = 0
    · subst e; rw [upd_at]; omega
    · rw [upd_ne _ _ _ e]; exact d.nn p hp
  · rw [upd_at]; omega

/-- S p is the number of parts at and below part p. -/
structure Sized (par : Nat → Nat) (m : Nat) (S : Nat → Int) : Prop where
  val : ∀ p, p ≤ m → S p = 1 + wsum (isKid par p) S m
  root : S 0 = (m : Int) + 1
  bd : ∀ p, p ≤ m → 1 ≤ S p ∧ S p ≤ (m : Int) + 1

theorem Down.sized {par : Nat → Nat} {m : Nat} {T : Nat → Int} (d : Down par m 0 T) : Sized par m T := by
  have hv : ∀ p, p ≤ m → T p = 1 + wsum (isKid par p) T m := fun p hp => by
    have := d.val p hp
    rw [if_pos (Nat.zero_le _)] at this
    simpa [wsum] using this
  refine ⟨hv, d.root rfl, fun p hp => ⟨?_, (d.nn p hp).2⟩⟩
  rw [hv p hp]
  have := wsum_nonneg (f := isKid par p) (s := T) (b := m) (fun c hc => (d.nn c hc).1) (Nat.le_refl _)
  omega

theorem Sized.nn {par : Nat → Nat} {m : Nat} {S : Nat → Int} (z : Sized par m S) : ∀ c, c ≤ m → 0 ≤ S c := fun c hc => by have := (z.bd c hc).1; omega

/-- The second loop, parts 0..j-1 numbered: 'from' holds F, 'free' holds R. -/
structure Fwd (par : Nat → Nat) (m : Nat) (S : Nat → Int) (j : Nat) (F R : Nat → Int) : Prop where
  zero : F 0 = 0
  num : ∀ c, 1 ≤ c → c < j → F c = F (par c) + 1 + wsum (isKid par (par c)) S (c - 1)
  free : ∀ p, p < j → R p = F p + 1 + wsum (isKid par p) S (j - 1)

theorem Fwd.start (par : Nat → Nat) (m : Nat) (S F R : Nat → Int) (hF : F 0 = 0) (hR : R 0 = 1) : Fwd par m S 1 F R := by
  refine ⟨hF, fun c h1 h2 => by omega, fun p hp => ?_⟩
  obtain rfl : p = 0 := by omega
  simp [hF, hR, wsum]

theorem Fwd.step {par : Nat → Nat} {m j : Nat} {S F R : Nat → Int} (t : Tree par m) (f : Fwd par m S j F R) (h1 : 1 ≤ j) (hj : j ≤ m) :
    Fwd par m S (j + 1) (upd F j (R (par j))) (upd (upd R (par j) (R (par j) + S j)) j (R (par j) + 1)) := by
  have hlt := t.lt j h1 hj
  refine ⟨by rw [upd_ne _ _ _ (by omega : 0 ≠ j)]; exact f.zero, fun c hc1 hc2 => ?_, fun p hp => ?_⟩
  · by_cases e : c = j
    · subst e
      rw [upd_at, upd_ne _ _ _ (by omega : par c ≠ c)]
      exact f.free _ hlt
    · have := t.lt c hc1 (by omega)
      rw [upd_ne _ _ _ e, upd_ne _ _ _ (by omega : par c ≠ j)]
      exact f.num c hc1 (by omega)
  · obtain ⟨i, rfl⟩ : ∃ i, j = i + 1 := ⟨j - 1, by omega⟩
    simp only [Nat.add_sub_cancel] at *
    by_cases e : p = i + 1
    · subst e
      rw [upd_at, upd_at]
      have : wsum (isKid par (i + 1)) S (i + 1) = 0 := wsum_none (fun c hc1 hc2 => t.nokid hc1 (by omega) hc2)
      omega
    · rw [upd_ne _ _ _ e, upd_ne _ _ _ e]
      have hf := f.free p (by omega)
      simp only [Nat.add_sub_cancel] at hf
      by_cases e2 : p = par (i + 1)
      · rw [e2, upd_at, ← e2, wsum_yes (by simp [isKid, e2])]; omega
      · rw [upd_ne _ _ _ e2, wsum_no (by simp [isKid]; omega)]; exact hf

/-- What the bounds of int32 ask for, on the way. -/
theorem Fwd.bd {par : Nat → Nat} {m j : Nat} {S F R : Nat → Int} (t : Tree par m) (z : Sized par m S) (f : Fwd par m S j F R) (hj : j ≤ m + 1) : ∀ c, c < j → 0 ≤ F c ∧ F c + S c ≤ (m : Int) + 1 := by
  intro c
  induction c using Nat.strongRecOn with
  | _ c ih =>
    intro hc
    by_cases e : c = 0
    · subst e; rw [f.zero, z.root]; omega
    · obtain ⟨i, rfl⟩ : ∃ i, c = i + 1 := ⟨c - 1, by omega⟩
      have hlt := t.lt (i + 1) (by omega) (by omega)
      have ⟨a, b⟩ := ih (par (i + 1)) hlt (by omega)
      have hn := f.num (i + 1) (by omega) hc
      simp only [Nat.add_sub_cancel] at hn
      have hv := z.val (par (i + 1)) (by omega)
      have hy : wsum (isKid par (par (i + 1))) S (i + 1) = wsum (isKid par (par (i + 1))) S i + S (i + 1) := wsum_yes (by simp [isKid])
      have hmono := wsum_mono (f := isKid par (par (i + 1))) z.nn (show i + 1 ≤ m by omega) (Nat.le_refl _)
      have hnn := wsum_nonneg (f := isKid par (par (i + 1))) z.nn (show i ≤ m by omega)
      omega

theorem Fwd.bdR {par : Nat → Nat} {m j : Nat} {S F R : Nat → Int} (t : Tree par m) (z : Sized par m S) (f : Fwd par m S j F R) (h1 : 1 ≤ j) (hj : j ≤ m) :
    0 ≤ R (par j) ∧ R (par j) + S j ≤ (m : Int) + 1 := by
  have hlt := t.lt j h1 hj
  have ⟨a, b⟩ := f.bd t z (by omega) (par j) hlt
  have hf := f.free (par j) hlt
  have hv := z.val (par j) (by omega)
  obtain ⟨i, rfl⟩ : ∃ i, j = i + 1 := ⟨j - 1, by omega⟩
  simp only [Nat.add_sub_cancel] at hf
  have hy : wsum (isKid par (par (i + 1))) S (i + 1) = wsum (isKid par (par (i + 1))) S i + S (i + 1) := wsum_yes (by simp [isKid])
  have hmono := wsum_mono (f := isKid par (par (i + 1))) z.nn (show i + 1 ≤ m by omega) (Nat.le_refl _)
  have hnn := wsum_nonneg (f := isKid par (par (i + 1))) z.nn (show i ≤ m by omega)
  omega

/-- F numbers the parts, S counts them: what 'number' comes to ('to' is F + S). -/
structure Num (par : Nat → Nat) (m : Nat) (S F : Nat → Int) : Prop where
  tree : Tree par m
  sized : Sized par m S
  zero : F 0 = 0
  num : ∀ c, 1 ≤ c → c ≤ m → F c = F (par c) + 1 + wsum (isKid par (par c)) S (c - 1)

theorem Fwd.done {par : Nat → Nat} {m : Nat} {S F R : Nat → Int} (t : Tree par m) (z : Sized par m S) (f : Fwd par m S (m + 1) F R) : Num par m S F :=
  ⟨t, z, f.zero, fun c h1 h2 => f.num c h1 (by omega)⟩

theorem Num.fwd {par : Nat → Nat} {m : Nat} {S F : Nat → Int} (n : Num par m S F) (j : Nat) (hj : j ≤ m + 1) : Fwd par m S j F (fun p => F p + 1 + wsum (isKid par p) S (j - 1)) :=
  ⟨n.zero, fun c h1 h2 => n.num c h1 (by omega), fun _ _ => rfl⟩

theorem Num.bd {par : Nat → Nat} {m : Nat} {S F : Nat → Int} (n : Num par m S F) (c : Nat) (hc : c ≤ m) : 0 ≤ F c ∧ F c + S c ≤ (m : Int) + 1 :=
  (n.fwd (m + 1) (Nat.le_refl _)).bd n.tree n.sized (Nat.le_refl _) c (by omega)

/-- A part's interval lies strictly inside its parent's. -/
theorem Num.nest {par : Nat → Nat} {m : Nat} {S F : Nat → Int} (n : Num par m S F) (c : Nat) (h1 : 1 ≤ c) (hc : c ≤ m) : F (par c) < F c ∧ F c + S c ≤ F (par c) + S (par c) := by
  have hlt := n.tree.lt c h1 hc
  have hn := n.num c h1 hc
  have hv := n.sized.val (par c) (by omega)
  obtain ⟨i, rfl⟩ : ∃ i, c = i + 1 := ⟨c - 1, by omega⟩
  simp only [Nat.add_sub_cancel] at hn
  have hy : wsum (isKid par (par (i + 1))) S (i + 1) = wsum (isKid par (par (i + 1))) S i + S (i + 1) := wsum_yes (by simp [isKid])
  have hmono := wsum_mono (f := isKid par (par (i + 1))) n.sized.nn (show i + 1 ≤ m by omega) (Nat.le_refl _)
  have hnn := wsum_nonneg (f := isKid par (par (i + 1))) n.sized.nn (show i ≤ m by omega)
  omega

/-- What is still free below part p once the parts below j are numbered begins here. -/
def fr (par : Nat → Nat) (S F : Nat → Int) (j p : Nat) : Int := F p + 1 + wsum (isKid par p) S (j - 1)

/-- No two of the parts below j share a number, or a number that is still free. -/
def Apart (par : Nat → Nat) (S F : Nat → Int) (j : Nat) : Prop :=
  ∀ p q, p < j → q < j → p ≠ q → F p ≠ F q ∧ ¬ (fr par S F j q ≤ F p ∧ F p < F q + S q) ∧ ∀ x, ¬ (fr par S F j p ≤ x ∧ x < F p + S p ∧ fr par S F j q ≤ x ∧ x < F q + S q)

theorem Num.apart {par : Nat → Nat} {m : Nat} {S F : Nat → Int} (n : Num par m S F) : ∀ j, 1 ≤ j → j ≤ m + 1 → Apart par S F j := by
  intro j h1
  induction j with
  | zero => omega
  | succ j ih =>
    intro hj
    by_cases e0 : j = 0
    · subst e0; intro p q hp hq hpq; omega
    · have ih := ih (by omega) (by omega)
      have hlt := n.tree.lt j (by omega) (by omega)
      have hn := n.num j (by omega) (by omega)
      have hv := n.sized.val (par j) (by omega)
      have hb := (n.sized.bd j (by omega)).1
      have efr : fr par S F j (par j) = F j := by unfold fr; omega
      -- how the free places turn
      have hfrj : fr par S F (j + 1) j = F j + 1 := by
        unfold fr
        have : wsum (isKid par j) S (j + 1 - 1) = 0 := wsum_none (fun c hc1 hc2 => n.tree.nokid hc1 (by omega) (by omega))
        omega
      obtain ⟨i, rfl⟩ : ∃ i, j = i + 1 := ⟨j - 1, by omega⟩
      have hfru : fr par S F (i + 1 + 1) (par (i + 1)) = F (i + 1) + S (i + 1) := by
        unfold fr at efr ⊢
        simp only [Nat.add_sub_cancel] at efr ⊢
        rw [wsum_yes (by simp [isKid])]; omega
      have hfro : ∀ p, p ≠ par (i + 1) → fr par S F (i + 1 + 1) p = fr par S F (i + 1) p := fun p hp => by
        unfold fr
        simp only [Nat.add_sub_cancel]
        rw [wsum_no (by simp [isKid]; omega)]
      have hend := (n.nest (i + 1) (by omega) (by omega)).2
      have hself : F (par (i + 1)) < fr par S F (i + 1) (par (i + 1)) := by rw [efr]; exact (n.nest (i + 1) (by omega) (by omega)).1
      -- the new part against an old one
      have key : ∀ p, p < i + 1 → F p ≠ F (i + 1) ∧ ¬ (F (i + 1) ≤ F p ∧ F p < F (i + 1) + S (i + 1)) ∧ ¬ (fr par S F (i + 1 + 1) p ≤ F (i + 1) ∧ F (i + 1) < F p + S p) ∧
          ∀ x, ¬ (fr par S F (i + 1 + 1) p ≤ x ∧ x < F p + S p ∧ F (i + 1) + 1 ≤ x ∧ x < F (i + 1) + S (i + 1)) := fun p hp => by
        by_cases e : p = par (i + 1)
        · subst e
          rw [hfru]
          exact ⟨by omega, by omega, by omega, fun x => by omega⟩
        · rw [hfro p e]
          have ⟨_, a2, a3⟩ := ih p (par (i + 1)) hp hlt e
          rw [efr] at a2
          have a4 := a3 (F (i + 1))
          rw [efr] at a4
          refine ⟨by omega, by omega, by omega, fun x => ?_⟩
          have := a3 x
          rw [efr] at this
          omega
      intro p q hp hq hpq
      by_cases ep : p = i + 1
      · subst ep
        have ⟨k1, k2, k3, k4⟩ := key q (by omega)
        rw [hfrj]
        exact ⟨by omega, k3, fun x => by have := k4 x; omega⟩
      · by_cases eq : q = i + 1
        · subst eq
          have ⟨k1, k2, k3, k4⟩ := key p (by omega)
          rw [hfrj]
          exact ⟨k1, by omega, fun x => by have := k4 x; omega⟩
        · have ⟨a1, a2, a3⟩ := ih p q (by omega) (by omega) hpq
          have shr : ∀ r, r < i + 1 → fr par S F (i + 1) r ≤ fr par S F (i + 1 + 1) r := fun r _ => by
            by_cases e : r = par (i + 1)
            · subst e; rw [hfru, efr]; omega
            · rw [hfro r e]; exact Int.le_refl _
          have s1 := shr p (by omega)
          have s2 := shr q (by omega)
          exact ⟨a1, by omega, fun x => by have := a3 x; omega⟩

/-- No two parts bear one number. -/
theorem Num.inj {par : Nat → Nat} {m : Nat} {S F : Nat → Int} (n : Num par m S F) {p q : Nat} (hp : p ≤ m) (hq : q ≤ m) (h : F p = F q) : p = q := by
  by_cases e : p = q
  · exact e
  · exact absurd h (n.apart (m + 1) (by omega) (Nat.le_refl _) p q (by omega) (by omega) e).1
end Go.Proofs.Qxb6603698a
