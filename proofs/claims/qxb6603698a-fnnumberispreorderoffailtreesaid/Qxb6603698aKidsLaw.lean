/-
  The plain law of 'zzChildren' (a counting sort of the parts by their parent) and of the depth-first walk.
-/
import Derived.Test.Qxb6603698aTree
namespace Go.Proofs.Qxb6603698a

/-- Where the children of p begin. -/
def first (par : Nat → Nat) (m p : Nat) : Nat := cnt (isBelow par p) m
/-- Where part c stands among all children. -/
def pos (par : Nat → Nat) (m c : Nat) : Nat := first par m (par c) + cnt (isKid par (par c)) (c - 1)

theorem first_zero (par : Nat → Nat) (m : Nat) : first par m 0 = 0 := cnt_none (fun c _ _ => by simp [isBelow])
theorem first_succ (par : Nat → Nat) (m p : Nat) : first par m (p + 1) = first par m p + cnt (isKid par p) m := cnt_below_succ par p m
theorem first_le (par : Nat → Nat) (m p : Nat) : first par m p ≤ m := cnt_le _ _
theorem first_mono (par : Nat → Nat) (m : Nat) {p q : Nat} (h : p ≤ q) : first par m p ≤ first par m q := cnt_below_mono par h m

theorem cnt_self (par : Nat → Nat) (c : Nat) (h1 : 1 ≤ c) : cnt (isKid par (par c)) c = cnt (isKid par (par c)) (c - 1) + 1 := by
  obtain ⟨i, rfl⟩ : ∃ i, c = i + 1 := ⟨c - 1, by omega⟩
  rw [cnt_yes (by simp [isKid])]; rfl

theorem pos_lt_next (par : Nat → Nat) (m c : Nat) (h1 : 1 ≤ c) (hc : c ≤ m) : pos par m c < first par m (par c + 1) := by
  rw [first_succ]
  have := cnt_self par c h1
  have := cnt_mono (f := isKid par (par c)) hc
  unfold pos; omega

theorem pos_lt (par : Nat → Nat) (m c : Nat) (h1 : 1 ≤ c) (hc : c ≤ m) : pos par m c < m :=
  Nat.lt_of_lt_of_le (pos_lt_next par m c h1 hc) (first_le _ _ _)

theorem pos_ne (par : Nat → Nat) (m : Nat) {c d : Nat} (h1 : 1 ≤ c) (hcd : c < d) (hd : d ≤ m) : pos par m c ≠ pos par m d := by
  rcases Nat.lt_trichotomy (par c) (par d) with h | h | h
  · have a := pos_lt_next par m c h1 (by omega)
    have b := first_mono par m (show par c + 1 ≤ par d by omega)
    have e : first par m (par d) ≤ pos par m d := Nat.le_add_right _ _
    omega
  · have a := cnt_self par c h1
    have b := cnt_mono (f := isKid par (par c)) (show c ≤ d - 1 by omega)
    unfold pos
    rw [← h]
    omega
  · have a := pos_lt_next par m d (by omega) hd
    have b := first_mono par m (show par d + 1 ≤ par c by omega)
    have e : first par m (par c) ≤ pos par m c := Nat.le_add_right _ _
    omega

/-- The first loop: start[q+1] counts the children of q among the first parts. -/
structure LoopA (par : Nat → Nat) (m j : Nat) (C : Nat → Nat) : Prop where
  zero : C 0 = 0
  succ : ∀ q, q ≤ m → C (q + 1) = cnt (isKid par q) (j - 1)

theorem LoopA.start (par : Nat → Nat) (m : Nat) : LoopA par m 1 (fun _ => 0) := ⟨rfl, fun _ _ => rfl⟩
theorem LoopA.step {par : Nat → Nat} {m j : Nat} {C : Nat → Nat} (h : LoopA par m j C) (h1 : 1 ≤ j) : LoopA par m (j + 1) (upd C (par j + 1) (C (par j + 1) + 1)) := by
  obtain ⟨i, rfl⟩ : ∃ i, j = i + 1 := ⟨j - 1, by omega⟩
  refine ⟨by rw [upd_ne _ _ _ (by omega)]; exact h.zero, fun q hq => ?_⟩
  have := h.succ q hq
  simp only [Nat.add_sub_cancel] at this ⊢
  by_cases e : q = par (i + 1)
  · rw [← e, upd_at, this, cnt_yes (by simp [isKid, e])]
  · rw [upd_ne _ _ _ (by omega), this, cnt_no (by simp [isKid]; omega)]

/-- The second loop: the counts become places. -/
structure LoopB (par : Nat → Nat) (m p : Nat) (C : Nat → Nat) : Prop where
  low : ∀ q, q ≤ p → C q = first par m q
  high : ∀ q, p ≤ q → q ≤ m → C (q + 1) = cnt (isKid par q) m

theorem LoopA.toB {par : Nat → Nat} {m : Nat} {C : Nat → Nat} (h : LoopA par m (m + 1) C) : LoopB par m 0 C :=
  ⟨fun q hq => by obtain rfl : q = 0 := by omega
                  rw [h.zero, first_zero], fun q _ hq => h.succ q hq⟩
theorem LoopB.step {par : Nat → Nat} {m p : Nat} {C : Nat → Nat} (h : LoopB par m p C) (hp : p ≤ m) : LoopB par m (p + 1) (upd C (p + 1) (C (p + 1) + C p)) := by
  refine ⟨fun q hq => ?_, fun q h1 h2 => ?_⟩
  · by_cases e : q = p + 1
    · rw [e, upd_at, h.low p (Nat.le_refl _), h.high p (Nat.le_refl _) hp, first_succ]; omega
    · rw [upd_ne _ _ _ e]; exact h.low q (by omega)
  · rw [upd_ne _ _ _ (by omega)]; exact h.high q (by omega) h2

/-- The last loop: part j goes to its place. -/
structure LoopD (par : Nat → Nat) (m j : Nat) (K D : Nat → Nat) : Prop where
  next : ∀ q, q ≤ m → D q = first par m q + cnt (isKid par q) (j - 1)
  kids : ∀ c, 1 ≤ c → c < j → K (pos par m c) = c

theorem LoopD.start (par : Nat → Nat) (m : Nat) (K D : Nat → Nat) (hD : ∀ q, q ≤ m → D q = first par m q) : LoopD par m 1 K D :=
  ⟨fun q hq => hD q hq, fun c h1 h2 => by omega⟩
theorem LoopD.at {par : Nat → Nat} {m j : Nat} {K D : Nat → Nat} (h : LoopD par m j K D) (hp : par j ≤ m) : D (par j) = pos par m j := h.next _ hp
theorem LoopD.step {par : Nat → Nat} {m j : Nat} {K D : Nat → Nat} (h : LoopD par m j K D) (h1 : 1 ≤ j) (hj : j ≤ m) : LoopD par m (j + 1) (upd K (pos par m j) j) (upd D (par j) (D (par j) + 1)) := by
  refine ⟨fun q hq => ?_, fun c hc1 hc2 => ?_⟩
  · obtain ⟨i, rfl⟩ : ∃ i, j = i + 1 := ⟨j - 1, by omega⟩
    have := h.next q hq
    simp only [Nat.add_sub_cancel] at this ⊢
    by_cases e : q = par (i + 1)
    · rw [← e, upd_at, this, cnt_yes (by simp [isKid, e])]; omega
    · rw [upd_ne _ _ _ e, this, cnt_no (by simp [isKid]; omega)]
  · by_cases e : c = j
    · subst e; rw [upd_at]
    · rw [upd_ne _ _ _ (pos_ne par m hc1 (by omega : c < j) hj)]; exact h.kids c hc1 (by omega)

/-- kids holds every part at its place. -/
def Kids (par : Nat → Nat) (m : Nat) (K : Nat → Nat) : Prop := ∀ c, 1 ≤ c → c ≤ m → K (pos par m c) = c

/-- Every place among the children of x holds a child of x, of that rank. -/
theorem Kids.at {par : Nat → Nat} {m x i : Nat} {K : Nat → Nat} (h : Kids par m K) (h1 : first par m x ≤ i) (h2 : i < first par m (x + 1)) :
    ∃ c, 1 ≤ c ∧ c ≤ m ∧ par c = x ∧ K i = c ∧ cnt (isKid par x) (c - 1) = i - first par m x := by
  rw [first_succ] at h2
  obtain ⟨c, hc, hf, hn⟩ := cnt_nth (f := isKid par x) (b := m) (i := i - first par m x) (by omega)
  have hp : par (c + 1) = x := by simpa [isKid] using hf
  refine ⟨c + 1, by omega, hc, hp, ?_, by simpa using hn⟩
  have := h (c + 1) (by omega) hc
  unfold pos at this
  rw [hp] at this
  simp only [Nat.add_sub_cancel, hn] at this
  rwa [show first par m x + (i - first par m x) = i by omega] at this

/-! ### the walk: what the stack holds -/
/-- The stack's list, its top first. -/
def stk (s : Nat → Int) : Nat → List Int
  | 0 => []
  | t + 1 => s t :: stk s t

theorem stk_congr {s s' : Nat → Int} {t : Nat} (h : ∀ i, i < t → s i = s' i) : stk s t = stk s' t := by
  induction t with
  | zero => rfl
  | succ t ih => simp only [stk]; rw [h t (by omega), ih (fun i hi => h i (by omega))]

theorem stk_push (s : Nat → Int) (t : Nat) (v : Int) : stk (upd s t v) (t + 1) = v :: stk s t := by
  simp only [stk, upd_at]
  rw [stk_congr (fun i hi => upd_ne s t v (by omega : i ≠ t))]

theorem stk_length (s : Nat → Int) (t : Nat) : (stk s t).length = t := by
  induction t with
  | zero => rfl
  | succ t ih => simp [stk, ih]

/-- The counter's way down the stack: at a part it stands at the part's number and goes on behind its subtree; at a mark (^x) it stands where x's subtree ends. -/
def chain (S F : Nat → Int) (m : Nat) : List Int → Int → Prop
  | [], c => c = (m : Int) + 1
  | x :: L, c => (0 ≤ x ∧ x ≤ m ∧ c = F x.toNat ∧ chain S F m L (F x.toNat + S x.toNat)) ∨ (x < 0 ∧ -x - 1 ≤ m ∧ c = F (-x - 1).toNat + S (-x - 1).toNat ∧ chain S F m L c)

/-- How many marks. -/
def negs : List Int → Nat
  | [] => 0
  | x :: L => negs L + (if x < 0 then 1 else 0)

theorem chain_room {S F : Nat → Int} {m : Nat} (hS : ∀ c, c ≤ m → 1 ≤ S c) : ∀ (L : List Int) (c : Int), chain S F m L c → c + ((L.length : Int) - negs L) ≤ (m : Int) + 1
  | [], c, h => by simp only [chain] at h; simp [negs]; omega
  | x :: L, c, h => by
    simp only [chain] at h
    rcases h with ⟨h0, h1, h2, h3⟩ | ⟨h0, h1, h2, h3⟩
    · have := chain_room hS L _ h3
      have := hS x.toNat (by omega)
      simp only [negs, List.length_cons, if_neg (show ¬ x < 0 by omega)]
      omega
    · have := chain_room hS L _ h3
      simp only [negs, List.length_cons, if_pos h0]
      omega

/-- The outer loop's state: stack s of height t, counter c, what has been noted. -/
structure Dfs (par : Nat → Nat) (m : Nat) (S F : Nat → Int) (s : Nat → Int) (t : Nat) (c : Int) (A B : Nat → Int) : Prop where
  chn : chain S F m (stk s t) c
  cnn : 0 ≤ c
  neg : (negs (stk s t) : Int) ≤ c
  noted : ∀ j, j ≤ m → F j < c → A j = F j ∧ (B j = S j + F j ∨ (-(j : Int) - 1) ∈ stk s t)

theorem Dfs.room {par : Nat → Nat} {m t : Nat} {S F s A B : Nat → Int} {c : Int} (n : Num par m S F) (d : Dfs par m S F s t c A B) : t ≤ m + 1 ∧ c ≤ (m : Int) + 1 := by
  have h := chain_room (fun c hc => (n.sized.bd c hc).1) _ _ d.chn
  rw [stk_length] at h
  have h2 := d.neg
  have hl : negs (stk s t) ≤ t := by
    have : ∀ L : List Int, negs L ≤ L.length := fun L => by
      induction L with
      | nil => exact Nat.le_refl _
      | cons x L ih => simp only [negs, List.length_cons]; split <;> omega
    have := this (stk s t)
    rwa [stk_length] at this
  omega

theorem Dfs.start {par : Nat → Nat} {m : Nat} {S F : Nat → Int} (n : Num par m S F) (s A B : Nat → Int) (hs : s 0 = 0) : Dfs par m S F s 1 0 A B := by
  refine ⟨?_, Int.le_refl _, ?_, fun j hj h => ?_⟩
  · simp only [stk, hs, chain]
    refine .inl ⟨Int.le_refl _, by omega, n.zero.symm, ?_⟩
    simp only [Int.toNat_zero, n.zero, n.sized.root]; omega
  · simp [stk, hs, negs]
  · have := (n.bd j hj).1; omega

/-- How much is left to do. -/
def todo (m : Nat) (s : Nat → Int) (t : Nat) (c : Int) : Nat := (2 * ((m : Int) + 1 - c)).toNat + negs (stk s t)

/-- A mark comes off: the subtree's end is noted. -/
theorem Dfs.mark {par : Nat → Nat} {m t : Nat} {S F s A B : Nat → Int} {c : Int} (d : Dfs par m S F s (t + 1) c A B) (hx : s t < 0) :
    0 ≤ -s t - 1 ∧ -s t - 1 ≤ m ∧ Dfs par m S F s t c A (upd B (-s t - 1).toNat c) ∧ todo m s t c < todo m s (t + 1) c := by
  have hc := d.chn
  simp only [stk, chain] at hc
  rcases hc with ⟨h0, _⟩ | ⟨_, h1, h2, h3⟩
  · omega
  · refine ⟨by omega, h1, ⟨h3, d.cnn, ?_, fun j hj hl => ?_⟩, ?_⟩
    · have := d.neg; simp only [stk, negs, if_pos hx] at this; omega
    · obtain ⟨a, b⟩ := d.noted j hj hl
      refine ⟨a, ?_⟩
      by_cases e : j = (-s t - 1).toNat
      · left; rw [e, upd_at, h2]; omega
      · rcases b with b | b
        · left; rw [upd_ne _ _ _ e]; exact b
        · right
          simp only [stk, List.mem_cons] at b
          rcases b with b | b
          · omega
          · exact b
    · simp only [todo, stk, negs, if_pos hx]; omega

/-- The inner loop's state: the mark of x lies on the stack, and the children of x from rank r on over it. -/
structure Push (par : Nat → Nat) (m : Nat) (S F : Nat → Int) (x : Nat) (r : Nat) (s : Nat → Int) (t : Nat) (A B : Nat → Int) (g : Nat) : Prop where
  chn : ∃ a, a ≤ m ∧ cnt (isKid par x) a = r ∧ chain S F m (stk s t) (F x + 1 + wsum (isKid par x) S a)
  neg : (negs (stk s t) : Int) ≤ F x + 1
  noted : ∀ j, j ≤ m → F j < F x + 1 → A j = F j ∧ (B j = S j + F j ∨ (-(j : Int) - 1) ∈ stk s t)
  left : todo m s t (F x + 1) < g

/-- A part comes off: it is numbered, and its mark goes on. -/
theorem Dfs.part {par : Nat → Nat} {m t : Nat} {S F s A B : Nat → Int} {c : Int} (n : Num par m S F) (d : Dfs par m S F s (t + 1) c A B) (hx : 0 ≤ s t) :
    ∃ x : Nat, s t = x ∧ x ≤ m ∧ c = F x ∧ Push par m S F x (cnt (isKid par x) m) (upd s t (-(x : Int) - 1)) (t + 1) (upd A x (F x)) B (todo m s (t + 1) c) := by
  have hc := d.chn
  simp only [stk, chain] at hc
  rcases hc with ⟨_, h1, h2, h3⟩ | ⟨h0, _⟩
  · obtain ⟨x, hxx⟩ := Int.eq_ofNat_of_zero_le hx
    rw [hxx] at h1 h2 h3
    simp only [Int.toNat_natCast] at h2 h3
    have hxm : x ≤ m := by omega
    have hv := n.sized.val x hxm
    have bd := n.bd x hxm
    have bS := (n.sized.bd x hxm).1
    have hneg := d.neg
    simp only [stk, negs, if_neg (show ¬ s t < 0 by omega)] at hneg
    refine ⟨x, hxx, hxm, h2, ⟨⟨m, Nat.le_refl _, rfl, ?_⟩, ?_, fun j hj hl => ?_, ?_⟩⟩
    · rw [stk_push]
      simp only [chain]
      refine .inr ⟨by omega, by omega, ?_, ?_⟩
      · rw [show (-(-(x : Int) - 1) - 1).toNat = x by omega]; omega
      · rw [show F x + 1 + wsum (isKid par x) S m = F x + S x by omega]; exact h3
    · rw [stk_push]; simp only [negs, if_pos (show -(x : Int) - 1 < 0 by omega)]; omega
    · rw [stk_push]
      by_cases e : j = x
      · subst e; exact ⟨upd_at _ _ _, .inr (by simp)⟩
      · have hne : F j ≠ F x := fun h => e (n.inj hj hxm h)
        obtain ⟨a, b⟩ := d.noted j hj (by omega)
        refine ⟨by rw [upd_ne _ _ _ e]; exact a, ?_⟩
        rcases b with b | b
        · exact .inl b
        · right
          simp only [stk, List.mem_cons] at b ⊢
          rcases b with b | b
          · omega
          · exact .inr b
    · simp only [todo, stk_push, negs, if_pos (show -(x : Int) - 1 < 0 by omega)]
      simp only [stk, negs, if_neg (show ¬ s t < 0 by omega)]
      omega
  · omega

theorem Push.room {par : Nat → Nat} {m x r t g : Nat} {S F s A B : Nat → Int} (n : Num par m S F) (d : Push par m S F x r s t A B g) : t ≤ m + 1 := by
  obtain ⟨a, ha, _, hc⟩ := d.chn
  have h := chain_room (fun c hc => (n.sized.bd c hc).1) _ _ hc
  rw [stk_length] at h
  have h2 := d.neg
  have h3 := wsum_nonneg (f := isKid par x) n.sized.nn ha
  omega

/-- One child more. -/
theorem Push.step {par : Nat → Nat} {m x r t g c : Nat} {S F s A B : Nat → Int} (n : Num par m S F) (d : Push par m S F x (r + 1) s t A B g) (h1 : 1 ≤ c) (hc : c ≤ m) (hp : par c = x) (hr : cnt (isKid par x) (c - 1) = r) :
    Push par m S F x r (upd s t c) (t + 1) A B g := by
  obtain ⟨a, ha, hca, hch⟩ := d.chn
  have hnum := n.num c h1 hc
  rw [hp] at hnum
  have hself := cnt_self par c h1
  rw [hp] at hself
  have hw : wsum (isKid par x) S c = wsum (isKid par x) S (c - 1) + S c := by
    obtain ⟨i, rfl⟩ : ∃ i, c = i + 1 := ⟨c - 1, by omega⟩
    rw [wsum_yes (by simp [isKid, hp])]; rfl
  have hwa : wsum (isKid par x) S a = wsum (isKid par x) S c := wsum_of_cnt (by omega)
  refine ⟨⟨c - 1, by omega, hr, ?_⟩, ?_, fun j hj hl => ?_, ?_⟩
  · rw [stk_push]
    simp only [chain]
    refine .inl ⟨by omega, by omega, ?_, ?_⟩
    · simp only [Int.toNat_natCast]; omega
    · simp only [Int.toNat_natCast]
      rw [show F c + S c = F x + 1 + wsum (isKid par x) S a by omega]; exact hch
  · rw [stk_push]; simp only [negs, if_neg (show ¬ (c : Int) < 0 by omega)]; exact d.neg
  · obtain ⟨p, q⟩ := d.noted j hj hl
    refine ⟨p, ?_⟩
    rw [stk_push]
    rcases q with q | q
    · exact .inl q
    · exact .inr (List.mem_cons_of_mem _ q)
  · have := d.left
    simp only [todo, stk_push, negs, if_neg (show ¬ (c : Int) < 0 by omega)] at this ⊢
    exact this

/-- All children lie on the stack: the next round. -/
theorem Push.done {par : Nat → Nat} {m x t g : Nat} {S F s A B : Nat → Int} (n : Num par m S F) (hx : x ≤ m) (d : Push par m S F x 0 s t A B g) : Dfs par m S F s t (F x + 1) A B := by
  obtain ⟨a, ha, hca, hch⟩ := d.chn
  have : wsum (isKid par x) S a = wsum (isKid par x) S 0 := wsum_of_cnt (by rw [hca]; rfl)
  rw [this] at hch
  simp only [wsum, Int.add_zero] at hch
  exact ⟨hch, by have := (n.bd x hx).1; omega, d.neg, d.noted⟩

/-- The stack is empty: all is noted. -/
theorem Dfs.done {par : Nat → Nat} {m : Nat} {S F s A B : Nat → Int} {c : Int} (n : Num par m S F) (d : Dfs par m S F s 0 c A B) : ∀ j, j ≤ m → A j = F j ∧ B j = S j + F j := by
  intro j hj
  have hc : c = (m : Int) + 1 := d.chn
  have bd := n.bd j hj
  have bS := (n.sized.bd j hj).1
  obtain ⟨a, b⟩ := d.noted j hj (by omega)
  refine ⟨a, ?_⟩
  rcases b with b | b
  · exact b
  · simp [stk] at b

/-! ### there is just one such numbering -/
theorem Tree.down {par : Nat → Nat} {m : Nat} (t : Tree par m) : ∀ d, d ≤ m → ∃ T, Down par m (m + 1 - d) T := by
  intro d
  induction d with
  | zero => intro _; exact ⟨fun _ => 0, Down.start par m _ (fun _ _ => rfl)⟩
  | succ d ih =>
    intro hd
    obtain ⟨T, hT⟩ := ih (by omega)
    obtain ⟨k, hk⟩ : ∃ k, m + 1 - d = k + 1 := ⟨m - d, by omega⟩
    rw [hk] at hT
    have := hT.step t (by omega) (by omega)
    rw [show m + 1 - (d + 1) = k by omega]
    exact ⟨_, this⟩

theorem Tree.num {par : Nat → Nat} {m : Nat} (t : Tree par m) : ∃ S F, Num par m S F := by
  obtain ⟨T, hT⟩ := t.down m (Nat.le_refl _)
  rw [show m + 1 - m = 1 by omega] at hT
  have hz := hT.last.sized
  generalize upd T 0 (T 0 + 1) = S at hz
  have : ∀ j, 1 ≤ j → j ≤ m + 1 → ∃ F R, Fwd par m S j F R := by
    intro j
    induction j with
    | zero => intro h; omega
    | succ j ih =>
      intro _ hj
      by_cases e : j = 0
      · subst e; exact ⟨fun _ => 0, fun _ => 1, Fwd.start par m S _ _ rfl rfl⟩
      · obtain ⟨F, R, h⟩ := ih (by omega) (by omega)
        exact ⟨_, _, h.step t (by omega) (by omega)⟩
  obtain ⟨F, R, h⟩ := this (m + 1) (by omega) (Nat.le_refl _)
  exact ⟨S, F, h.done t hz⟩

theorem Sized.unique {par : Nat → Nat} {m : Nat} {S S' : Nat → Int} (t : Tree par m) (z : Sized par m S) (z' : Sized par m S') : ∀ d p, p ≤ m → m - p ≤ d → S p = S' p := by
  intro d
  induction d with
  | zero =>
    intro p hp hd
    rw [z.val p hp, z'.val p hp]
    have := wsum_diff_congr (f := isKid par p) (s := S) (t := S') (Nat.zero_le m) (fun c hc1 hc2 hk => by
      rw [t.nokid (p := p) (by omega) hc2 (by omega)] at hk; exact absurd hk (by simp))
    simp only [wsum] at this; omega
  | succ d ih =>
    intro p hp hd
    rw [z.val p hp, z'.val p hp]
    have := wsum_diff_congr (f := isKid par p) (s := S) (t := S') (Nat.zero_le m) (fun c hc1 hc2 hk => by
      by_cases e : c ≤ p
      · rw [t.nokid (p := p) (by omega) hc2 e] at hk; exact absurd hk (by simp)
      · exact ih c hc2 (by omega))
    simp only [wsum] at this; omega

theorem Num.unique {par : Nat → Nat} {m : Nat} {S F S' F' : Nat → Int} (n : Num par m S F) (n' : Num par m S' F') : ∀ c, c ≤ m → F c = F' c ∧ S c = S' c := by
  have hS : ∀ c, c ≤ m → S c = S' c := fun c hc => n.sized.unique n.tree n'.sized m c hc (by omega)
  intro c
  induction c using Nat.strongRecOn with
  | _ c ih =>
    intro hc
    refine ⟨?_, hS c hc⟩
    by_cases e : c = 0
    · subst e; rw [n.zero, n'.zero]
    · have hlt := n.tree.lt c (by omega) hc
      rw [n.num c (by omega) hc, n'.num c (by omega) hc, (ih (par c) hlt (by omega)).1]
      have := wsum_diff_congr (f := isKid par (par c)) (s := S) (t := S') (Nat.zero_le (c - 1)) (fun i _ hi _ => hS i (by omega))
      simp only [wsum] at this; omega
end Go.Proofs.Qxb6603698a
