import Derived.Test.Qxb6603698aZZ
import Derived.OpenShut
namespace Go.Proofs.Qxb6603698a
open Go.ChangeShapes Go.WideShapes Go.ChangeAt Go.RowKit

/-- A slice of integers that came in: nil; or a row of 'cap' cells, the numbers 'zs', each fitting its kind. -/
def IsRow (k : IntKind) (w : World) (a : Option Addr) (len cap : Nat) (zs : List Int) : Prop :=
  (a = none ∧ len = 0 ∧ cap = 0 ∧ zs = []) ∨
  ∃ x, a = some x ∧ len ≤ cap ∧ cap ≤ maxLen ∧ zs.length = cap ∧ (∀ i, i < zs.length → w.cell? (x.add i) = some (.int k (zs.getD i 0))) ∧ ∀ n ∈ zs, (Lit.int k n).wf = true

theorem IsRow.len {k : IntKind} {w : World} {a : Option Addr} {len cap : Nat} {zs : List Int} (h : IsRow k w a len cap zs) : len ≤ maxLen := by
  rcases h with ⟨_, rfl, _⟩ | ⟨x, _, h1, h2, _⟩
  · exact Nat.zero_le _
  · exact Nat.le_trans h1 h2

/-- An array that came in lies in old blocks: the cells of a row that has one. -/
theorem IsRow.later {k : IntKind} {w w' : World} {a : Option Addr} {len cap : Nat} {zs : List Int} (h : IsRow k w a len cap zs) (hb : Below w.heap.size w w') : IsRow k w' a len cap zs := by
  rcases h with h | ⟨x, h0, h1, h2, h3, h4, h5⟩
  · exact .inl h
  · refine .inr ⟨x, h0, h1, h2, h3, fun i hi => ?_, h5⟩
    have hc := h4 i hi
    rw [hb.cell (World.block_lt_of_cell? w _ hc)]
    exact hc

def at' (zs : List Int) (j : Nat) : Int := zs.getD j 0
def parOf (zs : List Int) (j : Nat) : Nat := (at' zs j).toNat

theorem clone13_any (a : Option Addr) (n c : Nat) (zs : List Int) (w : World) (hn : n ≤ 65536) (h : IsRow .u8 w a n c zs) :
    Calls Try.prog 13 #[.slice a n c] w fun e w' => ∃ a' c', e = .returned (.slice a' n c') ∧ Below w.heap.size w w' := by
  rcases h with ⟨rfl, rfl, rfl, _⟩ | ⟨x, rfl, h1, h2, h3, h4, _⟩
  · exact (clone13_nil w).mono fun e w' ⟨he, hw⟩ => ⟨none, 0, he, by rw [hw]; exact Below.refl _ _⟩
  · exact (clone13 x n c (at' zs) w hn (fun j hj => h4 j (by omega))).mono fun e w' ⟨he, _, hb, _⟩ => ⟨_, _, he, hb⟩

theorem clone14_any (a : Option Addr) (n c : Nat) (zs : List Int) (w : World) (hn : n ≤ 65536) (h : IsRow .i32 w a n c zs) :
    Calls Try.prog 14 #[.slice a n c] w fun e w' => ∃ a' c', e = .returned (.slice a' n c') ∧ Below w.heap.size w w' ∧ (1 ≤ n → ∃ fb, a' = some ⟨fb, 0, none⟩ ∧ fb < w'.heap.size ∧ Arr w' fb 21 n (iv .i32 (at' zs))) := by
  rcases h with ⟨rfl, rfl, rfl, _⟩ | ⟨x, rfl, h1, h2, h3, h4, _⟩
  · exact (clone14_nil w).mono fun e w' ⟨he, hw⟩ => ⟨none, 0, he, by rw [hw]; exact Below.refl _ _, fun h => by omega⟩
  · exact (clone14 x n c (at' zs) w hn (fun j hj => h4 j (by omega))).mono fun e w' ⟨he, hA, hb, hs⟩ => ⟨_, _, he, hb, fun _ => ⟨_, rfl, hs, hA⟩⟩

theorem wf_i32 {n : Int} (h : (Lit.int .i32 n).wf = true) : -2147483648 ≤ n ∧ n ≤ 2147483647 := by
  exact bounds_i32 h

theorem fail12_any (m : Nat) (a : Option Addr) (n c : Nat) (zs : List Int) (w : World) (hn : n ≤ 65536) (h : IsRow .i32 w a n c zs) :
    Calls Try.prog 12 #[.int .i64 m, .slice a n c] w fun e w' => (e = .returned (.bool true) ∨ (e = .returned (.bool false) ∧ Tree (parOf zs) m ∧ (1 ≤ m → m < n) ∧ ∀ j, 1 ≤ j → j ≤ m → at' zs j = (parOf zs j : Int))) ∧ w' = w := by
  by_cases h0 : m = 0
  · subst h0
    exact (fail12_none a n c w).mono fun e w' ⟨he, hw⟩ => ⟨.inr ⟨he, ⟨fun j h1 h2 => by omega⟩, fun h => by omega, fun j h1 h2 => by omega⟩, hw⟩
  · by_cases h1 : n ≤ m
    · exact (fail12_short a m n c (by omega) h1 w).mono fun e w' ⟨he, hw⟩ => ⟨.inl he, hw⟩
    · rcases h with ⟨rfl, rfl, rfl, _⟩ | ⟨x, rfl, h2, h3, h4, h5, h6⟩
      · omega
      · obtain ⟨b, off, spot⟩ := x
        have hspot : spot = none := by simpa [Addr.add] using World.cell?_spot (h5 0 (by omega))
        subst hspot
        refine (fail12 b off m n c (at' zs) (by omega) (by omega) (by unfold maxLen; omega) w (fun j hj => ?_) (fun j hj => ?_)).mono fun e w' ⟨he, hw⟩ => ⟨?_, hw⟩
        · refine wf_i32 (h6 _ ?_)
          unfold at'
          rw [List.getD_eq_getElem?_getD, List.getElem?_eq_getElem (by omega : j < zs.length)]
          exact List.getElem_mem _
        · rw [← add_plain]; exact h5 j (by omega)
        · rcases he with he | ⟨he, hall⟩
          · exact .inl he
          · refine .inr ⟨he, ⟨fun j h1 h2 => ?_⟩, fun _ => by omega, fun j h1 h2 => ?_⟩
            · have := hall j h1 h2; unfold parOf; omega
            · have := hall j h1 h2; unfold parOf; omega

/-- From the copy to what 'number' asks. -/
theorem failAt_of {zs : List Int} {w : World} {m n : Nat} {a' : Option Addr} (h : 1 ≤ n → ∃ fb, a' = some ⟨fb, 0, none⟩ ∧ fb < w.heap.size ∧ Arr w fb 21 n (iv .i32 (at' zs)))
    (hn : 1 ≤ m → m < n) (hv : ∀ j, 1 ≤ j → j ≤ m → at' zs j = (parOf zs j : Int)) : FailAt (parOf zs) w m n a' := by
  intro hm
  have := hn hm
  obtain ⟨fb, h1, h2, h3⟩ := h (by omega)
  exact ⟨fb, h1, h2, this, _, h3, hv⟩
end Go.Proofs.Qxb6603698a
