import Derived.Test.Qxb6603698aNumber
namespace Go.Proofs.Qxb6603698a
open Go.ChangeShapes Go.WideShapes Go.ChangeAt Go.RowKit

/-- 'fail', as the law has copied it: where there is a part it is there, and says the tree. -/
def FailAt (par : Nat → Nat) (w : World) (m fl : Nat) (fa : Option Addr) : Prop :=
  1 ≤ m → ∃ fb, fa = some ⟨fb, 0, none⟩ ∧ fb < w.heap.size ∧ m < fl ∧ ∃ fv, Arr w fb 21 fl (iv .i32 fv) ∧ ∀ j, 1 ≤ j → j ≤ m → fv j = par j

theorem FailAt.ok {par : Nat → Nat} {w : World} {m fl : Nat} {fa : Option Addr} (h : FailAt par w m fl fa) (o : Obj) : FailOk par (w.alloc o) w.heap.size m fl fa := by
  intro hm
  obtain ⟨fb, rfl, hlt, hfl, fv, hA, hv⟩ := h hm
  refine ⟨fb, rfl, by omega, by simp; omega, hfl, fun wr hb j h1 h2 => ?_⟩
  rw [(hb.arr (hA.alloc o) (by simp; omega) (by omega)).cellI (by omega), hv j h1 h2]

theorem FailAt.below {par : Nat → Nat} {w w' : World} {m fl : Nat} {fa : Option Addr} (h : FailAt par w m fl fa) (hb : Below w.heap.size w w') : FailAt par w' m fl fa := by
  intro hm
  obtain ⟨fb, rfl, hlt, hfl, fv, hA, hv⟩ := h hm
  exact ⟨fb, rfl, Nat.lt_of_lt_of_le hlt hb.size, hfl, fv, hA.below hb hlt, hv⟩

set_option maxHeartbeats 1000000 in
theorem zz16 (par : Nat → Nat) (ra fa : Option Addr) (m rc fl fc : Nat) (w : World) (hm : m ≤ 65536) (t : Tree par m) (hF : FailAt par w m fl fa) :
    Calls Try.prog 16 #[.slice ra m rc, .slice fa fl fc] w fun e w' => ∃ ub tb S F, e = .returned (.tuple #[.slice (some ⟨ub, 0, none⟩) (m + 1) (m + 1), .slice (some ⟨tb, 0, none⟩) (m + 1) (m + 1)]) ∧
      Arr w' ub 21 (m + 1) (iv .i32 F) ∧ Arr w' tb 21 (m + 1) (iv .i32 (fun j => S j + F j)) ∧ Num par m S F ∧ w.heap.size ≤ ub ∧ w.heap.size ≤ tb ∧ ub ≠ tb ∧ Below w.heap.size w w' := by
  have HT := hid t
  have HF := hid hF
  clear t hF
  go_enter Try.func16, Try.ntmps16
  go_wp2_with fail
  refine (number19 par w.heap.size m rc fl fc ra fa (.bool false) (.slice none 0 0) (.slice none 0 0) (.slice none 0 0) [.int .u8 0, .int .u8 0, .int .u8 0, .int .i64 0, .pointer none, .int .i64 0, .slice none 0 0] _ hm HT.out ?_ (HF.out.ok _)).mono ?_
  · exact Blk.new w 54 _
  · rintro e w1 ⟨rfl, ub, tb, S, F, hN, hu, ht, hut, hA, hB, hNum⟩
    have c4 := hN.c4
    have c5 := hN.c5
    simp only [World.size_alloc] at hu ht
    have hb : Hid (Below w.heap.size w w1) := ((Below.refl w.heap.size w).alloc (Nat.le_refl _) _).trans (hN.but.toBelow (by simp) (Nat.le_refl _))
    have HA := hid hA
    have HB := hid hB
    have HNum := hid hNum
    clear hA hB hNum hN
    go_wp2
    go_quiet (fail)
    go_wp2
    go_ret2
    exact ⟨ub, tb, S, F, rfl, HA.out.drewN _, HB.out.drewN _, HNum.out, by omega, by omega, hut, Below.drewN hb.out _⟩
end Go.Proofs.Qxb6603698a
