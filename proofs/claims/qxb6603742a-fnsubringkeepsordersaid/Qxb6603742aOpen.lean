import Derived.Test.Qxb6603742aFront
import Derived.OpenShut
import Derived.ShutString
import Derived.ChangeOld
import Derived.Below
import Derived.SliceStrings
import Derived.Deep.Grids
namespace Go.Proofs.Qxb6603742a
open Go.ChangeShapes Go.WideShapes Go.ChangeAt Go.RowKit

theorem own : ownKnob Try.prog.godebug = none := by kernel_rfl
theorem laidOut : laidOutB Try.prog = true := by kernel_rfl
theorem cells45 : Try.prog.cellsOf 45 = 1 := by kernel_rfl
theorem cells9 : Try.prog.cellsOf 9 = 1 := by kernel_rfl
theorem cells4 : Try.prog.cellsOf 4 = 1 := by kernel_rfl

theorem rowIn_nil (w : World) (G : Nat → Value) : RowIn w none 0 0 G := ⟨Nat.le_refl _, Nat.zero_le _, fun _ => ⟨rfl, rfl⟩, fun h => by omega⟩
theorem rowIn_of {w : World} {x : Addr} {n c : Nat} {G : Nat → Value} (hl : n ≤ c) (hm : c ≤ maxLen) (hc : ∀ i, i < n → w.cell? (x.add i) = some (G i)) : RowIn w (some x) n c G := by
  refine ⟨hl, hm, fun h => by simp at h, fun hn => ?_⟩
  obtain ⟨b, off, spot⟩ := x
  have hspot : spot = none := by simpa [Addr.add] using World.cell?_spot (hc 0 (by omega))
  subst hspot
  exact ⟨b, off, rfl, fun j hj => by rw [← add_plain]; exact hc j hj⟩

section
variable {H : Type} {enc : TypeId × Value → H} {W : World} {a : Option Addr} {n c : Nat} {x : DataW H} {p : List MemPlace}

theorem open_words (h : DataW.Trod enc Try.prog W 0 (fun _ => true) true 22 (.slice a n c) x p) : ∃ xs : List Int, xs.length = n ∧ RowIn W a xs.length c (uv xs) := by
  obtain ⟨fuel, hf⟩ := h
  rcases open_ints Try.underlying22 Try.underlying45 cells45 hf with ⟨hcs, _⟩ | ⟨y, l, c', zs, hcs, _, hl, hm, hz, _, hcell, _⟩
  · simp [Value.cells] at hcs
    obtain ⟨rfl, rfl, rfl⟩ := hcs
    exact ⟨[], rfl, rowIn_nil _ _⟩
  · simp [Value.cells] at hcs
    obtain ⟨rfl, rfl, rfl⟩ := hcs
    simp only [if_true] at hz
    have hlen : (zs.take n).length = n := by simp; omega
    refine ⟨zs.take n, hlen, ?_⟩
    rw [hlen]
    refine rowIn_of hl hm (fun i hi => ?_)
    rw [hcell i (by omega)]
    simp [uv, List.getD, hi]

theorem open_texts (h : DataW.Trod enc Try.prog W 0 (fun _ => true) true 23 (.slice a n c) x p) : ∃ xs : List ByteArray, xs.length = n ∧ RowIn W a xs.length c (sv xs) := by
  obtain ⟨fuel, hf⟩ := h
  rcases open_strings Try.underlying23 Try.underlying9 cells9 hf with ⟨hcs, _⟩ | ⟨y, l, c', zs, hcs, _, hl, hm, hz, _, hcell, _⟩
  · simp [Value.cells] at hcs
    obtain ⟨rfl, rfl, rfl⟩ := hcs
    exact ⟨[], rfl, rowIn_nil _ _⟩
  · simp [Value.cells] at hcs
    obtain ⟨rfl, rfl, rfl⟩ := hcs
    simp only [if_true] at hz
    have hlen : (zs.take n).length = n := by simp; omega
    refine ⟨zs.take n, hlen, ?_⟩
    rw [hlen]
    refine rowIn_of hl hm (fun i hi => ?_)
    rw [hcell i (by omega)]
    simp [sv, List.getD, hi]

theorem open_mask (h : DataW.Trod enc Try.prog W 0 (fun _ => true) true 36 (.slice a n c) x p) : ∃ xs : List Bool, xs.length = n ∧ RowIn W a xs.length c (bl xs) := by
  obtain ⟨fuel, hf⟩ := h
  rcases Go.Deep.open_bools Try.underlying36 Try.underlying4 cells4 hf with ⟨hcs, _⟩ | ⟨y, l, c', B, hcs, _, hl, hm, _, hcell⟩
  · simp [Value.cells] at hcs
    obtain ⟨rfl, rfl, rfl⟩ := hcs
    exact ⟨[], rfl, rowIn_nil _ _⟩
  · simp [Value.cells] at hcs
    obtain ⟨rfl, rfl, rfl⟩ := hcs
    have hlen : ((List.range n).map B).length = n := by simp
    refine ⟨(List.range n).map B, hlen, ?_⟩
    rw [hlen]
    refine rowIn_of hl hm (fun i hi => ?_)
    rw [hcell i (by omega)]
    simp [bl, List.getD, hi]
end
end Go.Proofs.Qxb6603742a
