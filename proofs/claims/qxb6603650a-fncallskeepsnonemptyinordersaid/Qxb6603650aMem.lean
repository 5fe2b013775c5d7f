import Derived.WalkKit
import Derived.ProofKit
import Derived.Lib.SliceRun
import Derived.Deep.QuietTactic
import Derived.BigQuiet
namespace Go.Proofs.Qxb6603650a
open Go.RowKit

theorem hid {p : Prop} (h : p) : Hid p := h

/-- Block b holds exactly the cells xs (element type e), none of them frozen. -/
def Blk (w : World) (b : Nat) (e : TypeId) (xs : List Value) : Prop := w.heap[b]? = some (.cells xs.toArray e (0, 0))

theorem Blk.lt {w : World} {b e : Nat} {xs : List Value} (h : Blk w b e xs) : b < w.heap.size := (Array.getElem?_eq_some_iff.1 h).1

theorem Blk.cell {w : World} {b e : Nat} {xs : List Value} (h : Blk w b e xs) (j : Nat) : w.cell? ⟨b, j, none⟩ = xs[j]? := by
  rw [cell_of_row w b j xs.toArray e (0, 0) h]; simp

theorem Blk.frozen {w : World} {b e : Nat} {xs : List Value} (h : Blk w b e xs) (j : Nat) : w.frozen? ⟨b, j, none⟩ = false :=
  frozen_of_row w b j xs.toArray e h

theorem Blk.alloc {w : World} {b e : Nat} {xs : List Value} (h : Blk w b e xs) (o : Obj) : Blk (w.alloc o) b e xs := by
  unfold Blk; rw [Go.heap_alloc_old w o h.lt]; exact h

theorem Blk.drew {w : World} {b e : Nat} {xs : List Value} (h : Blk w b e xs) : Blk w.drew b e xs := h

theorem Blk.drewN {w : World} {b e : Nat} {xs : List Value} (h : Blk w b e xs) (n : Nat) : Blk (w.drewN n) b e xs := h

theorem Blk.new (w : World) (e : Nat) (xs : List Value) : Blk (w.alloc (.cells xs.toArray e)) w.heap.size e xs := Go.heap_alloc_new w _

theorem Blk.set {w : World} {b e : Nat} {xs : List Value} (h : Blk w b e xs) (j : Nat) (v : Value) : Blk (w.setCell ⟨b, j, none⟩ v) b e (xs.set j v) := by
  unfold Blk; rw [heap_setCell_same w b j xs.toArray e v h]; simp

theorem Blk.setOther {w : World} {b e : Nat} {xs : List Value} (h : Blk w b e xs) {a : Addr} (ha : b ≠ a.block) (v : Value) : Blk (w.setCell a v) b e xs := by
  unfold Blk; rw [heap_setCell_other w a b v ha]; exact h

theorem Blk.below {B : Nat} {w w' : World} {b e : Nat} {xs : List Value} (h : Blk w b e xs) (hb : Below B w w') (hB : b < B) : Blk w' b e xs := by
  unfold Blk; rw [hb.block b hB]; exact h

theorem Below.drewN {B : Nat} {a w : World} (h : Below B a w) (n : Nat) : Below B a (w.drewN n) := ⟨h.os, h.tape, h.output, h.size, h.block⟩

theorem Below.setCells {B : Nat} {a : World} {b : Nat} (hb : B ≤ b) : ∀ (vs : List Value) (o : Nat) (w : World), Below B a w → Below B a (w.setCells b o vs)
  | [], _, _, h => h
  | v :: r, o, _, h => Below.setCells hb r (o + 1) _ (h.setCell (p := ⟨b, o, none⟩) hb v)

end Go.Proofs.Qxb6603650a
