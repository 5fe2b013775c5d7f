import Derived.WalkKit
import Derived.Test.Qxb6603742aPlain
import Derived.Laws.CopyOwn
import Derived.Deep.OwnRows
import Derived.ProofKit
import Derived.Lib.SliceRun
import Derived.Deep.QuietTactic
import Derived.BigQuiet
namespace Go.Proofs.Qxb6603742a
open Go.RowKit

theorem hid {p : Prop} (h : p) : Hid p := h

/-- Block b holds exactly the cells xs (element type e), none of them frozen. -/
def Blk (w : World) (b : Nat) (e : TypeId) (xs : List Value) : Prop := w.heap[b]? = some (.cells xs.toArray e (0, 0))

theorem Blk.lt {w : World} {b e : Nat} {xs : List Value} (h : Blk w b e xs) : b < w.heap.size := (Array.getElem?_eq_some_iff.1 h).1

theorem Blk.cell {w : World} {b e : Nat} {xs : List Value} (h : Blk w b e xs) (j : Nat) : w.cell? ⟨b, j, none⟩ = xs[j]? := by
  rw [cell_of_row w b j xs.toArray e (0, 0) h]; simp

theorem Blk.frozen {w : World} {b e : Nat} {xs : List Value} (h : Blk w b e xs) (j : Nat) : w.frozen? ⟨b, j, none⟩ = false :=
  frozen_of_row w b j xs.toArray e h

theorem Blk.alloc {w : World} {b e : Nat} {xs : List Value} (h : Blk w b e xs) (o : Obj) : Blk (w.alloc o) b e xs := by
  unfold Blk; rw [Go.heap_alloc_old w o h.lt]; exact h

theorem Blk.drew {w : World} {b e : Nat} {xs : List Value} (h : Blk w b e xs) : Blk w.drew b e xs := h

theorem Blk.drewN {w : World} {b e : Nat} {xs : List Value} (h : Blk w b e xs) (n : Nat) : Blk (w.drewN n) b e xs := h

theorem Blk.new (w : World) (e : Nat) (xs : List Value) : Blk (w.alloc (.cells xs.toArray e)) w.heap.size e xs := Go.heap_alloc_new w _

theorem Blk.set {w : World} {b e : Nat} {xs : List Value} (h : Blk w b e xs) (j : Nat) (v : Value) : Blk (w.setCell ⟨b, j, none⟩ v) b e (xs.set j v) := by
  unfold Blk; rw [heap_setCell_same w b j xs.toArray e v h]; simp

theorem Blk.setOther {w : World} {b e : Nat} {xs : List Value} (h : Blk w b e xs) {a : Addr} (ha : b ≠ a.block) (v : Value) : Blk (w.setCell a v) b e xs := by
  unfold Blk; rw [heap_setCell_other w a b v ha]; exact h

theorem Blk.below {B : Nat} {w w' : World} {b e : Nat} {xs : List Value} (h : Blk w b e xs) (hb : Below B w w') (hB : b < B) : Blk w' b e xs := by
  unfold Blk; rw [hb.block b hB]; exact h

theorem Below.drewN {B : Nat} {a w : World} (h : Below B a w) (n : Nat) : Below B a (w.drewN n) := ⟨h.os, h.tape, h.output, h.size, h.block⟩

theorem Below.setCells {B : Nat} {a : World} {b : Nat} (hb : B ≤ b) : ∀ (vs : List Value) (o : Nat) (w : World), Below B a w → Below B a (w.setCells b o vs)
  | [], _, _, h => h
  | v :: r, o, _, h => Below.setCells hb r (o + 1) _ (h.setCell (p := ⟨b, o, none⟩) hb v)


/-- Block b holds exactly n cells, cell j the value G j. -/
def Arr (w : World) (b : Nat) (e : TypeId) (n : Nat) (G : Nat → Value) : Prop := Blk w b e ((List.range n).map G)

/-- Integers as values. -/
def iv (k : IntKind) (F : Nat → Int) : Nat → Value := fun j => .int k (F j)
def bv (F : Nat → Bool) : Nat → Value := fun j => .bool (F j)

theorem Arr.lt {w : World} {b e n : Nat} {G : Nat → Value} (h : Arr w b e n G) : b < w.heap.size := Blk.lt h

theorem Arr.cell {w : World} {b e n : Nat} {G : Nat → Value} (h : Arr w b e n G) {j : Nat} (hj : j < n) : w.cell? ⟨b, j, none⟩ = some (G j) := by
  rw [Blk.cell h]; simp [hj]

theorem Arr.frozen {w : World} {b e n : Nat} {G : Nat → Value} (h : Arr w b e n G) (j : Nat) : w.frozen? ⟨b, j, none⟩ = false := Blk.frozen h j

theorem Arr.congr {w : World} {b e n : Nat} {G G' : Nat → Value} (h : Arr w b e n G) (hg : ∀ j, j < n → G j = G' j) : Arr w b e n G' := by
  unfold Arr at h ⊢
  rwa [← List.map_congr_left (fun j hj => hg j (List.mem_range.1 hj))]

theorem Arr.set {w : World} {b e n : Nat} {G : Nat → Value} (h : Arr w b e n G) (j : Nat) (v : Value) : Arr (w.setCell ⟨b, j, none⟩ v) b e n (upd G j v) := by
  have := Blk.set h j v
  unfold Arr
  have e : ((List.range n).map G).set j v = (List.range n).map (upd G j v) := by
    apply List.ext_getElem?
    intro i
    rw [List.getElem?_set]
    by_cases hi : j = i
    · subst hi
      by_cases hj : j < n
      · simp [hj, upd]
      · simp [hj]
    · by_cases hj : i < n
      · simp [hi, hj, upd, Ne.symm hi]
      · simp [hi, hj]
  rw [← e]; exact this

theorem Arr.setOther {w : World} {b e n : Nat} {G : Nat → Value} (h : Arr w b e n G) {a : Addr} (ha : b ≠ a.block) (v : Value) : Arr (w.setCell a v) b e n G := Blk.setOther h ha v
theorem Arr.alloc {w : World} {b e n : Nat} {G : Nat → Value} (h : Arr w b e n G) (o : Obj) : Arr (w.alloc o) b e n G := Blk.alloc h o
theorem Arr.drew {w : World} {b e n : Nat} {G : Nat → Value} (h : Arr w b e n G) : Arr w.drew b e n G := h
theorem Arr.drewN {w : World} {b e n : Nat} {G : Nat → Value} (h : Arr w b e n G) (k : Nat) : Arr (w.drewN k) b e n G := h
theorem Arr.below {B : Nat} {w w' : World} {b e n : Nat} {G : Nat → Value} (h : Arr w b e n G) (hb : Below B w w') (hB : b < B) : Arr w' b e n G := Blk.below h hb hB

theorem upd_iv (k : IntKind) (F : Nat → Int) (j : Nat) (v : Int) : upd (iv k F) j (.int k v) = iv k (upd F j v) := by
  funext i; by_cases h : i = j <;> simp [upd, iv, h]
theorem upd_bv (F : Nat → Bool) (j : Nat) (v : Bool) : upd (bv F) j (.bool v) = bv (upd F j v) := by
  funext i; by_cases h : i = j <;> simp [upd, bv, h]

theorem Arr.setI {w : World} {b e n : Nat} {k : IntKind} {F : Nat → Int} (h : Arr w b e n (iv k F)) (j : Nat) (v : Int) : Arr (w.setCell ⟨b, j, none⟩ (.int k v)) b e n (iv k (upd F j v)) := by
  rw [← upd_iv]; exact h.set j _
theorem Arr.setB {w : World} {b e n : Nat} {F : Nat → Bool} (h : Arr w b e n (bv F)) (j : Nat) (v : Bool) : Arr (w.setCell ⟨b, j, none⟩ (.bool v)) b e n (bv (upd F j v)) := by
  rw [← upd_bv]; exact h.set j _

theorem Arr.cellI {w : World} {b e n : Nat} {k : IntKind} {F : Nat → Int} (h : Arr w b e n (iv k F)) {j : Nat} (hj : j < n) : w.cell? ⟨b, j, none⟩ = some (.int k (F j)) := h.cell hj
theorem Arr.cellB {w : World} {b e n : Nat} {F : Nat → Bool} (h : Arr w b e n (bv F)) {j : Nat} (hj : j < n) : w.cell? ⟨b, j, none⟩ = some (.bool (F j)) := h.cell hj

/-- What 'make' lays. -/
theorem Arr.made (w : World) (e : TypeId) (z : Value) (n : Nat) : Arr (w.alloc (.cells (madeCells #[z] n) e)) w.heap.size e n (fun _ => z) := by
  have h1 : (madeCells #[z] n) = ((List.range n).map (fun _ => z)).toArray := by
    have := toList_madeCells_one z n
    have e2 : (List.range n).map (fun _ => z) = List.replicate n z := by
      apply List.ext_getElem?
      intro i
      by_cases hi : i < n
      · simp [hi]
      · simp [hi]
    rw [e2, ← this]
  unfold Arr
  rw [h1]
  exact Blk.new w e _

theorem toList_made (z : Value) (n : Nat) : madeCells #[z] n = ((List.range n).map (fun _ => z)).toArray := by
  have := toList_madeCells_one z n
  have e2 : (List.range n).map (fun _ => z) = List.replicate n z := by
    apply List.ext_getElem?
    intro i
    by_cases hi : i < n
    · simp [hi]
    · simp [hi]
  rw [e2, ← this]

/-- What 'make' lays, with one cell stored into at once. -/
theorem Arr.madeSet (w : World) (e : TypeId) (z v : Value) (n j : Nat) : Arr (w.alloc (.cells ((madeCells #[z] n).setIfInBounds j v) e)) w.heap.size e n (upd (fun _ => z) j v) := by
  have h1 : (madeCells #[z] n).setIfInBounds j v = ((List.range n).map (upd (fun _ => z) j v)).toArray := by
    rw [toList_made]
    simp only [List.setIfInBounds_toArray]
    congr 1
    apply List.ext_getElem?
    intro i
    rw [List.getElem?_set]
    by_cases hi : j = i
    · subst hi
      by_cases hj : j < n
      · simp [hj, upd]
      · simp [hj]
    · by_cases hj : i < n
      · simp [hi, hj, upd, Ne.symm hi]
      · simp [hi, hj]
  unfold Arr
  rw [h1]
  exact Blk.new w e _

theorem arr_of_made {w : World} {base e g n : Nat} {z : Value} (h : w.ownsRow base e 1 (.slice (some ⟨g, 0, none⟩) n n) n (madeCells #[z] n).toList) : Arr w g e n (fun _ => z) := by
  rw [toList_made] at h
  rcases h.2 with ⟨h', _⟩ | ⟨g', cap', cur, h', _, hg, _, _, hcs, htake⟩
  · simp at h'
  · simp only [Value.slice.injEq, Option.some.injEq, Addr.mk.injEq, and_true, true_and] at h'
    obtain ⟨rfl, rfl⟩ := h'
    rw [List.take_of_length_le (by simp [hcs])] at htake
    unfold Arr Blk
    rw [hg, Array.toList_inj.1 htake]

/-- Of the first N blocks none but sb has turned. -/
structure But (N sb : Nat) (w w' : World) : Prop where
  os : w'.os = w.os
  tape : w'.tape = w.tape
  output : w'.output = w.output
  size : w.heap.size ≤ w'.heap.size
  block : ∀ k, k < N → k ≠ sb → w'.heap[k]? = w.heap[k]?

theorem But.refl (N sb : Nat) (w : World) : But N sb w w := ⟨rfl, rfl, rfl, Nat.le_refl _, fun _ _ _ => rfl⟩
theorem But.drew {N sb : Nat} {a w : World} (h : But N sb a w) : But N sb a w.drew := ⟨h.os, h.tape, h.output, h.size, h.block⟩
theorem But.drewN {N sb : Nat} {a w : World} (h : But N sb a w) (n : Nat) : But N sb a (w.drewN n) := ⟨h.os, h.tape, h.output, h.size, h.block⟩
theorem But.alloc {N sb : Nat} {a w : World} (h : But N sb a w) (hN : N ≤ w.heap.size) (o : Obj) : But N sb a (w.alloc o) :=
  ⟨h.os, h.tape, h.output, Nat.le_trans h.size (by simp), fun k h1 h2 => (Below.heap_alloc _ _ _ (by omega)).trans (h.block k h1 h2)⟩
theorem But.setCell {N sb : Nat} {a w : World} (h : But N sb a w) {p : Addr} (hp : p.block = sb ∨ N ≤ p.block) (u : Value) : But N sb a (w.setCell p u) :=
  ⟨h.os, h.tape, h.output, Nat.le_trans h.size (by simp [World.setCell]), fun k h1 h2 => (Below.heap_setCell _ _ _ _ (by omega)).trans (h.block k h1 h2)⟩
theorem But.grown {N sb : Nat} {a w w' : World} (h : But N sb a w) (hg : w.grownBy w' none) (hN : N ≤ w.heap.size) : But N sb a w' :=
  ⟨hg.os.trans h.os, hg.tape.trans h.tape, hg.output.trans h.output, Nat.le_trans h.size hg.size, fun k h1 h2 => (hg.block k (by omega) (by simp)).trans (h.block k h1 h2)⟩
theorem Blk.grown {w w' : World} {b e : Nat} {xs : List Value} (h : Blk w b e xs) (hg : w.grownBy w' none) : Blk w' b e xs := by
  unfold Blk; rw [hg.block b h.lt (by simp)]; exact h
theorem Arr.grown {w w' : World} {b e n : Nat} {G : Nat → Value} (h : Arr w b e n G) (hg : w.grownBy w' none) : Arr w' b e n G := Blk.grown h hg
theorem But.toBelow {N sb : Nat} {a w : World} (h : But N sb a w) {B : Nat} (h1 : B ≤ N) (h2 : B ≤ sb) : Below B a w :=
  ⟨h.os, h.tape, h.output, h.size, fun k hk => h.block k (by omega) (by omega)⟩
theorem But.arr {N sb : Nat} {a w : World} (h : But N sb a w) {b e n : Nat} {G : Nat → Value} (hA : Arr a b e n G) (h1 : b < N) (h2 : b ≠ sb) : Arr w b e n G := by
  unfold Arr Blk at *; rw [h.block b h1 h2]; exact hA


/-- The world with some draws more. -/
def Drawn (w w' : World) : Prop := ∃ q, w' = w.drewN q
theorem drewN_drewN' (w : World) (a b : Nat) : (w.drewN a).drewN b = w.drewN (a + b) := by simp [World.drewN, Nat.add_assoc]
theorem Drawn.refl (w : World) : Drawn w w := ⟨0, rfl⟩
theorem Drawn.drewN {w w' : World} (h : Drawn w w') (n : Nat) : Drawn w (w'.drewN n) := by
  obtain ⟨q, rfl⟩ := h
  exact ⟨q + n, drewN_drewN' _ _ _⟩
theorem Drawn.drew {w w' : World} (h : Drawn w w') : Drawn w w'.drew := h.drewN 1
theorem Drawn.trans {w w' w'' : World} (h : Drawn w w') (k : Drawn w' w'') : Drawn w w'' := by
  obtain ⟨q, rfl⟩ := k
  exact h.drewN q
theorem Drawn.below {w w' : World} (h : Drawn w w') {B : Nat} {a : World} (hb : Below B a w) : Below B a w' := by
  obtain ⟨q, rfl⟩ := h
  exact Below.drewN hb q

/-- The slice at a shows n cells, cell j the value G j. -/
def Cells (w : World) (a : Option Addr) (n : Nat) (G : Nat → Value) : Prop := 1 ≤ n → ∃ g o, a = some ⟨g, o, none⟩ ∧ ∀ j, j < n → w.cell? ⟨g, o + j, none⟩ = some (G j)

theorem Cells.below {w w' : World} {a : Option Addr} {n : Nat} {G : Nat → Value} (h : Cells w a n G) (hb : Below w.heap.size w w') : Cells w' a n G := by
  intro hn
  obtain ⟨g, o, ha, hc⟩ := h hn
  refine ⟨g, o, ha, fun j hj => ?_⟩
  rw [hb.cell (World.block_lt_of_cell? w _ (hc j hj))]
  exact hc j hj
theorem Cells.drewN {w : World} {a : Option Addr} {n : Nat} {G : Nat → Value} (h : Cells w a n G) (k : Nat) : Cells (w.drewN k) a n G := h
theorem Cells.drawn {w w' : World} {a : Option Addr} {n : Nat} {G : Nat → Value} (h : Cells w a n G) (hd : Drawn w w') : Cells w' a n G := by
  obtain ⟨q, rfl⟩ := hd; exact h
theorem Blk.drawn {w w' : World} {b e : Nat} {xs : List Value} (h : Blk w b e xs) (hd : Drawn w w') : Blk w' b e xs := by
  obtain ⟨q, rfl⟩ := hd; exact h
theorem Cells.congr {w : World} {a : Option Addr} {n : Nat} {G G' : Nat → Value} (h : Cells w a n G) (hg : ∀ j, j < n → G j = G' j) : Cells w a n G' := by
  intro hn
  obtain ⟨g, o, ha, hc⟩ := h hn
  exact ⟨g, o, ha, fun j hj => by rw [hc j hj, hg j hj]⟩
theorem Arr.cells {w : World} {b e n : Nat} {G : Nat → Value} (h : Arr w b e n G) : Cells w (some ⟨b, 0, none⟩) n G := fun _ => ⟨b, 0, rfl, fun j hj => by rw [Nat.zero_add]; exact h.cell hj⟩

/-- A list's values. -/
def uv (xs : List Int) : Nat → Value := fun j => .int .u64 (xs.getD j 0)
def sv (ss : List ByteArray) : Nat → Value := fun j => .string (ss.getD j ByteArray.empty)
def bl (bs : List Bool) : Nat → Value := fun j => .bool (bs.getD j false)

/-- A block of one's own, seen through a store elsewhere. -/
theorem Cells.setOther {w : World} {a : Option Addr} {n : Nat} {G : Nat → Value} (h : Cells w a n G) {p : Addr} (hp : ∀ g o, a = some ⟨g, o, none⟩ → g ≠ p.block) (v : Value) : Cells (w.setCell p v) a n G := by
  intro hn
  obtain ⟨g, o, ha, hc⟩ := h hn
  refine ⟨g, o, ha, fun j hj => ?_⟩
  rw [World.cell?_of_block (w := w) (a := ⟨g, o + j, none⟩) (heap_setCell_other w p g v (hp g o ha))]
  exact hc j hj

end Go.Proofs.Qxb6603742a
