import Derived.Test.Qxb6603742aNode
namespace Go.Proofs.Qxb6603742a
open Go.ChangeShapes Go.WideShapes Go.ChangeAt Go.RowKit

theorem info45 : (Try.prog.info? 45).map (fun i => (i.zero, i.size, i.bytes)) = some (some (.int .u64 0), 1, 8) := by kernel_rfl
theorem info9 : (Try.prog.info? 9).map (fun i => (i.zero, i.size, i.bytes)) = some (some (.string ⟨#[]⟩), 1, 16) := by kernel_rfl
theorem info4 : (Try.prog.info? 4).map (fun i => (i.zero, i.size, i.bytes)) = some (some (.bool false), 1, 1) := by kernel_rfl

/-- A slice that came in. -/
structure RowIn (w : World) (a : Option Addr) (n c : Nat) (G : Nat → Value) : Prop where
  le : n ≤ c
  max : c ≤ maxLen
  nil : a = none → n = 0 ∧ c = 0
  cells : Cells w a n G
theorem RowIn.later {w w' : World} {a : Option Addr} {n c : Nat} {G : Nat → Value} (h : RowIn w a n c G) (hb : Below w.heap.size w w') : RowIn w' a n c G := ⟨h.le, h.max, h.nil, h.cells.below hb⟩
theorem RowIn.len {w : World} {a : Option Addr} {n c : Nat} {G : Nat → Value} (h : RowIn w a n c G) : n ≤ maxLen := Nat.le_trans h.le h.max

set_option maxHeartbeats 2000000 in
theorem clone11 (a : Option Addr) (n c : Nat) (G : Nat → Int) (w : World) (hn : n ≤ 1048576) (h : RowIn w a n c (fun j => Value.int .u64 (G j))) :
    Calls Try.prog 11 #[.slice a n c] w fun e w' => ∃ a', e = .returned (.slice a' n n) ∧ (a' = none ↔ a = none) ∧ Cells w' a' n (fun j => Value.int .u64 (G j)) ∧ Below w.heap.size w w' := by
  have hnil := fun w => Lib.run_eql_slice_nil (P := Try.prog) w 22 45 a n c 0 0 Try.underlying22
  cases a with
  | none =>
    obtain ⟨rfl, rfl⟩ := h.nil rfl
    go_enter Try.func11, Try.ntmps11
    go_wp2
    go_ret
    exact ⟨none, rfl, by simp, fun h => by omega, Below.refl _ _⟩
  | some x =>
    have HC := hid h.cells
    have hc := h.le
    clear h
    obtain ⟨i0, hi, hz0, hz1, hz2⟩ := info_parts info45
    go_enter Try.func11, Try.ntmps11
    go_wp2_with (at_make; refine wpList_make_full _ rfl _ _ 22 rfl 0 45 i0 (.int .u64 0) 1 Try.underlying22 hi hz0 hz1 _ _ _ _ n rfl rfl (by omega) (by omega) (by rw [hz2]; omega) (by unfold maxLen; omega) (Nat.zero_le _) ?_)
    intro w1 hown hgrow
    have HQ := hid (arr_of_made hown)
    have B1 : Hid (Below w.heap.size w w1) := (Below.refl w.heap.size w).grown hgrow (Nat.le_refl _) (fun k hk => by cases hk)
    clear hown hgrow hi hz0 hz1 hz2
    go_wp2_with fail
    go_loopw [4] (fun s4 wr => ∃ (k : Nat) (H : Nat → Int), k ≤ n ∧ s4 = .int .i64 k ∧ Hid (Below w.heap.size w wr) ∧ Hid (Arr wr w.heap.size 45 n (fun j => Value.int .u64 (H j))) ∧ Hid (∀ j, j < k → H j = G j)) (fun s4 _ => n - (intOf s4).toNat)
    case atStart => exact ⟨0, fun _ => 0, Nat.zero_le _, rfl, B1, HQ, fun j hj => by omega⟩
    case round =>
      clear HQ B1
      obtain ⟨k, H, hk, rfl, hb, hA, hH⟩ := hrel
      by_cases hlt : k < n
      · obtain ⟨g, o, hx, hcl⟩ := HC.out (by omega)
        obtain rfl := Option.some.inj hx
        have e0 := hcl k hlt
        have e1 : wr.cell? ⟨g, o + k, none⟩ = some (Value.int .u64 (G k)) := by
          rw [hb.out.cell (p := ⟨g, o + k, none⟩) (World.block_lt_of_cell? w _ e0)]; exact e0
        have e2 := hA.out.cell hlt
        have f2 := hA.out.frozen k
        have HN : Hid (∀ j, j < k + 1 → upd H k (G k) j = G j) := fun j hj => by
          by_cases e : j = k
          · rw [e, upd_at]
          · rw [upd_ne _ _ _ e]; exact hH.out j (by omega)
        have HA2 : Hid (∀ wx v, v = Value.int .u64 (G k) → Arr wx w.heap.size 45 n (upd (fun j => Value.int .u64 (H j)) k v) → Arr wx w.heap.size 45 n (fun j => Value.int .u64 (upd H k (G k) j))) := fun wx v hv hx => hx.congr (fun j _ => by
          by_cases e : j = k
          · rw [e, upd_at, upd_at, hv]
          · rw [upd_ne _ _ _ e, upd_ne _ _ _ e])
        generalize G k = gk at e0 e1 HN HA2
        generalize H k = hk0 at e2
        clear hcl e0 hx
        go_wp2
        go_roundw
        case rel => exact ⟨k + 1, upd H k gk, by omega, by go_num, hb.out.setCell (p := ⟨w.heap.size, k, none⟩) (Nat.le_refl _) _, HA2.out _ _ rfl (hA.out.set k _), HN⟩
        case measure => simp [intOf]; omega
      · obtain rfl : k = n := by omega
        go_wp2
        go_ret
        refine ⟨_, rfl, by simp, ?_, hb.out⟩
        exact (hA.out.cells).congr (fun j hj => by rw [hH.out j hj])

set_option maxHeartbeats 2000000 in
theorem clone12 (a : Option Addr) (n c : Nat) (G : Nat → ByteArray) (w : World) (hn : n ≤ 1048576) (h : RowIn w a n c (fun j => Value.string (G j))) :
    Calls Try.prog 12 #[.slice a n c] w fun e w' => ∃ a', e = .returned (.slice a' n n) ∧ (a' = none ↔ a = none) ∧ Cells w' a' n (fun j => Value.string (G j)) ∧ Below w.heap.size w w' := by
  have hnil := fun w => Lib.run_eql_slice_nil (P := Try.prog) w 23 9 a n c 0 0 Try.underlying23
  cases a with
  | none =>
    obtain ⟨rfl, rfl⟩ := h.nil rfl
    go_enter Try.func12, Try.ntmps12
    go_wp2
    go_ret
    exact ⟨none, rfl, by simp, fun h => by omega, Below.refl _ _⟩
  | some x =>
    have HC := hid h.cells
    have hc := h.le
    clear h
    obtain ⟨i0, hi, hz0, hz1, hz2⟩ := info_parts info9
    go_enter Try.func12, Try.ntmps12
    go_wp2_with (at_make; refine wpList_make_full _ rfl _ _ 23 rfl 0 9 i0 (.string ⟨#[]⟩) 1 Try.underlying23 hi hz0 hz1 _ _ _ _ n rfl rfl (by omega) (by omega) (by rw [hz2]; omega) (by unfold maxLen; omega) (Nat.zero_le _) ?_)
    intro w1 hown hgrow
    have HQ := hid (arr_of_made hown)
    have B1 : Hid (Below w.heap.size w w1) := (Below.refl w.heap.size w).grown hgrow (Nat.le_refl _) (fun k hk => by cases hk)
    clear hown hgrow hi hz0 hz1 hz2
    go_wp2_with fail
    go_loopw [4] (fun s4 wr => ∃ (k : Nat) (H : Nat → ByteArray), k ≤ n ∧ s4 = .int .i64 k ∧ Hid (Below w.heap.size w wr) ∧ Hid (Arr wr w.heap.size 9 n (fun j => Value.string (H j))) ∧ Hid (∀ j, j < k → H j = G j)) (fun s4 _ => n - (intOf s4).toNat)
    case atStart => exact ⟨0, fun _ => ⟨#[]⟩, Nat.zero_le _, rfl, B1, HQ, fun j hj => by omega⟩
    case round =>
      clear HQ B1
      obtain ⟨k, H, hk, rfl, hb, hA, hH⟩ := hrel
      by_cases hlt : k < n
      · obtain ⟨g, o, hx, hcl⟩ := HC.out (by omega)
        obtain rfl := Option.some.inj hx
        have e0 := hcl k hlt
        have e1 : wr.cell? ⟨g, o + k, none⟩ = some (Value.string (G k)) := by
          rw [hb.out.cell (p := ⟨g, o + k, none⟩) (World.block_lt_of_cell? w _ e0)]; exact e0
        have e2 := hA.out.cell hlt
        have f2 := hA.out.frozen k
        have HN : Hid (∀ j, j < k + 1 → upd H k (G k) j = G j) := fun j hj => by
          by_cases e : j = k
          · rw [e, upd_at]
          · rw [upd_ne _ _ _ e]; exact hH.out j (by omega)
        have HA2 : Hid (∀ wx v, v = Value.string (G k) → Arr wx w.heap.size 9 n (upd (fun j => Value.string (H j)) k v) → Arr wx w.heap.size 9 n (fun j => Value.string (upd H k (G k) j))) := fun wx v hv hx => hx.congr (fun j _ => by
          by_cases e : j = k
          · rw [e, upd_at, upd_at, hv]
          · rw [upd_ne _ _ _ e, upd_ne _ _ _ e])
        generalize G k = gk at e0 e1 HN HA2
        generalize H k = hk0 at e2
        clear hcl e0 hx
        go_wp2
        go_roundw
        case rel => exact ⟨k + 1, upd H k gk, by omega, by go_num, hb.out.setCell (p := ⟨w.heap.size, k, none⟩) (Nat.le_refl _) _, HA2.out _ _ rfl (hA.out.set k _), HN⟩
        case measure => simp [intOf]; omega
      · obtain rfl : k = n := by omega
        go_wp2
        go_ret
        refine ⟨_, rfl, by simp, ?_, hb.out⟩
        exact (hA.out.cells).congr (fun j hj => by rw [hH.out j hj])

set_option maxHeartbeats 2000000 in
theorem clone22 (a : Option Addr) (n c : Nat) (G : Nat → Bool) (w : World) (hn : n ≤ 1048576) (h : RowIn w a n c (fun j => Value.bool (G j))) :
    Calls Try.prog 22 #[.slice a n c] w fun e w' => ∃ a', e = .returned (.slice a' n n) ∧ (a' = none ↔ a = none) ∧ Cells w' a' n (fun j => Value.bool (G j)) ∧ Below w.heap.size w w' := by
  have hnil := fun w => Lib.run_eql_slice_nil (P := Try.prog) w 36 4 a n c 0 0 Try.underlying36
  cases a with
  | none =>
    obtain ⟨rfl, rfl⟩ := h.nil rfl
    go_enter Try.func22, Try.ntmps22
    go_wp2
    go_ret
    exact ⟨none, rfl, by simp, fun h => by omega, Below.refl _ _⟩
  | some x =>
    have HC := hid h.cells
    have hc := h.le
    clear h
    obtain ⟨i0, hi, hz0, hz1, hz2⟩ := info_parts info4
    go_enter Try.func22, Try.ntmps22
    go_wp2_with (at_make; refine wpList_make_full _ rfl _ _ 36 rfl 0 4 i0 (.bool false) 1 Try.underlying36 hi hz0 hz1 _ _ _ _ n rfl rfl (by omega) (by omega) (by rw [hz2]; omega) (by unfold maxLen; omega) (Nat.zero_le _) ?_)
    intro w1 hown hgrow
    have HQ := hid (arr_of_made hown)
    have B1 : Hid (Below w.heap.size w w1) := (Below.refl w.heap.size w).grown hgrow (Nat.le_refl _) (fun k hk => by cases hk)
    clear hown hgrow hi hz0 hz1 hz2
    go_wp2_with fail
    go_loopw [4] (fun s4 wr => ∃ (k : Nat) (H : Nat → Bool), k ≤ n ∧ s4 = .int .i64 k ∧ Hid (Below w.heap.size w wr) ∧ Hid (Arr wr w.heap.size 4 n (fun j => Value.bool (H j))) ∧ Hid (∀ j, j < k → H j = G j)) (fun s4 _ => n - (intOf s4).toNat)
    case atStart => exact ⟨0, fun _ => false, Nat.zero_le _, rfl, B1, HQ, fun j hj => by omega⟩
    case round =>
      clear HQ B1
      obtain ⟨k, H, hk, rfl, hb, hA, hH⟩ := hrel
      by_cases hlt : k < n
      · obtain ⟨g, o, hx, hcl⟩ := HC.out (by omega)
        obtain rfl := Option.some.inj hx
        have e0 := hcl k hlt
        have e1 : wr.cell? ⟨g, o + k, none⟩ = some (Value.bool (G k)) := by
          rw [hb.out.cell (p := ⟨g, o + k, none⟩) (World.block_lt_of_cell? w _ e0)]; exact e0
        have e2 := hA.out.cell hlt
        have f2 := hA.out.frozen k
        have HN : Hid (∀ j, j < k + 1 → upd H k (G k) j = G j) := fun j hj => by
          by_cases e : j = k
          · rw [e, upd_at]
          · rw [upd_ne _ _ _ e]; exact hH.out j (by omega)
        have HA2 : Hid (∀ wx v, v = Value.bool (G k) → Arr wx w.heap.size 4 n (upd (fun j => Value.bool (H j)) k v) → Arr wx w.heap.size 4 n (fun j => Value.bool (upd H k (G k) j))) := fun wx v hv hx => hx.congr (fun j _ => by
          by_cases e : j = k
          · rw [e, upd_at, upd_at, hv]
          · rw [upd_ne _ _ _ e, upd_ne _ _ _ e])
        generalize G k = gk at e0 e1 HN HA2
        generalize H k = hk0 at e2
        clear hcl e0 hx
        go_wp2
        go_roundw
        case rel => exact ⟨k + 1, upd H k gk, by omega, by go_num, hb.out.setCell (p := ⟨w.heap.size, k, none⟩) (Nat.le_refl _) _, HA2.out _ _ rfl (hA.out.set k _), HN⟩
        case measure => simp [intOf]; omega
      · obtain rfl : k = n := by omega
        go_wp2
        go_ret
        refine ⟨_, rfl, by simp, ?_, hb.out⟩
        exact (hA.out.cells).congr (fun j hj => by rw [hH.out j hj])
end Go.Proofs.Qxb6603742a
