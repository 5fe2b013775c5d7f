import Derived.Test.Qxb6603742aClone
import Derived.Deep.DeepCutAuto
import Derived.Deep.RegionLaw
namespace Go.Proofs.Qxb6603742a
open Go.ChangeShapes Go.WideShapes Go.ChangeAt Go.RowKit

theorem make13 (b wd : Int) (v2 v3 : Value) (ia na : Option Addr) (il ic nl nc : Nat) (w : World) (h2 : v2 = .slice ia il ic) (h3 : v3 = .slice na nl nc) :
    Calls Try.prog 13 #[.int .i64 b, .int .i64 wd, v2, v3] w fun e w' => e = .returned (.pointer (some ⟨w.heap.size, 0, none⟩)) ∧ Blk w' w.heap.size 47 [.int .i64 b, .int .i64 wd, v2, v3] ∧ Below w.heap.size w w' := by
  subst h2; subst h3
  go_enter Try.func13, Try.ntmps13
  go_wp2
  go_ret
  exact ⟨rfl, Blk.new w 47 _, (Below.refl _ _).alloc (Nat.le_refl _) _⟩

theorem fields27 (rb : Nat) (b wd : Int) (ia na : Option Addr) (il ic nl nc : Nat) (w : World) (hr : Blk w rb 47 [.int .i64 b, .int .i64 wd, .slice ia il ic, .slice na nl nc]) :
    Calls Try.prog 27 #[.pointer (some ⟨rb, 0, none⟩)] w fun e w' => e = .returned (.tuple #[.int .i64 b, .int .i64 wd, .slice ia il ic, .slice na nl nc]) ∧ Drawn w w' := by
  have c0 : w.cell? ⟨rb, 0, none⟩ = some (.int .i64 b) := by simpa using hr.cell 0
  have c1 : w.cell? ⟨rb, 1, none⟩ = some (.int .i64 wd) := by simpa using hr.cell 1
  have c2 : w.cell? ⟨rb, 2, none⟩ = some (.slice ia il ic) := by simpa using hr.cell 2
  have c3 : w.cell? ⟨rb, 3, none⟩ = some (.slice na nl nc) := by simpa using hr.cell 3
  clear hr
  go_enter Try.func27, Try.ntmps27
  go_wp2
  go_quiet (fail)
  go_wp2
  refine bodyPost_ret (v := .tuple #[.int .i64 b, .int .i64 wd, .slice ia il ic, .slice na nl nc]) (by simp [results, Try.results27, go_sem]) rfl ?_
  exact ⟨rfl, ⟨_, rfl⟩⟩

theorem newRing30 (b wd : Nat) (w : World) (hb : 1 ≤ b) (hb2 : b ≤ 1073741824) (hwd : wd = (b + 63) / 64) :
    Calls Try.prog 30 #[.int .i64 b, .int .i64 0] w fun e w' => ∃ sb eb, e = .returned (.pointer (some ⟨sb, 0, none⟩)) ∧ Blk w' sb 47 [.int .i64 b, .int .i64 wd, .slice (some ⟨eb, 0, none⟩) 0 0, .slice none 0 0] ∧ w.heap.size ≤ sb ∧ Below w.heap.size w w' := by
  have e1 : ((b : Int) + 63) / 64 = (wd : Int) := by rw [hwd]; simp
  clear hwd
  obtain ⟨i0, hi, hz0, hz1, hz2⟩ := info_parts info45
  go_enter Try.func30, Try.ntmps30
  go_wp2_with (at_make; refine wpList_make_full _ rfl _ _ 22 rfl 0 45 i0 (.int .u64 0) 1 Try.underlying22 hi hz0 hz1 _ _ _ _ 0 rfl rfl (by omega) (by omega) (by rw [hz2]; omega) (by unfold maxLen; omega) (Nat.zero_le _) ?_)
  intro w1 hown hgrow
  have B1 : Hid (Below w.heap.size w w1) := (Below.refl w.heap.size w).grown hgrow (Nat.le_refl _) (fun k hk => by cases hk)
  have hs := B1.out.size
  clear hown hgrow hi hz0 hz1 hz2
  go_wp2
  go_ret
  exact ⟨w1.heap.size, w.heap.size, rfl, Blk.new w1 47 _, hs, B1.out.alloc hs _⟩
end Go.Proofs.Qxb6603742a
