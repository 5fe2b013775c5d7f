import Derived.Test.Qxb6603742aKeep
import Derived.Test.Qxb6603742aOpen
namespace Go.Proofs.Qxb6603742a.fnSubringKeepsOrder
open Go.ChangeShapes Go.WideShapes Go.ChangeAt Go.RowKit

set_option maxHeartbeats 2000000 in
set_option maxRecDepth 100000 in
theorem big (b wd : Int) (a2 a3 a4 : Option Addr) (c2 c3 c4 : Nat) (ids : List Int) (nms : List ByteArray) (kp : List Bool) (w : World)
    (h : ¬ (ids.length ≤ 131072 ∧ nms.length ≤ 65536 ∧ kp.length ≤ 1048576))
    (r2 : RowIn w a2 ids.length c2 (uv ids)) (r3 : RowIn w a3 nms.length c3 (sv nms)) (r4 : RowIn w a4 kp.length c4 (bl kp)) :
    Calls Try.prog 7 #[.int .i64 b, .int .i64 wd, .slice a2 ids.length c2, .slice a3 nms.length c3, .slice a4 kp.length c4] w fun e w' => e = .returned (.bool true) ∧ Below w.heap.size w w' := by
  have HB := hid (bytes25 b wd a2 a3 ids.length c2 nms.length c3 (fun j => nms.getD j ByteArray.empty) r2.len r3.len a4 kp.length c4 r4.len w r3.cells)
  clear r2 r3 r4
  by_cases g2 : 131072 < ids.length
  · clear h
    go_enter Try.func7, Try.ntmps7
    go_wp2_with fail
    refine HB.out.mono ?_
    rintro e w1 ⟨rfl | ⟨rfl, _⟩, rfl⟩ <;> (go_wp2; go_ret; exact ⟨rfl, Below.refl _ _⟩)
  by_cases g3 : 65536 < nms.length
  · clear h
    go_enter Try.func7, Try.ntmps7
    go_wp2_with fail
    refine HB.out.mono ?_
    rintro e w1 ⟨rfl | ⟨rfl, _⟩, rfl⟩ <;> (go_wp2; go_ret; exact ⟨rfl, Below.refl _ _⟩)
  have g4 : 1048576 < kp.length := by
    by_cases g4 : 1048576 < kp.length
    · exact g4
    · exact absurd ⟨by omega, by omega, by omega⟩ h
  clear h
  go_enter Try.func7, Try.ntmps7
  go_wp2_with fail
  refine HB.out.mono ?_
  rintro e w1 ⟨rfl | ⟨rfl, _⟩, rfl⟩ <;> (go_wp2; go_ret; exact ⟨rfl, Below.refl _ _⟩)

theorem walk (b wd : Int) (a2 a3 a4 : Option Addr) (c2 c3 c4 : Nat) (ids : List Int) (nms : List ByteArray) (kp : List Bool) (w : World)
    (r2 : RowIn w a2 ids.length c2 (uv ids)) (r3 : RowIn w a3 nms.length c3 (sv nms)) (r4 : RowIn w a4 kp.length c4 (bl kp)) :
    Calls Try.prog 7 #[.int .i64 b, .int .i64 wd, .slice a2 ids.length c2, .slice a3 nms.length c3, .slice a4 kp.length c4] w fun e w' => e = .returned (.bool true) ∧ Below w.heap.size w w' := by
  by_cases h : ids.length ≤ 131072 ∧ nms.length ≤ 65536 ∧ kp.length ≤ 1048576
  · exact keep_walk b wd a2 a3 a4 c2 c3 c4 ids nms kp w h.1 h.2.1 h.2.2 r2 r3 r4
  · exact big b wd a2 a3 a4 c2 c3 c4 ids nms kp w h r2 r3 r4

set_option maxHeartbeats 1000000 in
set_option maxRecDepth 100000 in
theorem lifted (os : Os) (started : os.Started) (H : Type) (enc : TypeId × Value → H) :
    ReturnsInHanded {} Try.checked os 7 .any (Rows.fnSubringKeepsOrderSpec.pre6 enc Try.prog Try.f7 Rows.fnSubringKeepsOrderRow.domain false) (Rows.fnSubringKeepsOrderSpec.post enc Try.prog Try.f7 false true false false) := by
  refine returnsInHanded_of_change (C := Try.checked) own started (by kernel_rfl) Try.func7
    (ChangeSpec.witness6 (enc := enc) (C := Try.checked) false ⟨#[], #[.int .i64 0, .int .i64 0, .slice none 0 0, .slice none 0 0, .slice none 0 0], []⟩ 8 (by kernel_rfl) (by kernel_rfl) (by kernel_rfl) (by kernel_rfl)) ?_
  intro W base args ds gs before hval0 hW hcnd _
  have hval : ∀ (j : Nat) t v, Try.f7.params[j]? = some t → args[j]? = some v → Value.okWide Try.prog W .any base t v := hval0
  have hW' := hW
  obtain ⟨p, q, hA0, hV, rfl, hfz, hnd⟩ := hW
  have hA : DataW.TrodAll enc Try.prog W 0 (fun _ => true) true Try.f7.params.toList args.toList ds p := hA0
  rw [Try.params7] at hA hval
  obtain ⟨v0, vs0, d0, ds0, p0, q0, hargs, rfl, rfl, h0, r0⟩ := trodAll_cons hA
  obtain ⟨v1, vs1, d1, ds1, p1, q1, rfl, rfl, rfl, h1, r1⟩ := trodAll_cons r0
  obtain ⟨v2, vs2, d2, ds2, p2, q2, rfl, rfl, rfl, h2, r2⟩ := trodAll_cons r1
  obtain ⟨v3, vs3, d3, ds3, p3, q3, rfl, rfl, rfl, h3, r3⟩ := trodAll_cons r2
  obtain ⟨v4, vs4, d4, ds4, p4, q4, rfl, rfl, rfl, h4, r4⟩ := trodAll_cons r3
  obtain ⟨rfl, rfl, rfl⟩ := trodAll_nil r4
  obtain rfl : args = #[v0, v1, v2, v3, v4] := by cases args; simp_all
  obtain ⟨rfl, rfl⟩ := trodVars_none hV
  obtain ⟨b, rfl, rfl, rfl, wb⟩ := open_int Try.underlying3 (hval 0 3 v0 rfl rfl) h0
  obtain ⟨wd, rfl, rfl, rfl, ww⟩ := open_int Try.underlying3 (hval 1 3 v1 rfl rfl) h1
  obtain ⟨a2, n2, c2, rfl⟩ := okWide_slice Try.underlying22 (hval 2 22 v2 rfl rfl)
  obtain ⟨a3, n3, c3, rfl⟩ := okWide_slice Try.underlying23 (hval 3 23 v3 rfl rfl)
  obtain ⟨a4, n4, c4, rfl⟩ := okWide_slice Try.underlying36 (hval 4 36 v4 rfl rfl)
  have lt2 : ∀ x ∈ p2, x.block < W.heap.size := by obtain ⟨m, hm⟩ := h2; exact DataW.trod_lt m _ _ _ hm
  have lt3 : ∀ x ∈ p3, x.block < W.heap.size := by obtain ⟨m, hm⟩ := h3; exact DataW.trod_lt m _ _ _ hm
  have lt4 : ∀ x ∈ p4, x.block < W.heap.size := by obtain ⟨m, hm⟩ := h4; exact DataW.trod_lt m _ _ _ hm
  obtain ⟨ids, rfl, o2⟩ := open_words h2
  obtain ⟨nms, rfl, o3⟩ := open_texts h3
  obtain ⟨third, rfl, o4⟩ := open_mask h4
  clear hA0 hval0
  refine (walk b wd a2 a3 a4 c2 c3 c4 ids nms third W o2 o3 o4).mono fun e W' ⟨he, bel⟩ => ?_
  subst he
  exact ⟨_, rfl, _, _, _, [], _, [], hW', trodAll_mk1 (shut_bool Try.underlying4 _), (trodAll_cons_mk (shut_int Try.underlying3 wb) (trodAll_cons_mk (shut_int Try.underlying3 ww) (trodAll_cons_mk (Below.trod laidOut (by kernel_rfl) (of_decide_eq_true (by kernel_rfl)) h2 bel lt2) (trodAll_cons_mk (Below.trod laidOut (by kernel_rfl) (of_decide_eq_true (by kernel_rfl)) h3 bel lt3) (trodAll_cons_mk (Below.trod laidOut (by kernel_rfl) (of_decide_eq_true (by kernel_rfl)) h4 bel lt4) trodAll_mk0))))), rfl, bel.frame _, fun h => by cases h⟩

theorem over : Rows.fnSubringKeepsOrderRow.holds Try.pinned (OpenSpec.ofChange Rows.fnSubringKeepsOrderSpec) :=
  OpenClaim.holds_of_wide 7 Try.f7 rfl rfl rfl rfl rfl rfl rfl ⟨rfl, rfl, rfl, rfl, rfl⟩ rfl rfl rfl rfl rfl (by kernel_rfl) Try.func7 (by kernel_rfl)
    (of_decide_eq_true (by kernel_rfl)) (by unfold Func.isWrapper; first | (rw [if_pos (by decide +kernel)]; kernel_rfl) | (rw [if_neg (by decide +kernel)]; exact ⟨rfl, rfl⟩))
    (fun os started H enc _ => lifted os started H enc)

/-- THE STATEMENT -/
theorem proved : Rows.FnSubringKeepsOrderSaid := over
end Go.Proofs.Qxb6603742a.fnSubringKeepsOrder
