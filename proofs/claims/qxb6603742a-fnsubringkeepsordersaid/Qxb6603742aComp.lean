import Derived.Test.Qxb6603742aSame
import Derived.Test.Qxb6603742aSub2
namespace Go.Proofs.Qxb6603742a
open Go.ChangeShapes Go.WideShapes Go.ChangeAt Go.RowKit

theorem sel_nil {α : Type} (kp : List Bool) (L k : Nat) : sel (nd L ([] : List α)) kp k = [] := by
  induction k with
  | zero => rfl
  | succ k ih => simp only [sel, ih, nd]; simp

/-- What a subring's header shows. -/
theorem SubSt.shows {w : World} {b wd : Nat} {ids : List Int} {nms : List ByteArray} {kp : List Bool} {sb gb N k : Nat} {na : Option Addr} {nc : Nat} {wr : World} (h : SubSt w b wd ids nms kp sb gb N k k na nc wr) :
    Cells wr (some ⟨gb, 0, none⟩) (sel (nd wd ids) kp k).length (uv (sel (nd wd ids) kp k)) ∧ (sel (nd wd ids) kp k).length ≤ ids.length ∧ Cells wr na (sel (nd 1 nms) kp k).length (sv (sel (nd 1 nms) kp k)) := by
  refine ⟨ownsRow_cells h.row (fun j hj => us_get _ _ hj), ?_, ownsRow_cells h.nam (fun j hj => ss_get _ _ hj)⟩
  rcases h.row.2 with ⟨h', _⟩ | ⟨g, cap, cur, h', _, _, hle, _⟩
  · simp at h'
  · simp only [Value.slice.injEq] at h'
    obtain ⟨_, _, rfl⟩ := h'
    exact hle

def listOf (n : Nat) (H : Nat → Bool) : List Bool := (List.range n).map H
theorem listOf_len (n : Nat) (H : Nat → Bool) : (listOf n H).length = n := by simp [listOf]
theorem listOf_get (n : Nat) (H : Nat → Bool) (j : Nat) (h : j < n) : (listOf n H).getD j false = H j := by simp [listOf, List.getD, h]

set_option maxHeartbeats 8000000 in
set_option maxRecDepth 100000 in
theorem comp_walk (b wd : Int) (a2 a3 a4 a5 : Option Addr) (c2 c3 c4 c5 : Nat) (ids : List Int) (nms : List ByteArray) (k1 k2 : List Bool) (w : World)
    (h2 : ids.length ≤ 131072) (h3 : nms.length ≤ 65536) (h4 : k1.length ≤ 1048576) (h5 : k2.length ≤ 1048576)
    (r2 : RowIn w a2 ids.length c2 (uv ids)) (r3 : RowIn w a3 nms.length c3 (sv nms)) (r4 : RowIn w a4 k1.length c4 (bl k1)) (r5 : RowIn w a5 k2.length c5 (bl k2)) :
    Calls Try.prog 6 #[.int .i64 b, .int .i64 wd, .slice a2 ids.length c2, .slice a3 nms.length c3, .slice a4 k1.length c4, .slice a5 k2.length c5] w fun e w' => e = .returned (.bool true) ∧ Below w.heap.size w w' := by
  have R2 := hid r2
  have R3 := hid r3
  have R4 := hid r4
  have R5 := hid r5
  have R3nil : Hid (a3 = none → nms.length = 0) := fun h => (r3.nil h).1
  clear r2 r3 r4 r5
  go_enter Try.func6, Try.ntmps6
  go_wp2_with fail
  refine (bytes20 b wd a2 a3 ids.length c2 nms.length c3 (fun j => nms.getD j ByteArray.empty) R2.out.len R3.out.len a4 a5 k1.length c4 k2.length c5 R4.out.len R5.out.len w R3.out.cells).mono ?_
  rintro e w1 ⟨rfl | ⟨rfl, hsz⟩, rfl⟩
  · go_wp2
    go_ret
    exact ⟨rfl, Below.refl _ _⟩
  have HSZ := hid hsz
  clear hsz
  go_wp2_with fail
  refine (namesTooBig9 a3 nms.length c3 (fun j => nms.getD j ByteArray.empty) _ ?_ ?_ (by omega) w1 R3.out.cells (fun j hj => Nat.le_trans (HSZ.out j hj) (by decide))).mono ?_
  · omega
  · omega
  rintro e w2 ⟨⟨bb, rfl⟩, rfl⟩
  cases bb with
  | true =>
    go_wp2
    go_ret
    exact ⟨rfl, Below.refl _ _⟩
  | false =>
  go_wp2_with fail
  refine (domain21 b wd a2 a3 a4 ids.length c2 nms.length c3 k1.length c4 R2.out.len w2).mono ?_
  rintro e w3 ⟨rfl | ⟨rfl, hdom⟩, rfl⟩
  · go_wp2
    go_ret
    exact ⟨rfl, Below.refl _ _⟩
  obtain ⟨hb1, hb2, bn, wn, rfl, rfl, hwn, hw1, hk1n, hn3⟩ := hdom
  have HWN := hid hwn
  have HK1 : Hid (k1.length * wn ≤ ids.length) := Nat.le_trans (Nat.mul_le_mul_right wn hk1n) (Nat.div_mul_le_self _ _)
  have HN3 : Hid (a3 ≠ none → k1.length ≤ nms.length) := fun h => by have := hn3 h; omega
  have HK1n := hid hk1n
  clear hwn hk1n hn3
  go_wp2_with fail
  go_loop [13, 14] (fun c i => ∃ k : Nat, k ≤ k1.length ∧ i = .int .i64 k ∧ c = .int .i64 ((rank k1 k : Nat) : Int)) (fun _ i => k1.length - (intOf i).toNat)
  case atStart => exact ⟨0, Nat.zero_le _, rfl, rfl⟩
  case round =>
    obtain ⟨k, hk, rfl, rfl⟩ := hrel
    have hrk := rank_le k1 k
    by_cases hlt : k < k1.length
    · obtain ⟨g, o, rfl, hc⟩ := R4.out.cells (by omega)
      have e1 : w3.cell? ⟨g, o + k, none⟩ = some (.bool (k1.getD k false)) := hc k hlt
      clear hc
      cases hkb : k1.getD k false with
      | true =>
        rw [hkb] at e1
        have HE := hid (rank_yes hkb)
        clear hkb
        go_wp2
        go_round
        case rel => exact ⟨k + 1, by omega, by go_num, by rw [HE.out]; go_num⟩
        case measure => simp [intOf]; omega
      | false =>
        rw [hkb] at e1
        have HE := hid (rank_no hkb)
        clear hkb
        go_wp2
        go_round
        case rel => exact ⟨k + 1, by omega, by go_num, by rw [HE.out]⟩
        case measure => simp [intOf]; omega
    · obtain rfl : k = k1.length := by omega
      by_cases hk2 : rank k1 k1.length < k2.length
      · go_wp2
        go_ret
        exact ⟨rfl, Below.refl _ _⟩
      · generalize hR : rank k1 k1.length = R at hrk hk2 ⊢
        have HRR := hid hR
        clear hR
        go_wp2_with fail
        refine (clone11 a2 ids.length c2 (fun j => ids.getD j 0) w3 (by omega) R2.out).mono ?_
        rintro e w4 ⟨a2', rfl, hn2, hc2, hb4⟩
        have C2 := hid hc2
        have B4 := hid hb4
        have R3' := hid (R3.out.later hb4)
        have R4' := hid (R4.out.later hb4)
        have R5' := hid (R5.out.later hb4)
        clear hc2 hb4 R2 R3 R4 R5
        go_wp2_with fail
        refine (clone12 a3 nms.length c3 (fun j => nms.getD j ByteArray.empty) w4 (by omega) R3'.out).mono ?_
        rintro e w5 ⟨a3', rfl, hn3', hc3, hb5⟩
        have C3 := hid hc3
        have C2' := hid (C2.out.below hb5)
        have B5 := hid (B4.out.trans (hb5.mono B4.out.size))
        have R4 := hid (R4'.out.later hb5)
        have R5 := hid (R5'.out.later hb5)
        have HN3' := hid hn3'
        clear hc3 hb5 R3' R4' R5' C2 B4 hn3' hn2
        go_wp2_with fail
        refine (clone22 a4 k1.length c4 (fun j => k1.getD j false) w5 (by omega) R4.out).mono ?_
        rintro e w6 ⟨a4', rfl, _, hc4, hb6⟩
        have C4 := hid hc4
        have C3' := hid (C3.out.below hb6)
        have C2 := hid (C2'.out.below hb6)
        have B6 := hid (B5.out.trans (hb6.mono B5.out.size))
        have R5' := hid (R5.out.later hb6)
        clear hc4 hb6 R4 R5 C3 C2' B5
        go_wp2_with fail
        refine (clone22 a5 k2.length c5 (fun j => k2.getD j false) w6 (by omega) R5'.out).mono ?_
        rintro e w7 ⟨a5', rfl, _, hc5, hb7⟩
        have C5 := hid hc5
        have C4' := hid (C4.out.below hb7)
        have C3 := hid (C3'.out.below hb7)
        have C2' := hid (C2.out.below hb7)
        have B7 := hid (B6.out.trans (hb7.mono B6.out.size))
        clear hc5 hb7 C4 C3' C2 R5' B6
        obtain ⟨i4, hi, hz0, hz1, hz2⟩ := info_parts info4
        go_wp2_with (at_make; refine wpList_make_full _ rfl _ _ 36 rfl 0 4 i4 (.bool false) 1 Try.underlying36 hi hz0 hz1 _ _ _ _ k1.length rfl rfl (by omega) (by omega) (by rw [hz2]; omega) (by unfold maxLen; omega) (Nat.zero_le _) ?_)
        intro w8 hown hgrow
        have HQ := hid (arr_of_made hown)
        have B8 : Hid (Below w7.heap.size w7 w8) := (Below.refl w7.heap.size w7).grown hgrow (Nat.le_refl _) (fun k hk => by cases hk)
        clear hown hgrow hi hz0 hz1 hz2
        go_wp2_with fail
        go_loopw [16, 17] (fun s16 s17 wr => ∃ (i : Nat) (H : Nat → Bool), i ≤ k1.length ∧ s17 = .int .i64 i ∧ s16 = .int .i64 ((rank k1 i : Nat) : Int) ∧ Hid (Below w7.heap.size w7 wr) ∧ Hid (Arr wr w7.heap.size 4 k1.length (bv H)) ∧
          Hid (∀ j, (j < i → H j = (k1.getD j false && k2.getD (rank k1 j) false)) ∧ (i ≤ j → H j = false))) (fun _ s17 _ => k1.length - (intOf s17).toNat)
        case atStart => exact ⟨0, fun _ => false, Nat.zero_le _, rfl, rfl, B8, HQ, fun j => ⟨fun h => by omega, fun _ => rfl⟩⟩
        case round =>
          clear HQ B8
          obtain ⟨i, H, hi, rfl, rfl, hb, hQ, hH⟩ := hrel
          have hri := rank_le k1 i
          by_cases hlti : i < k1.length
          · obtain ⟨g4, o4, rfl, hc4⟩ := (C4'.out.below hb.out) (by omega)
            have e4 : wr.cell? ⟨g4, o4 + i, none⟩ = some (.bool (k1.getD i false)) := hc4 i hlti
            have eq : wr.cell? ⟨w7.heap.size, i, none⟩ = some (.bool false) := by rw [hQ.out.cellB hlti, (hH.out i).2 (Nat.le_refl _)]
            have fq := hQ.out.frozen i
            clear hc4
            have HNO : Hid ((k1.getD i false && k2.getD (rank k1 i) false) = false → ∀ j, (j < i + 1 → H j = (k1.getD j false && k2.getD (rank k1 j) false)) ∧ (i + 1 ≤ j → H j = false)) := fun h j => by
              refine ⟨fun hj => ?_, fun hj => (hH.out j).2 (by omega)⟩
              by_cases e : j = i
              · rw [e, (hH.out i).2 (Nat.le_refl _), h]
              · exact (hH.out j).1 (by omega)
            have HYES : Hid ((k1.getD i false && k2.getD (rank k1 i) false) = true → ∀ j, (j < i + 1 → upd H i true j = (k1.getD j false && k2.getD (rank k1 j) false)) ∧ (i + 1 ≤ j → upd H i true j = false)) := fun h j => by
              refine ⟨fun hj => ?_, fun hj => by rw [upd_ne _ _ _ (by omega)]; exact (hH.out j).2 (by omega)⟩
              by_cases e : j = i
              · rw [e, upd_at, h]
              · rw [upd_ne _ _ _ e]; exact (hH.out j).1 (by omega)
            cases hkb : k1.getD i false with
            | false =>
              rw [hkb] at e4 HNO HYES
              have HE := hid (rank_no hkb)
              have HN := hid (HNO.out (by simp))
              clear hkb HNO HYES
              go_wp2
              go_roundw
              case rel => exact ⟨i + 1, H, by omega, by go_num, by rw [HE.out], hb, hQ, HN⟩
              case measure => simp [intOf]; omega
            | true =>
              rw [hkb] at e4 HNO HYES
              have HE := hid (rank_yes hkb)
              clear hkb
              by_cases hr2 : rank k1 i < k2.length
              · obtain ⟨g5, o5, rfl, hc5⟩ := (C5.out.below hb.out) (by omega)
                have e5 : wr.cell? ⟨g5, o5 + rank k1 i, none⟩ = some (.bool (k2.getD (rank k1 i) false)) := hc5 (rank k1 i) hr2
                clear hc5
                cases hkb2 : k2.getD (rank k1 i) false with
                | true =>
                  rw [hkb2] at e5 HYES
                  have HN := hid (HYES.out (by simp))
                  clear hkb2 HNO HYES
                  generalize hrr : rank k1 i = ri at hri hr2 e5 HE ⊢
                  clear hrr
                  go_wp2
                  go_roundw
                  case rel => exact ⟨i + 1, upd H i true, by omega, by go_num, by rw [HE.out]; go_num, hb.out.setCell (p := ⟨w7.heap.size, i, none⟩) (Nat.le_refl _) _, hQ.out.setB i true, HN⟩
                  case measure => simp [intOf]; omega
                | false =>
                  rw [hkb2] at e5 HNO
                  have HN := hid (HNO.out (by simp))
                  clear hkb2 HNO HYES
                  generalize hrr : rank k1 i = ri at hri hr2 e5 HE ⊢
                  clear hrr
                  go_wp2
                  go_roundw
                  case rel => exact ⟨i + 1, H, by omega, by go_num, by rw [HE.out]; go_num, hb, hQ, HN⟩
                  case measure => simp [intOf]; omega
              · have hz : k2.getD (rank k1 i) false = false := by simp [List.getD, List.getElem?_eq_none (show k2.length ≤ rank k1 i by omega)]
                rw [hz] at HNO
                have HN := hid (HNO.out (by simp))
                clear hz HNO HYES
                generalize hrr : rank k1 i = ri at hri hr2 HE ⊢
                clear hrr
                go_wp2
                go_roundw
                case rel => exact ⟨i + 1, H, by omega, by go_num, by rw [HE.out]; go_num, hb, hQ, HN⟩
                case measure => simp [intOf]; omega
          · obtain rfl : i = k1.length := by omega
            obtain ⟨both, hboth⟩ : ∃ both, both = listOf k1.length H := ⟨_, rfl⟩
            have HLB : Hid (both.length = k1.length) := by rw [hboth]; exact listOf_len _ _
            have HBoth : Hid (Both k1 k2 both k1.length) := fun j hj => by rw [hboth, listOf_get _ _ _ hj]; exact (hH.out j).1 hj
            have CB : Hid (Cells wr (some ⟨w7.heap.size, 0, none⟩) both.length (bl both)) := by
              rw [HLB.out]
              refine (hQ.out.cells).congr (fun j hj => ?_)
              unfold bv bl
              rw [hboth, listOf_get _ _ _ hj]
            have C2 : Hid (Cells wr a2' ids.length (uv ids)) := C2'.out.below hb.out
            have C3' : Hid (Cells wr a3' nms.length (sv nms)) := C3.out.below hb.out
            have C4 : Hid (Cells wr a4' k1.length (bl k1)) := C4'.out.below hb.out
            have C5' : Hid (Cells wr a5' k2.length (bl k2)) := C5.out.below hb.out
            have BB : Hid (Below w3.heap.size w3 wr) := B7.out.trans (hb.out.mono B7.out.size)
            have HNL : Hid (a3' ≠ none → k1.length ≤ nms.length) := fun h => HN3.out (fun e => h (HN3'.out.2 e))
            have HNN : Hid (a3' = none → nms = []) := fun h => by
              have := R3nil.out (HN3'.out.1 h)
              exact List.eq_nil_of_length_eq_zero this
            clear hboth hH hQ hb C2' C3 C4' C5 B7 HN3 HN3' R3nil hri hlti hi
            go_wp2_with fail
            refine (make13 bn wn _ _ a2' a3' ids.length ids.length nms.length nms.length wr rfl rfl).mono ?_
            rintro e w9 ⟨rfl, hB9, hb9⟩
            have hr9 := hB9.lt
            have HB9 := hid hB9
            have D2 := hid (C2.out.below hb9)
            have D3 := hid (C3'.out.below hb9)
            have D4 := hid (C4.out.below hb9)
            have D5 := hid (C5'.out.below hb9)
            have DB := hid (CB.out.below hb9)
            have B9 := hid (BB.out.trans (hb9.mono BB.out.size))
            generalize wr.heap.size = rb at hr9 HB9 ⊢
            clear hB9 hb9 C2 C3' C4 C5' CB BB
            go_wp2_with fail
            refine (subring23 rb bn wn a2' a3' ids.length nms.length ids nms a4' k1.length k1 w9 (by omega) (by omega) HWN.out HB9.out D2.out (Nat.le_refl _) (by unfold maxLen; omega) (by omega) D4.out HK1.out D3.out HNL.out HNN.out).mono ?_
            rintro e w10 ⟨sb1, gb1, N1, na1, nc1, rfl, S1, hsb1⟩
            have hb10 := S1.bel
            obtain ⟨x1, x2, x3⟩ := S1.shows
            have X0 := hid S1.blk
            have X1 := hid x1
            have X3 := hid x3
            have XN := hid S1.nil
            have hl10 := S1.blk.lt
            have E2 := hid (D2.out.below hb10)
            have E3 := hid (D3.out.below hb10)
            have E5 := hid (D5.out.below hb10)
            have EB := hid (DB.out.below hb10)
            have HB10 := hid (HB9.out.below hb10 hr9)
            have B10 := hid (B9.out.trans (hb10.mono B9.out.size))
            have hr10 : rb < w10.heap.size := HB10.out.lt
            clear S1 hb10 x1 x3 D2 D3 D4 D5 DB HB9 B9
            have hf1 : ∀ j, j < k1.length → (nd wn ids j).length = wn := fun j hj => nd_length (Nat.le_trans (Nat.mul_le_mul_right wn hj) HK1.out)
            have hlen1 := sel_length (kp := k1) hf1 k1.length (Nat.le_refl _)
            have HSB := hid (sel_both (xs := ids) (k1 := k1) (k2 := k2) (both := both) (L := wn) (n := k1.length) HK1.out HBoth.out (by have := HRR.out; omega))
            have HSN : Hid (sel (nd 1 (sel (nd 1 nms) k1 k1.length)) k2 k2.length = sel (nd 1 nms) both k1.length) := by
              by_cases e : a3' = none
              · rw [HNN.out e, sel_nil, sel_nil, sel_nil]; exact rfl
              · exact sel_both (by have := HNL.out e; omega) HBoth.out (by have := HRR.out; omega)
            have HNL1 : Hid (na1 ≠ none → k2.length ≤ (sel (nd 1 nms) k1 k1.length).length) := fun h => by
              by_cases e : a3' = none
              · exact absurd (XN.out.2 (by rw [HNN.out e, sel_nil])) h
              · have e1 := sel_length (f := nd 1 nms) (kp := k1) (L := 1) (n := k1.length) (fun j hj => nd_length (by have := HNL.out e; omega)) k1.length (Nat.le_refl _)
                have := HRR.out
                omega
            have HK2 : Hid (k2.length * wn ≤ (sel (nd wn ids) k1 k1.length).length) := by
              show _ ≤ _
              rw [hlen1]
              exact Nat.mul_le_mul_right wn (by have := HRR.out; omega)
            clear hf1 hlen1
            generalize sel (nd wn ids) k1 k1.length = ids1 at x2 X0 X1 HSB HK2
            generalize sel (nd 1 nms) k1 k1.length = nms1 at X0 X3 XN HSN HNL1
            go_wp2_with fail
            refine (subring23 sb1 bn wn (some ⟨gb1, 0, none⟩) na1 ids.length nc1 ids1 nms1 a5' k2.length k2 w10 (by omega) (by omega) HWN.out X0.out X1.out x2 (by unfold maxLen; omega) (by omega) E5.out HK2.out X3.out HNL1.out (fun h => XN.out.1 h)).mono ?_
            rintro e w11 ⟨sb2, gb2, N2, na2, nc2, rfl, S2, hsb2⟩
            have hb11 := S2.bel
            obtain ⟨y1, y2, y3⟩ := S2.shows
            have Y0 := hid S2.blk
            have Y1 := hid y1
            have Y3 := hid y3
            have YN := hid S2.nil
            have hl11 := S2.blk.lt
            have F2 := hid (E2.out.below hb11)
            have F3 := hid (E3.out.below hb11)
            have FB := hid (EB.out.below hb11)
            have HB11 := hid (HB10.out.below hb11 hr10)
            have B11 := hid (B10.out.trans (hb11.mono B10.out.size))
            clear S2 hb11 y1 y3 E2 E3 E5 EB HB10 B10 X0 X1 X3
            rw [HSB.out] at y2 Y0 Y1
            rw [HSN.out] at Y0 Y3 YN
            have HS3 := hid (subring23 rb bn wn a2' a3' ids.length nms.length ids nms (some ⟨w7.heap.size, 0, none⟩) k1.length both w11 (by omega) (by omega) HWN.out HB11.out F2.out (Nat.le_refl _) (by unfold maxLen; omega) (by omega) FB.out (by rw [HLB.out]; exact HK1.out) F3.out (by rw [HLB.out]; exact HNL.out) HNN.out)
            rw [HLB.out] at HS3
            go_wp2_with fail
            refine HS3.out.mono ?_
            rintro e w12 ⟨sb3, gb3, N3, na3, nc3, rfl, S3, hsb3⟩
            have hb12 := S3.bel
            obtain ⟨z1, z2, z3⟩ := S3.shows
            have Z0 := hid S3.blk
            have Z1 := hid z1
            have Z3 := hid z3
            have ZN := hid S3.nil
            have Y1' := hid (Y1.out.below hb12)
            have Y3' := hid (Y3.out.below hb12)
            have Y0' := hid (Y0.out.below hb12 hl11)
            have B12 := hid (B11.out.trans (hb12.mono B11.out.size))
            have hnml : (sel (nd 1 nms) both k1.length).length ≤ maxLen := by
              rcases S3.nam.2 with ⟨_, h0⟩ | ⟨_, cap, _, h', _, _, hle, hm, _⟩
              · omega
              · exact Nat.le_trans hle hm
            clear S3 hb12 z1 z3 F2 F3 FB HB11 B11 Y0 Y1 Y3 HS3
            generalize sel (nd wn ids) both k1.length = ids3 at *
            generalize sel (nd 1 nms) both k1.length = nms3 at *
            go_wp2_with fail
            refine (same24 sb2 sb3 bn wn ids1.length ids.length nc2 nc3 (some ⟨gb2, 0, none⟩) (some ⟨gb3, 0, none⟩) na2 na3 ids3 nms3 w12 (by unfold maxLen; omega) hnml Y0'.out Z0.out Y1'.out Z1.out Y3'.out Z3.out (YN.out.trans ZN.out.symm)).mono ?_
            rintro e w13 ⟨rfl, hd⟩
            go_wp2
            go_ret
            exact ⟨rfl, hd.below B12.out⟩
end Go.Proofs.Qxb6603742a
