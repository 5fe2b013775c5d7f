import Derived.Test.Qxb6603698aKids
import Derived.Deep.LoopGhost
import Derived.Laws.DeepNot64
namespace Go.Proofs.Qxb6603698a
open Go.ChangeShapes Go.WideShapes Go.ChangeAt Go.RowKit

theorem i64_not_neg (u : Nat) (hu : u < 9223372036854775808) : bits .xor .i64 (-1) (-(u : Int) - 1) = (u : Int) := by
  show IntKind.i64.wrap ((BitVec.ofInt 64 (-1) ^^^ BitVec.ofInt 64 (-(u : Int) - 1)).toNat : Int) = _
  have h1 : BitVec.ofInt 64 (-1) = BitVec.allOnes 64 := by decide
  rw [h1, BitVec.allOnes_xor, BitVec.toNat_not, BitVec.toNat_ofInt]
  have h2 : ((-(u : Int) - 1) % ((2 ^ 64 : Nat) : Int)).toNat = 18446744073709551616 - u - 1 := by
    have : ((2 ^ 64 : Nat) : Int) = 18446744073709551616 := by decide
    rw [this]; omega
  rw [h2]
  simp [IntKind.wrap, IntKind.bits, IntKind.signed]
  omega
theorem i64_not_nat (u : Nat) (hu : u < 9223372036854775808) : bits .xor .i64 (-1) (u : Int) = -(u : Int) - 1 := by
  rw [i64_not u hu]; omega

set_option maxHeartbeats 4000000 in
set_option maxRecDepth 100000 in
theorem pre_walk (a0 a1 : Option Addr) (m c0 n1 c1 : Nat) (z0 z1 : List Int) (w : World) (hm : m ≤ 65536) (hn1 : n1 ≤ 65536) (r0 : IsRow .u8 w a0 m c0 z0) (r1 : IsRow .i32 w a1 n1 c1 z1) :
    Calls Try.prog 4 #[.slice a0 m c0, .slice a1 n1 c1] w fun e w' => e = .returned (.bool true) ∧ Below w.heap.size w w' := by
  have HR0 := hid r0
  have HR1 := hid r1
  clear r0 r1
  go_enter Try.func4, Try.ntmps4
  go_wp2_with fail
  refine (bytes11 a0 a1 m c0 n1 c1 HR0.out.len HR1.out.len w).mono ?_
  rintro e w' ⟨⟨b, rfl⟩, rfl⟩
  cases b with
  | false =>
    go_wp2
    go_ret
    exact ⟨rfl, Below.refl _ _⟩
  | true =>
    go_wp2_with fail
    refine (fail12_any m a1 n1 c1 z1 w' hn1 HR1.out).mono ?_
    rintro e w1 ⟨rfl | ⟨rfl, tr, hmn, hv⟩, rfl⟩
    · go_wp2
      go_ret
      exact ⟨rfl, Below.refl _ _⟩
    · have HT := hid tr
      have HV := hid hv
      have HM := hid hmn
      clear tr hv hmn
      go_wp2_with fail
      refine (clone13_any a0 m c0 z0 w1 hm HR0.out).mono ?_
      rintro e w2 ⟨a0', c0', rfl, hb2⟩
      have B2 := hid hb2
      clear hb2
      go_wp2_with fail
      refine (clone14_any a1 n1 c1 z1 w2 hn1 (HR1.out.later B2.out)).mono ?_
      rintro e w3 ⟨a1', c1', rfl, hb3, hf⟩
      have B3 : Hid (Below w1.heap.size w1 w3) := B2.out.trans (hb3.mono B2.out.size)
      have HF := hid (failAt_of hf HM.out HV.out)
      clear hb3 hf B2 HM HV HR0 HR1
      generalize parOf z1 = par at HT HF
      obtain ⟨S, F, hN⟩ := HT.out.num
      have HN := hid hN
      clear hN
      go_wp2_with fail
      refine (children15 par m n1 c1' a1' w3 hm HT.out HF.out).mono ?_
      rintro e w4 ⟨sb, kb, K, rfl, hS, hK, hkids, hb4⟩
      have B4 : Hid (Below w1.heap.size w1 w4) := B3.out.trans (hb4.mono B3.out.size)
      have HF4 := hid (HF.out.below hb4)
      have HS := hid hS
      have HK := hid hK
      have HKids := hid hkids
      have hsl := hS.lt
      have hkl := hK.lt
      clear hS hK hkids hb4 B3 HF
      obtain ⟨i21, hi, hz0, hz1, hz2⟩ := info_parts info21
      obtain ⟨i3, hj, hy0, hy1, hy2⟩ := info_parts info3
      go_wp2_with (at_make; refine wpList_make_full _ rfl _ _ 33 rfl 0 21 i21 (.int .i32 0) 1 Try.underlying33 hi hz0 hz1 _ _ _ _ (m + 1) rfl rfl (by omega) (by omega) (by rw [hz2]; omega) (by unfold maxLen; omega) (Nat.zero_le _) ?_)
      intro w5 hown hgrow
      have A5 := hid (arr_of_made hown)
      have B5 : Hid (Below w4.heap.size w4 w5) := (Below.refl w4.heap.size w4).grown hgrow (Nat.le_refl _) (fun k hk => by cases hk)
      obtain ⟨ab, hab⟩ : ∃ ab, ab = w4.heap.size := ⟨_, rfl⟩
      rw [← hab] at A5 ⊢
      have ha1 : w4.heap.size ≤ ab := by omega
      have ha2 : ab < w5.heap.size := A5.out.lt
      clear hown hgrow hab
      go_wp2_with (at_make; refine wpList_make_full _ rfl _ _ 33 rfl 0 21 i21 (.int .i32 0) 1 Try.underlying33 hi hz0 hz1 _ _ _ _ (m + 1) rfl rfl (by omega) (by omega) (by rw [hz2]; omega) (by unfold maxLen; omega) (Nat.zero_le _) ?_)
      intro w6 hown hgrow
      have T6 := hid (arr_of_made hown)
      have B6 : Hid (Below w4.heap.size w4 w6) := B5.out.grown hgrow B5.out.size (fun k hk => by cases hk)
      have A6 := hid (A5.out.grown hgrow)
      obtain ⟨tb, htb⟩ : ∃ tb, tb = w5.heap.size := ⟨_, rfl⟩
      rw [← htb] at T6 ha2 ⊢
      have ht2 : tb < w6.heap.size := T6.out.lt
      clear hown hgrow htb A5 B5
      go_wp2_with (at_make; refine wpList_make_full _ rfl _ _ 38 rfl 0 3 i3 (.int .i64 0) 1 Try.underlying38 hj hy0 hy1 _ _ _ _ (2 * (m + 1)) rfl rfl (by omega) (by omega) (by rw [hy2]; omega) (by unfold maxLen; omega) (Nat.zero_le _) ?_)
      intro w7 hown hgrow
      have Q7 := hid (arr_of_made hown)
      have B7 : Hid (Below w4.heap.size w4 w7) := B6.out.grown hgrow B6.out.size (fun k hk => by cases hk)
      have A7 := hid (A6.out.grown hgrow)
      have T7 := hid (T6.out.grown hgrow)
      obtain ⟨qb, hqb⟩ : ∃ qb, qb = w6.heap.size := ⟨_, rfl⟩
      rw [← hqb] at Q7 ht2 ⊢
      clear hown hgrow hqb A6 B6 T6 hi hz0 hz1 hz2 hj hy0 hy1 hy2
      have q0 := Q7.out.cell (j := 0) (by omega)
      have qf := Q7.out.frozen 0
      go_wp2_with fail
      go_loopg [11, 12] (2 * (m + 1) + 1) (fun gg s11 s12 wr => ∃ (t : Nat) (c : Int) (s A B : Nat → Int), s11 = .int .i64 t ∧ s12 = .int .i32 c ∧ Hid (Below w4.heap.size w4 wr) ∧ Hid (Arr wr ab 21 (m + 1) (iv .i32 A)) ∧ Hid (Arr wr tb 21 (m + 1) (iv .i32 B)) ∧ Hid (Arr wr qb 3 (2 * (m + 1)) (iv .i64 s)) ∧ Hid (Dfs par m S F s t c A B) ∧ Hid (todo m s t c ≤ gg))
      case atStart =>
        refine ⟨1, 0, upd (fun _ => 0) 0 0, fun _ => 0, fun _ => 0, rfl, rfl, B7.out.setCell (p := ⟨qb, 0, none⟩) (by show w4.heap.size ≤ qb; omega) _, A7.out.setOther (a := ⟨qb, 0, none⟩) (by show ab ≠ qb; omega) _, T7.out.setOther (a := ⟨qb, 0, none⟩) (by show tb ≠ qb; omega) _, ?_, Dfs.start HN.out _ _ _ (upd_at _ _ _), ?_⟩
        · exact Arr.setI (k := .i64) (F := fun _ => 0) Q7.out 0 0
        · show todo m _ 1 0 ≤ _
          simp only [todo, stk, negs, upd_at]
          simp; omega
      case round =>
        clear q0 qf Q7 B7 A7 T7
        obtain ⟨t, c, s, A, B, rfl, rfl, hb, hA, hB, hQ, hD, hg⟩ := hrel
        have rm := hD.out.room HN.out
        have hc0 := hD.out.cnn
        cases t with
        | zero =>
          have HDone := hid (hD.out.done HN.out)
          have hbs := hb.out.size
          have HF5 : Hid (FailAt par wr m n1 a1') := fun h1 => by
            obtain ⟨fb, e1, e2, e3, fv, e4, e5⟩ := HF4.out h1
            exact ⟨fb, e1, by omega, e3, fv, e4.below hb.out e2, e5⟩
          have hab := hA.out.lt
          have htb := hB.out.lt
          clear hD hQ hg rm hc0
          go_wp2_with fail
          refine (zz16 par a0' a1' m c0' n1 c1' wr hm HT.out HF5.out).mono ?_
          rintro e w9 ⟨ub, vb, S', F', rfl, hU, hV, hN', _, _, _, hb9⟩
          have HU := hid hU
          have HV := hid hV
          have HA9 := hid (hA.out.below hb9 hab)
          have HB9 := hid (hB.out.below hb9 htb)
          have HQ := hid (HN.out.unique hN')
          have BB : Hid (Below w1.heap.size w1 w9) := B4.out.trans ((hb.out.trans (hb9.mono hbs)).mono B4.out.size)
          clear hU hV hN' hb9 hA hB hb
          go_wp2_with fail
          go_loopw [17] (fun s17 wx => ∃ (j : Nat), j ≤ m + 1 ∧ s17 = .int .i64 j ∧ ∃ n, wx = w9.drewN n) (fun s17 _ => (m + 1 - intOf s17).toNat)
          case atStart => exact ⟨0, Nat.zero_le _, rfl, 0, rfl⟩
          case round =>
            obtain ⟨j, hj, rfl, n, rfl⟩ := hrel
            by_cases hjm : j ≤ m
            · have g1 := HU.out.cellI (j := j) (by omega)
              have g2 := HV.out.cellI (j := j) (by omega)
              have g3 := HA9.out.cellI (j := j) (by omega)
              have g4 := HB9.out.cellI (j := j) (by omega)
              rw [(HDone.out j hjm).1] at g3
              rw [(HDone.out j hjm).2] at g4
              rw [← (HQ.out j hjm).1] at g1
              rw [← (HQ.out j hjm).1, ← (HQ.out j hjm).2] at g2
              generalize S j + F j = tj at g2 g4
              generalize F j = fj at g1 g3
              have hjz : (j : Int) < (m : Int) + 1 := by omega
              go_wp2
              go_quiet (fail)
              go_wp2
              go_roundw
              case rel => exact ⟨j + 1, by omega, by go_num, _, rfl⟩
              case measure => simp [intOf]; omega
            · go_wp2
              go_ret
              exact ⟨rfl, Below.drewN BB.out n⟩
        | succ t =>
          by_cases hx : s t < 0
          · have ⟨p1, p2, D', hless⟩ := hD.out.mark hx
            have gq := hQ.out.cellI (j := t) (by omega)
            obtain ⟨u, hu⟩ := Int.eq_ofNat_of_zero_le p1
            have hst : s t = -(u : Int) - 1 := by omega
            rw [hst] at gq
            have hum : u ≤ m := by omega
            have hnot := i64_not_neg u (by omega)
            have gB := hB.out.cellI (j := u) (by omega)
            have fB := hB.out.frozen u
            have HU := hid hu
            have HD' := hid D'
            have HL := hid hless
            clear hu hst D' hless hx p1 p2
            go_wp2
            go_roundg (todo m s t c)
            case measure => exact Nat.lt_of_lt_of_le HL.out hg.out
            case rel =>
              refine ⟨t, c, s, A, upd B u c, rfl, rfl, hb.out.setCell (p := ⟨tb, u, none⟩) (by show w4.heap.size ≤ tb; omega) _, hA.out.setOther (a := ⟨tb, u, none⟩) (by show ab ≠ tb; omega) _, hB.out.setI u c, hQ.out.setOther (a := ⟨tb, u, none⟩) (by show qb ≠ tb; omega) _, ?_, Nat.le_refl _⟩
              have := HD'.out
              rw [HU.out] at this
              exact this
          · obtain ⟨x, hxs, hxm, hcx, P0⟩ := hD.out.part HN.out (Int.not_lt.1 hx)
            have gq := hQ.out.cellI (j := t) (by omega)
            have fq := hQ.out.frozen t
            rw [hxs] at gq
            have hnot := i64_not_nat x (by omega)
            have gA := hA.out.cellI (j := x) (by omega)
            have fA := hA.out.frozen x
            have gs1 := (HS.out.below hb.out hsl).cellN (j := x + 1) (by omega)
            rw [first_succ] at gs1
            have hfl := first_le par m (x + 1)
            rw [first_succ] at hfl
            have HP := hid P0
            have HC := hid hcx
            have bF := HN.out.bd x hxm
            have bS := HN.out.sized.bd x hxm
            clear hxs P0 hx hcx
            have hc1 : c ≤ 65537 := by omega
            generalize hr0 : cnt (isKid par x) m = r0 at gs1 hfl HP
            have HR0 := hid hr0
            clear hr0
            generalize hg0 : todo m s (t + 1) c = g0 at HP hg
            clear hg0
            go_wp2_with fail
            go_loopw [11, 14] (fun s11 s14 wr => ∃ (r t : Nat) (s : Nat → Int), s11 = .int .i64 t ∧ s14 = .int .i64 (((first par m x : Nat) : Int) + r - 1) ∧ r ≤ r0 ∧ Hid (Below w4.heap.size w4 wr) ∧ Hid (Arr wr ab 21 (m + 1) (iv .i32 (upd A x (F x)))) ∧ Hid (Arr wr tb 21 (m + 1) (iv .i32 B)) ∧ Hid (Arr wr qb 3 (2 * (m + 1)) (iv .i64 s)) ∧ Hid (Push par m S F x r s t (upd A x (F x)) B g0)) (fun _ s14 _ => (intOf s14 + 1).toNat)
            case atStart =>
              refine ⟨r0, t + 1, upd s t (-(x : Int) - 1), by go_num, rfl, Nat.le_refl _, ?_, ?_, ?_, ?_, HP⟩
              · exact (hb.out.setCell (p := ⟨ab, x, none⟩) ha1 _).setCell (p := ⟨qb, t, none⟩) (by show w4.heap.size ≤ qb; omega) _
              · rw [← HC.out]; exact (hA.out.setI x c).setOther (a := ⟨qb, t, none⟩) (by show ab ≠ qb; omega) _
              · exact (hB.out.setOther (a := ⟨ab, x, none⟩) (by show tb ≠ ab; omega) _).setOther (a := ⟨qb, t, none⟩) (by show tb ≠ qb; omega) _
              · exact (hQ.out.setOther (a := ⟨ab, x, none⟩) (by show qb ≠ ab; omega) _).setI t _
            case round =>
              clear gs1 HP hb hA hB hQ gq fq gA fA rm hD
              obtain ⟨r, t', s', rfl, rfl, hr, hb, hA, hB, hQ, hP⟩ := hrel
              have gs := (HS.out.below hb.out hsl).cellN (j := x) (by omega)
              have rm := hP.out.room HN.out
              cases r with
              | zero =>
                have HD' := hid (hP.out.done HN.out hxm)
                have HL := hid hP.out.left
                clear hP
                go_wp2
                go_roundg (todo m s' t' (F x + 1))
                case measure => exact Nat.lt_of_lt_of_le HL.out hg.out
                case rel => exact ⟨t', F x + 1, s', _, B, rfl, by rw [HC.out], hb, hA, hB, hQ, HD', Nat.le_refl _⟩
              | succ r =>
                obtain ⟨ch, hc1', hc2', hpc, hKc, hcr⟩ := HKids.out.at (x := x) (i := first par m x + r) (by omega) (by rw [first_succ]; have := HR0.out; omega)
                have gk := (HK.out.below hb.out hkl).cellN (j := first par m x + r) (by omega)
                rw [hKc] at gk
                have HP2 := hid (hP.out.step HN.out hc1' hc2' hpc (by omega))
                have rm2 := HP2.out.room HN.out
                have gq := hQ.out.cellI (j := t') (by omega)
                have fq := hQ.out.frozen t'
                clear hKc hpc hcr hP
                go_wp2
                go_roundw
                case rel =>
                  refine ⟨r, t' + 1, upd s' t' ch, by go_num, by go_num, by omega, ?_, ?_, ?_, ?_, HP2⟩
                  · exact hb.out.setCell (p := ⟨qb, t', none⟩) (by show w4.heap.size ≤ qb; omega) _
                  · exact hA.out.setOther (a := ⟨qb, t', none⟩) (by show ab ≠ qb; omega) _
                  · exact hB.out.setOther (a := ⟨qb, t', none⟩) (by show tb ≠ qb; omega) _
                  · exact hQ.out.setI t' _
                case measure => simp [intOf]; omega
end Go.Proofs.Qxb6603698a
