import Derived.Test.Qxb6603698aClone
import Derived.Deep.DeepCutAuto
namespace Go.Proofs.Qxb6603698a
open Go.ChangeShapes Go.WideShapes Go.ChangeAt Go.RowKit

/-- The receiver of 'number', its two new slices laid, nothing old turned but it. -/
structure NSt (w : World) (sb ub tb m rc fl fc : Nat) (ra fa : Option Addr) (x1 x3 : Value) (xs : List Value) (wr : World) : Prop where
  blk : Blk wr sb 54 (.slice ra m rc :: x1 :: .slice fa fl fc :: x3 :: .slice (some ⟨ub, 0, none⟩) (m + 1) (m + 1) :: .slice (some ⟨tb, 0, none⟩) (m + 1) (m + 1) :: xs)
  but : But w.heap.size sb w wr

theorem NSt.set {w wr : World} {sb ub tb m rc fl fc : Nat} {ra fa : Option Addr} {x1 x3 : Value} {xs : List Value} (h : NSt w sb ub tb m rc fl fc ra fa x1 x3 xs wr) {p : Addr} (hp : w.heap.size ≤ p.block) (hs : sb < w.heap.size) (v : Value) :
    NSt w sb ub tb m rc fl fc ra fa x1 x3 xs (wr.setCell p v) := ⟨h.blk.setOther (by omega) v, h.but.setCell (.inr hp) v⟩
theorem NSt.drew {w wr : World} {sb ub tb m rc fl fc : Nat} {ra fa : Option Addr} {x1 x3 : Value} {xs : List Value} (h : NSt w sb ub tb m rc fl fc ra fa x1 x3 xs wr) : NSt w sb ub tb m rc fl fc ra fa x1 x3 xs wr.drew := ⟨h.blk, h.but.drew⟩
theorem NSt.alloc {w wr : World} {sb ub tb m rc fl fc : Nat} {ra fa : Option Addr} {x1 x3 : Value} {xs : List Value} (h : NSt w sb ub tb m rc fl fc ra fa x1 x3 xs wr) (o : Obj) : NSt w sb ub tb m rc fl fc ra fa x1 x3 xs (wr.alloc o) :=
  ⟨h.blk.alloc o, h.but.alloc h.but.size o⟩

theorem NSt.grown {w wr w' : World} {sb ub tb m rc fl fc : Nat} {ra fa : Option Addr} {x1 x3 : Value} {xs : List Value} (h : NSt w sb ub tb m rc fl fc ra fa x1 x3 xs wr) (hg : wr.grownBy w' none) : NSt w sb ub tb m rc fl fc ra fa x1 x3 xs w' :=
  ⟨h.blk.grown hg, h.but.grown hg h.but.size⟩

theorem NSt.c2 {w wr : World} {sb ub tb m rc fl fc : Nat} {ra fa : Option Addr} {x1 x3 : Value} {xs : List Value} (h : NSt w sb ub tb m rc fl fc ra fa x1 x3 xs wr) : wr.cell? ⟨sb, 2, none⟩ = some (.slice fa fl fc) := by simpa using h.blk.cell 2
theorem NSt.c4 {w wr : World} {sb ub tb m rc fl fc : Nat} {ra fa : Option Addr} {x1 x3 : Value} {xs : List Value} (h : NSt w sb ub tb m rc fl fc ra fa x1 x3 xs wr) : wr.cell? ⟨sb, 4, none⟩ = some (.slice (some ⟨ub, 0, none⟩) (m + 1) (m + 1)) := by simpa using h.blk.cell 4
theorem NSt.c5 {w wr : World} {sb ub tb m rc fl fc : Nat} {ra fa : Option Addr} {x1 x3 : Value} {xs : List Value} (h : NSt w sb ub tb m rc fl fc ra fa x1 x3 xs wr) : wr.cell? ⟨sb, 5, none⟩ = some (.slice (some ⟨tb, 0, none⟩) (m + 1) (m + 1)) := by simpa using h.blk.cell 5

/-- What 'number' asks of 'fail': where there is a part, it is there, and says the tree. -/
def FailOk (par : Nat → Nat) (w : World) (sb m fl : Nat) (fa : Option Addr) : Prop :=
  1 ≤ m → ∃ fb, fa = some ⟨fb, 0, none⟩ ∧ fb ≠ sb ∧ fb < w.heap.size ∧ m < fl ∧ ∀ wr, But w.heap.size sb w wr → ∀ j, 1 ≤ j → j ≤ m → wr.cell? ⟨fb, j, none⟩ = some (.int .i32 (par j))

theorem nst_start {w : World} {sb m rc fl fc : Nat} {ra fa : Option Addr} {x1 x3 x4 x5 : Value} {xs : List Value}
    (hS : Blk w sb 54 (.slice ra m rc :: x1 :: .slice fa fl fc :: x3 :: x4 :: x5 :: xs)) (ub tb : Nat) (o1 o2 : Obj) :
    NSt w sb ub tb m rc fl fc ra fa x1 x3 xs ((((w.setCell ⟨sb, 4, none⟩ (.slice (some ⟨ub, 0, none⟩) (m + 1) (m + 1))).setCell ⟨sb, 5, none⟩ (.slice (some ⟨tb, 0, none⟩) (m + 1) (m + 1))).alloc o1).alloc o2).drew := by
  refine ⟨?_, ?_⟩
  · have := (((hS.set 4 (.slice (some ⟨ub, 0, none⟩) (m + 1) (m + 1))).set 5 (.slice (some ⟨tb, 0, none⟩) (m + 1) (m + 1))).alloc o1).alloc o2
    exact this
  · exact ((((((But.refl w.heap.size sb w).setCell (p := ⟨sb, 4, none⟩) (.inl rfl) _).setCell (p := ⟨sb, 5, none⟩) (.inl rfl) _).alloc (by simp) o1).alloc (by simp) o2)).drew

theorem arr_first (w : World) (o : Obj) (n : Nat) : Arr (((w.alloc (.cells (madeCells #[.int .i32 0] n) 21))).alloc o).drew w.heap.size 21 n (iv .i32 (fun _ => 0)) := (Arr.made w 21 (.int .i32 0) n).alloc o
theorem arr_second (w : World) (o : Obj) (n : Nat) : Arr (((w.alloc o)).alloc (.cells (madeCells #[.int .i32 0] n) 21)).drew (w.heap.size + 1) 21 n (iv .i32 (fun _ => 0)) := by
  have := Arr.made (w.alloc o) 21 (.int .i32 0) n
  rw [World.size_alloc] at this
  exact this

set_option maxHeartbeats 4000000 in
set_option maxRecDepth 100000 in
theorem number19 (par : Nat → Nat) (sb m rc fl fc : Nat) (ra fa : Option Addr) (x1 x3 x4 x5 : Value) (xs : List Value) (w : World) (hm : m ≤ 65536) (t : Tree par m)
    (hS : Blk w sb 54 (.slice ra m rc :: x1 :: .slice fa fl fc :: x3 :: x4 :: x5 :: xs)) (hF : FailOk par w sb m fl fa) :
    Calls Try.prog 19 #[.pointer (some ⟨sb, 0, none⟩)] w fun e w' => e = .returned (.tuple #[]) ∧ ∃ ub tb S F, NSt w sb ub tb m rc fl fc ra fa x1 x3 xs w' ∧ w.heap.size ≤ ub ∧ w.heap.size ≤ tb ∧ ub ≠ tb ∧
      Arr w' ub 21 (m + 1) (iv .i32 F) ∧ Arr w' tb 21 (m + 1) (iv .i32 (fun j => S j + F j)) ∧ Num par m S F := by
  have hmk := fun w => run_make_row' (P := Try.prog) 33 21 (.int .i32 0) 4 Try.underlying33 info21 rfl .i64 .i64 (m + 1) (by omega) (by omega) w
  have ec : ((m + 1 : Nat) : Int) = (m : Int) + 1 := by omega
  rw [ec] at hmk
  clear ec
  have hsb := hS.lt
  have HT := hid t
  have HF := hid hF
  clear t hF
  have c0 : w.cell? ⟨sb, 0, none⟩ = some (.slice ra m rc) := by simpa using hS.cell 0
  have c4 : w.cell? ⟨sb, 4, none⟩ = some x4 := by simpa using hS.cell 4
  have c5 : w.cell? ⟨sb, 5, none⟩ = some x5 := by simpa using hS.cell 5
  have f4 := hS.frozen 4
  have f5 := hS.frozen 5
  have HS := hid hS
  clear hS
  go_enter Try.func19, Try.ntmps19
  go_upto_region 1 with fail
  go_cut [] (fun wc => ∃ ub tb, NSt w sb ub tb m rc fl fc ra fa x1 x3 xs wc ∧ w.heap.size ≤ ub ∧ w.heap.size ≤ tb ∧ ub ≠ tb ∧ ub < wc.heap.size ∧ tb < wc.heap.size ∧ Hid (Arr wc ub 21 (m + 1) (iv .i32 (fun _ => 0))) ∧ Hid (Arr wc tb 21 (m + 1) (iv .i32 (fun _ => 0))))
  case first =>
    go_region
    · go_wp2_with fail
      go_meet
      case rel =>
        refine ⟨w.heap.size, w.heap.size + 1, nst_start HS.out _ _ _ _, Nat.le_refl _, by omega, by omega, (by simp only [World.size_drew, World.size_alloc, World.size_setCell]; omega), (by simp only [World.size_drew, World.size_alloc, World.size_setCell]; omega), ?_, ?_⟩
        · have := arr_first ((w.setCell ⟨sb, 4, none⟩ (.slice (some ⟨w.heap.size, 0, none⟩) (m + 1) (m + 1))).setCell ⟨sb, 5, none⟩ (.slice (some ⟨w.heap.size + 1, 0, none⟩) (m + 1) (m + 1))) (.cells (madeCells #[.int .i32 0] (m + 1)) 21) (m + 1)
          exact hid (by simpa using this)
        · have := arr_second ((w.setCell ⟨sb, 4, none⟩ (.slice (some ⟨w.heap.size, 0, none⟩) (m + 1) (m + 1))).setCell ⟨sb, 5, none⟩ (.slice (some ⟨w.heap.size + 1, 0, none⟩) (m + 1) (m + 1))) (.cells (madeCells #[.int .i32 0] (m + 1)) 21) (m + 1)
          exact hid (by simpa using this)
    · go_wp2_with fail
      go_meet
      case rel =>
        refine ⟨w.heap.size + 1, w.heap.size, nst_start HS.out _ _ _ _, by omega, Nat.le_refl _, by omega, (by simp only [World.size_drew, World.size_alloc, World.size_setCell]; omega), (by simp only [World.size_drew, World.size_alloc, World.size_setCell]; omega), ?_, ?_⟩
        · have := arr_second ((w.setCell ⟨sb, 4, none⟩ (.slice (some ⟨w.heap.size + 1, 0, none⟩) (m + 1) (m + 1))).setCell ⟨sb, 5, none⟩ (.slice (some ⟨w.heap.size, 0, none⟩) (m + 1) (m + 1))) (.cells (madeCells #[.int .i32 0] (m + 1)) 21) (m + 1)
          exact hid (by simpa using this)
        · have := arr_first ((w.setCell ⟨sb, 4, none⟩ (.slice (some ⟨w.heap.size + 1, 0, none⟩) (m + 1) (m + 1))).setCell ⟨sb, 5, none⟩ (.slice (some ⟨w.heap.size, 0, none⟩) (m + 1) (m + 1))) (.cells (madeCells #[.int .i32 0] (m + 1)) 21) (m + 1)
          exact hid (by simpa using this)
  case rest =>
    obtain ⟨ub, tb, N0, hub, htb, hut, hus, hts, A0, B0⟩ := hcut
    have HN := hid N0
    clear N0 c0 c4 c5 f4 f5 HS
    go_wp2_with fail
    go_loopw [3] (fun s3 wr => ∃ (k : Nat) (T : Nat → Int), k ≤ m + 1 ∧ s3 = .int .i64 ((k : Int) - 1) ∧ Hid (NSt w sb ub tb m rc fl fc ra fa x1 x3 xs wr) ∧ ub < wr.heap.size ∧ tb < wr.heap.size ∧
      Hid (Arr wr ub 21 (m + 1) (iv .i32 (fun _ => 0))) ∧ Hid (Arr wr tb 21 (m + 1) (iv .i32 T)) ∧ Hid (Down par m k T)) (fun s3 _ => (intOf s3 + 1).toNat)
    case atStart => exact ⟨m + 1, _, Nat.le_refl _, by go_num, HN, hus, hts, A0, B0, Down.start par m _ (fun _ _ => rfl)⟩
    case round =>
      clear A0 B0 HN hus hts
      obtain ⟨k, T, hk, rfl, HN, hus, hts, A0, B0, D⟩ := hrel
      cases k with
      | succ k =>
        rw [show ((k + 1 : Nat) : Int) - 1 = (k : Int) from by omega]
        have c5 := HN.out.c5
        have gj := B0.out.cellI (j := k) (by omega)
        have fj := B0.out.frozen k
        have bj := D.out.nn k (by omega)
        by_cases h0 : k = 0
        · subst h0
          go_wp2
          go_roundw
          case rel => exact ⟨0, _, by omega, by go_num, HN.out.set (p := ⟨tb, 0, none⟩) htb hsb _, by simpa using hus, by simpa using hts, A0.out.setOther (by exact hut) _, B0.out.setI 0 _, D.out.last⟩
          case measure => simp [intOf]
        · obtain ⟨fb, rfl, hfsb, hfb, hfl, hcf⟩ := HF.out (by omega)
          have c2 := HN.out.c2
          have cf := hcf wr HN.out.but k (by omega) (by omega)
          have hlt := HT.out.lt k (by omega) (by omega)
          have gu := B0.out.cellI (j := par k) (by omega)
          have fu := B0.out.frozen (par k)
          have bu := D.out.nn (par k) (by omega)
          have HCF := hid hcf
          clear hcf
          go_wp2
          go_region
          go_wp2
          go_roundw
          case rel => exact ⟨k, _, by omega, by go_num, ((HN.out.set (p := ⟨tb, k, none⟩) htb hsb _).set (p := ⟨tb, par k, none⟩) htb hsb _).drew, by simpa using hus, by simpa using hts,
            ((A0.out.setOther (a := ⟨tb, k, none⟩) (by exact hut) _).setOther (a := ⟨tb, par k, none⟩) (by exact hut) _).drew, ((B0.out.setI k _).setI (par k) _).drew, D.out.step HT.out (by omega) (by omega)⟩
          case measure => simp [intOf]
      | zero =>
        have hz := D.out.sized
        have HZ := hid hz
        clear hz D
        rw [show ((0 : Nat) : Int) - 1 = -1 from rfl]
        obtain ⟨i21, hi, hz0, hz1, hz2⟩ := info_parts info21
        go_wp2_with (at_make; refine wpList_make_full _ rfl _ _ 33 rfl 0 21 i21 (.int .i32 0) 1 Try.underlying33 hi hz0 hz1 _ _ _ _ (m + 1) rfl rfl (by omega) (by omega) (by rw [hz2]; omega) (by unfold maxLen; omega) (Nat.zero_le _) ?_)
        intro w1 hown hgrow
        have HQ := hid (arr_of_made hown)
        have hqs := (arr_of_made hown).lt
        have HN1 := hid (HN.out.grown hgrow)
        have A1 := hid (A0.out.grown hgrow)
        have B1 := hid (B0.out.grown hgrow)
        generalize hqb : wr.heap.size = qb at *
        have hqN : w.heap.size ≤ qb := by rw [← hqb]; exact HN.out.but.size
        clear hown hgrow A0 B0 HN hqb hi hz0 hz1 hz2
        have q0 := HQ.out.cell (j := 0) (by omega)
        have qf := HQ.out.frozen 0
        go_wp2_with fail
        go_loopw [5] (fun s5 wr => ∃ (j : Nat) (F R : Nat → Int), 1 ≤ j ∧ j ≤ m + 1 ∧ s5 = .int .i64 j ∧ Hid (NSt w sb ub tb m rc fl fc ra fa x1 x3 xs wr) ∧
          Hid (Arr wr ub 21 (m + 1) (iv .i32 F)) ∧ Hid (Arr wr tb 21 (m + 1) (iv .i32 T)) ∧ Hid (Arr wr qb 21 (m + 1) (iv .i32 R)) ∧ Hid (Fwd par m T j F R)) (fun s5 _ => (m + 1 - intOf s5).toNat)
        case atStart =>
          refine ⟨1, fun _ => 0, upd (fun _ => 0) 0 1, Nat.le_refl _, by omega, rfl, HN1.out.set (p := ⟨qb, 0, none⟩) hqN hsb _, A1.out.setOther (a := ⟨qb, 0, none⟩) (by show ub ≠ qb; omega) _, B1.out.setOther (a := ⟨qb, 0, none⟩) (by show tb ≠ qb; omega) _, ?_, Fwd.start par m T _ _ rfl (upd_at _ _ _)⟩
          exact Arr.setI (k := .i32) (F := fun _ => 0) HQ.out 0 1
        case round =>
          clear q0 qf A1 B1 HN1 HQ
          obtain ⟨j, F, R, hj1, hj2, rfl, HN, A0, B0, Q0, FW⟩ := hrel
          by_cases hjm : j ≤ m
          · obtain ⟨fb, rfl, hfsb, hfb, hfl, hcf⟩ := HF.out (by omega)
            have c2 := HN.out.c2
            have c4 := HN.out.c4
            have c5 := HN.out.c5
            have cf := hcf _ HN.out.but j (by omega) (by omega)
            have hlt := HT.out.lt j (by omega) (by omega)
            have bR := FW.out.bdR HT.out HZ.out (by omega) (by omega)
            have bS := HZ.out.bd j (by omega)
            have gF := A0.out.cellI (j := j) (by omega)
            have fF := A0.out.frozen j
            have gT := B0.out.cellI (j := j) (by omega)
            have gu := Q0.out.cellI (j := par j) (by omega)
            have fu := Q0.out.frozen (par j)
            have gj := Q0.out.cellI (j := j) (by omega)
            have fj := Q0.out.frozen j
            clear hcf
            go_wp2
            go_region
            go_wp2
            go_region
            go_wp2
            go_roundw
            case rel =>
              refine ⟨j + 1, _, _, by omega, by omega, by go_num, ?_, ?_, ?_, ?_, FW.out.step HT.out (by omega) (by omega)⟩
              · exact (((HN.out.set (p := ⟨ub, j, none⟩) hub hsb _).set (p := ⟨qb, par j, none⟩) hqN hsb _).set (p := ⟨qb, j, none⟩) hqN hsb _).drew.drew
              · exact (((A0.out.setI j _).setOther (a := ⟨qb, par j, none⟩) (by show ub ≠ qb; omega) _).setOther (a := ⟨qb, j, none⟩) (by show ub ≠ qb; omega) _).drew.drew
              · exact (((B0.out.setOther (a := ⟨ub, j, none⟩) (by show tb ≠ ub; omega) _).setOther (a := ⟨qb, par j, none⟩) (by show tb ≠ qb; omega) _).setOther (a := ⟨qb, j, none⟩) (by show tb ≠ qb; omega) _).drew.drew
              · exact (((Q0.out.setOther (a := ⟨ub, j, none⟩) (by show qb ≠ ub; omega) _).setI (par j) _).setI j _).drew.drew
            case measure => simp [intOf]; omega
          · obtain rfl : j = m + 1 := by omega
            have HNum := hid (FW.out.done HT.out HZ.out)
            clear FW Q0 hj1 hj2 hjm
            have c5 := HN.out.c5
            go_wp2_with fail
            go_loopw [119] (fun s wr => ∃ (k : Nat) (G : Nat → Int), k ≤ m + 1 ∧ s = .int .i64 k ∧ Hid (NSt w sb ub tb m rc fl fc ra fa x1 x3 xs wr) ∧
              Hid (Arr wr ub 21 (m + 1) (iv .i32 F)) ∧ Hid (Arr wr tb 21 (m + 1) (iv .i32 G)) ∧ Hid (∀ i, i ≤ m → G i = if i < k then T i + F i else T i)) (fun s _ => (m + 1 - intOf s).toNat)
            case atStart => exact ⟨0, T, Nat.zero_le _, rfl, HN, A0, B0, fun i _ => by simp⟩
            case round =>
              clear c5 A0 B0 HN
              obtain ⟨k, G, hk, rfl, HN, A0, B0, HG⟩ := hrel
              by_cases hkm : k ≤ m
              · have c4 := HN.out.c4
                have c5 := HN.out.c5
                have gF := A0.out.cellI (j := k) (by omega)
                have gG := B0.out.cellI (j := k) (by omega)
                have fG := B0.out.frozen k
                have bb := HNum.out.bd k hkm
                have bS := HZ.out.bd k hkm
                have eG : G k = T k := by have := HG.out k hkm; rwa [if_neg (by omega)] at this
                rw [eG] at gG
                clear eG
                go_wp2
                go_region
                go_wp2
                go_roundw
                case rel =>
                  refine ⟨k + 1, upd G k (T k + F k), by omega, by go_num, ?_, ?_, ?_, ?_⟩
                  · exact (HN.out.set (p := ⟨tb, k, none⟩) htb hsb _).drew
                  · exact (A0.out.setOther (a := ⟨tb, k, none⟩) (by show ub ≠ tb; omega) _).drew
                  · exact (B0.out.setI k _).drew
                  · intro i hi
                    by_cases e : i = k
                    · subst e; rw [upd_at, if_pos (by omega)]
                    · rw [upd_ne _ _ _ e, HG.out i hi]
                      by_cases e2 : i < k
                      · rw [if_pos e2, if_pos (by omega)]
                      · rw [if_neg e2, if_neg (by omega)]
                case measure => simp [intOf]; omega
              · obtain rfl : k = m + 1 := by omega
                go_wp2
                go_end0
                refine ⟨rfl, ub, tb, T, F, HN.out, hub, htb, hut, A0.out, ?_, HNum.out⟩
                refine B0.out.congr (fun i hi => ?_)
                have := HG.out i (by omega)
                rw [if_pos (by omega)] at this
                show Value.int .i32 (G i) = _
                rw [this]; rfl
end Go.Proofs.Qxb6603698a
