import Derived.Test.Qxb6603742aSub
namespace Go.Proofs.Qxb6603742a
open Go.ChangeShapes Go.WideShapes Go.ChangeAt Go.RowKit

/-- The subring in the making, k of the mask looked at. -/
structure SubSt (w : World) (b wd : Nat) (ids : List Int) (nms : List ByteArray) (kp : List Bool) (sb gb N k k' : Nat) (na : Option Addr) (nc : Nat) (wr : World) : Prop where
  blk : Blk wr sb 47 [.int .i64 b, .int .i64 wd, .slice (some ⟨gb, 0, none⟩) (sel (nd wd ids) kp k).length ids.length, .slice na (sel (nd 1 nms) kp k').length nc]
  row : wr.ownsRow 0 45 1 (.slice (some ⟨gb, 0, none⟩) (sel (nd wd ids) kp k).length ids.length) (sel (nd wd ids) kp k).length (us (sel (nd wd ids) kp k))
  nam : wr.ownsRow N 9 1 (.slice na (sel (nd 1 nms) kp k').length nc) (sel (nd 1 nms) kp k').length (ss (sel (nd 1 nms) kp k'))
  nil : na = none ↔ sel (nd 1 nms) kp k' = []
  bel : Below w.heap.size w wr
  siz : N ≤ wr.heap.size

theorem grownBy_undrewN {w w' : World} {q : Nat} {row : Option Nat} (h : (w.drewN q).grownBy w' row) : w.grownBy w' row := ⟨h.os, h.tape, h.output, h.size, h.block⟩
theorem grownBy_undrew {w w' : World} {row : Option Nat} (h : w.drew.grownBy w' row) : w.grownBy w' row := ⟨h.os, h.tape, h.output, h.size, h.block⟩
theorem nd_one {l : List ByteArray} {k : Nat} (h : k < l.length) : nd 1 l k = [l.getD k ByteArray.empty] := by
  unfold nd
  rw [Nat.mul_one, List.drop_eq_getElem_cons h, List.take_succ_cons, List.take_zero]
  simp [List.getD, h]
theorem us_append (xs ys : List Int) : us xs ++ us ys = us (xs ++ ys) := by simp [us]
theorem ss_append (xs ys : List ByteArray) : ss xs ++ ss ys = ss (xs ++ ys) := by simp [ss]

/-- Behind the append to ids and the store of the new header. -/
theorem SubSt.ids {w : World} {b wd : Nat} {ids : List Int} {nms : List ByteArray} {kp : List Bool} {sb gb N k n : Nat} {na : Option Addr} {nc : Nat} {wr w2 : World} (h : SubSt w b wd ids nms kp sb gb N k k na nc wr)
    (hn : n = (sel (nd wd ids) kp k).length) (hkb : kp.getD k false = true) (hnd : (nd wd ids k).length = wd) (hsb : w.heap.size ≤ sb) (hsg : sb < gb) (hgN : gb < N)
    (hown : w2.ownsRow 0 45 1 (.slice (some ⟨gb, 0, none⟩) (n + wd) ids.length) (n + wd) (us (sel (nd wd ids) kp k) ++ us (nd wd ids k))) (hg : wr.grownBy w2 (some gb)) :
    w2.cell? ⟨sb, 2, none⟩ = some (.slice (some ⟨gb, 0, none⟩) n ids.length) ∧ w2.frozen? ⟨sb, 2, none⟩ = false ∧
    SubSt w b wd ids nms kp sb gb N (k + 1) k na nc (w2.setCell ⟨sb, 2, none⟩ (.slice (some ⟨gb, 0, none⟩) (n + wd) ids.length)) := by
  have hb2 : Blk w2 sb 47 [.int .i64 b, .int .i64 wd, .slice (some ⟨gb, 0, none⟩) n ids.length, .slice na (sel (nd 1 nms) kp k).length nc] := by
    rw [hn]; exact h.blk.grownBy hg (by simp; omega)
  refine ⟨by simpa using hb2.cell 2, hb2.frozen 2, ?_⟩
  have e1 : sel (nd wd ids) kp (k + 1) = sel (nd wd ids) kp k ++ nd wd ids k := sel_yes hkb
  have e2 : (sel (nd wd ids) kp (k + 1)).length = n + wd := by rw [e1, List.length_append, hnd, hn]
  have hne : ∀ g, Value.ownBlock (.slice na (sel (nd 1 nms) kp k).length nc) = some g → N ≤ g := fun g hg => (h.nam.lt g hg).1
  refine ⟨?_, ?_, ?_, h.nil, ?_, ?_⟩
  · rw [e2]
    exact hb2.set 2 (.slice (some ⟨gb, 0, none⟩) (n + wd) ids.length)
  · rw [e2, e1, ← us_append]
    exact ownsRow_setOther hown (a := ⟨sb, 2, none⟩) (by simp [Value.ownBlock]; omega) _
  · refine ownsRow_setOther (h.nam.kept hg ?_) (a := ⟨sb, 2, none⟩) (fun e => ?_) _
    · right; intro e; have := hne gb e; omega
    · have := hne sb e; omega
  · exact (h.bel.grown hg h.bel.size (fun j hj => by simp at hj; omega)).setCell (p := ⟨sb, 2, none⟩) hsb _
  · simp only [World.size_setCell]; exact Nat.le_trans h.siz hg.size

/-- Behind the append to names and the store of the new header. -/
theorem SubSt.names {w : World} {b wd : Nat} {ids : List Int} {nms : List ByteArray} {kp : List Bool} {sb gb N k n : Nat} {na : Option Addr} {nc : Nat} {wr wx w2 : World} {v : Value} (h : SubSt w b wd ids nms kp sb gb N (k + 1) k na nc wr)
    (hn : n = (sel (nd 1 nms) kp k).length) (hkb : kp.getD k false = true) (hnd : (nd 1 nms k).length = 1) (hsb : w.heap.size ≤ sb) (hsg : sb < gb) (hgN : gb < N)
    (hx : wr.grownBy wx none) (hown : w2.ownsRow N 9 1 v (n + 1) (ss (sel (nd 1 nms) kp k) ++ ss (nd 1 nms k))) (hg : wx.grownBy w2 (Value.ownBlock (.slice na n nc))) :
    ∃ g c, v = .slice (some ⟨g, 0, none⟩) (n + 1) c ∧ w2.cell? ⟨sb, 3, none⟩ = some (.slice na n nc) ∧ w2.frozen? ⟨sb, 3, none⟩ = false ∧
    SubSt w b wd ids nms kp sb gb N (k + 1) (k + 1) (some ⟨g, 0, none⟩) c (w2.setCell ⟨sb, 3, none⟩ (.slice (some ⟨g, 0, none⟩) (n + 1) c)) := by
  have hne : ∀ g, Value.ownBlock (.slice na n nc) = some g → N ≤ g := fun g hg => (h.nam.lt g (by rw [hn] at hg; exact hg)).1
  have hgen : ∀ j, j < N → some j ≠ Value.ownBlock (.slice na n nc) := fun j hj e => by have := hne j e.symm; omega
  have hb2 : Blk w2 sb 47 [.int .i64 b, .int .i64 wd, .slice (some ⟨gb, 0, none⟩) (sel (nd wd ids) kp (k + 1)).length ids.length, .slice na n nc] := by
    rw [hn] at hg hgen ⊢; exact (h.blk.grown hx).grownBy hg (hgen sb (by omega))
  rcases hown.2 with ⟨_, h0⟩ | ⟨g, c, cur, hv, hgb, r⟩
  · omega
  subst hv
  refine ⟨g, c, rfl, by simpa using hb2.cell 3, hb2.frozen 3, ?_⟩
  have e1 : sel (nd 1 nms) kp (k + 1) = sel (nd 1 nms) kp k ++ nd 1 nms k := sel_yes hkb
  have e2 : (sel (nd 1 nms) kp (k + 1)).length = n + 1 := by rw [e1, List.length_append, hnd, hn]
  refine ⟨?_, ?_, ?_, ?_, ?_, ?_⟩
  · rw [e2]
    exact hb2.set 3 (.slice (some ⟨g, 0, none⟩) (n + 1) c)
  · refine ownsRow_setOther ((h.row.kept hx (.inr (by simp [Value.ownBlock]))).kept hg ?_) (a := ⟨sb, 3, none⟩) (by simp [Value.ownBlock]; omega) _
    right
    simp only [Value.ownBlock]
    exact hgen gb (by omega)
  · rw [e2, e1, ← ss_append]
    exact ownsRow_setOther hown (a := ⟨sb, 3, none⟩) (by simp [Value.ownBlock]; omega) _
  · constructor
    · intro e; simp at e
    · intro e; rw [e] at e2; simp at e2
  · have b1 := h.bel.grown hx h.bel.size (fun j hj => by cases hj)
    exact (b1.grown hg b1.size (fun j hj => by have := hne j hj; omega)).setCell (p := ⟨sb, 3, none⟩) hsb _
  · simp only [World.size_setCell]; exact Nat.le_trans (Nat.le_trans h.siz hx.size) hg.size

theorem SubSt.skip {w : World} {b wd : Nat} {ids : List Int} {nms : List ByteArray} {kp : List Bool} {sb gb N k : Nat} {na : Option Addr} {nc : Nat} {wr : World} (h : SubSt w b wd ids nms kp sb gb N (k + 1) k na nc wr) (hn : nms = []) :
    SubSt w b wd ids nms kp sb gb N (k + 1) (k + 1) na nc wr := by
  have e : sel (nd 1 nms) kp (k + 1) = sel (nd 1 nms) kp k := by
    subst hn; simp [sel, nd]
  obtain ⟨p1, p2, p3, p4, p5, p6⟩ := h
  exact ⟨by rw [e]; exact p1, p2, by rw [e]; exact p3, by rw [e]; exact p4, p5, p6⟩

set_option maxHeartbeats 4000000 in
set_option maxRecDepth 100000 in
theorem subring23 (rb b wd : Nat) (ia na : Option Addr) (ic nc : Nat) (ids : List Int) (nms : List ByteArray) (ka : Option Addr) (kc : Nat) (kp : List Bool) (w : World)
    (hb : 1 ≤ b) (hb2 : b ≤ 1073741824) (hwd : wd = (b + 63) / 64)
    (hr : Blk w rb 47 [.int .i64 b, .int .i64 wd, .slice ia ids.length ic, .slice na nms.length nc])
    (hids : Cells w ia ids.length (uv ids)) (hic : ids.length ≤ ic) (hicm : ic ≤ maxLen) (hil : ids.length ≤ 131072)
    (hkp : Cells w ka kp.length (bl kp)) (hk : kp.length * wd ≤ ids.length)
    (hnm : Cells w na nms.length (sv nms)) (hnl : na ≠ none → kp.length ≤ nms.length) (hnn : na = none → nms = []) :
    Calls Try.prog 23 #[.pointer (some ⟨rb, 0, none⟩), .slice ka kp.length kc] w fun e w' => ∃ sb gb N na' nc', e = .returned (.pointer (some ⟨sb, 0, none⟩)) ∧ SubSt w b wd ids nms kp sb gb N kp.length kp.length na' nc' w' ∧ w.heap.size ≤ sb := by
  have hw1 : 1 ≤ wd := by omega
  have hkl : kp.length ≤ 131072 := by
    have : kp.length * 1 ≤ kp.length * wd := Nat.mul_le_mul_left _ hw1
    omega
  have HR := hid hr
  have HI := hid hids
  have HK := hid hkp
  have HNM := hid hnm
  have HNL := hid hnl
  have HNN := hid hnn
  have HKL := hid hk
  have HWD := hid hwd
  have hrl := hr.lt
  have c0 : w.cell? ⟨rb, 0, none⟩ = some (.int .i64 b) := by simpa using hr.cell 0
  clear hr hids hkp hnm hnl hnn hk hwd
  obtain ⟨i45, hi, hz0, hz1, hz2⟩ := info_parts info45
  go_enter Try.func23, Try.ntmps23
  go_wp2_with fail
  refine (newRing30 b wd w hb hb2 HWD.out).mono ?_
  rintro e w1 ⟨sb, eb, rfl, hB1, hsb, hbel1⟩
  have r2 : w1.cell? ⟨rb, 2, none⟩ = some (.slice ia ids.length ic) := by simpa using (HR.out.below hbel1 hrl).cell 2
  have hs1 := hB1.lt
  have HB1 := hid hB1
  have BE1 := hid hbel1
  clear hB1 hbel1
  go_wp2_with (at_make; refine wpList_make_own _ rfl _ _ 22 rfl 0 45 i45 (.int .u64 0) 1 Try.underlying22 hi hz0 hz1 _ _ _ ids.length rfl rfl (by omega) (by rw [hz2]; omega) (by unfold maxLen; omega) (Nat.zero_le _) ?_)
  intro w2 hown hgrow
  have HB2 := hid (HB1.out.grown hgrow)
  have BE2 : Hid (Below w.heap.size w w2) := BE1.out.grown hgrow BE1.out.size (fun k hk => by cases hk)
  have hs2 := hgrow.size
  have hs3 : w1.heap.size < w2.heap.size := by
    have := hown.lt w1.heap.size rfl
    exact this.2
  have HO := hid hown
  obtain ⟨gb, hgb⟩ : ∃ gb, gb = w1.heap.size := ⟨_, rfl⟩
  rw [← hgb] at HO hs1 hs3 ⊢
  clear hown hgrow HB1 BE1 r2 hs2 hgb
  have d2 : w2.cell? ⟨sb, 2, none⟩ = some (.slice (some ⟨eb, 0, none⟩) 0 0) := by simpa using HB2.out.cell 2
  have f2 := HB2.out.frozen 2
  go_wp2_with fail
  go_loopw [24] (fun s24 wr => ∃ (k : Nat) (na' : Option Addr) (nc' : Nat), k ≤ kp.length ∧ s24 = .int .i64 k ∧ Hid (SubSt w b wd ids nms kp sb gb w2.heap.size k k na' nc' wr)) (fun s24 _ => kp.length - (intOf s24).toNat)
  case atStart =>
    refine ⟨0, none, 0, Nat.zero_le _, rfl, ?_⟩
    refine ⟨HB2.out.set 2 _, ownsRow_setOther HO.out (a := ⟨sb, 2, none⟩) (by simp [Value.ownBlock]; omega) _, World.ownsRow_nil _ _ _ _, by simp [sel], BE2.out.setCell (p := ⟨sb, 2, none⟩) hsb _, by simp⟩
  case round =>
    clear d2 f2 HO HB2 BE2
    obtain ⟨k, na', nc', hkk, rfl, hst⟩ := hrel
    by_cases hlt : k < kp.length
    · obtain ⟨g3, o3, rfl, hc3⟩ := HK.out (by omega)
      have ck : wr.cell? ⟨g3, o3 + k, none⟩ = some (.bool (kp.getD k false)) := by
        rw [hst.out.bel.cell (p := ⟨g3, o3 + k, none⟩) (World.block_lt_of_cell? w _ (hc3 k hlt))]; exact hc3 k hlt
      clear hc3
      cases hkb : kp.getD k false with
      | false =>
        rw [hkb] at ck
        have HE1 := hid (sel_no (f := nd wd ids) hkb)
        have HE2 := hid (sel_no (f := nd 1 nms) hkb)
        clear hkb
        go_wp2
        go_roundw
        case rel =>
          refine ⟨k + 1, na', nc', by omega, by go_num, ?_⟩
          obtain ⟨p1, p2, p3, p4, p5, p6⟩ := hst.out
          exact ⟨by rw [HE1.out, HE2.out]; exact p1, by rw [HE1.out]; exact p2, by rw [HE2.out]; exact p3, by rw [HE2.out]; exact p4, p5, p6⟩
        case measure => simp [intOf]; omega
      | true =>
        rw [hkb] at ck
        have hlow : k * wd + wd ≤ ids.length := by
          have h1 : (k + 1) * wd ≤ kp.length * wd := Nat.mul_le_mul_right wd hlt
          have h2 := HKL.out
          rw [Nat.succ_mul] at h1
          omega
        obtain ⟨g4, o4, rfl, hc4⟩ := HI.out (by omega)
        have hR : Hid (Blk wr rb 47 [.int .i64 b, .int .i64 wd, .slice (some ⟨g4, o4, none⟩) ids.length ic, .slice na nms.length nc]) := HR.out.below hst.out.bel hrl
        have HC4 : Hid (∀ j, j < ids.length → wr.cell? ⟨g4, o4 + j, none⟩ = some (uv ids j)) := fun j hj => by
          rw [hst.out.bel.cell (p := ⟨g4, o4 + j, none⟩) (World.block_lt_of_cell? w _ (hc4 j hj))]; exact hc4 j hj
        have hndk : (nd wd ids k).length = wd := nd_length (by rw [Nat.succ_mul]; exact hlow)
        obtain ⟨n, hn⟩ : ∃ n, n = (sel (nd wd ids) kp k).length := ⟨_, rfl⟩
        have hfit : n + wd ≤ ids.length := by
          have e1 := sel_length (f := nd wd ids) (kp := kp) (L := wd) (n := kp.length) (fun i hi => nd_length (Nat.le_trans (Nat.mul_le_mul_right wd hi) HKL.out)) k (by omega)
          have e2 := Nat.mul_le_mul_right wd (rank_le kp k)
          omega
        have d2 : wr.cell? ⟨sb, 2, none⟩ = some (.slice (some ⟨gb, 0, none⟩) n ids.length) := by rw [hn]; simpa using hst.out.blk.cell 2
        have HROW : Hid (wr.ownsRow 0 45 1 (.slice (some ⟨gb, 0, none⟩) n ids.length) n (us (sel (nd wd ids) kp k))) := by rw [hn]; exact hst.out.row
        have HN := hid hn
        have HKB := hid hkb
        have HND := hid hndk
        obtain ⟨lo, hlo⟩ : ∃ lo, lo = k * wd := ⟨_, rfl⟩
        have HLO := hid hlo
        rw [← hlo] at hlow
        have HNEWS : Hid (∀ j u, (us (nd wd ids k))[j]? = some u → wr.cell? (Addr.add ⟨g4, o4 + lo, none⟩ j) = some u) := fun j u hj => by
          have hjl : j < (nd wd ids k).length := by have := (List.getElem?_eq_some_iff.1 hj).1; simpa [us] using this
          rw [us_get _ _ hjl] at hj
          obtain rfl := Option.some.inj hj
          rw [add_plain, Nat.add_assoc, HC4.out (lo + j) (by omega)]
          unfold uv
          rw [nd_getD (by omega), hlo]
        clear hc4 hn hkb hndk hlo
        go_upto_region 7 with fail
        go_cut [] (fun wc => Hid (SubSt w b wd ids nms kp sb gb w2.heap.size (k + 1) k na' nc' wc))
        case first =>
          go_region_law (first
            | (go_simp; go_at_call 31; refine (node31 rb g4 o4 ic ids.length wd k lo _ _ _ HLO.out hw1 hlow hic hicm (by exact hR.out)).mono ?_; rintro e w' ⟨rfl, q, rfl⟩)
            | (refine step_append_fits2 rfl (.tmp 34) (.tmp 37) 22 49 rfl 0 45 45 i45 Try.underlying22 Try.underlying49 hi hz1 gb n ids.length (us (sel (nd wd ids) kp k)) rfl (by exact HROW.out) ⟨g4, o4 + lo, none⟩ wd wd (us (nd wd ids k)) rfl (by simpa [us] using HND.out) (by exact HNEWS.out) (by intro u hu; unfold us at hu; obtain ⟨_, _, rfl⟩ := List.mem_map.1 hu; rfl) hfit ?_; intro w3 hown3 hgrow3; obtain ⟨d3, f3, S3⟩ := hst.out.ids HN.out HKB.out HND.out hsb hs1 hs3 hown3 (grownBy_undrewN hgrow3); have HS3 := hid S3; clear S3 hown3 hgrow3))
          all_goals
            go_wp2_with fail
            go_meet
            case rel => exact HS3
        case rest =>
          clear HROW d2 HNEWS HC4 hR hst HN HND hfit
          have hst := hcut
          clear hcut
          have r3 : wc.cell? ⟨rb, 3, none⟩ = some (.slice na nms.length nc) := by simpa using (HR.out.below hst.out.bel hrl).cell 3
          have hneq := fun w => run_neq_slice_nil_any (P := Try.prog) w 23 9 na nms.length nc 0 0 Try.underlying23
          cases na with
          | none =>
            have HS2 := hid (hst.out.skip (HNN.out rfl))
            clear hst
            go_wp2
            go_roundw
            case rel => exact ⟨k + 1, na', nc', by omega, by go_num, HS2⟩
            case measure => simp [intOf]; omega
          | some x =>
            have hnl := HNL.out (by simp)
            obtain ⟨g5, o5, hx5, hc5⟩ := HNM.out (by omega)
            obtain rfl := Option.some.inj hx5
            have c5 : wc.cell? ⟨g5, o5 + k, none⟩ = some (sv nms k) := by
              rw [hst.out.bel.cell (p := ⟨g5, o5 + k, none⟩) (World.block_lt_of_cell? w _ (hc5 k (by omega)))]; exact hc5 k (by omega)
            unfold sv at c5
            have hnd1 : nd 1 nms k = [nms.getD k ByteArray.empty] := nd_one (by omega)
            obtain ⟨n, hn⟩ : ∃ n, n = (sel (nd 1 nms) kp k).length := ⟨_, rfl⟩
            have hnk : n ≤ k := by
              have e1 := sel_length (f := nd 1 nms) (kp := kp) (L := 1) (n := kp.length) (fun i hi => nd_length (by omega)) k (by omega)
              have e2 := rank_le kp k
              omega
            have d3 : wc.cell? ⟨sb, 3, none⟩ = some (.slice na' n nc') := by rw [hn]; simpa using hst.out.blk.cell 3
            have HNAM : Hid (wc.ownsRow w2.heap.size 9 1 (.slice na' n nc') n (ss (sel (nd 1 nms) kp k))) := by rw [hn]; exact hst.out.nam
            have HN := hid hn
            have HND := hid hnd1
            have HSZ := hid hst.out.siz
            have hsl := hst.out.blk.lt
            have hrl2 : rb < wc.heap.size := Nat.lt_of_lt_of_le hrl hst.out.bel.size
            have hg5 : g5 < wc.heap.size := World.block_lt_of_cell? wc _ c5
            have HND1 : Hid (∀ q, nms.getD k ByteArray.empty = q → (ss (nd 1 nms k)) = [.string q]) := fun q hq => by rw [hnd1, hq]; rfl
            have HLEN : Hid ((nd 1 nms k).length = 1) := by show _ = _; rw [hnd1]; rfl
            have hkn : k < nms.length := by omega
            clear hn hnd1 hc5 hx5 hnl
            generalize hq : nms.getD k ByteArray.empty = q at c5
            have HQ := hid (HND1.out q hq)
            clear hq HND1 HND
            obtain ⟨i9, hj, hy0, hy1, hy2⟩ := info_parts info9
            go_wp2_with fail
            go_region_law (first
                | (refine step_append_own2 rfl (.tmp 50) (.tmp 58) 23 rfl w2.heap.size 9 i9 (.string ⟨#[]⟩) 16 Try.underlying23 hj hy0 hy1 hy2 rfl (.slice na' n nc') n (ss (sel (nd 1 nms) kp k)) rfl (by exact HNAM.out.alloc _) ⟨wc.heap.size, 0, none⟩ 1 1 (ss (nd 1 nms k)) rfl (by rw [HQ.out]; rfl) (by rw [HQ.out]; exact cell_one_new _ _ _) (by rw [HQ.out]; intro u hu; simp at hu; subst hu; rfl) (by unfold maxLen; omega) (by omega) (by have := HSZ.out; simp; omega) ?_; intro v' w3 hown3 hgrow3 _; obtain ⟨g9, c9, rfl, d9, f9, S9⟩ := hst.out.names HN.out HKB.out HLEN.out hsb hs1 hs3 (World.grownBy_alloc wc _ none) hown3 (grownBy_undrew hgrow3); have HS9 := hid S9; clear S9 hown3 hgrow3))
            all_goals
              go_wp2
              go_roundw
              case rel => exact ⟨k + 1, _, _, by omega, by go_num, HS9⟩
              case measure => simp [intOf]; omega
    · obtain rfl : k = kp.length := by omega
      go_wp2
      go_ret
      exact ⟨sb, gb, w2.heap.size, na', nc', rfl, hst.out, hsb⟩
end Go.Proofs.Qxb6603742a
