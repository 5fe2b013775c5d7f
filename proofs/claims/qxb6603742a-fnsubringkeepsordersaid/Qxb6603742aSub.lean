import Derived.Test.Qxb6603742aRing
namespace Go.Proofs.Qxb6603742a
open Go.ChangeShapes Go.WideShapes Go.ChangeAt Go.RowKit

theorem append_two {P : Program} {t t2 e e2 : TypeId} (ty : TypeId) (h1 : P.underlying t = some (.slice e)) (h2 : P.underlying t2 = some (.slice e2)) {i : TypeInfo} (hi : P.info? e = some i) (a1 a2 : Option Addr) (n1 c1 n2 c2 : Nat) (w : World) :
    (Builtin.append_ #[t, t2] ty #[.slice a1 n1 c1, .slice a2 n2 c2]).run P w = (Builtin.append_ #[t, t] ty #[.slice a1 n1 c1, .slice a2 n2 c2]).run P w := by
  simp [Builtin.append_, run_underlying h1, run_underlying h2, sizeOf, typeInfo, hi, Builtin.lenOf]

/-- append within the capacity, as one step of a region that draws; the two argument types may bear two names. -/
theorem step_append_fits2 {P : Program} {ops : Array Oper} {o : Oper} {a : Act} {w : World} {K : Act → World → Prop} {Q : Exit → Act → World → Prop} {E : Prop}
    (hg : o.guard = none) (s x : Operand) (t t2 : TypeId) (hop : o.op = Op.call { callee := Callee.builtin Builtin.append, args := #[s, x], argTypes := #[t, t2] })
    (base : Nat) (e e2 : TypeId) (i : TypeInfo) (h1 : P.underlying t = some (.slice e)) (h1' : P.underlying t2 = some (.slice e2)) (h2 : P.info? e = some i) (h4 : i.size = 1)
    (g k cap : Nat) (xs : List Value) (hs : a.eval s = .slice (some ⟨g, 0, none⟩) k cap) (hown : w.ownsRow base e 1 (.slice (some ⟨g, 0, none⟩) k cap) k xs)
    (ad : Addr) (m c : Nat) (news : List Value) (hx : a.eval x = .slice (some ad) m c) (hn : news.length = m)
    (hc : ∀ j u, news[j]? = some u → w.cell? (ad.add j) = some u) (h1c : ∀ u ∈ news, u.oneCell' = true) (b1 : k + m ≤ cap)
    (hK : ∀ w', w'.ownsRow base e 1 (.slice (some ⟨g, 0, none⟩) (k + m) cap) (k + m) (xs ++ news) → w.grownBy w' (some g) → K (a.put o.dst (.slice (some ⟨g, 0, none⟩) (k + m) cap)) w') :
    if Region.wanted o (yielded ops a.tmps) = true then Oper.wp P o a w K Q else E := by
  have hw : Region.wanted o (yielded ops a.tmps) = true := by simp [Region.wanted, hg]
  rw [if_pos hw]
  obtain ⟨w', hrun, r1, r2⟩ := run_append_fits (P := P) w base t o.type e i 1 h1 h2 h4 g k cap xs hown ad m c news (by omega) hc h1c b1
  rw [← append_two o.type h1 h1' h2] at hrun
  unfold Oper.wp
  simp [execOp, hop, resolve, invoke, builtin, hs, hx, hrun, Result.andThen]
  exact hK w' r1 r2

/-- append that may grow, as one step of a region that draws. -/
theorem step_append_own2 {P : Program} {ops : Array Oper} {o : Oper} {a : Act} {w : World} {K : Act → World → Prop} {Q : Exit → Act → World → Prop} {E : Prop}
    (hg : o.guard = none) (s x : Operand) (t : TypeId) (hop : o.op = Op.call { callee := Callee.builtin Builtin.append, args := #[s, x], argTypes := #[t, t] })
    (base : Nat) (e : TypeId) (i : TypeInfo) (z : Value) (bytes : Nat) (h1 : P.underlying t = some (.slice e)) (h2 : P.info? e = some i) (hz : i.zero = some z) (h4 : i.size = 1) (hby : i.bytes = bytes) (hzs : z.cells.size = 1)
    (v : Value) (n : Nat) (xs : List Value) (hs : a.eval s = v) (hown : w.ownsRow base e 1 v n xs)
    (ad : Addr) (m c : Nat) (news : List Value) (hx : a.eval x = .slice (some ad) m c) (hn : news.length = m)
    (hc : ∀ j u, news[j]? = some u → w.cell? (ad.add j) = some u) (h1c : ∀ u ∈ news, u.oneCell' = true) (b1 : n + m ≤ maxLen) (b2 : (n + m) * bytes ≤ 140737488355328) (hbase : base ≤ w.heap.size)
    (hK : ∀ v' w', w'.ownsRow base e 1 v' (n + m) (xs ++ news) → w.grownBy w' v.ownBlock → (v' = .slice none 0 0 ↔ v = .slice none 0 0 ∧ m = 0) → K (a.put o.dst v') w') :
    if Region.wanted o (yielded ops a.tmps) = true then Oper.wp P o a w K Q else E := by
  have hw : Region.wanted o (yielded ops a.tmps) = true := by simp [Region.wanted, hg]
  rw [if_pos hw]
  obtain ⟨v', w', hrun, r1, r2, r3⟩ := run_append_own (P := P) w base t o.type e i z 1 bytes h1 h2 hz h4 hby hzs (by decide) v n xs hown ad m c news (by omega) hc h1c b1 b2 hbase
  unfold Oper.wp
  simp [execOp, hop, resolve, invoke, builtin, hs, hx, hrun, Result.andThen]
  exact hK v' w' r1 r2 r3

theorem grownBy_setCell (w : World) (a : Addr) (u : Value) : w.grownBy (w.setCell a u) (some a.block) :=
  ⟨rfl, rfl, rfl, by simp [World.setCell], fun k _ hk => heap_setCell_other w a k u (fun e => hk (by rw [e]))⟩
theorem ownsRow_setOther {w : World} {base e n : Nat} {v : Value} {xs : List Value} (h : w.ownsRow base e 1 v n xs) {a : Addr} (ha : v.ownBlock ≠ some a.block) (u : Value) : (w.setCell a u).ownsRow base e 1 v n xs :=
  h.kept (grownBy_setCell w a u) (.inr ha)
theorem Blk.grownBy {w w' : World} {b e : Nat} {xs : List Value} (h : Blk w b e xs) {row : Option Nat} (hg : w.grownBy w' row) (hne : some b ≠ row) : Blk w' b e xs := by
  unfold Blk; rw [hg.block b h.lt hne]; exact h
/-- An owned row shows its cells. -/
theorem ownsRow_cells {w : World} {base e n : Nat} {a : Option Addr} {cap : Nat} {xs : List Value} {G : Nat → Value} (h : w.ownsRow base e 1 (.slice a n cap) n xs) (hG : ∀ j, j < n → xs[j]? = some (G j)) : Cells w a n G := by
  intro hn
  rcases h.2 with ⟨h', h0⟩ | ⟨g, cap', cur, h', r⟩
  · omega
  · simp only [Value.slice.injEq] at h'
    obtain ⟨rfl, _, rfl⟩ := h'
    refine ⟨g, 0, rfl, fun j hj => ?_⟩
    rw [Nat.zero_add, World.ownsRow.cellAt h j (by omega), hG j hj]
theorem ownsRow_nil_iff {w : World} {base e n : Nat} {a : Option Addr} {cap : Nat} {xs : List Value} (h : w.ownsRow base e 1 (.slice a n cap) n xs) : a = none → n = 0 ∧ cap = 0 := by
  rintro rfl
  rcases h.2 with ⟨h', h0⟩ | ⟨g, cap', cur, h', r⟩
  · simp only [Value.slice.injEq] at h'; exact ⟨h0, h'.2.2⟩
  · simp at h'

def us (xs : List Int) : List Value := xs.map (Value.int .u64)
def ss (l : List ByteArray) : List Value := l.map Value.string
theorem us_get (xs : List Int) (j : Nat) (h : j < xs.length) : (us xs)[j]? = some (uv xs j) := by simp [us, uv, List.getD, h]
theorem ss_get (xs : List ByteArray) (j : Nat) (h : j < xs.length) : (ss xs)[j]? = some (sv xs j) := by simp [ss, sv, List.getD, h]
end Go.Proofs.Qxb6603742a
