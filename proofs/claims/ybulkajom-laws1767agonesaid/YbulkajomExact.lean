import Derived.Test.YbulkajomNeigh
/-! The pieces of LawS1767AExact: the wrap, the copy of a slice that came in. -/
namespace Go.Proofs.Ybulkajom.Exact
open Go.RowKit Go.Proofs.Ybulkajom.Own Go.Proofs.Ybulkajom.Ring Go.Proofs.Ybulkajom.Side Go.Proofs.Ybulkajom.Neigh

theorem tmod_emod' (y n : Int) (hn : 1 ≤ n) : y.tmod n % n = y % n := by
  have := wrap_pos (y + 1) n 0 hn
  unfold pos at this
  rw [Int.add_emod_right, show y + 1 + 0 - 1 = y from by omega, show y + 1 - 1 + 0 = y from by omega] at this
  omega
theorem tmod_lo (y n : Int) (hn : 1 ≤ n) : -n < y.tmod n := by
  rcases Int.lt_or_le y 0 with h | h
  · have h1 : y.tmod n = - ((-y).tmod n) := by rw [Int.neg_tmod]; omega
    have := Int.tmod_lt_of_pos (-y) (show 0 < n by omega)
    omega
  · have := Int.tmod_nonneg n h
    omega

theorem wrap_any (x n : Int) (w : World) (hx : -100000 ≤ x) (hx' : x ≤ 100000) (hn : 1 ≤ n) (hn' : n ≤ 1024) :
    Calls Yba.prog 9 #[.int .i64 x, .int .i64 n] w fun e w' => e = .returned (.int .i64 ((x - 1) % n + 1)) ∧ w' = w := by
  have h1 := tmod_lo (x - 1) n hn
  have h2 : (x - 1).tmod n < n := Int.tmod_lt_of_pos _ (by omega)
  have h3 := Int.emod_nonneg ((x - 1).tmod n) (show n ≠ 0 by omega)
  have h4 := Int.emod_lt_of_pos ((x - 1).tmod n) (show 0 < n by omega)
  have HE := hide (tmod_emod' (x - 1) n hn)
  rcases Int.lt_or_le (x - 1) 0 with hx0 | hx0
  · go_enter Yba.func9, Yba.ntmps9
    go_wp2
    go_ret
    exact ⟨by rw [← HE.out]; rfl, rfl⟩
  · have e1 : (x - 1).tmod n = (x - 1) % n := Int.tmod_eq_emod_of_nonneg hx0
    rw [e1] at h1 h2 h3 h4
    rw [Int.emod_emod] at h3 h4
    clear e1
    go_enter Yba.func9, Yba.ntmps9
    go_wp2
    go_ret
    exact ⟨rfl, rfl⟩

theorem wrap_at (x n p : Int) (w : World) (h : (x - 1) % n + 1 = p) (hx : -100000 ≤ x) (hx' : x ≤ 100000) (hn : 1 ≤ n) (hn' : n ≤ 1024) :
    Calls Yba.prog 9 #[.int .i64 x, .int .i64 n] w fun e w' => e = .returned (.int .i64 p) ∧ w' = w := by
  rw [← h]
  exact wrap_any x n w hx hx' hn hn'

/-- What is known of a slice of ints that came in: its elements l. -/
def Src (w : World) (a : Option Addr) (len cap : Nat) (l : List Int) : Prop :=
  (a = none ∧ len = 0 ∧ cap = 0 ∧ l = []) ∨ ∃ x, a = some x ∧ l.length = len ∧ ∀ j u, (l.map (Value.int .i64))[j]? = some u → w.cell? (x.add j) = some u

theorem Src.below {w w' : World} {a : Option Addr} {len cap : Nat} {l : List Int} (h : Src w a len cap l) (hb : Below w.heap.size w w') : Src w' a len cap l := by
  rcases h with h | ⟨x, h1, h2, h3⟩
  · exact .inl h
  · refine .inr ⟨x, h1, h2, fun j u hu => ?_⟩
    have := h3 j u hu
    rw [← this]
    exact hb.cell (World.block_lt_of_cell? w _ this)

theorem wpList_clone {w : World} {ops : Array Oper} {rest : List Oper} {o : Oper} {a : Act} {Q : Exit → Act → World → Prop} (hgd : o.guard = none) (x : Operand)
    (ho : o.op = .call { callee := .builtin .append, args := #[.const (.slice none 0 0), x], argTypes := #[22, 22] })
    (base : Nat) (ao : Option Addr) (len cap : Nat) (l : List Int) (hx : a.eval x = .slice ao len cap) (hsrc : Src w ao len cap l) (hl : len ≤ 1024) (hbase : base ≤ w.heap.size)
    (h : ∀ v' w', Owns base w' v' l → Below base w w' → wpList Yba.prog ops Q rest (a.put o.dst v') w') : wpList Yba.prog ops Q (o :: rest) a w := by
  obtain ⟨i0, hi, hz0, hz1, hz2⟩ := info_parts info3
  rcases hsrc with ⟨rfl, rfl, rfl, rfl⟩ | ⟨ad, rfl, hlen, hcell⟩
  · exact wpList_append_own_none hgd (.const (.slice none 0 0)) x 22 ho base 3 i0 1 Yba.underlying22 hi (.slice none 0 0) 0 [] rfl (World.ownsRow_nil _ _ _ _) hx (h _ _ (Owns.nil _ _) (Below.refl _ _))
  · refine wpList_append_own w hgd (.const (.slice none 0 0)) x 22 ho base 3 i0 (.int .i64 0) 1 8 Yba.underlying22 hi hz0 hz1 hz2 rfl (by decide) (.slice none 0 0) 0 [] rfl (World.ownsRow_nil _ _ _ _) ad len cap (l.map (Value.int .i64)) hx (by simp [hlen]) hcell ?_ (by unfold maxLen; omega) (by omega) hbase ?_
    · intro u hu
      simp only [List.mem_map] at hu
      obtain ⟨z, _, rfl⟩ := hu
      rfl
    · intro v' w' hown hg _
      refine h v' w' ?_ ((Below.refl _ _).grown hg hbase (by intro k hk; cases hk))
      unfold Owns
      simpa [hlen] using hown
end Go.Proofs.Ybulkajom.Exact
