import Derived.Test.YbulkajomSide
import Derived.LoopN
import Derived.Test.YbulkajomIndexLaw
/-! The contract of 'neighbours' where nobody is passed over: gone is nil, or the group has at most five processes. -/
namespace Go.Proofs.Ybulkajom.Neigh
open Go.RowKit Go.Proofs.Ybulkajom.Own Go.Proofs.Ybulkajom.Ring Go.Proofs.Ybulkajom.Side

theorem both_no (s n : Int) (l lg lg' : List Int) : (ring s n (-1) no n.toNat 0 0 (ring s n 1 no n.toNat 0 0 l lg).1 lg').1 = (both s n no l lg).1 := by
  have key : ∀ (sg : Int) (f k c : Nat) (l a b : List Int), (ring s n sg no f k c l a).1 = (ring s n sg no f k c l b).1 := by
    intro sg f
    induction f with
    | zero => intros; rfl
    | succ f ih => intro k c l a b; simp only [ring]; split; exact ih _ _ _ _ _; rfl
  exact key _ _ _ _ _ _ _

set_option maxHeartbeats 1000000 in
theorem neigh_no (base : Nat) (w : World) (v gone : Value) (l0 : List Int) (s n : Int) (hown : Owns base w v l0) (hbase : base ≤ w.heap.size) (hl : l0.length ≤ 2000)
    (hs1 : 1 ≤ s) (hs2 : s ≤ n) (hn : n ≤ 1024) (hg : gone = .nilFunc ∨ n ≤ 5) :
    Calls Yba.prog 8 #[v, .int .i64 s, .int .i64 n, gone] w fun e w' =>
      ∃ v', e = .returned v' ∧ Owns base w' v' (both s n no l0 []).1 ∧ (both s n no l0 []).1.length ≤ l0.length + 4 ∧ Below base w w' := by
  have HB := hide (both_no s n l0 [] [])
  have fin : ∀ gone : Value, (n ≤ 5 ∨ ¬ n ≤ 5 ∧ gone = .nilFunc) → Calls Yba.prog 8 #[v, .int .i64 s, .int .i64 n, gone] w fun e w' =>
      ∃ v', e = .returned v' ∧ Owns base w' v' (both s n no l0 []).1 ∧ (both s n no l0 []).1.length ≤ l0.length + 4 ∧ Below base w w' := by
    clear hg gone
    rintro gone (h5 | ⟨h5, rfl⟩)
    all_goals
      have hx0 := IndexLaw.index0
      have hx1 := IndexLaw.index1
      go_enter Yba.func8, Yba.ntmps8
      go_wp2
      refine wp_loop_rounds 3 ?_
      rw [rounds_succ]
      go_wp2_with fail
      refine (side_no base _ _ l0 s n 1 1 0 hown hbase (by omega) hs1 hs2 hn (by omega) (by omega) (by show (1 : Int) = 1 + n * 0; omega) []).mono ?_
      rintro e w1 ⟨v1, rfl, ho1, hl1, hb1⟩
      have hz1 := hb1.size
      generalize (ring s n 1 no n.toNat 0 0 l0 []).1 = l1 at *
      go_wp2_with fail
      rw [rounds_succ]
      go_wp2_with fail
      refine (side_no base _ _ l1 s n (-1) (n - 1) 1 ho1 (by omega) (by omega) hs1 hs2 hn (by omega) (by omega) (by show n - 1 = -1 + n * 1; omega) []).mono ?_
      rintro e w2 ⟨v2, rfl, ho2, hl2, hb2⟩
      rw [HB.out] at ho2 hl2
      go_wp2_with fail
      rw [rounds_succ]
      go_wp2
      go_ret
      exact ⟨_, rfl, ho2, by omega, hb1.trans hb2⟩
  refine fin gone ?_
  rcases hg with h | h
  · by_cases h5 : n ≤ 5
    · exact .inl h5
    · exact .inr ⟨h5, h⟩
  · exact .inl h
end Go.Proofs.Ybulkajom.Neigh
