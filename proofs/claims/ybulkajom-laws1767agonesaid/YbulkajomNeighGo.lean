import Derived.Test.YbulkajomSideGo
import Derived.Test.YbulkajomNeigh
/-! The contract of 'neighbours' where the closure is asked: the group has more than five processes. -/
namespace Go.Proofs.Ybulkajom.NeighGo
open Go.RowKit Go.Proofs.Ybulkajom.Own Go.Proofs.Ybulkajom.Ring Go.Proofs.Ybulkajom.Side Go.Proofs.Ybulkajom.Ask Go.Proofs.Ybulkajom.SideGo

theorem both_eq (s n : Int) (g : Int → Bool) (l lg : List Int) : both s n g l lg = ring s n (-1) g n.toNat 0 0 (ring s n 1 g n.toNat 0 0 l lg).1 (ring s n 1 g n.toNat 0 0 l lg).2 := rfl

set_option maxHeartbeats 1000000 in
theorem neigh_go (w : World) (B L : Nat) (ao : Option Addr) (len cap : Nat) (F : Nat → Bool) (v lv : Value) (l0 lg0 : List Int) (s n : Int) (htwo : Two w L v lv l0 lg0) (hg : GoneIs w B ao len cap F) (hBL : B < L) (hlen : len ≤ 1024)
    (hl : l0.length ≤ 500) (hlg : lg0.length ≤ 500) (hs1 : 1 ≤ s) (hs2 : s ≤ n) (hn : n ≤ 1024) (h5 : 5 < n) :
    Calls Yba.prog 8 #[v, .int .i64 s, .int .i64 n, .func (.func 12) #[] #[.pointer (some ⟨L, 0, none⟩), .pointer (some ⟨B, 0, none⟩)]] w fun e w' =>
      ∃ v', e = .returned v' ∧ Leaves2 w w' L v' (both s n (goneF len F) l0 lg0) (l0.length + 2048) (lg0.length + 2048) := by
  have hx0 := IndexLaw.index0
  have hx1 := IndexLaw.index1
  have HB := hide (both_eq s n (goneF len F) l0 lg0)
  go_enter Yba.func8, Yba.ntmps8
  go_wp2
  refine wp_loop_rounds 3 ?_
  rw [rounds_succ]
  go_wp2_with fail
  refine (side_go _ B L ao len cap F _ lv l0 lg0 s n 1 1 0 htwo hg hBL hlen (by omega) (by omega) hs1 hs2 hn (by omega) (by omega) (by show (1 : Int) = 1 + n * 0; omega)).mono ?_
  rintro e w1 ⟨v1, rfl, ⟨lv1, ho1⟩, hl1, hlg1, hb1⟩
  generalize ring s n 1 (goneF len F) n.toNat 0 0 l0 lg0 = R1 at *
  have hg1 := hg.below (hb1.mono (by omega))
  go_wp2_with fail
  rw [rounds_succ]
  go_wp2_with fail
  refine (side_go _ B L ao len cap F _ lv1 R1.1 R1.2 s n (-1) (n - 1) 1 ho1 hg1 hBL hlen (by omega) (by omega) hs1 hs2 hn (by omega) (by omega) (by show n - 1 = -1 + n * 1; omega)).mono ?_
  rintro e w2 ⟨v2, rfl, ⟨lv2, ho2⟩, hl2, hlg2, hb2⟩
  generalize ring s n (-1) (goneF len F) n.toNat 0 0 R1.1 R1.2 = R2 at *
  go_wp2_with fail
  rw [rounds_succ]
  go_wp2
  go_ret
  refine ⟨_, rfl, ?_⟩
  rw [HB.out]
  exact ⟨⟨lv2, ho2⟩, by omega, by omega, hb1.trans hb2⟩
end Go.Proofs.Ybulkajom.NeighGo
