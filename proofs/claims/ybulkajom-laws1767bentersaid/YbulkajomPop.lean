import Derived.Test.YbulkajomProg
import Derived.WalkKit
/-! bits.OnesCount64, Coordinator, Majority: pure functions. -/
namespace Go.Proofs.Ybulkajom.Pop
open Go.RowKit

theorem coord_any (r n : Int) (w : World) (hr : -9223372036854775808 ≤ r) (hr' : r ≤ 9223372036854775807) (hn : 1 ≤ n) (hn' : n ≤ 300) :
    Calls Yba.prog 25 #[.int .i64 r, .int .i64 n] w fun e w' => e = .returned (.int .i64 (r.tmod n + 1)) ∧ w' = w := by
  have h1 : r.tmod n < n := Int.tmod_lt_of_pos _ (by omega)
  have h2 : -n < r.tmod n := by
    rcases Int.lt_or_le r 0 with h | h
    · have e1 : r.tmod n = - ((-r).tmod n) := by rw [Int.neg_tmod]; omega
      have := Int.tmod_lt_of_pos (-r) (show 0 < n by omega)
      omega
    · have := Int.tmod_nonneg n h
      omega
  rcases Int.lt_or_le r 0 with h | h
  · go_enter Yba.func25, Yba.ntmps25
    go_wp2
    go_ret
    exact ⟨rfl, rfl⟩
  · have e1 : r.tmod n = r % n := Int.tmod_eq_emod_of_nonneg h
    rw [e1] at h1 h2 ⊢
    clear e1
    go_enter Yba.func25, Yba.ntmps25
    go_wp2
    go_ret
    exact ⟨rfl, rfl⟩

theorem maj_any (c n : Int) (w : World) (hc : 0 ≤ c) (hc' : c ≤ 1000) :
    Calls Yba.prog 29 #[.int .i64 c, .int .i64 n] w fun e w' => e = .returned (.bool (decide (n < 2 * c))) ∧ w' = w := by
  go_enter Yba.func29, Yba.ntmps29
  go_wp2
  go_ret
  exact ⟨rfl, rfl⟩

/-- The steps of bits.OnesCount64, as the Go text has them. -/
def p1 (x : Int) : Int := IntKind.u64.wrap (bits .and .u64 (x / 2) 6148914691236517205 + bits .and .u64 x 6148914691236517205)
def p2 (x : Int) : Int := IntKind.u64.wrap (bits .and .u64 (x / 4) 3689348814741910323 + bits .and .u64 x 3689348814741910323)
def p3 (x : Int) : Int := bits .and .u64 (IntKind.u64.wrap (x / 16 + x)) 1085102592571150095
def p4 (x : Int) : Int := IntKind.u64.wrap (x + x / 256)
def p5 (x : Int) : Int := IntKind.u64.wrap (x + x / 65536)
def p6 (x : Int) : Int := IntKind.u64.wrap (x + x / 4294967296)
def p7 (x : Int) : Int := bits .and .i64 (wrap64 x) 127
def pop (x : Int) : Int := p7 (p6 (p5 (p4 (p3 (p2 (p1 x))))))

theorem pop_zero : pop 0 = 0 := by decide +kernel
theorem pop_one : ∀ k : Fin 64, pop ((2 : Int) ^ k.val) = 1 := by decide +kernel

set_option maxHeartbeats 400000 in
theorem ones_any (x : Int) (w : World) :
    Calls Yba.prog 31 #[.int .u64 x] w fun e w' => e = .returned (.int .i64 (pop x)) ∧ w' = w := by
  go_enter Yba.func31, Yba.ntmps31
  go_wp2
  go_ret
  refine ⟨?_, rfl⟩
  simp only [pop, p1, p2, p3, p4, p5, p6, p7]
  rfl
end Go.Proofs.Ybulkajom.Pop
