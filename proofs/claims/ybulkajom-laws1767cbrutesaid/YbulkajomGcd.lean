import Derived.Test.YbulkajomProg
import Derived.WalkKit
import Derived.Deep.Draws
/-! The contract of 'gcd': on numbers that are not negative it is the greatest common divisor; it turns nothing but the count of draws. -/
namespace Go.Proofs.Ybulkajom.Gcd
open Go.RowKit

theorem gcd_step (a b : Nat) : Nat.gcd b (a % b) = Nat.gcd a b := by
  rw [Nat.gcd_comm b, ← Nat.gcd_rec, Nat.gcd_comm]

theorem hide {p : Prop} (h : p) : Hid p := h
theorem ret_int {k : IntKind} {a b : Int} (h : a = b) : Ending.returned (.int k a) = .returned (.int k b) := by rw [h]

set_option maxHeartbeats 400000 in
theorem gcd_any (a b : Int) (w : World) (ha0 : 0 ≤ a) (ha : a ≤ 9223372036854775807) (hb0 : 0 ≤ b) (hb : b ≤ 9223372036854775807) :
    Calls Yba.prog 19 #[.int .i64 a, .int .i64 b] w fun e w' => e = .returned (.int .i64 (Nat.gcd a.toNat b.toNat : Nat)) ∧ ∃ n, w' = w.drewN n := by
  obtain ⟨m, rfl⟩ := Int.eq_ofNat_of_zero_le ha0
  obtain ⟨n, rfl⟩ := Int.eq_ofNat_of_zero_le hb0
  simp only [Int.toNat_natCast]
  go_enter Yba.func19, Yba.ntmps19
  go_wp2
  go_loopw [0, 1] (fun x y wr => ∃ a' b' : Nat, a' ≤ 9223372036854775807 ∧ b' ≤ 9223372036854775807 ∧ x = .int .i64 a' ∧ y = .int .i64 b' ∧ Hid (Nat.gcd a' b' = Nat.gcd m n) ∧ ∃ n, wr = w.drewN n)
    (fun _ y _ => (intOf y).toNat)
  case atStart => exact ⟨m, n, by omega, by omega, rfl, rfl, hide rfl, 0, rfl⟩
  case round =>
    obtain ⟨a', b', ha', hb', rfl, rfl, H, q, rfl⟩ := hrel
    by_cases h : b' = 0
    · have hz : ((b' : Int) != 0) = false := by simp [h]
      have HZ : Hid (b' = 0) := hide h
      clear h
      go_wp2
      go_ret
      refine ⟨ret_int ?_, q, rfl⟩
      have := H.out
      rw [HZ.out] at this
      simp at this
      omega
    · have hz : ((b' : Int) != 0) = true := by simp [h]
      have hl := Nat.mod_lt a' (show 0 < b' by omega)
      go_wp2
      go_region
      go_wp2
      go_roundw
      case rel => exact ⟨b', a' % b', hb', by omega, rfl, by go_num, hide (by rw [gcd_step]; exact H.out), q + 1, rfl⟩
      case measure => simp [intOf]; omega
end Go.Proofs.Ybulkajom.Gcd
