import Derived.Test.YbulkajomProg
import Derived.WalkKit
import Derived.Test.YbulkajomGcd
/-! The contract of 'zzs1767cbrute': the downward search finds the greatest common divisor, and turns nothing. -/
namespace Go.Proofs.Ybulkajom.Brute
open Go.RowKit Go.Proofs.Ybulkajom.Gcd

theorem hit (m n d : Nat) (hm : 1 ≤ m) (h : Nat.gcd m n ≤ d) (h1 : m % d = 0) (h2 : n % d = 0) : d = Nat.gcd m n := by
  have := Nat.le_of_dvd (Nat.gcd_pos_of_pos_left n hm) (Nat.dvd_gcd (Nat.dvd_of_mod_eq_zero h1) (Nat.dvd_of_mod_eq_zero h2))
  omega
theorem miss (m n d : Nat) (h : Nat.gcd m n ≤ d) (hd : 1 < d) (hx : ¬ (m % d = 0 ∧ n % d = 0)) : Nat.gcd m n ≤ d - 1 := by
  by_cases e : Nat.gcd m n = d
  · exact absurd ⟨by rw [← e]; exact Nat.mod_eq_zero_of_dvd (Nat.gcd_dvd_left _ _), by rw [← e]; exact Nat.mod_eq_zero_of_dvd (Nat.gcd_dvd_right _ _)⟩ hx
  · omega
theorem bool_of (m d : Nat) : ((m : Int) % (d : Int) == 0) = decide (m % d = 0) := by
  rw [show ((m : Int) % (d : Int)) = ((m % d : Nat) : Int) from rfl]
  by_cases h : m % d = 0
  · simp [h]
  · rw [decide_eq_false h]; simp; omega

set_option maxHeartbeats 400000 in
theorem brute_any (m n : Nat) (w : World) (hm : 1 ≤ m) (hm' : m ≤ 4096) (hn : 1 ≤ n) (hn' : n ≤ 4096) :
    Calls Yba.prog 20 #[.int .i64 m, .int .i64 n] w fun e w' => e = .returned (.int .i64 (Nat.gcd m n : Nat)) ∧ w' = w := by
  have g1 : 1 ≤ Nat.gcd m n := Nat.gcd_pos_of_pos_left _ hm
  have g2 : Nat.gcd m n ≤ m := Nat.gcd_le_left _ hm
  have g3 : Nat.gcd m n ≤ n := Nat.gcd_le_right _ hn
  by_cases hlt : n < m
  all_goals
    go_enter Yba.func20, Yba.ntmps20
    go_wp2
    go_loop [6] (fun x => ∃ d : Nat, x = .int .i64 d ∧ 1 ≤ d ∧ d ≤ 4096 ∧ Hid (Nat.gcd m n ≤ d)) (fun x => (intOf x).toNat)
    case atStart => first | exact ⟨n, rfl, hn, hn', g3⟩ | exact ⟨m, rfl, hm, hm', g2⟩
    case round =>
      obtain ⟨d, rfl, hd, hd', H⟩ := hrel
      by_cases h1 : 1 < d
      · by_cases z1 : m % d = 0
        · have y1 : ((m : Int) % (d : Int) == 0) = true := by rw [bool_of]; simp [z1]
          by_cases z2 : n % d = 0
          · have y2 : ((n : Int) % (d : Int) == 0) = true := by rw [bool_of]; simp [z2]
            have e := hit m n d hm H.out z1 z2
            have HE : Hid (d = Nat.gcd m n) := e
            clear e z1 z2
            go_wp2
            go_ret
            exact ⟨ret_int (by rw [← HE.out]), rfl⟩
          · have y2 : ((n : Int) % (d : Int) == 0) = false := by rw [bool_of]; simp [z2]
            have e := hide (miss m n d H.out h1 (fun x => z2 x.2))
            clear z1 z2
            go_wp2
            go_round
            case rel => exact ⟨d - 1, by go_num, by omega, by omega, e⟩
            case measure => simp [intOf]; omega
        · have y1 : ((m : Int) % (d : Int) == 0) = false := by rw [bool_of]; simp [z1]
          have e := hide (miss m n d H.out h1 (fun x => z1 x.1))
          clear z1
          go_wp2
          go_round
          case rel => exact ⟨d - 1, by go_num, by omega, by omega, e⟩
          case measure => simp [intOf]; omega
      · go_wp2
        go_ret
        exact ⟨ret_int (by have := H.out; omega), rfl⟩
end Go.Proofs.Ybulkajom.Brute
