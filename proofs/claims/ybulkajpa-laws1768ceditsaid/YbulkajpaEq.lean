import Derived.Test.YbulkajpaProg
import Derived.WalkKit
import Derived.Deep.Draws
import Derived.Deep.QuietTactic
import Derived.BigQuiet
/-! The contracts of equalFields and of slices.Equal at slices of strings. -/
namespace Go.Proofs.Ybulkajpa.Eq
open Go.RowKit

theorem hide {p : Prop} (h : p) : Hid p := h

/-- A slice of strings as a reader meets it: element j is F j. -/
def Strs (w : World) (ao : Option Addr) (len : Nat) (F : Nat → ByteArray) : Prop :=
  len = 0 ∨ ∃ b off, ao = some ⟨b, off, none⟩ ∧ ∀ j, j < len → w.cell? ⟨b, off + j, none⟩ = some (.string (F j))

/-- Whether two slices hold the same strings. -/
def eqS (n m : Nat) (A B : Nat → ByteArray) : Bool := decide (n = m) && (List.range n).all fun j => (A j).toList == (B j).toList

theorem eqS_len {n m : Nat} {A B : Nat → ByteArray} (h : n ≠ m) : eqS n m A B = false := by simp [eqS, h]
theorem eqS_at {n : Nat} {A B : Nat → ByteArray} {k : Nat} (hk : k < n) (h : ((A k).toList == (B k).toList) = false) : eqS n n A B = false := by
  unfold eqS
  rw [Bool.and_eq_false_iff]
  right
  rw [List.all_eq_false]
  exact ⟨k, List.mem_range.2 hk, by rw [h]; simp⟩
theorem eqS_all {n : Nat} {A B : Nat → ByteArray} (h : ∀ j, j < n → ((A j).toList == (B j).toList) = true) : eqS n n A B = true := by
  unfold eqS
  rw [Bool.and_eq_true]
  refine ⟨by simp, ?_⟩
  rw [List.all_eq_true]
  exact fun j hj => h j (List.mem_range.1 hj)

set_option maxHeartbeats 800000 in
theorem equal14 (w : World) (a b : Option Addr) (n m c d : Nat) (A B : Nat → ByteArray) (hA : Strs w a n A) (hB : Strs w b m B) (hn : n ≤ 4000) (hm : m ≤ 4000) :
    Calls Yba.prog 14 #[.slice a n c, .slice b m d] w fun e w' => e = .returned (.bool (eqS n m A B)) ∧ ∃ q, w' = w.drewN q := by
  by_cases hnm : n = m
  · subst hnm
    have t0 : ((n : Int) != (n : Int)) = false := by simp
    go_enter Yba.func14, Yba.ntmps14
    go_wp2
    go_loopw [13] (fun i wr => ∃ k : Nat, i = .int .i64 (k : Int) ∧ k ≤ n ∧ Hid (∀ j, j < k → ((A j).toList == (B j).toList) = true) ∧ ∃ q, wr = w.drewN q) (fun i _ => n - (intOf i).toNat)
    case atStart => exact ⟨0, rfl, Nat.zero_le _, fun j hj => by omega, 0, rfl⟩
    case round =>
      obtain ⟨k, rfl, hk, HR, q, rfl⟩ := hrel
      by_cases hlt : k < n
      · obtain ⟨b1, o1, h1, hc1⟩ : ∃ b1 o1, a = some ⟨b1, o1, none⟩ ∧ w.cell? ⟨b1, o1 + k, none⟩ = some (.string (A k)) := by
          rcases hA with h | ⟨b1, o1, h1, h2⟩
          · omega
          · exact ⟨b1, o1, h1, h2 k hlt⟩
        obtain ⟨b2, o2, h2, hc2⟩ : ∃ b2 o2, b = some ⟨b2, o2, none⟩ ∧ w.cell? ⟨b2, o2 + k, none⟩ = some (.string (B k)) := by
          rcases hB with h | ⟨b1, o1, h1, h2⟩
          · omega
          · exact ⟨b1, o1, h1, h2 k hlt⟩
        subst h1 h2
        clear hA hB
        cases heq : ((A k).toList == (B k).toList)
        · have HE := hide (eqS_at hlt heq)
          generalize A k = x at *
          generalize B k = y at *
          go_wp2
          go_quiet (fail)
          go_wp2
          go_ret
          exact ⟨by rw [HE.out]; rfl, q + nq, by simp⟩
        · have HE : Hid (∀ j, j < k + 1 → ((A j).toList == (B j).toList) = true) := by
            intro j hj
            rcases (show j < k ∨ j = k by omega) with h | h
            · exact HR.out j h
            · rw [h]; exact heq
          clear HR
          generalize A k = x at *
          generalize B k = y at *
          go_wp2
          go_quiet (fail)
          go_wp2
          go_roundw
          case rel => exact ⟨k + 1, by go_num, by omega, HE, _, rfl⟩
          case measure => simp [intOf]; omega
      · obtain rfl : k = n := by omega
        have HE := hide (eqS_all HR.out)
        go_wp2
        go_ret
        exact ⟨by rw [HE.out]; rfl, _, rfl⟩
  · have t0 : ((n : Int) != (m : Int)) = true := by simp; omega
    have HE := hide (eqS_len (A := A) (B := B) hnm)
    go_enter Yba.func14, Yba.ntmps14
    go_wp2
    go_ret
    exact ⟨by rw [HE.out]; rfl, 0, rfl⟩

set_option maxHeartbeats 800000 in
theorem equal15 (w : World) (a b : Option Addr) (n m c d : Nat) (A B : Nat → ByteArray) (hA : Strs w a n A) (hB : Strs w b m B) (hn : n ≤ 4000) (hm : m ≤ 4000) :
    Calls Yba.prog 15 #[.slice a n c, .slice b m d] w fun e w' => e = .returned (.bool (eqS n m A B)) ∧ ∃ q, w' = w.drewN q := by
  by_cases hnm : n = m
  · subst hnm
    have t0 : ((n : Int) != (n : Int)) = false := by simp
    go_enter Yba.func15, Yba.ntmps15
    go_wp2
    go_loopw [13] (fun i wr => ∃ k : Nat, i = .int .i64 (k : Int) ∧ k ≤ n ∧ Hid (∀ j, j < k → ((A j).toList == (B j).toList) = true) ∧ ∃ q, wr = w.drewN q) (fun i _ => n - (intOf i).toNat)
    case atStart => exact ⟨0, rfl, Nat.zero_le _, fun j hj => by omega, 0, rfl⟩
    case round =>
      obtain ⟨k, rfl, hk, HR, q, rfl⟩ := hrel
      by_cases hlt : k < n
      · obtain ⟨b1, o1, h1, hc1⟩ : ∃ b1 o1, a = some ⟨b1, o1, none⟩ ∧ w.cell? ⟨b1, o1 + k, none⟩ = some (.string (A k)) := by
          rcases hA with h | ⟨b1, o1, h1, h2⟩
          · omega
          · exact ⟨b1, o1, h1, h2 k hlt⟩
        obtain ⟨b2, o2, h2, hc2⟩ : ∃ b2 o2, b = some ⟨b2, o2, none⟩ ∧ w.cell? ⟨b2, o2 + k, none⟩ = some (.string (B k)) := by
          rcases hB with h | ⟨b1, o1, h1, h2⟩
          · omega
          · exact ⟨b1, o1, h1, h2 k hlt⟩
        subst h1 h2
        clear hA hB
        cases heq : ((A k).toList == (B k).toList)
        · have HE := hide (eqS_at hlt heq)
          generalize A k = x at *
          generalize B k = y at *
          go_wp2
          go_quiet (fail)
          go_wp2
          go_ret
          exact ⟨by rw [HE.out]; rfl, q + nq, by simp⟩
        · have HE : Hid (∀ j, j < k + 1 → ((A j).toList == (B j).toList) = true) := by
            intro j hj
            rcases (show j < k ∨ j = k by omega) with h | h
            · exact HR.out j h
            · rw [h]; exact heq
          clear HR
          generalize A k = x at *
          generalize B k = y at *
          go_wp2
          go_quiet (fail)
          go_wp2
          go_roundw
          case rel => exact ⟨k + 1, by go_num, by omega, HE, _, rfl⟩
          case measure => simp [intOf]; omega
      · obtain rfl : k = n := by omega
        have HE := hide (eqS_all HR.out)
        go_wp2
        go_ret
        exact ⟨by rw [HE.out]; rfl, _, rfl⟩
  · have t0 : ((n : Int) != (m : Int)) = true := by simp; omega
    have HE := hide (eqS_len (A := A) (B := B) hnm)
    go_enter Yba.func15, Yba.ntmps15
    go_wp2
    go_ret
    exact ⟨by rw [HE.out]; rfl, 0, rfl⟩
end Go.Proofs.Ybulkajpa.Eq
