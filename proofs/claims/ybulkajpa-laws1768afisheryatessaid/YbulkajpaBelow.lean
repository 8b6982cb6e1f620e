import Derived.Test.YbulkajpaNext
import Derived.Deep.LoopGhost
/-! The contract of draw.below. -/
namespace Go.Proofs.Ybulkajpa.Bel
open Go.RowKit Go.Proofs.Ybulkajpa.Cha Go.Proofs.Ybulkajpa.Stream Go.Proofs.Ybulkajpa.Mem Go.Proofs.Ybulkajpa.Next

/-- The words that below rejects. -/
def rej (n : Nat) : Nat := (18446744073709551616 - n) % n
theorem rej_lt (n : Nat) (h : 0 < n) : rej n < n := Nat.mod_lt _ h
theorem rej_eq (n : Nat) (h0 : 0 < n) (h : n ≤ 2000) : (IntKind.u64.wrap (-(n : Int))).tmod (n : Int) = (rej n : Nat) := by
  have e : IntKind.u64.wrap (-(n : Int)) = ((18446744073709551616 - n : Nat) : Int) := by
    rw [IntKind.wrap_u64]
    omega
  rw [e, Int.tmod_eq_emod_of_nonneg (Int.natCast_nonneg _)]
  unfold rej
  rfl

/-- Block D is a draw over the ChaCha8 in block C. -/
structure DR (w : World) (D C : Nat) (σ : St) : Prop where
  d : w.cell? ⟨D, 0, none⟩ = some (.pointer (some ⟨C, 0, none⟩))
  c : CH w C σ

set_option maxHeartbeats 800000 in
theorem below_any (w : World) (D C : Nat) (σ : St) (n : Nat) (h : DR w D C σ) (ho : Ok σ) (hDC : D ≠ C) (h0 : 0 < n) (hn : n ≤ 2000) :
    Calls Yba.prog 12 #[.pointer (some ⟨D, 0, none⟩), .int .u64 (n : Int)] w fun e w' => e = .returned (.int .u64 ((below σ n).1 : Nat)) ∧ DR w' D C (below σ n).2 ∧ Kept w w' [C] := by
  have HB : Hid (below σ n = ((search 100 σ (rej n)).1 % n, (search 100 σ (rej n)).2)) := rfl
  have hr := rej_lt n h0
  have Hq := hide (rej_eq n h0 hn)
  have HS := hide (hits_soon σ ho (rej n) (by omega))
  go_enter Yba.func12, Yba.ntmps12
  go_wp2
  rw [Hq.out]
  clear Hq
  go_loopg [6] 100 (fun f x wr => ∃ τ : St, DR wr D C τ ∧ Ok τ ∧ Kept w wr [C] ∧ Hid (hits f τ (rej n)) ∧ Hid (search f τ (rej n) = search 100 σ (rej n)))
  case atStart => exact ⟨σ, h, ho, Kept.refl _ _, HS, rfl⟩
  case round =>
    obtain ⟨τ, hd, hot, hk, HT, HQ⟩ := hrel
    have c0 := hd.d
    have hlt := next_lt τ hot
    have hok := next_ok τ hot
    cases gk with
    | zero => exact (HT.out).elim
    | succ g =>
      go_wp2_with fail
      refine (uint64_any wr C τ hd.c hot).mono ?_
      rintro e w1 ⟨rfl, h1, k1⟩
      have hd1 : DR w1 D C (next τ).2 := ⟨k1.cell hd.d (by simpa using hDC), h1⟩
      by_cases hx : rej n ≤ (next τ).1
      · have HE : Hid (search 100 σ (rej n) = next τ) := by show _ = _; rw [← HQ.out]; simp only [search]; rw [if_pos hx]
        clear HT HQ
        have hx' : ((rej n : Nat) : Int) ≤ ((next τ).1 : Nat) := by omega
        go_wp2
        go_ret
        rw [HB.out, HE.out]
        exact ⟨rfl, hd1, hk.trans k1⟩
      · have HT' : Hid (hits g (next τ).2 (rej n)) := by
          have := HT.out
          simp only [hits] at this
          rcases this with e | e
          · exact absurd e hx
          · exact e
        have HQ' : Hid (search g (next τ).2 (rej n) = search 100 σ (rej n)) := by show _ = _; rw [← HQ.out]; simp only [search]; rw [if_neg hx]
        clear HT HQ
        have hx' : ¬ ((rej n : Nat) : Int) ≤ ((next τ).1 : Nat) := by omega
        go_wp2
        go_roundg g
        case rel => exact ⟨_, hd1, hok, hk.trans k1, HT', HQ'⟩
        case measure => omega
end Go.Proofs.Ybulkajpa.Bel
