import Derived.Test.YbulkajpaFisher
/-! The walk of LawS1768AFisherYates on an empty slice. -/
namespace Go.Proofs.Ybulkajpa.Fisher
open Go.RowKit Go.Proofs.Ybulkajpa.Cha Go.Proofs.Ybulkajpa.Stream Go.Proofs.Ybulkajpa.Mem Go.Proofs.Ybulkajpa.Next Go.Proofs.Ybulkajpa.Bel Go.Proofs.Ybulkajpa.Shuf Go.Proofs.Ybulkajpa.Copy Go.Proofs.Ybulkajpa.Init

theorem copy_none (w : World) (a : Option Addr) (cap : Nat) :
    Calls Yba.prog 8 #[.slice a 0 cap] w fun e w' => ∃ b, e = .returned (.slice b 0 0) ∧ Kept w w' [] := by
  cases a with
  | none =>
    refine (copy_nil w 0 cap).mono ?_
    rintro e w' ⟨rfl, rfl⟩
    exact ⟨none, rfl, Kept.refl _ _⟩
  | some x =>
    refine (copy_some w x cap [] (by simp) (by simp)).mono ?_
    rintro e w' ⟨g, rfl, -, -, -, hk⟩
    exact ⟨_, rfl, hk⟩

set_option maxRecDepth 100000 in
set_option maxHeartbeats 3200000 in
theorem none_any (w : World) (s : Int) (a : Option Addr) (cap : Nat) :
    Calls Yba.prog 4 #[.int .i64 s, .slice a 0 cap] w fun e w' => e = .returned (.bool true) ∧ Kept w w' [] := by
  have hok := seedSt_ok s
  go_enter Yba.func4, Yba.ntmps4
  go_wp2_with fail
  refine (copy_none w a cap).mono ?_
  rintro e w1 ⟨b1, rfl, k1⟩
  go_wp2_with fail
  refine (draw_any w1 s).mono ?_
  rintro e w2 ⟨D1, C1, rfl, d2, hDC1, hD1, hC1, hD1', hC1', k2⟩
  go_wp2_with fail
  refine (shuffle_zero w2 _ b1 0).mono ?_
  rintro e w3 ⟨rfl, rfl⟩
  go_wp2_with fail
  refine (copy_none w3 a cap).mono ?_
  rintro e w4 ⟨b2, rfl, k4⟩
  go_wp2_with fail
  refine (draw_any w4 s).mono ?_
  rintro e w5 ⟨D2, C2, rfl, d5, hDC2, hD2, hC2, hD2', hC2', k5⟩
  have s1 := k1.size
  have s2 := k2.size
  have s4 := k4.size
  have s5 := k5.size
  have k45 := k4.andThen k5 (by simp)
  have da := d2.kept k45 (by simp) (by simp)
  have HKv := hide ((k1.andThen k2 (by simp)).andThen k45 (by simp))
  have e7 : C2 ≠ D1 := by omega
  have e9 : C2 ≠ D2 := by omega
  have hn1 : w.heap.size ≤ C1 := by omega
  have hn2 : w.heap.size ≤ C2 := by omega
  have HT2 : Hid (Two w5.drew D1 C1 D2 C2 (seedSt s)) := ⟨⟨da.d, da.c.drew⟩, ⟨d5.d, d5.c.drew⟩, hok, hDC1.symm, by omega, by omega, e7, e9⟩
  have cS := da.d
  have cT := d5.d
  clear d2 da d5 k1 k2 k4 k5 k45 hDC1 hDC2 hD1 hC1 hD1' hC1' hD2 hC2 hD2' hC2' s1 s2 s4 s5
  generalize seedSt s = τ at *
  go_wp2
  refine wp_loop_rounds 1 ?_
  rw [rounds_succ]
  go_wp2
  refine wp_loop_rounds 1 ?_
  rw [rounds_succ]
  go_wp2
  go_region_held3 (fun w' => w'.cell? ⟨D1, 0, none⟩ = some (.pointer (some ⟨C1, 0, none⟩)) ∧ w'.cell? ⟨D2, 0, none⟩ = some (.pointer (some ⟨C2, 0, none⟩))) (first | assumption | exact ⟨cS, cT⟩)
    (first
      | (go_at_call 13; with_reducible refine (first64 HT2.out).mono ?_; rintro e v1 ⟨rfl, hs1, hc1, kk1⟩)
      | (go_at_call 13; with_reducible refine (second64 hok e7 e9 hs1 hc1).mono ?_; rintro e v2 ⟨rfl, hs2, kk2⟩))
  go_wp2
  go_ret
  exact ⟨by simp, (HKv.out.drew.andThen kk1 (by intro y hy; simp at hy; right; omega)).andThen kk2 (by intro y hy; simp at hy; right; omega)⟩
end Go.Proofs.Ybulkajpa.Fisher
