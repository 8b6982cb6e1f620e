import Derived.Test.YbulkajpaInit
/-! Contracts of State.Init64. -/
namespace Go.Proofs.Ybulkajpa.Init
open Go.RowKit Go.Proofs.Ybulkajpa.Cha Go.Proofs.Ybulkajpa.Stream Go.Proofs.Ybulkajpa.Mem Go.Proofs.Ybulkajpa.Next

/-- The first state of a seed of four words. -/
def begin0 (a b c d : Nat) : St := { buf := blockOut #[a, b, c, d] 0, seed := #[a, b, c, d], i := 0, n := 32, c := 0 }
theorem begin_ok (a b c d : Nat) (ha : a < 18446744073709551616) (hb : b < 18446744073709551616) (hc : c < 18446744073709551616) (hd : d < 18446744073709551616) : Ok (begin0 a b c d) := by
  refine ⟨⟨rfl, fun i hi => ?_⟩, rfl, .inl rfl, rfl, by show 0 ≤ 32; omega⟩
  rcases (show i = 0 ∨ i = 1 ∨ i = 2 ∨ i = 3 by omega) with rfl | rfl | rfl | rfl
  · exact ha
  · exact hb
  · exact hc
  · exact hd

set_option maxHeartbeats 1600000 in
theorem init64_any (w : World) (C : Nat) (σ : St) (a b c d : Nat) (h : CH w C σ) :
    Calls Yba.prog 26 #[.pointer (some ⟨C, 0, none⟩), .agg #[.int .u64 (a : Int), .int .u64 (b : Int), .int .u64 (c : Int), .int .u64 (d : Int)]] w fun e w' => e = .returned (.tuple #[]) ∧ CH w' C (begin0 a b c d) ∧ Kept w w' [C] := by
  have s32 := h.seed 0 (by omega)
  have s33 := h.seed 1 (by omega)
  have s34 := h.seed 2 (by omega)
  have s35 := h.seed 3 (by omega)
  simp only [Nat.add_zero, Nat.reduceAdd] at s32 s33 s34 s35
  have f32 := h.free 32
  have f33 := h.free 33
  have f34 := h.free 34
  have f35 := h.free 35
  have hC := h.lt
  have ka : Kept (((((w.setCell ⟨C, 32, none⟩ (.int .u64 (a : Int))).setCell ⟨C, 33, none⟩ (.int .u64 (b : Int))).setCell ⟨C, 34, none⟩ (.int .u64 (c : Int))).setCell ⟨C, 35, none⟩ (.int .u64 (d : Int)))) (((((w.setCell ⟨C, 32, none⟩ (.int .u64 (a : Int))).setCell ⟨C, 33, none⟩ (.int .u64 (b : Int))).setCell ⟨C, 34, none⟩ (.int .u64 (c : Int))).setCell ⟨C, 35, none⟩ (.int .u64 (d : Int))).alloc (.cells #[.int .u64 (a : Int), .int .u64 (b : Int), .int .u64 (c : Int), .int .u64 (d : Int)] 47)) [] := (Kept.refl _ _).alloc _
  have H1 := hide ((h.setSeed a b c d).kept ka (by simp))
  have K1 := hide (((((((Kept.refl w [C]).setCell (p := ⟨C, 32, none⟩) (.inl (by simp)) (.int .u64 (a : Int))).setCell (p := ⟨C, 33, none⟩) (.inl (by simp)) (.int .u64 (b : Int))).setCell (p := ⟨C, 34, none⟩) (.inl (by simp)) (.int .u64 (c : Int))).setCell (p := ⟨C, 35, none⟩) (.inl (by simp)) (.int .u64 (d : Int))).alloc (.cells #[.int .u64 (a : Int), .int .u64 (b : Int), .int .u64 (c : Int), .int .u64 (d : Int)] 47)))
  clear ka h
  go_enter Yba.func26, Yba.ntmps26
  go_wp2
  generalize (((((w.setCell ⟨C, 32, none⟩ (.int .u64 (a : Int))).setCell ⟨C, 33, none⟩ (.int .u64 (b : Int))).setCell ⟨C, 34, none⟩ (.int .u64 (c : Int))).setCell ⟨C, 35, none⟩ (.int .u64 (d : Int))).alloc (.cells #[.int .u64 (a : Int), .int .u64 (b : Int), .int .u64 (c : Int), .int .u64 (d : Int)] 47)) = W at *
  clear s32 s33 s34 s35 f32 f33 f34 f35
  have h1 := H1.out
  have hb : (callFunc 25 #[.pointer (some ⟨C, 32, none⟩), .pointer (some ⟨C, 0, none⟩), .int .u32 0]).run Yba.prog W.drew = .ok (.value (.tuple #[])) (W.drew.setCells C 0 (vals (blockOut #[a, b, c, d] 0))) := block_run _ C { σ with seed := #[a, b, c, d] } 0 rfl h1.drew
  have h2 := (h1.drew).setBuf (blockOut #[a, b, c, d] 0) (block_len _ _)
  have k2 : Kept w (W.drew.setCells C 0 (vals (blockOut #[a, b, c, d] 0))) [C] := Kept.setCells C (by simp) _ _ _ (K1.out.drew)
  go_region
  generalize W.drew.setCells C 0 (vals (blockOut #[a, b, c, d] 0)) = W2 at *
  clear h1 hb H1 K1
  have d36 := h2.i
  have d37 := h2.n
  have d38 := h2.c
  have f36 := h2.free 36
  have f37 := h2.free 37
  have f38 := h2.free 38
  have h3 := ((h2.setC 0).setI 0).setN 32
  have k3 := ((k2.setCell (p := ⟨C, 38, none⟩) (.inl (by simp)) (.int .u32 ((0 : Nat) : Int))).setCell (p := ⟨C, 36, none⟩) (.inl (by simp)) (.int .u32 ((0 : Nat) : Int))).setCell (p := ⟨C, 37, none⟩) (.inl (by simp)) (.int .u32 ((32 : Nat) : Int))
  have H3 := hide h3
  have K3 := hide k3
  clear h3 k3 h2 k2
  go_wp2
  go_end0
  exact ⟨rfl, H3.out, K3.out⟩
end Go.Proofs.Ybulkajpa.Init
