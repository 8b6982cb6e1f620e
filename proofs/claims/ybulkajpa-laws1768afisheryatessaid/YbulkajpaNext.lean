import Derived.Test.YbulkajpaMem
import Derived.LoopN
import Derived.Deep.QuietTactic
import Derived.BigQuiet
/-! Contracts of State.Next, State.Refill, ChaCha8.Uint64. -/
namespace Go.Proofs.Ybulkajpa.Next
open Go.RowKit Go.Proofs.Ybulkajpa.Cha Go.Proofs.Ybulkajpa.Stream Go.Proofs.Ybulkajpa.Mem

theorem and31' : ∀ k : Fin 32, bits .and .u32 (k.val : Int) 31 = (k.val : Int) := by decide +kernel
theorem and31 (k : Nat) (h : k < 32) : bits .and .u32 (k : Int) 31 = (k : Int) := and31' ⟨k, h⟩

set_option maxHeartbeats 400000 in
theorem next_hit (w : World) (C : Nat) (σ : St) (h : CH w C σ) (hin : σ.i < σ.n) (hn : σ.n ≤ 32) :
    Calls Yba.prog 20 #[.pointer (some ⟨C, 0, none⟩)] w fun e w' => e = .returned (.tuple #[.int .u64 (σ.buf.getD σ.i 0 : Nat), .bool true]) ∧ CH w' C { σ with i := σ.i + 1 } ∧ Kept w w' [C] := by
  have ci := h.i
  have cn := h.n
  have fi := h.free 36
  have cb := h.buf σ.i (by omega)
  have ha := and31 σ.i (by omega)
  have hlt : ((σ.i : Nat) : Int) < 32 := by omega
  have HF := hide (h.setI (σ.i + 1))
  have HK := hide ((Kept.refl w [C]).setCell (p := ⟨C, 36, none⟩) (.inl (by simp)) (.int .u32 ((σ.i + 1 : Nat) : Int)))
  generalize σ.buf.getD σ.i 0 = x at *
  clear h
  go_enter Yba.func20, Yba.ntmps20
  go_wp2
  go_ret2
  exact ⟨rfl, HF.out, HK.out⟩

set_option maxHeartbeats 400000 in
theorem next_miss (w : World) (C : Nat) (σ : St) (h : CH w C σ) (hin : ¬ σ.i < σ.n) :
    Calls Yba.prog 20 #[.pointer (some ⟨C, 0, none⟩)] w fun e w' => e = .returned (.tuple #[.int .u64 0, .bool false]) ∧ w' = w := by
  have ci := h.i
  have cn := h.n
  clear h
  go_enter Yba.func20, Yba.ntmps20
  go_wp2
  go_ret2
  exact ⟨rfl, rfl⟩

set_option maxHeartbeats 800000 in
theorem refill_same (w : World) (C : Nat) (σ : St) (h : CH w C σ) (ho : Ok σ) (hc : σ.c + 4 ≠ 16) :
    Calls Yba.prog 21 #[.pointer (some ⟨C, 0, none⟩)] w fun e w' => e = .returned (.tuple #[]) ∧ CH w' C (refill σ) ∧ Kept w w' [C] := by
  have cc := h.c
  have fc := h.free 38
  have hc4 : σ.c ≤ 8 := by rcases ho.c with e | e | e | e <;> omega
  have t1 : ((σ.c : Int) + 4 == 16) = false := by simp; omega
  have h1 : CH (w.setCell ⟨C, 38, none⟩ (.int .u32 ((σ.c : Int) + 4))) C { σ with c := σ.c + 4 } := h.setC (σ.c + 4)
  have hb : (callFunc 25 #[.pointer (some ⟨C, 32, none⟩), .pointer (some ⟨C, 0, none⟩), .int .u32 ((σ.c : Int) + 4)]).run Yba.prog (w.setCell ⟨C, 38, none⟩ (.int .u32 ((σ.c : Int) + 4))).drew = .ok (.value (.tuple #[])) ((w.setCell ⟨C, 38, none⟩ (.int .u32 ((σ.c : Int) + 4))).drew.setCells C 0 (vals (blockOut σ.seed (σ.c + 4)))) := block_run _ C { σ with c := σ.c + 4 } (σ.c + 4) ho.seed.1 h1.drew
  go_enter Yba.func21, Yba.ntmps21
  have h2 := (h1.drew).setBuf (blockOut σ.seed (σ.c + 4)) (block_len _ _)
  have k2 : Kept w ((w.setCell ⟨C, 38, none⟩ (.int .u32 ((σ.c : Int) + 4))).drew.setCells C 0 (vals (blockOut σ.seed (σ.c + 4)))) [C] := Kept.setCells C (by simp) _ _ _ (((Kept.refl w [C]).setCell (p := ⟨C, 38, none⟩) (.inl (by simp)) _).drew)
  have HR : Hid (refill σ = { buf := blockOut σ.seed (σ.c + 4), seed := σ.seed, i := 0, n := if σ.c + 4 = 12 then 28 else 32, c := σ.c + 4 }) := by show refill σ = _; unfold refill; rw [if_neg hc]
  go_wp2
  go_region
  generalize (w.setCell ⟨C, 38, none⟩ (.int .u32 ((σ.c : Int) + 4))).drew.setCells C 0 (vals (blockOut σ.seed (σ.c + 4))) = W2 at *
  clear h1 hb cc fc
  have d36 := h2.i
  have d37 := h2.n
  have d38 : W2.cell? ⟨C, 38, none⟩ = some (.int .u32 ((σ.c : Int) + 4)) := h2.c
  have f36 := h2.free 36
  have f37 := h2.free 37
  by_cases h12 : σ.c + 4 = 12
  · have t2 : ((σ.c : Int) + 4 == 12) = true := by simp; omega
    have h3 := ((h2.setI 0).setN 32).setN 28
    have k3 := ((k2.setCell (p := ⟨C, 36, none⟩) (.inl (by simp)) (.int .u32 ((0 : Nat) : Int))).setCell (p := ⟨C, 37, none⟩) (.inl (by simp)) (.int .u32 ((32 : Nat) : Int))).setCell (p := ⟨C, 37, none⟩) (.inl (by simp)) (.int .u32 ((28 : Nat) : Int))
    have H3 := hide h3
    have K3 := hide k3
    have H12 := hide h12
    clear h3 k3 h2 k2 h12
    go_wp2
    go_end0
    refine ⟨rfl, ?_, K3.out⟩
    rw [HR.out, if_pos H12.out]
    exact H3.out
  · have t2 : ((σ.c : Int) + 4 == 12) = false := by simp; omega
    have h3 := (h2.setI 0).setN 32
    have k3 := (k2.setCell (p := ⟨C, 36, none⟩) (.inl (by simp)) (.int .u32 ((0 : Nat) : Int))).setCell (p := ⟨C, 37, none⟩) (.inl (by simp)) (.int .u32 ((32 : Nat) : Int))
    have H3 := hide h3
    have K3 := hide k3
    have H12 := hide h12
    clear h3 k3 h2 k2 h12
    go_wp2
    go_end0
    refine ⟨rfl, ?_, K3.out⟩
    rw [HR.out, if_neg H12.out]
    exact H3.out

theorem drop28 {l : List Nat} (h : l.length = 32) : (l.drop 28).toArray = #[l.getD 28 0, l.getD 29 0, l.getD 30 0, l.getD 31 0] := by
  apply Array.toList_inj.1
  apply List.ext_getElem?
  intro i
  rcases (show i = 0 ∨ i = 1 ∨ i = 2 ∨ i = 3 ∨ 4 ≤ i by omega) with rfl | rfl | rfl | rfl | hi
  · simp [h]
  · simp [h]
  · simp [h]
  · simp [h]
  · rw [List.getElem?_eq_none (by simp; omega), List.getElem?_eq_none (by simp; omega)]

set_option maxHeartbeats 1600000 in
theorem refill_new (w : World) (C : Nat) (σ : St) (h : CH w C σ) (ho : Ok σ) (hc : σ.c = 12) :
    Calls Yba.prog 21 #[.pointer (some ⟨C, 0, none⟩)] w fun e w' => e = .returned (.tuple #[]) ∧ CH w' C (refill σ) ∧ Kept w w' [C] := by
  have hl : σ.buf.length = 32 := by rw [ho.buf]; exact block_len _ _
  have cc : w.cell? ⟨C, 38, none⟩ = some (.int .u32 12) := by rw [h.c, hc]; rfl
  have fc := h.free 38
  have b28 := h.buf 28 (by omega)
  have b29 := h.buf 29 (by omega)
  have b30 := h.buf 30 (by omega)
  have b31 := h.buf 31 (by omega)
  have s32 := h.seed 0 (by omega)
  have s33 := h.seed 1 (by omega)
  have s34 := h.seed 2 (by omega)
  have s35 := h.seed 3 (by omega)
  simp only [Nat.add_zero, Nat.reduceAdd] at s32 s33 s34 s35
  have f32 := h.free 32
  have f33 := h.free 33
  have f34 := h.free 34
  have f35 := h.free 35
  have HR : Hid (refill σ = { buf := blockOut #[σ.buf.getD 28 0, σ.buf.getD 29 0, σ.buf.getD 30 0, σ.buf.getD 31 0] 0, seed := #[σ.buf.getD 28 0, σ.buf.getD 29 0, σ.buf.getD 30 0, σ.buf.getD 31 0], i := 0, n := 32, c := 0 }) := by
    show refill σ = _
    unfold refill
    rw [if_pos (by omega), drop28 hl]
  have h1 := ((h.setC 16).setSeed (σ.buf.getD 28 0) (σ.buf.getD 29 0) (σ.buf.getD 30 0) (σ.buf.getD 31 0)).setC 0
  have k1 := ((((((Kept.refl w [C]).setCell (p := ⟨C, 38, none⟩) (.inl (by simp)) (.int .u32 ((16 : Nat) : Int))).setCell (p := ⟨C, 32, none⟩) (.inl (by simp)) (.int .u64 (σ.buf.getD 28 0 : Nat))).setCell (p := ⟨C, 33, none⟩) (.inl (by simp)) (.int .u64 (σ.buf.getD 29 0 : Nat))).setCell (p := ⟨C, 34, none⟩) (.inl (by simp)) (.int .u64 (σ.buf.getD 30 0 : Nat))).setCell (p := ⟨C, 35, none⟩) (.inl (by simp)) (.int .u64 (σ.buf.getD 31 0 : Nat))).setCell (p := ⟨C, 38, none⟩) (.inl (by simp)) (.int .u32 ((0 : Nat) : Int))
  generalize σ.buf.getD 28 0 = x28 at *
  generalize σ.buf.getD 29 0 = x29 at *
  generalize σ.buf.getD 30 0 = x30 at *
  generalize σ.buf.getD 31 0 = x31 at *
  have H1 : Hid (CH ((((((w.setCell ⟨C, 38, none⟩ (.int .u32 16)).setCell ⟨C, 32, none⟩ (.int .u64 (x28 : Int))).setCell ⟨C, 33, none⟩ (.int .u64 (x29 : Int))).setCell ⟨C, 34, none⟩ (.int .u64 (x30 : Int))).setCell ⟨C, 35, none⟩ (.int .u64 (x31 : Int))).setCell ⟨C, 38, none⟩ (.int .u32 0)) C { σ with seed := #[x28, x29, x30, x31], c := 0 }) := h1
  have K1 : Hid (Kept w ((((((w.setCell ⟨C, 38, none⟩ (.int .u32 16)).setCell ⟨C, 32, none⟩ (.int .u64 (x28 : Int))).setCell ⟨C, 33, none⟩ (.int .u64 (x29 : Int))).setCell ⟨C, 34, none⟩ (.int .u64 (x30 : Int))).setCell ⟨C, 35, none⟩ (.int .u64 (x31 : Int))).setCell ⟨C, 38, none⟩ (.int .u32 0)) [C]) := k1
  clear h h1 k1
  go_enter Yba.func21, Yba.ntmps21
  go_wp2
  go_region
  go_wp2
  go_region
  go_wp2
  go_region
  go_wp2
  go_region
  go_wp2
  generalize ((((((w.setCell ⟨C, 38, none⟩ (.int .u32 16)).setCell ⟨C, 32, none⟩ (.int .u64 (x28 : Int))).setCell ⟨C, 33, none⟩ (.int .u64 (x29 : Int))).setCell ⟨C, 34, none⟩ (.int .u64 (x30 : Int))).setCell ⟨C, 35, none⟩ (.int .u64 (x31 : Int))).setCell ⟨C, 38, none⟩ (.int .u32 0)) = W at *
  clear cc fc b28 b29 b30 b31 s32 s33 s34 s35 f32 f33 f34 f35
  have h1 := H1.out
  have e38 : W.cell? ⟨C, 38, none⟩ = some (.int .u32 0) := h1.c
  have hb : (callFunc 25 #[.pointer (some ⟨C, 32, none⟩), .pointer (some ⟨C, 0, none⟩), .int .u32 0]).run Yba.prog W.drew.drew.drew.drew.drew = .ok (.value (.tuple #[])) (W.drew.drew.drew.drew.drew.setCells C 0 (vals (blockOut #[x28, x29, x30, x31] 0))) := block_run _ C { σ with seed := #[x28, x29, x30, x31], c := 0 } 0 rfl h1.drew.drew.drew.drew.drew
  have h2 := (h1.drew.drew.drew.drew.drew).setBuf (blockOut #[x28, x29, x30, x31] 0) (block_len _ _)
  have k2 : Kept w (W.drew.drew.drew.drew.drew.setCells C 0 (vals (blockOut #[x28, x29, x30, x31] 0))) [C] := Kept.setCells C (by simp) _ _ _ (K1.out.drew.drew.drew.drew.drew)
  go_region
  generalize W.drew.drew.drew.drew.drew.setCells C 0 (vals (blockOut #[x28, x29, x30, x31] 0)) = W2 at *
  clear h1 hb e38 H1 K1
  have d36 := h2.i
  have d37 := h2.n
  have d38 : W2.cell? ⟨C, 38, none⟩ = some (.int .u32 0) := h2.c
  have f36 := h2.free 36
  have f37 := h2.free 37
  have h3 := (h2.setI 0).setN 32
  have k3 := (k2.setCell (p := ⟨C, 36, none⟩) (.inl (by simp)) (.int .u32 ((0 : Nat) : Int))).setCell (p := ⟨C, 37, none⟩) (.inl (by simp)) (.int .u32 ((32 : Nat) : Int))
  have H3 := hide h3
  have K3 := hide k3
  clear h3 k3 h2 k2
  go_wp2
  go_end0
  refine ⟨rfl, ?_, K3.out⟩
  rw [HR.out]
  exact H3.out

theorem refill_any (w : World) (C : Nat) (σ : St) (h : CH w C σ) (ho : Ok σ) :
    Calls Yba.prog 21 #[.pointer (some ⟨C, 0, none⟩)] w fun e w' => e = .returned (.tuple #[]) ∧ CH w' C (refill σ) ∧ Kept w w' [C] := by
  by_cases hc : σ.c = 12
  · exact refill_new w C σ h ho hc
  · exact refill_same w C σ h ho (by omega)

set_option maxHeartbeats 800000 in
theorem uint64_any (w : World) (C : Nat) (σ : St) (h : CH w C σ) (ho : Ok σ) :
    Calls Yba.prog 13 #[.pointer (some ⟨C, 0, none⟩)] w fun e w' => e = .returned (.int .u64 ((next σ).1 : Nat)) ∧ CH w' C (next σ).2 ∧ Kept w w' [C] := by
  have hb := n_pos σ ho
  by_cases hin : σ.i < σ.n
  · have HN : Hid (next σ = (σ.buf.getD σ.i 0, { σ with i := σ.i + 1 })) := by show next σ = _; unfold next; rw [if_pos hin]
    go_enter Yba.func13, Yba.ntmps13
    go_wp2
    refine wp_loop_rounds 1 ?_
    rw [rounds_succ]
    go_wp2_with fail
    refine (next_hit w C σ h hin (by omega)).mono ?_
    rintro e w1 ⟨rfl, h1, k1⟩
    go_wp2
    go_ret
    rw [HN.out]
    exact ⟨rfl, h1, k1⟩
  · obtain ⟨ho1, hi1⟩ := refill_ok σ ho
    have hb1 := n_pos _ ho1
    have HN : Hid (next σ = ((refill σ).buf.getD (refill σ).i 0, { refill σ with i := (refill σ).i + 1 })) := by show next σ = _; unfold next; rw [if_neg hin, hi1]
    have hlt1 : (refill σ).i < (refill σ).n := by omega
    clear hi1
    go_enter Yba.func13, Yba.ntmps13
    go_wp2
    refine wp_loop_rounds 2 ?_
    rw [rounds_succ]
    go_wp2_with fail
    refine (next_miss w C σ h hin).mono ?_
    rintro e w1 ⟨rfl, rfl⟩
    go_wp2_with fail
    refine (refill_any _ C σ h ho).mono ?_
    rintro e w2 ⟨rfl, h2, k2⟩
    go_wp2_with fail
    rw [rounds_succ]
    go_wp2_with fail
    refine (next_hit w2 C (refill σ) h2 hlt1 hb1.2).mono ?_
    rintro e w3 ⟨rfl, h3, k3⟩
    go_wp2
    go_ret
    rw [HN.out]
    exact ⟨rfl, h3, k2.trans k3⟩
end Go.Proofs.Ybulkajpa.Next
