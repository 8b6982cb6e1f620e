import Derived.Test.YbulkajpaBelow
/-! The contract of draw.shuffle. -/
namespace Go.Proofs.Ybulkajpa.Shuf
open Go.RowKit Go.Proofs.Ybulkajpa.Cha Go.Proofs.Ybulkajpa.Stream Go.Proofs.Ybulkajpa.Mem Go.Proofs.Ybulkajpa.Next Go.Proofs.Ybulkajpa.Bel

/-- Elements a and b exchanged. -/
def swap (l : List Int) (a b : Nat) : List Int := (l.set a (l.getD b 0)).set b (l.getD a 0)
/-- The backward shuffle. -/
def shuf : Nat → St → List Int → List Int × St
  | 0, σ, l => (l, σ)
  | i + 1, σ, l => shuf i (below σ (i + 2)).2 (swap l (i + 1) (below σ (i + 2)).1)
theorem swap_len (l : List Int) (a b : Nat) : (swap l a b).length = l.length := by simp [swap]

/-- A row of ints in a block of its own. -/
structure RW (w : World) (g : Nat) (l : List Int) : Prop where
  cell : ∀ j, j < l.length → w.cell? ⟨g, j, none⟩ = some (.int .i64 (l.getD j 0))
  free : ∀ j, w.frozen? ⟨g, j, none⟩ = false
theorem RW.set {w : World} {g : Nat} {l : List Int} (h : RW w g l) (k : Nat) (x : Int) : RW (w.setCell ⟨g, k, none⟩ (.int .i64 x)) g (l.set k x) := by
  refine ⟨fun j hj => ?_, fun j => by rw [World.frozen?_setCell]; exact h.free j⟩
  have hj' : j < l.length := by simpa using hj
  by_cases e : k = j
  · subst e
    rw [World.cell?_setCell_same _ _ _ (h.cell k hj')]
    simp [hj']
  · rw [World.cell?_setCell_other _ _ _ _ (by intro he; injection he with _ e2; exact e e2), h.cell j hj']
    simp [e]
theorem RW.kept {w w' : World} {g : Nat} {l : List Int} {S : List Nat} (h : RW w g l) (hg : g < w.heap.size) (hk : Kept w w' S) (hn : g ∉ S) : RW w' g l := by
  have e := hk.block g hg hn
  exact ⟨fun j hj => (World.cell?_of_block (w := w) (a := ⟨g, j, none⟩) e).trans (h.cell j hj), fun j => (World.frozen?_of_block (w := w) (a := ⟨g, j, none⟩) e).trans (h.free j)⟩
theorem RW.drew {w : World} {g : Nat} {l : List Int} (h : RW w g l) : RW w.drew g l := ⟨h.cell, h.free⟩
theorem _root_.Go.Proofs.Ybulkajpa.Bel.DR.kept {w w' : World} {D C : Nat} {σ : St} {S : List Nat} (h : DR w D C σ) (hk : Kept w w' S) (hD : D ∉ S) (hC : C ∉ S) : DR w' D C σ := ⟨hk.cell h.d hD, h.c.kept hk hC⟩

theorem below_at (w : World) (D C : Nat) (σ : St) (n : Nat) (X : Int) (hX : X = (n : Int)) (h : DR w D C σ) (ho : Ok σ) (hDC : D ≠ C) (h0 : 0 < n) (hn : n ≤ 2000) :
    Calls Yba.prog 12 #[.pointer (some ⟨D, 0, none⟩), .int .u64 X] w fun e w' => e = .returned (.int .u64 ((below σ n).1 : Nat)) ∧ DR w' D C (below σ n).2 ∧ Kept w w' [C] := by
  subst hX
  exact below_any w D C σ n h ho hDC h0 hn

set_option maxHeartbeats 800000 in
theorem shuffle_zero (w : World) (p : Value) (ao : Option Addr) (cap : Nat) :
    Calls Yba.prog 10 #[p, .slice ao 0 cap] w fun e w' => e = .returned (.tuple #[]) ∧ w' = w := by
  go_enter Yba.func10, Yba.ntmps10
  go_wp2
  refine wp_loop_rounds 1 ?_
  rw [rounds_succ]
  go_wp2
  go_end0
  exact ⟨rfl, rfl⟩

set_option maxHeartbeats 1600000 in
theorem shuffle_any (w : World) (D C g : Nat) (σ : St) (l : List Int) (cap : Nat) (hd : DR w D C σ) (ho : Ok σ) (hr : RW w g l) (hl0 : 0 < l.length) (hl : l.length ≤ 1024) (hDC : D ≠ C) (hgD : g ≠ D) (hgC : g ≠ C) :
    Calls Yba.prog 10 #[.pointer (some ⟨D, 0, none⟩), .slice (some ⟨g, 0, none⟩) l.length cap] w fun e w' => e = .returned (.tuple #[]) ∧ RW w' g (shuf (l.length - 1) σ l).1 ∧ (shuf (l.length - 1) σ l).1.length = l.length ∧ DR w' D C (shuf (l.length - 1) σ l).2 ∧ Ok (shuf (l.length - 1) σ l).2 ∧ Kept w w' [C, g] := by
  generalize hm : l.length = m at *
  have Hm := hide hm
  clear hm
  go_enter Yba.func10, Yba.ntmps10
  go_wp2
  go_loopw [4] (fun x wr => ∃ (i : Nat) (τ : St) (k : List Int), x = .int .i64 (i : Int) ∧ i < m ∧ Hid (k.length = m) ∧ RW wr g k ∧ DR wr D C τ ∧ Ok τ ∧ Kept w wr [C, g] ∧ Hid (shuf i τ k = shuf (m - 1) σ l)) (fun x _ => (intOf x).toNat)
  case atStart => exact ⟨m - 1, σ, l, by go_num, by omega, Hm, hr, hd, ho, Kept.refl _ _, rfl⟩
  case round =>
    obtain ⟨i, τ, k, rfl, hi, HK, hrw, hdr, hok, hkp, HS⟩ := hrel
    cases i with
    | zero =>
      have HS' : Hid (shuf (m - 1) σ l = (k, τ)) := by show _ = _; rw [← HS.out]; rfl
      go_wp2
      go_end0
      rw [HS'.out]
      exact ⟨rfl, hrw, HK.out, hdr, hok, hkp⟩
    | succ i =>
      have hgl : g < wr.heap.size := World.block_lt_of_cell? wr _ (hrw.cell 0 (by rw [HK.out]; omega))
      have hbl := below_lt τ (i + 2) (by omega)
      have hbo := below_ok τ hok (i + 2)
      have HS' : Hid (shuf i (below τ (i + 2)).2 (swap k (i + 1) (below τ (i + 2)).1) = shuf (m - 1) σ l) := by show _ = _; rw [← HS.out]; rfl
      clear HS
      go_wp2_with fail
      refine (below_at wr D C τ (i + 2) _ (by omega) hdr hok hDC (by omega) (by omega)).mono ?_
      rintro e w1 ⟨rfl, hd1, hk1⟩
      have hr1 := hrw.kept hgl hk1 (by simpa using hgC)
      generalize (below τ (i + 2)).1 = j at *
      generalize (below τ (i + 2)).2 = τ' at *
      have ci := hr1.cell (i + 1) (by rw [HK.out]; omega)
      have cj := hr1.cell j (by rw [HK.out]; omega)
      have fi := hr1.free (i + 1)
      have fj := hr1.free j
      have HR := hide (((hr1.set (i + 1) (k.getD j 0)).set j (k.getD (i + 1) 0)).drew)
      have HKp := hide ((((hkp.andThen hk1 (by simp)).setCell (p := ⟨g, i + 1, none⟩) (.inl (by simp)) (.int .i64 (k.getD j 0))).setCell (p := ⟨g, j, none⟩) (.inl (by simp)) (.int .i64 (k.getD (i + 1) 0))).drew)
      have HD := hide (hd1.kept ((((Kept.refl w1 [g]).setCell (p := ⟨g, i + 1, none⟩) (.inl (by simp)) (.int .i64 (k.getD j 0))).setCell (p := ⟨g, j, none⟩) (.inl (by simp)) (.int .i64 (k.getD (i + 1) 0))).drew) (by simpa using Ne.symm hgD) (by simpa using Ne.symm hgC))
      have HL : Hid ((swap k (i + 1) j).length = m) := (swap_len k (i + 1) j).trans HK.out
      have HS2 : Hid (shuf i τ' ((k.set (i + 1) (k.getD j 0)).set j (k.getD (i + 1) 0)) = shuf (m - 1) σ l) := HS'
      have HL2 : Hid (((k.set (i + 1) (k.getD j 0)).set j (k.getD (i + 1) 0)).length = m) := HL
      clear hr1 hkp hk1 hd1 hrw hdr HS' HL
      generalize k.getD j 0 = y at *
      generalize k.getD (i + 1) 0 = z at *
      have hjm : j < m := by omega
      have cs1 : (w1.setCell ⟨g, i + 1, none⟩ (.int .i64 y)).cell? ⟨g, j, none⟩ = some (.int .i64 y) := by
        by_cases e : i + 1 = j
        · subst e; exact World.cell?_setCell_same _ _ _ ci
        · rw [World.cell?_setCell_other _ _ _ _ (by intro he; injection he with _ e2; exact e e2)]; exact cj
      go_wp2
      go_region
      go_wp2
      go_roundw
      case rel => exact ⟨i, τ', _, by go_num, by omega, HL2, HR.out, HD.out, hbo, HKp.out, HS2⟩
      case measure => simp [intOf]
end Go.Proofs.Ybulkajpa.Shuf
