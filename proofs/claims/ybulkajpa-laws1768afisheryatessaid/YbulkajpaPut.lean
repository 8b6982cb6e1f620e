import Derived.Test.YbulkajpaInit3
/-! Contract of PutUint64. -/
namespace Go.Proofs.Ybulkajpa.Init
open Go.RowKit Go.Proofs.Ybulkajpa.Cha Go.Proofs.Ybulkajpa.Stream Go.Proofs.Ybulkajpa.Mem Go.Proofs.Ybulkajpa.Next

/-- A row of 32 bytes in a block. -/
def Bytes (w : World) (B : Nat) (f : Nat → Int) : Prop := ∀ j, j < 32 → w.cell? ⟨B, j, none⟩ = some (.int .u8 (f j))
theorem Bytes.set {w : World} {B : Nat} {f : Nat → Int} (h : Bytes w B f) (k : Nat) (x : Int) : Bytes (w.setCell ⟨B, k, none⟩ (.int .u8 x)) B (fun j => if j = k then x else f j) := by
  intro j hj
  by_cases e : j = k
  · subst e
    rw [World.cell?_setCell_same _ _ _ (h j hj)]
    simp
  · rw [cell_other (Ne.symm e), h j hj]
    simp [e]
theorem Bytes.alloc {w : World} {B : Nat} {f : Nat → Int} (h : Bytes w B f) (o : Obj) : Bytes (w.alloc o) B f := by
  intro j hj
  rw [World.cell?_alloc_some _ _ _ (by rw [h j hj]; rfl)]
  exact h j hj
theorem Bytes.kept {w w' : World} {B : Nat} {f : Nat → Int} {S : List Nat} (h : Bytes w B f) (hk : Kept w w' S) (hn : B ∉ S) : Bytes w' B f := fun j hj => hk.cell (h j hj) hn

/-- The 32 bytes of a key whose first eight spell the seed. -/
def seedB (ov : Int) (f : Nat → Int) : Nat → Int := fun j => if j = 7 then ov / 72057594037927936 else if j = 6 then ov / 281474976710656 % 256 else if j = 5 then ov / 1099511627776 % 256 else if j = 4 then ov / 4294967296 % 256 else if j = 3 then ov / 16777216 % 256 else if j = 2 then ov / 65536 % 256 else if j = 1 then ov / 256 % 256 else if j = 0 then ov % 256 else f j

set_option maxRecDepth 100000 in
set_option maxHeartbeats 3200000 in
theorem put_any (w : World) (B : Nat) (ov : Int) (f : Nat → Int) (h0 : 0 ≤ ov) (h1 : ov ≤ 18446744073709551615) (hz : Bytes w B f) (hf : ∀ j, w.frozen? ⟨B, j, none⟩ = false) :
    Calls Yba.prog 17 #[.agg #[], .slice (some ⟨B, 0, none⟩) 32 32, .int .u64 ov] w fun e w' => e = .returned (.tuple #[]) ∧ Bytes w' B (seedB ov f) ∧ Kept w w' [B] := by
  have c0 := hz 0 (by omega)
  have c1 := hz 1 (by omega)
  have c2 := hz 2 (by omega)
  have c3 := hz 3 (by omega)
  have c4 := hz 4 (by omega)
  have c5 := hz 5 (by omega)
  have c6 := hz 6 (by omega)
  have c7 := hz 7 (by omega)
  have f0 := hf 0
  have f1 := hf 1
  have f2 := hf 2
  have f3 := hf 3
  have f4 := hf 4
  have f5 := hf 5
  have f6 := hf 6
  have f7 := hf 7
  have hB := World.block_lt_of_cell? w _ c0
  have HZ := hide hz
  clear hz hf
  go_enter Yba.func17, Yba.ntmps17
  go_wp2
  go_end0
  refine ⟨rfl, ?_, ?_⟩
  · exact ((((((((HZ.out.set 0 (ov % 256)).set 1 (ov / 256 % 256)).set 2 (ov / 65536 % 256)).set 3 (ov / 16777216 % 256)).set 4 (ov / 4294967296 % 256)).set 5 (ov / 1099511627776 % 256)).set 6 (ov / 281474976710656 % 256)).set 7 (ov / 72057594037927936)).alloc _
  · exact (((((((((Kept.refl w [B]).setCell (p := ⟨B, 0, none⟩) (.inl (by simp)) _).setCell (p := ⟨B, 1, none⟩) (.inl (by simp)) _).setCell (p := ⟨B, 2, none⟩) (.inl (by simp)) _).setCell (p := ⟨B, 3, none⟩) (.inl (by simp)) _).setCell (p := ⟨B, 4, none⟩) (.inl (by simp)) _).setCell (p := ⟨B, 5, none⟩) (.inl (by simp)) _).setCell (p := ⟨B, 6, none⟩) (.inl (by simp)) _).setCell (p := ⟨B, 7, none⟩) (.inl (by simp)) _).alloc _
end Go.Proofs.Ybulkajpa.Init
