import Derived.Test.YbulkajomSide
import Derived.Deep.QuietTactic
import Derived.BigQuiet
import Derived.OneCell
/-! The contract of the closure that LawS1767AGone hands to 'neighbours': it writes down who is asked, and answers. -/
namespace Go.Proofs.Ybulkajom.Ask
open Go.RowKit Go.Proofs.Ybulkajom.Own Go.Proofs.Ybulkajom.Ring Go.Proofs.Ybulkajom.Side

/-- What the variable 'gone' (block B) holds: a slice of bools, element j being F j. -/
def GoneIs (w : World) (B : Nat) (ao : Option Addr) (len cap : Nat) (F : Nat → Bool) : Prop :=
  w.cell? ⟨B, 0, none⟩ = some (.slice ao len cap) ∧ (len = 0 ∨ ∃ b off, ao = some ⟨b, off, none⟩ ∧ b < B ∧ ∀ j, j < len → w.cell? ⟨b, off + j, none⟩ = some (.bool (F j)))
theorem GoneIs.below {w w' : World} {B : Nat} {ao : Option Addr} {len cap : Nat} {F : Nat → Bool} (h : GoneIs w B ao len cap F) (hb : Below (B + 1) w w') : GoneIs w' B ao len cap F := by
  refine ⟨(hb.cell (by simp)).trans h.1, ?_⟩
  rcases h.2 with h | ⟨b, off, h1, h2, h3⟩
  · exact .inl h
  · exact .inr ⟨b, off, h1, h2, fun j hj => (hb.cell (by simp; omega)).trans (h3 j hj)⟩

/-- Whom the closure calls gone. -/
def goneF (len : Nat) (F : Nat → Bool) (j : Int) : Bool := if len = 0 then false else F (j.toNat % len)

/-- The variable 'log' (block L) holds the slice lv, which owns the row lg. -/
structure LogIs (w : World) (L : Nat) (lv : Value) (lg : List Int) : Prop where
  cell : w.heap[L]? = some (.cells #[lv] 22 (0, 0))
  own : Owns (L + 1) w lv lg

/-- What the closure may have turned: the variable, the row of the log, new blocks. -/
structure Asked (w w' : World) (L : Nat) (lv lv' : Value) : Prop where
  os : w'.os = w.os
  tape : w'.tape = w.tape
  output : w'.output = w.output
  size : w.heap.size ≤ w'.heap.size
  block : ∀ k, k < w.heap.size → k ≠ L → some k ≠ lv.ownBlock → w'.heap[k]? = w.heap[k]?
  at' : ∀ k, lv'.ownBlock = some k → lv.ownBlock = some k ∨ w.heap.size ≤ k

theorem Asked.cell {w w' : World} {L : Nat} {lv lv' : Value} (h : Asked w w' L lv lv') (b : Nat) {off : Nat} (hb : b < w.heap.size) (h1 : b ≠ L) (h2 : some b ≠ lv.ownBlock) : w'.cell? ⟨b, off, none⟩ = w.cell? ⟨b, off, none⟩ :=
  World.cell?_of_block (h.block b hb h1 h2)

theorem LogIs.drewN {w : World} {L : Nat} {lv : Value} {lg : List Int} (h : LogIs w L lv lg) (q : Nat) : LogIs (w.drewN q) L lv lg := ⟨h.cell, h.own⟩
theorem Asked.drewN {w w' : World} {L : Nat} {lv lv' : Value} (h : Asked w w' L lv lv') (q : Nat) : Asked w (w'.drewN q) L lv lv' := ⟨h.os, h.tape, h.output, h.size, h.block, h.at'⟩

theorem own_slice {base : Nat} {w : World} {v : Value} {l : List Int} (h : Owns base w v l) : ∃ ao cap, v = .slice ao l.length cap := by
  rcases h.shape with ⟨rfl, rfl⟩ | ⟨g, cap, rfl, _⟩
  · exact ⟨none, 0, rfl⟩
  · exact ⟨_, _, rfl⟩

/-- What the append and the store leave. -/
theorem asked_of {w w1 : World} {L g cap : Nat} {lv : Value} {lg : List Int} {j : Int} {o : Obj} (hL : L < w.heap.size) (hlog : LogIs w L lv lg)
    (hown : w1.ownsRow (L + 1) 3 1 (.slice (some ⟨g, 0, none⟩) (lg.length + 1) cap) (lg.length + 1) (lg.map (Value.int .i64) ++ [.int .i64 j]))
    (hgrow : (w.alloc o).grownBy w1 lv.ownBlock) (hat : lv.ownBlock = some g ∨ g = w.heap.size + 1) :
    LogIs (w1.setCell ⟨L, 0, none⟩ (.slice (some ⟨g, 0, none⟩) (lg.length + 1) cap)) L (.slice (some ⟨g, 0, none⟩) (lg.length + 1) cap) (lg ++ [j]) ∧
      Asked w (w1.setCell ⟨L, 0, none⟩ (.slice (some ⟨g, 0, none⟩) (lg.length + 1) cap)) L lv (.slice (some ⟨g, 0, none⟩) (lg.length + 1) cap) ∧ w1.heap[L]? = some (.cells #[lv] 22 (0, 0)) := by
  have hne : some L ≠ lv.ownBlock := by
    intro e
    have := (World.ownsRow.lt hlog.own L e.symm).1
    omega
  have hLL : w1.heap[L]? = some (.cells #[lv] 22 (0, 0)) := by
    rw [hgrow.block L (by simp; omega) hne, Below.heap_alloc _ _ _ hL]
    exact hlog.cell
  have hgL : L < g := by
    rcases hat with h | h
    · have := (World.ownsRow.lt hlog.own g h).1; omega
    · omega
  refine ⟨⟨one_setCell hLL, ?_⟩, ⟨hgrow.os, hgrow.tape, hgrow.output, ?_, ?_, ?_⟩, hLL⟩
  · have := owns_snoc hown
    exact ownsRow_setCell_below this (by simp) _
  · have := hgrow.size
    simp [World.setCell] at this ⊢
    omega
  · intro k hk hkL hkn
    rw [Below.heap_setCell _ _ _ _ (by simpa using hkL), hgrow.block k (by simp; omega) hkn, Below.heap_alloc _ _ _ hk]
  · intro k hk
    simp [Value.ownBlock] at hk
    subst hk
    rcases hat with h | h
    · exact .inl h
    · exact .inr (by omega)

set_option maxHeartbeats 1000000 in
theorem ask_none (w : World) (B L : Nat) (ao : Option Addr) (len cap : Nat) (F : Nat → Bool) (lv : Value) (lg : List Int) (j : Int)
    (hg : GoneIs w B ao len cap F) (hlog : LogIs w L lv lg) (hBL : B < L) (hL : L < w.heap.size) (hl : lg.length ≤ 5000) (h0 : len = 0) :
    Calls Yba.prog 12 #[.int .i64 j, .pointer (some ⟨L, 0, none⟩), .pointer (some ⟨B, 0, none⟩)] w fun e w' =>
      e = .returned (.bool (goneF len F j)) ∧ ∃ lv', LogIs w' L lv' (lg ++ [j]) ∧ Asked w w' L lv lv' := by
  obtain ⟨i0, hi, hz0, hz1, hz2⟩ := info_parts info3
  obtain ⟨aL, cL, hlv⟩ := own_slice hlog.own
  have cL0 := cell_of_one hlog.cell
  rw [hlv] at cL0
  obtain ⟨hgc, hgr⟩ := hg
  clear hgr
  subst h0
  go_enter Yba.func12, Yba.ntmps12
  go_wp2_with (at_builtin; refine wpList_append_lies _ rfl (.tmp 5) (.tmp 7) 22 rfl (L + 1) 3 i0 (.int .i64 0) 1 8 Yba.underlying22 hi hz0 hz1 hz2 rfl (by decide) (.slice aL lg.length cL) lg.length (lg.map (Value.int .i64)) rfl (World.ownsRow.alloc (by have := hlog.own; rw [hlv] at this; exact this) _) ⟨w.heap.size, 0, none⟩ 1 1 [.int .i64 j] rfl rfl news_one (by intro u hu; simp at hu; subst hu; rfl) (by decide) (by unfold maxLen; omega) (by omega) (by simp; omega) (w.heap.size + 1) (by simp) ?_)
  intro g cap' w1 hown hgrow hat hlt
  rw [← hlv] at hgrow hat
  obtain ⟨R1, R2, R3⟩ := asked_of hL hlog hown hgrow hat
  have fr1 := free_of_one R3
  have c1 := cell_of_one R3
  rw [hlv] at c1
  have hB2 := (R2.cell B (by omega) (by omega) (by intro e; have := (World.ownsRow.lt hlog.own B e.symm).1; omega)).trans hgc
  clear hown hgrow hat hlt R3
  go_wp2
  go_quiet (fail)
  go_wp2
  go_ret
  exact ⟨rfl, _, R1.drewN _, R2.drewN _⟩

set_option maxHeartbeats 1000000 in
theorem ask_any (w : World) (B L : Nat) (ao : Option Addr) (len cap : Nat) (F : Nat → Bool) (lv : Value) (lg : List Int) (j : Int)
    (hg : GoneIs w B ao len cap F) (hlog : LogIs w L lv lg) (hBL : B < L) (hL : L < w.heap.size) (hl : lg.length ≤ 5000) (hlen : len ≤ 1024) (hj : 1 ≤ j) (hj' : j ≤ 1024) :
    Calls Yba.prog 12 #[.int .i64 j, .pointer (some ⟨L, 0, none⟩), .pointer (some ⟨B, 0, none⟩)] w fun e w' =>
      e = .returned (.bool (goneF len F j)) ∧ ∃ lv', LogIs w' L lv' (lg ++ [j]) ∧ Asked w w' L lv lv' := by
  obtain ⟨i0, hi, hz0, hz1, hz2⟩ := info_parts info3
  obtain ⟨aL, cL, hlv⟩ := own_slice hlog.own
  have cL0 := cell_of_one hlog.cell
  rw [hlv] at cL0
  obtain ⟨hgc, hgr⟩ := hg
  rcases hgr with hl0 | ⟨b, off, rfl, hb, hc⟩
  · exact ask_none w B L _ len cap F lv lg j ⟨hgc, .inl hl0⟩ hlog hBL hL hl hl0
  · by_cases hl0 : len = 0
    · exact ask_none w B L _ len cap F lv lg j ⟨hgc, .inl hl0⟩ hlog hBL hL hl hl0
    have HG : Hid (goneF len F j = F (j.toNat % len)) := by show goneF len F j = _; unfold goneF; rw [if_neg hl0]
    obtain ⟨jn, rfl⟩ := Int.eq_ofNat_of_zero_le (show 0 ≤ j by omega)
    have hmod := Nat.mod_lt jn (show 0 < len by omega)
    go_enter Yba.func12, Yba.ntmps12
    go_wp2_with (at_builtin; refine wpList_append_lies _ rfl (.tmp 5) (.tmp 7) 22 rfl (L + 1) 3 i0 (.int .i64 0) 1 8 Yba.underlying22 hi hz0 hz1 hz2 rfl (by decide) (.slice aL lg.length cL) lg.length (lg.map (Value.int .i64)) rfl (World.ownsRow.alloc (by have := hlog.own; rw [hlv] at this; exact this) _) ⟨w.heap.size, 0, none⟩ 1 1 [.int .i64 (jn : Int)] rfl rfl news_one (by intro u hu; simp at hu; subst hu; rfl) (by decide) (by unfold maxLen; omega) (by omega) (by simp; omega) (w.heap.size + 1) (by simp) ?_)
    intro g cap' w1 hown hgrow hat hlt
    rw [← hlv] at hgrow hat
    obtain ⟨R1, R2, R3⟩ := asked_of hL hlog hown hgrow hat
    have fr1 := free_of_one R3
    have c1 := cell_of_one R3
    rw [hlv] at c1
    have hB2 := (R2.cell B (by omega) (by omega) (by intro e; have := (World.ownsRow.lt hlog.own B e.symm).1; omega)).trans hgc
    have hF2 := (R2.cell b (by omega) (by omega) (by intro e; have := (World.ownsRow.lt hlog.own b e.symm).1; omega)).trans (hc (jn % len) hmod)
    have hpos : 0 < len := by omega
    have hpos' : decide (0 < len) = true := by simpa using hpos
    have hlenz : ¬ (len : Int) = 0 := by omega
    clear hown hgrow hat hlt R3 hc
    go_wp2
    go_quiet (fail)
    go_wp2
    go_ret
    refine ⟨?_, _, R1.drewN _, R2.drewN _⟩
    rw [HG.out]
    simp
end Go.Proofs.Ybulkajom.Ask
