import Derived.Test.YbulkajomNeighGo
import Derived.Test.YbulkajomExact
import Derived.WalkSmall
/-! Two rows of the law's own, side by side; the law's outer loop as a plain function; the start's world. -/
namespace Go.Proofs.Ybulkajom.Pair
open Go.RowKit Go.Proofs.Ybulkajom.Own Go.Proofs.Ybulkajom.Ring Go.Proofs.Ybulkajom.Side Go.Proofs.Ybulkajom.Ask Go.Proofs.Ybulkajom.SideGo

structure Pair (w : World) (base : Nat) (v u : Value) (l m : List Int) : Prop where
  left : Owns base w v l
  right : Owns base w u m
  apart : ∀ q, v.ownBlock = some q → u.ownBlock = some q → False
  le : base ≤ w.heap.size

theorem pair_left {w w1 : World} {base g cap : Nat} {v u : Value} {l m : List Int} {j : Int} {o : Obj} (h : Pair w base v u l m)
    (hown : w1.ownsRow base 3 1 (.slice (some ⟨g, 0, none⟩) (l.length + 1) cap) (l.length + 1) (l.map (Value.int .i64) ++ [.int .i64 j]))
    (hgrow : (w.alloc o).grownBy w1 v.ownBlock) (hat : v.ownBlock = some g ∨ g = w.heap.size + 1) :
    Pair w1 base (.slice (some ⟨g, 0, none⟩) (l.length + 1) cap) u (l ++ [j]) m ∧ Below base w w1 := by
  have hle := h.le
  have hsz := hgrow.size
  simp at hsz
  refine ⟨⟨owns_snoc hown, ?_, ?_, by omega⟩, ?_⟩
  · refine World.ownsRow.kept (World.ownsRow.alloc h.right o) hgrow ?_
    cases hq : u.ownBlock with
    | none => exact .inl rfl
    | some q => exact .inr (fun e => h.apart q e.symm hq)
  · intro q hq hl
    simp [Value.ownBlock] at hq
    subst hq
    rcases hat with e | e
    · exact h.apart _ e hl
    · have := (World.ownsRow.lt h.right _ hl).2
      omega
  · exact ((Below.refl base w).alloc hle o).grown hgrow (by simp; omega) (fun k hk => (World.ownsRow.lt h.left k hk).1)

theorem Pair.swap {w : World} {base : Nat} {v u : Value} {l m : List Int} (h : Pair w base v u l m) : Pair w base u v m l := ⟨h.right, h.left, fun q a b => h.apart q b a, h.le⟩

theorem pair_right {w w1 : World} {base g cap : Nat} {v u : Value} {l m : List Int} {j : Int} {o : Obj} (h : Pair w base v u l m)
    (hown : w1.ownsRow base 3 1 (.slice (some ⟨g, 0, none⟩) (m.length + 1) cap) (m.length + 1) (m.map (Value.int .i64) ++ [.int .i64 j]))
    (hgrow : (w.alloc o).grownBy w1 u.ownBlock) (hat : u.ownBlock = some g ∨ g = w.heap.size + 1) :
    Pair w1 base v (.slice (some ⟨g, 0, none⟩) (m.length + 1) cap) l (m ++ [j]) ∧ Below base w w1 :=
  let ⟨a, b⟩ := pair_left h.swap hown hgrow hat
  ⟨a.swap, b⟩

theorem Pair.drewN {w : World} {base : Nat} {v u : Value} {l m : List Int} (h : Pair w base v u l m) (q : Nat) : Pair (w.drewN q) base v u l m := ⟨h.left.drewN q, h.right.drewN q, h.apart, h.le⟩

/-- The outer loop's sign and what it has gathered behind q rounds. -/
def sgn (q : Nat) : Int := if q = 0 then 1 else -1
def acc (s n : Int) (g : Int → Bool) : Nat → List Int × List Int
  | 0 => ([], [])
  | q + 1 => ring s n (sgn q) g n.toNat 0 0 (acc s n g q).1 (acc s n g q).2
theorem acc_two (s n : Int) (g : Int → Bool) : acc s n g 2 = both s n g [] [] := rfl
theorem sgn_or (q : Nat) : sgn q = 1 ∨ sgn q = -1 := by unfold sgn; split <;> simp
theorem sgn_mul (q k : Nat) (hk : k ≤ 1024) : -1025 ≤ sgn q * ((k : Int) + 1) ∧ sgn q * ((k : Int) + 1) ≤ 1025 := by
  rcases sgn_or q with h | h <;> rw [h] <;> omega
theorem index_sgn (q : Nat) (hq : q < 2) (w : World) : (Instr.index 25 (.agg #[.int .i64 1, .int .i64 (-1)]) (.int .i64 (q : Int))).run Yba.prog w = .ok (.int .i64 (sgn q)) w := by
  match q, hq with
  | 0, _ => exact IndexLaw.index0 _ _ w
  | 1, _ => exact IndexLaw.index1 _ _ w

/-- The world behind the two variables that the closure captures. -/
theorem start_two (w : World) (gv : Value) : Two ((w.alloc (.cells #[gv] 30)).alloc (.cells #[.slice none 0 0] 22)) (w.heap.size + 1) (.slice none 0 0) (.slice none 0 0) [] [] := by
  refine ⟨Owns.nil _ _, ⟨?_, Owns.nil _ _⟩, (fun q h => by cases h), by simp⟩
  have := heap_alloc_new (w.alloc (.cells #[gv] 30)) (.cells #[.slice none 0 0] 22)
  simpa using this
theorem start_gone (w : World) (ao : Option Addr) (len cap : Nat) (F : Nat → Bool) (h : len = 0 ∨ ∃ b off, ao = some ⟨b, off, none⟩ ∧ ∀ j, j < len → w.cell? ⟨b, off + j, none⟩ = some (.bool (F j))) :
    GoneIs ((w.alloc (.cells #[.slice ao len cap] 30)).alloc (.cells #[.slice none 0 0] 22)) w.heap.size ao len cap F := by
  have hb : Below (w.heap.size + 1) (w.alloc (.cells #[.slice ao len cap] 30)) ((w.alloc (.cells #[.slice ao len cap] 30)).alloc (.cells #[.slice none 0 0] 22)) := (Below.refl _ _).alloc (by simp) _
  have hb0 : Below w.heap.size w (w.alloc (.cells #[.slice ao len cap] 30)) := (Below.refl _ _).alloc (Nat.le_refl _) _
  refine ⟨?_, ?_⟩
  · rw [hb.cell (by simp)]
    exact cell_of_one (t := 30) (heap_alloc_new w _)
  · by_cases h0 : len = 0
    · exact .inl h0
    rcases h with h | ⟨b, off, h1, h2⟩
    · exact .inl h
    · have hlt : b < w.heap.size := World.block_lt_of_cell? w ⟨b, off + 0, none⟩ (h2 0 (by omega))
      refine .inr ⟨b, off, h1, hlt, fun j hj => ?_⟩
      rw [hb.cell (by simp; omega), hb0.cell (by simpa using hlt)]
      exact h2 j hj
theorem start_below (w : World) (gv : Value) : Below w.heap.size w ((w.alloc (.cells #[gv] 30)).alloc (.cells #[.slice none 0 0] 22)) := ((Below.refl _ _).alloc (Nat.le_refl _) _).alloc (by simp) _
end Go.Proofs.Ybulkajom.Pair
