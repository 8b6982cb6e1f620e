/-! Plain functions and laws of the walk round the ring: no Go in sight. -/
namespace Go.Proofs.Ybulkajom.Ring

/-- The process that lies x places from process s in a ring of n, numbered from 1. -/
def pos (s n x : Int) : Int := (s - 1 + x) % n + 1
/-- l with j behind it, unless j is there. -/
def addNew (l : List Int) (j : Int) : List Int := if l.contains j then l else l ++ [j]
/-- The walk: k places walked, c counted, l gathered, lg asked. -/
def ring (s n sg : Int) (g : Int → Bool) : Nat → Nat → Nat → List Int → List Int → List Int × List Int
  | 0, _, _, l, lg => (l, lg)
  | f + 1, k, c, l, lg =>
    if c < 2 ∧ (k : Int) + 1 < n then ring s n sg g f (k + 1) (if g (pos s n (sg * ((k : Int) + 1))) then c else c + 1) (addNew l (pos s n (sg * ((k : Int) + 1)))) (lg ++ [pos s n (sg * ((k : Int) + 1))])
    else (l, lg)

theorem ring_stop (s n sg : Int) (g : Int → Bool) (f k c : Nat) (l lg : List Int) (h : ¬ (c < 2 ∧ (k : Int) + 1 < n)) : ring s n sg g f k c l lg = (l, lg) := by
  cases f with
  | zero => rfl
  | succ f => simp only [ring, if_neg h]
theorem ring_go (s n sg : Int) (g : Int → Bool) (f k c : Nat) (l lg : List Int) (h1 : c < 2) (h2 : (k : Int) + 1 < n) :
    ring s n sg g (f + 1) k c l lg = ring s n sg g f (k + 1) (if g (pos s n (sg * ((k : Int) + 1))) then c else c + 1) (addNew l (pos s n (sg * ((k : Int) + 1)))) (lg ++ [pos s n (sg * ((k : Int) + 1))]) := by
  simp only [ring, if_pos (And.intro h1 h2)]

theorem pos_zero (s n sg : Int) (h1 : 1 ≤ s) (h2 : s ≤ n) : pos s n (sg * ((0 : Nat) : Int)) = s := by
  unfold pos
  have : (s - 1 + sg * ((0 : Nat) : Int)) = s - 1 := by simp
  rw [this, Int.emod_eq_of_lt (by omega) (by omega)]
  omega
theorem pos_lo (s n x : Int) (h : 1 ≤ n) : 1 ≤ pos s n x := by
  unfold pos
  have := Int.emod_nonneg (s - 1 + x) (show n ≠ 0 by omega)
  omega
theorem pos_hi (s n x : Int) (h : 1 ≤ n) : pos s n x ≤ n := by
  unfold pos
  have := Int.emod_lt_of_pos (s - 1 + x) (show 0 < n by omega)
  omega
/-- One step of 'side': by 'step' places, which is sg places round the ring. -/
theorem pos_step (s n sg step c : Int) (k : Nat) (hs : step = sg + n * c) :
    (pos s n (sg * (k : Int)) - 1 + step) % n + 1 = pos s n (sg * ((k : Int) + 1)) := by
  unfold pos
  have e1 : (s - 1 + sg * (k : Int)) % n + 1 - 1 + step = (s - 1 + sg * (k : Int)) % n + step := by omega
  have e2 : s - 1 + sg * ((k : Int) + 1) = s - 1 + sg * (k : Int) + sg := by rw [Int.mul_add]; omega
  rw [e1, e2, Int.emod_add_emod, hs, ← Int.add_assoc, Int.add_mul_emod_self_left]
/-- The law's own reckoning: Go's remainder, made positive. -/
theorem wrap_pos (s n x : Int) (hn : 1 ≤ n) : ((s + x - 1).tmod n + n) % n + 1 = pos s n x := by
  unfold pos
  have e : s - 1 + x = s + x - 1 := by omega
  rw [e]
  generalize s + x - 1 = y
  rcases Int.lt_or_le y 0 with h | h
  · have h1 : y.tmod n = - ((-y).tmod n) := by rw [Int.neg_tmod]; omega
    rw [h1, Int.tmod_eq_emod_of_nonneg (by omega)]
    have h2 := Int.emod_nonneg (-y) (show n ≠ 0 by omega)
    have h3 := Int.emod_lt_of_pos (-y) (show 0 < n by omega)
    have h4 : -((-y) % n) + n = y + n * ((-y) / n + 1) := by
      have := Int.mul_ediv_add_emod (-y) n
      rw [Int.mul_add]
      omega
    rw [h4, Int.add_mul_emod_self_left]
  · rw [Int.tmod_eq_emod_of_nonneg h, Int.add_emod_right, Int.emod_emod]

theorem addNew_len (l : List Int) (j : Int) : (addNew l j).length ≤ l.length + 1 := by
  unfold addNew; split <;> simp
theorem addNew_has (l : List Int) (j : Int) (h : l.contains j = true) : addNew l j = l := by unfold addNew; rw [if_pos h]
theorem addNew_not (l : List Int) (j : Int) (h : l.contains j = false) : addNew l j = l ++ [j] := by unfold addNew; rw [if_neg (by rw [h]; simp)]

/-- Both ways: up, then down; what was asked lies in the second part. -/
def both (s n : Int) (g : Int → Bool) (l lg : List Int) : List Int × List Int :=
  ring s n (-1) g n.toNat 0 0 (ring s n 1 g n.toNat 0 0 l lg).1 (ring s n 1 g n.toNat 0 0 l lg).2
end Go.Proofs.Ybulkajom.Ring
