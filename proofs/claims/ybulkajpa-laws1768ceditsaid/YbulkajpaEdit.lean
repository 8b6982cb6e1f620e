import Derived.Test.YbulkajpaEq
import Derived.Test.YbulkajpaShelf
import Derived.OneCell
import Derived.WalkSmall
/-! The walk of LawS1768CEdit. -/
namespace Go.Proofs.Ybulkajpa.Edit
open Go.RowKit Go.Proofs.Ybulkajpa.Eq

/-- A row of strings in a block of the call's own. -/
def OwnS (w : World) (B : Nat) (bo : Option Addr) (len : Nat) (F : Nat → ByteArray) : Prop :=
  len = 0 ∨ ∃ g, bo = some ⟨g, 0, none⟩ ∧ B ≤ g ∧ (∀ j, j < len → w.cell? ⟨g, j, none⟩ = some (.string (F j))) ∧ ∀ j, w.frozen? ⟨g, j, none⟩ = false

theorem OwnS.strs {w : World} {B : Nat} {bo : Option Addr} {len : Nat} {F : Nat → ByteArray} (h : OwnS w B bo len F) : Strs w bo len F := by
  rcases h with h | ⟨g, h1, _, h2, _⟩
  · exact .inl h
  · exact .inr ⟨g, 0, h1, fun j hj => by rw [Nat.zero_add]; exact h2 j hj⟩
theorem Strs.below {w w' : World} {ao : Option Addr} {len : Nat} {F : Nat → ByteArray} (h : Strs w ao len F) (hb : Below w.heap.size w w') : Strs w' ao len F := by
  rcases h with h | ⟨b, off, h1, h2⟩
  · exact .inl h
  · exact .inr ⟨b, off, h1, fun j hj => by rw [← h2 j hj]; exact hb.cell (World.block_lt_of_cell? w _ (h2 j hj))⟩
theorem OwnS.drewN {w : World} {B : Nat} {bo : Option Addr} {len : Nat} {F : Nat → ByteArray} (h : OwnS w B bo len F) (q : Nat) : OwnS (w.drewN q) B bo len F := h

theorem own_of {w : World} {B n : Nat} {v : Value} {F : Nat → ByteArray} (h : w.ownsRow B 9 1 v n (((List.range n).map F).map Value.string)) : ∃ bo cb, v = .slice bo n cb ∧ OwnS w B bo n F := by
  rcases h.2 with ⟨rfl, rfl⟩ | ⟨g, cap, cur, rfl, hb, hg, _⟩
  · exact ⟨none, 0, rfl, .inl rfl⟩
  · refine ⟨_, _, rfl, .inr ⟨g, rfl, hb, fun j hj => ?_, fun j => by simp [World.frozen?, hg]⟩⟩
    have := h.cells (g := g) rfl j (.string (F j)) (by simp [hj])
    have hadd : (⟨g, 0, none⟩ : Addr).add j = ⟨g, j, none⟩ := by unfold Addr.add; split <;> simp_all
    rw [← hadd]
    exact this

theorem clone_any (w : World) (ao : Option Addr) (len cap : Nat) (F : Nat → ByteArray) (hn : ao = none → len = 0) (h : Strs w ao len F) (hl : len ≤ 1024) :
    Calls Yba.prog 16 #[.slice ao len cap] w fun e w' => ∃ bo cb, e = .returned (.slice bo len cb) ∧ OwnS w' w.heap.size bo len F ∧ Below w.heap.size w w' := by
  cases ao with
  | none =>
    refine (Yba.slices_Clone_string_nil len cap w).mono ?_
    rintro e w' ⟨rfl, rfl⟩
    have := hn rfl
    subst this
    exact ⟨none, 0, rfl, .inl rfl, Below.refl _ _⟩
  | some x =>
    by_cases h0 : len = 0
    · subst h0
      refine (Yba.slices_Clone_string_zero x cap w).mono ?_
      rintro e w' ⟨v', rfl, hown, _, hb⟩
      obtain ⟨bo, cb, rfl, ho⟩ := own_of (F := F) (n := 0) (by simpa using hown)
      exact ⟨bo, cb, rfl, ho, hb⟩
    · rcases h with h | ⟨b, off, h1, h2⟩
      · exact absurd h h0
      · injection h1 with h1
        subst h1
        have := Yba.slices_Clone_string b off len cap ((List.range len).map F) w (by simp) (by omega) (fun j hj => by
          have hj' : j < len := by simpa using hj
          rw [h2 j hj']
          simp [hj'])
        refine this.mono ?_
        rintro e w' ⟨v', rfl, hown, _, hb⟩
        rw [List.take_of_length_le (by simp)] at hown
        obtain ⟨bo, cb, rfl, ho⟩ := own_of hown
        exact ⟨bo, cb, rfl, ho, hb⟩

/-- F with s at place i. -/
def upd (F : Nat → ByteArray) (i : Nat) (s : ByteArray) : Nat → ByteArray := fun j => if j = i then s else F j
theorem eqS_self (n : Nat) (A : Nat → ByteArray) : eqS n n A A = true := eqS_all (fun j _ => by simp)
theorem eqS_upd (n i : Nat) (A : Nat → ByteArray) (s : ByteArray) (hi : i < n) : eqS n n A (upd A i s) = (s.toList == (A i).toList) := by
  cases h : (s.toList == (A i).toList)
  · refine eqS_at hi ?_
    rw [beq_eq_false_iff_ne] at h ⊢
    intro e
    exact h (by simpa [upd] using e.symm)
  · refine eqS_all (fun j _ => ?_)
    rw [beq_iff_eq] at h
    by_cases hj : j = i
    · subst hj; simp [upd, h]
    · simp [upd, hj]
theorem upd_eqS (n i : Nat) (A : Nat → ByteArray) (s : ByteArray) (hi : i < n) : eqS n n (upd A i s) A = (s.toList == (A i).toList) := by
  cases h : (s.toList == (A i).toList)
  · refine eqS_at hi ?_
    rw [beq_eq_false_iff_ne] at h ⊢
    intro e
    exact h (by simpa [upd] using e)
  · refine eqS_all (fun j _ => ?_)
    rw [beq_iff_eq] at h
    by_cases hj : j = i
    · subst hj; simp [upd, h]
    · simp [upd, hj]
theorem own_upd {w : World} {B g len : Nat} {F : Nat → ByteArray} {s : ByteArray} {i : Nat} (hi : i < len) (hB : B ≤ g) (hc : ∀ j, j < len → w.cell? ⟨g, j, none⟩ = some (.string (F j))) (hf : ∀ j, w.frozen? ⟨g, j, none⟩ = false) :
    OwnS (w.setCell ⟨g, i, none⟩ (.string s)) B (some ⟨g, 0, none⟩) len (upd F i s) := by
  refine .inr ⟨g, rfl, hB, fun j hj => ?_, fun j => ?_⟩
  · by_cases e : j = i
    · subst e
      rw [World.cell?_setCell_same _ _ _ (hc j hj)]
      simp [upd]
    · rw [World.cell?_setCell_other _ _ _ _ (by intro h; injection h with _ h2; exact e h2.symm), hc j hj]
      simp [upd, e]
  · rw [World.frozen?_setCell]; exact hf j
end Go.Proofs.Ybulkajpa.Edit
