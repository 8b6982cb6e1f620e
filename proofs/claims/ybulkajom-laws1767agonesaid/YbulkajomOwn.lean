import Derived.WalkKit
import Derived.Deep.Draws
import Derived.Deep.AppendLies
import Derived.Laws.AppendOwnNone
import Derived.Test.YbulkajomShelf
/-! slices.Contains and slices.Equal at rows of ints that the call itself owns; small laws on such rows. -/
namespace Go.Proofs.Ybulkajom.Own
open Go.RowKit

theorem hide {p : Prop} (h : p) : Hid p := h

/-- The value v owns the row of ints l, from block 'base' on. -/
def Owns (base : Nat) (w : World) (v : Value) (l : List Int) : Prop := w.ownsRow base 3 1 v l.length (l.map (Value.int .i64))

theorem Owns.shape {base : Nat} {w : World} {v : Value} {l : List Int} (h : Owns base w v l) :
    (v = .slice none 0 0 ∧ l = []) ∨ ∃ g cap, v = .slice (some ⟨g, 0, none⟩) l.length cap ∧ base ≤ g ∧ g < w.heap.size ∧ ∀ j, j < l.length → w.cell? ⟨g, 0 + j, none⟩ = some (.int .i64 (l.getD j 0)) := by
  rcases h.2 with ⟨hv, hn⟩ | ⟨g, cap, cur, hv, hb, hg, _⟩
  · exact .inl ⟨hv, List.eq_nil_of_length_eq_zero hn⟩
  · refine .inr ⟨g, cap, hv, hb, (Array.getElem?_eq_some_iff.1 hg).1, fun j hj => ?_⟩
    have := World.ownsRow.cells h (g := g) (by rw [hv]; rfl) j (.int .i64 (l.getD j 0)) (by simp [List.getElem?_eq_getElem hj])
    have hadd : (⟨g, 0, none⟩ : Addr).add j = ⟨g, 0 + j, none⟩ := by unfold Addr.add; split <;> simp_all
    rw [← hadd]
    exact this

theorem Owns.below {base : Nat} {w w' : World} {v : Value} {l : List Int} (h : Owns base w v l) {B : Nat} (hb : Below B w w') (hs : w.heap.size ≤ B) : Owns base w' v l :=
  World.ownsRow.kept (row := none) h ⟨hb.os, hb.tape, hb.output, hb.size, fun k hk _ => hb.block k (by omega)⟩ (by cases v.ownBlock <;> simp)
theorem Owns.drewN {base : Nat} {w : World} {v : Value} {l : List Int} (h : Owns base w v l) (q : Nat) : Owns base (w.drewN q) v l := h
theorem Owns.rebase {base base' : Nat} {w : World} {v : Value} {l : List Int} (h : Owns base w v l) (hb : base' ≤ base) : Owns base' w v l := by
  refine ⟨h.1, ?_⟩
  rcases h.2 with h2 | ⟨g, cap, cur, hv, hg, r⟩
  · exact .inl h2
  · exact .inr ⟨g, cap, cur, hv, by omega, r⟩
theorem Owns.nil (base : Nat) (w : World) : Owns base w (.slice none 0 0) [] := World.ownsRow_nil _ _ _ _

theorem contains_own {base : Nat} {w : World} {v : Value} {l : List Int} (x : Int) (h : Owns base w v l) (hl : l.length ≤ 1000000) :
    Calls Yba.prog 10 #[v, .int .i64 x] w fun e w' => e = .returned (.bool (l.contains x)) ∧ w' = w := by
  rcases h.shape with ⟨rfl, rfl⟩ | ⟨g, cap, rfl, _, _, hc⟩
  · exact Yba.slices_Contains_int_empty none 0 x w
  · have := Yba.slices_Contains_int g 0 l.length cap l x w (Nat.le_refl _) (by omega) hc
    rwa [List.take_length] at this

theorem equal_own {base base' : Nat} {w : World} {v u : Value} {l m : List Int} (h : Owns base w v l) (h' : Owns base' w u m) (hl : l.length ≤ 1000000) (hm : m.length ≤ 1000000) :
    Calls Yba.prog 11 #[v, u] w fun e w' => e = .returned (.bool (l == m)) ∧ ∃ q, w' = w.drewN q := by
  rcases h.shape with ⟨rfl, rfl⟩ | ⟨g, cap, rfl, _, _, hc⟩
  · obtain ⟨a2, d, hu⟩ : ∃ a2 d, u = .slice a2 m.length d := by
      rcases h'.shape with ⟨rfl, rfl⟩ | ⟨g, cap, rfl, _⟩
      · exact ⟨none, 0, rfl⟩
      · exact ⟨_, _, rfl⟩
    rw [hu]
    refine (Yba.slices_Equal_int_empty none a2 0 m.length d w (by omega)).mono ?_
    rintro e w' ⟨rfl, rfl⟩
    refine ⟨?_, 0, rfl⟩
    cases m <;> simp
  · rcases h'.shape with ⟨rfl, rfl⟩ | ⟨g2, cap2, rfl, _, _, hc2⟩
    · by_cases e : l.length = 0
      · have hl0 : l = [] := List.eq_nil_of_length_eq_zero e
        subst hl0
        refine (Yba.slices_Equal_int_empty _ none cap 0 0 w (by omega)).mono ?_
        rintro e w' ⟨rfl, rfl⟩
        exact ⟨rfl, 0, rfl⟩
      · refine (Yba.slices_Equal_int_lens _ none l.length cap 0 0 w e).mono ?_
        rintro e w' ⟨rfl, rfl⟩
        refine ⟨?_, 0, rfl⟩
        cases l <;> simp_all
    · have := Yba.slices_Equal_int g 0 l.length cap g2 0 m.length cap2 l m w (Nat.le_refl _) (Nat.le_refl _) (by omega) (by omega) hc hc2
      rwa [List.take_length, List.take_length] at this
end Go.Proofs.Ybulkajom.Own
