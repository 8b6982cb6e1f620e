import Derived.Test.YbulkajpaInit2
import Derived.Deep.WholeRow
/-! Contract of State.Init. -/
namespace Go.Proofs.Ybulkajpa.Init
open Go.RowKit Go.Proofs.Ybulkajpa.Cha Go.Proofs.Ybulkajpa.Stream Go.Proofs.Ybulkajpa.Mem Go.Proofs.Ybulkajpa.Next

/-- The state that a key of 32 bytes begins. -/
def beginK (kb : Nat → Int) : St := begin0 (leN fun j => kb (0 + j)) (leN fun j => kb (8 + j)) (leN fun j => kb (16 + j)) (leN fun j => kb (24 + j))
theorem beginK_ok (kb : Nat → Int) : Ok (beginK kb) := begin_ok _ _ _ _ (leN_lt _) (leN_lt _) (leN_lt _) (leN_lt _)

/-- What stands through the region of Init. -/
structure SI (w0 w : World) (C B : Nat) (kb : Nat → Int) : Prop where
  key : ∀ j, j < 32 → w.cell? ⟨B, j, none⟩ = some (.int .u8 (kb j))
  ch : ∃ τ, CH w C τ
  kept : Kept w0 w [C]
  ne : B ≠ C
theorem SI.drew {w0 w : World} {C B : Nat} {kb : Nat → Int} (h : SI w0 w C B kb) : SI w0 w.drew C B kb := ⟨h.key, h.ch.imp fun _ h => h.drew, h.kept.drew, h.ne⟩
theorem SI.drewN {w0 w : World} {C B : Nat} {kb : Nat → Int} (h : SI w0 w C B kb) (q : Nat) : SI w0 (w.drewN q) C B kb := ⟨h.key, h.ch.imp fun _ h => h.drewN q, h.kept.drewN q, h.ne⟩

theorem le_si {w0 w : World} {C B : Nat} {kb : Nat → Int} {X : Nat → Nat} (HX : Hid (∀ o, (leN fun j => kb (o + j)) = X o)) (h : SI w0 w C B kb) {o n : Nat} (ho : o + 8 ≤ 32) (hn : 8 ≤ n) :
    Calls Yba.prog 27 #[.slice (some ⟨B, o, none⟩) n n] w fun e w' => e = .returned (.int .u64 (X o : Nat)) ∧ SI w0 w' C B kb := by
  rw [← HX.out]
  refine (le_any w B o n n (fun j => kb (o + j)) hn (fun j hj => h.key (o + j) (by omega))).mono ?_
  rintro e w' ⟨rfl, q, rfl⟩
  exact ⟨rfl, h.drewN q⟩
theorem init64_si {w0 w : World} {C B : Nat} {kb : Nat → Int} (a b c d : Nat) (h : SI w0 w C B kb) :
    Calls Yba.prog 26 #[.pointer (some ⟨C, 0, none⟩), .agg #[.int .u64 (a : Int), .int .u64 (b : Int), .int .u64 (c : Int), .int .u64 (d : Int)]] w fun e w' => e = .returned (.tuple #[]) ∧ CH w' C (begin0 a b c d) ∧ SI w0 w' C B kb := by
  obtain ⟨τ, ht⟩ := h.ch
  refine (init64_any w C τ a b c d ht).mono ?_
  rintro e w' ⟨rfl, hc, hk⟩
  exact ⟨rfl, hc, fun j hj => hk.cell (h.key j hj) (by simpa using h.ne), ⟨_, hc⟩, h.kept.trans hk, h.ne⟩

set_option maxHeartbeats 6400000 in
theorem init_any (w : World) (C : Nat) (σ : St) (ks : Array Value) (kb : Nat → Int) (hk : ∀ j, j < 32 → ks[j]? = some (.int .u8 (kb j))) (h : CH w C σ) :
    Calls Yba.prog 22 #[.pointer (some ⟨C, 0, none⟩), .agg ks] w fun e w' => e = .returned (.tuple #[]) ∧ CH w' C (beginK kb) ∧ Kept w w' [C] := by
  have hC := h.lt
  have H0 : SI w (w.alloc (.cells ks 39)) C w.heap.size kb := by
    refine ⟨fun j hj => ?_, ⟨σ, h.kept ((Kept.refl w []).alloc _) (by simp)⟩, (Kept.refl w _).alloc _, by omega⟩
    rw [cell_of_row _ _ j ks 39 (0, 0) (heap_alloc_last w _)]
    exact hk j hj
  go_enter Yba.func22, Yba.ntmps22
  go_wp2
  obtain ⟨X, HX⟩ : ∃ X : Nat → Nat, Hid (∀ o, (leN fun j => kb (o + j)) = X o) := ⟨_, fun _ => rfl⟩
  have HB : Hid (beginK kb = begin0 (X 0) (X 8) (X 16) (X 24)) := by show _ = _; rw [← HX.out, ← HX.out, ← HX.out, ← HX.out]; rfl
  generalize hB : w.heap.size = B at *
  generalize w.alloc (.cells ks 39) = W at *
  clear hk h hC hB
  go_region_held3 (fun w' => SI w w' C B kb) (first | assumption | exact SI.drew (by assumption))
    (first
      | (go_at_call 27; with_reducible refine (le_si HX (by assumption) (by omega) (by omega)).mono ?_; rintro e w' ⟨rfl, hsi⟩)
      | (go_at_call 26; with_reducible refine (init64_si _ _ _ _ (by assumption)).mono ?_; rintro e w' ⟨rfl, hch, hsi⟩))
  go_end0
  rw [HB.out]
  exact ⟨rfl, hch, hsi.kept⟩
end Go.Proofs.Ybulkajpa.Init
