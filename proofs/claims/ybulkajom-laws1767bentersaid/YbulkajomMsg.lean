import Derived.Test.YbulkajomVot
import Derived.Deep.AppendLies
import Derived.Laws.EntriesVeiled
import Derived.Laws.ResultCell
/-! Contracts of Voters.Clone, of the law's closure, of NewVoters. -/
namespace Go.Proofs.Ybulkajom.Msg
open Go.RowKit Go.Proofs.Ybulkajom.Pop Go.Proofs.Ybulkajom.Vot

theorem info40 : (Yba.prog.info? 40).map (fun i => (i.zero, i.size, i.bytes)) = some (some (.agg #[.pointer none, .int .i64 0]), 2, 16) := by kernel_rfl

theorem kept_grown {w w1 : World} {o : Obj} (h : (w.alloc o).grownBy w1 none) : Kept w w1 [] :=
  ⟨h.os, h.tape, h.output, by have := h.size; simp at this; omega, fun k hk _ => (h.block k (by simp; omega) (by simp)).trans (Below.heap_alloc _ _ _ hk)⟩

/-- A row of words that lies in a block of its own. -/
def Row (w : World) (V : Nat) (ws : List Int) : Prop := Reads w V ws ∧ ∃ cur, w.heap[V]? = some (.cells cur 33 (0, 0))

theorem reads_own {w : World} {base C cap : Nat} {ws : List Int} (h : w.ownsRow base 33 1 (.slice (some ⟨C, 0, none⟩) ws.length cap) ws.length (ws.map (Value.int .u64))) : Row w C ws := by
  refine ⟨?_, ?_⟩
  · intro j hj
    have := h.cells (g := C) rfl j (.int .u64 (ws.getD j 0)) (by simp [List.getElem?_eq_getElem hj])
    have hadd : (⟨C, 0, none⟩ : Addr).add j = ⟨C, j, none⟩ := by unfold Addr.add; split <;> simp_all
    rw [← hadd]
    exact this
  · rcases h.2 with ⟨e, _⟩ | ⟨g, c, cur, e, _, hg, _⟩
    · cases e
    · simp only [Value.slice.injEq, Option.some.injEq, Addr.mk.injEq] at e
      obtain ⟨⟨rfl, _⟩, _⟩ := e
      exact ⟨cur, hg⟩

theorem Row.setOther {w : World} {V : Nat} {ws : List Int} (h : Row w V ws) {p : Addr} {u : Value} (hp : V ≠ p.block) : Row (w.setCell p u) V ws := by
  refine ⟨fun j hj => ?_, ?_⟩
  · rw [World.cell?_setCell_other _ _ _ _ (by intro e; rw [e] at hp; exact hp rfl)]; exact h.1 j hj
  · obtain ⟨cur, hc⟩ := h.2
    exact ⟨cur, (Below.heap_setCell _ _ _ _ hp).trans hc⟩
theorem _root_.Go.Proofs.Ybulkajom.Vot.Kept.setNew {a b : World} {S : List Nat} (h : Kept a b S) {p : Addr} (hp : a.heap.size ≤ p.block) (u : Value) : Kept a (b.setCell p u) S :=
  ⟨h.os, h.tape, h.output, by simpa [World.setCell] using h.size, fun i hi hn => (Below.heap_setCell _ _ _ _ (by omega)).trans (h.block i hi hn)⟩

set_option maxHeartbeats 800000 in
theorem clone_any (w : World) (P V : Nat) (ws : List Int) (cap : Nat) (hp : w.cell? ⟨P, 5, none⟩ = some (.slice (some ⟨V, 0, none⟩) ws.length cap)) (hw : Words w V ws) (h0 : 0 < ws.length) (hl : ws.length ≤ 5) :
    Calls Yba.prog 28 #[.pointer (some ⟨P, 5, none⟩)] w fun e w' => ∃ C, ∃ cap', e = .returned (.agg #[.slice (some ⟨C, 0, none⟩) ws.length cap']) ∧ Row w' C ws ∧ w.heap.size ≤ C ∧ C < w'.heap.size ∧ Kept w w' [] := by
  obtain ⟨i0, hi, hz0, hz1, hz2⟩ := info_parts info33
  have hp' : ∀ o, (w.alloc o).cell? ⟨P, 5, none⟩ = some (.slice (some ⟨V, 0, none⟩) ws.length cap) := fun o => by
    rw [World.cell?_alloc_past _ _ _ (World.block_lt_of_cell? w _ hp)]; exact hp
  have hv' : ∀ o j, j < ws.length → (w.alloc o).cell? ⟨V, j, none⟩ = some (.int .u64 (ws.getD j 0)) := fun o j hj => by
    rw [World.cell?_alloc_past _ _ _ hw.lt]; exact hw.cell j hj
  have HV := hide hv'
  clear hv'
  go_enter Yba.func28, Yba.ntmps28
  go_wp2_with (at_builtin; refine wpList_append_lies _ rfl (.const (.slice none 0 0)) (.tmp 6) 42 rfl (w.heap.size + 1) 33 i0 (.int .u64 0) 1 8 Yba.underlying42 hi hz0 hz1 hz2 rfl (by decide) (.slice none 0 0) 0 [] rfl (World.ownsRow_nil _ _ _ _) ⟨V, 0, none⟩ ws.length cap (ws.map (Value.int .u64)) rfl (by simp) ?c1 ?c2 h0 ?c3 ?c4 ?c5 (w.heap.size + 1) (by simp) ?_)
  case c1 =>
    intro j u hu
    have hj : j < ws.length := by have := (List.getElem?_eq_some_iff.1 hu).1; simpa using this
    have hadd : (⟨V, 0, none⟩ : Addr).add j = ⟨V, j, none⟩ := by unfold Addr.add; split <;> simp_all
    rw [hadd, HV.out _ j hj]
    simp [List.getElem?_eq_getElem hj] at hu
    simp [List.getElem?_eq_getElem hj, hu]
  case c2 => intro u hu; simp only [List.mem_map] at hu; obtain ⟨z, _, rfl⟩ := hu; rfl
  case c3 => unfold maxLen; omega
  case c4 => omega
  case c5 => simp
  intro g cap' w1 hown hgrow hat hlt
  have hb1 : w1.heap[w.heap.size]? = some (.cells #[.slice none 0 0] 44 (0, 0)) := (hgrow.block w.heap.size (by simp) (by simp [Value.ownBlock])).trans (heap_alloc_new w _)
  have hc1 := cell_of_one hb1
  have hf1 := free_of_one hb1
  obtain rfl : g = w.heap.size + 1 := by rcases hat with e | e; cases e; exact e
  have HO := hide (reads_own (ws := ws) (by simpa using hown))
  have HK := hide (kept_grown hgrow)
  have hc2 : ∀ u, (w1.setCell ⟨w.heap.size, 0, none⟩ u).cell? ⟨w.heap.size, 0, none⟩ = some u := fun u => cell_of_one (one_setCell hb1)
  clear hown hgrow hat
  go_wp2
  refine bodyPost_ret (v := .agg #[.slice (some ⟨w.heap.size + 1, 0, none⟩) ws.length cap']) (by simp [results, Yba.results28, go_sem, hc2]) rfl ⟨_, _, rfl, HO.out.setOther (by simp), by omega, by simpa using hlt, HK.out.setNew (Nat.le_refl _) _⟩

set_option maxHeartbeats 800000 in
/-- The closure that the law hands to NewProcess: it writes down what is sent. -/
theorem send_any (w : World) (M : Addr) (L : Nat) (cause : Int) (hL : w.heap[L]? = some (.cells #[.slice none 0 0] 35 (0, 0))) :
    Calls Yba.prog 14 #[.pointer (some M), .int .i64 cause, .pointer (some ⟨L, 0, none⟩)] w fun e w' => e = .returned (.tuple #[]) ∧ ∃ G cap, w'.heap[L]? = some (.cells #[.slice (some ⟨G, 0, none⟩) 1 cap] 35 (0, 0)) ∧
      w'.cell? ⟨G, 0, none⟩ = some (.pointer (some M)) ∧ w'.cell? ⟨G, 1, none⟩ = some (.int .i64 cause) ∧ w.heap.size ≤ G ∧ G < w'.heap.size ∧ Kept w w' [L] := by
  obtain ⟨i0, hi, hz0, hz1, hz2⟩ := info_parts info40
  have hlt0 := lt_of_block hL
  have cL := cell_of_one hL
  go_enter Yba.func14, Yba.ntmps14
  go_wp2_with (at_builtin; refine wpList_append_lies _ rfl (.tmp 5) (.tmp 9) 35 rfl w.heap.size 40 i0 (.agg #[.pointer none, .int .i64 0]) 2 16 Yba.underlying35 hi hz0 hz1 hz2 rfl (by decide) (.slice none 0 0) 0 [] rfl (World.ownsRow_nil _ _ _ _) ⟨w.heap.size, 0, none⟩ 1 1 [.pointer (some M), .int .i64 cause] rfl rfl ?c1 ?c2 (by decide) ?c3 ?c4 ?c5 (w.heap.size + 1) (by simp) ?_)
  case c1 =>
    intro j u hu
    match j, hu with
    | 0, hu => simp at hu; subst hu; simp [Addr.add]
    | 1, hu => simp at hu; subst hu; simp [Addr.add]
  case c2 => intro u hu; simp at hu; rcases hu with rfl | rfl <;> rfl
  case c3 => unfold maxLen; omega
  case c4 => omega
  case c5 => simp
  intro g cap' w1 hown hgrow hat hlt
  obtain rfl : g = w.heap.size + 1 := by rcases hat with e | e; cases e; exact e
  have hb1 : w1.heap[L]? = some (.cells #[.slice none 0 0] 35 (0, 0)) := ((hgrow.block L (by simp; omega) (by simp [Value.ownBlock])).trans (Below.heap_alloc _ _ _ hlt0)).trans hL
  have hf1 := free_of_one hb1
  have hc1 := cell_of_one hb1
  have g0 := hown.cells (g := w.heap.size + 1) rfl 0 (.pointer (some M)) rfl
  have g1 := hown.cells (g := w.heap.size + 1) rfl 1 (.int .i64 cause) rfl
  simp [Addr.add] at g0 g1
  have HK := hide (kept_grown hgrow)
  clear hown hgrow hat
  go_wp2
  go_end0
  refine ⟨rfl, _, _, one_setCell hb1, ?_, ?_, by omega, by simpa using hlt, (HK.out.mono (by simp)).setCell (by simp) _⟩
  · rw [World.cell?_setCell_other _ _ _ _ (by have : L ≠ w.heap.size + 1 := (by omega); intro e; injection e with e1; exact this e1)]; exact g0
  · rw [World.cell?_setCell_other _ _ _ _ (by have : L ≠ w.heap.size + 1 := (by omega); intro e; injection e with e1; exact this e1)]; exact g1

theorem words_own {w : World} {base V n : Nat} (h : w.ownsRow base 33 1 (.slice (some ⟨V, 0, none⟩) n n) n (madeCells #[.int .u64 0] n).toList) : Words w V (List.replicate n 0) := by
  rcases h.2 with ⟨e, _⟩ | ⟨g, cap, cur, e, _, hg, _, _, hs, ht⟩
  · cases e
  · simp only [Value.slice.injEq, Option.some.injEq, Addr.mk.injEq] at e
    obtain ⟨⟨rfl, _⟩, _, rfl⟩ := e
    unfold Words
    rw [hg]
    rw [toList_madeCells_one, List.take_of_length_le (by simp; omega)] at ht
    simp only [Option.some.injEq, Obj.cells.injEq, and_true]
    apply Array.toList_inj.1
    rw [ht]
    simp

set_option maxHeartbeats 800000 in
theorem newVoters_any (w : World) (n : Nat) (hn : n ≤ 1000) :
    Calls Yba.prog 23 #[.int .i64 (n : Int)] w fun e w' => ∃ V, e = .returned (.agg #[.slice (some ⟨V, 0, none⟩) (n / 64 + 1) (n / 64 + 1)]) ∧ Words w' V (List.replicate (n / 64 + 1) 0) ∧ w.heap.size ≤ V ∧ Kept w w' [] := by
  obtain ⟨i0, hi, hz0, hz1, hz2⟩ := info_parts info33
  go_enter Yba.func23, Yba.ntmps23
  go_wp2_with (at_make; refine wpList_make_full _ rfl (.tmp 5) (.tmp 5) 42 rfl (w.heap.size + 1) 33 i0 (.int .u64 0) 1 Yba.underlying42 hi hz0 hz1 .i64 .i64 _ _ (n / 64 + 1) rfl rfl ?c1 ?c2 ?c3 ?c4 ?c5 ?_)
  case c1 => simp
  case c2 => simp
  case c3 => rw [hz2]; omega
  case c4 => unfold maxLen; omega
  case c5 => simp
  intro w1 hown hgrow
  have hb1 : w1.heap[w.heap.size]? = some (.cells #[.slice none 0 0] 44 (0, 0)) := (hgrow.block w.heap.size (by simp) (by simp)).trans (heap_alloc_new w _)
  have hc1 := cell_of_one hb1
  have hf1 := free_of_one hb1
  have HO := hide (words_own hown)
  have HK := hide (kept_grown hgrow)
  have hc2 : ∀ u, (w1.setCell ⟨w.heap.size, 0, none⟩ u).cell? ⟨w.heap.size, 0, none⟩ = some u := fun u => cell_of_one (one_setCell hb1)
  clear hown hgrow
  go_wp2
  refine bodyPost_ret (v := .agg #[.slice (some ⟨w.heap.size + 1, 0, none⟩) (n / 64 + 1) (n / 64 + 1)]) (by simp [results, Yba.results23, go_sem, hc2]) rfl ⟨_, rfl, ?_, by omega, HK.out.setNew (Nat.le_refl _) _⟩
  exact (Below.heap_setCell _ _ _ _ (by simp)).trans HO.out
end Go.Proofs.Ybulkajom.Msg
