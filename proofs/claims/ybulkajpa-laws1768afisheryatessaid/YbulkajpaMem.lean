import Derived.Test.YbulkajpaStream
import Derived.Test.YbulkajpaProg
import Derived.WalkKit
import Derived.Deep.Draws
import Derived.OneCell
import Derived.Laws.Externs
import Derived.Laws.IdiomCopy
import Derived.Laws.Cells
/-! The stream's state in memory; the entry 'block' as the model has it. -/
namespace Go.Proofs.Ybulkajpa.Mem
open Go.RowKit Go.Proofs.Ybulkajpa.Cha Go.Proofs.Ybulkajpa.Stream

theorem hide {p : Prop} (h : p) : Hid p := h

/-- What may have turned: the blocks in S, new ones, the count of draws. -/
structure Kept (w w' : World) (S : List Nat) : Prop where
  os : w'.os = w.os
  tape : w'.tape = w.tape
  output : w'.output = w.output
  size : w.heap.size ≤ w'.heap.size
  block : ∀ k, k < w.heap.size → k ∉ S → w'.heap[k]? = w.heap[k]?

theorem Kept.refl (w : World) (S : List Nat) : Kept w w S := ⟨rfl, rfl, rfl, Nat.le_refl _, fun _ _ _ => rfl⟩
theorem Kept.andThen {a b c : World} {S T : List Nat} (h : Kept a b S) (k : Kept b c T) (hT : ∀ x ∈ T, x ∈ S ∨ a.heap.size ≤ x) : Kept a c S :=
  ⟨k.os.trans h.os, k.tape.trans h.tape, k.output.trans h.output, Nat.le_trans h.size k.size, fun i hi hn => (k.block i (by have := h.size; omega) (fun hm => by rcases hT i hm with e | e; exact hn e; omega)).trans (h.block i hi hn)⟩
theorem Kept.trans {a b c : World} {S : List Nat} (h : Kept a b S) (k : Kept b c S) : Kept a c S := h.andThen k (fun _ hx => .inl hx)
theorem Kept.drewN {a b : World} {S : List Nat} (h : Kept a b S) (q : Nat) : Kept a (b.drewN q) S := ⟨h.os, h.tape, h.output, h.size, h.block⟩
theorem Kept.drew {a b : World} {S : List Nat} (h : Kept a b S) : Kept a b.drew S := ⟨h.os, h.tape, h.output, h.size, h.block⟩
theorem Kept.setCell {a b : World} {S : List Nat} (h : Kept a b S) {p : Addr} (hp : p.block ∈ S ∨ a.heap.size ≤ p.block) (u : Value) : Kept a (b.setCell p u) S :=
  ⟨h.os, h.tape, h.output, by simpa [World.setCell] using h.size, fun i hi hn => (Below.heap_setCell _ _ _ _ (fun e => by rcases hp with hp | hp; exact hn (by rw [e]; exact hp); omega)).trans (h.block i hi hn)⟩
theorem Kept.alloc {a b : World} {S : List Nat} (h : Kept a b S) (o : Obj) : Kept a (b.alloc o) S :=
  ⟨h.os, h.tape, h.output, by have := h.size; simp; omega, fun i hi hn => (Below.heap_alloc _ _ _ (by have := h.size; omega)).trans (h.block i hi hn)⟩
theorem Kept.below {a b : World} {S : List Nat} (h : Kept a b S) {B : Nat} (hB : B ≤ a.heap.size) (hs : ∀ k ∈ S, B ≤ k) : Below B a b :=
  ⟨h.os, h.tape, h.output, h.size, fun i hi => h.block i (by omega) (fun hm => by have := hs i hm; omega)⟩
theorem Kept.cell {a b : World} {S : List Nat} (h : Kept a b S) {p : Addr} {v : Value} (hp : a.cell? p = some v) (hn : p.block ∉ S) : b.cell? p = some v :=
  (World.cell?_of_block (w := a) (h.block p.block (World.block_lt_of_cell? a p hp) hn)).trans hp
theorem Kept.setCells {a : World} {S : List Nat} (V : Nat) (hV : V ∈ S) : ∀ (vs : List Value) (o : Nat) (b : World), Kept a b S → Kept a (b.setCells V o vs) S
  | [], _, _, h => h
  | v :: r, o, _, h => Kept.setCells V hV r (o + 1) _ (h.setCell (p := ⟨V, o, none⟩) (.inl hV) v)

/-- Block C is a ChaCha8 in the state σ. -/
structure CH (w : World) (C : Nat) (σ : St) : Prop where
  blk : ∃ cs, w.heap[C]? = some (.cells cs 53 (0, 0))
  buf : ∀ k, k < 32 → w.cell? ⟨C, k, none⟩ = some (.int .u64 (σ.buf.getD k 0 : Nat))
  seed : ∀ j, j < 4 → w.cell? ⟨C, 32 + j, none⟩ = some (.int .u64 (σ.seed.getD j 0 : Nat))
  i : w.cell? ⟨C, 36, none⟩ = some (.int .u32 (σ.i : Nat))
  n : w.cell? ⟨C, 37, none⟩ = some (.int .u32 (σ.n : Nat))
  c : w.cell? ⟨C, 38, none⟩ = some (.int .u32 (σ.c : Nat))

theorem CH.free {w : World} {C : Nat} {σ : St} (h : CH w C σ) (k : Nat) : w.frozen? ⟨C, k, none⟩ = false := by
  obtain ⟨cs, hc⟩ := h.blk
  simp [World.frozen?, hc]
theorem CH.lt {w : World} {C : Nat} {σ : St} (h : CH w C σ) : C < w.heap.size := World.block_lt_of_cell? w _ h.i
theorem CH.kept {w w' : World} {C : Nat} {σ : St} {S : List Nat} (h : CH w C σ) (hk : Kept w w' S) (hn : C ∉ S) : CH w' C σ := by
  have e : w'.heap[C]? = w.heap[C]? := hk.block C h.lt hn
  have ec : ∀ k, w'.cell? ⟨C, k, none⟩ = w.cell? ⟨C, k, none⟩ := fun k => World.cell?_of_block (a := ⟨C, k, none⟩) e
  obtain ⟨cs, hc⟩ := h.blk
  exact ⟨⟨cs, e.trans hc⟩, fun k hk => (ec k).trans (h.buf k hk), fun j hj => (ec _).trans (h.seed j hj), (ec _).trans h.i, (ec _).trans h.n, (ec _).trans h.c⟩

theorem CH.drew {w : World} {C : Nat} {σ : St} (h : CH w C σ) : CH w.drew C σ := ⟨h.blk, h.buf, h.seed, h.i, h.n, h.c⟩
theorem CH.drewN {w : World} {C : Nat} {σ : St} (h : CH w C σ) (q : Nat) : CH (w.drewN q) C σ := ⟨h.blk, h.buf, h.seed, h.i, h.n, h.c⟩

theorem blk_setCell {w : World} {C k : Nat} {u : Value} (h : ∃ cs, w.heap[C]? = some (.cells cs 53 (0, 0))) : ∃ cs, (w.setCell ⟨C, k, none⟩ u).heap[C]? = some (.cells cs 53 (0, 0)) := by
  obtain ⟨cs, hc⟩ := h
  have hlt := lt_of_block hc
  have h' : w.heap[C] = .cells cs 53 (0, 0) := by simpa [Array.getElem?_eq_getElem hlt] using hc
  refine ⟨cs.setIfInBounds k u, ?_⟩
  show (w.heap.modify C _)[C]? = _
  rw [Array.getElem?_eq_getElem (by simpa using hlt), Array.getElem_modify_self, h']
  rfl
theorem blk_setCells {C : Nat} : ∀ (vs : List Value) (o : Nat) (w : World), (∃ cs, w.heap[C]? = some (.cells cs 53 (0, 0))) → ∃ cs, (w.setCells C o vs).heap[C]? = some (.cells cs 53 (0, 0))
  | [], _, _, h => h
  | _ :: r, o, _, h => blk_setCells r (o + 1) _ (blk_setCell h)
theorem cell_other {w : World} {C k j : Nat} {u : Value} (h : k ≠ j) : (w.setCell ⟨C, k, none⟩ u).cell? ⟨C, j, none⟩ = w.cell? ⟨C, j, none⟩ :=
  World.cell?_setCell_other _ _ _ _ (by intro e; injection e with _ e2; exact h e2)
theorem CH.setI {w : World} {C : Nat} {σ : St} (h : CH w C σ) (x : Nat) : CH (w.setCell ⟨C, 36, none⟩ (.int .u32 (x : Int))) C { σ with i := x } :=
  ⟨blk_setCell h.blk, fun k hk => (cell_other (by omega)).trans (h.buf k hk), fun j hj => (cell_other (by omega)).trans (h.seed j hj), World.cell?_setCell_same _ _ _ h.i, (cell_other (by omega)).trans h.n, (cell_other (by omega)).trans h.c⟩
theorem CH.setN {w : World} {C : Nat} {σ : St} (h : CH w C σ) (x : Nat) : CH (w.setCell ⟨C, 37, none⟩ (.int .u32 (x : Int))) C { σ with n := x } :=
  ⟨blk_setCell h.blk, fun k hk => (cell_other (by omega)).trans (h.buf k hk), fun j hj => (cell_other (by omega)).trans (h.seed j hj), (cell_other (by omega)).trans h.i, World.cell?_setCell_same _ _ _ h.n, (cell_other (by omega)).trans h.c⟩
theorem CH.setC {w : World} {C : Nat} {σ : St} (h : CH w C σ) (x : Nat) : CH (w.setCell ⟨C, 38, none⟩ (.int .u32 (x : Int))) C { σ with c := x } :=
  ⟨blk_setCell h.blk, fun k hk => (cell_other (by omega)).trans (h.buf k hk), fun j hj => (cell_other (by omega)).trans (h.seed j hj), (cell_other (by omega)).trans h.i, (cell_other (by omega)).trans h.n, World.cell?_setCell_same _ _ _ h.c⟩
theorem CH.setSeed {w : World} {C : Nat} {σ : St} (h : CH w C σ) (a b c d : Nat) : CH ((((w.setCell ⟨C, 32, none⟩ (.int .u64 (a : Int))).setCell ⟨C, 33, none⟩ (.int .u64 (b : Int))).setCell ⟨C, 34, none⟩ (.int .u64 (c : Int))).setCell ⟨C, 35, none⟩ (.int .u64 (d : Int))) C { σ with seed := #[a, b, c, d] } := by
  refine ⟨blk_setCell (blk_setCell (blk_setCell (blk_setCell h.blk))), fun k hk => ?_, fun j hj => ?_, ?_, ?_, ?_⟩
  · rw [cell_other (by omega), cell_other (by omega), cell_other (by omega), cell_other (by omega)]; exact h.buf k hk
  · rcases (show j = 0 ∨ j = 1 ∨ j = 2 ∨ j = 3 by omega) with rfl | rfl | rfl | rfl
    · rw [cell_other (by omega), cell_other (by omega), cell_other (by omega)]; exact World.cell?_setCell_same _ _ _ (h.seed 0 (by omega))
    · rw [cell_other (by omega), cell_other (by omega)]; exact World.cell?_setCell_same _ _ _ ((cell_other (by omega)).trans (h.seed 1 (by omega)))
    · rw [cell_other (by omega)]; exact World.cell?_setCell_same _ _ _ ((cell_other (by omega)).trans ((cell_other (by omega)).trans (h.seed 2 (by omega))))
    · exact World.cell?_setCell_same _ _ _ ((cell_other (by omega)).trans ((cell_other (by omega)).trans ((cell_other (by omega)).trans (h.seed 3 (by omega)))))
  · rw [cell_other (by omega), cell_other (by omega), cell_other (by omega), cell_other (by omega)]; exact h.i
  · rw [cell_other (by omega), cell_other (by omega), cell_other (by omega), cell_other (by omega)]; exact h.n
  · rw [cell_other (by omega), cell_other (by omega), cell_other (by omega), cell_other (by omega)]; exact h.c
/-- The values of a block's words. -/
def vals (l : List Nat) : List Value := l.map fun (x : Nat) => .int .u64 (x : Int)
theorem CH.setBuf {w : World} {C : Nat} {σ : St} (h : CH w C σ) (l : List Nat) (hl : l.length = 32) : CH (w.setCells C 0 (vals l)) C { σ with buf := l } := by
  have hv : (vals l).length = 32 := by simp [vals, hl]
  have out : ∀ k, 32 ≤ k → (w.setCells C 0 (vals l)).cell? ⟨C, k, none⟩ = w.cell? ⟨C, k, none⟩ := fun k hk => World.cell?_setCells_out C _ _ _ _ (fun _ _ => .inr (by rw [hv]; omega))
  refine ⟨blk_setCells _ _ _ h.blk, fun k hk => ?_, fun j hj => (out _ (by omega)).trans (h.seed j hj), (out _ (by omega)).trans h.i, (out _ (by omega)).trans h.n, (out _ (by omega)).trans h.c⟩
  have := World.cell?_setCells_in C (vals l) 0 w (fun j hj => by rw [Nat.zero_add, h.buf j (by omega)]; rfl) k (by omega)
  rw [Nat.zero_add] at this
  rw [this]
  simp [vals, hl, hk]
theorem seed_eq {s : Array Nat} (h : s.size = 4) : s = #[s.getD 0 0, s.getD 1 0, s.getD 2 0, s.getD 3 0] := by
  obtain ⟨l⟩ := s
  match l, h with
  | [a, b, c, d], _ => simp

theorem find_block : Extern.find Yba.f25 = some Extern.Chacha8Block.block := by rfl
theorem next_block : Extern.findNext Yba.f25 = none := by rfl

theorem block_def (seed buf counter : Value) : Extern.Chacha8Block.block #[seed, buf, counter] = (do
    let s ← (← loadCells (← asAddr seed) 4).mapM fun c => do pure (← asInt c).toNat
    let n := (← asInt counter).toNat
    storeCells (← asAddr buf) ((List.range 32).map fun k => .int .u64 (Int.ofNat (word (Stream.keyOf s) n (2 * k) + word (Stream.keyOf s) n (2 * k + 1) * Extern.Chacha8Block.m32)))
    pure (.tuple #[])) := by
  rfl
theorem mapM4 (g : Value → Sem Nat) (v0 v1 v2 v3 : Value) (x0 x1 x2 x3 : Nat) (h0 : g v0 = pure x0) (h1 : g v1 = pure x1) (h2 : g v2 = pure x2) (h3 : g v3 = pure x3) : (#[v0, v1, v2, v3].mapM g) = pure #[x0, x1, x2, x3] := by
  rw [show #[v0, v1, v2, v3] = [v0, v1, v2, v3].toArray from rfl, List.mapM_toArray]
  simp only [List.mapM_cons, List.mapM_nil, h0, h1, h2, h3, pure_bind, map_pure]
theorem vals_eq (s : Array Nat) (n : Nat) : ((List.range 32).map fun k => Value.int .u64 (Int.ofNat (word (Stream.keyOf s) n (2 * k) + word (Stream.keyOf s) n (2 * k + 1) * Extern.Chacha8Block.m32))) = vals (blockOut s n) := by
  unfold vals blockOut
  rw [List.map_map]
  rfl
theorem asInt_nat (k : IntKind) (x : Nat) : (do pure (← asInt (.int k (x : Int))).toNat : Sem Nat) = pure x := rfl

theorem block_entry (w : World) (C : Nat) (a b c d ctr : Nat) (h0 : w.cell? ⟨C, 32, none⟩ = some (.int .u64 (a : Int))) (h1 : w.cell? ⟨C, 33, none⟩ = some (.int .u64 (b : Int))) (h2 : w.cell? ⟨C, 34, none⟩ = some (.int .u64 (c : Int))) (h3 : w.cell? ⟨C, 35, none⟩ = some (.int .u64 (d : Int)))
    (hb : ∀ j, j < 32 → (w.cell? ⟨C, j, none⟩).isSome = true) (hf : ∀ j, w.frozen? ⟨C, j, none⟩ = false) :
    (Extern.Chacha8Block.block #[.pointer (some ⟨C, 32, none⟩), .pointer (some ⟨C, 0, none⟩), .int .u32 (ctr : Int)]).run Yba.prog w = .ok (.tuple #[]) (w.setCells C 0 (vals (blockOut #[a, b, c, d] ctr))) := by
  have hadd : ∀ o j, (⟨C, o, none⟩ : Addr).add j = ⟨C, o + j, none⟩ := fun o j => by unfold Addr.add; split <;> simp_all
  have hl := run_loadCells_list (P := Yba.prog) (w := w) ⟨C, 32, none⟩ [.int .u64 (a : Int), .int .u64 (b : Int), .int .u64 (c : Int), .int .u64 (d : Int)] (by
    intro j v hj
    rw [hadd]
    match j, hj with
    | 0, hj => simp at hj; subst hj; exact h0
    | 1, hj => simp at hj; subst hj; exact h1
    | 2, hj => simp at hj; subst hj; exact h2
    | 3, hj => simp at hj; subst hj; exact h3)
  have hst := run_storeCells_cells (P := Yba.prog) C 0 (vals (blockOut #[a, b, c, d] ctr)) 0 w (fun j hj => by
    have hj' : j < 32 := by simpa [vals, block_len] using hj
    rw [show 0 + 0 + j = j by omega]
    exact hb j hj') (fun j _ => hf _) (by
    intro v hv
    simp only [vals, List.mem_map] at hv
    obtain ⟨x, _, rfl⟩ := hv
    rfl)
  simp only [List.length_cons, List.length_nil] at hl
  rw [block_def]
  have hm := mapM4 (fun c => do pure (← asInt c).toNat) (.int .u64 (a : Int)) (.int .u64 (b : Int)) (.int .u64 (c : Int)) (.int .u64 (d : Int)) a b c d (asInt_nat _ _) (asInt_nat _ _) (asInt_nat _ _) (asInt_nat _ _)
  simp only [vals_eq, asAddr, pure_bind, Sem.run_bind, Sem.run_pure, Result.andThen, hl, hm]
  simp only [asInt, asIntOf, pure_bind, Sem.run_pure, Int.toNat_natCast, hst]

theorem block_run (w : World) (C : Nat) (σ : St) (ctr : Nat) (hs : σ.seed.size = 4) (h : CH w C σ) :
    (callFunc 25 #[.pointer (some ⟨C, 32, none⟩), .pointer (some ⟨C, 0, none⟩), .int .u32 (ctr : Int)]).run Yba.prog w = .ok (.value (.tuple #[])) (w.setCells C 0 (vals (blockOut σ.seed ctr))) := by
  rw [run_callFunc_extern Yba.func25 (by kernel_rfl) rfl next_block find_block,
    block_entry w C (σ.seed.getD 0 0) (σ.seed.getD 1 0) (σ.seed.getD 2 0) (σ.seed.getD 3 0) ctr (h.seed 0 (by omega)) (h.seed 1 (by omega)) (h.seed 2 (by omega)) (h.seed 3 (by omega)) (fun j hj => by rw [h.buf j hj]; rfl) (fun j => h.free j), ← seed_eq hs]
  rfl
end Go.Proofs.Ybulkajpa.Mem
