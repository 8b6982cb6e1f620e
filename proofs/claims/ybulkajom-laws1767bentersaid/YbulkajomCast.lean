import Derived.Test.YbulkajomProc
/-! The contract of Process.broadcast. -/
namespace Go.Proofs.Ybulkajom.Cast
open Go.RowKit Go.Proofs.Ybulkajom.Pop Go.Proofs.Ybulkajom.Vot Go.Proofs.Ybulkajom.Msg Go.Proofs.Ybulkajom.Proc

/-- The log holds just one entry: the message in block M, sent with this cause. -/
structure Sent (w : World) (L G : Nat) (M : Nat) (cause : Int) : Prop where
  var : ∃ cap, w.heap[L]? = some (.cells #[.slice (some ⟨G, 0, none⟩) 1 cap] 35 (0, 0))
  c0 : w.cell? ⟨G, 0, none⟩ = some (.pointer (some ⟨M, 0, none⟩))
  c1 : w.cell? ⟨G, 1, none⟩ = some (.int .i64 cause)
/-- The message in block M. -/
def Mess (w : World) (M C m cap : Nat) (inst round phase : Int) (s : ByteArray) (mr mp : Int) : Prop :=
  w.heap[M]? = some (.cells #[.int .u64 inst, .int .i64 round, .int .i64 phase, .slice (some ⟨C, 0, none⟩) m cap, .string s, .int .i64 mr, .int .i64 mp] 56 (0, 0))

section
variable {w w' : World} {P V m : Nat} {id n inst round phase : Int} {s : ByteArray} {mr mp : Int} {dec : Bool} {L : Nat}
theorem pc_of (h : Proc w P V m id n inst round phase s mr mp dec L) :
    w.cell? ⟨P, 2, none⟩ = some (.int .u64 inst) ∧ w.cell? ⟨P, 3, none⟩ = some (.int .i64 round) ∧ w.cell? ⟨P, 4, none⟩ = some (.int .i64 phase) ∧ w.cell? ⟨P, 6, none⟩ = some (.string s) ∧ w.cell? ⟨P, 7, none⟩ = some (.int .i64 mr) ∧ w.cell? ⟨P, 8, none⟩ = some (.int .i64 mp) ∧
      w.cell? ⟨P, 10, none⟩ = some (.func (.func 14) #[] #[.pointer (some ⟨L, 0, none⟩)]) :=
  ⟨cell_at h 2, cell_at h 3, cell_at h 4, cell_at h 6, cell_at h 7, cell_at h 8, cell_at h 10⟩
theorem proc_alloc (h : Proc w P V m id n inst round phase s mr mp dec L) (o : Obj) : Proc (w.alloc o) P V m id n inst round phase s mr mp dec L := (Below.heap_alloc _ _ _ (lt_of_block h)).trans h
end

theorem heap_alloc_of {w : World} {k : Nat} {o o' : Obj} (h : w.heap[k]? = some o) : (w.alloc o').heap[k]? = some o := (Below.heap_alloc _ _ _ (lt_of_block h)).trans h
theorem Row.kept {a b : World} {S : List Nat} {V : Nat} {ws : List Int} (h : Row a V ws) (hk : Kept a b S) (hn : V ∉ S) : Row b V ws := by
  obtain ⟨cur, hc⟩ := h.2
  exact ⟨fun j hj => (World.cell?_of_block (w := a) (w' := b) (a := ⟨V, j, none⟩) (hk.block V (lt_of_block hc) hn)).trans (h.1 j hj), cur, Kept.heap hk hc hn⟩
theorem Row.alloc {a : World} {V : Nat} {ws : List Int} (h : Row a V ws) (o : Obj) : Row (a.alloc o) V ws := by
  exact Row.kept h ((Kept.refl a []).alloc o) (by simp)

set_option maxHeartbeats 2000000 in
theorem broadcast_any (w : World) (P V m : Nat) (id n : Nat) (inst round phase cause : Int) (s : ByteArray) (mr mp : Int) (dec : Bool) (L : Nat) (ws : List Int) (hp : Proc w P V m id n inst round phase s mr mp dec L) (hw : Words w V ws) (hm : ws.length = m) (hm0 : 0 < m) (hm' : m ≤ 5)
    (hL : w.heap[L]? = some (.cells #[.slice none 0 0] 35 (0, 0))) (hPL : P ≠ L) :
    Calls Yba.prog 26 #[.pointer (some ⟨P, 0, none⟩), .int .i64 cause] w fun e w' => e = .returned (.tuple #[]) ∧ ∃ M C cap G, Mess w' M C m cap inst round phase s mr mp ∧ Row w' C ws ∧ Sent w' L G M cause ∧ w.heap.size ≤ M ∧ w.heap.size ≤ C ∧ Kept w w' [L] := by
  subst hm
  have c5 : w.cell? ⟨P, 5, none⟩ = some (.slice (some ⟨V, 0, none⟩) ws.length ws.length) := cell_at hp 5
  have hpd : Proc w.drew P V ws.length id n inst round phase s mr mp dec L := hp
  go_enter Yba.func26, Yba.ntmps26
  go_wp2
  go_region_held3 (fun w' => w'.cell? ⟨P, 2, none⟩ = some (.int .u64 inst) ∧ w'.cell? ⟨P, 3, none⟩ = some (.int .i64 round) ∧ w'.cell? ⟨P, 4, none⟩ = some (.int .i64 phase) ∧ w'.cell? ⟨P, 6, none⟩ = some (.string s) ∧ w'.cell? ⟨P, 7, none⟩ = some (.int .i64 mr) ∧ w'.cell? ⟨P, 8, none⟩ = some (.int .i64 mp) ∧
      w'.cell? ⟨P, 10, none⟩ = some (.func (.func 14) #[] #[.pointer (some ⟨L, 0, none⟩)]))
    (first | exact pc_of (by assumption) | exact pc_of (proc_alloc (by assumption) _))
    (first
      | (go_at_call 28; refine (clone_any w.drew P V ws ws.length c5 hw hm0 hm').mono ?_; rintro e w2 ⟨C, cap', rfl, hrd, hC, hC', hk2⟩; have hp2 : Proc w2 P V ws.length id n inst round phase s mr mp dec L := Kept.heap hk2 hpd (by simp))
      | (go_at_call 14; refine (send_any _ _ L cause (heap_alloc_of (Kept.heap hk2 hL (by simp)))).mono ?_; rintro e w3 ⟨rfl, G, capG, hL3, hg0, hg1, hG, hG', hk3⟩; have hp3 : Proc w3 P V ws.length id n inst round phase s mr mp dec L := Kept.heap hk3 (proc_alloc hp2 _) (by simpa using hPL)))
  go_wp2
  go_end0
  have hlt := lt_of_block hL
  have z2 := hk2.size
  have e1 : w.drew.heap.size = w.heap.size := rfl
  rw [e1] at hC z2
  refine ⟨rfl, w2.heap.size, C, cap', G, Kept.heap hk3 (heap_alloc_new w2 _) (by simp; omega), ?_, ⟨⟨capG, hL3⟩, hg0, hg1⟩, z2, hC, ?_⟩
  · exact Row.kept (Row.alloc hrd _) hk3 (by simp; omega)
  · exact (Kept.trans (a := w) (b := w2) ⟨hk2.os, hk2.tape, hk2.output, hk2.size, fun k hk hn => hk2.block k hk (by simp)⟩ ((Kept.refl w2 [L]).alloc _)).trans hk3
end Go.Proofs.Ybulkajom.Cast
