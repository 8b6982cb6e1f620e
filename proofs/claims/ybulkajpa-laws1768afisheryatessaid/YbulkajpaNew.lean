import Derived.Test.YbulkajpaPut
/-! Contract of NewChaCha8. -/
namespace Go.Proofs.Ybulkajpa.Init
open Go.RowKit Go.Proofs.Ybulkajpa.Cha Go.Proofs.Ybulkajpa.Stream Go.Proofs.Ybulkajpa.Mem Go.Proofs.Ybulkajpa.Next

/-- The cells of a ChaCha8 that was just made. -/
def zeros : Array Value := (List.replicate 36 (Value.int .u64 0) ++ List.replicate 3 (Value.int .u32 0) ++ List.replicate 8 (Value.int .u8 0) ++ [Value.int .i64 0]).toArray
/-- .. and its state. -/
def zero0 : St := { buf := List.replicate 32 0, seed := #[0, 0, 0, 0], i := 0, n := 0, c := 0 }
theorem zeros_at (k : Nat) (hk : k < 36) : zeros[k]? = some (.int .u64 0) := by
  unfold zeros
  rw [List.getElem?_toArray, List.append_assoc, List.append_assoc, List.getElem?_append_left (by rw [List.length_replicate]; exact hk), List.getElem?_replicate, if_pos hk]
theorem ch_zero (w : World) : CH (w.alloc (.cells zeros 53)) w.heap.size zero0 := by
  have e := heap_alloc_last w (.cells zeros 53)
  have hc : ∀ j, (w.alloc (.cells zeros 53)).cell? ⟨w.heap.size, j, none⟩ = zeros[j]? := fun j => cell_of_row _ _ j zeros 53 (0, 0) e
  refine ⟨⟨_, e⟩, fun j hj => ?_, fun j hj => ?_, hc 36, hc 37, hc 38⟩
  · rw [hc]
    rw [zeros_at j (by omega)]
    have e : zero0.buf.getD j 0 = 0 := by
      show (List.replicate 32 0).getD j 0 = 0
      rw [List.getD_eq_getElem?_getD, List.getElem?_replicate]
      split <;> rfl
    rw [e]
    rfl
  · rw [hc]
    rw [zeros_at (32 + j) (by omega)]
    rcases (show j = 0 ∨ j = 1 ∨ j = 2 ∨ j = 3 by omega) with rfl | rfl | rfl | rfl <;> rfl

/-- What stands through the region of NewChaCha8. -/
structure SN (w0 w : World) (C : Nat) : Prop where
  ch : ∃ τ, CH w C τ
  kept : Kept w0 w [C]
theorem SN.drew {w0 w : World} {C B : Nat} {cs : List Value} (h : w.rangeAt B 0 cs ∧ SN w0 w C) : w.drew.rangeAt B 0 cs ∧ SN w0 w.drew C := ⟨h.1, h.2.ch.imp fun _ h => h.drew, h.2.kept.drew⟩
theorem init_sn {w0 w : World} {C B : Nat} {cs : List Value} {kb : Nat → Int} (hk : Hid (∀ j, j < 32 → cs.toArray[j]? = some (.int .u8 (kb j)))) (hBC : B ≠ C) (h : w.rangeAt B 0 cs ∧ SN w0 w C) :
    Calls Yba.prog 22 #[.pointer (some ⟨C, 0, none⟩), .agg cs.toArray] w fun e w' => e = .returned (.tuple #[]) ∧ CH w' C (beginK kb) ∧ w'.rangeAt B 0 cs ∧ SN w0 w' C := by
  obtain ⟨τ, ht⟩ := h.2.ch
  refine (init_any w C τ cs.toArray kb hk.out ht).mono ?_
  rintro e w' ⟨rfl, hc, hkp⟩
  exact ⟨rfl, hc, fun j v hv => hkp.cell (h.1 j v hv) (by simpa using hBC), ⟨_, hc⟩, h.2.kept.trans hkp⟩
theorem size39 : (Yba.prog.info? 39).map (·.size) = some 32 := by kernel_rfl

set_option maxRecDepth 100000 in
set_option maxHeartbeats 3200000 in
theorem new_any (w : World) (cs : List Value) (kb : Nat → Int) (hs : cs.length = 32) (hk : ∀ j, j < 32 → cs.toArray[j]? = some (.int .u8 (kb j))) :
    Calls Yba.prog 18 #[.agg cs.toArray] w fun e w' => ∃ C, e = .returned (.pointer (some ⟨C, 0, none⟩)) ∧ CH w' C (beginK kb) ∧ Kept w w' [] ∧ w.heap.size ≤ C := by
  have hz : zeros = #[Value.int IntKind.u64 0, Value.int IntKind.u64 0, Value.int IntKind.u64 0, Value.int IntKind.u64 0, Value.int IntKind.u64 0, Value.int IntKind.u64 0, Value.int IntKind.u64 0, Value.int IntKind.u64 0, Value.int IntKind.u64 0, Value.int IntKind.u64 0, Value.int IntKind.u64 0, Value.int IntKind.u64 0, Value.int IntKind.u64 0, Value.int IntKind.u64 0, Value.int IntKind.u64 0, Value.int IntKind.u64 0, Value.int IntKind.u64 0, Value.int IntKind.u64 0, Value.int IntKind.u64 0, Value.int IntKind.u64 0, Value.int IntKind.u64 0, Value.int IntKind.u64 0, Value.int IntKind.u64 0, Value.int IntKind.u64 0, Value.int IntKind.u64 0, Value.int IntKind.u64 0, Value.int IntKind.u64 0, Value.int IntKind.u64 0, Value.int IntKind.u64 0, Value.int IntKind.u64 0, Value.int IntKind.u64 0, Value.int IntKind.u64 0, Value.int IntKind.u64 0, Value.int IntKind.u64 0, Value.int IntKind.u64 0, Value.int IntKind.u64 0, Value.int IntKind.u32 0, Value.int IntKind.u32 0, Value.int IntKind.u32 0, Value.int IntKind.u8 0, Value.int IntKind.u8 0, Value.int IntKind.u8 0, Value.int IntKind.u8 0, Value.int IntKind.u8 0, Value.int IntKind.u8 0, Value.int IntKind.u8 0, Value.int IntKind.u8 0, Value.int IntKind.i64 0] := rfl
  have Hz := hide hz
  clear hz
  go_enter Yba.func18, Yba.ntmps18
  go_wp2
  rw [← Hz.out]
  clear Hz
  have HC : CH ((w.alloc (.cells cs.toArray 39)).alloc (.cells zeros 53)) (w.heap.size + 1) zero0 := by
    have := ch_zero (w.alloc (.cells cs.toArray 39))
    have e : (w.alloc (.cells cs.toArray 39)).heap.size = w.heap.size + 1 := Array.size_push _
    rwa [e] at this
  have HK := hide (((Kept.refl w [w.heap.size + 1]).alloc (.cells cs.toArray 39)).alloc (.cells zeros 53))
  have HL : ((w.alloc (.cells cs.toArray 39)).alloc (.cells zeros 53)).rangeAt w.heap.size 0 cs := by
    intro j v hv
    have e : (w.alloc (.cells cs.toArray 39)).cell? ⟨w.heap.size, 0 + j, none⟩ = some v := by
      rw [Nat.zero_add, cell_of_row _ _ j cs.toArray 39 (0, 0) (heap_alloc_last w _)]
      simpa using hv
    rw [World.cell?_alloc_some _ _ _ (by rw [e]; rfl)]
    exact e
  have HS : ((w.alloc (.cells cs.toArray 39)).alloc (.cells zeros 53)).rangeAt w.heap.size 0 cs ∧ SN w ((w.alloc (.cells cs.toArray 39)).alloc (.cells zeros 53)) (w.heap.size + 1) := ⟨HL, ⟨_, HC⟩, HK.out⟩
  have hBC : w.heap.size ≠ w.heap.size + 1 := by omega
  have hle : Hid (w.heap.size ≤ w.heap.size + 1) := Nat.le_succ _
  clear HL HC HK
  have hi : (Yba.prog.info? 39).map (·.size) = some cs.length := by rw [hs]; exact size39
  have ho : ∀ v ∈ cs, v.oneCell' = true := by
    intro v hv
    obtain ⟨j, hj, rfl⟩ := List.mem_iff_getElem.1 hv
    have := hk j (by omega)
    simp [hj] at this
    rw [this]
    rfl
  have hu := Yba.underlying39
  have Hk := hide hk
  clear hk
  have HB : ∀ w' : World, Kept w w' [w.heap.size + 1] → Kept w w' [] := fun w' h => ⟨h.os, h.tape, h.output, h.size, fun b hb _ => h.block b hb (by simp; omega)⟩
  have HB' := hide HB
  clear HB
  generalize (w.alloc (.cells cs.toArray 39)).alloc (.cells zeros 53) = W at *
  generalize hC : w.heap.size + 1 = C at *
  generalize hD : w.heap.size = B at *
  have HD := hide hD
  clear hC hD
  go_region_held3 (fun w' => w'.rangeAt B 0 cs ∧ SN w w' C) (first | assumption | exact SN.drew (by assumption))
    ((go_at_call 22; with_reducible refine (init_sn Hk hBC (by assumption)).mono ?_; rintro e w' ⟨rfl, hch, hsn⟩))
  go_wp2
  go_ret
  exact ⟨C, rfl, hch, HB'.out _ hsn.2.kept, by rw [HD.out]; exact hle.out⟩
end Go.Proofs.Ybulkajpa.Init
