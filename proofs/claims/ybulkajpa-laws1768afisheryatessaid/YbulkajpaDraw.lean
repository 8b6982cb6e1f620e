import Derived.Test.YbulkajpaNew
import Derived.Test.YbulkajpaShuf
/-! Contract of newDraw. -/
namespace Go.Proofs.Ybulkajpa.Init
open Go.RowKit Go.Proofs.Ybulkajpa.Cha Go.Proofs.Ybulkajpa.Stream Go.Proofs.Ybulkajpa.Mem Go.Proofs.Ybulkajpa.Next Go.Proofs.Ybulkajpa.Bel Go.Proofs.Ybulkajpa.Shuf

/-- The state that a seed begins. -/
def seedSt (s : Int) : St := beginK (seedB (IntKind.u64.wrap s) fun _ => 0)
theorem seedSt_ok (s : Int) : Ok (seedSt s) := beginK_ok _
theorem wrap_bd (s : Int) : 0 ≤ IntKind.u64.wrap s ∧ IntKind.u64.wrap s ≤ 18446744073709551615 := by
  rw [IntKind.wrap_u64]
  omega
/-- 32 bytes of nought. -/
def nils : Array Value := (List.replicate 32 (Value.int .u8 0)).toArray
theorem nils_bytes (w : World) : Bytes (w.alloc (.cells nils 39)) w.heap.size (fun _ => 0) ∧ ∀ j, (w.alloc (.cells nils 39)).frozen? ⟨w.heap.size, j, none⟩ = false := by
  have e := heap_alloc_last w (.cells nils 39)
  refine ⟨fun j hj => ?_, fun j => by unfold World.frozen?; simp only [e]; simp⟩
  rw [cell_of_row _ _ j nils 39 (0, 0) e]
  unfold nils
  rw [List.getElem?_toArray, List.getElem?_replicate, if_pos hj]
/-- The cells of a key. -/
def keyCells (f : Nat → Int) : List Value := (List.range 32).map fun j => .int .u8 (f j)
theorem keyCells_len (f : Nat → Int) : (keyCells f).length = 32 := by simp [keyCells]
theorem keyCells_at (f : Nat → Int) : ∀ j, j < 32 → (keyCells f).toArray[j]? = some (.int .u8 (f j)) := by
  intro j hj
  rw [List.getElem?_toArray]
  unfold keyCells
  rw [List.getElem?_map, List.getElem?_range hj]
  rfl
theorem Bytes.range {w : World} {B : Nat} {f : Nat → Int} (h : Bytes w B f) : w.rangeAt B 0 (keyCells f) := by
  intro j v hv
  have hj : j < 32 := by
    have := (List.getElem?_eq_some_iff.1 hv).1
    rwa [keyCells_len] at this
  have e := keyCells_at f j hj
  rw [List.getElem?_toArray, hv] at e
  rw [Nat.zero_add, h j hj]
  exact e.symm

set_option maxRecDepth 100000 in
set_option maxHeartbeats 3200000 in
theorem draw_any (w : World) (s : Int) :
    Calls Yba.prog 9 #[.int .i64 s] w fun e w' => ∃ D C, e = .returned (.pointer (some ⟨D, 0, none⟩)) ∧ DR w' D C (seedSt s) ∧ D ≠ C ∧ w.heap.size ≤ D ∧ w.heap.size ≤ C ∧ D < w'.heap.size ∧ C < w'.heap.size ∧ Kept w w' [] := by
  have hz : nils = #[Value.int IntKind.u8 0, Value.int IntKind.u8 0, Value.int IntKind.u8 0, Value.int IntKind.u8 0, Value.int IntKind.u8 0, Value.int IntKind.u8 0, Value.int IntKind.u8 0, Value.int IntKind.u8 0, Value.int IntKind.u8 0, Value.int IntKind.u8 0, Value.int IntKind.u8 0, Value.int IntKind.u8 0, Value.int IntKind.u8 0, Value.int IntKind.u8 0, Value.int IntKind.u8 0, Value.int IntKind.u8 0, Value.int IntKind.u8 0, Value.int IntKind.u8 0, Value.int IntKind.u8 0, Value.int IntKind.u8 0, Value.int IntKind.u8 0, Value.int IntKind.u8 0, Value.int IntKind.u8 0, Value.int IntKind.u8 0, Value.int IntKind.u8 0, Value.int IntKind.u8 0, Value.int IntKind.u8 0, Value.int IntKind.u8 0, Value.int IntKind.u8 0, Value.int IntKind.u8 0, Value.int IntKind.u8 0, Value.int IntKind.u8 0] := rfl
  have Hz := hide hz
  have HE : Hid (seedSt s = beginK (seedB (IntKind.u64.wrap s) fun _ => 0)) := rfl
  obtain ⟨hw0, hw1⟩ := wrap_bd s
  clear hz
  go_enter Yba.func9, Yba.ntmps9
  go_wp2
  rw [← Hz.out]
  clear Hz
  obtain ⟨hb, hf⟩ := nils_bytes w
  have HK := hide ((Kept.refl w [w.heap.size]).alloc (.cells nils 39))
  generalize w.alloc (.cells nils 39) = W at *
  generalize hB : w.heap.size = B at *
  have HB := hide hB
  clear hB
  have hbd : Bytes W.drew B (fun _ => 0) := hb
  have hfd : ∀ j, W.drew.frozen? ⟨B, j, none⟩ = false := hf
  have HBd := hide hbd
  have HFd := hide hfd
  clear hb hf hbd hfd
  go_region_held3 (fun _ => True) (trivial) ((go_at_call 17; with_reducible refine (put_any W.drew B _ (fun _ => 0) hw0 hw1 HBd.out HFd.out).mono ?_; rintro e w2 ⟨rfl, hb2, hk2⟩))
  have hK2 : Kept w w2 [B] := HK.out.trans ((Kept.refl W [B]).drew.trans hk2)
  generalize seedB (IntKind.u64.wrap s) (fun _ => 0) = f at *
  have Hlen := hide (keyCells_len f)
  have Hat := hide (keyCells_at f)
  have hrg := hb2.range
  have hi : (Yba.prog.info? 39).map (·.size) = some (keyCells f).length := by rw [keyCells_len]; exact size39
  generalize keyCells f = cs at *
  clear hk2 HK HBd HFd hb2
  rename_i Q' K' hK' _
  show K' _ _
  refine hK' _ _ ?_
  apply wp_seq_k
  intro K2 hK2'
  refine wp_region_list ?_
  refine wpList_load_mid rfl 39 (.tmp 3) rfl B 0 rfl cs _ hrg Yba.underlying39 rfl hi ?_
  clear hrg hi
  go_wp2_with fail
  refine (new_any w2 cs f Hlen.out Hat.out).mono ?_
  rintro e w3 ⟨C, rfl, hch, hk3, hC⟩
  go_wp2
  go_ret
  have hC3 := hch.lt
  have hs2 := hK2.size
  have hs3 := hk3.size
  have hk4 : Kept w3 (w3.alloc (.cells #[.pointer (some ⟨C, 0, none⟩)] 32)) [] := (Kept.refl _ _).alloc _
  have hsz : (w3.alloc (.cells #[.pointer (some ⟨C, 0, none⟩)] 32)).heap.size = w3.heap.size + 1 := Array.size_push _
  refine ⟨w3.heap.size, C, rfl, ⟨?_, ?_⟩, by omega, by omega, by omega, by omega, by omega, ?_⟩
  · rw [cell_of_row _ _ 0 #[.pointer (some ⟨C, 0, none⟩)] 32 (0, 0) (heap_alloc_last w3 _)]
    rfl
  · rw [HE.out]
    exact hch.kept hk4 (by simp)
  · have h := (hK2.andThen hk3 (by simp)).andThen hk4 (by simp)
    refine ⟨h.os, h.tape, h.output, h.size, fun b hb _ => h.block b hb (by simp; have := HB.out; omega)⟩
end Go.Proofs.Ybulkajpa.Init
