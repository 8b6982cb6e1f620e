import Derived.Test.YbulkajomMsg
import Derived.Deep.QuietTactic
import Derived.BigQuiet
import Derived.Deep.RegionHeld3
/-! The process in memory: contracts of NewProcess, Process.Coordinator, conclude. -/
namespace Go.Proofs.Ybulkajom.Proc
open Go.RowKit Go.Proofs.Ybulkajom.Pop Go.Proofs.Ybulkajom.Vot Go.Proofs.Ybulkajom.Msg

/-- The eleven cells of a process. -/
def pcells (V m : Nat) (id n inst round phase : Int) (s : ByteArray) (mr mp : Int) (dec : Bool) (L : Nat) : Array Value :=
  #[.int .i64 id, .int .i64 n, .int .u64 inst, .int .i64 round, .int .i64 phase, .slice (some ⟨V, 0, none⟩) m m, .string s, .int .i64 mr, .int .i64 mp, .bool dec, .func (.func 14) #[] #[.pointer (some ⟨L, 0, none⟩)]]
/-- Block P is that process. -/
def Proc (w : World) (P V m : Nat) (id n inst round phase : Int) (s : ByteArray) (mr mp : Int) (dec : Bool) (L : Nat) : Prop :=
  w.heap[P]? = some (.cells (pcells V m id n inst round phase s mr mp dec L) 50 (0, 0))

theorem cell_at {w : World} {b : Nat} {cs : Array Value} {t : TypeId} {fr : Nat × Nat} (h : w.heap[b]? = some (.cells cs t fr)) (k : Nat) : w.cell? ⟨b, k, none⟩ = cs[k]? := by simp [World.cell?, h]
theorem free_at {w : World} {b : Nat} {cs : Array Value} {t : TypeId} (h : w.heap[b]? = some (.cells cs t (0, 0))) (k : Nat) : w.frozen? ⟨b, k, none⟩ = false := by simp [World.frozen?, h]
theorem Kept.heap {a b : World} {S : List Nat} (h : Kept a b S) {k : Nat} {o : Obj} (hk : a.heap[k]? = some o) (hn : k ∉ S) : b.heap[k]? = some o := (h.block k (lt_of_block hk) hn).trans hk

set_option maxHeartbeats 800000 in
theorem newProcess_any (w : World) (id n : Nat) (inst : Int) (s : ByteArray) (L : Nat) (hn : n ≤ 1000) :
    Calls Yba.prog 13 #[.int .i64 (id : Int), .int .i64 (n : Int), .int .u64 inst, .string s, .func (.func 14) #[] #[.pointer (some ⟨L, 0, none⟩)]] w fun e w' => ∃ P V, e = .returned (.pointer (some ⟨P, 0, none⟩)) ∧
      Proc w' P V (n / 64 + 1) id n inst 0 0 s 0 0 false L ∧ Words w' V (List.replicate (n / 64 + 1) 0) ∧ w.heap.size ≤ V ∧ V < P ∧ Kept w w' [] := by
  go_enter Yba.func13, Yba.ntmps13
  go_wp2_with fail
  refine (newVoters_any _ n hn).mono ?_
  rintro e w1 ⟨V, rfl, hw1, hV, hk1⟩
  have hz1 := hk1.size
  have hV1 := hw1.lt
  go_wp2
  go_ret
  exact ⟨w1.heap.size, V, rfl, heap_alloc_new w1 _, (Below.heap_alloc _ _ _ hV1).trans hw1, hV, hV1, hk1.alloc _⟩

set_option maxHeartbeats 800000 in
theorem procCoord_any (w : World) (P V m : Nat) (id n : Nat) (inst round phase : Int) (s : ByteArray) (mr mp : Int) (dec : Bool) (L : Nat) (hp : Proc w P V m id n inst round phase s mr mp dec L) (hr : -9223372036854775808 ≤ round) (hr' : round ≤ 9223372036854775807) (hn : 1 ≤ n) (hn' : n ≤ 300) :
    Calls Yba.prog 17 #[.pointer (some ⟨P, 0, none⟩)] w fun e w' => e = .returned (.int .i64 (round.tmod n + 1)) ∧ ∃ q, w' = w.drewN q := by
  have c1 : w.cell? ⟨P, 1, none⟩ = some (.int .i64 (n : Int)) := cell_at hp 1
  have c3 : w.cell? ⟨P, 3, none⟩ = some (.int .i64 round) := cell_at hp 3
  go_enter Yba.func17, Yba.ntmps17
  go_wp2
  go_quiet ((go_at_call 25; exact Calls.quiet_of_same (coord_any round n _ hr hr' (by omega) (by omega))))
  go_wp2
  go_ret
  exact ⟨rfl, _, rfl⟩

set_option maxHeartbeats 800000 in
theorem conclude_any (w : World) (P V m : Nat) (id n : Nat) (inst round cause : Int) (s : ByteArray) (mr mp : Int) (dec : Bool) (L : Nat) (ws : List Int) (t : Int) (hp : Proc w P V m id n inst round 1 s mr mp dec L) (hw : Words w V ws) (hm : ws.length = m) (hm' : m ≤ 5)
    (hpop : ∀ k, k < ws.length → 0 ≤ pop (ws.getD k 0) ∧ pop (ws.getD k 0) ≤ 127) (ht : total ws = t) (ht0 : 0 ≤ t) (ht1 : t ≤ 1) :
    Calls Yba.prog 27 #[.pointer (some ⟨P, 0, none⟩), .int .i64 cause] w fun e w' => e = .returned (.tuple #[]) ∧ Proc w' P V m id n inst round 1 s mr mp (dec || decide ((n : Int) < 2 * t)) L ∧ Kept w w' [P] := by
  subst hm
  have c1 : w.cell? ⟨P, 1, none⟩ = some (.int .i64 (n : Int)) := cell_at hp 1
  have c4 : w.cell? ⟨P, 4, none⟩ = some (.int .i64 1) := cell_at hp 4
  have c5 : w.cell? ⟨P, 5, none⟩ = some (.slice (some ⟨V, 0, none⟩) ws.length ws.length) := cell_at hp 5
  have c9 : w.cell? ⟨P, 9, none⟩ = some (.bool dec) := cell_at hp 9
  have f9 : w.frozen? ⟨P, 9, none⟩ = false := free_at hp 9
  have hlen : ∀ q, Calls Yba.prog 30 #[.pointer (some ⟨P, 5, none⟩)] (w.drewN q) fun e w' => e = .returned (.int .i64 t) ∧ w' = w.drewN q := fun q => by
    rw [← ht]
    exact len_any (w.drewN q) P V ws _ c5 hw hm' hpop
  have HLen := hide hlen
  clear hlen
  by_cases hmaj : (n : Int) < 2 * t
  · have hd : decide ((n : Int) < 2 * t) = true := by simpa using hmaj
    have HH := hide hmaj
    clear hmaj
    go_enter Yba.func27, Yba.ntmps27
    go_wp2
    go_quiet ((first | (go_at_call 30; exact Calls.quiet_of_same (HLen.out _)) | (go_at_call 29; exact Calls.quiet_of_same (maj_any t n _ ht0 (by omega)))))
    go_wp2
    refine bodyPost_ret (results_none rfl _ _ _) rfl ?_
    refine ⟨rfl, ?_, ((Kept.refl w [P]).setCell (p := ⟨P, 9, none⟩) (by simp) _).drewN _⟩
    have := cells_setCell (k := 9) (u := .bool true) hp
    rw [hd, Bool.or_true]
    exact this
  · have hd : decide ((n : Int) < 2 * t) = false := by simpa using hmaj
    have HH := hide hmaj
    clear hmaj
    go_enter Yba.func27, Yba.ntmps27
    go_wp2
    go_quiet ((first | (go_at_call 30; exact Calls.quiet_of_same (HLen.out _)) | (go_at_call 29; exact Calls.quiet_of_same (maj_any t n _ ht0 (by omega)))))
    go_wp2
    refine bodyPost_ret (results_none rfl _ _ _) rfl ?_
    refine ⟨rfl, ?_, (Kept.refl w [P]).drewN _⟩
    rw [hd, Bool.or_false]
    exact hp
end Go.Proofs.Ybulkajom.Proc
