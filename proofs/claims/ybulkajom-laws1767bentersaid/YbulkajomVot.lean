import Derived.Test.YbulkajomPop
import Derived.Deep.Draws
import Derived.OneCell
import Derived.Lib.SliceRun
import Derived.Laws.Rows
import Derived.WalkSmall
/-! The set of voters in memory: contracts of Voters.Len, Add, Clear. -/
namespace Go.Proofs.Ybulkajom.Vot
open Go.RowKit Go.Proofs.Ybulkajom.Pop

theorem hide {p : Prop} (h : p) : Hid p := h

/-- Block V holds just the words ws. -/
def Words (w : World) (V : Nat) (ws : List Int) : Prop := w.heap[V]? = some (.cells (ws.map (Value.int .u64)).toArray 33 (0, 0))
/-- .. each a uint64. -/
def Fit (ws : List Int) : Prop := ∀ x ∈ ws, 0 ≤ x ∧ x ≤ 18446744073709551615

theorem Words.cell {w : World} {V : Nat} {ws : List Int} (h : Words w V ws) (j : Nat) (hj : j < ws.length) : w.cell? ⟨V, j, none⟩ = some (.int .u64 (ws.getD j 0)) := by
  simp [World.cell?, show w.heap[V]? = _ from h, List.getElem?_eq_getElem hj]
theorem Words.free {w : World} {V : Nat} {ws : List Int} (h : Words w V ws) (j : Nat) : w.frozen? ⟨V, j, none⟩ = false := by
  simp [World.frozen?, show w.heap[V]? = _ from h]
theorem Words.lt {w : World} {V : Nat} {ws : List Int} (h : Words w V ws) : V < w.heap.size := lt_of_block h

/-- What may have turned: the blocks in S, new ones, the count of draws. -/
structure Kept (w w' : World) (S : List Nat) : Prop where
  os : w'.os = w.os
  tape : w'.tape = w.tape
  output : w'.output = w.output
  size : w.heap.size ≤ w'.heap.size
  block : ∀ k, k < w.heap.size → k ∉ S → w'.heap[k]? = w.heap[k]?

theorem Kept.refl (w : World) (S : List Nat) : Kept w w S := ⟨rfl, rfl, rfl, Nat.le_refl _, fun _ _ _ => rfl⟩
theorem Kept.trans {a b c : World} {S : List Nat} (h : Kept a b S) (k : Kept b c S) : Kept a c S :=
  ⟨k.os.trans h.os, k.tape.trans h.tape, k.output.trans h.output, Nat.le_trans h.size k.size, fun i hi hn => (k.block i (by have := h.size; omega) hn).trans (h.block i hi hn)⟩
theorem Kept.mono {a b : World} {S T : List Nat} (h : Kept a b S) (hs : ∀ k ∈ S, k ∈ T ∨ a.heap.size ≤ k) : Kept a b T :=
  ⟨h.os, h.tape, h.output, h.size, fun i hi hn => h.block i hi (fun hm => by rcases hs i hm with e | e; exact hn e; omega)⟩
theorem Kept.drewN {a b : World} {S : List Nat} (h : Kept a b S) (q : Nat) : Kept a (b.drewN q) S := ⟨h.os, h.tape, h.output, h.size, h.block⟩
theorem Kept.drew {a b : World} {S : List Nat} (h : Kept a b S) : Kept a b.drew S := ⟨h.os, h.tape, h.output, h.size, h.block⟩
theorem Kept.setCell {a b : World} {S : List Nat} (h : Kept a b S) {p : Addr} (hp : p.block ∈ S) (u : Value) : Kept a (b.setCell p u) S :=
  ⟨h.os, h.tape, h.output, by simpa [World.setCell] using h.size, fun i hi hn => (Below.heap_setCell _ _ _ _ (fun e => hn (by rw [e]; exact hp))).trans (h.block i hi hn)⟩
theorem Kept.alloc {a b : World} {S : List Nat} (h : Kept a b S) (o : Obj) : Kept a (b.alloc o) S :=
  ⟨h.os, h.tape, h.output, by have := h.size; simp; omega, fun i hi hn => (Below.heap_alloc _ _ _ (by have := h.size; omega)).trans (h.block i hi hn)⟩
theorem Kept.below {a b : World} {S : List Nat} (h : Kept a b S) {B : Nat} (hB : B ≤ a.heap.size) (hs : ∀ k ∈ S, B ≤ k) : Below B a b :=
  ⟨h.os, h.tape, h.output, h.size, fun i hi => h.block i (by omega) (fun hm => by have := hs i hm; omega)⟩
theorem Kept.words {a b : World} {S : List Nat} (h : Kept a b S) {V : Nat} {ws : List Int} (hw : Words a V ws) (hn : V ∉ S) : Words b V ws := (h.block V hw.lt hn).trans hw

/-- A store into a block that is known whole. -/
theorem cells_setCell {w : World} {b k : Nat} {cs : Array Value} {u : Value} {t : TypeId} {fr : Nat × Nat} (h : w.heap[b]? = some (.cells cs t fr)) : (w.setCell ⟨b, k, none⟩ u).heap[b]? = some (.cells (cs.setIfInBounds k u) t fr) := by
  have hlt := lt_of_block h
  have h' : w.heap[b] = .cells cs t fr := by simpa [Array.getElem?_eq_getElem hlt] using h
  show (w.heap.modify b _)[b]? = _
  rw [Array.getElem?_eq_getElem (by simpa using hlt), Array.getElem_modify_self, h']
  rfl
theorem Words.set {w : World} {V k : Nat} {ws : List Int} {x : Int} (h : Words w V ws) : Words (w.setCell ⟨V, k, none⟩ (.int .u64 x)) V (ws.set k x) := by
  unfold Words
  rw [cells_setCell h]
  simp [List.setIfInBounds_toArray, List.map_set]

theorem words_zero : ∀ (n o : Nat) (w : World) (V : Nat) (ws : List Int), Words w V ws → o + n = ws.length → Words (w.setCells V o (List.replicate n (.int .u64 0))) V (ws.take o ++ List.replicate n 0)
  | 0, o, w, V, ws, h, hn => by
    simp only [List.replicate_zero, List.append_nil, World.setCells]
    rw [List.take_of_length_le (by omega)]
    exact h
  | n + 1, o, w, V, ws, h, hn => by
    rw [List.replicate_succ, World.setCells]
    have := words_zero n (o + 1) _ V _ (h.set (k := o) (x := 0)) (by simp; omega)
    have e : (ws.set o 0).take (o + 1) ++ List.replicate n 0 = ws.take o ++ List.replicate (n + 1) 0 := by
      rw [List.take_succ_eq_append_getElem (by simp; omega), List.replicate_succ, List.take_set, List.set_eq_of_length_le (by rw [List.length_take]; omega)]
      simp
    rw [e] at this
    exact this
theorem kept_setCells (V : Nat) : ∀ (vs : List Value) (o : Nat) (w : World), Kept w (w.setCells V o vs) [V]
  | [], _, w => Kept.refl w _
  | v :: r, o, w => ((Kept.refl w [V]).setCell (p := ⟨V, o, none⟩) (by simp) v).trans (kept_setCells V r (o + 1) _)

/-- How many bits the words hold. -/
def total (ws : List Int) : Int := (ws.map pop).foldl (· + ·) 0
def totalTo (ws : List Int) (k : Nat) : Int := ((ws.take k).map pop).foldl (· + ·) 0
theorem totalTo_succ (ws : List Int) (k : Nat) (hk : k < ws.length) : totalTo ws (k + 1) = totalTo ws k + pop (ws.getD k 0) := by
  unfold totalTo
  rw [List.take_succ_eq_append_getElem hk, List.map_append, List.foldl_append]
  simp [-List.map_take, List.getElem?_eq_getElem hk]
set_option maxHeartbeats 400000 in
theorem len_any (w : World) (P V : Nat) (ws : List Int) (cap : Nat) (hp : w.cell? ⟨P, 5, none⟩ = some (.slice (some ⟨V, 0, none⟩) ws.length cap)) (hw : Words w V ws) (hl : ws.length ≤ 5) (hpop : ∀ k, k < ws.length → 0 ≤ pop (ws.getD k 0) ∧ pop (ws.getD k 0) ≤ 127) :
    Calls Yba.prog 30 #[.pointer (some ⟨P, 5, none⟩)] w fun e w' => e = .returned (.int .i64 (total ws)) ∧ w' = w := by
  have hbd : ∀ k, k ≤ ws.length → 0 ≤ totalTo ws k ∧ totalTo ws k ≤ 127 * k := by
    intro k
    induction k with
    | zero => intro _; simp [totalTo]
    | succ k ih => intro hk; have := ih (by omega); have := hpop k (by omega); rw [totalTo_succ ws k (by omega)]; omega
  have HB := hide hbd
  have HP := hide hpop
  clear hbd hpop
  go_enter Yba.func30, Yba.ntmps30
  go_wp2
  go_loop [3, 11] (fun n i => ∃ k : Nat, k ≤ ws.length ∧ i = .int .i64 k ∧ n = .int .i64 (totalTo ws k)) (fun _ i => ws.length - (intOf i).toNat)
  case atStart => exact ⟨0, Nat.zero_le _, rfl, rfl⟩
  case round =>
    obtain ⟨k, hk, rfl, rfl⟩ := hrel
    have b1 := HB.out k hk
    by_cases hlt : k < ws.length
    · have hc := hw.cell k hlt
      have b2 := HP.out k hlt
      have HS := hide (totalTo_succ ws k hlt)
      generalize ws.getD k 0 = x at *
      go_wp2_with fail
      refine (ones_any _ _).mono ?_
      rintro e w1 ⟨rfl, rfl⟩
      go_wp2
      go_round
      case rel => exact ⟨k + 1, by omega, by go_num, by rw [HS.out]⟩
      case measure => simp [intOf]; omega
    · obtain rfl : k = ws.length := by omega
      go_wp2
      go_ret
      exact ⟨by unfold total totalTo; rw [List.take_length]; rfl, rfl⟩

theorem info33 : (Yba.prog.info? 33).map (fun i => (i.zero, i.size, i.bytes)) = some (some (.int .u64 0), 1, 8) := by kernel_rfl
theorem zero33 (w : World) : (zeroValue 33).run Yba.prog w = .ok (.int .u64 0) w := by
  obtain ⟨i0, hi, hz0, hz1, hz2⟩ := info_parts info33
  simp [zeroValue, typeInfo, hi, hz0]

set_option maxHeartbeats 400000 in
theorem clear_any (w : World) (P V : Nat) (ws : List Int) (cap : Nat) (hp : w.cell? ⟨P, 5, none⟩ = some (.slice (some ⟨V, 0, none⟩) ws.length cap)) (hw : Words w V ws) (h0 : 0 < ws.length) :
    Calls Yba.prog 24 #[.pointer (some ⟨P, 5, none⟩)] w fun e w' => e = .returned (.tuple #[]) ∧ Words w' V (List.replicate ws.length 0) ∧ Kept w w' [V] := by
  have hcl : ∀ ty, (Builtin.clear_ #[42] ty #[.slice (some ⟨V, 0, none⟩) ws.length cap]).run Yba.prog w = .ok (.tuple #[]) (w.setCells V 0 (List.replicate ws.length (.int .u64 0))) :=
    fun ty => Lib.run_clear_slice w 42 33 ty (.int .u64 0) Yba.underlying42 zero33 rfl rfl V 0 _ _ h0 (fun j hj => by rw [Nat.zero_add, hw.cell j hj]; rfl) (fun j _ => by rw [Nat.zero_add]; exact hw.free j)
  go_enter Yba.func24, Yba.ntmps24
  go_wp2
  go_end0
  refine ⟨rfl, ?_, kept_setCells V _ 0 w⟩
  have := words_zero ws.length 0 w V ws hw (by omega)
  simpa using this

/-- A word with bit k set. -/
def orBit (x : Int) (k : Nat) : Int := bits .or .u64 x (IntKind.u64.wrap (2 ^ k))
theorem orBit_zero' : ∀ k : Fin 64, orBit 0 k.val = (2 : Int) ^ k.val := by decide +kernel
theorem orBit_zero (k : Nat) (h : k < 64) : orBit 0 k = (2 : Int) ^ k := orBit_zero' ⟨k, h⟩
theorem wrap_pow' : ∀ k : Fin 64, IntKind.u64.wrap ((2 : Int) ^ k.val) = (2 : Int) ^ k.val := by decide +kernel
theorem wrap_pow (k : Nat) (h : k < 64) : IntKind.u64.wrap ((2 : Int) ^ k) = (2 : Int) ^ k := wrap_pow' ⟨k, h⟩

set_option maxHeartbeats 800000 in
theorem add_any (w : World) (P V : Nat) (ws : List Int) (cap i : Nat) (hp : w.cell? ⟨P, 5, none⟩ = some (.slice (some ⟨V, 0, none⟩) ws.length cap)) (hw : Words w V ws) (hi : i / 64 < ws.length) (hi' : i ≤ 1000) :
    Calls Yba.prog 15 #[.pointer (some ⟨P, 5, none⟩), .int .i64 (i : Int)] w fun e w' => e = .returned (.tuple #[]) ∧ Words w' V (ws.set (i / 64) (orBit (ws.getD (i / 64) 0) (i % 64))) ∧ Kept w w' [V] := by
  have hc := hw.cell (i / 64) hi
  have hf := hw.free (i / 64)
  have hm := Nat.mod_lt i (show 0 < 64 by omega)
  generalize ws.getD (i / 64) 0 = x at *
  go_enter Yba.func15, Yba.ntmps15
  go_wp2
  go_region
  go_wp2
  go_end0
  exact ⟨rfl, hw.set (x := orBit x (i % 64)), ((Kept.refl w [V]).setCell (p := ⟨V, i / 64, none⟩) (by simp) _).drew⟩

/-- The words as a reader meets them. -/
def Reads (w : World) (V : Nat) (ws : List Int) : Prop := ∀ j, j < ws.length → w.cell? ⟨V, j, none⟩ = some (.int .u64 (ws.getD j 0))

set_option maxHeartbeats 800000 in
theorem words_no (w : World) (V cap : Nat) (ws : List Int) (n : Nat) (hr : Reads w V ws) (hl : ws.length = n / 64 + 1) (hn : n ≤ 1000) (hz : ∀ j, j < ws.length → ws.getD j 0 = 0) :
    Calls Yba.prog 18 #[.slice (some ⟨V, 0, none⟩) ws.length cap, .int .i64 (n : Int), .int .i64 (-1)] w fun e w' => e = .returned (.bool true) ∧ w' = w := by
  have HL := hide hl
  have t0 : (((ws.length : Nat) : Int) != (n : Int) / 64 + 1) = false := by rw [hl]; simp
  have hll : ws.length ≤ 20 := by omega
  unfold Reads at hr
  generalize ws.length = m at *
  have HRd := hide hr
  have HZ := hide hz
  clear hl hr hz
  go_enter Yba.func18, Yba.ntmps18
  go_wp2
  go_loop [7] (fun i => ∃ k : Nat, k ≤ m ∧ i = .int .i64 (k : Int)) (fun i => m - (intOf i).toNat)
  case atStart => exact ⟨0, Nat.zero_le _, rfl⟩
  case round =>
    obtain ⟨k, hk, rfl⟩ := hrel
    by_cases hlt : k < m
    · have hc := HRd.out k hlt
      rw [HZ.out k hlt] at hc
      go_wp2
      go_round
      case rel => exact ⟨k + 1, by omega, by go_num⟩
      case measure => simp [intOf]; omega
    · go_wp2
      go_ret
      exact ⟨rfl, rfl⟩

set_option maxHeartbeats 800000 in
theorem words_id (w : World) (V cap : Nat) (ws : List Int) (n id : Nat) (hr : Reads w V ws) (hl : ws.length = n / 64 + 1) (hn : n ≤ 1000) (hid : id ≤ n) (hz : ∀ j, j < ws.length → ws.getD j 0 = if j = id / 64 then (2 : Int) ^ (id % 64) else 0) :
    Calls Yba.prog 18 #[.slice (some ⟨V, 0, none⟩) ws.length cap, .int .i64 (n : Int), .int .i64 (id : Int)] w fun e w' => e = .returned (.bool true) ∧ w' = w := by
  have HL := hide hl
  have t0 : (((ws.length : Nat) : Int) != (n : Int) / 64 + 1) = false := by rw [hl]; simp
  have hll : ws.length ≤ 20 := by omega
  have hm := Nat.mod_lt id (show 0 < 64 by omega)
  have HW := hide (wrap_pow (id % 64) hm)
  unfold Reads at hr
  generalize ws.length = m at *
  have HRd := hide hr
  have HZ := hide hz
  clear hl hr hz
  go_enter Yba.func18, Yba.ntmps18
  go_wp2
  go_loop [7] (fun i => ∃ k : Nat, k ≤ m ∧ i = .int .i64 (k : Int)) (fun i => m - (intOf i).toNat)
  case atStart => exact ⟨0, Nat.zero_le _, rfl⟩
  case round =>
    obtain ⟨k, hk, rfl⟩ := hrel
    by_cases hlt : k < m
    · have hc := HRd.out k hlt
      by_cases he : k = id / 64
      · rw [HZ.out k hlt, if_pos he, ← HW.out] at hc
        have t1 : ((k : Int) == (id : Int) / 64) = true := by rw [he]; simp
        have HE := hide he
        clear he
        go_wp2
        go_round
        case rel => exact ⟨k + 1, by omega, by go_num⟩
        case measure => simp [intOf]; omega
      · rw [HZ.out k hlt, if_neg he] at hc
        have t1 : ((k : Int) == (id : Int) / 64) = false := by simp; omega
        have HE := hide he
        clear he
        go_wp2
        go_round
        case rel => exact ⟨k + 1, by omega, by go_num⟩
        case measure => simp [intOf]; omega
    · go_wp2
      go_ret
      exact ⟨rfl, rfl⟩
end Go.Proofs.Ybulkajom.Vot
