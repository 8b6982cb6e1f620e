import Derived.Test.YbulkajomRound
import Derived.OpenShut
import Derived.LaidEqlPtr
/-! The walk of LawS1767BEnter. -/
namespace Go.Proofs.Ybulkajom.Enter
open Go.RowKit Go.Proofs.Ybulkajom.Pop Go.Proofs.Ybulkajom.Vot Go.Proofs.Ybulkajom.Msg Go.Proofs.Ybulkajom.Proc Go.Proofs.Ybulkajom.Cast Go.Proofs.Ybulkajom.Round

/-- What is known of the bytes that came in. -/
def Bytes (w : World) (ao : Option Addr) (len : Nat) (zs : List Int) : Prop :=
  len = 0 ∨ ∃ b off, ao = some ⟨b, off, none⟩ ∧ ∀ j, j < len → w.cell? ⟨b, off + j, none⟩ = some (.int .u8 (zs.getD j 0)) ∧ 0 ≤ zs.getD j 0 ∧ zs.getD j 0 ≤ 255

theorem set_len {ws : List Int} {k : Nat} {x : Int} {m : Nat} (h : ws.length = m) : (ws.set k x).length = m := by simpa using h

theorem _root_.Go.Proofs.Ybulkajom.Vot.Kept.andThen {a b c : World} {S T : List Nat} (h : Kept a b S) (k : Kept b c T) (hT : ∀ x ∈ T, x ∈ S ∨ a.heap.size ≤ x) : Kept a c S :=
  ⟨k.os.trans h.os, k.tape.trans h.tape, k.output.trans h.output, Nat.le_trans h.size k.size, fun i hi hn => (k.block i (by have := h.size; omega) (fun hm => by rcases hT i hm with e | e; exact hn e; omega)).trans (h.block i hi hn)⟩

theorem proc_pre {w : World} {P V m : Nat} {id n inst round phase : Int} {s : ByteArray} {mr mp : Int} {d : Bool} {L : Nat} (h : Proc w P V m id n inst round phase s mr mp d L) (dec : Bool) :
    Proc ((w.setCell ⟨P, 9, none⟩ (.bool dec)).setCell ⟨P, 4, none⟩ (.int .i64 2)) P V m id n inst round 2 s mr mp dec L := by
  have h1 := cells_setCell (k := 9) (u := .bool dec) h
  exact cells_setCell (k := 4) (u := .int .i64 2) h1

theorem words_zero_call (w : World) (V m n : Nat) (hw : Words w V (List.replicate m 0)) (hm : n / 64 + 1 = m) (hn : n ≤ 1000) :
    Calls Yba.prog 18 #[.slice (some ⟨V, 0, none⟩) m m, .int .i64 (n : Int), .int .i64 (-1)] w fun e w' => e = .returned (.bool true) ∧ w' = w := by
  have := words_no w V m (List.replicate m 0) n (fun j hj => hw.cell j hj) (by simp; omega) hn (fun j hj => by simp at hj; simp [hj])
  rwa [List.length_replicate] at this
theorem words_lone_call (w : World) (V m cap n id : Nat) (hw : Reads w V (soleW m id)) (hm : n / 64 + 1 = m) (hn : n ≤ 1000) (hid : id ≤ n) :
    Calls Yba.prog 18 #[.slice (some ⟨V, 0, none⟩) m cap, .int .i64 (n : Int), .int .i64 (id : Int)] w fun e w' => e = .returned (.bool true) ∧ w' = w := by
  have hlt : id / 64 < m := by have := Nat.div_le_div_right (c := 64) hid; omega
  have := words_id w V cap (soleW m id) n id hw (by rw [soleW_len]; omega) hn hid (fun j hj => soleW_get m id hlt j (by rw [soleW_len] at hj; exact hj))
  rwa [soleW_len] at this

theorem add_at (w : World) (P V : Nat) (ws : List Int) (cap i : Nat) (X : Int) (hX : X = (i : Int)) (hp : w.cell? ⟨P, 5, none⟩ = some (.slice (some ⟨V, 0, none⟩) ws.length cap)) (hw : Words w V ws) (hi : i / 64 < ws.length) (hi' : i ≤ 1000) :
    Calls Yba.prog 15 #[.pointer (some ⟨P, 5, none⟩), .int .i64 X] w fun e w' => e = .returned (.tuple #[]) ∧ Words w' V (ws.set (i / 64) (orBit (ws.getD (i / 64) 0) (i % 64))) ∧ Kept w w' [V] := by
  subst hX
  exact add_any w P V ws cap i hp hw hi hi'
theorem rem_of (z n : Nat) (h : z ≤ 255) : (IntKind.i64.wrap (z : Int)).tmod ((n : Int) + 1) = ((z % (n + 1) : Nat) : Int) := by
  have e : IntKind.i64.wrap (z : Int) = (z : Int) := by rw [IntKind.wrap_i64]; omega
  rw [e, Int.tmod_eq_emod_of_nonneg (by omega)]
  rfl

set_option maxRecDepth 100000 in
set_option maxHeartbeats 4000000 in
theorem walk_no (a0 a1 a2 : Int) (s : ByteArray) (r cause : Int) (ao : Option Addr) (len cap : Nat) (zs : List Int) (dec : Bool) (w : World) (hB : Bytes w ao len zs) (hlen : len ≤ 1024) (b00 : 0 ≤ a0) (b01 : a0 ≤ 65535) (b10 : 0 ≤ a1) (b11 : a1 ≤ 65535)
    (hr : -9223372036854775808 ≤ r) (hr' : r ≤ 9223372036854775807) (n id : Nat) (hn : (n : Int) = 1 + a0 % 300) (hid : (id : Int) = 1 + a1 % (n : Int)) (hc : (r.tmod n + 1 == (id : Int)) = false) :
    Calls Yba.prog 5 #[.int .u16 a0, .int .u16 a1, .int .u64 a2, .string s, .int .i64 r, .int .i64 cause, .slice ao len cap, .bool dec] w fun e w' => e = .returned (.bool true) ∧ Below w.heap.size w w' := by
  have n0 := Int.emod_nonneg a0 (show (300 : Int) ≠ 0 by omega)
  have n1 := Int.emod_lt_of_pos a0 (show (0 : Int) < 300 by omega)
  have i0 := Int.emod_nonneg a1 (show (n : Int) ≠ 0 by omega)
  have i1 := Int.emod_lt_of_pos a1 (show 0 < (n : Int) by omega)
  have hmf : ∀ (fn : Fn) (first cap : Array Value) (w : World), (Instr.makeFunc fn first cap).run Yba.prog w = .ok (.func fn first cap) w := fun _ _ _ _ => rfl
  have Hn := hide hn
  have Hid' := hide hid
  have i0' : 0 ≤ a1 % (1 + a0 % 300) := by rw [← hn]; exact i0
  have i1' : a1 % (1 + a0 % 300) < 1 + a0 % 300 := by rw [← hn]; exact i1
  clear hn hid i0 i1
  go_enter Yba.func5, Yba.ntmps5
  go_wp2_with fail
  rw [← Hn.out, ← Hid'.out]
  have hn1 : 1 ≤ n := by have := Hn.out; omega
  have hn2 : n ≤ 300 := by have := Hn.out; omega
  have hid1 : 1 ≤ id := by have h1 := Hid'.out; have h2 := Hn.out; rw [h2] at h1; omega
  have hid2 : id ≤ n := by have h1 := Hid'.out; have h2 := Hn.out; rw [h2] at h1; omega
  clear n0 n1 i0' i1' b00 b01 b10 b11 Hn Hid'
  have hL0 : (w.alloc (.cells #[.slice none 0 0] 35)).heap[w.heap.size]? = some (.cells #[.slice none 0 0] 35 (0, 0)) := heap_alloc_new w _
  have k0 : Kept w (w.alloc (.cells #[.slice none 0 0] 35)) [] := (Kept.refl w []).alloc _
  refine (newProcess_any _ id n a2 s w.heap.size (by omega)).mono ?_
  rintro e w1 ⟨P, V, rfl, hp1, hw1, hV1, hVP1, hk1⟩
  have hL1 : w1.heap[w.heap.size]? = some (.cells #[.slice none 0 0] 35 (0, 0)) := Kept.heap hk1 hL0 (by simp)
  have k1 := k0.trans hk1
  have hVw : w.heap.size < V := by simp at hV1; omega
  obtain ⟨m, Hm⟩ : ∃ m, Hid (n / 64 + 1 = m) := ⟨_, rfl⟩
  rw [Hm.out] at hp1 hw1
  have hm0 : 0 < m := by have := Hm.out; omega
  have hm5 : m ≤ 5 := by have := Hm.out; omega
  have hmn : n / 64 < m := by have := Hm.out; omega
  clear hL0 k0 hk1 hV1
  go_wp2_with fail
  go_loopw [45] (fun i wr => ∃ (k : Nat) (ws : List Int), i = .int .i64 (k : Int) ∧ k ≤ len ∧ Proc wr P V m id n a2 0 0 s 0 0 false w.heap.size ∧ Words wr V ws ∧ ws.length = m ∧ wr.heap[w.heap.size]? = some (.cells #[.slice none 0 0] 35 (0, 0)) ∧ Kept w wr [])
    (fun i _ => len - (intOf i).toNat)
  case atStart => exact ⟨0, List.replicate m 0, rfl, Nat.zero_le _, hp1, hw1, by simp, hL1, k1⟩
  case round =>
    obtain ⟨k, ws, rfl, hk, hp, hw, hwl, hL, hkp⟩ := hrel
    clear hp1 hw1 hL1 k1
    by_cases hlt : k < len
    · obtain ⟨b, off, hE, hcell, hz0, hz1⟩ : ∃ b off, ao = some ⟨b, off, none⟩ ∧ wr.cell? ⟨b, off + k, none⟩ = some (.int .u8 (zs.getD k 0)) ∧ 0 ≤ zs.getD k 0 ∧ zs.getD k 0 ≤ 255 := by
        rcases hB with h | ⟨b, off, h1, h2⟩
        · omega
        · obtain ⟨g1, g2, g3⟩ := h2 k hlt
          exact ⟨b, off, h1, (World.cell?_of_block (w := w) (w' := wr) (a := ⟨b, off + k, none⟩) (hkp.block b (World.block_lt_of_cell? w _ g1) (by simp))).trans g1, g2, g3⟩
      generalize zs.getD k 0 = z at *
      obtain ⟨zn, rfl⟩ := Int.eq_ofNat_of_zero_le hz0
      have hpd : Proc wr.drew P V m id n a2 0 0 s 0 0 false w.heap.size := hp
      subst hE
      have hwr : IntKind.i64.wrap ((n : Int) + 1) = (n : Int) + 1 := by rw [IntKind.wrap_i64]; omega
      have hnz : ¬ (n : Int) + 1 = 0 := by omega
      have HX := hide (rem_of zn n (by omega))
      have hmod := Nat.mod_lt zn (show 0 < n + 1 by omega)
      have hdiv : zn % (n + 1) / 64 < ws.length := by rw [hwl]; exact Nat.lt_of_le_of_lt (Nat.div_le_div_right (by omega)) hmn
      have hc5 : wr.drew.cell? ⟨P, 5, none⟩ = some (.slice (some ⟨V, 0, none⟩) ws.length ws.length) := by rw [hwl]; exact cell_at hp 5
      go_wp2_with fail
      go_region_held3 (fun _ => True) (trivial)
        (first
          | (go_at_call 15; refine (add_at wr.drew P V ws ws.length (zn % (n + 1)) _ HX.out hc5 hw hdiv (by omega)).mono ?_; rintro e w4 ⟨rfl, hw4, hk4⟩))
      have hp4 : Proc w4 P V m id n a2 0 0 s 0 0 false w.heap.size := Kept.heap (a := wr.drew) hk4 hp (by simp; omega)
      have hL4 : w4.heap[w.heap.size]? = some (.cells #[.slice none 0 0] 35 (0, 0)) := Kept.heap (a := wr.drew) hk4 hL (by simp; omega)
      have k4 : Kept w w4 [] := hkp.drew.andThen hk4 (by simp; omega)
      clear hcell HX hk4 hp hw hL hkp hpd hc5 hdiv hmod hwr hnz
      go_wp2
      go_roundw
      case rel => exact ⟨k + 1, _, by go_num, by omega, hp4, hw4, set_len hwl, hL4, k4⟩
      case measure => simp [intOf]; omega
    · have c9 : wr.cell? ⟨P, 9, none⟩ = some (.bool false) := cell_at hp 9
      have f9 : wr.frozen? ⟨P, 9, none⟩ = false := free_at hp 9
      have c4 : wr.cell? ⟨P, 4, none⟩ = some (.int .i64 0) := cell_at hp 4
      have f4 : wr.frozen? ⟨P, 4, none⟩ = false := free_at hp 4
      have hp2 := proc_pre hp dec
      have hw2 := Words.other (Words.other hw (p := ⟨P, 9, none⟩) (u := .bool dec) (show V ≠ P by omega)) (p := ⟨P, 4, none⟩) (u := .int .i64 2) (show V ≠ P by omega)
      have hL2 : ((wr.setCell ⟨P, 9, none⟩ (.bool dec)).setCell ⟨P, 4, none⟩ (.int .i64 2)).heap[w.heap.size]? = some (.cells #[.slice none 0 0] 35 (0, 0)) := ((Below.heap_setCell _ _ _ _ (show w.heap.size ≠ P by omega)).trans (Below.heap_setCell _ _ _ _ (show w.heap.size ≠ P by omega))).trans hL
      have k2 : Kept w ((wr.setCell ⟨P, 9, none⟩ (.bool dec)).setCell ⟨P, 4, none⟩ (.int .i64 2)) [] := (hkp.setNew (p := ⟨P, 9, none⟩) (by simp; omega) _).setNew (p := ⟨P, 4, none⟩) (by simp; omega) _
      clear hB
      go_wp2_with fail
      refine (start_no _ P V m id n a2 0 2 r cause s 0 0 dec w.heap.size ws hp2 hw2 hwl hm0 hm5 (by omega) hr hr' hn1 hn2 hc).mono ?_
      rintro e w5 ⟨rfl, hp5, hw5, hk5⟩
      have k5 : Kept w w5 [] := k2.andThen hk5 (by simp; omega)
      have hL5 : w5.heap[w.heap.size]? = some (.cells #[.slice none 0 0] 35 (0, 0)) := Kept.heap hk5 hL2 (by simp; omega)
      have hB5 : Below w.heap.size w w5 := k5.below (Nat.le_refl _) (by simp)
      clear c9 f9 c4 f4 hp2 hw2 hL2 k2 hk5 hp hw hL hkp k5 hlt hk hm0 hm5
      have c0 : w5.cell? ⟨P, 0, none⟩ = some (.int .i64 (id : Int)) := cell_at hp5 0
      have c1 : w5.cell? ⟨P, 1, none⟩ = some (.int .i64 (n : Int)) := cell_at hp5 1
      have c2 : w5.cell? ⟨P, 2, none⟩ = some (.int .u64 a2) := cell_at hp5 2
      have c3 : w5.cell? ⟨P, 3, none⟩ = some (.int .i64 r) := cell_at hp5 3
      have c4 : w5.cell? ⟨P, 4, none⟩ = some (.int .i64 1) := cell_at hp5 4
      have c5 : w5.cell? ⟨P, 5, none⟩ = some (.slice (some ⟨V, 0, none⟩) m m) := cell_at hp5 5
      have c6 : w5.cell? ⟨P, 6, none⟩ = some (.string s) := cell_at hp5 6
      have c7 : w5.cell? ⟨P, 7, none⟩ = some (.int .i64 0) := cell_at hp5 7
      have c8 : w5.cell? ⟨P, 8, none⟩ = some (.int .i64 0) := cell_at hp5 8
      have c9 : w5.cell? ⟨P, 9, none⟩ = some (.bool dec) := cell_at hp5 9
      have cL := cell_of_one hL5
      have hc2 : (r.tmod n == (id : Int) - 1) = false := by rw [beq_eq_false_iff_ne] at hc ⊢; omega
      go_wp2_with fail
      refine (procCoord_any w5 P V m id n a2 r 1 s 0 0 dec w.heap.size hp5 hr hr' hn1 hn2).mono ?_
      rintro e w6 ⟨rfl, q6, hq6⟩
      rw [hq6]
      clear hq6
      have HW := hide (words_zero_call (w5.drewN q6) V m n hw5 Hm.out (by omega))
      cases dec
      all_goals
        go_wp2_with fail
        refine (HW.out).mono ?_
        rintro e w7 ⟨rfl, hw7⟩
        have hB7 : Below w.heap.size w w7 := by rw [hw7]; exact below_drewN hB5 _
        clear hw7
        go_wp2
        go_ret
        exact ⟨rfl, hB7⟩
set_option maxRecDepth 100000 in
set_option maxHeartbeats 4000000 in
theorem walk_yes (a0 a1 a2 : Int) (s : ByteArray) (r cause : Int) (ao : Option Addr) (len cap : Nat) (zs : List Int) (dec : Bool) (w : World) (hB : Bytes w ao len zs) (hlen : len ≤ 1024) (b00 : 0 ≤ a0) (b01 : a0 ≤ 65535) (b10 : 0 ≤ a1) (b11 : a1 ≤ 65535)
    (hr : -9223372036854775808 ≤ r) (hr' : r ≤ 9223372036854775807) (n id : Nat) (hn : (n : Int) = 1 + a0 % 300) (hid : (id : Int) = 1 + a1 % (n : Int)) (hc : (r.tmod n + 1 == (id : Int)) = true) :
    Calls Yba.prog 5 #[.int .u16 a0, .int .u16 a1, .int .u64 a2, .string s, .int .i64 r, .int .i64 cause, .slice ao len cap, .bool dec] w fun e w' => e = .returned (.bool true) ∧ Below w.heap.size w w' := by
  have n0 := Int.emod_nonneg a0 (show (300 : Int) ≠ 0 by omega)
  have n1 := Int.emod_lt_of_pos a0 (show (0 : Int) < 300 by omega)
  have i0 := Int.emod_nonneg a1 (show (n : Int) ≠ 0 by omega)
  have i1 := Int.emod_lt_of_pos a1 (show 0 < (n : Int) by omega)
  have hmf : ∀ (fn : Fn) (first cap : Array Value) (w : World), (Instr.makeFunc fn first cap).run Yba.prog w = .ok (.func fn first cap) w := fun _ _ _ _ => rfl
  have Hn := hide hn
  have Hid' := hide hid
  have i0' : 0 ≤ a1 % (1 + a0 % 300) := by rw [← hn]; exact i0
  have i1' : a1 % (1 + a0 % 300) < 1 + a0 % 300 := by rw [← hn]; exact i1
  clear hn hid i0 i1
  go_enter Yba.func5, Yba.ntmps5
  go_wp2_with fail
  rw [← Hn.out, ← Hid'.out]
  have hn1 : 1 ≤ n := by have := Hn.out; omega
  have hn2 : n ≤ 300 := by have := Hn.out; omega
  have hid1 : 1 ≤ id := by have h1 := Hid'.out; have h2 := Hn.out; rw [h2] at h1; omega
  have hid2 : id ≤ n := by have h1 := Hid'.out; have h2 := Hn.out; rw [h2] at h1; omega
  clear n0 n1 i0' i1' b00 b01 b10 b11 Hn Hid'
  have hL0 : (w.alloc (.cells #[.slice none 0 0] 35)).heap[w.heap.size]? = some (.cells #[.slice none 0 0] 35 (0, 0)) := heap_alloc_new w _
  have k0 : Kept w (w.alloc (.cells #[.slice none 0 0] 35)) [] := (Kept.refl w []).alloc _
  refine (newProcess_any _ id n a2 s w.heap.size (by omega)).mono ?_
  rintro e w1 ⟨P, V, rfl, hp1, hw1, hV1, hVP1, hk1⟩
  have hL1 : w1.heap[w.heap.size]? = some (.cells #[.slice none 0 0] 35 (0, 0)) := Kept.heap hk1 hL0 (by simp)
  have k1 := k0.trans hk1
  have hVw : w.heap.size < V := by simp at hV1; omega
  obtain ⟨m, Hm⟩ : ∃ m, Hid (n / 64 + 1 = m) := ⟨_, rfl⟩
  rw [Hm.out] at hp1 hw1
  have hm0 : 0 < m := by have := Hm.out; omega
  have hm5 : m ≤ 5 := by have := Hm.out; omega
  have hmn : n / 64 < m := by have := Hm.out; omega
  clear hL0 k0 hk1 hV1
  go_wp2_with fail
  go_loopw [45] (fun i wr => ∃ (k : Nat) (ws : List Int), i = .int .i64 (k : Int) ∧ k ≤ len ∧ Proc wr P V m id n a2 0 0 s 0 0 false w.heap.size ∧ Words wr V ws ∧ ws.length = m ∧ wr.heap[w.heap.size]? = some (.cells #[.slice none 0 0] 35 (0, 0)) ∧ Kept w wr [])
    (fun i _ => len - (intOf i).toNat)
  case atStart => exact ⟨0, List.replicate m 0, rfl, Nat.zero_le _, hp1, hw1, by simp, hL1, k1⟩
  case round =>
    obtain ⟨k, ws, rfl, hk, hp, hw, hwl, hL, hkp⟩ := hrel
    clear hp1 hw1 hL1 k1
    by_cases hlt : k < len
    · obtain ⟨b, off, hE, hcell, hz0, hz1⟩ : ∃ b off, ao = some ⟨b, off, none⟩ ∧ wr.cell? ⟨b, off + k, none⟩ = some (.int .u8 (zs.getD k 0)) ∧ 0 ≤ zs.getD k 0 ∧ zs.getD k 0 ≤ 255 := by
        rcases hB with h | ⟨b, off, h1, h2⟩
        · omega
        · obtain ⟨g1, g2, g3⟩ := h2 k hlt
          exact ⟨b, off, h1, (World.cell?_of_block (w := w) (w' := wr) (a := ⟨b, off + k, none⟩) (hkp.block b (World.block_lt_of_cell? w _ g1) (by simp))).trans g1, g2, g3⟩
      generalize zs.getD k 0 = z at *
      obtain ⟨zn, rfl⟩ := Int.eq_ofNat_of_zero_le hz0
      have hpd : Proc wr.drew P V m id n a2 0 0 s 0 0 false w.heap.size := hp
      subst hE
      have hwr : IntKind.i64.wrap ((n : Int) + 1) = (n : Int) + 1 := by rw [IntKind.wrap_i64]; omega
      have hnz : ¬ (n : Int) + 1 = 0 := by omega
      have HX := hide (rem_of zn n (by omega))
      have hmod := Nat.mod_lt zn (show 0 < n + 1 by omega)
      have hdiv : zn % (n + 1) / 64 < ws.length := by rw [hwl]; exact Nat.lt_of_le_of_lt (Nat.div_le_div_right (by omega)) hmn
      have hc5 : wr.drew.cell? ⟨P, 5, none⟩ = some (.slice (some ⟨V, 0, none⟩) ws.length ws.length) := by rw [hwl]; exact cell_at hp 5
      go_wp2_with fail
      go_region_held3 (fun _ => True) (trivial)
        (first
          | (go_at_call 15; refine (add_at wr.drew P V ws ws.length (zn % (n + 1)) _ HX.out hc5 hw hdiv (by omega)).mono ?_; rintro e w4 ⟨rfl, hw4, hk4⟩))
      have hp4 : Proc w4 P V m id n a2 0 0 s 0 0 false w.heap.size := Kept.heap (a := wr.drew) hk4 hp (by simp; omega)
      have hL4 : w4.heap[w.heap.size]? = some (.cells #[.slice none 0 0] 35 (0, 0)) := Kept.heap (a := wr.drew) hk4 hL (by simp; omega)
      have k4 : Kept w w4 [] := hkp.drew.andThen hk4 (by simp; omega)
      clear hcell HX hk4 hp hw hL hkp hpd hc5 hdiv hmod hwr hnz
      go_wp2
      go_roundw
      case rel => exact ⟨k + 1, _, by go_num, by omega, hp4, hw4, set_len hwl, hL4, k4⟩
      case measure => simp [intOf]; omega
    · have c9 : wr.cell? ⟨P, 9, none⟩ = some (.bool false) := cell_at hp 9
      have f9 : wr.frozen? ⟨P, 9, none⟩ = false := free_at hp 9
      have c4 : wr.cell? ⟨P, 4, none⟩ = some (.int .i64 0) := cell_at hp 4
      have f4 : wr.frozen? ⟨P, 4, none⟩ = false := free_at hp 4
      have hp2 := proc_pre hp dec
      have hw2 := Words.other (Words.other hw (p := ⟨P, 9, none⟩) (u := .bool dec) (show V ≠ P by omega)) (p := ⟨P, 4, none⟩) (u := .int .i64 2) (show V ≠ P by omega)
      have hL2 : ((wr.setCell ⟨P, 9, none⟩ (.bool dec)).setCell ⟨P, 4, none⟩ (.int .i64 2)).heap[w.heap.size]? = some (.cells #[.slice none 0 0] 35 (0, 0)) := ((Below.heap_setCell _ _ _ _ (show w.heap.size ≠ P by omega)).trans (Below.heap_setCell _ _ _ _ (show w.heap.size ≠ P by omega))).trans hL
      have k2 : Kept w ((wr.setCell ⟨P, 9, none⟩ (.bool dec)).setCell ⟨P, 4, none⟩ (.int .i64 2)) [] := (hkp.setNew (p := ⟨P, 9, none⟩) (by simp; omega) _).setNew (p := ⟨P, 4, none⟩) (by simp; omega) _
      clear hB
      go_wp2_with fail
      have hidm : id / 64 < m := Nat.lt_of_le_of_lt (Nat.div_le_div_right hid2) hmn
      refine (start_yes _ P V m id n a2 0 2 r cause s 0 0 dec w.heap.size ws hp2 hw2 hwl hm0 hm5 (by omega) (by omega) (by omega) hL2 hidm hid2 hr hr' hn1 hn2 hc).mono ?_
      rintro e w5 ⟨rfl, M, C, capC, G, hp5, hw5, hM5, hC5, hS5, hCz, hk5⟩
      have k5 : Kept w w5 [] := k2.andThen hk5 (by simp; omega)
      have hB5 : Below w.heap.size w w5 := k5.below (Nat.le_refl _) (by simp)
      have hVC : ¬ C = V := by have := hw2.lt; omega
      clear c9 f9 c4 f4 hp2 hw2 hL2 k2 hk5 hp hw hL hkp k5 hlt hk hm5 hCz hidm
      have c0 : w5.cell? ⟨P, 0, none⟩ = some (.int .i64 (id : Int)) := cell_at hp5 0
      have c1 : w5.cell? ⟨P, 1, none⟩ = some (.int .i64 (n : Int)) := cell_at hp5 1
      have c2 : w5.cell? ⟨P, 2, none⟩ = some (.int .u64 a2) := cell_at hp5 2
      have c3 : w5.cell? ⟨P, 3, none⟩ = some (.int .i64 r) := cell_at hp5 3
      have c4 : w5.cell? ⟨P, 4, none⟩ = some (.int .i64 1) := cell_at hp5 4
      have c5 : w5.cell? ⟨P, 5, none⟩ = some (.slice (some ⟨V, 0, none⟩) m m) := cell_at hp5 5
      have c6 : w5.cell? ⟨P, 6, none⟩ = some (.string s) := cell_at hp5 6
      have c7 : w5.cell? ⟨P, 7, none⟩ = some (.int .i64 r) := cell_at hp5 7
      have c8 : w5.cell? ⟨P, 8, none⟩ = some (.int .i64 (id : Int)) := cell_at hp5 8
      have c9 : w5.cell? ⟨P, 9, none⟩ = some (.bool (dec || decide ((n : Int) < 2 * 1))) := cell_at hp5 9
      obtain ⟨capG, hLG⟩ := hS5.var
      have cL := cell_of_one hLG
      have g0 := hS5.c0
      have g1 := hS5.c1
      have m0 : w5.cell? ⟨M, 0, none⟩ = some (.int .u64 a2) := cell_at hM5 0
      have m1 : w5.cell? ⟨M, 1, none⟩ = some (.int .i64 r) := cell_at hM5 1
      have m2 : w5.cell? ⟨M, 2, none⟩ = some (.int .i64 1) := cell_at hM5 2
      have m3 : w5.cell? ⟨M, 3, none⟩ = some (.slice (some ⟨C, 0, none⟩) m capC) := cell_at hM5 3
      have m4 : w5.cell? ⟨M, 4, none⟩ = some (.string s) := cell_at hM5 4
      have m5 : w5.cell? ⟨M, 5, none⟩ = some (.int .i64 r) := cell_at hM5 5
      have m6 : w5.cell? ⟨M, 6, none⟩ = some (.int .i64 (id : Int)) := cell_at hM5 6
      have hc2 : (r.tmod n == (id : Int) - 1) = true := by rw [beq_iff_eq] at hc ⊢; omega
      have HW1 := hide (fun q => words_lone_call (w5.drewN q) V m m n id (fun j hj => hw5.cell j hj) Hm.out (by omega) hid2)
      have HW2 := hide (fun q => words_lone_call (w5.drewN q) C m capC n id hC5.1 Hm.out (by omega) hid2)
      have hm0' : (0 : Int) < (m : Int) := by omega
      have hne : ∀ q, (binOp .eql 57 (.pointer (some ⟨C, 0, none⟩)) (.pointer (some ⟨V, 0, none⟩))).run Yba.prog (w5.drewN q) = .ok (.bool false) (w5.drewN q) := by
        intro q
        obtain ⟨cur, hcur⟩ := hC5.2
        obtain ⟨j33, h33, _, hj1, _⟩ := info_parts info33
        exact run_eql_ptr_other (w5.drewN q) Yba.underlying57 h33 (by rw [hj1]; decide) (by intro e; injection e with e1; exact hVC e1) hcur hw5
      go_wp2_with fail
      refine (procCoord_any w5 P V m id n a2 r 1 s r id _ w.heap.size hp5 hr hr' hn1 hn2).mono ?_
      rintro e w6 ⟨rfl, q6, hq6⟩
      rw [hq6]
      clear hq6 hp5 hw5 hM5 hC5 hS5 hLG
      obtain ⟨dv, hdv, hcs⟩ : ∃ dv, (dec || decide ((n : Int) < 2 * 1)) = dv ∧ ((dec = true ∧ dv = true) ∨ (dec = false ∧ dv = true ∧ ((n : Int) == 1) = true) ∨ (dec = false ∧ dv = false ∧ ((n : Int) == 1) = false)) := by
        refine ⟨_, rfl, ?_⟩
        cases dec
        · right
          by_cases h : n = 1
          · left; subst h; simp
          · right; refine ⟨rfl, ?_, ?_⟩
            · simp; omega
            · simp; omega
        · left; simp
      rw [hdv] at c9
      clear hdv
      rcases hcs with ⟨rfl, rfl⟩ | ⟨rfl, rfl, hn1'⟩ | ⟨rfl, rfl, hn1'⟩
      all_goals
        go_wp2_with fail
        go_quiet (fail)
        go_wp2_with fail
        refine (HW1.out _).mono ?_
        rintro e w7 ⟨rfl, hw7⟩
        rw [hw7]
        clear hw7
        go_wp2_with fail
        refine (HW2.out _).mono ?_
        rintro e w8 ⟨rfl, hw8⟩
        rw [hw8]
        clear hw8
        go_wp2_with fail
        go_quiet (fail)
        go_wp2
        go_ret
        exact ⟨rfl, below_drewN (below_drewN hB5 _) _⟩
end Go.Proofs.Ybulkajom.Enter
