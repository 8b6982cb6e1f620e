import Derived.Test.YbulkajomCast
/-! The contract of Process.startRound. -/
namespace Go.Proofs.Ybulkajom.Round
open Go.RowKit Go.Proofs.Ybulkajom.Pop Go.Proofs.Ybulkajom.Vot Go.Proofs.Ybulkajom.Msg Go.Proofs.Ybulkajom.Proc Go.Proofs.Ybulkajom.Cast

theorem total_zero (m : Nat) : total (List.replicate m 0) = 0 := by
  unfold total
  rw [List.map_replicate, pop_zero]
  induction m with
  | zero => rfl
  | succ m ih => rw [List.replicate_succ, List.foldl_cons]; exact ih
theorem pop_zeros (m : Nat) : ∀ k, k < (List.replicate m (0 : Int)).length → 0 ≤ pop ((List.replicate m (0 : Int)).getD k 0) ∧ pop ((List.replicate m (0 : Int)).getD k 0) ≤ 127 := by
  intro k hk
  have e : (List.replicate m (0 : Int)).getD k 0 = 0 := by simp [List.getElem?_replicate]; split <;> rfl
  rw [e, pop_zero]
  omega

/-- Stores at the round and the phase. -/
theorem proc_start {w : World} {P V m : Nat} {id n inst round phase : Int} {s : ByteArray} {mr mp : Int} {dec : Bool} {L : Nat} (h : Proc w P V m id n inst round phase s mr mp dec L) (r : Int) :
    Proc ((w.setCell ⟨P, 3, none⟩ (.int .i64 r)).setCell ⟨P, 4, none⟩ (.int .i64 1)) P V m id n inst r 1 s mr mp dec L := by
  have h1 := cells_setCell (k := 3) (u := .int .i64 r) h
  exact cells_setCell (k := 4) (u := .int .i64 1) h1
theorem proc_mark {w : World} {P V m : Nat} {id n inst round phase : Int} {s : ByteArray} {mr mp : Int} {dec : Bool} {L : Nat} (h : Proc w P V m id n inst round phase s mr mp dec L) (a b : Int) :
    Proc ((w.setCell ⟨P, 7, none⟩ (.int .i64 a)).setCell ⟨P, 8, none⟩ (.int .i64 b)) P V m id n inst round phase s a b dec L := by
  have h1 := cells_setCell (k := 7) (u := .int .i64 a) h
  exact cells_setCell (k := 8) (u := .int .i64 b) h1
theorem Words.other {w : World} {V : Nat} {ws : List Int} (h : Words w V ws) {p : Addr} {u : Value} (hp : V ≠ p.block) : Words (w.setCell p u) V ws := (Below.heap_setCell _ _ _ _ hp).trans h

set_option maxHeartbeats 2000000 in
theorem start_no (w : World) (P V m : Nat) (id n : Nat) (inst round phase r cause : Int) (s : ByteArray) (mr mp : Int) (dec : Bool) (L : Nat) (ws : List Int) (hp : Proc w P V m id n inst round phase s mr mp dec L) (hw : Words w V ws) (hm : ws.length = m) (hm0 : 0 < m) (hm' : m ≤ 5)
    (hVP : V ≠ P) (hr : -9223372036854775808 ≤ r) (hr' : r ≤ 9223372036854775807) (hn : 1 ≤ n) (hn' : n ≤ 300) (hc : (r.tmod n + 1 == (id : Int)) = false) :
    Calls Yba.prog 16 #[.pointer (some ⟨P, 0, none⟩), .int .i64 r, .int .i64 cause] w fun e w' => e = .returned (.tuple #[]) ∧ Proc w' P V m id n inst r 1 s mr mp dec L ∧ Words w' V (List.replicate m 0) ∧ Kept w w' [P, V] := by
  subst hm
  have f3 : w.frozen? ⟨P, 3, none⟩ = false := free_at hp 3
  have f4 : w.frozen? ⟨P, 4, none⟩ = false := free_at hp 4
  have c3 : w.cell? ⟨P, 3, none⟩ = some (.int .i64 round) := cell_at hp 3
  have c4 : w.cell? ⟨P, 4, none⟩ = some (.int .i64 phase) := cell_at hp 4
  have hp1 := proc_start hp r
  have hw1 := Words.other (Words.other hw (p := ⟨P, 3, none⟩) (u := .int .i64 r) hVP) (p := ⟨P, 4, none⟩) (u := .int .i64 1) hVP
  have k1 : Kept w ((w.setCell ⟨P, 3, none⟩ (.int .i64 r)).setCell ⟨P, 4, none⟩ (.int .i64 1)) [P, V] := ((Kept.refl w [P, V]).setCell (p := ⟨P, 3, none⟩) (by simp) _).setCell (p := ⟨P, 4, none⟩) (by simp) _
  go_enter Yba.func16, Yba.ntmps16
  go_wp2_with fail
  refine (clear_any _ P V ws ws.length (cell_at hp1 5) hw1 hm0).mono ?_
  rintro e w2 ⟨rfl, hw2, hk2⟩
  have hp2 : Proc w2 P V ws.length id n inst r 1 s mr mp dec L := Kept.heap hk2 hp1 (by simpa using Ne.symm hVP)
  have k2 := k1.trans (hk2.mono (by simp))
  clear hp1 hw1 k1 hk2 hp c3 c4 f3 f4
  have c0 : w2.cell? ⟨P, 0, none⟩ = some (.int .i64 (id : Int)) := cell_at hp2 0
  have c1 : w2.cell? ⟨P, 1, none⟩ = some (.int .i64 (n : Int)) := cell_at hp2 1
  go_wp2_with fail
  go_quiet ((go_at_call 25; exact Calls.quiet_of_same (coord_any r n _ hr hr' (by omega) (by omega))))
  go_wp2_with fail
  refine (conclude_any (w2.drewN nq) P V ws.length id n inst r cause s mr mp dec L (List.replicate ws.length 0) 0 hp2 hw2 (by simp) hm' (pop_zeros _) (total_zero _) (by omega) (by omega)).mono ?_
  rintro e w3 ⟨rfl, hp3, hk3⟩
  go_wp2
  go_end0
  refine ⟨rfl, ?_, Kept.words hk3 hw2 (by simpa using hVP), (k2.drewN _).trans (hk3.mono (by simp))⟩
  have : decide ((n : Int) < 2 * 0) = false := by simp
  rw [this, Bool.or_false] at hp3
  exact hp3

/-- The words that hold process id alone. -/
def soleW (m id : Nat) : List Int := (List.replicate m (0 : Int)).set (id / 64) (orBit ((List.replicate m (0 : Int)).getD (id / 64) 0) (id % 64))
theorem soleW_len (m id : Nat) : (soleW m id).length = m := by simp [soleW]
theorem soleW_get (m id : Nat) (h : id / 64 < m) (j : Nat) (hj : j < m) : (soleW m id).getD j 0 = if j = id / 64 then (2 : Int) ^ (id % 64) else 0 := by
  unfold soleW
  have e : (List.replicate m (0 : Int)).getD (id / 64) 0 = 0 := by simp [h]
  rw [e, orBit_zero _ (Nat.mod_lt _ (by omega))]
  by_cases hx : j = id / 64
  · subst hx; simp [h]
  · rw [if_neg hx]
    simp [Ne.symm hx, hj]
theorem soleW_pop (m id : Nat) (h : id / 64 < m) : ∀ k, k < (soleW m id).length → 0 ≤ pop ((soleW m id).getD k 0) ∧ pop ((soleW m id).getD k 0) ≤ 127 := by
  intro k hk
  rw [soleW_len] at hk
  rw [soleW_get m id h k hk]
  split
  · rw [pop_one ⟨id % 64, Nat.mod_lt _ (by omega)⟩]; omega
  · rw [pop_zero]; omega
theorem total_set (m k : Nat) (h : k < m) (x : Int) : total ((List.replicate m (0 : Int)).set k x) = pop x := by
  unfold total
  rw [List.map_set, List.map_replicate, pop_zero]
  have gen : ∀ (m k : Nat) (a y : Int), k < m → List.foldl (· + ·) a ((List.replicate m (0 : Int)).set k y) = a + y := by
    intro m
    induction m with
    | zero => intro k a y h; omega
    | succ m ih =>
      intro k a y h
      cases k with
      | zero =>
        rw [List.replicate_succ, List.set_cons_zero, List.foldl_cons]
        have z : ∀ (m : Nat) (b : Int), List.foldl (· + ·) b (List.replicate m (0 : Int)) = b := by
          intro m; induction m with
          | zero => intro b; rfl
          | succ m ih => intro b; rw [List.replicate_succ, List.foldl_cons, ih]; omega
        exact z m _
      | succ k => rw [List.replicate_succ, List.set_cons_succ, List.foldl_cons, ih k _ y (by omega)]; omega
  rw [gen m k 0 (pop x) h]
  omega
theorem soleW_total (m id : Nat) (h : id / 64 < m) : total (soleW m id) = 1 := by
  unfold soleW
  have e : (List.replicate m (0 : Int)).getD (id / 64) 0 = 0 := by simp [h]
  rw [e, orBit_zero _ (Nat.mod_lt _ (by omega)), total_set m _ h]
  exact pop_one ⟨id % 64, Nat.mod_lt _ (by omega)⟩

set_option maxHeartbeats 2000000 in
theorem start_yes (w : World) (P V m : Nat) (id n : Nat) (inst round phase r cause : Int) (s : ByteArray) (mr mp : Int) (dec : Bool) (L : Nat) (ws : List Int) (hp : Proc w P V m id n inst round phase s mr mp dec L) (hw : Words w V ws) (hm : ws.length = m) (hm0 : 0 < m) (hm' : m ≤ 5)
    (hVP : V ≠ P) (hLP : L ≠ P) (hLV : L ≠ V) (hL : w.heap[L]? = some (.cells #[.slice none 0 0] 35 (0, 0))) (hid : id / 64 < m) (hidn : id ≤ n) (hr : -9223372036854775808 ≤ r) (hr' : r ≤ 9223372036854775807) (hn : 1 ≤ n) (hn' : n ≤ 300) (hc : (r.tmod n + 1 == (id : Int)) = true) :
    Calls Yba.prog 16 #[.pointer (some ⟨P, 0, none⟩), .int .i64 r, .int .i64 cause] w fun e w' => e = .returned (.tuple #[]) ∧ ∃ M C cap G, Proc w' P V m id n inst r 1 s r id (dec || decide ((n : Int) < 2 * 1)) L ∧ Words w' V (soleW m id) ∧
      Mess w' M C m cap inst r 1 s r id ∧ Row w' C (soleW m id) ∧ Sent w' L G M cause ∧ w.heap.size ≤ C ∧ Kept w w' [P, V, L] := by
  subst hm
  have f3 : w.frozen? ⟨P, 3, none⟩ = false := free_at hp 3
  have f4 : w.frozen? ⟨P, 4, none⟩ = false := free_at hp 4
  have c3 : w.cell? ⟨P, 3, none⟩ = some (.int .i64 round) := cell_at hp 3
  have c4 : w.cell? ⟨P, 4, none⟩ = some (.int .i64 phase) := cell_at hp 4
  have hp1 := proc_start hp r
  have hw1 := Words.other (Words.other hw (p := ⟨P, 3, none⟩) (u := .int .i64 r) hVP) (p := ⟨P, 4, none⟩) (u := .int .i64 1) hVP
  have k1 : Kept w ((w.setCell ⟨P, 3, none⟩ (.int .i64 r)).setCell ⟨P, 4, none⟩ (.int .i64 1)) [P, V, L] := ((Kept.refl w [P, V, L]).setCell (p := ⟨P, 3, none⟩) (by simp) _).setCell (p := ⟨P, 4, none⟩) (by simp) _
  have hL1 : ((w.setCell ⟨P, 3, none⟩ (.int .i64 r)).setCell ⟨P, 4, none⟩ (.int .i64 1)).heap[L]? = some (.cells #[.slice none 0 0] 35 (0, 0)) := ((Below.heap_setCell _ _ _ _ hLP).trans (Below.heap_setCell _ _ _ _ hLP)).trans hL
  go_enter Yba.func16, Yba.ntmps16
  go_wp2_with fail
  refine (clear_any _ P V ws ws.length (cell_at hp1 5) hw1 hm0).mono ?_
  rintro e w2 ⟨rfl, hw2, hk2⟩
  have hp2 : Proc w2 P V ws.length id n inst r 1 s mr mp dec L := Kept.heap hk2 hp1 (by simpa using Ne.symm hVP)
  have hL2 : w2.heap[L]? = some (.cells #[.slice none 0 0] 35 (0, 0)) := Kept.heap hk2 hL1 (by simpa using hLV)
  have k2 := k1.trans (hk2.mono (T := [P, V, L]) (by simp))
  clear hp1 hw1 k1 hk2 hp c3 c4 f3 f4 hL1 hL
  have c0 : w2.cell? ⟨P, 0, none⟩ = some (.int .i64 (id : Int)) := cell_at hp2 0
  have c1 : w2.cell? ⟨P, 1, none⟩ = some (.int .i64 (n : Int)) := cell_at hp2 1
  go_wp2_with fail
  go_quiet ((go_at_call 25; exact Calls.quiet_of_same (coord_any r n _ hr hr' (by omega) (by omega))))
  obtain ⟨w3, hw3e⟩ : ∃ w3, w3 = w2.drewN nq := ⟨_, rfl⟩
  have hp3 : Proc w3 P V ws.length id n inst r 1 s mr mp dec L := by rw [hw3e]; exact hp2
  have hL3 : w3.heap[L]? = some (.cells #[.slice none 0 0] 35 (0, 0)) := by rw [hw3e]; exact hL2
  have hw3 : Words w3 V (List.replicate ws.length 0) := by rw [hw3e]; exact hw2
  have k3 : Kept w w3 [P, V, L] := by rw [hw3e]; exact k2.drewN _
  rw [← hw3e]
  clear hw3e hp2 hL2 hw2 k2 c0 c1
  have hp3d : Proc w3.drew P V ws.length id n inst r 1 s mr mp dec L := hp3
  have hc0 : ∀ w', Proc w' P V ws.length id n inst r 1 s mr mp dec L → w'.cell? ⟨P, 0, none⟩ = some (.int .i64 (id : Int)) := fun w' h => cell_at h 0
  have HC0 := hide hc0
  clear hc0
  go_wp2_with fail
  go_region_held3 (fun w' => w'.cell? ⟨P, 0, none⟩ = some (.int .i64 (id : Int)))
    (exact HC0.out _ (by assumption))
    (first
      | (go_at_call 15; refine (add_any w3.drew P V (List.replicate ws.length 0) ws.length id (by rw [List.length_replicate]; exact cell_at hp3 5) hw3 (by rw [List.length_replicate]; exact hid) (by omega)).mono ?_; rintro e w4 ⟨rfl, hw4, hk4⟩; have hp4 : Proc w4 P V ws.length id n inst r 1 s mr mp dec L := Kept.heap hk4 hp3d (by simpa using Ne.symm hVP)))
  have hL4 : w4.heap[L]? = some (.cells #[.slice none 0 0] 35 (0, 0)) := Kept.heap (a := w3.drew) hk4 hL3 (by simpa using hLV)
  have hw4' : Words w4 V (soleW ws.length id) := hw4
  have k4 : Kept w w4 [P, V, L] := (k3.drew).trans (hk4.mono (by simp))
  clear hw4 hk4 hp3 hL3 hw3 k3 hp3d HC0
  have c0 : w4.cell? ⟨P, 0, none⟩ = some (.int .i64 (id : Int)) := cell_at hp4 0
  have c7 : w4.cell? ⟨P, 7, none⟩ = some (.int .i64 mr) := cell_at hp4 7
  have c8 : w4.cell? ⟨P, 8, none⟩ = some (.int .i64 mp) := cell_at hp4 8
  have f7 : w4.frozen? ⟨P, 7, none⟩ = false := free_at hp4 7
  have f8 : w4.frozen? ⟨P, 8, none⟩ = false := free_at hp4 8
  have hp5 := proc_mark hp4 r id
  have hw5 := Words.other (Words.other hw4' (p := ⟨P, 7, none⟩) (u := .int .i64 r) hVP) (p := ⟨P, 8, none⟩) (u := .int .i64 id) hVP
  have k5 : Kept w ((w4.setCell ⟨P, 7, none⟩ (.int .i64 r)).setCell ⟨P, 8, none⟩ (.int .i64 id)) [P, V, L] := (k4.setCell (p := ⟨P, 7, none⟩) (by simp) _).setCell (p := ⟨P, 8, none⟩) (by simp) _
  have hL5 : ((w4.setCell ⟨P, 7, none⟩ (.int .i64 r)).setCell ⟨P, 8, none⟩ (.int .i64 id)).heap[L]? = some (.cells #[.slice none 0 0] 35 (0, 0)) := ((Below.heap_setCell _ _ _ _ hLP).trans (Below.heap_setCell _ _ _ _ hLP)).trans hL4
  go_wp2_with fail
  refine (broadcast_any _ P V ws.length id n inst r 1 cause s r id dec L (soleW ws.length id) hp5 hw5 (soleW_len _ _) hm0 hm' hL5 (Ne.symm hLP)).mono ?_
  rintro e w6 ⟨rfl, M, C, cap, G, hM6, hC6, hS6, hMz, hCz, hk6⟩
  have z5 := k5.size
  have hp6 : Proc w6 P V ws.length id n inst r 1 s r id dec L := Kept.heap hk6 hp5 (by simpa using Ne.symm hLP)
  have hw6 := Kept.words hk6 hw5 (by simpa using Ne.symm hLV)
  have k6 := k5.trans (hk6.mono (T := [P, V, L]) (by simp))
  have hCP : C ≠ P := by have := lt_of_block hp5; omega
  have hMP : M ≠ P := by have := lt_of_block hp5; omega
  have hGP : G ≠ P := by
    intro e
    have h0 := hS6.c0
    rw [e, cell_at hp6 0] at h0
    cases h0
  clear hp5 hw5 k5 hL5 hk6 hp4 hL4 hw4' k4 c0 c7 c8 f7 f8
  go_wp2_with fail
  refine (conclude_any _ P V ws.length id n inst r cause s r id dec L (soleW ws.length id) 1 hp6 hw6 (soleW_len _ _) hm' (soleW_pop _ _ hid) (soleW_total _ _ hid) (by omega) (by omega)).mono ?_
  rintro e w7 ⟨rfl, hp7, hk7⟩
  go_wp2
  go_end0
  refine ⟨rfl, M, C, cap, G, hp7, Kept.words hk7 hw6 (by simpa using hVP), Kept.heap hk7 hM6 (by simpa using hMP), Row.kept hC6 hk7 (by simpa using hCP), ⟨?_, ?_, ?_⟩, by omega, k6.trans (hk7.mono (by simp))⟩
  · obtain ⟨cg, hcg⟩ := hS6.var
    exact ⟨cg, Kept.heap hk7 hcg (by simpa using hLP)⟩
  · exact (World.cell?_of_block (w := w6) (w' := w7) (a := ⟨G, 0, none⟩) (hk7.block G (World.block_lt_of_cell? w6 _ hS6.c0) (by simpa using hGP))).trans hS6.c0
  · exact (World.cell?_of_block (w := w6) (w' := w7) (a := ⟨G, 1, none⟩) (hk7.block G (World.block_lt_of_cell? w6 _ hS6.c0) (by simpa using hGP))).trans hS6.c1
end Go.Proofs.Ybulkajom.Round
