import Derived.Test.YbulkajpaEdit
/-! The walk of LawS1768CEdit. -/
namespace Go.Proofs.Ybulkajpa.EditWalk
open Go.RowKit Go.Proofs.Ybulkajpa.Eq Go.Proofs.Ybulkajpa.Edit

theorem eq_same (w : World) (a b : Option Addr) (n c d : Nat) (A : Nat → ByteArray) (hA : Strs w a n A) (hB : Strs w b n A) (hn : n ≤ 4000) :
    Calls Yba.prog 14 #[.slice a n c, .slice b n d] w fun e w' => e = .returned (.bool true) ∧ ∃ q, w' = w.drewN q := by
  have := equal14 w a b n n c d A A hA hB hn hn
  rwa [eqS_self] at this
theorem eq_lens (w : World) (a b : Option Addr) (n m c d : Nat) (A B : Nat → ByteArray) (hA : Strs w a n A) (hB : Strs w b m B) (hn : n ≤ 4000) (hm : m ≤ 4000) (h : n ≠ m) :
    Calls Yba.prog 14 #[.slice a n c, .slice b m d] w fun e w' => e = .returned (.bool false) ∧ ∃ q, w' = w.drewN q := by
  have := equal14 w a b n m c d A B hA hB hn hm
  rwa [eqS_len h] at this
theorem eq_val (w : World) (a b : Option Addr) (n c d : Nat) (A B : Nat → ByteArray) (v : Bool) (hA : Strs w a n A) (hB : Strs w b n B) (hn : n ≤ 4000) (h : eqS n n A B = v) :
    Calls Yba.prog 14 #[.slice a n c, .slice b n d] w fun e w' => e = .returned (.bool v) ∧ ∃ q, w' = w.drewN q := by
  have := equal14 w a b n n c d A B hA hB hn hn
  rwa [h] at this

set_option maxHeartbeats 1000000 in
theorem walk_zero (ao : Option Addr) (cap : Nat) (k : Int) (s : ByteArray) (w : World) :
    Calls Yba.prog 7 #[.slice ao 0 cap, .int .u64 k, .string s] w fun e w' => e = .returned (.bool true) ∧ Below w.heap.size w w' := by
  go_enter Yba.func7, Yba.ntmps7
  go_wp2_with fail
  refine (clone_any _ ao 0 cap (fun _ => ByteArray.empty) (fun _ => rfl) (.inl rfl) (by omega)).mono ?_
  rintro e w1 ⟨bo, cb, rfl, ho, hb1⟩
  go_wp2_with fail
  refine (eq_same _ ao bo 0 cap cb (fun _ => ByteArray.empty) (.inl rfl) (.inl rfl) (by omega)).mono ?_
  rintro e w2 ⟨rfl, q2, hq2⟩
  have hb2 : Below w.heap.size w w2 := by rw [hq2]; exact below_drewN hb1 _
  clear hq2
  go_wp2_with fail
  refine (eq_same _ bo ao 0 cb cap (fun _ => ByteArray.empty) (.inl rfl) (.inl rfl) (by omega)).mono ?_
  rintro e w3 ⟨rfl, q3, hq3⟩
  have hb3 : Below w.heap.size w w3 := by rw [hq3]; exact below_drewN hb2 _
  clear hq3
  go_wp2_with fail
  refine (eq_same _ ao none 0 cap 0 (fun _ => ByteArray.empty) (.inl rfl) (.inl rfl) (by omega)).mono ?_
  rintro e w4 ⟨rfl, q4, hq4⟩
  have hb4 : Below w.heap.size w w4 := by rw [hq4]; exact below_drewN hb3 _
  clear hq4
  go_wp2_with fail
  refine (eq_same _ none ao 0 0 cap (fun _ => ByteArray.empty) (.inl rfl) (.inl rfl) (by omega)).mono ?_
  rintro e w5 ⟨rfl, q5, hq5⟩
  have hb5 : Below w.heap.size w w5 := by rw [hq5]; exact below_drewN hb4 _
  clear hq5
  go_wp2
  go_ret
  exact ⟨rfl, hb5⟩

set_option maxHeartbeats 2000000 in
theorem walk_pos (b off len cap : Nat) (F : Nat → ByteArray) (kn : Nat) (s : ByteArray) (w : World) (hA : ∀ j, j < len → w.cell? ⟨b, off + j, none⟩ = some (.string (F j))) (h0 : 0 < len) (hl : len ≤ 1024) (hlc : len ≤ cap) (hcm : cap ≤ 9223372036854775807) (hk : kn ≤ 18446744073709551615) :
    Calls Yba.prog 7 #[.slice (some ⟨b, off, none⟩) len cap, .int .u64 (kn : Int), .string s] w fun e w' => e = .returned (.bool true) ∧ Below w.heap.size w w' := by
  have hS : Strs w (some ⟨b, off, none⟩) len F := .inr ⟨b, off, rfl, hA⟩
  have hP : Strs w (some ⟨b, off, none⟩) (len - 1) F := .inr ⟨b, off, rfl, fun j hj => hA j (by omega)⟩
  have HS := hide hS
  have HP := hide hP
  have hbw : b < w.heap.size := World.block_lt_of_cell? w _ (hA 0 h0)
  have HA := hide hA
  clear hS hP hA
  go_enter Yba.func7, Yba.ntmps7
  go_wp2_with fail
  refine (clone_any _ (some ⟨b, off, none⟩) len cap F (by simp) HS.out hl).mono ?_
  rintro e w1 ⟨bo, cb, rfl, ho, hb1⟩
  obtain ⟨g, rfl, hgB, hgc, hgf⟩ : ∃ g, bo = some ⟨g, 0, none⟩ ∧ w.heap.size ≤ g ∧ (∀ j, j < len → w1.cell? ⟨g, j, none⟩ = some (.string (F j))) ∧ ∀ j, w1.frozen? ⟨g, j, none⟩ = false := by
    rcases ho with h | h
    · omega
    · exact h
  have HO : Hid (OwnS w1 w.heap.size (some ⟨g, 0, none⟩) len F) := .inr ⟨g, rfl, hgB, hgc, hgf⟩
  have HC := hide hgc
  have HF := hide hgf
  clear ho hgc hgf
  go_wp2_with fail
  refine (eq_same _ _ _ len cap cb F (Edit.Strs.below HS.out hb1) HO.out.strs (by omega)).mono ?_
  rintro e w2 ⟨rfl, q2, hq2⟩
  rw [hq2]
  clear hq2
  go_wp2_with fail
  refine (eq_same (w1.drewN q2) _ _ len cb cap F HO.out.strs (Edit.Strs.below HS.out (below_drewN hb1 _)) (by omega)).mono ?_
  rintro e w3 ⟨rfl, q3, hq3⟩
  rw [hq3, World.drewN_drewN]
  clear hq3
  generalize q2 + q3 = q at *
  go_wp2_with fail
  refine (eq_lens (w1.drewN q) _ _ len (len - 1) cap cap F F (Edit.Strs.below HS.out (below_drewN hb1 _)) (Edit.Strs.below HP.out (below_drewN hb1 _)) (by omega) (by omega) (by omega)).mono ?_
  rintro e w4 ⟨rfl, q4, hq4⟩
  rw [hq4, World.drewN_drewN]
  clear hq4
  generalize q + q4 = q at *
  go_wp2_with fail
  refine (eq_lens (w1.drewN q) _ _ (len - 1) len cap cap F F (Edit.Strs.below HP.out (below_drewN hb1 _)) (Edit.Strs.below HS.out (below_drewN hb1 _)) (by omega) (by omega) (by omega)).mono ?_
  rintro e w5 ⟨rfl, q5, hq5⟩
  rw [hq5, World.drewN_drewN]
  clear hq5
  generalize q + q5 = q at *
  have hm := Nat.mod_lt kn h0
  have cA : w1.cell? ⟨b, off + kn % len, none⟩ = some (.string (F (kn % len))) := (hb1.cell (p := ⟨b, off + kn % len, none⟩) hbw).trans (HA.out _ hm)
  have cG := HC.out _ hm
  have fG := HF.out (kn % len)
  have hbg : ¬ g = b := by omega
  have hbW : Below w.heap.size w ((w1.drewN q).setCell ⟨g, kn % len, none⟩ (.string s)) := (below_drewN hb1 q).setCell hgB _
  have HU : Hid (OwnS ((w1.drewN q).setCell ⟨g, kn % len, none⟩ (.string s)) w.heap.size (some ⟨g, 0, none⟩) len (upd F (kn % len) s)) := own_upd (w := w1.drewN q) hm hgB HC.out HF.out
  have HV1 := hide (eqS_upd len (kn % len) F s hm)
  have HV2 := hide (upd_eqS len (kn % len) F s hm)
  have HS' : Hid (Strs ((w1.drewN q).setCell ⟨g, kn % len, none⟩ (.string s)) (some ⟨b, off, none⟩) len F) := Edit.Strs.below HS.out hbW
  cases hv : (s.toList == (F (kn % len)).toList)
  all_goals
    rw [hv] at HV1 HV2
    go_wp2_with fail
    refine (eq_val _ _ _ len cap cb F (upd F (kn % len) s) _ HS'.out HU.out.strs (by omega) HV1.out).mono ?_
    rintro e w6 ⟨rfl, q6, hq6⟩
    rw [hq6]
    clear hq6
    go_wp2_with fail
    refine (eq_val (((w1.drewN q).setCell ⟨g, kn % len, none⟩ (.string s)).drewN q6) _ _ len cb cap (upd F (kn % len) s) F _ HU.out.strs HS'.out (by omega) HV2.out).mono ?_
    rintro e w7 ⟨rfl, q7, hq7⟩
    have hb7 : Below w.heap.size w w7 := by rw [hq7]; exact below_drewN (below_drewN hbW _) _
    clear hq7
    go_wp2
    go_ret
    exact ⟨rfl, hb7⟩
end Go.Proofs.Ybulkajpa.EditWalk
