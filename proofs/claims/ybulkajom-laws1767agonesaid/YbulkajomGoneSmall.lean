import Derived.Test.YbulkajomPair
/-! The walk of LawS1767AGone in a group of at most five. -/
namespace Go.Proofs.Ybulkajom.GoneSmall
open Go.RowKit Go.Proofs.Ybulkajom.Own Go.Proofs.Ybulkajom.Ring Go.Proofs.Ybulkajom.Side Go.Proofs.Ybulkajom.Ask Go.Proofs.Ybulkajom.SideGo Go.Proofs.Ybulkajom.Exact Go.Proofs.Ybulkajom.Neigh Go.Proofs.Ybulkajom.Pair

set_option maxHeartbeats 4000000 in
theorem walk (ao : Option Addr) (len cap : Nat) (a1 : Int) (a2 : Int) (w : World)
    (hlen : len ≤ 1024) (b10 : 0 ≤ a1) (b11 : a1 ≤ 65535) (b20 : 0 ≤ a2) (b21 : a2 ≤ 65535) (h5 : 1 + a1 % 1024 ≤ 5) :
    Calls Yba.prog 4 #[.slice ao len cap, .int .u16 a1, .int .u16 a2] w fun e w' => e = .returned (.bool true) ∧ Below w.heap.size w w' := by
  have n0 := Int.emod_nonneg a1 (show (1024 : Int) ≠ 0 by omega)
  have n1 := Int.emod_lt_of_pos a1 (show (0 : Int) < 1024 by omega)
  have s0 := Int.emod_nonneg a2 (show (1 + a1 % 1024) ≠ 0 by omega)
  have s1 := Int.emod_lt_of_pos a2 (show 0 < (1 + a1 % 1024) by omega)
  obtain ⟨i0, hi, hz0, hz1, hz2⟩ := info_parts info3
  have hmf : ∀ (fn : Fn) (first cap : Array Value) (w : World), (Instr.makeFunc fn first cap).run Yba.prog w = .ok (.func fn first cap) w := fun _ _ _ _ => rfl
  go_enter Yba.func4, Yba.ntmps4
  go_wp2_with fail
  generalize hn : 1 + a1 % 1024 = n at *
  generalize hs : 1 + a2 % n = s at *
  have Hn := hide hn
  have Hs := hide hs
  clear hn hs
  have s2 : 1 ≤ s := by have := Hs.out; omega
  have s3 : s ≤ n := by have := Hs.out; omega
  have n2 : n ≤ 1024 := by have := Hn.out; omega
  have n3 : 1 ≤ n := by omega
  clear n0 n1 s0 s1 Hn Hs b10 b11 b20 b21
  have htwo := start_two w (.slice ao len cap)
  have hbw0 := start_below w (.slice ao len cap)
  refine (neigh_no (w.heap.size + 2) _ _ _ [] s n (Owns.nil _ _) (by simp) (by simp) s2 s3 n2 (.inr h5)).mono ?_
  rintro e w1 ⟨v1, rfl, ho1, hl1, hb1⟩
  have hbw := hbw0.trans (hb1.mono (by omega))
  have hlc1 := (hb1.cell (p := ⟨w.heap.size + 1, 0, none⟩) (by simp)).trans (cell_of_one htwo.log.cell)
  have z1 := hb1.size
  simp at z1
  clear htwo hbw0 hb1
  have HB := hide (acc_two s n no)
  generalize both s n no [] [] = R at *
  obtain ⟨B2, hB2, hB1, hz⟩ : ∃ B2, w1.heap.size ≤ B2 ∧ w.heap.size + 2 ≤ B2 ∧ B2 ≤ w1.heap.size := ⟨w1.heap.size, Nat.le_refl _, by omega, Nat.le_refl _⟩
  simp only [List.length_nil, Nat.zero_add] at hl1
  go_wp2_with fail
  go_loopw [12, 13, 37] (fun v u i wr => ∃ (q : Nat) (l lg : List Int), i = .int .i64 (q : Int) ∧ u = .slice none 0 0 ∧ q ≤ 2 ∧ Owns B2 wr v l ∧ B2 ≤ wr.heap.size ∧ l.length ≤ 2 * q ∧ Below B2 w1 wr ∧ Hid ((acc s n no q).1 = l))
    (fun _ _ i _ => (2 - intOf i).toNat)
  case atStart => exact ⟨0, [], [], rfl, rfl, by omega, Owns.nil _ _, hz, by simp, Below.refl _ _, rfl⟩
  case round =>
    obtain ⟨q, l0, lg0, rfl, rfl, hq, hp0, hbs0, hll0, hbel0, HQ⟩ := hrel
    obtain ⟨wo, rfl⟩ : ∃ wo : World, wo = wr := ⟨_, rfl⟩
    by_cases hq2 : q < 2
    · have hxi := index_sgn q hq2
      have hqd : decide ((q : Int) < 2) = true := by simp; omega
      have HS := hide (show (acc s n no (q + 1)).1 = (ring s n (sgn q) no n.toNat 0 0 l0 (acc s n no q).2).1 by rw [show acc s n no (q + 1) = ring s n (sgn q) no n.toNat 0 0 (acc s n no q).1 (acc s n no q).2 from rfl, HQ.out])
      clear HQ
      have hsg := sgn_mul q
      generalize sgn q = sg at *
      generalize (acc s n no q).2 = lgq at *
      go_wp2_with fail
      go_loopw [12, 13, 16, 17] (fun v u ct d wr => ∃ (k f : Nat) (l lg : List Int), ct = .int .i64 (k : Int) ∧ d = .int .i64 ((k : Int) + 1) ∧ u = .slice none 0 0 ∧ k ≤ 2 ∧ Owns B2 wr v l ∧ B2 ≤ wr.heap.size ∧ l.length ≤ 2 * q + k ∧ Below B2 w1 wr ∧
          Hid (ring s n sg no f k k l lg = ring s n sg no n.toNat 0 0 l0 lgq) ∧ n ≤ (k : Int) + 1 + f)
        (fun _ _ _ d _ => (n - intOf d).toNat)
      case atStart => exact ⟨0, n.toNat, l0, lgq, rfl, rfl, rfl, by omega, hp0, hbs0, by omega, hbel0, rfl, by omega⟩
      case round =>
        obtain ⟨k, f, l, lg, rfl, rfl, rfl, hk, ho, hbs, hll, hbel, HR, hf⟩ := hrel
        clear hp0 hll0 hbel0 hbs0
        by_cases hc : k < 2 ∧ (k : Int) + 1 < n
        · obtain ⟨hc, hkn⟩ := hc
          have hm := hsg k (by omega)
          obtain ⟨p, HP⟩ : ∃ p, Hid (p = pos s n (sg * ((k : Int) + 1))) := ⟨_, rfl⟩
          obtain ⟨f', lg', HR', hf'⟩ := step_no s n sg f k l lg _ HR.out hc hkn hf _ HP.out
          have HR' := hide HR'
          clear HR hf
          have lo := pos_lo s n (sg * ((k : Int) + 1)) n3
          have hi' := pos_hi s n (sg * ((k : Int) + 1)) n3
          rw [← HP.out] at lo hi'
          cases hcon : l.contains p
          · have HC := hide hcon
            have HA := hide (addNew_not l _ hcon)
            clear hcon
            go_wp2_with fail
            refine (wrap_at _ n p _ (by rw [HP.out]; unfold pos; exact congrArg (fun t => t % n + 1) (by omega)) (by omega) (by omega) n3 n2).mono ?_
            rintro e w5 ⟨rfl, rfl⟩
            go_wp2_with fail
            refine (contains_own _ ho (by omega)).mono ?_
            rintro e w6 ⟨rfl, hw6⟩
            rw [HC.out]
            subst hw6
            go_wp2_with (at_builtin; refine wpList_append_lies _ rfl (.tmp 60) (.tmp 62) 22 rfl B2 3 i0 (.int .i64 0) 1 8 Yba.underlying22 hi hz0 hz1 hz2 rfl (by decide) _ l.length _ rfl (World.ownsRow.alloc ho _) ⟨w6.heap.size, 0, none⟩ 1 1 [.int .i64 p] rfl rfl news_one (by intro u hu; simp at hu; subst hu; rfl) (by decide) (by unfold maxLen; omega) (by omega) (by simp; omega) (w6.heap.size + 1) (by simp) ?_)
            intro g cap' w7 hown2 hgrow hat _
            have ho2 := owns_snoc hown2
            rw [← HA.out] at ho2
            go_wp2
            go_roundw
            case rel => exact ⟨k + 1, f', addNew l p, lg', by go_num, by go_num, rfl, by omega, ho2, by have := hgrow.size; simp at this; omega, by have := addNew_len l p; omega, (hbel.alloc hbs _).grown hgrow (by simp; omega) (fun k hk => (World.ownsRow.lt ho k hk).1), HR', hf'⟩
            case measure => simp [intOf]; omega
          · have HC := hide hcon
            have HA := hide (addNew_has l _ hcon)
            clear hcon
            go_wp2_with fail
            refine (wrap_at _ n p _ (by rw [HP.out]; unfold pos; exact congrArg (fun t => t % n + 1) (by omega)) (by omega) (by omega) n3 n2).mono ?_
            rintro e w5 ⟨rfl, rfl⟩
            go_wp2_with fail
            refine (contains_own _ ho (by omega)).mono ?_
            rintro e w6 ⟨rfl, hw6⟩
            rw [HC.out]
            subst hw6
            go_wp2
            go_roundw
            case rel => exact ⟨k + 1, f', l, lg', by go_num, by go_num, rfl, by omega, ho, hbs, by omega, hbel, by have := HR'.out; rw [HA.out] at this; exact this, hf'⟩
            case measure => simp [intOf]; omega
        · have HF := hide (show (acc s n no (q + 1)).1 = l by rw [HS.out, ← HR.out, ring_stop _ _ _ _ _ _ _ _ _ hc])
          clear HR hf
          rcases (show n ≤ (k : Int) + 1 ∨ (2 ≤ k ∧ (k : Int) + 1 < n) by omega) with hx | ⟨hx, hx2⟩
          all_goals
            clear hc
            go_wp2
            go_roundw
            case rel => exact ⟨q + 1, l, lg, by go_num, rfl, by omega, ho, hbs, by omega, hbel, HF⟩
            case measure => simp [intOf]; omega
    · obtain rfl : q = 2 := by omega
      have hR1 := hide (show l0 = R.1 by rw [← HQ.out, HB.out])
      clear HQ
      have hgot := ho1.below hbel0 hB2
      have hlc := (hbel0.cell (p := ⟨w.heap.size + 1, 0, none⟩) (by simp; omega)).trans hlc1
      clear hlc1
      go_wp2_with fail
      refine (equal_own hgot hp0 (by omega) (by omega)).mono ?_
      rintro e w8 ⟨rfl, q8, hq8⟩
      rw [show (R.1 == l0) = true from by rw [hR1.out]; simp]
      subst hq8
      go_wp2_with fail
      refine (equal_own (Owns.nil 0 _) (Owns.nil 0 _) (by simp) (by simp)).mono ?_
      rintro e w9 ⟨rfl, q9, hq9⟩
      have hb9 : Below w.heap.size w w9 := by rw [hq9]; exact below_drewN (below_drewN (hbw.trans (hbel0.mono (by omega))) _) _
      clear hq9
      go_wp2
      go_ret
      exact ⟨rfl, hb9⟩
end Go.Proofs.Ybulkajom.GoneSmall
