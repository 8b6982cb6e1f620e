import Derived.Test.YbulkajomPair
/-! The walk of LawS1767AGone in a group of more than five. -/
namespace Go.Proofs.Ybulkajom.GoneBig
open Go.RowKit Go.Proofs.Ybulkajom.Own Go.Proofs.Ybulkajom.Ring Go.Proofs.Ybulkajom.Side Go.Proofs.Ybulkajom.Ask Go.Proofs.Ybulkajom.SideGo Go.Proofs.Ybulkajom.Exact Go.Proofs.Ybulkajom.NeighGo Go.Proofs.Ybulkajom.Pair

set_option maxHeartbeats 4000000 in
theorem walk (ao : Option Addr) (len cap : Nat) (F : Nat → Bool) (a1 : Int) (a2 : Int) (w : World)
    (hF : len = 0 ∨ ∃ b off, ao = some ⟨b, off, none⟩ ∧ ∀ j, j < len → w.cell? ⟨b, off + j, none⟩ = some (.bool (F j))) (hlen : len ≤ 1024) (b10 : 0 ≤ a1) (b11 : a1 ≤ 65535) (b20 : 0 ≤ a2) (b21 : a2 ≤ 65535) (h5 : 5 < 1 + a1 % 1024) :
    Calls Yba.prog 4 #[.slice ao len cap, .int .u16 a1, .int .u16 a2] w fun e w' => e = .returned (.bool true) ∧ Below w.heap.size w w' := by
  have n0 := Int.emod_nonneg a1 (show (1024 : Int) ≠ 0 by omega)
  have n1 := Int.emod_lt_of_pos a1 (show (0 : Int) < 1024 by omega)
  have s0 := Int.emod_nonneg a2 (show (1 + a1 % 1024) ≠ 0 by omega)
  have s1 := Int.emod_lt_of_pos a2 (show 0 < (1 + a1 % 1024) by omega)
  obtain ⟨i0, hi, hz0, hz1, hz2⟩ := info_parts info3
  have hmf : ∀ (fn : Fn) (first cap : Array Value) (w : World), (Instr.makeFunc fn first cap).run Yba.prog w = .ok (.func fn first cap) w := fun _ _ _ _ => rfl
  go_enter Yba.func4, Yba.ntmps4
  go_wp2_with fail
  generalize hn : 1 + a1 % 1024 = n at *
  generalize hs : 1 + a2 % n = s at *
  have Hn := hide hn
  have Hs := hide hs
  clear hn hs
  have s2 : 1 ≤ s := by have := Hs.out; omega
  have s3 : s ≤ n := by have := Hs.out; omega
  have n2 : n ≤ 1024 := by have := Hn.out; omega
  have n3 : 1 ≤ n := by omega
  clear n0 n1 s0 s1 Hn Hs b10 b11 b20 b21
  have hg0 := start_gone w ao len cap F hF
  refine (neigh_go _ w.heap.size (w.heap.size + 1) ao len cap F _ (.slice none 0 0) [] [] s n (start_two w _) hg0 (by omega) hlen (by simp) (by simp) s2 s3 n2 h5).mono ?_
  rintro e w1 ⟨v1, rfl, ⟨lv1, ho1⟩, hl1, hlg1, hb1⟩
  have hg1 := hg0.below hb1
  have hbw := (start_below w (.slice ao len cap)).trans (hb1.mono (by omega))
  have z1 := ho1.lt
  clear hg0 hb1 hF
  obtain ⟨lvo, lvc, hlv⟩ := own_slice ho1.log.own
  have HL := hide hlv
  clear hlv
  have HB := hide (acc_two s n (goneF len F))
  generalize both s n (goneF len F) [] [] = R at *
  obtain ⟨B2, hB2, hB1, hz⟩ : ∃ B2, w1.heap.size ≤ B2 ∧ w.heap.size + 1 ≤ B2 ∧ B2 ≤ w1.heap.size := ⟨w1.heap.size, Nat.le_refl _, by omega, Nat.le_refl _⟩
  have hlo : w.heap.size + 1 < B2 := by omega
  simp only [List.length_nil, Nat.zero_add] at hl1 hlg1
  go_wp2_with fail
  go_loopw [12, 13, 37] (fun v u i wr => ∃ (q : Nat) (l lg : List Int), i = .int .i64 (q : Int) ∧ q ≤ 2 ∧ Pair wr B2 v u l lg ∧ l.length ≤ 1024 * q ∧ lg.length ≤ 1024 * q ∧ Below B2 w1 wr ∧ Hid (acc s n (goneF len F) q = (l, lg)))
    (fun _ _ i _ => (2 - intOf i).toNat)
  case atStart => exact ⟨0, [], [], rfl, by omega, ⟨Owns.nil _ _, Owns.nil _ _, (fun q h => by cases h), hz⟩, by simp, by simp, Below.refl _ _, rfl⟩
  case round =>
    obtain ⟨q, l0, lg0, rfl, hq, hp0, hll0, hlg0, hbel0, HQ⟩ := hrel
    obtain ⟨wo, rfl⟩ : ∃ wo : World, wo = wr := ⟨_, rfl⟩
    by_cases hq2 : q < 2
    · have hxi := index_sgn q hq2
      have hqd : decide ((q : Int) < 2) = true := by simp; omega
      have HS := hide (show acc s n (goneF len F) (q + 1) = ring s n (sgn q) (goneF len F) n.toNat 0 0 l0 lg0 by rw [show acc s n (goneF len F) (q + 1) = ring s n (sgn q) (goneF len F) n.toNat 0 0 (acc s n (goneF len F) q).1 (acc s n (goneF len F) q).2 from rfl, HQ.out])
      clear HQ
      have hsg := sgn_mul q
      generalize sgn q = sg at *
      go_wp2_with fail
      go_loopw [12, 13, 16, 17] (fun v u ct d wr => ∃ (k f c : Nat) (l lg : List Int), ct = .int .i64 (c : Int) ∧ d = .int .i64 ((k : Int) + 1) ∧ c ≤ 2 ∧ k + 1 ≤ 1024 ∧ Pair wr B2 v u l lg ∧ l.length ≤ 1024 * q + k ∧ lg.length ≤ 1024 * q + k ∧ Below B2 w1 wr ∧
          Hid (ring s n sg (goneF len F) f k c l lg = ring s n sg (goneF len F) n.toNat 0 0 l0 lg0) ∧ n ≤ (k : Int) + 1 + f)
        (fun _ _ _ d _ => (n - intOf d).toNat)
      case atStart => exact ⟨0, n.toNat, 0, l0, lg0, rfl, rfl, by omega, by omega, hp0, by omega, by omega, hbel0, rfl, by omega⟩
      case round =>
        obtain ⟨k, f, c, l, lg, rfl, rfl, hc2, hk, hp, hll, hlgl, hbel, HR, hf⟩ := hrel
        clear hp0 hll0 hlg0 hbel0
        by_cases hc : c < 2 ∧ (k : Int) + 1 < n
        · obtain ⟨hc, hkn⟩ := hc
          have hm := hsg k (by omega)
          obtain ⟨p, HP⟩ : ∃ p, Hid (p = pos s n (sg * ((k : Int) + 1))) := ⟨_, rfl⟩
          obtain ⟨f', HR', hf'⟩ := step_go s n sg (goneF len F) f k c l lg _ HR.out hc hkn hf _ HP.out
          have HR' := hide HR'
          clear HR hf
          have lo := pos_lo s n (sg * ((k : Int) + 1)) n3
          have hi' := pos_hi s n (sg * ((k : Int) + 1)) n3
          rw [← HP.out] at lo hi'
          obtain ⟨pn, rfl⟩ := Int.eq_ofNat_of_zero_le (show 0 ≤ p by omega)
          have hgw := hg1.below (hbel.mono hB1)
          cases hcon : l.contains (pn : Int)
          · have HC := hide hcon
            have HA := hide (addNew_not l _ hcon)
            clear hcon
            go_wp2_with fail
            refine (wrap_at _ n (pn : Int) _ (by rw [HP.out]; unfold pos; exact congrArg (fun t => t % n + 1) (by omega)) (by omega) (by omega) n3 n2).mono ?_
            rintro e w5 ⟨rfl, rfl⟩
            go_wp2_with fail
            refine (contains_own _ hp.left (by omega)).mono ?_
            rintro e w6 ⟨rfl, hw6⟩
            rw [HC.out]
            subst hw6
            go_wp2_with (at_builtin; refine wpList_append_lies _ rfl (.tmp 60) (.tmp 62) 22 rfl B2 3 i0 (.int .i64 0) 1 8 Yba.underlying22 hi hz0 hz1 hz2 rfl (by decide) _ l.length _ rfl (World.ownsRow.alloc hp.left _) ⟨w6.heap.size, 0, none⟩ 1 1 [.int .i64 (pn : Int)] rfl rfl news_one (by intro u hu; simp at hu; subst hu; rfl) (by decide) (by unfold maxLen; omega) (by omega) (by have := hp.le; simp; omega) (w6.heap.size + 1) (by simp) ?_)
            intro g cap' w7 hown2 hgrow hat _
            obtain ⟨hpX, hb7⟩ := pair_left hp hown2 hgrow hat
            rw [← HA.out] at hpX
            have hgX := hgw.below (hb7.mono hB1)
            have hbX := hbel.trans hb7
            have hal := addNew_len l (pn : Int)
            clear hown2 hgrow hat hgw hp hb7
            go_wp2_with (at_builtin; refine wpList_append_lies _ rfl (.tmp 66) (.tmp 68) 22 rfl B2 3 i0 (.int .i64 0) 1 8 Yba.underlying22 hi hz0 hz1 hz2 rfl (by decide) _ lg.length _ rfl (World.ownsRow.alloc hpX.right _) ⟨w7.heap.size, 0, none⟩ 1 1 [.int .i64 (pn : Int)] rfl rfl news_one (by intro u hu; simp at hu; subst hu; rfl) (by decide) (by unfold maxLen; omega) (by omega) (by have := hpX.le; simp; omega) (w7.heap.size + 1) (by simp) ?_)
            intro g2 cap2 wY hown3 hgrow3 hat3 _
            obtain ⟨hpY, hbY⟩ := pair_right hpX hown3 hgrow3 hat3
            have hgY := hgX.below (hbY.mono hB1)
            clear hown3 hgrow3 hat3 hgX
            obtain ⟨hgc, hgr⟩ := hgY
            rcases hgr with h0 | ⟨b, off, HE, hb, hcc⟩
            · have HG := hide (show goneF len F (pn : Int) = false by unfold goneF; rw [if_pos h0])
              have hd : decide (0 < len) = false := by simp [h0]
              clear h0
              go_wp2
              go_quiet (fail)
              go_wp2
              go_roundw
              case rel => exact ⟨k + 1, f', c + 1, addNew l (pn : Int), lg ++ [(pn : Int)], by go_num, by go_num, by omega, by omega, hpY.drewN _, by omega, by simp; omega, below_drewN (hbX.trans hbY) _, by have := HR'.out; rw [HG.out] at this; exact this, hf'⟩
              case measure => simp [intOf]; omega
            · have HE := hide HE
              by_cases h0 : len = 0
              · have HG := hide (show goneF len F (pn : Int) = false by unfold goneF; rw [if_pos h0])
                have hd : decide (0 < len) = false := by simp [h0]
                clear h0 hcc
                go_wp2
                go_quiet (fail)
                go_wp2
                go_roundw
                case rel => exact ⟨k + 1, f', c + 1, addNew l (pn : Int), lg ++ [(pn : Int)], by go_num, by go_num, by omega, by omega, hpY.drewN _, by omega, by simp; omega, below_drewN (hbX.trans hbY) _, by have := HR'.out; rw [HG.out] at this; exact this, hf'⟩
                case measure => simp [intOf]; omega
              · have hmod := Nat.mod_lt pn (show 0 < len by omega)
                have hc0 := hcc (pn % len) hmod
                rw [HE.out] at hgc
                have hpos : 0 < len := by omega
                have hpos' : decide (0 < len) = true := by simpa using hpos
                have hlenz : ¬ (len : Int) = 0 := by omega
                clear hcc
                cases hgo : F (pn % len)
                · have HG := hide (show goneF len F (pn : Int) = false by unfold goneF; rw [if_neg h0, Int.toNat_natCast]; exact hgo)
                  rw [hgo] at hc0
                  clear hgo h0
                  go_wp2
                  go_quiet (fail)
                  go_wp2
                  go_roundw
                  case rel => exact ⟨k + 1, f', c + 1, addNew l (pn : Int), lg ++ [(pn : Int)], by go_num, by go_num, by omega, by omega, hpY.drewN _, by omega, by simp; omega, below_drewN (hbX.trans hbY) _, by have := HR'.out; rw [HG.out] at this; exact this, hf'⟩
                  case measure => simp [intOf]; omega
                · have HG := hide (show goneF len F (pn : Int) = true by unfold goneF; rw [if_neg h0, Int.toNat_natCast]; exact hgo)
                  rw [hgo] at hc0
                  clear hgo h0
                  go_wp2
                  go_quiet (fail)
                  go_wp2
                  go_roundw
                  case rel => exact ⟨k + 1, f', c, addNew l (pn : Int), lg ++ [(pn : Int)], by go_num, by go_num, by omega, by omega, hpY.drewN _, by omega, by simp; omega, below_drewN (hbX.trans hbY) _, by have := HR'.out; rw [HG.out] at this; exact this, hf'⟩
                  case measure => simp [intOf]; omega
          · have HC := hide hcon
            have HA := hide (addNew_has l _ hcon)
            clear hcon
            go_wp2_with fail
            refine (wrap_at _ n (pn : Int) _ (by rw [HP.out]; unfold pos; exact congrArg (fun t => t % n + 1) (by omega)) (by omega) (by omega) n3 n2).mono ?_
            rintro e w5 ⟨rfl, rfl⟩
            go_wp2_with fail
            refine (contains_own _ hp.left (by omega)).mono ?_
            rintro e w6 ⟨rfl, hw6⟩
            rw [HC.out]
            subst hw6
            have hpX := hp
            have hgX := hgw
            have hbX := hbel
            clear hp hgw hbel
            go_wp2_with (at_builtin; refine wpList_append_lies _ rfl (.tmp 66) (.tmp 68) 22 rfl B2 3 i0 (.int .i64 0) 1 8 Yba.underlying22 hi hz0 hz1 hz2 rfl (by decide) _ lg.length _ rfl (World.ownsRow.alloc hpX.right _) ⟨w6.heap.size, 0, none⟩ 1 1 [.int .i64 (pn : Int)] rfl rfl news_one (by intro u hu; simp at hu; subst hu; rfl) (by decide) (by unfold maxLen; omega) (by omega) (by have := hpX.le; simp; omega) (w6.heap.size + 1) (by simp) ?_)
            intro g2 cap2 wY hown3 hgrow3 hat3 _
            obtain ⟨hpY, hbY⟩ := pair_right hpX hown3 hgrow3 hat3
            have hgY := hgX.below (hbY.mono hB1)
            clear hown3 hgrow3 hat3 hgX
            obtain ⟨hgc, hgr⟩ := hgY
            rcases hgr with h0 | ⟨b, off, HE, hb, hcc⟩
            · have HG := hide (show goneF len F (pn : Int) = false by unfold goneF; rw [if_pos h0])
              have hd : decide (0 < len) = false := by simp [h0]
              clear h0
              go_wp2
              go_quiet (fail)
              go_wp2
              go_roundw
              case rel => exact ⟨k + 1, f', c + 1, l, lg ++ [(pn : Int)], by go_num, by go_num, by omega, by omega, hpY.drewN _, by omega, by simp; omega, below_drewN (hbX.trans hbY) _, by have := HR'.out; rw [HG.out, HA.out] at this; exact this, hf'⟩
              case measure => simp [intOf]; omega
            · have HE := hide HE
              by_cases h0 : len = 0
              · have HG := hide (show goneF len F (pn : Int) = false by unfold goneF; rw [if_pos h0])
                have hd : decide (0 < len) = false := by simp [h0]
                clear h0 hcc
                go_wp2
                go_quiet (fail)
                go_wp2
                go_roundw
                case rel => exact ⟨k + 1, f', c + 1, l, lg ++ [(pn : Int)], by go_num, by go_num, by omega, by omega, hpY.drewN _, by omega, by simp; omega, below_drewN (hbX.trans hbY) _, by have := HR'.out; rw [HG.out, HA.out] at this; exact this, hf'⟩
                case measure => simp [intOf]; omega
              · have hmod := Nat.mod_lt pn (show 0 < len by omega)
                have hc0 := hcc (pn % len) hmod
                rw [HE.out] at hgc
                have hpos : 0 < len := by omega
                have hpos' : decide (0 < len) = true := by simpa using hpos
                have hlenz : ¬ (len : Int) = 0 := by omega
                clear hcc
                cases hgo : F (pn % len)
                · have HG := hide (show goneF len F (pn : Int) = false by unfold goneF; rw [if_neg h0, Int.toNat_natCast]; exact hgo)
                  rw [hgo] at hc0
                  clear hgo h0
                  go_wp2
                  go_quiet (fail)
                  go_wp2
                  go_roundw
                  case rel => exact ⟨k + 1, f', c + 1, l, lg ++ [(pn : Int)], by go_num, by go_num, by omega, by omega, hpY.drewN _, by omega, by simp; omega, below_drewN (hbX.trans hbY) _, by have := HR'.out; rw [HG.out, HA.out] at this; exact this, hf'⟩
                  case measure => simp [intOf]; omega
                · have HG := hide (show goneF len F (pn : Int) = true by unfold goneF; rw [if_neg h0, Int.toNat_natCast]; exact hgo)
                  rw [hgo] at hc0
                  clear hgo h0
                  go_wp2
                  go_quiet (fail)
                  go_wp2
                  go_roundw
                  case rel => exact ⟨k + 1, f', c, l, lg ++ [(pn : Int)], by go_num, by go_num, by omega, by omega, hpY.drewN _, by omega, by simp; omega, below_drewN (hbX.trans hbY) _, by have := HR'.out; rw [HG.out, HA.out] at this; exact this, hf'⟩
                  case measure => simp [intOf]; omega
        · have HF := hide (show acc s n (goneF len F) (q + 1) = (l, lg) by rw [HS.out, ← HR.out, ring_stop _ _ _ _ _ _ _ _ _ hc])
          clear HR hf
          rcases (show n ≤ (k : Int) + 1 ∨ (2 ≤ c ∧ (k : Int) + 1 < n) by omega) with hx | ⟨hx, hx2⟩
          all_goals
            clear hc
            go_wp2
            go_roundw
            case rel => exact ⟨q + 1, l, lg, by go_num, by omega, hp, by omega, by omega, hbel, HF⟩
            case measure => simp [intOf]; omega
    · obtain rfl : q = 2 := by omega
      have hRe : (l0, lg0) = R := by rw [← HQ.out]; exact HB.out
      have hR1 := hide (show l0 = R.1 by rw [← hRe])
      have hR2 := hide (show lg0 = R.2 by rw [← hRe])
      clear hRe HQ
      have hgot := ho1.near.below hbel0 hB2
      have hlog := ho1.log.own.below hbel0 hB2
      have hlc := (hbel0.cell (p := ⟨w.heap.size + 1, 0, none⟩) (by simpa using hlo)).trans (cell_of_one ho1.log.cell)
      rw [HL.out] at hlc hlog
      go_wp2_with fail
      refine (equal_own hgot hp0.left (by omega) (by omega)).mono ?_
      rintro e w8 ⟨rfl, q8, hq8⟩
      rw [show (R.1 == l0) = true from by rw [hR1.out]; simp]
      subst hq8
      go_wp2_with fail
      refine (equal_own (hlog.drewN q8) (hp0.right.drewN q8) (by omega) (by omega)).mono ?_
      rintro e w9 ⟨rfl, q9, hq9⟩
      rw [show (R.2 == lg0) = true from by rw [hR2.out]; simp]
      have hb9 : Below w.heap.size w w9 := by rw [hq9]; exact below_drewN (below_drewN (hbw.trans (hbel0.mono (by omega))) _) _
      clear hq9
      go_wp2
      go_ret
      exact ⟨rfl, hb9⟩
end Go.Proofs.Ybulkajom.GoneBig
