import Derived.Test.YbulkajomExact
import Derived.WalkSmall
/-! The walk of LawS1767AExact. -/
namespace Go.Proofs.Ybulkajom.ExactWalk
open Go.RowKit Go.Proofs.Ybulkajom.Own Go.Proofs.Ybulkajom.Ring Go.Proofs.Ybulkajom.Side Go.Proofs.Ybulkajom.Neigh Go.Proofs.Ybulkajom.Exact

set_option maxHeartbeats 2000000 in
theorem walk (a0 : Option Addr) (len0 cap0 : Nat) (l0 : List Int) (a1 : Int) (a2 : Int) (w : World) (hsrc : len0 ≤ 1024 → Src w a0 len0 cap0 l0) (hl0 : l0.length = len0) (hm : len0 ≤ 9223372036854775807) (b10 : 0 ≤ a1) (b11 : a1 ≤ 65535) (b20 : 0 ≤ a2) (b21 : a2 ≤ 65535) :
    Calls Yba.prog 3 #[.slice a0 len0 cap0, .int .u16 a1, .int .u16 a2] w fun e w' => e = .returned (.bool true) ∧ Below w.heap.size w w' := by
  by_cases hlen : 1024 < len0
  · go_enter Yba.func3, Yba.ntmps3
    go_wp2
    go_ret
    exact ⟨rfl, Below.refl _ _⟩
  have hsrc := hsrc (by omega)
  have hx0 := IndexLaw.index0
  have hx1 := IndexLaw.index1
  have n0 := Int.emod_nonneg a1 (show (1024 : Int) ≠ 0 by omega)
  have n1 := Int.emod_lt_of_pos a1 (show (0 : Int) < 1024 by omega)
  have s0 := Int.emod_nonneg a2 (show (1 + a1 % 1024) ≠ 0 by omega)
  have s1 := Int.emod_lt_of_pos a2 (show 0 < (1 + a1 % 1024) by omega)
  obtain ⟨i0, hi, hz0, hz1, hz2⟩ := info_parts info3
  go_enter Yba.func3, Yba.ntmps3
  go_wp2_with (at_builtin; refine wpList_clone rfl (.tmp 28) rfl w.heap.size _ _ _ l0 rfl hsrc (by omega) (Nat.le_refl _) ?_)
  intro v1 w1 ho1 hb1
  have z1 := hb1.size
  have hl1 : l0.length ≤ 1024 := by omega
  generalize hn : 1 + a1 % 1024 = n at *
  generalize hs : 1 + a2 % n = s at *
  have Hn := hide hn
  have Hs := hide hs
  clear hn hs
  have s2 : 1 ≤ s := by have := Hs.out; omega
  have s3 : s ≤ n := by have := Hs.out; omega
  have n2 : n ≤ 1024 := by have := Hn.out; omega
  have n3 : 1 ≤ n := by omega
  clear n0 n1 s0 s1 Hn Hs b10 b11 b20 b21
  go_wp2_with fail
  refine (neigh_no w.heap.size _ _ _ l0 s n ho1 (by omega) (by omega) s2 s3 n2 (.inl rfl)).mono ?_
  rintro e w2 ⟨v2, rfl, ho2, hl2, hb2⟩
  have z2 := hb2.size
  have HB := hide (both_no s n l0 [] [])
  generalize (both s n no l0 []).1 = got at *
  have hb12 := hb1.trans hb2
  have hsrc2 := hsrc.below hb12
  go_wp2_with (at_builtin; refine wpList_clone rfl (.tmp 34) rfl w2.heap.size _ _ _ l0 rfl hsrc2 (by omega) (Nat.le_refl _) ?_)
  intro v3 w3 ho3 hb3
  have z3 := hb3.size
  obtain ⟨B, hB2, hBl, ho3, hb3, z3⟩ : ∃ B, w2.heap.size ≤ B ∧ w.heap.size ≤ B ∧ Owns B w3 v3 l0 ∧ Below B w2 w3 ∧ B ≤ w3.heap.size := ⟨w2.heap.size, Nat.le_refl _, by omega, ho3, hb3, z3⟩
  clear z2 hb1 hb2 hsrc hsrc2 ho1 z1
  go_wp2_with fail
  refine wp_loop_rounds 3 ?_
  rw [rounds_succ]
  go_wp2_with fail
  go_loopw [11, 14] (fun v d wr => ∃ (k f : Nat) (l lg : List Int), d = .int .i64 ((k : Int) + 1) ∧ k ≤ 2 ∧ Owns B wr v l ∧ l.length ≤ l0.length + k ∧ Below B w3 wr ∧ B ≤ wr.heap.size ∧
      Hid (ring s n (1) no f k k l lg = ring s n (1) no n.toNat 0 0 l0 []) ∧ n ≤ (k : Int) + 1 + f)
    (fun _ d _ => 3 - (intOf d).toNat)
  case atStart => exact ⟨0, n.toNat, l0, [], rfl, by omega, ho3, by omega, Below.refl _ _, by omega, rfl, by omega⟩
  case round =>
    obtain ⟨k, f, l, lg, rfl, hk, ho, hll, hbel, hbs, HR, hf⟩ := hrel
    by_cases hc : k < 2 ∧ (k : Int) + 1 < n
    · obtain ⟨hc, hkn⟩ := hc
      obtain ⟨f', lg', HR', hf'⟩ := step_no s n (1) f k l lg _ HR.out hc hkn hf _ rfl
      have HR' := hide HR'
      clear HR hf
      have lo := pos_lo s n ((1) * ((k : Int) + 1)) n3
      have hi' := pos_hi s n ((1) * ((k : Int) + 1)) n3
      obtain ⟨p, HP⟩ : ∃ p, Hid (p = pos s n ((1) * ((k : Int) + 1))) := ⟨_, rfl⟩
      rw [← HP.out] at HR' lo hi'
      cases hcon : l.contains p
      · have HC := hide hcon
        have HA := hide (addNew_not l _ hcon)
        clear hcon
        go_wp2_with fail
        refine (wrap_at _ n p _ (by rw [HP.out]; unfold pos; exact congrArg (fun t => t % n + 1) (by omega)) (by omega) (by omega) n3 n2).mono ?_
        rintro e w5 ⟨rfl, rfl⟩
        go_wp2_with fail
        refine (contains_own _ ho (by omega)).mono ?_
        rintro e w6 ⟨rfl, hw6⟩
        rw [HC.out]
        subst hw6
        go_wp2_with (at_builtin; refine wpList_append_lies _ rfl (.tmp 60) (.tmp 62) 22 rfl B 3 i0 (.int .i64 0) 1 8 Yba.underlying22 hi hz0 hz1 hz2 rfl (by decide) _ l.length _ rfl (World.ownsRow.alloc ho _) ⟨w6.heap.size, 0, none⟩ 1 1 [.int .i64 p] rfl rfl news_one (by intro u hu; simp at hu; subst hu; rfl) (by decide) (by unfold maxLen; omega) (by omega) (by simp; omega) _ rfl ?_)
        intro g cap w7 hown2 hgrow _ _
        have ho2 := owns_snoc hown2
        rw [← HA.out] at ho2
        go_wp2
        go_roundw
        case rel => exact ⟨k + 1, f', addNew l p, lg', by go_num, by omega, ho2, by have := addNew_len l p; omega, (hbel.alloc hbs _).grown hgrow (by simp; omega) (fun k hk => (World.ownsRow.lt ho k hk).1), by have := hgrow.size; simp at this; omega, HR', hf'⟩
        case measure => simp [intOf]; omega
      · have HC := hide hcon
        have HA := hide (addNew_has l _ hcon)
        clear hcon
        go_wp2_with fail
        refine (wrap_at _ n p _ (by rw [HP.out]; unfold pos; exact congrArg (fun t => t % n + 1) (by omega)) (by omega) (by omega) n3 n2).mono ?_
        rintro e w5 ⟨rfl, rfl⟩
        go_wp2_with fail
        refine (contains_own _ ho (by omega)).mono ?_
        rintro e w6 ⟨rfl, hw6⟩
        rw [HC.out]
        subst hw6
        go_wp2
        go_roundw
        case rel => exact ⟨k + 1, f', l, lg', by go_num, by omega, ho, by omega, hbel, hbs, by have := HR'.out; rwa [HA.out] at this, hf'⟩
        case measure => simp [intOf]; omega
    · have HF := hide (show l = (ring s n (1) no n.toNat 0 0 l0 []).1 by rw [← HR.out, ring_stop _ _ _ _ _ _ _ _ _ hc])
      clear HR hf
      rcases (show 2 ≤ k ∨ (k < 2 ∧ n ≤ (k : Int) + 1) by omega) with hq | ⟨hq, hq2⟩
      all_goals
        clear hc
        have hbA := hb3.trans hbel
        obtain ⟨w4, rfl⟩ : ∃ w4 : World, w4 = wr := ⟨_, rfl⟩
        obtain ⟨l1, rfl⟩ : ∃ l1 : List Int, l1 = l := ⟨_, rfl⟩
        have HF1 := HF
        have ho1 := ho
        have hll1 : l1.length ≤ 1026 := by omega
        have hbs1 := hbs
        clear ho hll HF hbel hbs
        go_wp2_with fail
        rw [rounds_succ]
        go_wp2_with fail
        go_loopw [11, 14] (fun v d wr => ∃ (k f : Nat) (l lg : List Int), d = .int .i64 ((k : Int) + 1) ∧ k ≤ 2 ∧ Owns B wr v l ∧ l.length ≤ l1.length + k ∧ Below B w4 wr ∧ B ≤ wr.heap.size ∧
            Hid (ring s n (-1) no f k k l lg = ring s n (-1) no n.toNat 0 0 l1 []) ∧ n ≤ (k : Int) + 1 + f)
          (fun _ d _ => 3 - (intOf d).toNat)
        case atStart => exact ⟨0, n.toNat, l1, [], rfl, by omega, ho1, by omega, Below.refl _ _, hbs1, rfl, by omega⟩
        case round =>
          obtain ⟨k, f, l, lg, rfl, hk, ho, hll, hbel, hbs, HR, hf⟩ := hrel
          by_cases hc : k < 2 ∧ (k : Int) + 1 < n
          · obtain ⟨hc, hkn⟩ := hc
            obtain ⟨f', lg', HR', hf'⟩ := step_no s n (-1) f k l lg _ HR.out hc hkn hf _ rfl
            have HR' := hide HR'
            clear HR hf
            have lo := pos_lo s n ((-1) * ((k : Int) + 1)) n3
            have hi' := pos_hi s n ((-1) * ((k : Int) + 1)) n3
            obtain ⟨p, HP⟩ : ∃ p, Hid (p = pos s n ((-1) * ((k : Int) + 1))) := ⟨_, rfl⟩
            rw [← HP.out] at HR' lo hi'
            cases hcon : l.contains p
            · have HC := hide hcon
              have HA := hide (addNew_not l _ hcon)
              clear hcon
              go_wp2_with fail
              refine (wrap_at _ n p _ (by rw [HP.out]; unfold pos; exact congrArg (fun t => t % n + 1) (by omega)) (by omega) (by omega) n3 n2).mono ?_
              rintro e w5 ⟨rfl, rfl⟩
              go_wp2_with fail
              refine (contains_own _ ho (by omega)).mono ?_
              rintro e w6 ⟨rfl, hw6⟩
              rw [HC.out]
              subst hw6
              go_wp2_with (at_builtin; refine wpList_append_lies _ rfl (.tmp 60) (.tmp 62) 22 rfl B 3 i0 (.int .i64 0) 1 8 Yba.underlying22 hi hz0 hz1 hz2 rfl (by decide) _ l.length _ rfl (World.ownsRow.alloc ho _) ⟨w6.heap.size, 0, none⟩ 1 1 [.int .i64 p] rfl rfl news_one (by intro u hu; simp at hu; subst hu; rfl) (by decide) (by unfold maxLen; omega) (by omega) (by simp; omega) _ rfl ?_)
              intro g cap w7 hown2 hgrow _ _
              have ho2 := owns_snoc hown2
              rw [← HA.out] at ho2
              go_wp2
              go_roundw
              case rel => exact ⟨k + 1, f', addNew l p, lg', by go_num, by omega, ho2, by have := addNew_len l p; omega, (hbel.alloc hbs _).grown hgrow (by simp; omega) (fun k hk => (World.ownsRow.lt ho k hk).1), by have := hgrow.size; simp at this; omega, HR', hf'⟩
              case measure => simp [intOf]; omega
            · have HC := hide hcon
              have HA := hide (addNew_has l _ hcon)
              clear hcon
              go_wp2_with fail
              refine (wrap_at _ n p _ (by rw [HP.out]; unfold pos; exact congrArg (fun t => t % n + 1) (by omega)) (by omega) (by omega) n3 n2).mono ?_
              rintro e w5 ⟨rfl, rfl⟩
              go_wp2_with fail
              refine (contains_own _ ho (by omega)).mono ?_
              rintro e w6 ⟨rfl, hw6⟩
              rw [HC.out]
              subst hw6
              go_wp2
              go_roundw
              case rel => exact ⟨k + 1, f', l, lg', by go_num, by omega, ho, by omega, hbel, hbs, by have := HR'.out; rwa [HA.out] at this, hf'⟩
              case measure => simp [intOf]; omega
          · have HF := hide (show l = (ring s n (-1) no n.toNat 0 0 l1 []).1 by rw [← HR.out, ring_stop _ _ _ _ _ _ _ _ _ hc])
            clear HR hf
            rcases (show 2 ≤ k ∨ (k < 2 ∧ n ≤ (k : Int) + 1) by omega) with hq | ⟨hq, hq2⟩
            all_goals
              clear hc
              have hbB := hbA.trans hbel
              have hgot3 := ho2.below hbB hB2
              rw [HF.out, HF1.out, HB.out] at ho
              have hll2 : l.length ≤ 2000 := by omega
              clear hll HF
              go_wp2_with fail
              rw [rounds_succ]
              go_wp2_with fail
              refine (equal_own hgot3 ho (by omega) (by omega)).mono ?_
              rintro e w8 ⟨rfl, q, hq8⟩
              have hb8 := hb12.trans (hbB.mono hBl)
              clear hbB hgot3 ho hbel
              go_wp2
              go_ret
              refine ⟨by simp, ?_⟩
              exact below_drewN hb8 q
end Go.Proofs.Ybulkajom.ExactWalk
