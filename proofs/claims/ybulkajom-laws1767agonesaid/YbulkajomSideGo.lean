import Derived.Test.YbulkajomAsk
/-! The contract of 'side' where the closure is asked. -/
namespace Go.Proofs.Ybulkajom.SideGo
open Go.RowKit Go.Proofs.Ybulkajom.Own Go.Proofs.Ybulkajom.Ring Go.Proofs.Ybulkajom.Side Go.Proofs.Ybulkajom.Ask

/-- The row that is gathered and the log, side by side. -/
structure Two (w : World) (L : Nat) (v lv : Value) (l lg : List Int) : Prop where
  near : Owns (L + 1) w v l
  log : LogIs w L lv lg
  apart : ∀ q, v.ownBlock = some q → lv.ownBlock = some q → False
  lt : L < w.heap.size

theorem two_near {w w1 : World} {L g cap : Nat} {v lv : Value} {l lg : List Int} {j : Int} {o : Obj} (h : Two w L v lv l lg)
    (hown : w1.ownsRow (L + 1) 3 1 (.slice (some ⟨g, 0, none⟩) (l.length + 1) cap) (l.length + 1) (l.map (Value.int .i64) ++ [.int .i64 j]))
    (hgrow : (w.alloc o).grownBy w1 v.ownBlock) (hat : v.ownBlock = some g ∨ g = w.heap.size + 1) :
    Two w1 L (.slice (some ⟨g, 0, none⟩) (l.length + 1) cap) lv (l ++ [j]) lg ∧ Below L w w1 := by
  have hne : some L ≠ v.ownBlock := by
    intro e
    have := (World.ownsRow.lt h.near L e.symm).1
    omega
  have hlt := h.lt
  have hsz := hgrow.size
  simp at hsz
  refine ⟨⟨owns_snoc hown, ⟨?_, ?_⟩, ?_, by omega⟩, ?_⟩
  · rw [hgrow.block L (by simp; omega) hne, Below.heap_alloc _ _ _ hlt]
    exact h.log.cell
  · refine World.ownsRow.kept (World.ownsRow.alloc h.log.own o) hgrow ?_
    cases hq : lv.ownBlock with
    | none => exact .inl rfl
    | some q => exact .inr (fun e => h.apart q e.symm hq)
  · intro q hq hl
    simp [Value.ownBlock] at hq
    subst hq
    rcases hat with e | e
    · exact h.apart _ e hl
    · have := (World.ownsRow.lt h.log.own _ hl).2
      omega
  · exact ((Below.refl L w).alloc (by omega) o).grown hgrow (by simp; omega) (fun k hk => by have := (World.ownsRow.lt h.near k hk).1; omega)

theorem two_ask {w w1 : World} {L : Nat} {v lv lv' : Value} {l lg lg' : List Int} (h : Two w L v lv l lg) (hlog : LogIs w1 L lv' lg') (ha : Asked w w1 L lv lv') :
    Two w1 L v lv' l lg' ∧ Below L w w1 := by
  have hlt := h.lt
  have hsz := ha.size
  refine ⟨⟨?_, hlog, ?_, by omega⟩, ⟨ha.os, ha.tape, ha.output, ha.size, fun k hk => ha.block k (by omega) (by omega) (fun e => by have := (World.ownsRow.lt h.log.own k e.symm).1; omega)⟩⟩
  · refine ⟨h.near.1, ?_⟩
    rcases h.near.2 with h2 | ⟨g, cap, cur, hv, hg, hh, r⟩
    · exact .inl h2
    · refine .inr ⟨g, cap, cur, hv, hg, ?_, r⟩
      rw [ha.block g (Array.getElem?_eq_some_iff.1 hh).1 (by omega) (fun e => h.apart g (by rw [hv]; rfl) e.symm)]
      exact hh
  · intro q hq hq'
    rcases ha.at' q hq' with e | e
    · exact h.apart q hq e
    · have := (World.ownsRow.lt h.near q hq).2
      omega

/-- What one round of the ring does. -/
theorem step_go (s n sg : Int) (g : Int → Bool) (f k c : Nat) (l lg : List Int) (R : List Int × List Int) (h : ring s n sg g f k c l lg = R) (hk : c < 2) (hkn : (k : Int) + 1 < n) (hf : n ≤ (k : Int) + 1 + f) (p : Int) (hp : p = pos s n (sg * ((k : Int) + 1))) :
    ∃ f', ring s n sg g f' (k + 1) (if g p then c else c + 1) (addNew l p) (lg ++ [p]) = R ∧ n ≤ ((k + 1 : Nat) : Int) + 1 + f' := by
  obtain ⟨f', rfl⟩ : ∃ f', f = f' + 1 := ⟨f - 1, by omega⟩
  refine ⟨f', ?_, by omega⟩
  rw [ring_go s n sg g f' k c l lg hk hkn] at h
  rw [hp]
  exact h

/-- What 'side' and 'neighbours' leave: the slice v' owns what was gathered, the log what was asked; nothing below L has turned. -/
def Leaves2 (w w' : World) (L : Nat) (v' : Value) (R : List Int × List Int) (a b : Nat) : Prop :=
  (∃ lv', Two w' L v' lv' R.1 R.2) ∧ R.1.length ≤ a ∧ R.2.length ≤ b ∧ Below L w w'

set_option maxHeartbeats 2000000 in
theorem side_go (w : World) (B L : Nat) (ao : Option Addr) (len cap : Nat) (F : Nat → Bool) (v lv : Value) (l0 lg0 : List Int) (s n sg step c0 : Int) (htwo : Two w L v lv l0 lg0) (hg : GoneIs w B ao len cap F) (hBL : B < L) (hlen : len ≤ 1024)
    (hl : l0.length ≤ 2000) (hlg : lg0.length ≤ 2000)
    (hs1 : 1 ≤ s) (hs2 : s ≤ n) (hn : n ≤ 1024) (hp0 : 0 ≤ step) (hp1 : step ≤ 1024) (hst : Hid (step = sg + n * c0)) :
    Calls Yba.prog 21 #[v, .int .i64 s, .int .i64 n, .int .i64 step, .int .i64 0, .func (.func 12) #[] #[.pointer (some ⟨L, 0, none⟩), .pointer (some ⟨B, 0, none⟩)]] w fun e w' =>
      ∃ v', e = .returned v' ∧ Leaves2 w w' L v' (ring s n sg (goneF len F) n.toNat 0 0 l0 lg0) (l0.length + 1024) (lg0.length + 1024) := by
  obtain ⟨i0, hi, hz0, hz1, hz2⟩ := info_parts info3
  have hnil := FuncLaw.func31
  go_enter Yba.func21, Yba.ntmps21
  go_wp2
  go_loopw [0, 13, 14, 15] (fun v j ct wk wr => ∃ (k f c : Nat) (l lg : List Int) (lv : Value), j = .int .i64 (pos s n (sg * (k : Int))) ∧ ct = .int .i64 (c : Int) ∧ wk = .int .i64 ((k : Int) + 1) ∧ c ≤ 2 ∧ k ≤ 1024 ∧ Two wr L v lv l lg ∧
      l.length ≤ l0.length + k ∧ lg.length ≤ lg0.length + k ∧ Below L w wr ∧ Hid (ring s n sg (goneF len F) f k c l lg = ring s n sg (goneF len F) n.toNat 0 0 l0 lg0) ∧ n ≤ (k : Int) + 1 + f)
    (fun _ _ _ wk _ => (n - intOf wk).toNat)
  case atStart => exact ⟨0, n.toNat, 0, l0, lg0, lv, by rw [pos_zero s n sg hs1 hs2], rfl, rfl, by omega, by omega, htwo, by omega, by omega, Below.refl _ _, rfl, by omega⟩
  case round =>
    obtain ⟨k, f, c, l, lg, lv, rfl, rfl, rfl, hc2, hk, ho, hll, hlgl, hbel, HR, hf⟩ := hrel
    have lo := pos_lo s n (sg * (k : Int)) (by omega)
    have hi' := pos_hi s n (sg * (k : Int)) (by omega)
    have hstep := hide (pos_step s n sg step c0 k hst.out)
    have nn := Int.emod_nonneg (pos s n (sg * (k : Int)) - 1 + step) (show n ≠ 0 by omega)
    have nl := Int.emod_lt_of_pos (pos s n (sg * (k : Int)) - 1 + step) (show 0 < n by omega)
    generalize pos s n (sg * (k : Int)) = p at *
    by_cases hc : c < 2 ∧ (k : Int) + 1 < n
    · obtain ⟨hc, hkn⟩ := hc
      obtain ⟨f', HR', hf'⟩ := step_go s n sg (goneF len F) f k c l lg _ HR.out hc hkn hf _ hstep.out
      have HR' := hide HR'
      clear HR hf
      have hgw := hg.below (hbel.mono (by omega))
      cases hcon : l.contains ((p - 1 + step) % n + 1)
      · have HC := hide hcon
        have HA := hide (addNew_not l _ hcon)
        clear hcon
        go_wp2_with fail
        refine (contains_own _ ho.near (by omega)).mono ?_
        rintro e w1 ⟨rfl, hw1⟩
        rw [HC.out]
        subst hw1
        go_wp2_with (at_builtin; refine wpList_append_lies _ rfl (.tmp 37) (.tmp 39) 22 rfl (L + 1) 3 i0 (.int .i64 0) 1 8 Yba.underlying22 hi hz0 hz1 hz2 rfl (by decide) _ l.length _ rfl (World.ownsRow.alloc ho.near _) ⟨w1.heap.size, 0, none⟩ 1 1 [.int .i64 ((p - 1 + step) % n + 1)] rfl rfl news_one (by intro u hu; simp at hu; subst hu; rfl) (by decide) (by unfold maxLen; omega) (by omega) (by have := ho.lt; simp; omega) (w1.heap.size + 1) (by simp) ?_)
        intro g cap w2 hown2 hgrow hat _
        obtain ⟨ho2, hb2⟩ := two_near ho hown2 hgrow hat
        rw [← HA.out] at ho2
        have hgw2 := hgw.below (hb2.mono (by omega))
        clear hown2 hgrow hat
        go_wp2_with fail
        refine (ask_any _ B L ao len _ F lv lg _ hgw2 ho2.log hBL ho2.lt (by omega) hlen (by omega) (by omega)).mono ?_
        rintro e w3 ⟨rfl, lv', hlog3, hask⟩
        obtain ⟨ho3, hb3⟩ := two_ask ho2 hlog3 hask
        cases hgo : goneF len F ((p - 1 + step) % n + 1)
        · have HG := hide hgo
          clear hgo
          go_wp2
          go_roundw
          case rel => exact ⟨k + 1, f', c + 1, addNew l ((p - 1 + step) % n + 1), lg ++ [(p - 1 + step) % n + 1], lv', by rw [hstep.out]; rfl, by go_num, by go_num, by omega, by omega, ho3, by have := addNew_len l ((p - 1 + step) % n + 1); omega, by simp; omega, (hbel.trans hb2).trans hb3, by have := HR'.out; rw [HG.out] at this; exact this, hf'⟩
          case measure => simp [intOf]; omega
        · have HG := hide hgo
          clear hgo
          go_wp2
          go_roundw
          case rel => exact ⟨k + 1, f', c, addNew l ((p - 1 + step) % n + 1), lg ++ [(p - 1 + step) % n + 1], lv', by rw [hstep.out]; rfl, by go_num, by go_num, by omega, by omega, ho3, by have := addNew_len l ((p - 1 + step) % n + 1); omega, by simp; omega, (hbel.trans hb2).trans hb3, by have := HR'.out; rw [HG.out] at this; exact this, hf'⟩
          case measure => simp [intOf]; omega
      · have HC := hide hcon
        have HA := hide (addNew_has l _ hcon)
        clear hcon
        go_wp2_with fail
        refine (contains_own _ ho.near (by omega)).mono ?_
        rintro e w1 ⟨rfl, hw1⟩
        rw [HC.out]
        subst hw1
        go_wp2_with fail
        refine (ask_any _ B L ao len _ F lv lg _ hgw ho.log hBL ho.lt (by omega) hlen (by omega) (by omega)).mono ?_
        rintro e w3 ⟨rfl, lv', hlog3, hask⟩
        obtain ⟨ho3, hb3⟩ := two_ask ho hlog3 hask
        cases hgo : goneF len F ((p - 1 + step) % n + 1)
        · have HG := hide hgo
          clear hgo
          go_wp2
          go_roundw
          case rel => exact ⟨k + 1, f', c + 1, l, lg ++ [(p - 1 + step) % n + 1], lv', by rw [hstep.out]; rfl, by go_num, by go_num, by omega, by omega, ho3, by omega, by simp; omega, hbel.trans hb3, by have := HR'.out; rw [HG.out, HA.out] at this; exact this, hf'⟩
          case measure => simp [intOf]; omega
        · have HG := hide hgo
          clear hgo
          go_wp2
          go_roundw
          case rel => exact ⟨k + 1, f', c, l, lg ++ [(p - 1 + step) % n + 1], lv', by rw [hstep.out]; rfl, by go_num, by go_num, by omega, by omega, ho3, by omega, by simp; omega, hbel.trans hb3, by have := HR'.out; rw [HG.out, HA.out] at this; exact this, hf'⟩
          case measure => simp [intOf]; omega
    · have HF := hide (show ring s n sg (goneF len F) n.toNat 0 0 l0 lg0 = (l, lg) by rw [← HR.out, ring_stop _ _ _ _ _ _ _ _ _ hc])
      clear HR hf
      rcases (show 2 ≤ c ∨ (c < 2 ∧ n ≤ (k : Int) + 1) by omega) with hq | ⟨hq, hq2⟩
      all_goals
        clear hc
        go_wp2
        go_ret
        refine ⟨_, rfl, ?_⟩
        rw [HF.out]
        exact ⟨⟨lv, ho⟩, by simp only; omega, by simp only; omega, hbel⟩
end Go.Proofs.Ybulkajom.SideGo
