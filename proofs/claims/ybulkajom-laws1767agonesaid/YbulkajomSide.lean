import Derived.Test.YbulkajomOwn
import Derived.Test.YbulkajomRing
import Derived.Test.YbulkajomFuncLaw
/-! The contracts of 'side' and 'neighbours' where nobody is passed over (gone is nil). -/
namespace Go.Proofs.Ybulkajom.Side
open Go.RowKit Go.Proofs.Ybulkajom.Own Go.Proofs.Ybulkajom.Ring

theorem info3 : (Yba.prog.info? 3).map (fun i => (i.zero, i.size, i.bytes)) = some (some (.int .i64 0), 1, 8) := by kernel_rfl

def no : Int → Bool := fun _ => false

/-- The row behind an append of one element. -/
theorem owns_snoc {base : Nat} {w : World} {v : Value} {l : List Int} {j : Int} (h : w.ownsRow base 3 1 v (l.length + 1) (l.map (Value.int .i64) ++ [.int .i64 j])) : Owns base w v (l ++ [j]) := by
  unfold Owns
  simpa using h

theorem news_one {w : World} {j : Int} {t : TypeId} : ∀ (i : Nat) (u : Value), [Value.int .i64 j][i]? = some u → (w.alloc (.cells #[.int .i64 j] t)).cell? ((⟨w.heap.size, 0, none⟩ : Addr).add i) = some u := by
  intro i u hi
  match i, hi with
  | 0, hi => simp at hi; subst hi; simp [Addr.add]

theorem ring_bound (k : Nat) (n : Int) (h : (k : Int) + 1 < n) (hn : n ≤ 1024) : k ≤ 1024 := by omega

/-- What one round of the ring does where nobody is passed over. -/
theorem step_no (s n sg : Int) (f k : Nat) (l lg : List Int) (R : List Int × List Int) (h : ring s n sg no f k k l lg = R) (hk : k < 2) (hkn : (k : Int) + 1 < n) (hf : n ≤ (k : Int) + 1 + f) (p : Int) (hp : p = pos s n (sg * ((k : Int) + 1))) :
    ∃ f' lg', ring s n sg no f' (k + 1) (k + 1) (addNew l p) lg' = R ∧ n ≤ ((k + 1 : Nat) : Int) + 1 + f' := by
  obtain ⟨f', rfl⟩ : ∃ f', f = f' + 1 := ⟨f - 1, by omega⟩
  refine ⟨f', lg ++ [p], ?_, by omega⟩
  rw [ring_go s n sg no f' k k l lg hk hkn] at h
  rw [hp]
  simpa [no] using h

set_option maxHeartbeats 1000000 in
theorem side_no (base : Nat) (w : World) (v : Value) (l0 : List Int) (s n sg step c : Int) (hown : Owns base w v l0) (hbase : base ≤ w.heap.size) (hl : l0.length ≤ 4000)
    (hs1 : 1 ≤ s) (hs2 : s ≤ n) (hn : n ≤ 1024) (hp0 : 0 ≤ step) (hp1 : step ≤ 1024) (hst : Hid (step = sg + n * c)) (lg0 : List Int) :
    Calls Yba.prog 21 #[v, .int .i64 s, .int .i64 n, .int .i64 step, .int .i64 0, .nilFunc] w fun e w' =>
      ∃ v', e = .returned v' ∧ Owns base w' v' (ring s n sg no n.toNat 0 0 l0 lg0).1 ∧ (ring s n sg no n.toNat 0 0 l0 lg0).1.length ≤ l0.length + 2 ∧ Below base w w' := by
  obtain ⟨i0, hi, hz0, hz1, hz2⟩ := info_parts info3
  have hnil := FuncLaw.nil31
  go_enter Yba.func21, Yba.ntmps21
  go_wp2
  go_loopw [0, 13, 14, 15] (fun v j ct wk wr => ∃ (k f : Nat) (l lg : List Int), j = .int .i64 (pos s n (sg * (k : Int))) ∧ ct = .int .i64 (k : Int) ∧ wk = .int .i64 ((k : Int) + 1) ∧ k ≤ 2 ∧ Owns base wr v l ∧
      l.length ≤ l0.length + k ∧ Below base w wr ∧ base ≤ wr.heap.size ∧ Hid (ring s n sg no f k k l lg = ring s n sg no n.toNat 0 0 l0 lg0) ∧ n ≤ (k : Int) + 1 + f)
    (fun _ _ ct _ _ => 2 - (intOf ct).toNat)
  case atStart => exact ⟨0, n.toNat, l0, lg0, by rw [pos_zero s n sg hs1 hs2], rfl, rfl, by omega, hown, by omega, Below.refl _ _, hbase, rfl, by omega⟩
  case round =>
    obtain ⟨k, f, l, lg, rfl, rfl, rfl, hk, ho, hll, hbel, hbs, HR, hf⟩ := hrel
    have lo := pos_lo s n (sg * (k : Int)) (by omega)
    have hi' := pos_hi s n (sg * (k : Int)) (by omega)
    have hstep := hide (pos_step s n sg step c k hst.out)
    have nn := Int.emod_nonneg (pos s n (sg * (k : Int)) - 1 + step) (show n ≠ 0 by omega)
    have nl := Int.emod_lt_of_pos (pos s n (sg * (k : Int)) - 1 + step) (show 0 < n by omega)
    generalize pos s n (sg * (k : Int)) = p at *
    by_cases hc : k < 2
    · by_cases hkn : (k : Int) + 1 < n
      · obtain ⟨f', lg', HR', hf'⟩ := step_no s n sg f k l lg _ HR.out hc hkn hf _ hstep.out
        have HR' := hide HR'
        clear HR hf
        cases hcon : l.contains ((p - 1 + step) % n + 1)
        · have HC := hide hcon
          have HA := hide (addNew_not l _ hcon)
          clear hcon
          go_wp2_with fail
          refine (contains_own _ ho (by omega)).mono ?_
          rintro e w1 ⟨rfl, hw1⟩
          rw [HC.out]
          subst hw1
          go_wp2_with (at_builtin; refine wpList_append_lies _ rfl (.tmp 37) (.tmp 39) 22 rfl base 3 i0 (.int .i64 0) 1 8 Yba.underlying22 hi hz0 hz1 hz2 rfl (by decide) _ l.length _ rfl (World.ownsRow.alloc ho _) ⟨w1.heap.size, 0, none⟩ 1 1 [.int .i64 ((p - 1 + step) % n + 1)] rfl rfl ?c1 ?c2 (by decide) ?c3 ?c4 ?c5 _ rfl ?_)
          case c1 => exact news_one
          case c2 => intro u hu; simp at hu; subst hu; rfl
          case c3 => unfold maxLen; omega
          case c4 => omega
          case c5 => simp; omega
          intro g cap w2 hown2 hgrow _ _
          have ho2 := owns_snoc hown2
          rw [← HA.out] at ho2
          go_wp2
          go_roundw
          case rel => exact ⟨k + 1, f', addNew l ((p - 1 + step) % n + 1), lg', by rw [hstep.out]; rfl, by go_num, by go_num, by omega, ho2, by have := addNew_len l ((p - 1 + step) % n + 1); omega, (hbel.alloc hbs _).grown hgrow (by simp; omega) (fun k hk => (World.ownsRow.lt ho k hk).1), by have := hgrow.size; simp at this; omega, HR', hf'⟩
          case measure => simp [intOf]; omega
        · have HC := hide hcon
          have HA := hide (addNew_has l _ hcon)
          clear hcon
          go_wp2_with fail
          refine (contains_own _ ho (by omega)).mono ?_
          rintro e w1 ⟨rfl, hw1⟩
          rw [HC.out]
          subst hw1
          go_wp2
          go_roundw
          case rel => exact ⟨k + 1, f', l, lg', by rw [hstep.out]; rfl, by go_num, by go_num, by omega, ho, by omega, hbel, hbs, by have := HR'.out; rwa [HA.out] at this, hf'⟩
          case measure => simp [intOf]; omega
      · go_wp2
        go_ret
        refine ⟨_, rfl, ?_, ?_, hbel⟩ <;> rw [← HR.out, ring_stop _ _ _ _ _ _ _ _ _ (by omega)]
        · exact ho
        · simp only; omega
    · go_wp2
      go_ret
      refine ⟨_, rfl, ?_, ?_, hbel⟩ <;> rw [← HR.out, ring_stop _ _ _ _ _ _ _ _ _ (by omega)]
      · exact ho
      · simp only; omega
end Go.Proofs.Ybulkajom.Side
