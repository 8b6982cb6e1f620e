import Derived.Test.YbulkajomRows
import Derived.WalkKit
import Derived.ProofKit
import Derived.OpenShut
import Derived.ShutString
import Derived.Deep.QuietTactic
import Derived.Test.YbulkajomGcd
namespace Go.Proofs.Ybulkajom.lawS1767CDivides
open Go.ChangeShapes Go.WideShapes Go.ChangeAt Go.RowKit
open Go.ChangeMaps (open_string shut_string)
set_option linter.unusedVariables false      -- a walk need not use every 'w<i>' (that an integer argument fits its kind)

theorem own : ownKnob Yba.prog.godebug = none := by kernel_rfl

theorem grown_drewN {W w' : World} (h : Grown W w') (n : Nat) : Grown W (w'.drewN n) := h

/-- The plain law, no Go in sight. -/
theorem plain (m n : Nat) (hm : 1 ≤ m) (hn : 1 ≤ n) : 1 ≤ Nat.gcd m n ∧ Nat.gcd m n ≤ m ∧ Nat.gcd m n ≤ n ∧ m % Nat.gcd m n = 0 ∧ n % Nat.gcd m n = 0 ∧ Nat.gcd (m / Nat.gcd m n) (n / Nat.gcd m n) = 1 ∧ Nat.gcd n m = Nat.gcd m n :=
  ⟨Nat.gcd_pos_of_pos_left _ hm, Nat.gcd_le_left _ hm, Nat.gcd_le_right _ hn, Nat.mod_eq_zero_of_dvd (Nat.gcd_dvd_left _ _), Nat.mod_eq_zero_of_dvd (Nat.gcd_dvd_right _ _), Nat.gcd_div_gcd_div_gcd_of_pos_left hm, Nat.gcd_comm _ _⟩

/-- 'gcd' at the quotients. -/
theorem gcd_one (m n g : Nat) (w : World) (hm : m ≤ 9223372036854775807) (hn : n ≤ 9223372036854775807) (h : Nat.gcd (m / g) (n / g) = 1) :
    Calls Yba.prog 19 #[.int .i64 (IntKind.i64.wrap ((m : Int) / (g : Int))), .int .i64 (IntKind.i64.wrap ((n : Int) / (g : Int)))] w fun e w' => e = .returned (.int .i64 1) ∧ ∃ k, w' = w.drewN k := by
  have h1 : ((m : Int) / (g : Int)) = ((m / g : Nat) : Int) := by simp
  have h2 : ((n : Int) / (g : Int)) = ((n / g : Nat) : Int) := by simp
  have l1 : m / g ≤ m := Nat.div_le_self _ _
  have l2 : n / g ≤ n := Nat.div_le_self _ _
  rw [h1, h2]
  generalize m / g = x at *
  generalize n / g = y at *
  rw [show IntKind.i64.wrap (x : Int) = (x : Int) from by rw [IntKind.wrap_i64]; omega, show IntKind.i64.wrap (y : Int) = (y : Int) from by rw [IntKind.wrap_i64]; omega]
  refine (Gcd.gcd_any _ _ _ (Int.natCast_nonneg _) (by omega) (Int.natCast_nonneg _) (by omega)).mono ?_
  rintro e w' ⟨rfl, k, hk⟩
  exact ⟨by simp only [Int.toNat_natCast, h]; rfl, k, hk⟩

/-- 'gcd' at numbers whose greatest common divisor has a name. -/
theorem gcd_at (m n g : Nat) (w : World) (hm : m ≤ 9223372036854775807) (hn : n ≤ 9223372036854775807) (h : Nat.gcd m n = g) :
    Calls Yba.prog 19 #[.int .i64 (m : Int), .int .i64 (n : Int)] w fun e w' => e = .returned (.int .i64 (g : Int)) ∧ ∃ k, w' = w.drewN k := by
  refine (Gcd.gcd_any _ _ _ (by omega) (by omega) (by omega) (by omega)).mono ?_
  rintro e w' ⟨rfl, k, hk⟩
  exact ⟨by simp only [Int.toNat_natCast, h], k, hk⟩

set_option maxHeartbeats 400000 in
theorem walk (a0 : Int) (a1 : Int) (w0 : (Lit.int .i64 a0).wf = true) (w1 : (Lit.int .i64 a1).wf = true) (w : World) :
    Calls Yba.prog 7 #[.int .i64 a0, .int .i64 a1] w fun e w' => e = .returned (.bool true) ∧ Grown w w' := by
  have b0 := bounds_i64 w0
  have b1 := bounds_i64 w1
  clear w0 w1
  by_cases h0 : a0 < 1
  · go_enter Yba.func7, Yba.ntmps7
    go_wp2
    go_ret
    exact ⟨rfl, Grown.refl _⟩
  · by_cases h1 : a1 < 1
    · go_enter Yba.func7, Yba.ntmps7
      go_wp2
      go_ret
      exact ⟨rfl, Grown.refl _⟩
    · obtain ⟨m, rfl⟩ := Int.eq_ofNat_of_zero_le (show 0 ≤ a0 by omega)
      obtain ⟨n, rfl⟩ := Int.eq_ofNat_of_zero_le (show 0 ≤ a1 by omega)
      obtain ⟨hm0, hm⟩ := b0
      obtain ⟨hn0, hn⟩ := b1
      have hm1 : m ≤ 9223372036854775807 := by omega
      have hn1 : n ≤ 9223372036854775807 := by omega
      obtain ⟨p1, p2, p3, p4, p5, p6, p7⟩ := plain m n (by omega) (by omega)
      generalize hg : Nat.gcd m n = g at *
      have HG : Hid (Nat.gcd m n = g) := hg
      have H6 : Hid (Nat.gcd (m / g) (n / g) = 1) := p6
      have H7 : Hid (Nat.gcd n m = g) := p7
      have z4 : ((m : Int) % (g : Int) != 0) = false := by rw [show ((m : Int) % (g : Int)) = ((m % g : Nat) : Int) from rfl, p4]; rfl
      have z5 : ((n : Int) % (g : Int) != 0) = false := by rw [show ((n : Int) % (g : Int)) = ((n % g : Nat) : Int) from rfl, p5]; rfl
      clear hg p6 p7 p4 p5
      go_enter Yba.func7, Yba.ntmps7
      go_wp2_with fail
      refine (gcd_at m n g _ hm1 hn1 HG.out).mono ?_
      rintro e w1 ⟨rfl, q1, hq1⟩
      have G1 : Grown w w1 := by rw [hq1]; exact grown_drewN (Grown.refl _) _
      clear hq1
      go_wp2_with fail
      go_quiet ((go_at_call 19; exact Calls.quiet_of (gcd_one m n g _ hm1 hn1 H6.out)))
      go_wp2_with fail
      refine (gcd_at n m g _ hn1 hm1 H7.out).mono ?_
      rintro e w2 ⟨rfl, q2, hq2⟩
      have G2 : Grown w w2 := by rw [hq2]; exact grown_drewN (grown_drewN G1 _) _
      clear hq2
      go_wp2
      go_ret
      exact ⟨by simp, G2⟩

/-! ### THE ROW's STEP: WRITTEN OUT: LEAVE IT -/
set_option maxRecDepth 100000 in
theorem lifted (os : Os) (started : os.Started) (H : Type) (enc : TypeId × Value → H) :
    ReturnsInHanded {} Yba.checked os 7 .any (Rows.lawS1767CDividesSpec.pre6 enc Yba.prog Yba.f7 Rows.lawS1767CDividesRow.domain false) (Rows.lawS1767CDividesSpec.post enc Yba.prog Yba.f7 false true false false) := by
  refine returnsInHanded_of_change (C := Yba.checked) own started (by kernel_rfl) Yba.func7
    (ChangeSpec.witness6 (enc := enc) (C := Yba.checked) false ⟨#[], #[.int .i64 0, .int .i64 0], []⟩ 8 (by kernel_rfl) (by kernel_rfl) (by kernel_rfl) (by kernel_rfl)) ?_
  intro W base args ds gs before hval0 hW hcnd _
  have hval : ∀ (j : Nat) t v, Yba.f7.params[j]? = some t → args[j]? = some v → Value.okWide Yba.prog W .any base t v := hval0
  have hW' := hW
  obtain ⟨p, q, hA0, hV, rfl, hfz, hnd⟩ := hW
  have hA : DataW.TrodAll enc Yba.prog W 0 (fun _ => true) true Yba.f7.params.toList args.toList ds p := hA0
  rw [Yba.params7] at hA hval
  obtain ⟨v0, vs0, d0, ds0, p0, q0, hargs, rfl, rfl, h0, r0⟩ := trodAll_cons hA
  obtain ⟨v1, vs1, d1, ds1, p1, q1, rfl, rfl, rfl, h1, r1⟩ := trodAll_cons r0
  obtain ⟨rfl, rfl, rfl⟩ := trodAll_nil r1
  obtain rfl : args = #[v0, v1] := by cases args; simp_all
  obtain ⟨rfl, rfl⟩ := trodVars_none hV
  obtain ⟨a0, rfl, rfl, rfl, w0⟩ := open_int Yba.underlying3 (hval 0 3 v0 rfl rfl) h0
  obtain ⟨a1, rfl, rfl, rfl, w1⟩ := open_int Yba.underlying3 (hval 1 3 v1 rfl rfl) h1
  clear hA0 hval0
  simp only [List.append_nil] at hW'
  refine (walk a0 a1 w0 w1 W).mono fun e W' ⟨he, hg⟩ => ?_
  subst he
  exact ⟨_, rfl, post_of_same (pa := []) (pv := []) hW' (fun _ _ _ => (trodAll_cons_mk (shut_bool Yba.underlying4 _) trodAll_mk0)) (fun sp _ => (trodAll_cons_mk (shut_int Yba.underlying3 w0) (trodAll_cons_mk (shut_int Yba.underlying3 w1) trodAll_mk0))) (fun _ _ => rfl) rfl
    (hg.frame _) hg.2.1 (ok_one (by kernel_rfl) rfl (okWide_bool_mk Yba.underlying4 _))⟩

theorem over : Rows.lawS1767CDividesRow.holds Yba.pinned (OpenSpec.ofChange Rows.lawS1767CDividesSpec) :=
  OpenClaim.holds_of_wide 7 Yba.f7 rfl rfl rfl rfl rfl rfl rfl ⟨rfl, rfl, rfl, rfl, rfl⟩ rfl rfl rfl rfl rfl (by kernel_rfl) Yba.func7 (by kernel_rfl)
    (of_decide_eq_true (by kernel_rfl)) (by unfold Func.isWrapper; first | (rw [if_pos (by decide +kernel)]; kernel_rfl) | (rw [if_neg (by decide +kernel)]; exact ⟨rfl, rfl⟩))
    (fun os started H enc _ => lifted os started H enc)

/-- ████ THE STATEMENT ████ -/
theorem proved : Rows.LawS1767CDividesSaid :=
  over
end Go.Proofs.Ybulkajom.lawS1767CDivides
