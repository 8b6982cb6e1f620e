import Derived.Test.YbulkajomRows
import Derived.WalkKit
import Derived.ProofKit
import Derived.OpenShut
import Derived.ShutString
import Derived.ChangeOld
import Derived.Below
import Derived.Test.YbulkajomEnter
namespace Go.Proofs.Ybulkajom.lawS1767BEnter
open Go.ChangeShapes Go.WideShapes Go.ChangeAt Go.RowKit
open Go.ChangeMaps (open_string shut_string)
set_option linter.unusedVariables false

theorem own : ownKnob Yba.prog.godebug = none := by kernel_rfl
theorem laidOut : laidOutB Yba.prog = true := by kernel_rfl

/-- WHAT THE WALK IS TOLD OF A SLICE OF INTEGERS THAT CAME IN: it is nil; or it leads to a row of 'cap' cells, the numbers 'zs' (the first 'len' are its elements, the rest its spare room), each fitting its kind. -/
def IsRow (k : IntKind) (w : World) (a : Option Addr) (len cap : Nat) (zs : List Int) : Prop :=
  (a = none ∧ len = 0 ∧ cap = 0 ∧ zs = []) ∨
  ∃ x, a = some x ∧ len ≤ cap ∧ cap ≤ maxLen ∧ zs.length = cap ∧ (∀ i, i < zs.length → w.cell? (x.add i) = some (.int k (zs.getD i 0))) ∧ ∀ n ∈ zs, (Lit.int k n).wf = true

set_option maxRecDepth 100000 in
theorem tooLong (a0 a1 a2 : Int) (a3 : ByteArray) (a4 a5 : Int) (a6 : Option Addr) (len6 cap6 : Nat) (a7 : Bool) (w : World) (h : 1024 < len6) (hm : len6 ≤ 9223372036854775807) :
    Calls Yba.prog 5 #[.int .u16 a0, .int .u16 a1, .int .u64 a2, .string a3, .int .i64 a4, .int .i64 a5, .slice a6 len6 cap6, .bool a7] w fun e w' => e = .returned (.bool true) ∧ Below w.heap.size w w' := by
  go_enter Yba.func5, Yba.ntmps5
  go_wp2
  go_ret
  exact ⟨rfl, Below.refl _ _⟩

theorem walk (a0 : Int) (a1 : Int) (a2 : Int) (a3 : ByteArray) (a4 : Int) (a5 : Int) (a6 : Option Addr) (len6 cap6 : Nat) (z6 : List Int) (a7 : Bool) (w : World) (w0 : (Lit.int .u16 a0).wf = true) (w1 : (Lit.int .u16 a1).wf = true) (w2 : (Lit.int .u64 a2).wf = true) (w3 : a3.size ≤ maxLen) (w4 : (Lit.int .i64 a4).wf = true) (w5 : (Lit.int .i64 a5).wf = true) (w6 : IsRow .u8 w a6 len6 cap6 z6) :
    Calls Yba.prog 5 #[.int .u16 a0, .int .u16 a1, .int .u64 a2, .string a3, .int .i64 a4, .int .i64 a5, .slice a6 len6 cap6, .bool a7] w fun e w' => e = .returned (.bool true) ∧ Below w.heap.size w w' := by
  have b0 := bounds_u16 w0
  have b1 := bounds_u16 w1
  have b4 := bounds_i64 w4
  have hm : len6 ≤ 9223372036854775807 := by
    rcases w6 with ⟨_, h, _⟩ | ⟨x, _, h1, h2, _⟩
    · omega
    · unfold maxLen at h2; omega
  by_cases hlen : 1024 < len6
  · exact tooLong a0 a1 a2 a3 a4 a5 a6 len6 cap6 a7 w hlen hm
  have hB : Enter.Bytes w a6 len6 z6 := by
    by_cases h0 : len6 = 0
    · exact .inl h0
    rcases w6 with ⟨_, h, _⟩ | ⟨⟨b, off, spot⟩, rfl, h1, _, hz, hc, hwf⟩
    · exact .inl h
    · have hspot : spot = none := by simpa [Addr.add] using World.cell?_spot (hc 0 (by omega))
      subst hspot
      refine .inr ⟨b, off, rfl, fun j hj => ⟨by rw [← Go.WideShapes.add_plain]; exact hc j (by omega), ?_⟩⟩
      have hj2 : j < z6.length := by omega
      have hmem : z6.getD j 0 ∈ z6 := by rw [show z6.getD j 0 = z6[j] by simp [List.getElem?_eq_getElem hj2]]; exact List.getElem_mem hj2
      exact bounds_u8 (hwf _ hmem)
  have n0 := Int.emod_nonneg a0 (show (300 : Int) ≠ 0 by omega)
  obtain ⟨n, hn⟩ := Int.eq_ofNat_of_zero_le (show 0 ≤ 1 + a0 % 300 by omega)
  have i0 := Int.emod_nonneg a1 (show (n : Int) ≠ 0 by omega)
  obtain ⟨id, hid⟩ := Int.eq_ofNat_of_zero_le (show 0 ≤ 1 + a1 % (n : Int) by omega)
  cases hc : (a4.tmod n + 1 == (id : Int))
  · exact Enter.walk_no a0 a1 a2 a3 a4 a5 a6 len6 cap6 z6 a7 w hB (by omega) b0.1 b0.2 b1.1 b1.2 b4.1 b4.2 n id hn.symm hid.symm hc
  · exact Enter.walk_yes a0 a1 a2 a3 a4 a5 a6 len6 cap6 z6 a7 w hB (by omega) b0.1 b0.2 b1.1 b1.2 b4.1 b4.2 n id hn.symm hid.symm hc

/-! ### THE ROW's STEP: WRITTEN OUT: LEAVE IT -/
set_option maxRecDepth 100000 in
theorem lifted (os : Os) (started : os.Started) (H : Type) (enc : TypeId × Value → H) :
    ReturnsInHanded {} Yba.checked os 5 .any (Rows.lawS1767BEnterSpec.pre6 enc Yba.prog Yba.f5 Rows.lawS1767BEnterRow.domain false) (Rows.lawS1767BEnterSpec.post enc Yba.prog Yba.f5 false true false false) := by
  refine returnsInHanded_of_change (C := Yba.checked) own started (by kernel_rfl) Yba.func5
    (ChangeSpec.witness6 (enc := enc) (C := Yba.checked) false ⟨#[], #[.int .u16 0, .int .u16 0, .int .u64 0, .string ByteArray.empty, .int .i64 0, .int .i64 0, .slice none 0 0, .bool false], []⟩ 8 (by kernel_rfl) (by kernel_rfl) (by kernel_rfl) (by kernel_rfl)) ?_
  intro W base args ds gs before hval0 hW hcnd _
  have hval : ∀ (j : Nat) t v, Yba.f5.params[j]? = some t → args[j]? = some v → Value.okWide Yba.prog W .any base t v := hval0
  have hW' := hW
  obtain ⟨p, q, hA0, hV, rfl, hfz, hnd⟩ := hW
  have hA : DataW.TrodAll enc Yba.prog W 0 (fun _ => true) true Yba.f5.params.toList args.toList ds p := hA0
  rw [Yba.params5] at hA hval
  obtain ⟨v0, vs0, d0, ds0, p0, q0, hargs, rfl, rfl, h0, r0⟩ := trodAll_cons hA
  obtain ⟨v1, vs1, d1, ds1, p1, q1, rfl, rfl, rfl, h1, r1⟩ := trodAll_cons r0
  obtain ⟨v2, vs2, d2, ds2, p2, q2, rfl, rfl, rfl, h2, r2⟩ := trodAll_cons r1
  obtain ⟨v3, vs3, d3, ds3, p3, q3, rfl, rfl, rfl, h3, r3⟩ := trodAll_cons r2
  obtain ⟨v4, vs4, d4, ds4, p4, q4, rfl, rfl, rfl, h4, r4⟩ := trodAll_cons r3
  obtain ⟨v5, vs5, d5, ds5, p5, q5, rfl, rfl, rfl, h5, r5⟩ := trodAll_cons r4
  obtain ⟨v6, vs6, d6, ds6, p6, q6, rfl, rfl, rfl, h6, r6⟩ := trodAll_cons r5
  obtain ⟨v7, vs7, d7, ds7, p7, q7, rfl, rfl, rfl, h7, r7⟩ := trodAll_cons r6
  obtain ⟨rfl, rfl, rfl⟩ := trodAll_nil r7
  obtain rfl : args = #[v0, v1, v2, v3, v4, v5, v6, v7] := by cases args; simp_all
  obtain ⟨rfl, rfl⟩ := trodVars_none hV
  obtain ⟨a0, rfl, rfl, rfl, w0⟩ := open_int Yba.underlying23 (hval 0 23 v0 rfl rfl) h0
  obtain ⟨a1, rfl, rfl, rfl, w1⟩ := open_int Yba.underlying23 (hval 1 23 v1 rfl rfl) h1
  obtain ⟨a2, rfl, rfl, rfl, w2⟩ := open_int Yba.underlying33 (hval 2 33 v2 rfl rfl) h2
  obtain ⟨a3, rfl, rfl, rfl, w3⟩ := open_string Yba.underlying9 (hval 3 9 v3 rfl rfl) h3
  obtain ⟨a4, rfl, rfl, rfl, w4⟩ := open_int Yba.underlying3 (hval 4 3 v4 rfl rfl) h4
  obtain ⟨a5, rfl, rfl, rfl, w5⟩ := open_int Yba.underlying3 (hval 5 3 v5 rfl rfl) h5
  obtain ⟨a6, len6, cap6, rfl⟩ := okWide_slice Yba.underlying34 (hval 6 34 v6 rfl rfl)
  have k6 := h6
  have lt6 : ∀ x ∈ p6, x.block < W.heap.size := by obtain ⟨m, hm⟩ := k6; exact DataW.trod_lt m _ _ _ hm
  obtain ⟨z6, w6⟩ : ∃ zs, IsRow .u8 W a6 len6 cap6 zs := by
    obtain ⟨fuel, hf⟩ := h6
    rcases open_ints Yba.underlying34 Yba.underlying5 (by kernel_rfl) hf with ⟨hcs, _⟩ | ⟨x, l, c, zs, hcs, _, hl, hm, hz, _, hcell, hwz⟩
    · simp [Value.cells] at hcs
      obtain ⟨rfl, rfl, rfl⟩ := hcs
      exact ⟨[], .inl ⟨rfl, rfl, rfl, rfl⟩⟩
    · simp [Value.cells] at hcs
      obtain ⟨rfl, rfl, rfl⟩ := hcs
      exact ⟨zs, .inr ⟨_, rfl, hl, hm, by simpa using hz, hcell, hwz⟩⟩
  obtain ⟨a7, rfl, rfl, rfl⟩ := open_bool Yba.underlying4 (hval 7 4 v7 rfl rfl) h7
  clear hA0 hval0
  refine (walk a0 a1 a2 a3 a4 a5 a6 len6 cap6 z6 a7 W w0 w1 w2 w3 w4 w5 w6).mono fun e W' ⟨he, bel⟩ => ?_
  subst he
  exact ⟨_, rfl, _, _, _, [], _, [], hW', trodAll_mk1 (shut_bool Yba.underlying4 _), (trodAll_cons_mk (shut_int Yba.underlying23 w0) (trodAll_cons_mk (shut_int Yba.underlying23 w1) (trodAll_cons_mk (shut_int Yba.underlying33 w2) (trodAll_cons_mk (shut_string Yba.underlying9 w3) (trodAll_cons_mk (shut_int Yba.underlying3 w4) (trodAll_cons_mk (shut_int Yba.underlying3 w5) (trodAll_cons_mk (Below.trod laidOut (by kernel_rfl) (of_decide_eq_true (by kernel_rfl)) k6 bel lt6) (trodAll_cons_mk (shut_bool Yba.underlying4 _) trodAll_mk0)))))))), rfl, bel.frame _, fun h => by cases h⟩

theorem over : Rows.lawS1767BEnterRow.holds Yba.pinned (OpenSpec.ofChange Rows.lawS1767BEnterSpec) :=
  OpenClaim.holds_of_wide 5 Yba.f5 rfl rfl rfl rfl rfl rfl rfl ⟨rfl, rfl, rfl, rfl, rfl⟩ rfl rfl rfl rfl rfl (by kernel_rfl) Yba.func5 (by kernel_rfl)
    (of_decide_eq_true (by kernel_rfl)) (by unfold Func.isWrapper; first | (rw [if_pos (by decide +kernel)]; kernel_rfl) | (rw [if_neg (by decide +kernel)]; exact ⟨rfl, rfl⟩))
    (fun os started H enc _ => lifted os started H enc)

/-- ████ THE STATEMENT ████ -/
theorem proved : Rows.LawS1767BEnterSaid := over
end Go.Proofs.Ybulkajom.lawS1767BEnter
