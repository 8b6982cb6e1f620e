import Derived.Test.YbulkajomRows
import Derived.WalkKit
import Derived.ProofKit
import Derived.OpenShut
import Derived.ShutString
import Derived.ChangeOld
import Derived.Below
import Derived.Deep.Grids
import Derived.Test.YbulkajomGoneBig
import Derived.Test.YbulkajomGoneSmall
namespace Go.Proofs.Ybulkajom.lawS1767AGone
open Go.ChangeShapes Go.WideShapes Go.ChangeAt Go.RowKit
open Go.ChangeMaps (open_string shut_string)
set_option linter.unusedVariables false

theorem own : ownKnob Yba.prog.godebug = none := by kernel_rfl
theorem laidOut : laidOutB Yba.prog = true := by kernel_rfl

/-- WHAT THE WALK IS TOLD OF A SLICE OF BOOLS THAT CAME IN: it is nil; or it leads to a row of 'cap' cells, the bools F. -/
def IsBools (w : World) (a : Option Addr) (len cap : Nat) (F : Nat → Bool) : Prop :=
  (a = none ∧ len = 0 ∧ cap = 0) ∨ ∃ x, a = some x ∧ len ≤ cap ∧ cap ≤ maxLen ∧ ∀ i, i < cap → w.cell? (x.add i) = some (.bool (F i))

theorem tooLong (a0 : Option Addr) (len0 cap0 : Nat) (a1 : Int) (a2 : Int) (w : World) (h : 1024 < len0) (hm : len0 ≤ 9223372036854775807) :
    Calls Yba.prog 4 #[.slice a0 len0 cap0, .int .u16 a1, .int .u16 a2] w fun e w' => e = .returned (.bool true) ∧ Below w.heap.size w w' := by
  go_enter Yba.func4, Yba.ntmps4
  go_wp2
  go_ret
  exact ⟨rfl, (Below.refl _ _).alloc (Nat.le_refl _) _⟩

theorem walk (a0 : Option Addr) (len0 cap0 : Nat) (F : Nat → Bool) (a1 : Int) (a2 : Int) (w : World) (w0 : IsBools w a0 len0 cap0 F) (w1 : (Lit.int .u16 a1).wf = true) (w2 : (Lit.int .u16 a2).wf = true) :
    Calls Yba.prog 4 #[.slice a0 len0 cap0, .int .u16 a1, .int .u16 a2] w fun e w' => e = .returned (.bool true) ∧ Below w.heap.size w w' := by
  have b1 := bounds_u16 w1
  have b2 := bounds_u16 w2
  have hm : len0 ≤ 9223372036854775807 := by
    rcases w0 with ⟨_, h, _⟩ | ⟨x, _, h1, h2, _⟩
    · omega
    · unfold maxLen at h2; omega
  by_cases hlen : 1024 < len0
  · exact tooLong a0 len0 cap0 a1 a2 w hlen hm
  have hF : len0 = 0 ∨ ∃ b off, a0 = some ⟨b, off, none⟩ ∧ ∀ j, j < len0 → w.cell? ⟨b, off + j, none⟩ = some (.bool (F j)) := by
    by_cases h0 : len0 = 0
    · exact .inl h0
    rcases w0 with ⟨_, h, _⟩ | ⟨⟨b, off, spot⟩, rfl, h1, _, hc⟩
    · exact .inl h
    · have hspot : spot = none := by simpa [Addr.add] using World.cell?_spot (hc 0 (by omega))
      subst hspot
      exact .inr ⟨b, off, rfl, fun j hj => by rw [← Go.WideShapes.add_plain]; exact hc j (by omega)⟩
  by_cases h5 : 5 < 1 + a1 % 1024
  · exact GoneBig.walk a0 len0 cap0 F a1 a2 w hF (by omega) b1.1 b1.2 b2.1 b2.2 h5
  · exact GoneSmall.walk a0 len0 cap0 a1 a2 w (by omega) b1.1 b1.2 b2.1 b2.2 (by omega)

/-! ### THE ROW's STEP: WRITTEN OUT: LEAVE IT -/
set_option maxRecDepth 100000 in
theorem lifted (os : Os) (started : os.Started) (H : Type) (enc : TypeId × Value → H) :
    ReturnsInHanded {} Yba.checked os 4 .any (Rows.lawS1767AGoneSpec.pre6 enc Yba.prog Yba.f4 Rows.lawS1767AGoneRow.domain false) (Rows.lawS1767AGoneSpec.post enc Yba.prog Yba.f4 false true false false) := by
  refine returnsInHanded_of_change (C := Yba.checked) own started (by kernel_rfl) Yba.func4
    (ChangeSpec.witness6 (enc := enc) (C := Yba.checked) false ⟨#[], #[.slice none 0 0, .int .u16 0, .int .u16 0], []⟩ 8 (by kernel_rfl) (by kernel_rfl) (by kernel_rfl) (by kernel_rfl)) ?_
  intro W base args ds gs before hval0 hW hcnd _
  have hval : ∀ (j : Nat) t v, Yba.f4.params[j]? = some t → args[j]? = some v → Value.okWide Yba.prog W .any base t v := hval0
  have hW' := hW
  obtain ⟨p, q, hA0, hV, rfl, hfz, hnd⟩ := hW
  have hA : DataW.TrodAll enc Yba.prog W 0 (fun _ => true) true Yba.f4.params.toList args.toList ds p := hA0
  rw [Yba.params4] at hA hval
  obtain ⟨v0, vs0, d0, ds0, p0, q0, hargs, rfl, rfl, h0, r0⟩ := trodAll_cons hA
  obtain ⟨v1, vs1, d1, ds1, p1, q1, rfl, rfl, rfl, h1, r1⟩ := trodAll_cons r0
  obtain ⟨v2, vs2, d2, ds2, p2, q2, rfl, rfl, rfl, h2, r2⟩ := trodAll_cons r1
  obtain ⟨rfl, rfl, rfl⟩ := trodAll_nil r2
  obtain rfl : args = #[v0, v1, v2] := by cases args; simp_all
  obtain ⟨rfl, rfl⟩ := trodVars_none hV
  obtain ⟨a0, len0, cap0, rfl⟩ := okWide_slice Yba.underlying30 (hval 0 30 v0 rfl rfl)
  have k0 := h0
  have lt0 : ∀ x ∈ p0, x.block < W.heap.size := by obtain ⟨m, hm⟩ := k0; exact DataW.trod_lt m _ _ _ hm
  obtain ⟨F, w0⟩ : ∃ F, IsBools W a0 len0 cap0 F := by
    obtain ⟨fuel, hf⟩ := h0
    rcases Go.Deep.open_bools Yba.underlying30 Yba.underlying4 (by kernel_rfl) hf with ⟨hcs, _⟩ | ⟨x, l, c, F, hcs, _, hl, hm, _, hcell⟩
    · simp [Value.cells] at hcs
      obtain ⟨rfl, rfl, rfl⟩ := hcs
      exact ⟨fun _ => false, .inl ⟨rfl, rfl, rfl⟩⟩
    · simp [Value.cells] at hcs
      obtain ⟨rfl, rfl, rfl⟩ := hcs
      exact ⟨F, .inr ⟨_, rfl, hl, hm, hcell⟩⟩
  obtain ⟨a1, rfl, rfl, rfl, w1⟩ := open_int Yba.underlying23 (hval 1 23 v1 rfl rfl) h1
  obtain ⟨a2, rfl, rfl, rfl, w2⟩ := open_int Yba.underlying23 (hval 2 23 v2 rfl rfl) h2
  clear hA0 hval0
  refine (walk a0 len0 cap0 F a1 a2 W w0 w1 w2).mono fun e W' ⟨he, bel⟩ => ?_
  subst he
  exact ⟨_, rfl, _, _, _, [], _, [], hW', trodAll_mk1 (shut_bool Yba.underlying4 _), (trodAll_cons_mk (Below.trod laidOut (by kernel_rfl) (of_decide_eq_true (by kernel_rfl)) k0 bel lt0) (trodAll_cons_mk (shut_int Yba.underlying23 w1) (trodAll_cons_mk (shut_int Yba.underlying23 w2) trodAll_mk0))), rfl, bel.frame _, fun h => by cases h⟩

theorem over : Rows.lawS1767AGoneRow.holds Yba.pinned (OpenSpec.ofChange Rows.lawS1767AGoneSpec) :=
  OpenClaim.holds_of_wide 4 Yba.f4 rfl rfl rfl rfl rfl rfl rfl ⟨rfl, rfl, rfl, rfl, rfl⟩ rfl rfl rfl rfl rfl (by kernel_rfl) Yba.func4 (by kernel_rfl)
    (of_decide_eq_true (by kernel_rfl)) (by unfold Func.isWrapper; first | (rw [if_pos (by decide +kernel)]; kernel_rfl) | (rw [if_neg (by decide +kernel)]; exact ⟨rfl, rfl⟩))
    (fun os started H enc _ => lifted os started H enc)

/-- ████ THE STATEMENT ████ -/
theorem proved : Rows.LawS1767AGoneSaid := over
end Go.Proofs.Ybulkajom.lawS1767AGone
