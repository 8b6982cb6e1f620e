import Derived.Test.YbulkajpaNext
import Derived.OpenShut
import Derived.Deep.RegionHeld3
/-! Contracts of byteorder.LEUint64, State.Init64, State.Init, NewChaCha8. -/
namespace Go.Proofs.Ybulkajpa.Init
open Go.RowKit Go.Proofs.Ybulkajpa.Cha Go.Proofs.Ybulkajpa.Stream Go.Proofs.Ybulkajpa.Mem Go.Proofs.Ybulkajpa.Next

/-- The number that eight bytes spell, the least byte first, as the Go text reckons it. -/
def leV (z : Nat → Int) : Int :=
  bits .or .u64 (bits .or .u64 (bits .or .u64 (bits .or .u64 (bits .or .u64 (bits .or .u64 (bits .or .u64 (IntKind.u64.wrap (z 0)) (IntKind.u64.wrap (IntKind.u64.wrap (z 1) * 256))) (IntKind.u64.wrap (IntKind.u64.wrap (z 2) * 65536))) (IntKind.u64.wrap (IntKind.u64.wrap (z 3) * 16777216))) (IntKind.u64.wrap (IntKind.u64.wrap (z 4) * 4294967296))) (IntKind.u64.wrap (IntKind.u64.wrap (z 5) * 1099511627776))) (IntKind.u64.wrap (IntKind.u64.wrap (z 6) * 281474976710656))) (IntKind.u64.wrap (IntKind.u64.wrap (z 7) * 72057594037927936))
theorem leV_bd (z : Nat → Int) : 0 ≤ leV z ∧ leV z ≤ 18446744073709551615 := bounds_u64 (wf_bits .or .u64 _ _)
/-- .. as a natural number. -/
def leN (z : Nat → Int) : Nat := (leV z).toNat
theorem leN_eq (z : Nat → Int) : leV z = (leN z : Nat) := by unfold leN; have := leV_bd z; omega
theorem leN_lt (z : Nat → Int) : leN z < 18446744073709551616 := by unfold leN; have := leV_bd z; omega

set_option maxRecDepth 100000 in
set_option maxHeartbeats 800000 in
theorem le_any (w : World) (b off n cap : Nat) (z : Nat → Int) (hn : 8 ≤ n) (hc : ∀ j, j < 8 → w.cell? ⟨b, off + j, none⟩ = some (.int .u8 (z j))) :
    Calls Yba.prog 27 #[.slice (some ⟨b, off, none⟩) n cap] w fun e w' => e = .returned (.int .u64 (leN z : Nat)) ∧ ∃ q, w' = w.drewN q := by
  have c0 : w.cell? ⟨b, off, none⟩ = some (.int .u8 (z 0)) := hc 0 (by omega)
  have c1 := hc 1 (by omega)
  have c2 := hc 2 (by omega)
  have c3 := hc 3 (by omega)
  have c4 := hc 4 (by omega)
  have c5 := hc 5 (by omega)
  have c6 := hc 6 (by omega)
  have c7 := hc 7 (by omega)
  have h0 : (0 : Int) < (n : Int) := by omega
  have h1 : (1 : Int) < (n : Int) := by omega
  have h2 : (2 : Int) < (n : Int) := by omega
  have h3 : (3 : Int) < (n : Int) := by omega
  have h4 : (4 : Int) < (n : Int) := by omega
  have h5 : (5 : Int) < (n : Int) := by omega
  have h6 : (6 : Int) < (n : Int) := by omega
  have h7 : (7 : Int) < (n : Int) := by omega
  have HE := hide (leN_eq z)
  clear hc
  go_enter Yba.func27, Yba.ntmps27
  go_wp2
  go_quiet (fail)
  go_wp2
  go_ret
  exact ⟨by rw [← HE.out]; rfl, _, rfl⟩
end Go.Proofs.Ybulkajpa.Init
