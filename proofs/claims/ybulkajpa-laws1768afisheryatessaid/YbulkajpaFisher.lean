import Derived.Test.YbulkajpaDraw
import Derived.Test.YbulkajpaCopy
/-! The walk of LawS1768AFisherYates. -/
namespace Go.Proofs.Ybulkajpa.Fisher
open Go.RowKit Go.Proofs.Ybulkajpa.Cha Go.Proofs.Ybulkajpa.Stream Go.Proofs.Ybulkajpa.Mem Go.Proofs.Ybulkajpa.Next Go.Proofs.Ybulkajpa.Bel Go.Proofs.Ybulkajpa.Shuf Go.Proofs.Ybulkajpa.Copy Go.Proofs.Ybulkajpa.Init

theorem copy_at (w : World) (x : Addr) (cap : Nat) (l : List Int) (m : Nat) (hm : Hid (l.length = m)) (hl : m ≤ 1024) (hc : Hid (∀ j u, (l.map (Value.int .i64))[j]? = some u → w.cell? (x.add j) = some u)) :
    Calls Yba.prog 8 #[.slice (some x) m cap] w fun e w' => ∃ g, e = .returned (.slice (some ⟨g, 0, none⟩) m m) ∧ RW w' g l ∧ w.heap.size ≤ g ∧ g < w'.heap.size ∧ Kept w w' [] := by
  have hm := hm.out
  subst hm
  exact copy_some w x cap l hl hc.out
theorem shuffle_at (w : World) (D C g : Nat) (σ : St) (l : List Int) (m cap : Nat) (hm : Hid (l.length = m)) (hd : DR w D C σ) (ho : Ok σ) (hr : RW w g l) (hl0 : 0 < m) (hl : m ≤ 1024) (hDC : D ≠ C) (hgD : g ≠ D) (hgC : g ≠ C) :
    Calls Yba.prog 10 #[.pointer (some ⟨D, 0, none⟩), .slice (some ⟨g, 0, none⟩) m cap] w fun e w' => e = .returned (.tuple #[]) ∧ RW w' g (shuf (m - 1) σ l).1 ∧ (shuf (m - 1) σ l).1.length = m ∧ DR w' D C (shuf (m - 1) σ l).2 ∧ Ok (shuf (m - 1) σ l).2 ∧ Kept w w' [C, g] := by
  have hm := hm.out
  subst hm
  exact shuffle_any w D C g σ l cap hd ho hr hl0 hl hDC hgD hgC

/-- The two draws that stand in memory, apart. -/
structure Two (w : World) (D1 C1 D2 C2 : Nat) (σ : St) : Prop where
  a : DR w D1 C1 σ
  b : DR w D2 C2 σ
  ok : Ok σ
  x : C1 ≠ D1
  y : C1 ≠ D2
  z : C1 ≠ C2
  u : C2 ≠ D1
  v : C2 ≠ D2
theorem first64 {w : World} {D1 C1 D2 C2 : Nat} {σ : St} (h : Two w D1 C1 D2 C2 σ) :
    Calls Yba.prog 13 #[.pointer (some ⟨C1, 0, none⟩)] w fun e w' => e = .returned (.int .u64 ((next σ).1 : Nat)) ∧ (w'.cell? ⟨D1, 0, none⟩ = some (.pointer (some ⟨C1, 0, none⟩)) ∧ w'.cell? ⟨D2, 0, none⟩ = some (.pointer (some ⟨C2, 0, none⟩))) ∧ CH w' C2 σ ∧ Kept w w' [C1] := by
  refine (uint64_any w C1 σ h.a.c h.ok).mono ?_
  rintro e w' ⟨rfl, hc, hk⟩
  exact ⟨rfl, ⟨hk.cell h.a.d (by simpa using h.x.symm), hk.cell h.b.d (by simpa using h.y.symm)⟩, h.b.c.kept hk (by simpa using h.z.symm), hk⟩
theorem second64 {w : World} {D1 C1 D2 C2 : Nat} {σ : St} (ho : Ok σ) (hu : C2 ≠ D1) (hv : C2 ≠ D2) (hs : w.cell? ⟨D1, 0, none⟩ = some (.pointer (some ⟨C1, 0, none⟩)) ∧ w.cell? ⟨D2, 0, none⟩ = some (.pointer (some ⟨C2, 0, none⟩))) (hc : CH w C2 σ) :
    Calls Yba.prog 13 #[.pointer (some ⟨C2, 0, none⟩)] w fun e w' => e = .returned (.int .u64 ((next σ).1 : Nat)) ∧ (w'.cell? ⟨D1, 0, none⟩ = some (.pointer (some ⟨C1, 0, none⟩)) ∧ w'.cell? ⟨D2, 0, none⟩ = some (.pointer (some ⟨C2, 0, none⟩))) ∧ Kept w w' [C2] := by
  refine (uint64_any w C2 σ hc ho).mono ?_
  rintro e w' ⟨rfl, hc, hk⟩
  exact ⟨rfl, ⟨hk.cell hs.1 (by simpa using hu.symm), hk.cell hs.2 (by simpa using hv.symm)⟩, hk⟩

set_option maxRecDepth 100000 in
set_option maxHeartbeats 800000 in
theorem big (w : World) (s : Int) (a : Option Addr) (len cap : Nat) (h : 1024 < len) : Calls Yba.prog 4 #[.int .i64 s, .slice a len cap] w fun e w' => e = .returned (.bool true) ∧ Kept w w' [] := by
  go_enter Yba.func4, Yba.ntmps4
  go_wp2
  go_ret
  exact ⟨rfl, Kept.refl _ _⟩

set_option maxRecDepth 100000 in
set_option maxHeartbeats 3200000 in
theorem some_any (w : World) (s : Int) (x : Addr) (cap : Nat) (l : List Int) (m : Nat) (Hm : Hid (l.length = m)) (hl0 : 0 < m) (hl : m ≤ 1024) (Hc : Hid (∀ j u, (l.map (Value.int .i64))[j]? = some u → w.cell? (x.add j) = some u)) :
    Calls Yba.prog 4 #[.int .i64 s, .slice (some x) m cap] w fun e w' => e = .returned (.bool true) ∧ Kept w w' [] := by
  have hok := seedSt_ok s
  go_enter Yba.func4, Yba.ntmps4
  go_wp2_with fail
  refine (copy_at w x cap l m Hm hl Hc).mono ?_
  rintro e w1 ⟨g1, rfl, r1, hg1, hg1', k1⟩
  go_wp2_with fail
  refine (draw_any w1 s).mono ?_
  rintro e w2 ⟨D1, C1, rfl, d2, hDC1, hD1, hC1, hD1', hC1', k2⟩
  go_wp2_with fail
  refine (shuffle_at w2 D1 C1 g1 (seedSt s) l m m Hm d2 hok (r1.kept hg1' k2 (by simp)) hl0 hl hDC1 (by omega) (by omega)).mono ?_
  rintro e w3 ⟨rfl, r3, HL3, d3, ok3, k3⟩
  have K3 := (k1.andThen k2 (by simp)).andThen k3 (by have := k1.size; intro y hy; simp at hy; right; omega)
  have Hc3 : Hid (∀ j u, (l.map (Value.int .i64))[j]? = some u → w3.cell? (x.add j) = some u) := fun j u hj => K3.cell (Hc.out j u hj) (by simp)
  go_wp2_with fail
  refine (copy_at w3 x cap l m Hm hl Hc3).mono ?_
  rintro e w4 ⟨g2, rfl, r4, hg2, hg2', k4⟩
  go_wp2_with fail
  refine (draw_any w4 s).mono ?_
  rintro e w5 ⟨D2, C2, rfl, d5, hDC2, hD2, hC2, hD2', hC2', k5⟩
  have s1 := k1.size
  have s2 := k2.size
  have s3 := k3.size
  have s4 := k4.size
  have s5 := k5.size
  have k45 := k4.andThen k5 (by simp)
  have hg1lt : g1 < w3.heap.size := by omega
  have ra := r3.kept hg1lt k45 (by simp)
  have da := d3.kept k45 (by simp) (by simp)
  have rb := r4.kept hg2' k5 (by simp)
  have K5 := K3.andThen k45 (by simp)
  have e1 : g2 ≠ g1 := by omega
  have e2 : g2 ≠ D1 := by omega
  have e3 : g2 ≠ C1 := by omega
  have e4 : g2 ≠ D2 := by omega
  have e5 : g2 ≠ C2 := by omega
  have e6 : C2 ≠ g1 := by omega
  have e7 : C2 ≠ D1 := by omega
  have e8 : C2 ≠ C1 := by omega
  have e9 : C2 ≠ D2 := by omega
  have e10 : C1 ≠ D2 := by omega
  have hnew : w.heap.size ≤ C1 ∧ w.heap.size ≤ C2 ∧ w.heap.size ≤ g1 ∧ w.heap.size ≤ g2 := ⟨by omega, by omega, by omega, by omega⟩
  have hg15 : g1 < w5.heap.size := by omega
  have HL := hide HL3
  obtain ⟨R, HR⟩ : ∃ R, Hid (shuf (m - 1) (seedSt s) l = R) := ⟨_, rfl⟩
  rw [HR.out] at ra da HL ok3
  have hDC1' := hDC1.symm
  clear HL3 r1 d2 r3 d3 r4 k1 k2 k3 k4 k5 k45 K3 Hc3 Hc hg1 hg1' hD1 hC1 hD1' hC1' hg2 hg2' hD2 hC2 hD2' hC2' s1 s2 s3 s4 s5 hg1lt hDC1
  go_wp2
  go_loopw [9] (fun x wr => ∃ (i : Nat) (τ : St) (k : List Int), x = .int .i64 (i : Int) ∧ i < m ∧ Hid (k.length = m) ∧ RW wr g2 k ∧ DR wr D2 C2 τ ∧ Ok τ ∧ Kept w5 wr [C2, g2] ∧ Hid (shuf i τ k = R)) (fun x _ => (intOf x).toNat)
  case atStart => exact ⟨m - 1, seedSt s, l, by go_num, by omega, Hm, rb, d5, hok, Kept.refl _ _, HR⟩
  case round =>
    obtain ⟨i, τ, k, rfl, hi, HK, hrw, hdr, hokt, hkp, HS⟩ := hrel
    cases i with
    | zero =>
      have HS' : Hid (R = (k, τ)) := by show _ = _; rw [← HS.out]; rfl
      have hkl : k.length = m := HK.out
      have hra : RW wr g1 k := by
        have := ra.kept hg15 hkp (by simp; exact ⟨Ne.symm e6, Ne.symm e1⟩)
        rwa [HS'.out] at this
      have hda : DR wr D1 C1 τ := by
        have := da.kept hkp (by simp; exact ⟨Ne.symm e7, Ne.symm e2⟩) (by simp; exact ⟨Ne.symm e8, Ne.symm e3⟩)
        rwa [HS'.out] at this
      have HT : Hid (Two wr D1 C1 D2 C2 τ) := ⟨hda, hdr, hokt, hDC1', e10, Ne.symm e8, e7, e9⟩
      have HKr : Hid (Kept w wr []) := K5.andThen hkp (by intro y hy; simp at hy; right; omega)
      have hga : g1 < wr.heap.size := Nat.lt_of_lt_of_le hg15 hkp.size
      have hgb : g2 < wr.heap.size := World.block_lt_of_cell? wr _ (hrw.cell 0 (by omega))
      clear ra da rb d5 K5 hdr hkp HS HS' hda HK e1 e2 e3 e4 e5 e6 e8 hg15 HL
      go_wp2
      go_loopw [12] (fun x v => ∃ i : Nat, x = .int .i64 (i : Int) ∧ i ≤ m ∧ Kept wr v []) (fun x _ => m - (intOf x).toNat)
      case atStart => exact ⟨0, rfl, by omega, Kept.refl _ _⟩
      case round =>
        obtain ⟨i, rfl, him, hkv⟩ := hrel
        by_cases hlt : i < m
        · have ca := (hra.kept hga hkv (by simp)).cell i (by omega)
          have cb := (hrw.kept hgb hkv (by simp)).cell i (by omega)
          clear hra hrw
          generalize k.getD i 0 = y at *
          go_wp2
          go_quiet (fail)
          go_wp2
          go_roundw
          case rel => exact ⟨i + 1, by go_num, by omega, hkv.drewN _⟩
          case measure => simp [intOf]; omega
        · obtain rfl : i = m := by omega
          have hT := HT.out
          have da := (hT.a.kept hkv (by simp) (by simp))
          have db := (hT.b.kept hkv (by simp) (by simp))
          have HKv := hide (HKr.out.trans hkv)
          have HT2 : Hid (Two wr.drew D1 C1 D2 C2 τ) := ⟨⟨da.d, da.c.drew⟩, ⟨db.d, db.c.drew⟩, hokt, hT.x, hT.y, hT.z, hT.u, hT.v⟩
          have cS := da.d
          have cT := db.d
          obtain ⟨hn1, hn2, -, -⟩ := hnew
          clear hT da db hkv hra hrw HT HKr
          go_wp2
          go_region_held3 (fun w' => w'.cell? ⟨D1, 0, none⟩ = some (.pointer (some ⟨C1, 0, none⟩)) ∧ w'.cell? ⟨D2, 0, none⟩ = some (.pointer (some ⟨C2, 0, none⟩))) (first | assumption | exact ⟨cS, cT⟩)
            (first
              | (go_at_call 13; with_reducible refine (first64 HT2.out).mono ?_; rintro e v1 ⟨rfl, hs1, hc1, kk1⟩)
              | (go_at_call 13; with_reducible refine (second64 hokt e7 e9 hs1 hc1).mono ?_; rintro e v2 ⟨rfl, hs2, kk2⟩))
          go_wp2
          go_ret
          exact ⟨by simp, (HKv.out.drew.andThen kk1 (by intro y hy; simp at hy; right; omega)).andThen kk2 (by intro y hy; simp at hy; right; omega)⟩
    | succ i =>
      have hgl : g2 < wr.heap.size := World.block_lt_of_cell? wr _ (hrw.cell 0 (by rw [HK.out]; omega))
      have hbl := below_lt τ (i + 2) (by omega)
      have hbo := below_ok τ hokt (i + 2)
      have HS' : Hid (shuf i (below τ (i + 2)).2 (swap k (i + 1) (below τ (i + 2)).1) = R) := by show _ = _; rw [← HS.out]; rfl
      clear HS
      go_wp2_with fail
      refine (below_at wr D2 C2 τ (i + 2) _ (by omega) hdr hokt hDC2 (by omega) (by omega)).mono ?_
      rintro e v1 ⟨rfl, hd1, hk1⟩
      have hr1 := hrw.kept hgl hk1 (by simpa using e5)
      generalize (below τ (i + 2)).1 = j at *
      generalize (below τ (i + 2)).2 = τ' at *
      have ci := hr1.cell (i + 1) (by rw [HK.out]; omega)
      have cj := hr1.cell j (by rw [HK.out]; omega)
      have fi := hr1.free (i + 1)
      have fj := hr1.free j
      have Hr := hide ((hr1.set (i + 1) (k.getD j 0)).set j (k.getD (i + 1) 0))
      have HKp := hide (((hkp.andThen hk1 (by simp)).setCell (p := ⟨g2, i + 1, none⟩) (.inl (by simp)) (.int .i64 (k.getD j 0))).setCell (p := ⟨g2, j, none⟩) (.inl (by simp)) (.int .i64 (k.getD (i + 1) 0)))
      have HD := hide (hd1.kept (((Kept.refl v1 [g2]).setCell (p := ⟨g2, i + 1, none⟩) (.inl (by simp)) (.int .i64 (k.getD j 0))).setCell (p := ⟨g2, j, none⟩) (.inl (by simp)) (.int .i64 (k.getD (i + 1) 0))) (by simpa using Ne.symm e4) (by simpa using Ne.symm e5))
      have HS2 : Hid (shuf i τ' ((k.set (i + 1) (k.getD j 0)).set j (k.getD (i + 1) 0)) = R) := HS'
      have HL2 : Hid (((k.set (i + 1) (k.getD j 0)).set j (k.getD (i + 1) 0)).length = m) := (swap_len k (i + 1) j).trans HK.out
      clear hr1 hkp hk1 hd1 hrw hdr HS' ra da rb d5 K5
      generalize k.getD j 0 = y at *
      generalize k.getD (i + 1) 0 = z at *
      have hjm : j < m := by omega
      have cs1 : (v1.setCell ⟨g2, i + 1, none⟩ (.int .i64 y)).cell? ⟨g2, j, none⟩ = some (.int .i64 y) := by
        by_cases e : i + 1 = j
        · subst e; exact World.cell?_setCell_same _ _ _ ci
        · rw [World.cell?_setCell_other _ _ _ _ (by intro he; injection he with _ e2; exact e e2)]; exact cj
      go_wp2
      go_roundw
      case rel => exact ⟨i, τ', _, by go_num, by omega, HL2, Hr.out, HD.out, hbo, HKp.out, HS2⟩
      case measure => simp [intOf]
end Go.Proofs.Ybulkajpa.Fisher
