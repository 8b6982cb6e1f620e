import GoSem.Extern.Chacha8Block
/-! Plain: the chacha8 block as the model reckons it. Of the 32 words of one block not all are below 2^32: lanes 1 and 3 would be one. No Go in sight. -/
namespace Go.Proofs.Ybulkajpa.Cha
open Go.Extern.Chacha8Block

/-- One elementary step: word a becomes f (word a) (word b). -/
def step (f : Nat → Nat → Nat) (a b : Nat) (s : Array Nat) : Array Nat := s.setIfInBounds a (f (s.getD a 0) (s.getD b 0))
def addF (x y : Nat) : Nat := (x + y) % m32
def xorF (k x y : Nat) : Nat := rotl (x ^^^ y) k

def Good (s : Array Nat) : Prop := s.size = 16 ∧ ∀ i, i < 16 → s.getD i 0 < 4294967296
/-- f keeps to 32 bits, and is injective in its first argument. -/
def Fine (f : Nat → Nat → Nat) : Prop := (∀ x y, x < 4294967296 → y < 4294967296 → f x y < 4294967296) ∧ ∀ x x' y, x < 4294967296 → x' < 4294967296 → y < 4294967296 → f x y = f x' y → x = x'

theorem fine_add : Fine addF := by
  unfold Fine addF m32
  refine ⟨fun x y _ _ => by omega, fun x x' y _ _ _ h => by omega⟩
theorem rot_lt16 (x : Nat) (h : x < 4294967296) : rotl x 16 < 4294967296 := by unfold rotl m32; omega
theorem rot_lt12 (x : Nat) (h : x < 4294967296) : rotl x 12 < 4294967296 := by unfold rotl m32; omega
theorem rot_lt8 (x : Nat) (h : x < 4294967296) : rotl x 8 < 4294967296 := by unfold rotl m32; omega
theorem rot_lt7 (x : Nat) (h : x < 4294967296) : rotl x 7 < 4294967296 := by unfold rotl m32; omega
theorem rot_eq16 (x : Nat) : rotl x 16 = (x % 65536) * 65536 + x / 65536 := by unfold rotl m32; omega
theorem rot_inj16 (x y : Nat) (h : x < 4294967296) (h' : y < 4294967296) (e : rotl x 16 = rotl y 16) : x = y := by rw [rot_eq16, rot_eq16] at e; omega
theorem rot_eq12 (x : Nat) : rotl x 12 = (x % 1048576) * 4096 + x / 1048576 := by unfold rotl m32; omega
theorem rot_inj12 (x y : Nat) (h : x < 4294967296) (h' : y < 4294967296) (e : rotl x 12 = rotl y 12) : x = y := by rw [rot_eq12, rot_eq12] at e; omega
theorem rot_eq8 (x : Nat) : rotl x 8 = (x % 16777216) * 256 + x / 16777216 := by unfold rotl m32; omega
theorem rot_inj8 (x y : Nat) (h : x < 4294967296) (h' : y < 4294967296) (e : rotl x 8 = rotl y 8) : x = y := by rw [rot_eq8, rot_eq8] at e; omega
theorem rot_eq7 (x : Nat) : rotl x 7 = (x % 33554432) * 128 + x / 33554432 := by unfold rotl m32; omega
theorem rot_inj7 (x y : Nat) (h : x < 4294967296) (h' : y < 4294967296) (e : rotl x 7 = rotl y 7) : x = y := by rw [rot_eq7, rot_eq7] at e; omega
theorem xor_lt (x y : Nat) (h : x < 4294967296) (h' : y < 4294967296) : x ^^^ y < 4294967296 := Nat.xor_lt_two_pow (n := 32) h h'
theorem xor_inj (x x' y : Nat) (h : x ^^^ y = x' ^^^ y) : x = x' := by
  have h1 : (x ^^^ y) ^^^ y = x := by rw [Nat.xor_assoc, Nat.xor_self, Nat.xor_zero]
  have h2 : (x' ^^^ y) ^^^ y = x' := by rw [Nat.xor_assoc, Nat.xor_self, Nat.xor_zero]
  rw [← h1, h, h2]
theorem fine_xor (k : Nat) (h1 : ∀ x, x < 4294967296 → rotl x k < 4294967296) (h2 : ∀ x y, x < 4294967296 → y < 4294967296 → rotl x k = rotl y k → x = y) : Fine (xorF k) :=
  ⟨fun x y hx hy => h1 _ (xor_lt x y hx hy), fun x x' y hx hx' hy e => xor_inj x x' y (h2 _ _ (xor_lt _ _ hx hy) (xor_lt _ _ hx' hy) e)⟩
theorem fine16 : Fine (xorF 16) := fine_xor 16 rot_lt16 rot_inj16
theorem fine12 : Fine (xorF 12) := fine_xor 12 rot_lt12 rot_inj12
theorem fine8 : Fine (xorF 8) := fine_xor 8 rot_lt8 rot_inj8
theorem fine7 : Fine (xorF 7) := fine_xor 7 rot_lt7 rot_inj7

theorem getD_set (s : Array Nat) (a i x : Nat) (ha : a < s.size) : (s.setIfInBounds a x).getD i 0 = if i = a then x else s.getD i 0 := by
  by_cases h : i = a
  · subst h; simp [ha]
  · rw [if_neg h]
    simp [Array.getD_eq_getD_getElem?, Ne.symm h]

theorem step_good {f : Nat → Nat → Nat} (hf : Fine f) {a b : Nat} (ha : a < 16) (hb : b < 16) {s : Array Nat} (h : Good s) : Good (step f a b s) := by
  refine ⟨by simp [step, h.1], fun i hi => ?_⟩
  unfold step
  rw [getD_set _ _ _ _ (by rw [h.1]; exact ha)]
  split
  · exact hf.1 _ _ (h.2 a ha) (h.2 b hb)
  · exact h.2 i hi
theorem good_ext {s t : Array Nat} (hs : Good s) (ht : Good t) (h : ∀ i, i < 16 → s.getD i 0 = t.getD i 0) : s = t := by
  apply Array.ext
  · rw [hs.1, ht.1]
  · intro i h1 h2
    have := h i (by rw [← hs.1]; exact h1)
    simpa [Array.getD_eq_getD_getElem?, Array.getElem?_eq_getElem h1, Array.getElem?_eq_getElem h2] using this
theorem step_inj {f : Nat → Nat → Nat} (hf : Fine f) {a b : Nat} (ha : a < 16) (hb : b < 16) (hab : a ≠ b) {s t : Array Nat} (hs : Good s) (ht : Good t) (h : step f a b s = step f a b t) : s = t := by
  have hg : ∀ i, (step f a b s).getD i 0 = (step f a b t).getD i 0 := fun i => by rw [h]
  have ho : ∀ i, i ≠ a → s.getD i 0 = t.getD i 0 := fun i hi => by
    have := hg i
    unfold step at this
    rw [getD_set _ _ _ _ (by rw [hs.1]; exact ha), getD_set _ _ _ _ (by rw [ht.1]; exact ha), if_neg hi, if_neg hi] at this
    exact this
  refine good_ext hs ht (fun i hi => ?_)
  by_cases e : i = a
  · subst e
    have := hg i
    unfold step at this
    rw [getD_set _ _ _ _ (by rw [hs.1]; exact ha), getD_set _ _ _ _ (by rw [ht.1]; exact ha), if_pos rfl, if_pos rfl, ho b (Ne.symm hab)] at this
    exact hf.2 _ _ _ (hs.2 i hi) (ht.2 i hi) (ht.2 b hb) this
  · exact ho i e

/-- A map that keeps 'Good' and is injective there. -/
def Inj (g : Array Nat → Array Nat) : Prop := (∀ s, Good s → Good (g s)) ∧ ∀ s t, Good s → Good t → g s = g t → s = t
theorem inj_step {f : Nat → Nat → Nat} (hf : Fine f) {a b : Nat} (ha : a < 16) (hb : b < 16) (hab : a ≠ b) : Inj (step f a b) := ⟨fun _ h => step_good hf ha hb h, fun _ _ hs ht h => step_inj hf ha hb hab hs ht h⟩
theorem inj_comp {g h : Array Nat → Array Nat} (hg : Inj g) (hh : Inj h) : Inj (fun s => g (h s)) := ⟨fun s hs => hg.1 _ (hh.1 s hs), fun s t hs ht e => hh.2 s t hs ht (hg.2 _ _ (hh.1 s hs) (hh.1 t ht) e)⟩

theorem qr_eq (a b c d : Nat) : (fun s => qr s a b c d) = fun s => step (xorF 7) b c (step addF c d (step (xorF 8) d a (step addF a b (step (xorF 12) b c (step addF c d (step (xorF 16) d a (step addF a b s))))))) := rfl
theorem inj_qr (a b c d : Nat) (ha : a < 16) (hb : b < 16) (hc : c < 16) (hd : d < 16) (hab : a ≠ b) (hda : d ≠ a) (hcd : c ≠ d) (hbc : b ≠ c) : Inj (fun s => qr s a b c d) := by
  rw [qr_eq]
  exact inj_comp (inj_step fine7 hb hc hbc) (inj_comp (inj_step fine_add hc hd hcd) (inj_comp (inj_step fine8 hd ha hda) (inj_comp (inj_step fine_add ha hb hab) (inj_comp (inj_step fine12 hb hc hbc) (inj_comp (inj_step fine_add hc hd hcd) (inj_comp (inj_step fine16 hd ha hda) (inj_step fine_add ha hb hab)))))))
theorem dr_eq : doubleRound = fun s => qr (qr (qr (qr (qr (qr (qr (qr s 0 4 8 12) 1 5 9 13) 2 6 10 14) 3 7 11 15) 0 5 10 15) 1 6 11 12) 2 7 8 13) 3 4 9 14 := rfl
theorem inj8 {q1 q2 q3 q4 q5 q6 q7 q8 : Array Nat → Array Nat} (h1 : Inj q1) (h2 : Inj q2) (h3 : Inj q3) (h4 : Inj q4) (h5 : Inj q5) (h6 : Inj q6) (h7 : Inj q7) (h8 : Inj q8) : Inj (fun s => q8 (q7 (q6 (q5 (q4 (q3 (q2 (q1 s)))))))) :=
  inj_comp h8 (inj_comp h7 (inj_comp h6 (inj_comp h5 (inj_comp h4 (inj_comp h3 (inj_comp h2 h1))))))
theorem inj_dr : Inj doubleRound := by
  have h := inj8 (inj_qr 0 4 8 12 (by omega) (by omega) (by omega) (by omega) (by omega) (by omega) (by omega) (by omega))
    (inj_qr 1 5 9 13 (by omega) (by omega) (by omega) (by omega) (by omega) (by omega) (by omega) (by omega))
    (inj_qr 2 6 10 14 (by omega) (by omega) (by omega) (by omega) (by omega) (by omega) (by omega) (by omega))
    (inj_qr 3 7 11 15 (by omega) (by omega) (by omega) (by omega) (by omega) (by omega) (by omega) (by omega))
    (inj_qr 0 5 10 15 (by omega) (by omega) (by omega) (by omega) (by omega) (by omega) (by omega) (by omega))
    (inj_qr 1 6 11 12 (by omega) (by omega) (by omega) (by omega) (by omega) (by omega) (by omega) (by omega))
    (inj_qr 2 7 8 13 (by omega) (by omega) (by omega) (by omega) (by omega) (by omega) (by omega) (by omega))
    (inj_qr 3 4 9 14 (by omega) (by omega) (by omega) (by omega) (by omega) (by omega) (by omega) (by omega))
  rw [dr_eq]
  exact h
theorem inj4 {q : Array Nat → Array Nat} (h : Inj q) : Inj (fun s => q (q (q (q s)))) := inj_comp h (inj_comp h (inj_comp h h))
def four (s : Array Nat) : Array Nat := doubleRound (doubleRound (doubleRound (doubleRound s)))
theorem inj_four : Inj four := inj4 inj_dr

/-- The start of a lane. -/
def start (key : Array Nat) (counter : Nat) : Array Nat := #[0x61707865, 0x3320646e, 0x79622d32, 0x6b206574] ++ key ++ #[counter % m32, 0, 0, 0]
theorem fold_four (s : Array Nat) : (List.range 4).foldl (fun s _ => doubleRound s) s = four s := by
  rw [show List.range 4 = [0, 1, 2, 3] from by decide]
  unfold four
  simp only [List.foldl_cons, List.foldl_nil]
theorem lane_eq (key : Array Nat) (c : Nat) : lane key c = (four (start key c)).mapIdx fun r x => if 4 ≤ r ∧ r < 12 then (x + (start key c).getD r 0) % m32 else x := by
  rw [← fold_four]
  unfold lane start
  simp only
/-- Eight words of 32 bits. -/
def GoodKey (key : Array Nat) : Prop := key.size = 8 ∧ ∀ i, i < 8 → key.getD i 0 < 4294967296
theorem start_key (key : Array Nat) (hk : key.size = 8) (c r : Nat) (h1 : 4 ≤ r) (h2 : r < 12) : (start key c).getD r 0 = key.getD (r - 4) 0 := by
  unfold start
  simp only [Array.getD_eq_getD_getElem?]
  rw [Array.getElem?_append_left (by simp; omega), Array.getElem?_append_right (by simp; omega)]
  simp
theorem start_ctr (key : Array Nat) (hk : key.size = 8) (c : Nat) : (start key c).getD 12 0 = c % m32 := by
  unfold start
  simp only [Array.getD_eq_getD_getElem?]
  rw [Array.getElem?_append_right (by simp; omega)]
  simp [hk]
theorem start_good (key : Array Nat) (hk : GoodKey key) (c : Nat) : Good (start key c) := by
  refine ⟨by simp [start, hk.1], fun i hi => ?_⟩
  rcases (show i < 4 ∨ (4 ≤ i ∧ i < 12) ∨ i = 12 ∨ (12 < i ∧ i < 16) by omega) with h | ⟨h1, h2⟩ | rfl | ⟨h1, h2⟩
  · unfold start
    simp only [Array.getD_eq_getD_getElem?]
    rw [Array.getElem?_append_left (by simp; omega), Array.getElem?_append_left (by simp; omega)]
    rcases (show i = 0 ∨ i = 1 ∨ i = 2 ∨ i = 3 by omega) with rfl | rfl | rfl | rfl <;> simp
  · rw [start_key key hk.1 c i h1 h2]
    exact hk.2 _ (by omega)
  · rw [start_ctr key hk.1 c]
    unfold m32
    omega
  · unfold start
    simp only [Array.getD_eq_getD_getElem?]
    rw [Array.getElem?_append_right (by simp [hk.1]; omega)]
    rcases (show i = 13 ∨ i = 14 ∨ i = 15 by omega) with rfl | rfl | rfl <;> simp [hk.1]
theorem lane_size (key : Array Nat) (hk : GoodKey key) (c : Nat) : (lane key c).size = 16 := by
  rw [lane_eq]
  simp [(inj_four.1 _ (start_good key hk c)).1]
theorem lane_get (key : Array Nat) (hk : GoodKey key) (c r : Nat) (hr : r < 16) : (lane key c).getD r 0 = if 4 ≤ r ∧ r < 12 then ((four (start key c)).getD r 0 + key.getD (r - 4) 0) % m32 else (four (start key c)).getD r 0 := by
  have hsz := (inj_four.1 _ (start_good key hk c)).1
  rw [lane_eq]
  simp only [Array.getD_eq_getD_getElem?, Array.getElem?_mapIdx]
  rw [Array.getElem?_eq_getElem (xs := four (start key c)) (by rw [hsz]; exact hr)]
  simp only [Option.map_some, Option.getD_some]
  by_cases h : 4 ≤ r ∧ r < 12
  · rw [if_pos h, if_pos h]
    have := start_key key hk.1 c r h.1 h.2
    simp only [Array.getD_eq_getD_getElem?] at this
    rw [this]
  · rw [if_neg h, if_neg h]
theorem lane_lt (key : Array Nat) (hk : GoodKey key) (c r : Nat) (hr : r < 16) : (lane key c).getD r 0 < 4294967296 := by
  rw [lane_get key hk c r hr]
  split
  · unfold m32; omega
  · exact (inj_four.1 _ (start_good key hk c)).2 r hr

/-- Lanes 1 and 3 are not both zero. -/
theorem lanes_apart (key : Array Nat) (hk : GoodKey key) (c : Nat) (h1 : ∀ r, r < 16 → (lane key (c + 1)).getD r 0 = 0) (h3 : ∀ r, r < 16 → (lane key (c + 3)).getD r 0 = 0) : False := by
  have g1 := inj_four.1 _ (start_good key hk (c + 1))
  have g3 := inj_four.1 _ (start_good key hk (c + 3))
  have e : four (start key (c + 1)) = four (start key (c + 3)) := by
    refine good_ext g1 g3 (fun r hr => ?_)
    have a1 := h1 r hr
    have a3 := h3 r hr
    rw [lane_get key hk _ r hr] at a1 a3
    have b1 := g1.2 r hr
    have b3 := g3.2 r hr
    by_cases h : 4 ≤ r ∧ r < 12
    · rw [if_pos h] at a1 a3
      have bk := hk.2 (r - 4) (by omega)
      unfold m32 at a1 a3
      omega
    · rw [if_neg h] at a1 a3
      omega
  have e2 := inj_four.2 _ _ (start_good key hk _) (start_good key hk _) e
  have c1 := start_ctr key hk.1 (c + 1)
  have c3 := start_ctr key hk.1 (c + 3)
  rw [e2, c3] at c1
  unfold m32 at c1
  omega
end Go.Proofs.Ybulkajpa.Cha
