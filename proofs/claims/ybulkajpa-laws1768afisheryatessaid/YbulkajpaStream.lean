import Derived.Test.YbulkajpaCha
/-! Plain: the stream of draws: states, the next word, the refill, the bounded draw with fuel; it ends. No Go in sight. -/
namespace Go.Proofs.Ybulkajpa.Stream
open Go.Extern.Chacha8Block Go.Proofs.Ybulkajpa.Cha

/-- The key that four words of 64 bits make. -/
def keyOf (seed : Array Nat) : Array Nat := seed.flatMap fun x => #[x % m32, x / m32]
/-- Word j of the interleaved block. -/
def word (key : Array Nat) (ctr j : Nat) : Nat := (((Array.range 4).map fun i => lane key (ctr + i)).getD (j % 4) #[]).getD (j / 4) 0
/-- The 32 words of a block. -/
def blockOut (seed : Array Nat) (ctr : Nat) : List Nat := (List.range 32).map fun k => word (keyOf seed) ctr (2 * k) + word (keyOf seed) ctr (2 * k + 1) * m32

def GoodSeed (seed : Array Nat) : Prop := seed.size = 4 ∧ ∀ i, i < 4 → seed.getD i 0 < 18446744073709551616

theorem keyOf_good (seed : Array Nat) (h : GoodSeed seed) : GoodKey (keyOf seed) := by
  obtain ⟨hs, hb⟩ := h
  obtain ⟨l⟩ := seed
  match l, hs with
  | [a, b, c, d], _ =>
    have h0 := hb 0 (by omega)
    have h1 := hb 1 (by omega)
    have h2 := hb 2 (by omega)
    have h3 := hb 3 (by omega)
    simp at h0 h1 h2 h3
    have e : keyOf ⟨[a, b, c, d]⟩ = #[a % m32, a / m32, b % m32, b / m32, c % m32, c / m32, d % m32, d / m32] := by simp [keyOf]
    rw [e]
    refine ⟨by simp, fun i hi => ?_⟩
    unfold m32
    rcases (show i = 0 ∨ i = 1 ∨ i = 2 ∨ i = 3 ∨ i = 4 ∨ i = 5 ∨ i = 6 ∨ i = 7 by omega) with rfl | rfl | rfl | rfl | rfl | rfl | rfl | rfl <;> simp <;> omega

theorem getD_map4 (f : Nat → Array Nat) (k : Nat) (h : k < 4) : ((Array.range 4).map f).getD k #[] = f k := by simp [Array.getD_eq_getD_getElem?, h]
theorem getD_map32 (f : Nat → Nat) (k : Nat) (h : k < 32) : ((List.range 32).map f).getD k 0 = f k := by simp [List.getD_eq_getElem?_getD, h]
theorem word_eq (key : Array Nat) (ctr j : Nat) : word key ctr j = (lane key (ctr + j % 4)).getD (j / 4) 0 := by
  have h : j % 4 < 4 := Nat.mod_lt _ (by omega)
  unfold word
  rw [getD_map4 _ _ h]
theorem word_lt (key : Array Nat) (hk : GoodKey key) (ctr j : Nat) (hj : j < 64) : word key ctr j < 4294967296 := by
  rw [word_eq]
  exact lane_lt key hk _ _ (by omega)
theorem block_len (seed : Array Nat) (ctr : Nat) : (blockOut seed ctr).length = 32 := by simp [blockOut]
theorem block_get (seed : Array Nat) (ctr k : Nat) (hk : k < 32) : (blockOut seed ctr).getD k 0 = word (keyOf seed) ctr (2 * k) + word (keyOf seed) ctr (2 * k + 1) * m32 := by
  unfold blockOut
  rw [getD_map32 _ k hk]
theorem block_lt (seed : Array Nat) (h : GoodSeed seed) (ctr k : Nat) (hk : k < 32) : (blockOut seed ctr).getD k 0 < 18446744073709551616 := by
  rw [block_get seed ctr k hk]
  have h1 := word_lt _ (keyOf_good seed h) ctr (2 * k) (by omega)
  have h2 := word_lt _ (keyOf_good seed h) ctr (2 * k + 1) (by omega)
  unfold m32
  omega
/-- ████ Of the 32 words of a block one is 2^32 at least. ████ -/
theorem block_hit (seed : Array Nat) (h : GoodSeed seed) (ctr : Nat) : ∃ k, k < 32 ∧ 4294967296 ≤ (blockOut seed ctr).getD k 0 := by
  by_cases hx : ∃ k, k < 32 ∧ 4294967296 ≤ (blockOut seed ctr).getD k 0
  · exact hx
  · exfalso
    have hz : ∀ k, k < 32 → word (keyOf seed) ctr (2 * k + 1) = 0 := fun k hk => by
      have h1 : ¬ 4294967296 ≤ (blockOut seed ctr).getD k 0 := fun e => hx ⟨k, hk, e⟩
      rw [block_get seed ctr k hk] at h1
      unfold m32 at h1
      omega
    refine lanes_apart (keyOf seed) (keyOf_good seed h) ctr (fun r hr => ?_) (fun r hr => ?_)
    · have := hz (2 * r) (by omega)
      rw [word_eq, show (2 * (2 * r) + 1) % 4 = 1 by omega, show (2 * (2 * r) + 1) / 4 = r by omega] at this
      exact this
    · have := hz (2 * r + 1) (by omega)
      rw [word_eq, show (2 * (2 * r + 1) + 1) % 4 = 3 by omega, show (2 * (2 * r + 1) + 1) / 4 = r by omega] at this
      exact this

/-- The state of the stream. -/
structure St where
  buf : List Nat
  seed : Array Nat
  i : Nat
  n : Nat
  c : Nat

/-- What holds of every state. -/
structure Ok (σ : St) : Prop where
  seed : GoodSeed σ.seed
  buf : σ.buf = blockOut σ.seed σ.c
  c : σ.c = 0 ∨ σ.c = 4 ∨ σ.c = 8 ∨ σ.c = 12
  n : σ.n = if σ.c = 12 then 28 else 32
  i : σ.i ≤ σ.n

/-- Refill, as the Go text does it. -/
def refill (σ : St) : St :=
  if σ.c + 4 = 16 then { buf := blockOut (σ.buf.drop 28).toArray 0, seed := (σ.buf.drop 28).toArray, i := 0, n := 32, c := 0 }
  else { buf := blockOut σ.seed (σ.c + 4), seed := σ.seed, i := 0, n := if σ.c + 4 = 12 then 28 else 32, c := σ.c + 4 }
/-- The next word and the state behind it. -/
def next (σ : St) : Nat × St :=
  if σ.i < σ.n then (σ.buf.getD σ.i 0, { σ with i := σ.i + 1 }) else ((refill σ).buf.getD 0 0, { refill σ with i := 1 })

theorem refill_ok (σ : St) (h : Ok σ) : Ok (refill σ) ∧ (refill σ).i = 0 := by
  unfold refill
  by_cases e : σ.c + 4 = 16
  · rw [if_pos e]
    refine ⟨⟨⟨?_, fun i hi => ?_⟩, rfl, .inl rfl, rfl, Nat.zero_le _⟩, rfl⟩
    · simp [h.buf, block_len]
    · have hb := block_lt σ.seed h.seed σ.c (28 + i) (by omega)
      rw [← h.buf] at hb
      simpa [Array.getD_eq_getD_getElem?, List.getD_eq_getElem?_getD] using hb
  · rw [if_neg e]
    refine ⟨⟨h.seed, rfl, ?_, ?_, Nat.zero_le _⟩, rfl⟩
    · rcases h.c with hc | hc | hc | hc <;> simp [hc] at e ⊢
    · simp
theorem n_pos (σ : St) (h : Ok σ) : 28 ≤ σ.n ∧ σ.n ≤ 32 := by
  rw [h.n]; split <;> omega
theorem next_ok (σ : St) (h : Ok σ) : Ok (next σ).2 := by
  unfold next
  by_cases e : σ.i < σ.n
  · rw [if_pos e]
    exact ⟨h.seed, h.buf, h.c, h.n, e⟩
  · rw [if_neg e]
    obtain ⟨h1, _⟩ := refill_ok σ h
    have := n_pos _ h1
    exact ⟨h1.seed, h1.buf, h1.c, h1.n, by show 1 ≤ (refill σ).n; omega⟩
theorem next_lt (σ : St) (h : Ok σ) : (next σ).1 < 18446744073709551616 := by
  unfold next
  have := n_pos σ h
  by_cases e : σ.i < σ.n
  · rw [if_pos e]
    show σ.buf.getD σ.i 0 < _
    rw [h.buf]
    exact block_lt _ h.seed _ _ (by omega)
  · rw [if_neg e]
    obtain ⟨h1, _⟩ := refill_ok σ h
    show (refill σ).buf.getD 0 0 < _
    rw [h1.buf]
    exact block_lt _ h1.seed _ _ (by omega)

/-- The state behind k words. -/
def after : Nat → St → St
  | 0, σ => σ
  | k + 1, σ => after k (next σ).2

/-- The first word that is r at least, and the state behind it. -/
def search : Nat → St → Nat → Nat × St
  | 0, σ, _ => (0, σ)
  | f + 1, σ, r => if r ≤ (next σ).1 then next σ else search f (next σ).2 r
/-- Among the next f words there is one that is r at least. -/
def hits : Nat → St → Nat → Prop
  | 0, _, _ => False
  | f + 1, σ, r => r ≤ (next σ).1 ∨ hits f (next σ).2 r

theorem hits_mono (r : Nat) : ∀ (f g : Nat) (σ : St), f ≤ g → hits f σ r → hits g σ r
  | 0, _, _, _, h => h.elim
  | f + 1, 0, _, hg, _ => by omega
  | f + 1, g + 1, σ, hg, h => by
    rcases h with h | h
    · exact .inl h
    · exact .inr (hits_mono r f g _ (by omega) h)
/-- In what is left of a block. -/
theorem hits_in (r : Nat) : ∀ (d : Nat) (σ : St) (k : Nat), σ.i ≤ k → k < σ.n → d = k - σ.i → r ≤ σ.buf.getD k 0 → hits (d + 1) σ r
  | 0, σ, k, h1, h2, hd, h => by
    left
    unfold next
    rw [if_pos (by omega)]
    show r ≤ σ.buf.getD σ.i 0
    rw [show σ.i = k by omega]
    exact h
  | d + 1, σ, k, h1, h2, hd, h => by
    right
    unfold next
    rw [if_pos (by omega)]
    exact hits_in r d { σ with i := σ.i + 1 } k (by show σ.i + 1 ≤ k; omega) h2 (by show d = k - (σ.i + 1); omega) h
/-- Past the end of a block. -/
theorem hits_past (r f : Nat) : ∀ (d : Nat) (σ : St), Ok σ → σ.i ≤ σ.n → d = σ.n - σ.i → hits f (refill σ) r → hits (d + f) σ r
  | 0, σ, ho, h1, hd, h => by
    rw [Nat.zero_add]
    cases f with
    | zero => exact h.elim
    | succ f =>
      have hn : ¬ σ.i < σ.n := by omega
      obtain ⟨h2, h3⟩ := refill_ok σ ho
      have h4 := n_pos _ h2
      have e : next (refill σ) = next σ := by
        unfold next
        rw [if_neg hn, if_pos (by omega), h3]
      simp only [hits] at h ⊢
      rw [← e]
      exact h
  | d + 1, σ, ho, h1, hd, h => by
    rw [show d + 1 + f = (d + f) + 1 by omega]
    right
    have e : next σ = (σ.buf.getD σ.i 0, { σ with i := σ.i + 1 }) := by unfold next; rw [if_pos (by omega)]
    rw [e]
    exact hits_past r f d { σ with i := σ.i + 1 } ⟨ho.seed, ho.buf, ho.c, ho.n, by show σ.i + 1 ≤ σ.n; omega⟩ (by show σ.i + 1 ≤ σ.n; omega) (by show d = σ.n - (σ.i + 1); omega) h

/-- ████ A draw that is 2^32 at most comes within 100 words. ████ -/
theorem hits_soon (σ : St) (h : Ok σ) (r : Nat) (hr : r ≤ 4294967296) : hits 100 σ r := by
  have whole : ∀ τ, Ok τ → τ.i = 0 → τ.n = 32 → hits 32 τ r := fun τ ho hi hn => by
    obtain ⟨k, hk, hb⟩ := block_hit τ.seed ho.seed τ.c
    rw [← ho.buf] at hb
    exact hits_mono r _ _ _ (by omega) (hits_in r (k - τ.i) τ k (by omega) (by omega) rfl (by omega))
  obtain ⟨h1, i1⟩ := refill_ok σ h
  have b := n_pos σ h
  have b1 := n_pos _ h1
  have hi := h.i
  by_cases e : (refill σ).n = 32
  · have := hits_past r 32 (σ.n - σ.i) σ h h.i rfl (whole _ h1 i1 e)
    exact hits_mono r _ _ _ (by omega) this
  · obtain ⟨h2, i2⟩ := refill_ok _ h1
    have c1 : (refill σ).c = 12 := by
      have := h1.n
      by_cases e2 : (refill σ).c = 12
      · exact e2
      · rw [if_neg e2] at this; exact absurd this e
    have e2 : (refill (refill σ)).n = 32 := by
      unfold refill
      rw [if_pos (by show (refill σ).c + 4 = 16; omega)]
    have a := hits_past r 32 ((refill σ).n - (refill σ).i) (refill σ) h1 h1.i rfl (whole _ h2 i2 e2)
    have a2 := hits_past r _ (σ.n - σ.i) σ h h.i rfl a
    exact hits_mono r _ _ _ (by omega) a2

/-- The bounded draw of Go's below: 100 words are enough. -/
def below (σ : St) (n : Nat) : Nat × St := ((search 100 σ ((18446744073709551616 - n) % n)).1 % n, (search 100 σ ((18446744073709551616 - n) % n)).2)
theorem search_ok (r : Nat) : ∀ (f : Nat) (σ : St), Ok σ → Ok (search f σ r).2
  | 0, _, h => h
  | f + 1, σ, h => by
    unfold search
    split
    · exact next_ok σ h
    · exact search_ok r f _ (next_ok σ h)
theorem below_ok (σ : St) (h : Ok σ) (n : Nat) : Ok (below σ n).2 := search_ok _ _ σ h
theorem below_lt (σ : St) (n : Nat) (hn : 0 < n) : (below σ n).1 < n := Nat.mod_lt _ hn
end Go.Proofs.Ybulkajpa.Stream
