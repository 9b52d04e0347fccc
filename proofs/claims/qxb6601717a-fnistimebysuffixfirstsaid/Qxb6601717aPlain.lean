/-
  PLAIN: what a time is, as plain functions; no Go in sight.
-/
namespace Go.Proofs.Qxb6601717a.P

/-- A byte that is a digit. -/
def dig (c : Int) : Bool := decide (48 ≤ c ∧ c ≤ 57)

theorem dig_true {c : Int} (h1 : 48 ≤ c) (h2 : c ≤ 57) : dig c = true := by simp [dig, h1, h2]
theorem dig_false {c : Int} (h : c < 48 ∨ 57 < c) : dig c = false := by simp [dig]; omega
theorem dig_iff {c : Int} : dig c = true ↔ 48 ≤ c ∧ c ≤ 57 := by simp [dig]

/-- The byte c fits the pattern's byte p. -/
def okAt (c p : Int) : Bool := if p = 100 then dig c else c == p

/-- The byte that may stand at place i of the head. -/
def headAt (i : Nat) (c : Int) : Bool :=
  if i = 4 ∨ i = 7 then c == 45 else if i = 10 then c == 84 else if i = 13 ∨ i = 16 then c == 58 else dig c

/-- The zone of z bytes stands at place p. -/
def Zone (f : Nat → Int) (p z : Nat) : Prop :=
  (z = 1 ∧ f p = 90) ∨
  (z = 6 ∧ (f p = 43 ∨ f p = 45) ∧ dig (f (p + 1)) = true ∧ dig (f (p + 2)) = true ∧ f (p + 3) = 58 ∧ dig (f (p + 4)) = true ∧ dig (f (p + 5)) = true)

/-- The n bytes f spell a time. -/
def T (f : Nat → Int) (n : Nat) : Prop :=
  (∀ i, i < 19 → headAt i (f i) = true) ∧
  ∃ m z, n = 19 + m + z ∧ Zone f (19 + m) z ∧ (m = 0 ∨ (2 ≤ m ∧ m ≤ 10 ∧ f 19 = 46 ∧ ∀ i, 20 ≤ i → i < 19 + m → dig (f i) = true))

/-- A zone stands at place p and ends the n bytes. -/
def ZT (f : Nat → Int) (n p : Nat) : Prop := ∃ z, n = p + z ∧ Zone f p z

theorem Zone.not_dig {f : Nat → Int} {p z : Nat} (h : Zone f p z) : dig (f p) = false := by
  rcases h with ⟨_, h⟩ | ⟨_, h | h, _⟩ <;> exact dig_false (by omega)
theorem Zone.not_dot {f : Nat → Int} {p z : Nat} (h : Zone f p z) : f p ≠ 46 := by
  rcases h with ⟨_, h⟩ | ⟨_, h | h, _⟩ <;> omega
theorem Zone.size {f : Nat → Int} {p z : Nat} (h : Zone f p z) : z = 1 ∨ z = 6 := by
  rcases h with ⟨h, _⟩ | ⟨h, _⟩ <;> omega

theorem T_plain {f : Nat → Int} {n : Nat} (H : ∀ i, i < 19 → headAt i (f i) = true) (hd : f 19 ≠ 46) : T f n ↔ ZT f n 19 := by
  constructor
  · rintro ⟨_, m, z, hn, hz, hm⟩
    rcases hm with rfl | ⟨_, _, h, _⟩
    · exact ⟨z, by omega, hz⟩
    · exact absurd h hd
  · rintro ⟨z, hn, hz⟩
    exact ⟨H, 0, z, by omega, hz, .inl rfl⟩

theorem T_frac {f : Nat → Int} {n k : Nat} (H : ∀ i, i < 19 → headAt i (f i) = true) (hd : f 19 = 46) (hk1 : 1 ≤ k) (hk2 : k ≤ n - 19)
    (hall : ∀ j, 1 ≤ j → j < k → dig (f (19 + j)) = true) (hend : n - 19 ≤ k ∨ dig (f (19 + k)) = false) : T f n ↔ (2 ≤ k ∧ k ≤ 10) ∧ ZT f n (19 + k) := by
  constructor
  · rintro ⟨_, m, z, hn, hz, hm⟩
    have hs := hz.size
    rcases hm with rfl | ⟨a, b, _, hm⟩
    · exact absurd hd hz.not_dot
    · have e : m = k := by
        rcases Nat.lt_trichotomy m k with h | h | h
        · have := hall m (by omega) h
          rw [hz.not_dig] at this
          exact absurd this Bool.false_ne_true
        · exact h
        · rcases hend with h' | h'
          · omega
          · have := hm (19 + k) (by omega) (by omega)
            rw [h'] at this
            exact absurd this Bool.false_ne_true
      subst e
      exact ⟨⟨a, b⟩, z, hn, hz⟩
  · rintro ⟨⟨a, b⟩, z, hn, hz⟩
    refine ⟨H, k, z, hn, hz, .inr ⟨a, b, hd, fun i h1 h2 => ?_⟩⟩
    have := hall (i - 19) (by omega) (by omega)
    rwa [show 19 + (i - 19) = i by omega] at this

theorem zt_Z {f : Nat → Int} {n p : Nat} (h : n - p = 1) (hf : f p = 90) : ZT f n p := ⟨1, by omega, .inl ⟨rfl, hf⟩⟩
theorem zt_noZ {f : Nat → Int} {n p : Nat} (h : n - p = 1) (hf : f p ≠ 90) : ¬ ZT f n p := by
  rintro ⟨z, hn, hz⟩
  rcases hz with ⟨_, h⟩ | ⟨h, _⟩
  · exact hf h
  · omega
theorem zt_six {f : Nat → Int} {n p : Nat} (h : n - p = 6) (hf : f p = 43 ∨ f p = 45) :
    ZT f n p ↔ (dig (f (p + 1)) = true ∧ dig (f (p + 2)) = true ∧ f (p + 3) = 58 ∧ dig (f (p + 4)) = true ∧ dig (f (p + 5)) = true) := by
  constructor
  · rintro ⟨z, hn, hz⟩
    rcases hz with ⟨h, _⟩ | ⟨_, _, h⟩
    · omega
    · exact h
  · intro h'
    exact ⟨6, by omega, .inr ⟨rfl, hf, h'⟩⟩
theorem zt_no6 {f : Nat → Int} {n p : Nat} (h : n - p = 6) (h1 : f p ≠ 43) (h2 : f p ≠ 45) : ¬ ZT f n p := by
  rintro ⟨z, hn, hz⟩
  rcases hz with ⟨h, _⟩ | ⟨_, h, _⟩
  · omega
  · omega
theorem zt_else {f : Nat → Int} {n p : Nat} (h1 : n - p ≠ 1) (h2 : n - p ≠ 6) : ¬ ZT f n p := by
  rintro ⟨z, hn, hz⟩
  have := hz.size
  omega
theorem T_long {f : Nat → Int} {n : Nat} (h : T f n) : 20 ≤ n := by
  obtain ⟨_, m, z, hn, hz, _⟩ := h
  have := hz.size
  omega

/-- What lies between the head and the zone. -/
def Md (f : Nat → Int) (n z : Nat) : Prop := n - z - 19 = 0 ∨ (2 ≤ n - z - 19 ∧ n - z - 19 ≤ 10 ∧ f 19 = 46 ∧ ∀ i, 20 ≤ i → i < n - z → dig (f i) = true)

theorem Zone.last {f : Nat → Int} {p z n : Nat} (h : Zone f p z) (hn : n = p + z) : (z = 1 ∧ f (n - 1) = 90) ∨ (z = 6 ∧ dig (f (n - 1)) = true) := by
  rcases h with ⟨rfl, h⟩ | ⟨rfl, _, _, _, _, _, h⟩
  · exact .inl ⟨rfl, by rw [hn]; exact h⟩
  · exact .inr ⟨rfl, by rw [hn]; exact h⟩

theorem T_tail {f : Nat → Int} {n z : Nat} (hz : Zone f (n - z) z) (hn : 19 + z ≤ n) : T f n ↔ (∀ i, i < 19 → headAt i (f i) = true) ∧ Md f n z := by
  constructor
  · rintro ⟨H, m, z', hn', hz', hm⟩
    have e : z' = z := by
      rcases hz.last (n := n) (by omega) with ⟨a, b⟩ | ⟨a, b⟩ <;> rcases hz'.last hn' with ⟨a', b'⟩ | ⟨a', b'⟩
      · omega
      · rw [b] at b'; exact absurd b' (by decide)
      · rw [b'] at b; exact absurd b (by decide)
      · omega
    subst e
    have em : n - z' - 19 = m := by omega
    refine ⟨H, ?_⟩
    unfold Md
    rw [em]
    rcases hm with h | ⟨a, b, c, d⟩
    · exact .inl h
    · exact .inr ⟨a, b, c, fun i h1 h2 => d i h1 (by omega)⟩
  · rintro ⟨H, hm⟩
    refine ⟨H, n - z - 19, z, by omega, by rw [show 19 + (n - z - 19) = n - z by omega]; exact hz, ?_⟩
    rcases hm with h | ⟨a, b, c, d⟩
    · exact .inl h
    · exact .inr ⟨a, b, c, fun i h1 h2 => d i h1 (by omega)⟩

theorem T_none {f : Nat → Int} {n : Nat} (h1 : f (n - 1) ≠ 90) (h6 : ¬ (25 ≤ n ∧ Zone f (n - 6) 6)) : ¬ T f n := by
  rintro ⟨_, m, z, hn, hz, _⟩
  have hs := hz.size
  rcases hs with rfl | rfl
  · rcases hz.last hn with ⟨_, h⟩ | ⟨h, _⟩
    · exact h1 h
    · omega
  · exact h6 ⟨by omega, by rw [show n - 6 = 19 + m by omega]; exact hz⟩

theorem zone1 {f : Nat → Int} {n : Nat} (h : f (n - 1) = 90) : Zone f (n - 1) 1 := .inl ⟨rfl, h⟩
theorem zone6 {f : Nat → Int} {n : Nat} (hn : 25 ≤ n) : Zone f (n - 6) 6 ↔ ((f (n - 6) = 43 ∨ f (n - 6) = 45) ∧ dig (f (n - 5)) = true ∧ dig (f (n - 4)) = true ∧ f (n - 3) = 58 ∧ dig (f (n - 2)) = true ∧ dig (f (n - 1)) = true) := by
  have e1 : n - 6 + 1 = n - 5 := by omega
  have e2 : n - 6 + 2 = n - 4 := by omega
  have e3 : n - 6 + 3 = n - 3 := by omega
  have e4 : n - 6 + 4 = n - 2 := by omega
  have e5 : n - 6 + 5 = n - 1 := by omega
  unfold Zone
  rw [e1, e2, e3, e4, e5]
  constructor
  · rintro (⟨h, _⟩ | ⟨_, h⟩)
    · omega
    · exact h
  · exact fun h => .inr ⟨rfl, h⟩

end Go.Proofs.Qxb6601717a.P
