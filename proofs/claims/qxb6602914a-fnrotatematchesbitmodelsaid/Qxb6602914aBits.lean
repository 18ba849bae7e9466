namespace Go.Proofs.Qxb6602914a

def rot1 (h l r : Nat) : Nat := (h * 2 ^ r % 2 ^ 64) ||| (l / 2 ^ (64 - r))
def rotH (h l r : Nat) : Nat := if 64 ≤ r then rot1 l h (r - 64) else rot1 h l r
def rotL (h l r : Nat) : Nat := if 64 ≤ r then rot1 h l (r - 64) else rot1 l h r
def bt (h l i : Nat) : Bool := if 64 ≤ i then h.testBit (i - 64) else l.testBit i

theorem tb_hi {l : Nat} (hl : l < 2 ^ 64) {i : Nat} (hi : 64 ≤ i) : l.testBit i = false :=
  Nat.testBit_lt_two_pow (Nat.lt_of_lt_of_le hl (Nat.pow_le_pow_right (by decide) hi))

theorem rot1_lt (h l r : Nat) (hl : l < 2 ^ 64) : rot1 h l r < 2 ^ 64 := by
  unfold rot1
  exact Nat.or_lt_two_pow (Nat.mod_lt _ (Nat.two_pow_pos 64)) (Nat.lt_of_le_of_lt (Nat.div_le_self _ _) hl)

theorem rot1_bit (h l r i : Nat) (hl : l < 2 ^ 64) (hr : r < 64) (hi : i < 64) :
    (rot1 h l r).testBit i = if r ≤ i then h.testBit (i - r) else l.testBit (64 - r + i) := by
  unfold rot1
  rw [Nat.testBit_or, Nat.testBit_mod_two_pow, Nat.mul_comm, Nat.testBit_two_pow_mul, Nat.testBit_div_two_pow]
  by_cases h1 : r ≤ i
  · have h2 : l.testBit (i + (64 - r)) = false := tb_hi hl (by omega)
    simp [h1, hi, h2]
  · simp [h1, Nat.add_comm]

theorem rotH_lt (h l r : Nat) (hh : h < 2 ^ 64) (hl : l < 2 ^ 64) : rotH h l r < 2 ^ 64 := by
  unfold rotH; split
  · exact rot1_lt _ _ _ hh
  · exact rot1_lt _ _ _ hl
theorem rotL_lt (h l r : Nat) (hh : h < 2 ^ 64) (hl : l < 2 ^ 64) : rotL h l r < 2 ^ 64 := by
  unfold rotL; split
  · exact rot1_lt _ _ _ hl
  · exact rot1_lt _ _ _ hh

theorem rot_bit (h l r i : Nat) (hh : h < 2 ^ 64) (hl : l < 2 ^ 64) (hr : r < 128) (hi : i < 128) :
    bt (rotH h l r) (rotL h l r) i = bt h l ((i + 128 - r) % 128) := by
  unfold bt rotH rotL
  by_cases a : 64 ≤ r <;> by_cases b : 64 ≤ i
  · rw [if_pos b, if_pos a, rot1_bit _ _ _ _ hh (by omega) (by omega)]
    by_cases c : r - 64 ≤ i - 64
    · rw [if_pos c, if_neg (by omega)]; congr 1; omega
    · rw [if_neg c, if_pos (by omega)]; congr 1; omega
  · rw [if_neg b, if_pos a, rot1_bit _ _ _ _ hl (by omega) (by omega)]
    by_cases c : r - 64 ≤ i
    · rw [if_pos c, if_pos (by omega)]; congr 1; omega
    · rw [if_neg c, if_neg (by omega)]; congr 1; omega
  · rw [if_pos b, if_neg a, rot1_bit _ _ _ _ hl (by omega) (by omega)]
    by_cases c : r ≤ i - 64
    · rw [if_pos c, if_pos (by omega)]; congr 1; omega
    · rw [if_neg c, if_neg (by omega)]; congr 1; omega
  · rw [if_neg b, if_neg a, rot1_bit _ _ _ _ hh (by omega) (by omega)]
    by_cases c : r ≤ i
    · rw [if_pos c, if_neg (by omega)]; congr 1; omega
    · rw [if_neg c, if_pos (by omega)]; congr 1; omega

theorem bt_ext {h l h' l' : Nat} (hh : h < 2 ^ 64) (hl : l < 2 ^ 64) (hh' : h' < 2 ^ 64) (hl' : l' < 2 ^ 64)
    (e : ∀ i, i < 128 → bt h l i = bt h' l' i) : h = h' ∧ l = l' := by
  constructor
  · refine Nat.eq_of_testBit_eq fun i => ?_
    by_cases c : i < 64
    · have := e (i + 64) (by omega)
      unfold bt at this
      rw [if_pos (by omega), if_pos (by omega)] at this
      simpa using this
    · rw [tb_hi hh (by omega), tb_hi hh' (by omega)]
  · refine Nat.eq_of_testBit_eq fun i => ?_
    by_cases c : i < 64
    · have := e i (by omega)
      unfold bt at this
      rwa [if_neg (by omega), if_neg (by omega)] at this
    · rw [tb_hi hl (by omega), tb_hi hl' (by omega)]

theorem rot_comp (h l a b : Nat) (hh : h < 2 ^ 64) (hl : l < 2 ^ 64) (ha : a < 128) (hb : b < 128) :
    rotH (rotH h l a) (rotL h l a) b = rotH h l ((a + b) % 128) ∧ rotL (rotH h l a) (rotL h l a) b = rotL h l ((a + b) % 128) := by
  have h1 := rotH_lt h l a hh hl
  have l1 := rotL_lt h l a hh hl
  refine bt_ext (rotH_lt _ _ _ h1 l1) (rotL_lt _ _ _ h1 l1) (rotH_lt _ _ _ hh hl) (rotL_lt _ _ _ hh hl) fun i hi => ?_
  rw [rot_bit _ _ _ _ h1 l1 hb hi, rot_bit _ _ _ _ hh hl ha (by omega), rot_bit _ _ _ _ hh hl (by omega) hi]
  congr 1; omega

theorem rot_inv (h l s : Nat) (hh : h < 2 ^ 64) (hl : l < 2 ^ 64) (hs : s < 128) :
    rotH (rotH h l s) (rotL h l s) ((128 - s) % 128) = h ∧ rotL (rotH h l s) (rotL h l s) ((128 - s) % 128) = l := by
  have h1 := rotH_lt h l s hh hl
  have l1 := rotL_lt h l s hh hl
  refine bt_ext (rotH_lt _ _ _ h1 l1) (rotL_lt _ _ _ h1 l1) hh hl fun i hi => ?_
  rw [rot_bit _ _ _ _ h1 l1 (by omega) hi, rot_bit _ _ _ _ hh hl hs (by omega)]
  congr 1; omega

/-! ### the bit model -/
/-- What the model's loop has gathered after 'k' rounds. -/
def Want (h l r k wh wl : Nat) : Prop := wh < 2 ^ 64 ∧ wl < 2 ^ 64 ∧ ∀ j, j < 128 → bt wh wl j = (decide ((j + 128 - r) % 128 < k) && bt h l ((j + 128 - r) % 128))

theorem want_zero (h l r : Nat) : Want h l r 0 0 0 := ⟨by decide, by decide, fun j _ => by simp [bt]⟩

theorem bit_shl (x : Bool) (j : Nat) (hj : j < 64) : x.toNat * 2 ^ j % 2 ^ 64 = x.toNat * 2 ^ j := by
  have : 2 ^ j < 2 ^ 64 := Nat.pow_lt_pow_right (by decide) hj
  cases x
  · simp
  · simp only [Bool.toNat_true, Nat.one_mul]; exact Nat.mod_eq_of_lt this

theorem bit_lt (x : Bool) (j : Nat) (hj : j < 64) : x.toNat * 2 ^ j < 2 ^ 64 := by
  have : 2 ^ j < 2 ^ 64 := Nat.pow_lt_pow_right (by decide) hj
  cases x
  · simp
  · simp only [Bool.toNat_true, Nat.one_mul]; exact this

theorem tb_put (w : Nat) (x : Bool) (j i : Nat) : (w ||| x.toNat * 2 ^ j).testBit i = (w.testBit i || (decide (i = j) && x)) := by
  rw [Nat.testBit_or]
  cases x
  · simp
  · simp only [Bool.toNat_true, Nat.one_mul, Nat.testBit_two_pow, Bool.and_true]
    congr 1; exact decide_eq_decide.2 ⟨Eq.symm, Eq.symm⟩

theorem want_hi (h l r k wh wl : Nat) (hr : r < 128) (hk : k < 128) (hj : 64 ≤ (k + r) % 128) (H : Want h l r k wh wl) :
    Want h l r (k + 1) (wh ||| (bt h l k).toNat * 2 ^ ((k + r) % 128 - 64)) wl := by
  obtain ⟨a, b, e⟩ := H
  refine ⟨Nat.or_lt_two_pow a (bit_lt _ _ (by omega)), b, fun j hj2 => ?_⟩
  have ej := e j hj2
  unfold bt at ej ⊢
  by_cases c : 64 ≤ j
  · rw [if_pos c] at ej ⊢
    rw [tb_put, ej]
    by_cases d : j = (k + r) % 128
    · have d1 : (j + 128 - r) % 128 = k := by omega
      have d2 : (k + r) % 128 = j := d.symm
      simp [d1, d2]
    · have d1 : (j + 128 - r) % 128 ≠ k := by omega
      have d2 : ¬ (j - 64 = (k + r) % 128 - 64) := by omega
      have d3 : ((j + 128 - r) % 128 < k + 1) = ((j + 128 - r) % 128 < k) := by apply propext; omega
      simp [d2, d3]
  · rw [if_neg c] at ej ⊢
    rw [ej]
    have d3 : ((j + 128 - r) % 128 < k + 1) = ((j + 128 - r) % 128 < k) := by apply propext; omega
    simp [d3]

theorem want_lo (h l r k wh wl : Nat) (hr : r < 128) (hk : k < 128) (hj : (k + r) % 128 < 64) (H : Want h l r k wh wl) :
    Want h l r (k + 1) wh (wl ||| (bt h l k).toNat * 2 ^ ((k + r) % 128)) := by
  obtain ⟨a, b, e⟩ := H
  refine ⟨a, Nat.or_lt_two_pow b (bit_lt _ _ (by omega)), fun j hj2 => ?_⟩
  have ej := e j hj2
  unfold bt at ej ⊢
  by_cases c : 64 ≤ j
  · rw [if_pos c] at ej ⊢
    rw [ej]
    have d3 : ((j + 128 - r) % 128 < k + 1) = ((j + 128 - r) % 128 < k) := by apply propext; omega
    simp [d3]
  · rw [if_neg c] at ej ⊢
    rw [tb_put, ej]
    by_cases d : j = (k + r) % 128
    · have d1 : (j + 128 - r) % 128 = k := by omega
      have d2 : (k + r) % 128 = j := d.symm
      simp [d1, d2]
    · have d1 : (j + 128 - r) % 128 ≠ k := by omega
      have d3 : ((j + 128 - r) % 128 < k + 1) = ((j + 128 - r) % 128 < k) := by apply propext; omega
      simp [d, d3]

theorem want_end (h l r wh wl : Nat) (hh : h < 2 ^ 64) (hl : l < 2 ^ 64) (hr : r < 128) (H : Want h l r 128 wh wl) : rotH h l r = wh ∧ rotL h l r = wl := by
  obtain ⟨a, b, e⟩ := H
  refine bt_ext (rotH_lt _ _ _ hh hl) (rotL_lt _ _ _ hh hl) a b fun i hi => ?_
  rw [rot_bit _ _ _ _ hh hl hr hi, e i hi]
  have : (i + 128 - r) % 128 < 128 := Nat.mod_lt _ (by decide)
  simp [this]

theorem bt_num (h l i : Nat) : (bt h l i).toNat = if 64 ≤ i then h / 2 ^ (i - 64) % 2 else l / 2 ^ i % 2 := by
  unfold bt; split <;> rw [Nat.toNat_testBit]

end Go.Proofs.Qxb6602914a
