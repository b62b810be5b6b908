namespace Go.Proofs.Qxb6628958a.Plain

/-- 32 bytes. -/
def Bytes (l : List Int) : Prop := l.length = 32 ∧ ∀ i, 0 ≤ l.getD i 0 ∧ l.getD i 0 ≤ 255

/-- The number that the last j bytes spell, big end first. -/
def low (l : List Int) : Nat → Int
  | 0 => 0
  | j + 1 => low l j + l.getD (31 - j) 0 * 256 ^ j

/-- The whole number. -/
def val (l : List Int) : Int := low l 32

/-- 2 to the 256th. -/
def top : Int := 256 ^ 32

theorem pow_pos (j : Nat) : (0 : Int) < 256 ^ j := Int.pow_pos (by decide)
theorem two_pos (j : Nat) : (0 : Int) < 2 ^ j := Int.pow_pos (by decide)

theorem low_bound {l : List Int} (h : Bytes l) (j : Nat) : 0 ≤ low l j ∧ low l j < 256 ^ j := by
  induction j with
  | zero => exact ⟨by simp [low], by simp [low]⟩
  | succ j ih =>
    obtain ⟨a, b⟩ := ih
    obtain ⟨c, d⟩ := h.2 (31 - j)
    have hp := pow_pos j
    have e1 : 0 ≤ l.getD (31 - j) 0 * 256 ^ j := Int.mul_nonneg c (by omega)
    have e2 : l.getD (31 - j) 0 * 256 ^ j ≤ 255 * 256 ^ j := Int.mul_le_mul_of_nonneg_right d (by omega)
    rw [low, Int.pow_succ]
    omega

theorem val_bound {l : List Int} (h : Bytes l) : 0 ≤ val l ∧ val l < top := low_bound h 32

/-- A byte that lies in none of the last j turns nothing. -/
theorem low_set_above (l : List Int) (i : Nat) (x : Int) (j : Nat) (h : i + j ≤ 31) : low (l.set i x) j = low l j := by
  induction j with
  | zero => rfl
  | succ j ih =>
    rw [low, low, ih (by omega)]
    have : (l.set i x).getD (31 - j) 0 = l.getD (31 - j) 0 := by
      simp only [List.getD_eq_getElem?_getD]; rw [List.getElem?_set_ne (by omega)]
    rw [this]

theorem low_set_at (l : List Int) (t : Nat) (x : Int) (hl : l.length = 32) (ht : t ≤ 31) (j : Nat) (h : t < j) (hj : j ≤ 32) :
    low (l.set (31 - t) x) j = low l j + (x - l.getD (31 - t) 0) * 256 ^ t := by
  induction j with
  | zero => omega
  | succ j ih =>
    rw [low, low]
    by_cases e : t = j
    · subst e
      rw [low_set_above l (31 - t) x t (by omega)]
      have : (l.set (31 - t) x).getD (31 - t) 0 = x := by
        simp only [List.getD_eq_getElem?_getD]; rw [List.getElem?_set_self (by omega)]; rfl
      rw [this, Int.sub_mul]; omega
    · rw [ih (by omega) (by omega)]
      have : (l.set (31 - t) x).getD (31 - j) 0 = l.getD (31 - j) 0 := by
        simp only [List.getD_eq_getElem?_getD]; rw [List.getElem?_set_ne (by omega)]
      rw [this]; omega

theorem val_set (l : List Int) (t : Nat) (x : Int) (hl : l.length = 32) (ht : t ≤ 31) :
    val (l.set (31 - t) x) = val l + (x - l.getD (31 - t) 0) * 256 ^ t := low_set_at l t x hl ht 32 (by omega) (by omega)

theorem bytes_set {l : List Int} (h : Bytes l) (i : Nat) (x : Int) (h0 : 0 ≤ x) (h1 : x ≤ 255) : Bytes (l.set i x) := by
  refine ⟨by simp [h.1], fun j => ?_⟩
  simp only [List.getD_eq_getElem?_getD, List.getElem?_set]
  have := h.2 j
  simp only [List.getD_eq_getElem?_getD] at this
  split
  · split
    · exact ⟨h0, h1⟩
    · simp
  · exact this

theorem low_inj {l m : List Int} (hl : Bytes l) (hm : Bytes m) (j : Nat) (h : low l j = low m j) : ∀ t, t < j → l.getD (31 - t) 0 = m.getD (31 - t) 0 := by
  induction j with
  | zero => intro t ht; omega
  | succ j ih =>
    rw [low, low] at h
    obtain ⟨a, b⟩ := low_bound hl j
    obtain ⟨c, d⟩ := low_bound hm j
    have hp := pow_pos j
    have e : l.getD (31 - j) 0 = m.getD (31 - j) 0 := by
      have q : (low l j + l.getD (31 - j) 0 * 256 ^ j) / 256 ^ j = l.getD (31 - j) 0 := by
        rw [Int.add_mul_ediv_right _ _ (by omega), Int.ediv_eq_zero_of_lt a b]; omega
      have q' : (low m j + m.getD (31 - j) 0 * 256 ^ j) / 256 ^ j = m.getD (31 - j) 0 := by
        rw [Int.add_mul_ediv_right _ _ (by omega), Int.ediv_eq_zero_of_lt c d]; omega
      rw [← q, ← q', h]
    intro t ht
    by_cases e' : t = j
    · subst e'; exact e
    · exact ih (by rw [e] at h; omega) t (by omega)

theorem val_inj {l m : List Int} (hl : Bytes l) (hm : Bytes m) (h : val l = val m) : l = m := by
  have hi := low_inj hl hm 32 h
  apply List.ext_getElem?
  intro i
  by_cases hlt : i < 32
  · have := hi (31 - i) (by omega)
    rw [show 31 - (31 - i) = i by omega] at this
    simp only [List.getD_eq_getElem?_getD] at this
    rw [List.getElem?_eq_getElem (by rw [hl.1]; omega), List.getElem?_eq_getElem (by rw [hm.1]; omega)] at this ⊢
    simpa using this
  · rw [List.getElem?_eq_none (by rw [hl.1]; omega), List.getElem?_eq_none (by rw [hm.1]; omega)]

/-! ### AddPow2 -/
/-- One round: the byte that stands at 31 - t takes the sum's low byte, the carry goes on. -/
theorem add_round (l : List Int) (t : Nat) (c : Int) (hl : l.length = 32) (ht : t ≤ 31) :
    val (l.set (31 - t) ((l.getD (31 - t) 0 + c) % 256)) + (l.getD (31 - t) 0 + c) / 256 * 256 ^ (t + 1) = val l + c * 256 ^ t := by
  rw [val_set l t _ hl ht, Int.pow_succ]
  have e := Int.emod_add_mul_ediv (l.getD (31 - t) 0 + c) 256
  generalize l.getD (31 - t) 0 = b at *
  generalize (b + c) % 256 = r at *
  generalize (b + c) / 256 = q at *
  generalize (256 : Int) ^ t = p at *
  have : c = r + 256 * q - b := by omega
  rw [this, show q * (p * 256) = (256 * q) * p by rw [Int.mul_comm p 256, ← Int.mul_assoc, Int.mul_comm q 256], Int.sub_mul, Int.sub_mul, Int.add_mul]
  omega

theorem start_pow (k : Nat) : (2 : Int) ^ (k % 8) * 256 ^ (k / 8) = 2 ^ k := by
  rw [show (256 : Int) = 2 ^ 8 by decide, ← Int.pow_mul, ← Int.pow_add, show k % 8 + 8 * (k / 8) = k by omega]

theorem add_done {l m : List Int} {c p : Int} {t : Nat} (hm : Bytes m) (h : val m + c * 256 ^ t = val l + p) (hc : c = 0 ∨ t = 32) : val m = (val l + p) % top := by
  obtain ⟨a, b⟩ := val_bound hm
  rcases hc with rfl | rfl
  · rw [← h]; simp only [Int.zero_mul, Int.add_zero]; exact (Int.emod_eq_of_lt a b).symm
  · rw [← h]; show _ = (val m + c * top) % top
    rw [Int.add_mul_emod_self_right]; exact (Int.emod_eq_of_lt a b).symm

/-! ### nodeSubBE -/
theorem sub_round (a b d : List Int) (t : Nat) (w : Int) (hd : d.length = 32) (ht : t ≤ 31) (h : low d t = low a t - low b t + w * 256 ^ t)
    (x w' : Int) (hx : x = a.getD (31 - t) 0 - b.getD (31 - t) 0 - w + 256 * w') :
    low (d.set (31 - t) x) (t + 1) = low a (t + 1) - low b (t + 1) + w' * 256 ^ (t + 1) := by
  rw [low, low_set_above d (31 - t) x t (by omega)]
  have e : (d.set (31 - t) x).getD (31 - t) 0 = x := by
    simp only [List.getD_eq_getElem?_getD]; rw [List.getElem?_set_self (by omega)]; rfl
  rw [e, h, low, low, hx, Int.pow_succ]
  generalize a.getD (31 - t) 0 = u
  generalize b.getD (31 - t) 0 = v
  generalize (256 : Int) ^ t = p
  rw [show w' * (p * 256) = (256 * w') * p by rw [Int.mul_comm p 256, ← Int.mul_assoc, Int.mul_comm w' 256], Int.add_mul, Int.sub_mul, Int.sub_mul]
  omega

theorem sub_done {a b d : List Int} {w : Int} (hd : Bytes d) (h : low d 32 = low a 32 - low b 32 + w * 256 ^ 32) : val d = (val a - val b) % top := by
  obtain ⟨x, y⟩ := val_bound hd
  have e : val a - val b = val d + (-w) * top := by
    have h' : val d = val a - val b + w * top := h
    rw [h', Int.neg_mul]; omega
  rw [e, Int.add_mul_emod_self_right]; exact (Int.emod_eq_of_lt x y).symm

/-! ### nodePow2BE -/
def zeros : List Int := List.replicate 32 0
theorem zeros_getD (i : Nat) : zeros.getD i 0 = 0 := by
  simp only [zeros, List.getD_eq_getElem?_getD, List.getElem?_replicate]; split <;> rfl
theorem zeros_bytes : Bytes zeros := ⟨by simp [zeros], fun i => by rw [zeros_getD]; omega⟩
theorem zeros_low (j : Nat) : low zeros j = 0 := by
  induction j with
  | zero => rfl
  | succ j ih => rw [low, ih, zeros_getD]; omega
theorem pow2_val (k : Nat) (hk : k ≤ 255) : val (zeros.set (31 - k / 8) (2 ^ (k % 8))) = 2 ^ k := by
  rw [val_set zeros (k / 8) _ zeros_bytes.1 (by omega), zeros_getD, show val zeros = 0 from zeros_low 32]
  have := start_pow k
  rw [Int.sub_zero]; omega
theorem two_le (r : Nat) (h : r < 8) : (1 : Int) ≤ 2 ^ r ∧ (2 : Int) ^ r ≤ 128 := by
  have : r = 0 ∨ r = 1 ∨ r = 2 ∨ r = 3 ∨ r = 4 ∨ r = 5 ∨ r = 6 ∨ r = 7 := by omega
  rcases this with rfl | rfl | rfl | rfl | rfl | rfl | rfl | rfl <;> decide
theorem pow2_bytes (k : Nat) : Bytes (zeros.set (31 - k / 8) (2 ^ (k % 8))) := by
  have := two_le (k % 8) (by omega)
  exact bytes_set zeros_bytes _ _ (by omega) (by omega)
theorem pow_top : (2 : Int) ^ 256 = top := by decide
theorem two_mono {a b : Nat} (h : a ≤ b) : (2 : Int) ^ a ≤ 2 ^ b := by
  obtain ⟨c, rfl⟩ := Nat.exists_eq_add_of_le h
  rw [Int.pow_add]
  have h1 := two_pos a
  have h2 := two_pos c
  have := Int.mul_le_mul_of_nonneg_left (a := 1) (b := 2 ^ c) (c := 2 ^ a) (by omega) (by omega)
  omega
theorem pow_lt_top (k : Nat) (hk : k ≤ 255) : (2 : Int) ^ k < top := by
  have h := two_mono (a := k + 1) (b := 256) (by omega)
  rw [Int.pow_succ, pow_top] at h
  have := two_pos k
  omega

/-! ### nodeLessBE -/
/-- Where the first i bytes agree, the order is the order of what is left. -/
theorem high_same (a b : List Int) (i : Nat) (hi : i ≤ 32) (h : ∀ t, t < i → a.getD t 0 = b.getD t 0) : val a - low a (32 - i) = val b - low b (32 - i) := by
  induction i with
  | zero => simp [val]
  | succ i ih =>
    have e := ih (by omega) (fun t ht => h t (by omega))
    have s : 32 - i = (32 - (i + 1)) + 1 := by omega
    rw [s, low, low, show 31 - (32 - (i + 1)) = i by omega, h i (by omega)] at e
    omega
theorem less_at {a b : List Int} (ha : Bytes a) (hb : Bytes b) (i : Nat) (hi : i < 32) (h : ∀ t, t < i → a.getD t 0 = b.getD t 0) (hne : a.getD i 0 ≠ b.getD i 0) :
    (a.getD i 0 < b.getD i 0) ↔ val a < val b := by
  have e := high_same a b i (by omega) h
  have s : 32 - i = (31 - i) + 1 := by omega
  rw [s, low, low, show 31 - (31 - i) = i by omega] at e
  obtain ⟨a1, a2⟩ := low_bound ha (31 - i)
  obtain ⟨b1, b2⟩ := low_bound hb (31 - i)
  have hp := pow_pos (31 - i)
  generalize (256 : Int) ^ (31 - i) = p at *
  generalize a.getD i 0 = u at *
  generalize b.getD i 0 = v at *
  constructor
  · intro hlt
    have : (u + 1) * p ≤ v * p := Int.mul_le_mul_of_nonneg_right (by omega) (by omega)
    rw [Int.add_mul] at this
    omega
  · intro hlt
    by_cases g : u < v
    · exact g
    · have : (v + 1) * p ≤ u * p := Int.mul_le_mul_of_nonneg_right (by omega) (by omega)
      rw [Int.add_mul] at this
      omega
theorem less_same {a b : List Int} (h : ∀ t, t < 32 → a.getD t 0 = b.getD t 0) : ¬ val a < val b := by
  have := high_same a b 32 (by omega) h
  simp [low] at this
  omega

/-! ### nodeOnesFrom -/
theorem low_mod {l : List Int} (h : Bytes l) (j n : Nat) (hj : j ≤ n) : low l n % 256 ^ j = low l j := by
  induction n with
  | zero => rw [show j = 0 by omega]; rfl
  | succ n ih =>
    by_cases e : j = n + 1
    · subst e; obtain ⟨a, b⟩ := low_bound h (n + 1); exact Int.emod_eq_of_lt a b
    · obtain ⟨c, rfl⟩ := Nat.exists_eq_add_of_le (show j ≤ n by omega)
      rw [low, Int.pow_add, ← Int.mul_assoc, Int.mul_assoc, Int.mul_comm (256 ^ j), ← Int.mul_assoc, Int.add_mul_emod_self_right]
      exact ih (by omega)
/-- The byte at 31 - j is the number's j-th byte. -/
theorem byte_of {l : List Int} (h : Bytes l) (j : Nat) (hj : j ≤ 31) : val l / 256 ^ j % 256 = l.getD (31 - j) 0 := by
  have e := low_mod h (j + 1) 32 (by omega)
  have hp := pow_pos j
  have q : low l 32 % 256 ^ (j + 1) / 256 ^ j = l.getD (31 - j) 0 := by
    rw [e, low, Int.add_mul_ediv_right _ _ (by omega)]
    obtain ⟨a, b⟩ := low_bound h j
    rw [Int.ediv_eq_zero_of_lt a b]; omega
  rw [← q, Int.pow_succ]
  show low l 32 / 256 ^ j % 256 = _
  generalize low l 32 = x
  generalize (256 : Int) ^ j = p at *
  have d1 := Int.mul_ediv_add_emod x (p * 256)
  have d2 := Int.mul_ediv_add_emod x p
  have : x / p / 256 = x / (p * 256) := Int.ediv_ediv_of_nonneg (by omega)
  have m : x % (p * 256) = p * (x / p % 256) + x % p := by
    have d3 := Int.mul_ediv_add_emod (x / p) 256
    rw [this] at d3
    have : p * (256 * (x / (p * 256)) + x / p % 256) = p * (x / p) := by rw [d3]
    rw [Int.mul_add, ← Int.mul_assoc] at this
    omega
  rw [m, Int.add_comm, Int.add_mul_ediv_left _ _ (by omega), Int.ediv_eq_zero_of_lt (Int.emod_nonneg _ (by omega)) (Int.emod_lt_of_pos _ hp)]
  omega
theorem ediv_mod (x : Int) (b : Nat) (hb : b ≤ 7) : x % 256 / 2 ^ b % 2 = x / 2 ^ b % 2 := by
  have : b = 0 ∨ b = 1 ∨ b = 2 ∨ b = 3 ∨ b = 4 ∨ b = 5 ∨ b = 6 ∨ b = 7 := by omega
  rcases this with rfl | rfl | rfl | rfl | rfl | rfl | rfl | rfl <;> simp <;> omega
theorem bit_of {l : List Int} (h : Bytes l) (p : Nat) (hp : p ≤ 255) : l.getD (31 - p / 8) 0 / 2 ^ (p % 8) % 2 = val l / 2 ^ p % 2 := by
  rw [← byte_of h (p / 8) (by omega), ediv_mod _ _ (by omega), ← start_pow p, Int.mul_comm, Int.ediv_ediv_of_nonneg (by have := pow_pos (p / 8); omega)]
theorem mod_succ (x : Int) (p : Nat) : x % 2 ^ (p + 1) = 2 ^ p * (x / 2 ^ p % 2) + x % 2 ^ p := by
  have hp := two_pos p
  rw [Int.pow_succ]
  generalize (2 : Int) ^ p = q at *
  have d1 := Int.mul_ediv_add_emod x (q * 2)
  have d2 := Int.mul_ediv_add_emod x q
  have d3 := Int.mul_ediv_add_emod (x / q) 2
  have : x / q / 2 = x / (q * 2) := Int.ediv_ediv_of_nonneg (by omega)
  rw [this] at d3
  have : q * (2 * (x / (q * 2)) + x / q % 2) = q * (x / q) := by rw [d3]
  rw [Int.mul_add, ← Int.mul_assoc] at this
  omega
/-- All bits from k up to p (not p) are set. -/
def Ones (x : Int) (k p : Nat) : Prop := 2 ^ p - 2 ^ k ≤ x % 2 ^ p
theorem ones_start (x : Int) (k : Nat) : Ones x k k := by
  unfold Ones
  have := Int.emod_nonneg x (b := 2 ^ k) (by have := two_pos k; omega)
  omega
theorem ones_step {x : Int} {k p : Nat} (h : Ones x k p) (hb : x / 2 ^ p % 2 = 1) : Ones x k (p + 1) := by
  unfold Ones at *
  rw [mod_succ, hb, Int.pow_succ]
  omega
theorem ones_done {x : Int} {k : Nat} (h0 : 0 ≤ x) (h1 : x < top) (h : Ones x k 256) : top ≤ x + 2 ^ k := by
  unfold Ones at h
  rw [pow_top, Int.emod_eq_of_lt h0 h1] at h
  omega
theorem ones_stop {x : Int} {k p : Nat} (h1 : x < top) (hkp : k ≤ p) (hp : p ≤ 255) (hb : x / 2 ^ p % 2 = 0) : x + 2 ^ k < top := by
  have hm := mod_succ x p
  rw [hb] at hm
  have q2 := two_pos p
  have hlt := Int.emod_lt_of_pos x q2
  have hk := two_mono hkp
  have d := Int.mul_ediv_add_emod x (2 ^ (p + 1))
  have hpp := two_pos (p + 1)
  obtain ⟨c, hc⟩ := Nat.exists_eq_add_of_le (show p + 1 ≤ 256 by omega)
  have ht : top = 2 ^ (p + 1) * 2 ^ c := by rw [← Int.pow_add, ← hc]; exact pow_top.symm
  have hq : x / 2 ^ (p + 1) < 2 ^ c := by
    apply Int.ediv_lt_of_lt_mul hpp
    rw [Int.mul_comm, ← ht]; exact h1
  have hle : 2 ^ (p + 1) * (x / 2 ^ (p + 1) + 1) ≤ 2 ^ (p + 1) * 2 ^ c := Int.mul_le_mul_of_nonneg_left (by omega) (by omega)
  rw [← ht, Int.mul_add] at hle
  have e2 : (2 : Int) ^ (p + 1) = 2 ^ p * 2 := Int.pow_succ _ _
  omega

/-! ### THE TWO LAWS -/
theorem law_sum {l r d : List Int} {k : Nat} (hk : k ≤ 255) (hr : val r = (val l + 2 ^ k) % top) (hd : val d = (val r - val l) % top) (hdb : Bytes d) :
    d = zeros.set (31 - k / 8) (2 ^ (k % 8)) := by
  apply val_inj hdb (pow2_bytes k)
  rw [pow2_val k hk, hd, hr, Int.sub_eq_add_neg, Int.emod_add_emod, show val l + 2 ^ k + -val l = 2 ^ k by omega]
  exact Int.emod_eq_of_lt (by have := two_pos k; omega) (pow_lt_top k hk)
theorem law_wrap {l r t : List Int} (hl : Bytes l) (ht : Bytes t) (hr : val r = (val l + 2 ^ 255) % top) (h : val t = (val r + 2 ^ 255) % top) : t = l := by
  apply val_inj ht hl
  obtain ⟨a, b⟩ := val_bound hl
  rw [h, hr, Int.emod_add_emod, show val l + 2 ^ 255 + 2 ^ 255 = val l + 1 * top by rw [← pow_top]; omega, Int.add_mul_emod_self_right]
  exact Int.emod_eq_of_lt a b
theorem law_twice {l r t s : List Int} {k : Nat} (ht : Bytes t) (hs : Bytes s) (hr : val r = (val l + 2 ^ k) % top) (h : val t = (val r + 2 ^ k) % top) (h' : val s = (val l + 2 ^ (k + 1)) % top) : t = s := by
  apply val_inj ht hs
  rw [h, h', hr, Int.emod_add_emod, Int.pow_succ]
  congr 1; omega
theorem law_comm {l p q a b : List Int} {j k : Nat} (ha : Bytes a) (hb : Bytes b) (hp : val p = (val l + 2 ^ j) % top) (h1 : val a = (val p + 2 ^ k) % top) (hq : val q = (val l + 2 ^ k) % top) (h2 : val b = (val q + 2 ^ j) % top) : a = b := by
  apply val_inj ha hb
  rw [h1, h2, hp, hq, Int.emod_add_emod, Int.emod_add_emod]
  congr 1; omega
theorem step_val {l r : List Int} {k : Nat} (hl : Bytes l) (hk : k ≤ 255) (hr : val r = (val l + 2 ^ k) % top) :
    (val l + 2 ^ k < top ∧ val r = val l + 2 ^ k) ∨ (top ≤ val l + 2 ^ k ∧ val r = val l + 2 ^ k - top) := by
  obtain ⟨a, b⟩ := val_bound hl
  have h1 := two_pos k
  have h2 := pow_lt_top k hk
  by_cases g : val l + 2 ^ k < top
  · exact .inl ⟨g, by rw [hr]; exact Int.emod_eq_of_lt (by omega) g⟩
  · refine .inr ⟨by omega, ?_⟩
    rw [hr, show val l + 2 ^ k = (val l + 2 ^ k - top) + 1 * top by omega, Int.add_mul_emod_self_right]
    rw [Int.emod_eq_of_lt (by omega) (by omega)]; omega
theorem law_ne {l r : List Int} {k : Nat} (hl : Bytes l) (hk : k ≤ 255) (hr : val r = (val l + 2 ^ k) % top) : r ≠ l := by
  intro e; subst e
  have h1 := two_pos k
  have h2 := pow_lt_top k hk
  rcases step_val hl hk hr with ⟨_, h⟩ | ⟨_, h⟩ <;> omega
theorem law_less {l r : List Int} {k : Nat} (hl : Bytes l) (hk : k ≤ 255) (hr : val r = (val l + 2 ^ k) % top) : decide (val l < val r) = !decide (top ≤ val l + 2 ^ k) := by
  have h1 := two_pos k
  have h2 := pow_lt_top k hk
  rcases step_val hl hk hr with ⟨g, h⟩ | ⟨g, h⟩
  · rw [decide_eq_true (by omega), decide_eq_false (by omega)]; rfl
  · rw [decide_eq_false (by omega), decide_eq_true (by omega)]; rfl

end Go.Proofs.Qxb6628958a.Plain
