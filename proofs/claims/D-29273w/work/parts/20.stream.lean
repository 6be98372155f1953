/-! STREAMS: CBC over a stream of bytes P, block by block; paddings -/
theorem eS_congr {kw : Nat → Nat → Int32} {i0 j0 : Nat → Int32} (h : ∀ c, c < 4 → i0 c = j0 c) : ∀ r c, c < 4 → eS kw i0 r c = eS kw j0 r c
  | 0, c, hc => h c hc
  | r + 1, c, hc => by
    unfold eS
    rw [eS_congr h r c hc, eS_congr h r _ (Nat.mod_lt _ (by decide)), eS_congr h r _ (Nat.mod_lt _ (by decide)), eS_congr h r _ (Nat.mod_lt _ (by decide))]
theorem dS_congr {KC : Nat} {kw : Nat → Nat → Int32} {i0 j0 : Nat → Int32} (h : ∀ c, c < 4 → i0 c = j0 c) : ∀ r c, c < 4 → dS KC kw i0 r c = dS KC kw j0 r c
  | 0, c, hc => h c hc
  | r + 1, c, hc => by
    unfold dS
    rw [dS_congr h r c hc, dS_congr h r _ (Nat.mod_lt _ (by decide)), dS_congr h r _ (Nat.mod_lt _ (by decide)), dS_congr h r _ (Nat.mod_lt _ (by decide))]
theorem xw0_congr {x y : Nat → BitVec 8} {o o' : Nat} {kw : Nat → Nat → Int32} {r : Nat} (h : ∀ i, i < 16 → x (o + i) = y (o' + i)) : ∀ c, c < 4 → xw0 x o kw r c = xw0 y o' kw r c := by
  intro c hc
  unfold xw0 inw
  simp only [Nat.add_assoc]
  rw [h (4 * c) (by omega), h (4 * c + 1) (by omega), h (4 * c + 2) (by omega), h (4 * c + 3) (by omega)]
theorem blkE_congr {KC : Nat} {kw : Nat → Nat → Int32} {x y : Nat → BitVec 8} {o o' : Nat} (h : ∀ i, i < 16 → x (o + i) = y (o' + i)) : ∀ i, i < 16 → blkE KC kw x o i = blkE KC kw y o' i := by
  intro i hi
  have e := eS_congr (kw := kw) (xw0_congr (kw := kw) (r := 0) h) (KC + 5)
  unfold blkE wby eO
  rw [e _ (by omega), e _ (Nat.mod_lt _ (by decide)), e _ (Nat.mod_lt _ (by decide)), e _ (Nat.mod_lt _ (by decide))]
theorem blkD_congr {KC : Nat} {kw : Nat → Nat → Int32} {x y : Nat → BitVec 8} {o o' : Nat} (h : ∀ i, i < 16 → x (o + i) = y (o' + i)) : ∀ i, i < 16 → blkD KC kw x o i = blkD KC kw y o' i := by
  intro i hi
  have e := dS_congr (KC := KC) (kw := kw) (xw0_congr (kw := kw) (r := KC + 6) h) (KC + 5)
  unfold blkD wby dO
  rw [e _ (by omega), e _ (Nat.mod_lt _ (by decide)), e _ (Nat.mod_lt _ (by decide)), e _ (Nat.mod_lt _ (by decide))]
/-- the chaining block ahead of the block b: to encrypt (z = 1), to decrypt (z = 0) -/
def stE (KC : Nat) (kw : Nat → Nat → Int32) (c0 P : Nat → BitVec 8) : Nat → Nat → BitVec 8
  | 0 => c0
  | b + 1 => blkE KC kw (fun i => stE KC kw c0 P b i ^^^ P (16 * b + i)) 0
def stC (z KC : Nat) (kw : Nat → Nat → Int32) (c0 P : Nat → BitVec 8) (b : Nat) : Nat → BitVec 8 := if z = 0 then (if b = 0 then c0 else fun i => P (16 * (b - 1) + i)) else stE KC kw c0 P b
/-- the stream that comes out -/
def stO (z KC : Nat) (kw : Nat → Nat → Int32) (c0 P : Nat → BitVec 8) (j : Nat) : BitVec 8 := if z = 0 then blkD KC kw (fun i => P (16 * (j / 16) + i)) 0 (j % 16) ^^^ stC 0 KC kw c0 P (j / 16) (j % 16) else stE KC kw c0 P (j / 16 + 1) (j % 16)
section
variable {KC : Nat} {kw : Nat → Nat → Int32} {c0 P x ob : Nat → BitVec 8} {k o m n : Nat}
theorem st_stepE (hx : ∀ i, i < 16 → x (o + i) = P (16 * k + i)) : ∀ i, i < 16 → blkE KC kw (fun j => stC 1 KC kw c0 P k j ^^^ x (o + j)) 0 i = stC 1 KC kw c0 P (k + 1) i := by
  intro i hi
  show _ = blkE KC kw (fun i => stE KC kw c0 P k i ^^^ P (16 * k + i)) 0 i
  exact blkE_congr (fun j hj => by simp only [Nat.zero_add]; rw [hx j hj]; rfl) i hi
theorem st_outE (h : ∀ j, j < 16 * k → ob j = stO 1 KC kw c0 P j) (hx : ∀ i, i < 16 → x (o + i) = P (16 * k + i)) : ∀ j, j < 16 * (k + 1) → va_cpy (blkE KC kw (fun j => stC 1 KC kw c0 P k j ^^^ x (o + j)) 0) ob 0 (16 * k) 16 j = stO 1 KC kw c0 P j := by
  intro j hj
  unfold va_cpy
  by_cases h1 : 16 * k ≤ j ∧ j < 16 * k + 16
  · rw [if_pos h1, Nat.zero_add, st_stepE hx _ (by omega)]
    show stE KC kw c0 P (k + 1) (j - 16 * k) = stE KC kw c0 P (j / 16 + 1) (j % 16)
    rw [show j / 16 = k by omega, show j % 16 = j - 16 * k by omega]
  · rw [if_neg h1]
    exact h j (by omega)
theorem st_stepD (hx : ∀ i, i < 16 → x (o + i) = P (16 * k + i)) : ∀ i, i < 16 → x (o + i) = stC 0 KC kw c0 P (k + 1) i := by
  intro i hi
  rw [hx i hi]
  unfold stC
  rw [if_pos rfl, if_neg (by omega)]
  rfl
theorem st_blkD (hx : ∀ i, i < 16 → x (o + i) = P (16 * k + i)) : ∀ i, i < 16 → blkD KC kw x o i ^^^ stC 0 KC kw c0 P k i = stO 0 KC kw c0 P (16 * k + i) := by
  intro i hi
  unfold stO
  rw [if_pos rfl, show (16 * k + i) / 16 = k by omega, show (16 * k + i) % 16 = i by omega]
  congr 1
  exact blkD_congr (fun j hj => by simp only [Nat.zero_add]; rw [hx j hj]) i hi
theorem st_outD (h : ∀ j, j < 16 * k → ob j = stO 0 KC kw c0 P j) (hx : ∀ i, i < 16 → x (o + i) = P (16 * k + i)) : ∀ j, j < 16 * (k + 1) → va_cpy (fun i => blkD KC kw x o i ^^^ stC 0 KC kw c0 P k i) ob 0 (16 * k) 16 j = stO 0 KC kw c0 P j := by
  intro j hj
  unfold va_cpy
  by_cases h1 : 16 * k ≤ j ∧ j < 16 * k + 16
  · rw [if_pos h1, Nat.zero_add]
    dsimp only
    rw [st_blkD hx _ (by omega), show 16 * k + (j - 16 * k) = j by omega]
  · rw [if_neg h1]
    exact h j (by omega)
end
/-- full blocks that are worked off when m bytes have come: the last one waits -/
def nbk (m : Nat) : Nat := (m - 1) / 16
/-- the buffer holds the stream from the block k on, as far as the byte m -/
def BF (P bb : Nat → BitVec 8) (k m : Nat) : Prop := ∀ j, 16 * k + j < m → j < 16 → bb j = P (16 * k + j)
theorem bf_copy {P bb bi : Nat → BitVec 8} {k m io off n : Nat} (h : BF P bb k m) (ho : off = m - 16 * k) (hk : 16 * k ≤ m) (hi : ∀ t, t < n → bi (io + t) = P (m + t)) : BF P (va_cpy bi bb io off n) k (m + n) := by
  intro j h1 h2
  unfold va_cpy
  by_cases h3 : off ≤ j ∧ j < off + n
  · rw [if_pos h3, hi _ (by omega)]
    congr 1
    omega
  · rw [if_neg h3]
    exact h j (by omega) h2
/-! paddings -/
/-- what addPadding makes of a block of which io bytes are text -/
def padB (way io : Nat) (b : Nat → BitVec 8) (j : Nat) : BitVec 8 := if j < io then b j else if way = 0 then BitVec.ofNat 8 (16 - io) else if way = 1 ∧ j = io then 128 else 0
/-- noughts at the end of the first n bytes -/
def tz (b : Nat → BitVec 8) : Nat → Nat
  | 0 => 0
  | n + 1 => if b n = 0 then tz b n + 1 else 0
theorem tz_le (b : Nat → BitVec 8) : ∀ n, tz b n ≤ n
  | 0 => Nat.le_refl _
  | n + 1 => by
    have h := tz_le b n
    unfold tz
    split <;> omega
theorem tz_zero (b : Nat → BitVec 8) : ∀ n j, j < tz b n → b (n - 1 - j) = 0
  | 0, j, h => absurd h (Nat.not_lt_zero _)
  | n + 1, j, h => by
    unfold tz at h
    by_cases h0 : b n = 0
    · rw [if_pos h0] at h
      cases j with
      | zero => exact h0
      | succ j =>
        have := tz_zero b n j (by omega)
        rw [show n + 1 - 1 - (j + 1) = n - 1 - j by omega]
        exact this
    · rw [if_neg h0] at h
      exact absurd h (Nat.not_lt_zero _)
theorem tz_stop (b : Nat → BitVec 8) : ∀ n, tz b n < n → b (n - 1 - tz b n) ≠ 0
  | 0, h => absurd h (Nat.not_lt_zero _)
  | n + 1, h => by
    unfold tz at h ⊢
    by_cases h0 : b n = 0
    · rw [if_pos h0] at h ⊢
      have := tz_stop b n (by omega)
      rw [show n + 1 - 1 - (tz b n + 1) = n - 1 - tz b n by omega]
      exact this
    · rw [if_neg h0]
      exact h0
/-- what padCount answers of a block: the count, or none: refused -/
def pcnt (way : Nat) (b : Nat → BitVec 8) : Option Nat :=
  if way = 0 then (if 1 ≤ (b 15).toNat ∧ (b 15).toNat ≤ 16 ∧ ∀ i : Fin 16, 16 ≤ i.val + (b 15).toNat → b i.val = b 15 then some (b 15).toNat else none)
  else if way = 1 then (if tz b 16 < 16 ∧ b (15 - tz b 16) = 128 then some (tz b 16 + 1) else none)
  else some (tz b 16)
theorem lo8_nI (n : Nat) : lo8 (nI n) = BitVec.ofNat 8 n := by
  show (BitVec.ofNat 32 n).setWidth 8 = BitVec.ofNat 8 n
  apply BitVec.eq_of_toNat_eq
  simp
/-! the loops of addPadding and padCount -/
def PD (way io : Nat) (b f : Nat → BitVec 8) (i : Nat) : Prop := ∀ j, j < 16 → f j = if j < i then padB way io b j else b j
theorem PD_0 {way io : Nat} {b : Nat → BitVec 8} : PD way io b b io := fun j _ => by
  by_cases h : j < io
  · unfold padB
    rw [if_pos h, if_pos h]
  · rw [if_neg h]
theorem PD_put {way io i : Nat} {b f : Nat → BitVec 8} {x : BitVec 8} (h : PD way io b f i) (hx : padB way io b i = x) : PD way io b (va_up f i x) (i + 1) := by
  intro j hj
  unfold va_up
  by_cases h1 : j = i
  · subst h1
    rw [if_pos rfl, if_pos (by omega), hx]
  · rw [if_neg h1, h j hj]
    by_cases h2 : j < i
    · rw [if_pos h2, if_pos (by omega)]
    · rw [if_neg h2, if_neg (by omega)]
theorem PD_end {way io i : Nat} {b f : Nat → BitVec 8} (h : PD way io b f i) (hi : 16 ≤ i) (j : Nat) (hj : j < 16) : f j = padB way io b j := by rw [h j hj, if_pos (by omega)]
theorem padB_0 {io i : Nat} {b : Nat → BitVec 8} (h : io ≤ i) : padB 0 io b i = BitVec.ofNat 8 (16 - io) := by unfold padB; rw [if_neg (by omega), if_pos rfl]
theorem padB_1a {io : Nat} {b : Nat → BitVec 8} : padB 1 io b io = 128 := by unfold padB; rw [if_neg (by omega), if_neg (by decide), if_pos ⟨rfl, rfl⟩]
theorem padB_1 {io i : Nat} {b : Nat → BitVec 8} (h : io < i) : padB 1 io b i = 0 := by unfold padB; rw [if_neg (by omega), if_neg (by decide), if_neg (by omega)]
theorem padB_2 {io i : Nat} {b : Nat → BitVec 8} (h : io ≤ i) : padB 2 io b i = 0 := by unfold padB; rw [if_neg (by omega), if_neg (by decide), if_neg (by omega)]
theorem m1_lt {i : Nat} (hi : i ≤ 16) : nI i + (-1) < 0 ↔ i = 0 := (by decide +kernel : ∀ i, i < 17 → (nI i + (-1) < 0 ↔ i = 0)) i (by omega)
theorem zc_zero {b : Nat → BitVec 8} {i : Nat} (h0 : 0 < i) (hi : i ≤ 16) (h : 16 - (i - 1) ≤ tz b 16) : b (i - 1) = 0 := by
  have := tz_zero b 16 (16 - i) (by omega)
  rw [show 16 - 1 - (16 - i) = i - 1 by omega] at this
  exact this
theorem zc_stop {b : Nat → BitVec 8} {i : Nat} (h0 : 0 < i) (hi : i ≤ 16) (h1 : 16 - i ≤ tz b 16) (h : ¬ 16 - (i - 1) ≤ tz b 16) : b (i - 1) ≠ 0 := by
  have := tz_stop b 16 (by omega)
  rw [show 16 - 1 - tz b 16 = i - 1 by omega] at this
  exact this
theorem zc_still {b : Nat → BitVec 8} {i : Nat} (h0 : 0 < i) (hi : i ≤ 16) : (if 16 - i ≤ tz b 16 then (-1 : Int32) else 0) &&& (if b (i - 1) = 0 then (-1 : Int32) else 0) = if 16 - (i - 1) ≤ tz b 16 then (-1 : Int32) else 0 := by
  by_cases h1 : 16 - i ≤ tz b 16
  · by_cases h2 : 16 - (i - 1) ≤ tz b 16
    · rw [if_pos h1, if_pos h2, if_pos (zc_zero h0 hi h2)]; decide +kernel
    · rw [if_pos h1, if_neg h2, if_neg (zc_stop h0 hi h1 h2)]; decide +kernel
  · rw [if_neg h1, if_neg (show ¬ 16 - (i - 1) ≤ tz b 16 by omega)]
    split <;> decide +kernel
theorem sub_m1 {a : Nat} (h : a ≤ 16) : nI a - (-1) = nI (a + 1) := (by decide +kernel : ∀ a, a < 17 → nI a - (-1) = nI (a + 1)) a (by omega)
theorem sub_0 (x : Int32) : x - 0 = x := by simp
theorem zc_cnt {b : Nat → BitVec 8} {i : Nat} (h0 : 0 < i) (hi : i ≤ 16) : nI (min (16 - i) (tz b 16)) - (if 16 - (i - 1) ≤ tz b 16 then (-1 : Int32) else 0) = nI (min (16 - (i - 1)) (tz b 16)) := by
  by_cases h2 : 16 - (i - 1) ≤ tz b 16
  · rw [if_pos h2, sub_m1 (by omega)]
    congr 1
    omega
  · rw [if_neg h2, sub_0]
    congr 1
    omega
def isoP (b : Nat → BitVec 8) (i : Nat) : Int32 := if tz b 16 < 16 - i ∧ b (15 - tz b 16) = 128 then nI (15 - tz b 16) else -1
theorem iso_pos {b : Nat → BitVec 8} {i : Nat} (h0 : 0 < i) (hi : i ≤ 16) : isoP b i ^^^ ((nI (i - 1) ^^^ isoP b i) &&& ((if 16 - i ≤ tz b 16 then (-1 : Int32) else 0) &&& (if b (i - 1) = 128 then (-1 : Int32) else 0))) = isoP b (i - 1) := by
  have hz : ∀ x y z : Int32, x ^^^ (y &&& (0 &&& z)) = x := fun x y z => by simp
  have hm : ∀ x y : Int32, (-1 : Int32) ^^^ ((x ^^^ (-1)) &&& ((-1 : Int32) &&& (-1 : Int32))) = x := fun x _ => by
    refine b_ext fun j hj => ?_
    have e : ∀ j, j < 32 → bt (-1 : Int32) j = true := by decide +kernel
    rw [b_xor, b_and, b_and, b_xor, e j hj]
    simp
  by_cases h1 : 16 - i ≤ tz b 16
  · have e1 : isoP b i = -1 := by unfold isoP; rw [if_neg (by omega)]
    rw [e1, if_pos h1]
    by_cases h3 : b (i - 1) = 128
    · have h2 : ¬ 16 - (i - 1) ≤ tz b 16 := fun h => by
        have := zc_zero h0 hi h
        rw [h3] at this
        exact absurd this (by decide)
      rw [if_pos h3, hm _ 0]
      unfold isoP
      have e2 : 15 - tz b 16 = i - 1 := by omega
      rw [e2, if_pos ⟨by omega, h3⟩]
    · rw [if_neg h3]
      have hz2 : ∀ x : Int32, (-1 : Int32) ^^^ (x &&& ((-1 : Int32) &&& 0)) = -1 := fun x => by simp
      rw [hz2]
      unfold isoP
      rw [if_neg]
      rintro ⟨h4, h5⟩
      rw [show 15 - tz b 16 = i - 1 by omega] at h5
      exact h3 h5
  · rw [if_neg h1, hz]
    unfold isoP
    have e : (tz b 16 < 16 - i ∧ b (15 - tz b 16) = 128) ↔ (tz b 16 < 16 - (i - 1) ∧ b (15 - tz b 16) = 128) := by
      constructor <;> rintro ⟨h4, h5⟩ <;> exact ⟨by omega, h5⟩
    by_cases h6 : tz b 16 < 16 - i ∧ b (15 - tz b 16) = 128
    · rw [if_pos h6, if_pos (e.mp h6)]
    · rw [if_neg h6, if_neg (fun h => h6 (e.mpr h))]
theorem iso_end (b : Nat → BitVec 8) : isoP b 0 = match pcnt 1 b with | some n => nI (16 - n) | none => -1 := by
  have e : pcnt 1 b = if tz b 16 < 16 ∧ b (15 - tz b 16) = 128 then some (tz b 16 + 1) else none := by
    unfold pcnt
    rw [if_neg (show ¬ (1 : Nat) = 0 by decide), if_pos rfl]
  rw [e]
  unfold isoP
  by_cases h : tz b 16 < 16 ∧ b (15 - tz b 16) = 128
  · have h' : tz b 16 < 16 - 0 ∧ b (15 - tz b 16) = 128 := h
    rw [if_pos h, if_pos h']
    show nI (15 - tz b 16) = nI (16 - (tz b 16 + 1))
    congr 1
    omega
  · have h' : ¬ (tz b 16 < 16 - 0 ∧ b (15 - tz b 16) = 128) := h
    rw [if_neg h, if_neg h']
/-- PKCS #7: nothing has failed so far -/
def p7ok (b : Nat → BitVec 8) (i : Nat) : Prop := (1 ≤ (b 15).toNat ∧ (b 15).toNat ≤ 16) ∧ ∀ j, j < i → 16 ≤ j + (b 15).toNat → b j = b 15
theorem or_0 (x y : Int32) : x ||| y = 0 ↔ x = 0 ∧ y = 0 := by
  constructor
  · intro h
    have hb : ∀ i, i < 32 → bt x i = false ∧ bt y i = false := fun i _ => by
      have h2 : bt (x ||| y) i = false := by rw [h]; unfold bt; exact BitVec.getLsbD_zero
      rw [b_or] at h2
      simpa using h2
    have z : ∀ i, bt 0 i = false := fun i => BitVec.getLsbD_zero
    exact ⟨b_ext fun i hi => by rw [(hb i hi).1, z], b_ext fun i hi => by rw [(hb i hi).2, z]⟩
  · rintro ⟨rfl, rfl⟩
    decide
theorem xor_0 {x y : BitVec 8} : sB x ^^^ sB y = 0 ↔ x = y := by
  constructor
  · intro h
    have := congrArg lo8 h
    rw [lo8_xor, lo8_sB, lo8_sB] at this
    have h0 : lo8 0 = 0#8 := by decide +kernel
    rw [h0] at this
    have h3 := congrArg (fun t => t ^^^ y) this
    simpa [BitVec.xor_assoc] using h3
  · rintro rfl
    refine b_ext fun i hi => ?_
    rw [b_xor]
    simp [bt]
theorem p7_step {b : Nat → BitVec 8} {i : Nat} {f : Int32} (h : f = 0 ↔ p7ok b i) (hi : i < 16) : (f ||| ((sB (b i) ^^^ sB (b 15)) &&& (((nI i - (nI 16 - uB (b 15))) >>> (nI 31 &&& 31)) ^^^ (-1)))) = 0 ↔ p7ok b (i + 1) := by
  have hm := pk7b ⟨i, hi⟩ (b 15)
  simp only at hm
  rw [or_0, h, hm]
  unfold p7ok
  constructor
  · rintro ⟨⟨h1, h2⟩, h3⟩
    refine ⟨h1, fun j hj hc => ?_⟩
    by_cases e : j = i
    · subst e
      rw [if_pos hc] at h3
      have h4 : sB (b j) ^^^ sB (b 15) = 0 := by
        have hq : ∀ x : Int32, x &&& (-1) = x := fun x => by simp
        rw [hq] at h3
        exact h3
      exact xor_0.mp h4
    · exact h2 j (by omega) hc
  · rintro ⟨h1, h2⟩
    refine ⟨⟨h1, fun j hj hc => h2 j (by omega) hc⟩, ?_⟩
    by_cases hc : 16 ≤ i + (b 15).toNat
    · rw [xor_0.mpr (h2 i (by omega) hc)]
      simp
    · rw [if_neg hc]
      simp
theorem p7_0 {b : Nat → BitVec 8} : (((nI 16 - uB (b 15)) ||| (uB (b 15) - nI 1)) >>> (nI 31 &&& 31)) = 0 ↔ p7ok b 0 := by
  rw [pk7a]
  unfold p7ok
  by_cases h : 1 ≤ (b 15).toNat ∧ (b 15).toNat ≤ 16
  · rw [if_pos h]
    simp [h]
  · rw [if_neg h]
    simp [h]
theorem p7_end {b : Nat → BitVec 8} : (p7ok b 16 → pcnt 0 b = some (b 15).toNat) ∧ (¬ p7ok b 16 → pcnt 0 b = none) := by
  unfold pcnt
  rw [if_pos rfl]
  have e : (1 ≤ (b 15).toNat ∧ (b 15).toNat ≤ 16 ∧ ∀ i : Fin 16, 16 ≤ i.val + (b 15).toNat → b i.val = b 15) ↔ p7ok b 16 := by
    unfold p7ok
    constructor
    · rintro ⟨h1, h2, h3⟩
      exact ⟨⟨h1, h2⟩, fun j hj hc => h3 ⟨j, hj⟩ hc⟩
    · rintro ⟨⟨h1, h2⟩, h3⟩
      exact ⟨h1, h2, fun i hc => h3 i.val i.isLt hc⟩
  exact ⟨fun h => if_pos (e.mpr h), fun h => if_neg (fun h2 => h (e.mp h2))⟩
