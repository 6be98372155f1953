/-! CBC: the xor loops; the block functions as functions of 16 bytes -/
def XL (f v x : Nat → BitVec 8) (i n : Nat) : Prop := ∀ j, j < n → f j = if j < i then v j ^^^ x j else v j
theorem XL_0 {v x : Nat → BitVec 8} {n : Nat} : XL v v x 0 n := fun j _ => by rw [if_neg (Nat.not_lt_zero _)]
theorem XL_put {f v x : Nat → BitVec 8} {i n : Nat} (h : XL f v x i n) (hi : i < n) : XL (va_up f i (f i ^^^ x i)) v x (i + 1) n := by
  intro j hj
  unfold va_up
  by_cases h1 : j = i
  · subst h1
    rw [if_pos rfl, if_pos (by omega), h j hj, if_neg (by omega)]
  · rw [if_neg h1, h j hj]
    by_cases h2 : j < i
    · rw [if_pos h2, if_pos (by omega)]
    · rw [if_neg h2, if_neg (by omega)]
theorem XL_end {f v x : Nat → BitVec 8} {i n : Nat} (h : XL f v x i n) (hi : n ≤ i) (j : Nat) (hj : j < n) : f j = v j ^^^ x j := by rw [h j hj, if_pos (by omega)]
/-- .. at an offset -/
def XO (f v x : Nat → BitVec 8) (o i : Nat) : Prop := ∀ j, f j = if o ≤ j ∧ j < o + i then v j ^^^ x (j - o) else v j
theorem XO_0 {v x : Nat → BitVec 8} {o : Nat} : XO v v x o 0 := fun j => by rw [if_neg (by omega)]
theorem XO_put {f v x : Nat → BitVec 8} {o i : Nat} (h : XO f v x o i) : XO (va_up f (o + i) (f (o + i) ^^^ x i)) v x o (i + 1) := by
  intro j
  unfold va_up
  by_cases h1 : j = o + i
  · subst h1
    rw [if_pos rfl, if_pos (by omega), h (o + i), if_neg (by omega), show o + i - o = i by omega]
  · rw [if_neg h1, h j]
    by_cases h2 : o ≤ j ∧ j < o + i
    · rw [if_pos h2, if_pos (by omega)]
    · rw [if_neg h2, if_neg (by omega)]
theorem XO_end {f d x b : Nat → BitVec 8} {o : Nat} (h : XO f (va_cpy d b 0 o 16) x o 16) (j : Nat) : f j = va_cpy (fun i => d i ^^^ x i) b 0 o 16 j := by
  rw [h j]
  unfold va_cpy
  by_cases h2 : o ≤ j ∧ j < o + 16
  · rw [if_pos h2, if_pos h2, if_pos h2, show 0 + (j - o) = j - o by omega]
  · rw [if_neg h2, if_neg h2, if_neg h2]
theorem cpy_16 (f g : Nat → BitVec 8) (o : Nat) (j : Nat) (hj : j < 16) : va_cpy f g o 0 16 j = f (o + j) := by
  unfold va_cpy
  rw [if_pos (by omega)]
  congr 1
theorem cpy_back (d b g : Nat → BitVec 8) (o : Nat) (j : Nat) (hj : j < 16) : va_cpy (va_cpy d b 0 o 16) g o 0 16 j = d j := by
  rw [cpy_16 _ _ _ _ hj]
  unfold va_cpy
  rw [if_pos (by omega)]
  congr 1
  omega
/-- the engine's two directions on 16 bytes from o on -/
def blkE (KC : Nat) (kw : Nat → Nat → Int32) (b : Nat → BitVec 8) (o : Nat) : Nat → BitVec 8 := wby (eO KC kw (xw0 b o kw 0))
def blkD (KC : Nat) (kw : Nat → Nat → Int32) (b : Nat → BitVec 8) (o : Nat) : Nat → BitVec 8 := wby (dO KC kw (xw0 b o kw (KC + 6)))
theorem lo8_x2 (x y : BitVec 8) : lo8 (sB (lo8 (sB x ^^^ sB y))) = x ^^^ y := by rw [lo8_sB, lo8_xor, lo8_sB, lo8_sB]
