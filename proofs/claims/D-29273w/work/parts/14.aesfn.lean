/-! AES BLOCKS, in words, as encryptBlock and decryptBlock reckon them -/
def sbF (j : Nat) : BitVec 8 := sbx (BitVec.ofNat 8 j)
def siF (j : Nat) : BitVec 8 := six (BitVec.ofNat 8 j)
theorem sbF_at (x : BitVec 8) : sB (sbF x.toNat) = sB (sbx x) := by unfold sbF; rw [BitVec.ofNat_toNat, BitVec.setWidth_eq]
theorem siF_at (x : BitVec 8) : sB (siF x.toNat) = sB (six x) := by unfold siF; rw [BitVec.ofNat_toNat, BitVec.setWidth_eq]
def inw (b : Nat → BitVec 8) (o c : Nat) : Int32 := wI (b (o + 4 * c)) (b (o + 4 * c + 1)) (b (o + 4 * c + 2)) (b (o + 4 * c + 3))
/-- the state ahead of the rounds: key row r0 -/
def xw0 (b : Nat → BitVec 8) (o : Nat) (kw : Nat → Nat → Int32) (r0 c : Nat) : Int32 := inw b o c ^^^ kw r0 c
def eR (a b c d k : Int32) : Int32 := (((T0w (sbx (byI a 0)) ^^^ shf (T0w (sbx (byI b 1))) (nI 24)) ^^^ shf (T0w (sbx (byI c 2))) (nI 16)) ^^^ shf (T0w (sbx (byI d 3))) (nI 8)) ^^^ k
def eL (a b c d k : Int32) : Int32 := wI (sbx (byI a 0)) (sbx (byI b 1)) (sbx (byI c 2)) (sbx (byI d 3)) ^^^ k
/-- after r rounds, the column c -/
def eS (kw : Nat → Nat → Int32) (i0 : Nat → Int32) : Nat → Nat → Int32
  | 0, c => i0 c
  | r + 1, c => eR (eS kw i0 r c) (eS kw i0 r ((c + 1) % 4)) (eS kw i0 r ((c + 2) % 4)) (eS kw i0 r ((c + 3) % 4)) (kw (r + 1) c)
def eO (KC : Nat) (kw : Nat → Nat → Int32) (i0 : Nat → Int32) (c : Nat) : Int32 := eL (eS kw i0 (KC + 5) c) (eS kw i0 (KC + 5) ((c + 1) % 4)) (eS kw i0 (KC + 5) ((c + 2) % 4)) (eS kw i0 (KC + 5) ((c + 3) % 4)) (kw (KC + 6) c)
section
variable {kw : Nat → Nat → Int32} {i0 : Nat → Int32} {q r x : Nat}
theorem eS_f0 (hq : q = r + 1) (hx : x = r + 1) : eR (eS kw i0 r 0) (eS kw i0 r 1) (eS kw i0 r 2) (eS kw i0 r 3) (kw x 0) = eS kw i0 q 0 := by subst hq; subst hx; rfl
theorem eS_f1 (hq : q = r + 1) (hx : x = r + 1) : eR (eS kw i0 r 1) (eS kw i0 r 2) (eS kw i0 r 3) (eS kw i0 r 0) (kw x 1) = eS kw i0 q 1 := by subst hq; subst hx; rfl
theorem eS_f2 (hq : q = r + 1) (hx : x = r + 1) : eR (eS kw i0 r 2) (eS kw i0 r 3) (eS kw i0 r 0) (eS kw i0 r 1) (kw x 2) = eS kw i0 q 2 := by subst hq; subst hx; rfl
theorem eS_f3 (hq : q = r + 1) (hx : x = r + 1) : eR (eS kw i0 r 3) (eS kw i0 r 0) (eS kw i0 r 1) (eS kw i0 r 2) (kw x 3) = eS kw i0 q 3 := by subst hq; subst hx; rfl
end
def dR (a b c d k : Int32) : Int32 := (((Tiw (six (byI a 0)) ^^^ shf (Tiw (six (byI b 1))) (nI 24)) ^^^ shf (Tiw (six (byI c 2))) (nI 16)) ^^^ shf (Tiw (six (byI d 3))) (nI 8)) ^^^ k
def dL (a b c d k : Int32) : Int32 := wI (six (byI a 0)) (six (byI b 1)) (six (byI c 2)) (six (byI d 3)) ^^^ k
def dS (KC : Nat) (kw : Nat → Nat → Int32) (i0 : Nat → Int32) : Nat → Nat → Int32
  | 0, c => i0 c
  | r + 1, c => dR (dS KC kw i0 r c) (dS KC kw i0 r ((c + 3) % 4)) (dS KC kw i0 r ((c + 2) % 4)) (dS KC kw i0 r ((c + 1) % 4)) (kw (KC + 5 - r) c)
def dO (KC : Nat) (kw : Nat → Nat → Int32) (i0 : Nat → Int32) (c : Nat) : Int32 := dL (dS KC kw i0 (KC + 5) c) (dS KC kw i0 (KC + 5) ((c + 3) % 4)) (dS KC kw i0 (KC + 5) ((c + 2) % 4)) (dS KC kw i0 (KC + 5) ((c + 1) % 4)) (kw 0 c)
section
variable {KC : Nat} {kw : Nat → Nat → Int32} {i0 : Nat → Int32} {q r x : Nat}
theorem dS_f0 (hq : q = r + 1) (hx : x = KC + 5 - r) : dR (dS KC kw i0 r 0) (dS KC kw i0 r 3) (dS KC kw i0 r 2) (dS KC kw i0 r 1) (kw x 0) = dS KC kw i0 q 0 := by subst hq; subst hx; rfl
theorem dS_f1 (hq : q = r + 1) (hx : x = KC + 5 - r) : dR (dS KC kw i0 r 1) (dS KC kw i0 r 0) (dS KC kw i0 r 3) (dS KC kw i0 r 2) (kw x 1) = dS KC kw i0 q 1 := by subst hq; subst hx; rfl
theorem dS_f2 (hq : q = r + 1) (hx : x = KC + 5 - r) : dR (dS KC kw i0 r 2) (dS KC kw i0 r 1) (dS KC kw i0 r 0) (dS KC kw i0 r 3) (kw x 2) = dS KC kw i0 q 2 := by subst hq; subst hx; rfl
theorem dS_f3 (hq : q = r + 1) (hx : x = KC + 5 - r) : dR (dS KC kw i0 r 3) (dS KC kw i0 r 2) (dS KC kw i0 r 1) (dS KC kw i0 r 0) (kw x 3) = dS KC kw i0 q 3 := by subst hq; subst hx; rfl
end
/-- words as bytes -/
def wby (W : Nat → Int32) (i : Nat) : BitVec 8 := byI (W (i / 4)) (i % 4)
theorem put16 (b : Nat → BitVec 8) (o : Nat) (W : Nat → Int32) (j : Nat) : put4 (put4 (put4 (put4 b o (W 0)) (o + 4) (W 1)) (o + 8) (W 2)) (o + 12) (W 3) j = va_cpy (wby W) b 0 o 16 j := by
  unfold put4 va_up va_cpy wby
  by_cases h : o ≤ j ∧ j < o + 16
  · rw [if_pos h]
    obtain ⟨i, rfl⟩ : ∃ i, j = o + i := ⟨j - o, by omega⟩
    have hi : i < 16 := by omega
    have e : 0 + (o + i - o) = i := by omega
    rw [e]
    match i, hi with
    | 0, _ => simp [Nat.add_assoc]
    | 1, _ => simp
    | 2, _ => simp
    | 3, _ => simp
    | 4, _ => simp
    | 5, _ => simp
    | 6, _ => simp
    | 7, _ => simp
    | 8, _ => simp
    | 9, _ => simp
    | 10, _ => simp
    | 11, _ => simp
    | 12, _ => simp
    | 13, _ => simp
    | 14, _ => simp
    | 15, _ => simp
    | n + 16, h => omega
  · rw [if_neg h]
    have ne : ∀ d, d < 16 → j ≠ o + d := fun d hd hj => h (by omega)
    have n0 := ne 0 (by omega)
    have n1 := ne 1 (by omega)
    have n2 := ne 2 (by omega)
    have n3 := ne 3 (by omega)
    simp only [Nat.add_assoc, Nat.add_zero] at n0 ⊢
    rw [if_neg (by omega), if_neg (by omega), if_neg (by omega), if_neg (by omega), if_neg (by omega), if_neg (by omega), if_neg (by omega), if_neg (by omega), if_neg (by omega), if_neg (by omega), if_neg (by omega), if_neg (by omega), if_neg (by omega), if_neg (by omega), if_neg (by omega), if_neg (by omega)]
