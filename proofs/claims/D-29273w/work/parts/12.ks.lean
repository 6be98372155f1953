/-! KEY SCHEDULE, in words; rows on apartness -/
theorem xn_L {ws : va_W} {sz a : Nat} (h1 : a < sz) (h2 : ∀ q ∈ ws, q.1 ≠ a) : ¬ va_A ws sz a := xn_A h1 fun k q hq => h2 q (List.mem_of_getElem? hq)
theorem Wd.ne {G : GG} {A : Nat → Prop} {ws : va_W} {s : State} {H0 H : Heap} {locs : List Loc} (w : Wd G A ws s H0 H locs) (i j : Nat) {a b : Nat} {e f : va_E} (h1 : ws[i]? = some (a, e)) (h2 : ws[j]? = some (b, f)) (hij : i ≠ j) : a ≠ b := fun h => hij (w.2.1.1 i j _ _ h1 h2 h)
theorem Wd.neA {G : GG} {A : Nat → Prop} {ws : va_W} {s : State} {H0 H : Heap} {locs : List Loc} (w : Wd G A ws s H0 H locs) (i : Nat) {a b : Nat} {e : va_E} (h1 : ws[i]? = some (a, e)) (h2 : ¬ A b) : a ≠ b := fun h => h2 (h ▸ w.2.1.2 i _ h1)
theorem ix_and (x : Int32) : x &&& nI 255 = nI (byI x 0).toNat := by rw [and255, byI_0, uB_nI]
theorem ix_sh (x : Int32) (j : Nat) (hj : j < 4) : (x >>> (nI (8 * j) &&& 31)) &&& nI 255 = nI (byI x j).toNat := by rw [sshr_and x j hj, uB_nI]
theorem tS_at (x : BitVec 8) : tS x.toNat = sB (sbx x) := by unfold tS; rw [BitVec.ofNat_toNat, BitVec.setWidth_eq]
theorem tSi_at (x : BitVec 8) : tSi x.toNat = sB (six x) := by unfold tSi; rw [BitVec.ofNat_toNat, BitVec.setWidth_eq]
theorem tT0_at (x : BitVec 8) : tT0 x.toNat = T0w (sbx x) := by unfold tT0; rw [BitVec.ofNat_toNat, BitVec.setWidth_eq]
theorem tTi_at (x : BitVec 8) : tTi x.toNat = Tiw (six x) := by unfold tTi; rw [BitVec.ofNat_toNat, BitVec.setWidth_eq]
/-- S on each byte of a word -/
def sbw (x : Int32) : Int32 := wI (sbx (byI x 0)) (sbx (byI x 1)) (sbx (byI x 2)) (sbx (byI x 3))
def ksg (KC i : Nat) (t : Int32) : Int32 := if i % KC = 0 then sbw (shf t (nI 8)) ^^^ tR (i / KC - 1) else if KC = 8 ∧ i % 8 = 4 then sbw t else t
/-- the key schedule's words; k0: the key's own -/
def ks (KC : Nat) (k0 : Nat → Int32) (i : Nat) : Int32 := if h : i < KC ∨ KC = 0 then k0 i else ks KC k0 (i - KC) ^^^ ksg KC i (ks KC k0 (i - 1))
  termination_by i
  decreasing_by all_goals omega
theorem ks_lo {KC i : Nat} {k0 : Nat → Int32} (h : i < KC) : ks KC k0 i = k0 i := by rw [ks, dif_pos (Or.inl h)]
theorem ks_hi {KC i : Nat} {k0 : Nat → Int32} (h0 : 0 < KC) : ks KC k0 (i + KC) = ks KC k0 i ^^^ ksg KC (i + KC) (ks KC k0 (i + KC - 1)) := by
  rw [ks, dif_neg (by omega), show i + KC - KC = i by omega]
theorem ksN {KC i p q : Nat} {k0 : Nat → Int32} (h0 : 0 < KC) (hp : p + 1 = i + KC) (hq : q = i + KC) (h1 : i % KC ≠ 0) (h2 : ¬ (KC = 8 ∧ i % 8 = 4)) : ks KC k0 i ^^^ ks KC k0 p = ks KC k0 q := by
  subst hq
  have e : i + KC - 1 = p := by omega
  have m1 : (i + KC) % KC = i % KC := Nat.add_mod_right i KC
  rw [ks_hi h0, e]
  unfold ksg
  rw [m1, if_neg h1, if_neg]
  rintro ⟨rfl, h⟩
  exact h2 ⟨rfl, by omega⟩
theorem ks0 {KC i p q t : Nat} {k0 : Nat → Int32} (h0 : 0 < KC) (hp : p + 1 = i + KC) (hq : q = i + KC) (hi : i = t * KC) : ks KC k0 i ^^^ (sbw (shf (ks KC k0 p) (nI 8)) ^^^ tR t) = ks KC k0 q := by
  subst hq
  have e : i + KC - 1 = p := by omega
  have m1 : (i + KC) % KC = 0 := by rw [Nat.add_mod_right, hi, Nat.mul_mod_left]
  have d1 : (i + KC) / KC - 1 = t := by rw [Nat.add_div_right _ h0, hi, Nat.mul_div_cancel _ h0]; rfl
  rw [ks_hi h0, e]
  unfold ksg
  rw [if_pos m1, d1]
theorem ks4 {i p q : Nat} {k0 : Nat → Int32} (hp : p = i + 7) (hq : q = i + 8) (h1 : i % 8 = 4) : ks 8 k0 i ^^^ sbw (ks 8 k0 p) = ks 8 k0 q := by
  subst hq
  have e : i + 8 - 1 = p := by omega
  rw [ks_hi (by decide), e]
  unfold ksg
  rw [if_neg (by omega), if_pos ⟨rfl, by omega⟩]
theorem rc_eq : ∀ t, t < 8 → nI (2 ^ t) = tR t := by decide +kernel
theorem rc_shl : ∀ t, t < 8 → nI (2 ^ t) <<< (nI 1 &&& 31) = nI (2 ^ (t + 1)) := by decide +kernel
/-- the key's words -/
def keyw (b : Nat → BitVec 8) (c : Nat) : Int32 := wI (b (4 * c)) (b (4 * c + 1)) (b (4 * c + 2)) (b (4 * c + 3))
/-- the grid holds the first N words -/
def KWok (f : Nat → Int32) (k : Nat → Nat → Int32) (N : Nat) : Prop := ∀ r c, c < 4 → 4 * r + c < N → k r c = f (4 * r + c)
theorem kwok_0 {f : Nat → Int32} {k : Nat → Nat → Int32} : KWok f k 0 := fun _ _ _ h => absurd h (Nat.not_lt_zero _)
theorem kwok_put {f : Nat → Int32} {k : Nat → Nat → Int32} {N r c : Nat} {x : Int32} (h : KWok f k N) (hN : 4 * r + c = N) (hc : c < 4) (hx : x = f N) : KWok f (up2 k r c x) (N + 1) := by
  intro r' c' hc' hlt
  unfold up2 va_up
  by_cases h1 : r' = r
  · subst h1
    by_cases h2 : c' = c
    · subst h2
      simp [hx, hN]
    · simp [h2]
      exact h r' c' hc' (by omega)
  · simp [h1]
    exact h r' c' hc' (by omega)
/-- .. and from the place 4 to the place P turned for decryption -/
def kwD (f : Nat → Int32) (P i : Nat) : Int32 := if 4 ≤ i ∧ i < P then imcW (f i) else f i
def KWdk (f : Nat → Int32) (k : Nat → Nat → Int32) (n P : Nat) : Prop := ∀ r c, c < 4 → r < n → k r c = kwD f P (4 * r + c)
theorem kwdk_0 {f : Nat → Int32} {k : Nat → Nat → Int32} {n N : Nat} (h : KWok f k N) (hN : 4 * n ≤ N) : KWdk f k n 4 := by
  intro r c hc hr
  rw [h r c hc (by omega)]
  unfold kwD
  rw [if_neg (by omega)]
theorem kwdk_put {f : Nat → Int32} {k : Nat → Nat → Int32} {n P r c : Nat} (h : KWdk f k n P) (hP : 4 * r + c = P) (h4 : 4 ≤ P) (hc : c < 4) (hr : r < n) : KWdk f (up2 k r c (imcW (k r c))) n (P + 1) := by
  intro r' c' hc' hlt
  have hv := h r c hc hr
  have hv' := h r' c' hc' hlt
  unfold up2 va_up
  unfold kwD at hv hv' ⊢
  by_cases h1 : r' = r
  · subst h1
    by_cases h2 : c' = c
    · subst h2
      rw [if_neg (by omega)] at hv
      simp only [if_true]
      rw [if_pos (by omega), hv]
    · simp only [h2, if_true, if_false]
      rw [hv']
      by_cases h3 : 4 ≤ 4 * r' + c' ∧ 4 * r' + c' < P
      · rw [if_pos h3, if_pos (by omega)]
      · rw [if_neg h3, if_neg (by omega)]
  · simp only [h1, if_false]
    rw [hv']
    by_cases h3 : 4 ≤ 4 * r' + c' ∧ 4 * r' + c' < P
    · rw [if_pos h3, if_pos (by omega)]
    · rw [if_neg h3, if_neg (by omega)]
/-- the grid of round keys, as generateWorkingKey leaves it: z 1 to encrypt, 0 to decrypt -/
def kwF (KC : Nat) (k0 : Nat → Int32) (z r c : Nat) : Int32 := if z = 0 then kwD (ks KC k0) (4 * (KC + 6)) (4 * r + c) else ks KC k0 (4 * r + c)
