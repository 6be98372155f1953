/-! BITS: bytes as BitVec 8, words of four of them, the tables of AES as functions. Began with rows of kit/laws/BITS (bt, b_ext .. b_sshr). -/
def bt (x : Int32) (i : Nat) : Bool := x.toBitVec.getLsbD i
theorem b_ext {x y : Int32} (h : ∀ i, i < 32 → bt x i = bt y i) : x = y := Int32.toBitVec_inj.mp (BitVec.eq_of_getLsbD_eq (fun i hi => h i hi))
theorem b_or (x y : Int32) (i : Nat) : bt (x ||| y) i = (bt x i || bt y i) := by unfold bt; rw [Int32.toBitVec_or, BitVec.getLsbD_or]
theorem b_and (x y : Int32) (i : Nat) : bt (x &&& y) i = (bt x i && bt y i) := by unfold bt; rw [Int32.toBitVec_and, BitVec.getLsbD_and]
theorem b_xor (x y : Int32) (i : Nat) : bt (x ^^^ y) i = (bt x i ^^ bt y i) := by unfold bt; rw [Int32.toBitVec_xor, BitVec.getLsbD_xor]
theorem b_big {x : Int32} {i : Nat} (h : 32 ≤ i) : bt x i = false := BitVec.getLsbD_of_ge _ _ h
theorem b_255 (i : Nat) : bt (nI 255) i = decide (i < 8) := by
  rcases Nat.lt_or_ge i 32 with h | h
  · exact (by decide +kernel : ∀ i, i < 32 → bt (nI 255) i = decide (i < 8)) i h
  · rw [b_big h, decide_eq_false (by omega)]
theorem s_l : ∀ n, n < 32 → ((nI n &&& 31).toBitVec.smod 32).toNat = n := by decide +kernel
theorem s_u : ∀ n, n < 32 → (((nI n).toUInt32 &&& Int32.toUInt32 31).toBitVec % 32).toNat = n := by decide +kernel
theorem b_shl (n : Nat) (hn : n < 32) (x : Int32) {i : Nat} (hi : i < 32) : bt (x <<< (nI n &&& 31)) i = (decide (n ≤ i) && bt x (i - n)) := by
  unfold bt
  rw [Int32.toBitVec_shiftLeft]
  show (x.toBitVec <<< ((nI n &&& 31).toBitVec.smod 32).toNat).getLsbD i = _
  rw [s_l n hn, BitVec.getLsbD_shiftLeft]
  rcases Nat.lt_or_ge i n with h | h
  · simp [h, Nat.not_le.mpr h]
  · simp [hi, h, Nat.not_lt.mpr h]
theorem b_ushr (n : Nat) (hn : n < 32) (x : Int32) (i : Nat) : bt ((x.toUInt32 >>> ((nI n).toUInt32 &&& Int32.toUInt32 31)).toInt32) i = bt x (n + i) := by
  show (x.toUInt32 >>> ((nI n).toUInt32 &&& Int32.toUInt32 31)).toBitVec.getLsbD i = x.toUInt32.toBitVec.getLsbD (n + i)
  rw [UInt32.toBitVec_shiftRight]
  show (x.toUInt32.toBitVec >>> (((nI n).toUInt32 &&& Int32.toUInt32 31).toBitVec % 32).toNat).getLsbD i = _
  rw [s_u n hn, BitVec.getLsbD_ushiftRight]
theorem b_sshr (n : Nat) (hn : n < 32) (x : Int32) {i : Nat} (hi : i < 32) : bt (x >>> (nI n &&& 31)) i = if n + i < 32 then bt x (n + i) else bt x 31 := by
  unfold bt
  rw [Int32.toBitVec_shiftRight]
  show (x.toBitVec.sshiftRight ((nI n &&& 31).toBitVec.smod 32).toNat).getLsbD i = _
  rw [s_l n hn, BitVec.getLsbD_sshiftRight, BitVec.msb_eq_getLsbD_last]
  simp [hi]
theorem i32 {P : Nat → Prop} (h0 : P 0) (h1 : P 1) (h2 : P 2) (h3 : P 3) (h4 : P 4) (h5 : P 5) (h6 : P 6) (h7 : P 7) (h8 : P 8) (h9 : P 9) (h10 : P 10) (h11 : P 11) (h12 : P 12) (h13 : P 13) (h14 : P 14) (h15 : P 15) (h16 : P 16) (h17 : P 17) (h18 : P 18) (h19 : P 19) (h20 : P 20) (h21 : P 21) (h22 : P 22) (h23 : P 23) (h24 : P 24) (h25 : P 25) (h26 : P 26) (h27 : P 27) (h28 : P 28) (h29 : P 29) (h30 : P 30) (h31 : P 31) : ∀ i, i < 32 → P i
  | 0, _ => h0 | 1, _ => h1 | 2, _ => h2 | 3, _ => h3 | 4, _ => h4 | 5, _ => h5 | 6, _ => h6 | 7, _ => h7 | 8, _ => h8 | 9, _ => h9 | 10, _ => h10 | 11, _ => h11 | 12, _ => h12 | 13, _ => h13 | 14, _ => h14 | 15, _ => h15 | 16, _ => h16 | 17, _ => h17 | 18, _ => h18 | 19, _ => h19 | 20, _ => h20 | 21, _ => h21 | 22, _ => h22 | 23, _ => h23 | 24, _ => h24 | 25, _ => h25 | 26, _ => h26 | 27, _ => h27 | 28, _ => h28 | 29, _ => h29 | 30, _ => h30 | 31, _ => h31
  | n + 32, h => absurd h (by omega)
theorem i8 {P : Nat → Prop} (h0 : P 0) (h1 : P 1) (h2 : P 2) (h3 : P 3) (h4 : P 4) (h5 : P 5) (h6 : P 6) (h7 : P 7) : ∀ i, i < 8 → P i
  | 0, _ => h0 | 1, _ => h1 | 2, _ => h2 | 3, _ => h3 | 4, _ => h4 | 5, _ => h5 | 6, _ => h6 | 7, _ => h7
  | n + 8, h => absurd h (by omega)
/-- a byte as the JVM keeps it in an array of bytes; as an int of 0..255; an int's lowest byte; four bytes as an int, the lowest first; the j-th byte of an int -/
def sB (x : BitVec 8) : Int32 := Int32.ofBitVec (x.signExtend 32)
def uB (x : BitVec 8) : Int32 := Int32.ofBitVec (x.setWidth 32)
def lo8 (x : Int32) : BitVec 8 := x.toBitVec.setWidth 8
def wI (a b c d : BitVec 8) : Int32 := Int32.ofBitVec (d ++ c ++ b ++ a)
def byI (w : Int32) (j : Nat) : BitVec 8 := w.toBitVec.extractLsb' (8 * j) 8
theorem b_ext8 {x y : BitVec 8} (h : ∀ i, i < 8 → x.getLsbD i = y.getLsbD i) : x = y := BitVec.eq_of_getLsbD_eq (fun i hi => h i hi)
theorem bt_wI (a b c d : BitVec 8) (i : Nat) : bt (wI a b c d) i = if i < 8 then a.getLsbD i else if i < 16 then b.getLsbD (i - 8) else if i < 24 then c.getLsbD (i - 16) else d.getLsbD (i - 24) := by
  show (d ++ c ++ b ++ a).getLsbD i = _
  rw [BitVec.getLsbD_append, BitVec.getLsbD_append, BitVec.getLsbD_append]
  by_cases h1 : i < 8
  · simp [h1]
  · by_cases h2 : i < 16
    · have h3 : i - 8 < 8 := by omega
      simp [h1, h2, h3]
    · by_cases h4 : i < 24
      · have h3 : ¬ i - 8 < 8 := by omega
        have h5 : i - 8 - 8 < 8 := by omega
        have e : i - 8 - 8 = i - 16 := by omega
        rw [if_neg h1, if_neg h3, if_pos h5, if_neg h1, if_neg h2, if_pos h4, e]
      · have h3 : ¬ i - 8 < 8 := by omega
        have h5 : ¬ i - 8 - 8 < 8 := by omega
        have e : i - 8 - 8 - 8 = i - 24 := by omega
        rw [if_neg h1, if_neg h3, if_neg h5, if_neg h1, if_neg h2, if_neg h4, e]
theorem bt_sB (x : BitVec 8) {i : Nat} (hi : i < 32) : bt (sB x) i = if i < 8 then x.getLsbD i else x.getLsbD 7 := by
  show (x.signExtend 32).getLsbD i = _
  rw [BitVec.getLsbD_signExtend, BitVec.msb_eq_getLsbD_last]
  simp [hi]
theorem bt_uB (x : BitVec 8) {i : Nat} (hi : i < 32) : bt (uB x) i = x.getLsbD i := by
  show (x.setWidth 32).getLsbD i = _
  rw [BitVec.getLsbD_setWidth]
  simp [hi]
theorem g_lo8 (x : Int32) {i : Nat} (hi : i < 8) : (lo8 x).getLsbD i = bt x i := by
  show (x.toBitVec.setWidth 8).getLsbD i = _
  rw [BitVec.getLsbD_setWidth]
  simp [hi, bt]
theorem g_byI (w : Int32) (j : Nat) {i : Nat} (hi : i < 8) : (byI w j).getLsbD i = bt w (8 * j + i) := by
  show (w.toBitVec.extractLsb' (8 * j) 8).getLsbD i = _
  rw [BitVec.getLsbD_extractLsb']
  simp [hi, bt]
theorem g_x (x : BitVec 8) {i : Nat} (hi : 8 ≤ i) : x.getLsbD i = false := BitVec.getLsbD_of_ge _ _ hi
theorem byI_0 (w : Int32) : byI w 0 = lo8 w := b_ext8 fun i hi => by rw [g_byI _ _ hi, g_lo8 _ hi]; simp
theorem lo8_sB (x : BitVec 8) : lo8 (sB x) = x := b_ext8 fun i hi => by rw [g_lo8 _ hi, bt_sB _ (by omega), if_pos hi]
theorem lo8_uB (x : BitVec 8) : lo8 (uB x) = x := b_ext8 fun i hi => by rw [g_lo8 _ hi, bt_uB _ (by omega)]
theorem lo8_xor (x y : Int32) : lo8 (x ^^^ y) = lo8 x ^^^ lo8 y := b_ext8 fun i hi => by rw [g_lo8 _ hi, b_xor, BitVec.getLsbD_xor, g_lo8 _ hi, g_lo8 _ hi]
theorem lo8_or (x y : Int32) : lo8 (x ||| y) = lo8 x ||| lo8 y := b_ext8 fun i hi => by rw [g_lo8 _ hi, b_or, BitVec.getLsbD_or, g_lo8 _ hi, g_lo8 _ hi]
theorem lo8_and (x y : Int32) : lo8 (x &&& y) = lo8 x &&& lo8 y := b_ext8 fun i hi => by rw [g_lo8 _ hi, b_and, BitVec.getLsbD_and, g_lo8 _ hi, g_lo8 _ hi]
theorem lo8_255 (x : Int32) : lo8 (x &&& nI 255) = lo8 x := b_ext8 fun i hi => by rw [g_lo8 _ hi, b_and, b_255, g_lo8 _ hi]; simp [hi]
theorem sB_and (x : BitVec 8) : sB x &&& nI 255 = uB x := b_ext fun i hi => by
  rw [b_and, b_255, bt_sB _ hi, bt_uB _ hi]
  by_cases h : i < 8
  · simp [h]
  · simp [h, g_x x (by omega : 8 ≤ i)]
theorem and255 (x : Int32) : x &&& nI 255 = uB (lo8 x) := b_ext fun i hi => by
  rw [b_and, b_255, bt_uB _ hi]
  by_cases h : i < 8
  · rw [decide_eq_true h, Bool.and_true, g_lo8 x h]
  · simp [h, g_x (lo8 x) (by omega : 8 ≤ i)]
theorem uB_xor (x y : BitVec 8) : uB x ^^^ uB y = uB (x ^^^ y) := b_ext fun i hi => by rw [b_xor, bt_uB _ hi, bt_uB _ hi, bt_uB _ hi, BitVec.getLsbD_xor]
theorem uB_or (x y : BitVec 8) : uB x ||| uB y = uB (x ||| y) := b_ext fun i hi => by rw [b_or, bt_uB _ hi, bt_uB _ hi, bt_uB _ hi, BitVec.getLsbD_or]
theorem uB_and (x y : BitVec 8) : uB x &&& uB y = uB (x &&& y) := b_ext fun i hi => by rw [b_and, bt_uB _ hi, bt_uB _ hi, bt_uB _ hi, BitVec.getLsbD_and]
theorem uB_nI (x : BitVec 8) : uB x = nI x.toNat := Int32.toBitVec_inj.mp (by
  show x.setWidth 32 = BitVec.ofNat 32 x.toNat
  exact (BitVec.ofNat_toNat 32 x).symm)
theorem uB_inj {x y : BitVec 8} (h : uB x = uB y) : x = y := by
  have := congrArg lo8 h
  rwa [lo8_uB, lo8_uB] at this
theorem sB_inj {x y : BitVec 8} (h : sB x = sB y) : x = y := by
  have := congrArg lo8 h
  rwa [lo8_sB, lo8_sB] at this
theorem nar_sB (x : Int32) : vp_nar .byte x = sB (lo8 x) := by
  rw [vp_nar_byte]
  refine b_ext fun i hi => ?_
  rw [bt_sB _ hi]
  show ((x.toBitVec.signExtend 8).signExtend 32).getLsbD i = _
  have h8 : x.toBitVec.signExtend 8 = x.toBitVec.setWidth 8 := BitVec.signExtend_eq_setWidth_of_le _ (by decide)
  rw [h8]
  exact bt_sB (x.toBitVec.setWidth 8) hi
theorem i2b_sB (x : Int32) : x.toInt8.toInt32 = sB (lo8 x) := nar_sB x
theorem fit_sB (x : BitVec 8) : fits .byte (.int (sB x)) = true := by
  have h := pk_fb (sB x)
  rwa [i2b_sB, lo8_sB] at h
theorem sB_0 : sB 0 = 0 := by decide +kernel
theorem uB_0 : uB 0 = 0 := by decide +kernel
theorem wI_xor (a b c d e f g h : BitVec 8) : wI a b c d ^^^ wI e f g h = wI (a ^^^ e) (b ^^^ f) (c ^^^ g) (d ^^^ h) := b_ext fun i _ => by
  rw [b_xor, bt_wI, bt_wI, bt_wI]
  simp only [BitVec.getLsbD_xor]
  split
  · rfl
  · split
    · rfl
    · split <;> rfl
theorem byI_wI0 (a b c d : BitVec 8) : byI (wI a b c d) 0 = a := b_ext8 fun i hi => by
  rw [g_byI _ _ hi, bt_wI, if_pos (by omega)]
  congr 1
  omega
theorem byI_wI1 (a b c d : BitVec 8) : byI (wI a b c d) 1 = b := b_ext8 fun i hi => by
  rw [g_byI _ _ hi, bt_wI, if_neg (by omega), if_pos (by omega)]
  congr 1
  omega
theorem byI_wI2 (a b c d : BitVec 8) : byI (wI a b c d) 2 = c := b_ext8 fun i hi => by
  rw [g_byI _ _ hi, bt_wI, if_neg (by omega), if_neg (by omega), if_pos (by omega)]
  congr 1
  omega
theorem byI_wI3 (a b c d : BitVec 8) : byI (wI a b c d) 3 = d := b_ext8 fun i hi => by
  rw [g_byI _ _ hi, bt_wI, if_neg (by omega), if_neg (by omega), if_neg (by omega)]
  congr 1
  omega
theorem byI_xor (x y : Int32) (j : Nat) : byI (x ^^^ y) j = byI x j ^^^ byI y j := b_ext8 fun i hi => by rw [g_byI _ _ hi, b_xor, BitVec.getLsbD_xor, g_byI _ _ hi, g_byI _ _ hi]
theorem wI_eta (x : Int32) : wI (byI x 0) (byI x 1) (byI x 2) (byI x 3) = x := b_ext fun i hi => by
  rw [bt_wI]
  by_cases h1 : i < 8
  · rw [if_pos h1, g_byI _ _ h1]; simp
  · by_cases h2 : i < 16
    · rw [if_neg h1, if_pos h2, g_byI _ _ (by omega)]; congr 1; omega
    · by_cases h4 : i < 24
      · rw [if_neg h1, if_neg h2, if_pos h4, g_byI _ _ (by omega)]; congr 1; omega
      · rw [if_neg h1, if_neg h2, if_neg h4, g_byI _ _ (by omega)]; congr 1; omega
/-- the j-th byte, by an arithmetic shift and a mask -/
theorem sshr_and (x : Int32) (j : Nat) (hj : j < 4) : (x >>> (nI (8 * j) &&& 31)) &&& nI 255 = uB (byI x j) := b_ext fun i hi => by
  rw [b_and, b_255, b_sshr _ (by omega) _ hi, bt_uB _ hi]
  by_cases h : i < 8
  · rw [g_byI _ _ h, if_pos (by omega)]; simp [h]
  · simp [h, g_x (byI x j) (by omega : 8 ≤ i)]
theorem lo8_sshr (x : Int32) (j : Nat) (hj : j < 4) : lo8 (x >>> (nI (8 * j) &&& 31)) = byI x j := b_ext8 fun i hi => by
  rw [g_lo8 _ hi, b_sshr _ (by omega) _ (by omega), g_byI _ _ hi, if_pos (by omega)]
theorem lo8_ushr (x : Int32) (j : Nat) (hj : j < 4) : lo8 ((x.toUInt32 >>> ((nI (8 * j)).toUInt32 &&& Int32.toUInt32 31)).toInt32) = byI x j := b_ext8 fun i hi => by
  rw [g_lo8 _ hi, b_ushr _ (by omega), g_byI _ _ hi]
/-- AESEngine.shift: a turn to the right -/
def shf (r n : Int32) : Int32 := (r.toUInt32 >>> (n.toUInt32 &&& Int32.toUInt32 31)).toInt32 ||| (r <<< ((-n) &&& 31))
theorem shf_bt (r : Int32) (n : Nat) (h0 : 0 < n) (hn : n < 32) {i : Nat} (hi : i < 32) : bt (shf r (nI n)) i = (bt r (n + i) || (decide (32 - n ≤ i) && bt r (i - (32 - n)))) := by
  have e : (-(nI n) &&& 31) = (nI (32 - n) &&& 31) := (by decide +kernel : ∀ n, n < 32 → (-(nI n) &&& 31) = (nI (32 - n) &&& 31)) n hn
  unfold shf
  rw [b_or, b_ushr n hn, e, b_shl (32 - n) (by omega) r hi]
theorem shf_8 (a b c d : BitVec 8) : shf (wI a b c d) (nI 8) = wI b c d a := b_ext fun i hi => by
  rw [shf_bt _ 8 (by omega) (by omega) hi]
  revert i
  refine i32 ?_ ?_ ?_ ?_ ?_ ?_ ?_ ?_ ?_ ?_ ?_ ?_ ?_ ?_ ?_ ?_ ?_ ?_ ?_ ?_ ?_ ?_ ?_ ?_ ?_ ?_ ?_ ?_ ?_ ?_ ?_ ?_ <;> simp [bt_wI]
theorem shf_16 (a b c d : BitVec 8) : shf (wI a b c d) (nI 16) = wI c d a b := b_ext fun i hi => by
  rw [shf_bt _ 16 (by omega) (by omega) hi]
  revert i
  refine i32 ?_ ?_ ?_ ?_ ?_ ?_ ?_ ?_ ?_ ?_ ?_ ?_ ?_ ?_ ?_ ?_ ?_ ?_ ?_ ?_ ?_ ?_ ?_ ?_ ?_ ?_ ?_ ?_ ?_ ?_ ?_ ?_ <;> simp [bt_wI]
theorem shf_24 (a b c d : BitVec 8) : shf (wI a b c d) (nI 24) = wI d a b c := b_ext fun i hi => by
  rw [shf_bt _ 24 (by omega) (by omega) hi]
  revert i
  refine i32 ?_ ?_ ?_ ?_ ?_ ?_ ?_ ?_ ?_ ?_ ?_ ?_ ?_ ?_ ?_ ?_ ?_ ?_ ?_ ?_ ?_ ?_ ?_ ?_ ?_ ?_ ?_ ?_ ?_ ?_ ?_ ?_ <;> simp [bt_wI]
/-- four bytes put together by shifts: with or (the last one's sign bits stand outside), with xor -/
theorem mk_or (a b c d : BitVec 8) : (((uB a ||| (uB b <<< (nI 8 &&& 31))) ||| (uB c <<< (nI 16 &&& 31))) ||| (sB d <<< (nI 24 &&& 31))) = wI a b c d := b_ext fun i hi => by
  rw [b_or, b_or, b_or, b_shl 8 (by omega) _ hi, b_shl 16 (by omega) _ hi, b_shl 24 (by omega) _ hi]
  revert i
  refine i32 ?_ ?_ ?_ ?_ ?_ ?_ ?_ ?_ ?_ ?_ ?_ ?_ ?_ ?_ ?_ ?_ ?_ ?_ ?_ ?_ ?_ ?_ ?_ ?_ ?_ ?_ ?_ ?_ ?_ ?_ ?_ ?_ <;> simp [bt_wI, bt_uB, bt_sB, g_x]
theorem mk_xor (a b c d : BitVec 8) : (((uB a ^^^ (uB b <<< (nI 8 &&& 31))) ^^^ (uB c <<< (nI 16 &&& 31))) ^^^ (sB d <<< (nI 24 &&& 31))) = wI a b c d := b_ext fun i hi => by
  rw [b_xor, b_xor, b_xor, b_shl 8 (by omega) _ hi, b_shl 16 (by omega) _ hi, b_shl 24 (by omega) _ hi]
  revert i
  refine i32 ?_ ?_ ?_ ?_ ?_ ?_ ?_ ?_ ?_ ?_ ?_ ?_ ?_ ?_ ?_ ?_ ?_ ?_ ?_ ?_ ?_ ?_ ?_ ?_ ?_ ?_ ?_ ?_ ?_ ?_ ?_ ?_ <;> simp [bt_wI, bt_uB, bt_sB, g_x]
/-- twice in the field of AES -/
def xt (x : BitVec 8) : BitVec 8 := if x.toNat < 128 then x <<< 1 else (x <<< 1) ^^^ 27#8
/-- the tables: S, its inverse, rcon; T0 and Tinv0 by what they are -/
def sbL : List Nat := [99, 124, 119, 123, 242, 107, 111, 197, 48, 1, 103, 43, 254, 215, 171, 118, 202, 130, 201, 125, 250, 89, 71, 240, 173, 212, 162, 175, 156, 164, 114, 192, 183, 253, 147, 38, 54, 63, 247, 204, 52, 165, 229, 241, 113, 216, 49, 21, 4, 199, 35, 195, 24, 150, 5, 154, 7, 18, 128, 226, 235, 39, 178, 117, 9, 131, 44, 26, 27, 110, 90, 160, 82, 59, 214, 179, 41, 227, 47, 132, 83, 209, 0, 237, 32, 252, 177, 91, 106, 203, 190, 57, 74, 76, 88, 207, 208, 239, 170, 251, 67, 77, 51, 133, 69, 249, 2, 127, 80, 60, 159, 168, 81, 163, 64, 143, 146, 157, 56, 245, 188, 182, 218, 33, 16, 255, 243, 210, 205, 12, 19, 236, 95, 151, 68, 23, 196, 167, 126, 61, 100, 93, 25, 115, 96, 129, 79, 220, 34, 42, 144, 136, 70, 238, 184, 20, 222, 94, 11, 219, 224, 50, 58, 10, 73, 6, 36, 92, 194, 211, 172, 98, 145, 149, 228, 121, 231, 200, 55, 109, 141, 213, 78, 169, 108, 86, 244, 234, 101, 122, 174, 8, 186, 120, 37, 46, 28, 166, 180, 198, 232, 221, 116, 31, 75, 189, 139, 138, 112, 62, 181, 102, 72, 3, 246, 14, 97, 53, 87, 185, 134, 193, 29, 158, 225, 248, 152, 17, 105, 217, 142, 148, 155, 30, 135, 233, 206, 85, 40, 223, 140, 161, 137, 13, 191, 230, 66, 104, 65, 153, 45, 15, 176, 84, 187, 22]
def siL : List Nat := [82, 9, 106, 213, 48, 54, 165, 56, 191, 64, 163, 158, 129, 243, 215, 251, 124, 227, 57, 130, 155, 47, 255, 135, 52, 142, 67, 68, 196, 222, 233, 203, 84, 123, 148, 50, 166, 194, 35, 61, 238, 76, 149, 11, 66, 250, 195, 78, 8, 46, 161, 102, 40, 217, 36, 178, 118, 91, 162, 73, 109, 139, 209, 37, 114, 248, 246, 100, 134, 104, 152, 22, 212, 164, 92, 204, 93, 101, 182, 146, 108, 112, 72, 80, 253, 237, 185, 218, 94, 21, 70, 87, 167, 141, 157, 132, 144, 216, 171, 0, 140, 188, 211, 10, 247, 228, 88, 5, 184, 179, 69, 6, 208, 44, 30, 143, 202, 63, 15, 2, 193, 175, 189, 3, 1, 19, 138, 107, 58, 145, 17, 65, 79, 103, 220, 234, 151, 242, 207, 206, 240, 180, 230, 115, 150, 172, 116, 34, 231, 173, 53, 133, 226, 249, 55, 232, 28, 117, 223, 110, 71, 241, 26, 113, 29, 41, 197, 137, 111, 183, 98, 14, 170, 24, 190, 27, 252, 86, 62, 75, 198, 210, 121, 32, 154, 219, 192, 254, 120, 205, 90, 244, 31, 221, 168, 51, 136, 7, 199, 49, 177, 18, 16, 89, 39, 128, 236, 95, 96, 81, 127, 169, 25, 181, 74, 13, 45, 229, 122, 159, 147, 201, 156, 239, 160, 224, 59, 77, 174, 42, 245, 176, 200, 235, 187, 60, 131, 83, 153, 97, 23, 43, 4, 126, 186, 119, 214, 38, 225, 105, 20, 99, 85, 33, 12, 125]
def rcL : List Nat := [1, 2, 4, 8, 16, 32, 64, 128, 27, 54, 108, 216, 171, 77, 154, 47, 94, 188, 99, 198, 151, 53, 106, 212, 179, 125, 250, 239, 197, 145]
def sbx (x : BitVec 8) : BitVec 8 := BitVec.ofNat 8 (sbL.getD x.toNat 0)
def six (x : BitVec 8) : BitVec 8 := BitVec.ofNat 8 (siL.getD x.toNat 0)
def m9 (x : BitVec 8) : BitVec 8 := xt (xt (xt x)) ^^^ x
def m11 (x : BitVec 8) : BitVec 8 := (xt (xt (xt x)) ^^^ xt x) ^^^ x
def m13 (x : BitVec 8) : BitVec 8 := (xt (xt (xt x)) ^^^ xt (xt x)) ^^^ x
def m14 (x : BitVec 8) : BitVec 8 := (xt (xt (xt x)) ^^^ xt (xt x)) ^^^ xt x
def T0w (s : BitVec 8) : Int32 := wI (xt s) s s (xt s ^^^ s)
def Tiw (s : BitVec 8) : Int32 := wI (m14 s) (m9 s) (m13 s) (m11 s)
def tS (j : Nat) : Int32 := sB (sbx (BitVec.ofNat 8 j))
def tSi (j : Nat) : Int32 := sB (six (BitVec.ofNat 8 j))
def tR (j : Nat) : Int32 := nI (rcL.getD j 0)
def tT0 (j : Nat) : Int32 := T0w (sbx (BitVec.ofNat 8 j))
def tTi (j : Nat) : Int32 := Tiw (six (BitVec.ofNat 8 j))
theorem six_sbx : ∀ x : BitVec 8, six (sbx x) = x := by decide +kernel
