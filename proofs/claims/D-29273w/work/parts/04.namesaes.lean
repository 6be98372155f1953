/-! AESEngine -/
set_option maxRecDepth 100000
def RX10 : String := "AESEngine"
def TX10 : u_T := fun k => match k with
  | 0 => ("AESEngine", "ROUNDS", "I", false)
  | 1 => ("AESEngine", "WorkingKey", "[[I", false)
  | 2 => ("AESEngine", "forEncryption", "Z", false)
  | _ => ("AESEngine", "s", "[B", false)
def tyX10 : Nat → FieldType := fun k => match k with
  | 0 => .int
  | 1 => .array (.array .int)
  | 2 => .boolean
  | _ => .array .byte
abbrev wsX100 : List Cond := u_ws RX10 TX10 4
theorem nmX10 : ∀ a, a < 4 → ∀ b, b < 4 → a ≠ b → (TX10 a).2.1 ≠ (TX10 b).2.1 := by decide +kernel
theorem tyX10_ok : ∀ k, k < 4 → parseFieldDescriptor (TX10 k).2.2.1 = some (tyX10 k) := by decide +kernel
abbrev cX10_init : ByteArray := prog_1_method_7_code
def yX10_init : MethodName := ⟨RX10, "<init>", "()V"⟩
def dkwX10_init_0 : List UInt8 := [42, 183, 0, 57, 42, 1, 181, 0, 62, 177]
abbrev dktX10_init_0 : List UInt8 := dkwX10_init_0 ++ []
theorem dksX10_init_0 : cX10_init.data.toList.drop 0 = dktX10_init_0 := by decide +kernel
theorem dX10_init_0 : decode cX10_init 0 = .ok (.aload_n 0, 1) := dk_42 (dk_at dksX10_init_0 0 rfl rfl)
theorem dX10_init_1 : decode cX10_init 1 = .ok (.invokespecial 57, 3) := dk_183 0 57 (dk_at dksX10_init_0 1 rfl rfl)
theorem dX10_init_4 : decode cX10_init 4 = .ok (.aload_n 0, 1) := dk_42 (dk_at dksX10_init_0 4 rfl rfl)
theorem dX10_init_5 : decode cX10_init 5 = .ok (.aconst_null, 1) := dk_1 (dk_at dksX10_init_0 5 rfl rfl)
theorem dX10_init_6 : decode cX10_init 6 = .ok (.putfield 62, 3) := dk_181 0 62 (dk_at dksX10_init_0 6 rfl rfl)
theorem dX10_init_9 : decode cX10_init 9 = .ok (.return_, 1) := dk_177 (dk_at dksX10_init_0 9 rfl rfl)
abbrev cX10_getBlockSize : ByteArray := prog_1_method_9_code
def yX10_getBlockSize : MethodName := ⟨RX10, "getBlockSize", "()I"⟩
theorem dX10_getBlockSize_0 : decode cX10_getBlockSize 0 = .ok (.bipush 16, 2) := by decide +kernel
theorem dX10_getBlockSize_2 : decode cX10_getBlockSize 2 = .ok (.ireturn, 1) := by decide +kernel
abbrev cX10_reset : ByteArray := prog_1_method_11_code
def yX10_reset : MethodName := ⟨RX10, "reset", "()V"⟩
theorem dX10_reset_0 : decode cX10_reset 0 = .ok (.return_, 1) := by decide +kernel
abbrev cX10_init_2 : ByteArray := prog_1_method_8_code
def yX10_init_2 : MethodName := ⟨RX10, "init", "(ZLCipherParameters;)V"⟩
def dkwX10_init_2_2 : List UInt8 := [178, 0, 88, 184, 0, 79, 181, 0, 85, 177, 187, 0, 22, 89, 18, 91, 183, 0, 26, 191]
abbrev dktX10_init_2_2 : List UInt8 := dkwX10_init_2_2 ++ []
def dkwX10_init_2_1 : List UInt8 := [27, 181, 0, 75, 27, 153, 0, 16, 42, 178, 0, 18, 184, 0, 79, 181, 0, 85, 167, 0, 13, 42]
abbrev dktX10_init_2_1 : List UInt8 := dkwX10_init_2_1 ++ dktX10_init_2_2
def dkwX10_init_2_0 : List UInt8 := [44, 193, 0, 65, 153, 0, 52, 42, 42, 44, 192, 0, 65, 182, 0, 67, 27, 182, 0, 71, 181, 0, 62, 42]
abbrev dktX10_init_2_0 : List UInt8 := dkwX10_init_2_0 ++ dktX10_init_2_1
theorem dksX10_init_2_0 : cX10_init_2.data.toList.drop 0 = dktX10_init_2_0 := by decide +kernel
theorem dksX10_init_2_1 : cX10_init_2.data.toList.drop 24 = dktX10_init_2_1 := dk_seg dksX10_init_2_0 24 rfl rfl
theorem dksX10_init_2_2 : cX10_init_2.data.toList.drop 46 = dktX10_init_2_2 := dk_seg dksX10_init_2_1 22 rfl rfl
theorem dX10_init_2_0 : decode cX10_init_2 0 = .ok (.aload_n 2, 1) := dk_44 (dk_at dksX10_init_2_0 0 rfl rfl)
theorem dX10_init_2_1 : decode cX10_init_2 1 = .ok (.instanceof 65, 3) := dk_193 0 65 (dk_at dksX10_init_2_0 1 rfl rfl)
theorem dX10_init_2_4 : decode cX10_init_2 4 = .ok (.ifCond .eq 52, 3) := dk_153 0 52 (dk_at dksX10_init_2_0 4 rfl rfl)
theorem dX10_init_2_7 : decode cX10_init_2 7 = .ok (.aload_n 0, 1) := dk_42 (dk_at dksX10_init_2_0 7 rfl rfl)
theorem dX10_init_2_8 : decode cX10_init_2 8 = .ok (.aload_n 0, 1) := dk_42 (dk_at dksX10_init_2_0 8 rfl rfl)
theorem dX10_init_2_9 : decode cX10_init_2 9 = .ok (.aload_n 2, 1) := dk_44 (dk_at dksX10_init_2_0 9 rfl rfl)
theorem dX10_init_2_10 : decode cX10_init_2 10 = .ok (.checkcast 65, 3) := dk_192 0 65 (dk_at dksX10_init_2_0 10 rfl rfl)
theorem dX10_init_2_13 : decode cX10_init_2 13 = .ok (.invokevirtual 67, 3) := dk_182 0 67 (dk_at dksX10_init_2_0 13 rfl rfl)
theorem dX10_init_2_16 : decode cX10_init_2 16 = .ok (.iload_n 1, 1) := dk_27 (dk_at dksX10_init_2_0 16 rfl rfl)
theorem dX10_init_2_17 : decode cX10_init_2 17 = .ok (.invokevirtual 71, 3) := dk_182 0 71 (dk_at dksX10_init_2_0 17 rfl rfl)
theorem dX10_init_2_20 : decode cX10_init_2 20 = .ok (.putfield 62, 3) := dk_181 0 62 (dk_at dksX10_init_2_0 20 rfl rfl)
theorem dX10_init_2_23 : decode cX10_init_2 23 = .ok (.aload_n 0, 1) := dk_42 (dk_at dksX10_init_2_0 23 rfl rfl)
theorem dX10_init_2_24 : decode cX10_init_2 24 = .ok (.iload_n 1, 1) := dk_27 (dk_at dksX10_init_2_1 0 rfl rfl)
theorem dX10_init_2_25 : decode cX10_init_2 25 = .ok (.putfield 75, 3) := dk_181 0 75 (dk_at dksX10_init_2_1 1 rfl rfl)
theorem dX10_init_2_28 : decode cX10_init_2 28 = .ok (.iload_n 1, 1) := dk_27 (dk_at dksX10_init_2_1 4 rfl rfl)
theorem dX10_init_2_29 : decode cX10_init_2 29 = .ok (.ifCond .eq 16, 3) := dk_153 0 16 (dk_at dksX10_init_2_1 5 rfl rfl)
theorem dX10_init_2_32 : decode cX10_init_2 32 = .ok (.aload_n 0, 1) := dk_42 (dk_at dksX10_init_2_1 8 rfl rfl)
theorem dX10_init_2_33 : decode cX10_init_2 33 = .ok (.getstatic 18, 3) := dk_178 0 18 (dk_at dksX10_init_2_1 9 rfl rfl)
theorem dX10_init_2_36 : decode cX10_init_2 36 = .ok (.invokestatic 79, 3) := dk_184 0 79 (dk_at dksX10_init_2_1 12 rfl rfl)
theorem dX10_init_2_39 : decode cX10_init_2 39 = .ok (.putfield 85, 3) := dk_181 0 85 (dk_at dksX10_init_2_1 15 rfl rfl)
theorem dX10_init_2_42 : decode cX10_init_2 42 = .ok (.goto 13, 3) := dk_167 0 13 (dk_at dksX10_init_2_1 18 rfl rfl)
theorem dX10_init_2_45 : decode cX10_init_2 45 = .ok (.aload_n 0, 1) := dk_42 (dk_at dksX10_init_2_1 21 rfl rfl)
theorem dX10_init_2_46 : decode cX10_init_2 46 = .ok (.getstatic 88, 3) := dk_178 0 88 (dk_at dksX10_init_2_2 0 rfl rfl)
theorem dX10_init_2_49 : decode cX10_init_2 49 = .ok (.invokestatic 79, 3) := dk_184 0 79 (dk_at dksX10_init_2_2 3 rfl rfl)
theorem dX10_init_2_52 : decode cX10_init_2 52 = .ok (.putfield 85, 3) := dk_181 0 85 (dk_at dksX10_init_2_2 6 rfl rfl)
theorem dX10_init_2_55 : decode cX10_init_2 55 = .ok (.return_, 1) := dk_177 (dk_at dksX10_init_2_2 9 rfl rfl)
theorem dX10_init_2_56 : decode cX10_init_2 56 = .ok (.new 22, 3) := dk_187 0 22 (dk_at dksX10_init_2_2 10 rfl rfl)
theorem dX10_init_2_59 : decode cX10_init_2 59 = .ok (.dup, 1) := dk_89 (dk_at dksX10_init_2_2 13 rfl rfl)
theorem dX10_init_2_60 : decode cX10_init_2 60 = .ok (.ldc 91, 2) := dk_18 91 (dk_at dksX10_init_2_2 14 rfl rfl)
theorem dX10_init_2_62 : decode cX10_init_2 62 = .ok (.invokespecial 26, 3) := dk_183 0 26 (dk_at dksX10_init_2_2 16 rfl rfl)
theorem dX10_init_2_65 : decode cX10_init_2 65 = .ok (.athrow, 1) := dk_191 (dk_at dksX10_init_2_2 19 rfl rfl)
abbrev cX10_generateWorkingKey : ByteArray := prog_1_method_6_code
def yX10_generateWorkingKey : MethodName := ⟨RX10, "generateWorkingKey", "([BZ)[[I"⟩
def dkwX10_generateWorkingKey_42 : List UInt8 := [167, 255, 210, 25, 5, 176]
abbrev dktX10_generateWorkingKey_42 : List UInt8 := dkwX10_generateWorkingKey_42 ++ []
def dkwX10_generateWorkingKey_41 : List UInt8 := [21, 7, 25, 5, 21, 6, 50, 21, 7, 46, 184, 0, 54, 79, 132, 7, 1, 167, 255, 228, 132, 6, 1]
abbrev dktX10_generateWorkingKey_41 : List UInt8 := dkwX10_generateWorkingKey_41 ++ dktX10_generateWorkingKey_42
def dkwX10_generateWorkingKey_40 : List UInt8 := [21, 6, 42, 180, 0, 30, 162, 0, 43, 3, 54, 7, 21, 7, 7, 162, 0, 28, 25, 5, 21, 6, 50]
abbrev dktX10_generateWorkingKey_40 : List UInt8 := dkwX10_generateWorkingKey_40 ++ dktX10_generateWorkingKey_41
def dkwX10_generateWorkingKey_39 : List UInt8 := [132, 14, 1, 167, 255, 84, 187, 0, 49, 89, 18, 51, 183, 0, 53, 191, 28, 154, 0, 55, 4, 54, 6]
abbrev dktX10_generateWorkingKey_39 : List UInt8 := dkwX10_generateWorkingKey_39 ++ dktX10_generateWorkingKey_40
def dkwX10_generateWorkingKey_38 : List UInt8 := [21, 14, 50, 5, 21, 12, 79, 21, 13, 21, 12, 130, 54, 13, 25, 5, 21, 14, 50, 6, 21, 13, 79]
abbrev dktX10_generateWorkingKey_38 : List UInt8 := dkwX10_generateWorkingKey_38 ++ dktX10_generateWorkingKey_39
def dkwX10_generateWorkingKey_37 : List UInt8 := [21, 10, 130, 54, 11, 25, 5, 21, 14, 50, 4, 21, 11, 79, 21, 12, 21, 11, 130, 54, 12, 25, 5]
abbrev dktX10_generateWorkingKey_37 : List UInt8 := dkwX10_generateWorkingKey_37 ++ dktX10_generateWorkingKey_38
def dkwX10_generateWorkingKey_36 : List UInt8 := [184, 0, 42, 54, 16, 21, 10, 21, 16, 130, 54, 10, 25, 5, 21, 14, 50, 3, 21, 10, 79, 21, 11]
abbrev dktX10_generateWorkingKey_36 : List UInt8 := dkwX10_generateWorkingKey_36 ++ dktX10_generateWorkingKey_37
def dkwX10_generateWorkingKey_35 : List UInt8 := [25, 5, 21, 14, 50, 6, 21, 9, 79, 132, 14, 1, 21, 14, 16, 15, 161, 0, 6, 167, 0, 90, 21, 9]
abbrev dktX10_generateWorkingKey_35 : List UInt8 := dkwX10_generateWorkingKey_35 ++ dktX10_generateWorkingKey_36
def dkwX10_generateWorkingKey_34 : List UInt8 := [79, 21, 8, 21, 7, 130, 54, 8, 25, 5, 21, 14, 50, 5, 21, 8, 79, 21, 9, 21, 8, 130, 54, 9]
abbrev dktX10_generateWorkingKey_34 : List UInt8 := dkwX10_generateWorkingKey_34 ++ dktX10_generateWorkingKey_35
def dkwX10_generateWorkingKey_33 : List UInt8 := [25, 5, 21, 14, 50, 3, 21, 6, 79, 21, 7, 21, 6, 130, 54, 7, 25, 5, 21, 14, 50, 4, 21, 7]
abbrev dktX10_generateWorkingKey_33 : List UInt8 := dkwX10_generateWorkingKey_33 ++ dktX10_generateWorkingKey_34
def dkwX10_generateWorkingKey_32 : List UInt8 := [184, 0, 7, 184, 0, 42, 21, 15, 130, 54, 16, 21, 15, 4, 120, 54, 15, 21, 6, 21, 16, 130, 54, 6]
abbrev dktX10_generateWorkingKey_32 : List UInt8 := dkwX10_generateWorkingKey_32 ++ dktX10_generateWorkingKey_33
def dkwX10_generateWorkingKey_31 : List UInt8 := [184, 0, 36, 54, 13, 25, 5, 4, 50, 6, 21, 13, 79, 5, 54, 14, 4, 54, 15, 21, 13, 16, 8]
abbrev dktX10_generateWorkingKey_31 : List UInt8 := dkwX10_generateWorkingKey_31 ++ dktX10_generateWorkingKey_32
def dkwX10_generateWorkingKey_30 : List UInt8 := [50, 4, 21, 11, 79, 43, 16, 24, 184, 0, 36, 54, 12, 25, 5, 4, 50, 5, 21, 12, 79, 43, 16, 28]
abbrev dktX10_generateWorkingKey_30 : List UInt8 := dkwX10_generateWorkingKey_30 ++ dktX10_generateWorkingKey_31
def dkwX10_generateWorkingKey_29 : List UInt8 := [184, 0, 36, 54, 10, 25, 5, 4, 50, 3, 21, 10, 79, 43, 16, 20, 184, 0, 36, 54, 11, 25, 5, 4]
abbrev dktX10_generateWorkingKey_29 : List UInt8 := dkwX10_generateWorkingKey_29 ++ dktX10_generateWorkingKey_30
def dkwX10_generateWorkingKey_28 : List UInt8 := [21, 8, 79, 43, 16, 12, 184, 0, 36, 54, 9, 25, 5, 3, 50, 6, 21, 9, 79, 43, 16, 16]
abbrev dktX10_generateWorkingKey_28 : List UInt8 := dkwX10_generateWorkingKey_28 ++ dktX10_generateWorkingKey_29
def dkwX10_generateWorkingKey_27 : List UInt8 := [54, 7, 25, 5, 3, 50, 4, 21, 7, 79, 43, 16, 8, 184, 0, 36, 54, 8, 25, 5, 3, 50, 5]
abbrev dktX10_generateWorkingKey_27 : List UInt8 := dkwX10_generateWorkingKey_27 ++ dktX10_generateWorkingKey_28
def dkwX10_generateWorkingKey_26 : List UInt8 := [167, 254, 249, 43, 3, 184, 0, 36, 54, 6, 25, 5, 3, 50, 3, 21, 6, 79, 43, 7, 184, 0, 36]
abbrev dktX10_generateWorkingKey_26 : List UInt8 := dkwX10_generateWorkingKey_26 ++ dktX10_generateWorkingKey_27
def dkwX10_generateWorkingKey_25 : List UInt8 := [16, 13, 161, 0, 6, 167, 1, 81, 21, 10, 21, 9, 130, 54, 10, 21, 11, 21, 10, 130, 54, 11]
abbrev dktX10_generateWorkingKey_25 : List UInt8 := dkwX10_generateWorkingKey_25 ++ dktX10_generateWorkingKey_26
def dkwX10_generateWorkingKey_24 : List UInt8 := [21, 9, 21, 8, 130, 54, 9, 25, 5, 21, 12, 5, 96, 50, 6, 21, 9, 79, 132, 12, 3, 21, 12]
abbrev dktX10_generateWorkingKey_24 : List UInt8 := dkwX10_generateWorkingKey_24 ++ dktX10_generateWorkingKey_25
def dkwX10_generateWorkingKey_23 : List UInt8 := [50, 4, 21, 7, 79, 21, 8, 21, 7, 130, 54, 8, 25, 5, 21, 12, 5, 96, 50, 5, 21, 8, 79]
abbrev dktX10_generateWorkingKey_23 : List UInt8 := dkwX10_generateWorkingKey_23 ++ dktX10_generateWorkingKey_24
def dkwX10_generateWorkingKey_22 : List UInt8 := [25, 5, 21, 12, 5, 96, 50, 3, 21, 6, 79, 21, 7, 21, 6, 130, 54, 7, 25, 5, 21, 12, 5, 96]
abbrev dktX10_generateWorkingKey_22 : List UInt8 := dkwX10_generateWorkingKey_22 ++ dktX10_generateWorkingKey_23
def dkwX10_generateWorkingKey_21 : List UInt8 := [184, 0, 7, 184, 0, 42, 21, 13, 130, 54, 14, 21, 13, 4, 120, 54, 13, 21, 6, 21, 14, 130, 54, 6]
abbrev dktX10_generateWorkingKey_21 : List UInt8 := dkwX10_generateWorkingKey_21 ++ dktX10_generateWorkingKey_22
def dkwX10_generateWorkingKey_20 : List UInt8 := [79, 21, 11, 21, 10, 130, 54, 11, 25, 5, 21, 12, 4, 96, 50, 6, 21, 11, 79, 21, 11, 16, 8]
abbrev dktX10_generateWorkingKey_20 : List UInt8 := dkwX10_generateWorkingKey_20 ++ dktX10_generateWorkingKey_21
def dkwX10_generateWorkingKey_19 : List UInt8 := [4, 96, 50, 4, 21, 9, 79, 21, 10, 21, 9, 130, 54, 10, 25, 5, 21, 12, 4, 96, 50, 5, 21, 10]
abbrev dktX10_generateWorkingKey_19 : List UInt8 := dkwX10_generateWorkingKey_19 ++ dktX10_generateWorkingKey_20
def dkwX10_generateWorkingKey_18 : List UInt8 := [54, 8, 25, 5, 21, 12, 4, 96, 50, 3, 21, 8, 79, 21, 9, 21, 8, 130, 54, 9, 25, 5, 21, 12]
abbrev dktX10_generateWorkingKey_18 : List UInt8 := dkwX10_generateWorkingKey_18 ++ dktX10_generateWorkingKey_19
def dkwX10_generateWorkingKey_17 : List UInt8 := [21, 6, 79, 21, 7, 21, 6, 130, 54, 7, 25, 5, 21, 12, 50, 6, 21, 7, 79, 21, 8, 21, 7, 130]
abbrev dktX10_generateWorkingKey_17 : List UInt8 := dkwX10_generateWorkingKey_17 ++ dktX10_generateWorkingKey_18
def dkwX10_generateWorkingKey_16 : List UInt8 := [21, 13, 130, 54, 14, 21, 13, 4, 120, 54, 13, 21, 6, 21, 14, 130, 54, 6, 25, 5, 21, 12, 50, 5]
abbrev dktX10_generateWorkingKey_16 : List UInt8 := dkwX10_generateWorkingKey_16 ++ dktX10_generateWorkingKey_17
def dkwX10_generateWorkingKey_15 : List UInt8 := [3, 21, 10, 79, 25, 5, 21, 12, 50, 4, 21, 11, 79, 21, 11, 16, 8, 184, 0, 7, 184, 0, 42]
abbrev dktX10_generateWorkingKey_15 : List UInt8 := dkwX10_generateWorkingKey_15 ++ dktX10_generateWorkingKey_16
def dkwX10_generateWorkingKey_14 : List UInt8 := [184, 0, 36, 54, 10, 43, 16, 20, 184, 0, 36, 54, 11, 4, 54, 12, 4, 54, 13, 25, 5, 21, 12, 50]
abbrev dktX10_generateWorkingKey_14 : List UInt8 := dkwX10_generateWorkingKey_14 ++ dktX10_generateWorkingKey_15
def dkwX10_generateWorkingKey_13 : List UInt8 := [21, 8, 79, 43, 16, 12, 184, 0, 36, 54, 9, 25, 5, 3, 50, 6, 21, 9, 79, 43, 16, 16]
abbrev dktX10_generateWorkingKey_13 : List UInt8 := dkwX10_generateWorkingKey_13 ++ dktX10_generateWorkingKey_14
def dkwX10_generateWorkingKey_12 : List UInt8 := [54, 7, 25, 5, 3, 50, 4, 21, 7, 79, 43, 16, 8, 184, 0, 36, 54, 8, 25, 5, 3, 50, 5]
abbrev dktX10_generateWorkingKey_12 : List UInt8 := dkwX10_generateWorkingKey_12 ++ dktX10_generateWorkingKey_13
def dkwX10_generateWorkingKey_11 : List UInt8 := [167, 2, 158, 43, 3, 184, 0, 36, 54, 6, 25, 5, 3, 50, 3, 21, 6, 79, 43, 7, 184, 0, 36]
abbrev dktX10_generateWorkingKey_11 : List UInt8 := dkwX10_generateWorkingKey_11 ++ dktX10_generateWorkingKey_12
def dkwX10_generateWorkingKey_10 : List UInt8 := [79, 21, 9, 21, 8, 130, 54, 9, 25, 5, 21, 10, 50, 6, 21, 9, 79, 132, 10, 1, 167, 255, 161]
abbrev dktX10_generateWorkingKey_10 : List UInt8 := dkwX10_generateWorkingKey_10 ++ dktX10_generateWorkingKey_11
def dkwX10_generateWorkingKey_9 : List UInt8 := [25, 5, 21, 10, 50, 4, 21, 7, 79, 21, 8, 21, 7, 130, 54, 8, 25, 5, 21, 10, 50, 5, 21, 8]
abbrev dktX10_generateWorkingKey_9 : List UInt8 := dkwX10_generateWorkingKey_9 ++ dktX10_generateWorkingKey_10
def dkwX10_generateWorkingKey_8 : List UInt8 := [21, 6, 21, 11, 130, 54, 6, 25, 5, 21, 10, 50, 3, 21, 6, 79, 21, 7, 21, 6, 130, 54, 7]
abbrev dktX10_generateWorkingKey_8 : List UInt8 := dkwX10_generateWorkingKey_8 ++ dktX10_generateWorkingKey_9
def dkwX10_generateWorkingKey_7 : List UInt8 := [163, 0, 94, 21, 9, 16, 8, 184, 0, 7, 184, 0, 42, 178, 0, 45, 21, 10, 4, 100, 46, 130, 54, 11]
abbrev dktX10_generateWorkingKey_7 : List UInt8 := dkwX10_generateWorkingKey_7 ++ dktX10_generateWorkingKey_8
def dkwX10_generateWorkingKey_6 : List UInt8 := [16, 12, 184, 0, 36, 54, 9, 25, 5, 3, 50, 6, 21, 9, 79, 4, 54, 10, 21, 10, 16, 10]
abbrev dktX10_generateWorkingKey_6 : List UInt8 := dkwX10_generateWorkingKey_6 ++ dktX10_generateWorkingKey_7
def dkwX10_generateWorkingKey_5 : List UInt8 := [3, 50, 4, 21, 7, 79, 43, 16, 8, 184, 0, 36, 54, 8, 25, 5, 3, 50, 5, 21, 8, 79, 43]
abbrev dktX10_generateWorkingKey_5 : List UInt8 := dkwX10_generateWorkingKey_5 ++ dktX10_generateWorkingKey_6
def dkwX10_generateWorkingKey_4 : List UInt8 := [43, 3, 184, 0, 36, 54, 6, 25, 5, 3, 50, 3, 21, 6, 79, 43, 7, 184, 0, 36, 54, 7, 25, 5]
abbrev dktX10_generateWorkingKey_4 : List UInt8 := dkwX10_generateWorkingKey_4 ++ dktX10_generateWorkingKey_5
def dkwX10_generateWorkingKey_3 : List UInt8 := [170, 0, 0, 0, 0, 3, 90, 0, 0, 0, 4, 0, 0, 0, 8, 0, 0, 0, 35, 0, 0, 3, 90, 0, 0, 0, 201, 0, 0, 3, 90, 0, 0, 2, 39]
abbrev dktX10_generateWorkingKey_3 : List UInt8 := dkwX10_generateWorkingKey_3 ++ dktX10_generateWorkingKey_4
def dkwX10_generateWorkingKey_2 : List UInt8 := [42, 180, 0, 30, 4, 96, 7, 197, 0, 34, 2, 58, 5, 21, 4]
abbrev dktX10_generateWorkingKey_2 : List UInt8 := dkwX10_generateWorkingKey_2 ++ dktX10_generateWorkingKey_3
def dkwX10_generateWorkingKey_1 : List UInt8 := [187, 0, 22, 89, 18, 24, 183, 0, 26, 191, 29, 5, 124, 54, 4, 42, 21, 4, 16, 6, 96, 181, 0, 30]
abbrev dktX10_generateWorkingKey_1 : List UInt8 := dkwX10_generateWorkingKey_1 ++ dktX10_generateWorkingKey_2
def dkwX10_generateWorkingKey_0 : List UInt8 := [43, 190, 62, 29, 16, 16, 161, 0, 16, 29, 16, 32, 163, 0, 10, 29, 16, 7, 126, 153, 0, 13]
abbrev dktX10_generateWorkingKey_0 : List UInt8 := dkwX10_generateWorkingKey_0 ++ dktX10_generateWorkingKey_1
theorem dksX10_generateWorkingKey_0 : cX10_generateWorkingKey.data.toList.drop 0 = dktX10_generateWorkingKey_0 := by decide +kernel
theorem dksX10_generateWorkingKey_1 : cX10_generateWorkingKey.data.toList.drop 22 = dktX10_generateWorkingKey_1 := dk_seg dksX10_generateWorkingKey_0 22 rfl rfl
theorem dksX10_generateWorkingKey_2 : cX10_generateWorkingKey.data.toList.drop 46 = dktX10_generateWorkingKey_2 := dk_seg dksX10_generateWorkingKey_1 24 rfl rfl
theorem dksX10_generateWorkingKey_3 : cX10_generateWorkingKey.data.toList.drop 61 = dktX10_generateWorkingKey_3 := dk_seg dksX10_generateWorkingKey_2 15 rfl rfl
theorem dksX10_generateWorkingKey_4 : cX10_generateWorkingKey.data.toList.drop 96 = dktX10_generateWorkingKey_4 := dk_seg dksX10_generateWorkingKey_3 35 rfl rfl
theorem dksX10_generateWorkingKey_5 : cX10_generateWorkingKey.data.toList.drop 120 = dktX10_generateWorkingKey_5 := dk_seg dksX10_generateWorkingKey_4 24 rfl rfl
theorem dksX10_generateWorkingKey_6 : cX10_generateWorkingKey.data.toList.drop 143 = dktX10_generateWorkingKey_6 := dk_seg dksX10_generateWorkingKey_5 23 rfl rfl
theorem dksX10_generateWorkingKey_7 : cX10_generateWorkingKey.data.toList.drop 165 = dktX10_generateWorkingKey_7 := dk_seg dksX10_generateWorkingKey_6 22 rfl rfl
theorem dksX10_generateWorkingKey_8 : cX10_generateWorkingKey.data.toList.drop 189 = dktX10_generateWorkingKey_8 := dk_seg dksX10_generateWorkingKey_7 24 rfl rfl
theorem dksX10_generateWorkingKey_9 : cX10_generateWorkingKey.data.toList.drop 212 = dktX10_generateWorkingKey_9 := dk_seg dksX10_generateWorkingKey_8 23 rfl rfl
theorem dksX10_generateWorkingKey_10 : cX10_generateWorkingKey.data.toList.drop 236 = dktX10_generateWorkingKey_10 := dk_seg dksX10_generateWorkingKey_9 24 rfl rfl
theorem dksX10_generateWorkingKey_11 : cX10_generateWorkingKey.data.toList.drop 259 = dktX10_generateWorkingKey_11 := dk_seg dksX10_generateWorkingKey_10 23 rfl rfl
theorem dksX10_generateWorkingKey_12 : cX10_generateWorkingKey.data.toList.drop 282 = dktX10_generateWorkingKey_12 := dk_seg dksX10_generateWorkingKey_11 23 rfl rfl
theorem dksX10_generateWorkingKey_13 : cX10_generateWorkingKey.data.toList.drop 305 = dktX10_generateWorkingKey_13 := dk_seg dksX10_generateWorkingKey_12 23 rfl rfl
theorem dksX10_generateWorkingKey_14 : cX10_generateWorkingKey.data.toList.drop 327 = dktX10_generateWorkingKey_14 := dk_seg dksX10_generateWorkingKey_13 22 rfl rfl
theorem dksX10_generateWorkingKey_15 : cX10_generateWorkingKey.data.toList.drop 351 = dktX10_generateWorkingKey_15 := dk_seg dksX10_generateWorkingKey_14 24 rfl rfl
theorem dksX10_generateWorkingKey_16 : cX10_generateWorkingKey.data.toList.drop 374 = dktX10_generateWorkingKey_16 := dk_seg dksX10_generateWorkingKey_15 23 rfl rfl
theorem dksX10_generateWorkingKey_17 : cX10_generateWorkingKey.data.toList.drop 398 = dktX10_generateWorkingKey_17 := dk_seg dksX10_generateWorkingKey_16 24 rfl rfl
theorem dksX10_generateWorkingKey_18 : cX10_generateWorkingKey.data.toList.drop 422 = dktX10_generateWorkingKey_18 := dk_seg dksX10_generateWorkingKey_17 24 rfl rfl
theorem dksX10_generateWorkingKey_19 : cX10_generateWorkingKey.data.toList.drop 446 = dktX10_generateWorkingKey_19 := dk_seg dksX10_generateWorkingKey_18 24 rfl rfl
theorem dksX10_generateWorkingKey_20 : cX10_generateWorkingKey.data.toList.drop 470 = dktX10_generateWorkingKey_20 := dk_seg dksX10_generateWorkingKey_19 24 rfl rfl
theorem dksX10_generateWorkingKey_21 : cX10_generateWorkingKey.data.toList.drop 493 = dktX10_generateWorkingKey_21 := dk_seg dksX10_generateWorkingKey_20 23 rfl rfl
theorem dksX10_generateWorkingKey_22 : cX10_generateWorkingKey.data.toList.drop 517 = dktX10_generateWorkingKey_22 := dk_seg dksX10_generateWorkingKey_21 24 rfl rfl
theorem dksX10_generateWorkingKey_23 : cX10_generateWorkingKey.data.toList.drop 541 = dktX10_generateWorkingKey_23 := dk_seg dksX10_generateWorkingKey_22 24 rfl rfl
theorem dksX10_generateWorkingKey_24 : cX10_generateWorkingKey.data.toList.drop 564 = dktX10_generateWorkingKey_24 := dk_seg dksX10_generateWorkingKey_23 23 rfl rfl
theorem dksX10_generateWorkingKey_25 : cX10_generateWorkingKey.data.toList.drop 587 = dktX10_generateWorkingKey_25 := dk_seg dksX10_generateWorkingKey_24 23 rfl rfl
theorem dksX10_generateWorkingKey_26 : cX10_generateWorkingKey.data.toList.drop 609 = dktX10_generateWorkingKey_26 := dk_seg dksX10_generateWorkingKey_25 22 rfl rfl
theorem dksX10_generateWorkingKey_27 : cX10_generateWorkingKey.data.toList.drop 632 = dktX10_generateWorkingKey_27 := dk_seg dksX10_generateWorkingKey_26 23 rfl rfl
theorem dksX10_generateWorkingKey_28 : cX10_generateWorkingKey.data.toList.drop 655 = dktX10_generateWorkingKey_28 := dk_seg dksX10_generateWorkingKey_27 23 rfl rfl
theorem dksX10_generateWorkingKey_29 : cX10_generateWorkingKey.data.toList.drop 677 = dktX10_generateWorkingKey_29 := dk_seg dksX10_generateWorkingKey_28 22 rfl rfl
theorem dksX10_generateWorkingKey_30 : cX10_generateWorkingKey.data.toList.drop 701 = dktX10_generateWorkingKey_30 := dk_seg dksX10_generateWorkingKey_29 24 rfl rfl
theorem dksX10_generateWorkingKey_31 : cX10_generateWorkingKey.data.toList.drop 725 = dktX10_generateWorkingKey_31 := dk_seg dksX10_generateWorkingKey_30 24 rfl rfl
theorem dksX10_generateWorkingKey_32 : cX10_generateWorkingKey.data.toList.drop 748 = dktX10_generateWorkingKey_32 := dk_seg dksX10_generateWorkingKey_31 23 rfl rfl
theorem dksX10_generateWorkingKey_33 : cX10_generateWorkingKey.data.toList.drop 772 = dktX10_generateWorkingKey_33 := dk_seg dksX10_generateWorkingKey_32 24 rfl rfl
theorem dksX10_generateWorkingKey_34 : cX10_generateWorkingKey.data.toList.drop 796 = dktX10_generateWorkingKey_34 := dk_seg dksX10_generateWorkingKey_33 24 rfl rfl
theorem dksX10_generateWorkingKey_35 : cX10_generateWorkingKey.data.toList.drop 820 = dktX10_generateWorkingKey_35 := dk_seg dksX10_generateWorkingKey_34 24 rfl rfl
theorem dksX10_generateWorkingKey_36 : cX10_generateWorkingKey.data.toList.drop 844 = dktX10_generateWorkingKey_36 := dk_seg dksX10_generateWorkingKey_35 24 rfl rfl
theorem dksX10_generateWorkingKey_37 : cX10_generateWorkingKey.data.toList.drop 867 = dktX10_generateWorkingKey_37 := dk_seg dksX10_generateWorkingKey_36 23 rfl rfl
theorem dksX10_generateWorkingKey_38 : cX10_generateWorkingKey.data.toList.drop 890 = dktX10_generateWorkingKey_38 := dk_seg dksX10_generateWorkingKey_37 23 rfl rfl
theorem dksX10_generateWorkingKey_39 : cX10_generateWorkingKey.data.toList.drop 913 = dktX10_generateWorkingKey_39 := dk_seg dksX10_generateWorkingKey_38 23 rfl rfl
theorem dksX10_generateWorkingKey_40 : cX10_generateWorkingKey.data.toList.drop 936 = dktX10_generateWorkingKey_40 := dk_seg dksX10_generateWorkingKey_39 23 rfl rfl
theorem dksX10_generateWorkingKey_41 : cX10_generateWorkingKey.data.toList.drop 959 = dktX10_generateWorkingKey_41 := dk_seg dksX10_generateWorkingKey_40 23 rfl rfl
theorem dksX10_generateWorkingKey_42 : cX10_generateWorkingKey.data.toList.drop 982 = dktX10_generateWorkingKey_42 := dk_seg dksX10_generateWorkingKey_41 23 rfl rfl
theorem dX10_generateWorkingKey_0 : decode cX10_generateWorkingKey 0 = .ok (.aload_n 1, 1) := dk_43 (dk_at dksX10_generateWorkingKey_0 0 rfl rfl)
theorem dX10_generateWorkingKey_1 : decode cX10_generateWorkingKey 1 = .ok (.arraylength, 1) := dk_190 (dk_at dksX10_generateWorkingKey_0 1 rfl rfl)
theorem dX10_generateWorkingKey_2 : decode cX10_generateWorkingKey 2 = .ok (.istore_n 3, 1) := dk_62 (dk_at dksX10_generateWorkingKey_0 2 rfl rfl)
theorem dX10_generateWorkingKey_3 : decode cX10_generateWorkingKey 3 = .ok (.iload_n 3, 1) := dk_29 (dk_at dksX10_generateWorkingKey_0 3 rfl rfl)
theorem dX10_generateWorkingKey_4 : decode cX10_generateWorkingKey 4 = .ok (.bipush 16, 2) := dk_16 16 (dk_at dksX10_generateWorkingKey_0 4 rfl rfl)
theorem dX10_generateWorkingKey_6 : decode cX10_generateWorkingKey 6 = .ok (.if_icmp .lt 16, 3) := dk_161 0 16 (dk_at dksX10_generateWorkingKey_0 6 rfl rfl)
theorem dX10_generateWorkingKey_9 : decode cX10_generateWorkingKey 9 = .ok (.iload_n 3, 1) := dk_29 (dk_at dksX10_generateWorkingKey_0 9 rfl rfl)
theorem dX10_generateWorkingKey_10 : decode cX10_generateWorkingKey 10 = .ok (.bipush 32, 2) := dk_16 32 (dk_at dksX10_generateWorkingKey_0 10 rfl rfl)
theorem dX10_generateWorkingKey_12 : decode cX10_generateWorkingKey 12 = .ok (.if_icmp .gt 10, 3) := dk_163 0 10 (dk_at dksX10_generateWorkingKey_0 12 rfl rfl)
theorem dX10_generateWorkingKey_15 : decode cX10_generateWorkingKey 15 = .ok (.iload_n 3, 1) := dk_29 (dk_at dksX10_generateWorkingKey_0 15 rfl rfl)
theorem dX10_generateWorkingKey_16 : decode cX10_generateWorkingKey 16 = .ok (.bipush 7, 2) := dk_16 7 (dk_at dksX10_generateWorkingKey_0 16 rfl rfl)
theorem dX10_generateWorkingKey_18 : decode cX10_generateWorkingKey 18 = .ok (.iand, 1) := dk_126 (dk_at dksX10_generateWorkingKey_0 18 rfl rfl)
theorem dX10_generateWorkingKey_19 : decode cX10_generateWorkingKey 19 = .ok (.ifCond .eq 13, 3) := dk_153 0 13 (dk_at dksX10_generateWorkingKey_0 19 rfl rfl)
theorem dX10_generateWorkingKey_22 : decode cX10_generateWorkingKey 22 = .ok (.new 22, 3) := dk_187 0 22 (dk_at dksX10_generateWorkingKey_1 0 rfl rfl)
theorem dX10_generateWorkingKey_25 : decode cX10_generateWorkingKey 25 = .ok (.dup, 1) := dk_89 (dk_at dksX10_generateWorkingKey_1 3 rfl rfl)
theorem dX10_generateWorkingKey_26 : decode cX10_generateWorkingKey 26 = .ok (.ldc 24, 2) := dk_18 24 (dk_at dksX10_generateWorkingKey_1 4 rfl rfl)
theorem dX10_generateWorkingKey_28 : decode cX10_generateWorkingKey 28 = .ok (.invokespecial 26, 3) := dk_183 0 26 (dk_at dksX10_generateWorkingKey_1 6 rfl rfl)
theorem dX10_generateWorkingKey_31 : decode cX10_generateWorkingKey 31 = .ok (.athrow, 1) := dk_191 (dk_at dksX10_generateWorkingKey_1 9 rfl rfl)
theorem dX10_generateWorkingKey_32 : decode cX10_generateWorkingKey 32 = .ok (.iload_n 3, 1) := dk_29 (dk_at dksX10_generateWorkingKey_1 10 rfl rfl)
theorem dX10_generateWorkingKey_33 : decode cX10_generateWorkingKey 33 = .ok (.iconst 2, 1) := dk_5 (dk_at dksX10_generateWorkingKey_1 11 rfl rfl)
theorem dX10_generateWorkingKey_34 : decode cX10_generateWorkingKey 34 = .ok (.iushr, 1) := dk_124 (dk_at dksX10_generateWorkingKey_1 12 rfl rfl)
theorem dX10_generateWorkingKey_35 : decode cX10_generateWorkingKey 35 = .ok (.istore 4, 2) := dk_54 4 (dk_at dksX10_generateWorkingKey_1 13 rfl rfl)
theorem dX10_generateWorkingKey_37 : decode cX10_generateWorkingKey 37 = .ok (.aload_n 0, 1) := dk_42 (dk_at dksX10_generateWorkingKey_1 15 rfl rfl)
theorem dX10_generateWorkingKey_38 : decode cX10_generateWorkingKey 38 = .ok (.iload 4, 2) := dk_21 4 (dk_at dksX10_generateWorkingKey_1 16 rfl rfl)
theorem dX10_generateWorkingKey_40 : decode cX10_generateWorkingKey 40 = .ok (.bipush 6, 2) := dk_16 6 (dk_at dksX10_generateWorkingKey_1 18 rfl rfl)
theorem dX10_generateWorkingKey_42 : decode cX10_generateWorkingKey 42 = .ok (.iadd, 1) := dk_96 (dk_at dksX10_generateWorkingKey_1 20 rfl rfl)
theorem dX10_generateWorkingKey_43 : decode cX10_generateWorkingKey 43 = .ok (.putfield 30, 3) := dk_181 0 30 (dk_at dksX10_generateWorkingKey_1 21 rfl rfl)
theorem dX10_generateWorkingKey_46 : decode cX10_generateWorkingKey 46 = .ok (.aload_n 0, 1) := dk_42 (dk_at dksX10_generateWorkingKey_2 0 rfl rfl)
theorem dX10_generateWorkingKey_47 : decode cX10_generateWorkingKey 47 = .ok (.getfield 30, 3) := dk_180 0 30 (dk_at dksX10_generateWorkingKey_2 1 rfl rfl)
theorem dX10_generateWorkingKey_50 : decode cX10_generateWorkingKey 50 = .ok (.iconst 1, 1) := dk_4 (dk_at dksX10_generateWorkingKey_2 4 rfl rfl)
theorem dX10_generateWorkingKey_51 : decode cX10_generateWorkingKey 51 = .ok (.iadd, 1) := dk_96 (dk_at dksX10_generateWorkingKey_2 5 rfl rfl)
theorem dX10_generateWorkingKey_52 : decode cX10_generateWorkingKey 52 = .ok (.iconst 4, 1) := dk_7 (dk_at dksX10_generateWorkingKey_2 6 rfl rfl)
theorem dX10_generateWorkingKey_53 : decode cX10_generateWorkingKey 53 = .ok (.multianewarray 34 2, 4) := by decide +kernel
theorem dX10_generateWorkingKey_57 : decode cX10_generateWorkingKey 57 = .ok (.astore 5, 2) := dk_58 5 (dk_at dksX10_generateWorkingKey_2 11 rfl rfl)
theorem dX10_generateWorkingKey_59 : decode cX10_generateWorkingKey 59 = .ok (.iload 4, 2) := dk_21 4 (dk_at dksX10_generateWorkingKey_2 13 rfl rfl)
theorem dX10_generateWorkingKey_61 : decode cX10_generateWorkingKey 61 = .ok (.tableswitch 858 4 8 #[35, 858, 201, 858, 551], 35) := by decide +kernel
theorem dX10_generateWorkingKey_96 : decode cX10_generateWorkingKey 96 = .ok (.aload_n 1, 1) := dk_43 (dk_at dksX10_generateWorkingKey_4 0 rfl rfl)
theorem dX10_generateWorkingKey_97 : decode cX10_generateWorkingKey 97 = .ok (.iconst 0, 1) := dk_3 (dk_at dksX10_generateWorkingKey_4 1 rfl rfl)
theorem dX10_generateWorkingKey_98 : decode cX10_generateWorkingKey 98 = .ok (.invokestatic 36, 3) := dk_184 0 36 (dk_at dksX10_generateWorkingKey_4 2 rfl rfl)
theorem dX10_generateWorkingKey_101 : decode cX10_generateWorkingKey 101 = .ok (.istore 6, 2) := dk_54 6 (dk_at dksX10_generateWorkingKey_4 5 rfl rfl)
theorem dX10_generateWorkingKey_103 : decode cX10_generateWorkingKey 103 = .ok (.aload 5, 2) := dk_25 5 (dk_at dksX10_generateWorkingKey_4 7 rfl rfl)
theorem dX10_generateWorkingKey_105 : decode cX10_generateWorkingKey 105 = .ok (.iconst 0, 1) := dk_3 (dk_at dksX10_generateWorkingKey_4 9 rfl rfl)
theorem dX10_generateWorkingKey_106 : decode cX10_generateWorkingKey 106 = .ok (.aaload, 1) := dk_50 (dk_at dksX10_generateWorkingKey_4 10 rfl rfl)
theorem dX10_generateWorkingKey_107 : decode cX10_generateWorkingKey 107 = .ok (.iconst 0, 1) := dk_3 (dk_at dksX10_generateWorkingKey_4 11 rfl rfl)
theorem dX10_generateWorkingKey_108 : decode cX10_generateWorkingKey 108 = .ok (.iload 6, 2) := dk_21 6 (dk_at dksX10_generateWorkingKey_4 12 rfl rfl)
theorem dX10_generateWorkingKey_110 : decode cX10_generateWorkingKey 110 = .ok (.iastore, 1) := dk_79 (dk_at dksX10_generateWorkingKey_4 14 rfl rfl)
theorem dX10_generateWorkingKey_111 : decode cX10_generateWorkingKey 111 = .ok (.aload_n 1, 1) := dk_43 (dk_at dksX10_generateWorkingKey_4 15 rfl rfl)
theorem dX10_generateWorkingKey_112 : decode cX10_generateWorkingKey 112 = .ok (.iconst 4, 1) := dk_7 (dk_at dksX10_generateWorkingKey_4 16 rfl rfl)
theorem dX10_generateWorkingKey_113 : decode cX10_generateWorkingKey 113 = .ok (.invokestatic 36, 3) := dk_184 0 36 (dk_at dksX10_generateWorkingKey_4 17 rfl rfl)
theorem dX10_generateWorkingKey_116 : decode cX10_generateWorkingKey 116 = .ok (.istore 7, 2) := dk_54 7 (dk_at dksX10_generateWorkingKey_4 20 rfl rfl)
theorem dX10_generateWorkingKey_118 : decode cX10_generateWorkingKey 118 = .ok (.aload 5, 2) := dk_25 5 (dk_at dksX10_generateWorkingKey_4 22 rfl rfl)
theorem dX10_generateWorkingKey_120 : decode cX10_generateWorkingKey 120 = .ok (.iconst 0, 1) := dk_3 (dk_at dksX10_generateWorkingKey_5 0 rfl rfl)
theorem dX10_generateWorkingKey_121 : decode cX10_generateWorkingKey 121 = .ok (.aaload, 1) := dk_50 (dk_at dksX10_generateWorkingKey_5 1 rfl rfl)
theorem dX10_generateWorkingKey_122 : decode cX10_generateWorkingKey 122 = .ok (.iconst 1, 1) := dk_4 (dk_at dksX10_generateWorkingKey_5 2 rfl rfl)
theorem dX10_generateWorkingKey_123 : decode cX10_generateWorkingKey 123 = .ok (.iload 7, 2) := dk_21 7 (dk_at dksX10_generateWorkingKey_5 3 rfl rfl)
theorem dX10_generateWorkingKey_125 : decode cX10_generateWorkingKey 125 = .ok (.iastore, 1) := dk_79 (dk_at dksX10_generateWorkingKey_5 5 rfl rfl)
theorem dX10_generateWorkingKey_126 : decode cX10_generateWorkingKey 126 = .ok (.aload_n 1, 1) := dk_43 (dk_at dksX10_generateWorkingKey_5 6 rfl rfl)
theorem dX10_generateWorkingKey_127 : decode cX10_generateWorkingKey 127 = .ok (.bipush 8, 2) := dk_16 8 (dk_at dksX10_generateWorkingKey_5 7 rfl rfl)
theorem dX10_generateWorkingKey_129 : decode cX10_generateWorkingKey 129 = .ok (.invokestatic 36, 3) := dk_184 0 36 (dk_at dksX10_generateWorkingKey_5 9 rfl rfl)
theorem dX10_generateWorkingKey_132 : decode cX10_generateWorkingKey 132 = .ok (.istore 8, 2) := dk_54 8 (dk_at dksX10_generateWorkingKey_5 12 rfl rfl)
theorem dX10_generateWorkingKey_134 : decode cX10_generateWorkingKey 134 = .ok (.aload 5, 2) := dk_25 5 (dk_at dksX10_generateWorkingKey_5 14 rfl rfl)
theorem dX10_generateWorkingKey_136 : decode cX10_generateWorkingKey 136 = .ok (.iconst 0, 1) := dk_3 (dk_at dksX10_generateWorkingKey_5 16 rfl rfl)
theorem dX10_generateWorkingKey_137 : decode cX10_generateWorkingKey 137 = .ok (.aaload, 1) := dk_50 (dk_at dksX10_generateWorkingKey_5 17 rfl rfl)
theorem dX10_generateWorkingKey_138 : decode cX10_generateWorkingKey 138 = .ok (.iconst 2, 1) := dk_5 (dk_at dksX10_generateWorkingKey_5 18 rfl rfl)
theorem dX10_generateWorkingKey_139 : decode cX10_generateWorkingKey 139 = .ok (.iload 8, 2) := dk_21 8 (dk_at dksX10_generateWorkingKey_5 19 rfl rfl)
theorem dX10_generateWorkingKey_141 : decode cX10_generateWorkingKey 141 = .ok (.iastore, 1) := dk_79 (dk_at dksX10_generateWorkingKey_5 21 rfl rfl)
theorem dX10_generateWorkingKey_142 : decode cX10_generateWorkingKey 142 = .ok (.aload_n 1, 1) := dk_43 (dk_at dksX10_generateWorkingKey_5 22 rfl rfl)
theorem dX10_generateWorkingKey_143 : decode cX10_generateWorkingKey 143 = .ok (.bipush 12, 2) := dk_16 12 (dk_at dksX10_generateWorkingKey_6 0 rfl rfl)
theorem dX10_generateWorkingKey_145 : decode cX10_generateWorkingKey 145 = .ok (.invokestatic 36, 3) := dk_184 0 36 (dk_at dksX10_generateWorkingKey_6 2 rfl rfl)
theorem dX10_generateWorkingKey_148 : decode cX10_generateWorkingKey 148 = .ok (.istore 9, 2) := dk_54 9 (dk_at dksX10_generateWorkingKey_6 5 rfl rfl)
theorem dX10_generateWorkingKey_150 : decode cX10_generateWorkingKey 150 = .ok (.aload 5, 2) := dk_25 5 (dk_at dksX10_generateWorkingKey_6 7 rfl rfl)
theorem dX10_generateWorkingKey_152 : decode cX10_generateWorkingKey 152 = .ok (.iconst 0, 1) := dk_3 (dk_at dksX10_generateWorkingKey_6 9 rfl rfl)
theorem dX10_generateWorkingKey_153 : decode cX10_generateWorkingKey 153 = .ok (.aaload, 1) := dk_50 (dk_at dksX10_generateWorkingKey_6 10 rfl rfl)
theorem dX10_generateWorkingKey_154 : decode cX10_generateWorkingKey 154 = .ok (.iconst 3, 1) := dk_6 (dk_at dksX10_generateWorkingKey_6 11 rfl rfl)
theorem dX10_generateWorkingKey_155 : decode cX10_generateWorkingKey 155 = .ok (.iload 9, 2) := dk_21 9 (dk_at dksX10_generateWorkingKey_6 12 rfl rfl)
theorem dX10_generateWorkingKey_157 : decode cX10_generateWorkingKey 157 = .ok (.iastore, 1) := dk_79 (dk_at dksX10_generateWorkingKey_6 14 rfl rfl)
theorem dX10_generateWorkingKey_158 : decode cX10_generateWorkingKey 158 = .ok (.iconst 1, 1) := dk_4 (dk_at dksX10_generateWorkingKey_6 15 rfl rfl)
theorem dX10_generateWorkingKey_159 : decode cX10_generateWorkingKey 159 = .ok (.istore 10, 2) := dk_54 10 (dk_at dksX10_generateWorkingKey_6 16 rfl rfl)
theorem dX10_generateWorkingKey_161 : decode cX10_generateWorkingKey 161 = .ok (.iload 10, 2) := dk_21 10 (dk_at dksX10_generateWorkingKey_6 18 rfl rfl)
theorem dX10_generateWorkingKey_163 : decode cX10_generateWorkingKey 163 = .ok (.bipush 10, 2) := dk_16 10 (dk_at dksX10_generateWorkingKey_6 20 rfl rfl)
theorem dX10_generateWorkingKey_165 : decode cX10_generateWorkingKey 165 = .ok (.if_icmp .gt 94, 3) := dk_163 0 94 (dk_at dksX10_generateWorkingKey_7 0 rfl rfl)
theorem dX10_generateWorkingKey_168 : decode cX10_generateWorkingKey 168 = .ok (.iload 9, 2) := dk_21 9 (dk_at dksX10_generateWorkingKey_7 3 rfl rfl)
theorem dX10_generateWorkingKey_170 : decode cX10_generateWorkingKey 170 = .ok (.bipush 8, 2) := dk_16 8 (dk_at dksX10_generateWorkingKey_7 5 rfl rfl)
theorem dX10_generateWorkingKey_172 : decode cX10_generateWorkingKey 172 = .ok (.invokestatic 7, 3) := dk_184 0 7 (dk_at dksX10_generateWorkingKey_7 7 rfl rfl)
theorem dX10_generateWorkingKey_175 : decode cX10_generateWorkingKey 175 = .ok (.invokestatic 42, 3) := dk_184 0 42 (dk_at dksX10_generateWorkingKey_7 10 rfl rfl)
theorem dX10_generateWorkingKey_178 : decode cX10_generateWorkingKey 178 = .ok (.getstatic 45, 3) := dk_178 0 45 (dk_at dksX10_generateWorkingKey_7 13 rfl rfl)
theorem dX10_generateWorkingKey_181 : decode cX10_generateWorkingKey 181 = .ok (.iload 10, 2) := dk_21 10 (dk_at dksX10_generateWorkingKey_7 16 rfl rfl)
theorem dX10_generateWorkingKey_183 : decode cX10_generateWorkingKey 183 = .ok (.iconst 1, 1) := dk_4 (dk_at dksX10_generateWorkingKey_7 18 rfl rfl)
theorem dX10_generateWorkingKey_184 : decode cX10_generateWorkingKey 184 = .ok (.isub, 1) := dk_100 (dk_at dksX10_generateWorkingKey_7 19 rfl rfl)
theorem dX10_generateWorkingKey_185 : decode cX10_generateWorkingKey 185 = .ok (.iaload, 1) := dk_46 (dk_at dksX10_generateWorkingKey_7 20 rfl rfl)
theorem dX10_generateWorkingKey_186 : decode cX10_generateWorkingKey 186 = .ok (.ixor, 1) := dk_130 (dk_at dksX10_generateWorkingKey_7 21 rfl rfl)
theorem dX10_generateWorkingKey_187 : decode cX10_generateWorkingKey 187 = .ok (.istore 11, 2) := dk_54 11 (dk_at dksX10_generateWorkingKey_7 22 rfl rfl)
theorem dX10_generateWorkingKey_189 : decode cX10_generateWorkingKey 189 = .ok (.iload 6, 2) := dk_21 6 (dk_at dksX10_generateWorkingKey_8 0 rfl rfl)
theorem dX10_generateWorkingKey_191 : decode cX10_generateWorkingKey 191 = .ok (.iload 11, 2) := dk_21 11 (dk_at dksX10_generateWorkingKey_8 2 rfl rfl)
theorem dX10_generateWorkingKey_193 : decode cX10_generateWorkingKey 193 = .ok (.ixor, 1) := dk_130 (dk_at dksX10_generateWorkingKey_8 4 rfl rfl)
theorem dX10_generateWorkingKey_194 : decode cX10_generateWorkingKey 194 = .ok (.istore 6, 2) := dk_54 6 (dk_at dksX10_generateWorkingKey_8 5 rfl rfl)
theorem dX10_generateWorkingKey_196 : decode cX10_generateWorkingKey 196 = .ok (.aload 5, 2) := dk_25 5 (dk_at dksX10_generateWorkingKey_8 7 rfl rfl)
theorem dX10_generateWorkingKey_198 : decode cX10_generateWorkingKey 198 = .ok (.iload 10, 2) := dk_21 10 (dk_at dksX10_generateWorkingKey_8 9 rfl rfl)
theorem dX10_generateWorkingKey_200 : decode cX10_generateWorkingKey 200 = .ok (.aaload, 1) := dk_50 (dk_at dksX10_generateWorkingKey_8 11 rfl rfl)
theorem dX10_generateWorkingKey_201 : decode cX10_generateWorkingKey 201 = .ok (.iconst 0, 1) := dk_3 (dk_at dksX10_generateWorkingKey_8 12 rfl rfl)
theorem dX10_generateWorkingKey_202 : decode cX10_generateWorkingKey 202 = .ok (.iload 6, 2) := dk_21 6 (dk_at dksX10_generateWorkingKey_8 13 rfl rfl)
theorem dX10_generateWorkingKey_204 : decode cX10_generateWorkingKey 204 = .ok (.iastore, 1) := dk_79 (dk_at dksX10_generateWorkingKey_8 15 rfl rfl)
theorem dX10_generateWorkingKey_205 : decode cX10_generateWorkingKey 205 = .ok (.iload 7, 2) := dk_21 7 (dk_at dksX10_generateWorkingKey_8 16 rfl rfl)
theorem dX10_generateWorkingKey_207 : decode cX10_generateWorkingKey 207 = .ok (.iload 6, 2) := dk_21 6 (dk_at dksX10_generateWorkingKey_8 18 rfl rfl)
theorem dX10_generateWorkingKey_209 : decode cX10_generateWorkingKey 209 = .ok (.ixor, 1) := dk_130 (dk_at dksX10_generateWorkingKey_8 20 rfl rfl)
theorem dX10_generateWorkingKey_210 : decode cX10_generateWorkingKey 210 = .ok (.istore 7, 2) := dk_54 7 (dk_at dksX10_generateWorkingKey_8 21 rfl rfl)
theorem dX10_generateWorkingKey_212 : decode cX10_generateWorkingKey 212 = .ok (.aload 5, 2) := dk_25 5 (dk_at dksX10_generateWorkingKey_9 0 rfl rfl)
theorem dX10_generateWorkingKey_214 : decode cX10_generateWorkingKey 214 = .ok (.iload 10, 2) := dk_21 10 (dk_at dksX10_generateWorkingKey_9 2 rfl rfl)
theorem dX10_generateWorkingKey_216 : decode cX10_generateWorkingKey 216 = .ok (.aaload, 1) := dk_50 (dk_at dksX10_generateWorkingKey_9 4 rfl rfl)
theorem dX10_generateWorkingKey_217 : decode cX10_generateWorkingKey 217 = .ok (.iconst 1, 1) := dk_4 (dk_at dksX10_generateWorkingKey_9 5 rfl rfl)
theorem dX10_generateWorkingKey_218 : decode cX10_generateWorkingKey 218 = .ok (.iload 7, 2) := dk_21 7 (dk_at dksX10_generateWorkingKey_9 6 rfl rfl)
theorem dX10_generateWorkingKey_220 : decode cX10_generateWorkingKey 220 = .ok (.iastore, 1) := dk_79 (dk_at dksX10_generateWorkingKey_9 8 rfl rfl)
theorem dX10_generateWorkingKey_221 : decode cX10_generateWorkingKey 221 = .ok (.iload 8, 2) := dk_21 8 (dk_at dksX10_generateWorkingKey_9 9 rfl rfl)
theorem dX10_generateWorkingKey_223 : decode cX10_generateWorkingKey 223 = .ok (.iload 7, 2) := dk_21 7 (dk_at dksX10_generateWorkingKey_9 11 rfl rfl)
theorem dX10_generateWorkingKey_225 : decode cX10_generateWorkingKey 225 = .ok (.ixor, 1) := dk_130 (dk_at dksX10_generateWorkingKey_9 13 rfl rfl)
theorem dX10_generateWorkingKey_226 : decode cX10_generateWorkingKey 226 = .ok (.istore 8, 2) := dk_54 8 (dk_at dksX10_generateWorkingKey_9 14 rfl rfl)
theorem dX10_generateWorkingKey_228 : decode cX10_generateWorkingKey 228 = .ok (.aload 5, 2) := dk_25 5 (dk_at dksX10_generateWorkingKey_9 16 rfl rfl)
theorem dX10_generateWorkingKey_230 : decode cX10_generateWorkingKey 230 = .ok (.iload 10, 2) := dk_21 10 (dk_at dksX10_generateWorkingKey_9 18 rfl rfl)
theorem dX10_generateWorkingKey_232 : decode cX10_generateWorkingKey 232 = .ok (.aaload, 1) := dk_50 (dk_at dksX10_generateWorkingKey_9 20 rfl rfl)
theorem dX10_generateWorkingKey_233 : decode cX10_generateWorkingKey 233 = .ok (.iconst 2, 1) := dk_5 (dk_at dksX10_generateWorkingKey_9 21 rfl rfl)
theorem dX10_generateWorkingKey_234 : decode cX10_generateWorkingKey 234 = .ok (.iload 8, 2) := dk_21 8 (dk_at dksX10_generateWorkingKey_9 22 rfl rfl)
theorem dX10_generateWorkingKey_236 : decode cX10_generateWorkingKey 236 = .ok (.iastore, 1) := dk_79 (dk_at dksX10_generateWorkingKey_10 0 rfl rfl)
theorem dX10_generateWorkingKey_237 : decode cX10_generateWorkingKey 237 = .ok (.iload 9, 2) := dk_21 9 (dk_at dksX10_generateWorkingKey_10 1 rfl rfl)
theorem dX10_generateWorkingKey_239 : decode cX10_generateWorkingKey 239 = .ok (.iload 8, 2) := dk_21 8 (dk_at dksX10_generateWorkingKey_10 3 rfl rfl)
theorem dX10_generateWorkingKey_241 : decode cX10_generateWorkingKey 241 = .ok (.ixor, 1) := dk_130 (dk_at dksX10_generateWorkingKey_10 5 rfl rfl)
theorem dX10_generateWorkingKey_242 : decode cX10_generateWorkingKey 242 = .ok (.istore 9, 2) := dk_54 9 (dk_at dksX10_generateWorkingKey_10 6 rfl rfl)
theorem dX10_generateWorkingKey_244 : decode cX10_generateWorkingKey 244 = .ok (.aload 5, 2) := dk_25 5 (dk_at dksX10_generateWorkingKey_10 8 rfl rfl)
theorem dX10_generateWorkingKey_246 : decode cX10_generateWorkingKey 246 = .ok (.iload 10, 2) := dk_21 10 (dk_at dksX10_generateWorkingKey_10 10 rfl rfl)
theorem dX10_generateWorkingKey_248 : decode cX10_generateWorkingKey 248 = .ok (.aaload, 1) := dk_50 (dk_at dksX10_generateWorkingKey_10 12 rfl rfl)
theorem dX10_generateWorkingKey_249 : decode cX10_generateWorkingKey 249 = .ok (.iconst 3, 1) := dk_6 (dk_at dksX10_generateWorkingKey_10 13 rfl rfl)
theorem dX10_generateWorkingKey_250 : decode cX10_generateWorkingKey 250 = .ok (.iload 9, 2) := dk_21 9 (dk_at dksX10_generateWorkingKey_10 14 rfl rfl)
theorem dX10_generateWorkingKey_252 : decode cX10_generateWorkingKey 252 = .ok (.iastore, 1) := dk_79 (dk_at dksX10_generateWorkingKey_10 16 rfl rfl)
theorem dX10_generateWorkingKey_253 : decode cX10_generateWorkingKey 253 = .ok (.iinc 10 1, 3) := dk_132 10 1 (dk_at dksX10_generateWorkingKey_10 17 rfl rfl)
theorem dX10_generateWorkingKey_256 : decode cX10_generateWorkingKey 256 = .ok (.goto (-95), 3) := dk_167 255 161 (dk_at dksX10_generateWorkingKey_10 20 rfl rfl)
theorem dX10_generateWorkingKey_259 : decode cX10_generateWorkingKey 259 = .ok (.goto 670, 3) := dk_167 2 158 (dk_at dksX10_generateWorkingKey_11 0 rfl rfl)
theorem dX10_generateWorkingKey_262 : decode cX10_generateWorkingKey 262 = .ok (.aload_n 1, 1) := dk_43 (dk_at dksX10_generateWorkingKey_11 3 rfl rfl)
theorem dX10_generateWorkingKey_263 : decode cX10_generateWorkingKey 263 = .ok (.iconst 0, 1) := dk_3 (dk_at dksX10_generateWorkingKey_11 4 rfl rfl)
theorem dX10_generateWorkingKey_264 : decode cX10_generateWorkingKey 264 = .ok (.invokestatic 36, 3) := dk_184 0 36 (dk_at dksX10_generateWorkingKey_11 5 rfl rfl)
theorem dX10_generateWorkingKey_267 : decode cX10_generateWorkingKey 267 = .ok (.istore 6, 2) := dk_54 6 (dk_at dksX10_generateWorkingKey_11 8 rfl rfl)
theorem dX10_generateWorkingKey_269 : decode cX10_generateWorkingKey 269 = .ok (.aload 5, 2) := dk_25 5 (dk_at dksX10_generateWorkingKey_11 10 rfl rfl)
theorem dX10_generateWorkingKey_271 : decode cX10_generateWorkingKey 271 = .ok (.iconst 0, 1) := dk_3 (dk_at dksX10_generateWorkingKey_11 12 rfl rfl)
theorem dX10_generateWorkingKey_272 : decode cX10_generateWorkingKey 272 = .ok (.aaload, 1) := dk_50 (dk_at dksX10_generateWorkingKey_11 13 rfl rfl)
theorem dX10_generateWorkingKey_273 : decode cX10_generateWorkingKey 273 = .ok (.iconst 0, 1) := dk_3 (dk_at dksX10_generateWorkingKey_11 14 rfl rfl)
theorem dX10_generateWorkingKey_274 : decode cX10_generateWorkingKey 274 = .ok (.iload 6, 2) := dk_21 6 (dk_at dksX10_generateWorkingKey_11 15 rfl rfl)
theorem dX10_generateWorkingKey_276 : decode cX10_generateWorkingKey 276 = .ok (.iastore, 1) := dk_79 (dk_at dksX10_generateWorkingKey_11 17 rfl rfl)
theorem dX10_generateWorkingKey_277 : decode cX10_generateWorkingKey 277 = .ok (.aload_n 1, 1) := dk_43 (dk_at dksX10_generateWorkingKey_11 18 rfl rfl)
theorem dX10_generateWorkingKey_278 : decode cX10_generateWorkingKey 278 = .ok (.iconst 4, 1) := dk_7 (dk_at dksX10_generateWorkingKey_11 19 rfl rfl)
theorem dX10_generateWorkingKey_279 : decode cX10_generateWorkingKey 279 = .ok (.invokestatic 36, 3) := dk_184 0 36 (dk_at dksX10_generateWorkingKey_11 20 rfl rfl)
theorem dX10_generateWorkingKey_282 : decode cX10_generateWorkingKey 282 = .ok (.istore 7, 2) := dk_54 7 (dk_at dksX10_generateWorkingKey_12 0 rfl rfl)
theorem dX10_generateWorkingKey_284 : decode cX10_generateWorkingKey 284 = .ok (.aload 5, 2) := dk_25 5 (dk_at dksX10_generateWorkingKey_12 2 rfl rfl)
theorem dX10_generateWorkingKey_286 : decode cX10_generateWorkingKey 286 = .ok (.iconst 0, 1) := dk_3 (dk_at dksX10_generateWorkingKey_12 4 rfl rfl)
theorem dX10_generateWorkingKey_287 : decode cX10_generateWorkingKey 287 = .ok (.aaload, 1) := dk_50 (dk_at dksX10_generateWorkingKey_12 5 rfl rfl)
theorem dX10_generateWorkingKey_288 : decode cX10_generateWorkingKey 288 = .ok (.iconst 1, 1) := dk_4 (dk_at dksX10_generateWorkingKey_12 6 rfl rfl)
theorem dX10_generateWorkingKey_289 : decode cX10_generateWorkingKey 289 = .ok (.iload 7, 2) := dk_21 7 (dk_at dksX10_generateWorkingKey_12 7 rfl rfl)
theorem dX10_generateWorkingKey_291 : decode cX10_generateWorkingKey 291 = .ok (.iastore, 1) := dk_79 (dk_at dksX10_generateWorkingKey_12 9 rfl rfl)
theorem dX10_generateWorkingKey_292 : decode cX10_generateWorkingKey 292 = .ok (.aload_n 1, 1) := dk_43 (dk_at dksX10_generateWorkingKey_12 10 rfl rfl)
theorem dX10_generateWorkingKey_293 : decode cX10_generateWorkingKey 293 = .ok (.bipush 8, 2) := dk_16 8 (dk_at dksX10_generateWorkingKey_12 11 rfl rfl)
theorem dX10_generateWorkingKey_295 : decode cX10_generateWorkingKey 295 = .ok (.invokestatic 36, 3) := dk_184 0 36 (dk_at dksX10_generateWorkingKey_12 13 rfl rfl)
theorem dX10_generateWorkingKey_298 : decode cX10_generateWorkingKey 298 = .ok (.istore 8, 2) := dk_54 8 (dk_at dksX10_generateWorkingKey_12 16 rfl rfl)
theorem dX10_generateWorkingKey_300 : decode cX10_generateWorkingKey 300 = .ok (.aload 5, 2) := dk_25 5 (dk_at dksX10_generateWorkingKey_12 18 rfl rfl)
theorem dX10_generateWorkingKey_302 : decode cX10_generateWorkingKey 302 = .ok (.iconst 0, 1) := dk_3 (dk_at dksX10_generateWorkingKey_12 20 rfl rfl)
theorem dX10_generateWorkingKey_303 : decode cX10_generateWorkingKey 303 = .ok (.aaload, 1) := dk_50 (dk_at dksX10_generateWorkingKey_12 21 rfl rfl)
theorem dX10_generateWorkingKey_304 : decode cX10_generateWorkingKey 304 = .ok (.iconst 2, 1) := dk_5 (dk_at dksX10_generateWorkingKey_12 22 rfl rfl)
theorem dX10_generateWorkingKey_305 : decode cX10_generateWorkingKey 305 = .ok (.iload 8, 2) := dk_21 8 (dk_at dksX10_generateWorkingKey_13 0 rfl rfl)
theorem dX10_generateWorkingKey_307 : decode cX10_generateWorkingKey 307 = .ok (.iastore, 1) := dk_79 (dk_at dksX10_generateWorkingKey_13 2 rfl rfl)
theorem dX10_generateWorkingKey_308 : decode cX10_generateWorkingKey 308 = .ok (.aload_n 1, 1) := dk_43 (dk_at dksX10_generateWorkingKey_13 3 rfl rfl)
theorem dX10_generateWorkingKey_309 : decode cX10_generateWorkingKey 309 = .ok (.bipush 12, 2) := dk_16 12 (dk_at dksX10_generateWorkingKey_13 4 rfl rfl)
theorem dX10_generateWorkingKey_311 : decode cX10_generateWorkingKey 311 = .ok (.invokestatic 36, 3) := dk_184 0 36 (dk_at dksX10_generateWorkingKey_13 6 rfl rfl)
theorem dX10_generateWorkingKey_314 : decode cX10_generateWorkingKey 314 = .ok (.istore 9, 2) := dk_54 9 (dk_at dksX10_generateWorkingKey_13 9 rfl rfl)
theorem dX10_generateWorkingKey_316 : decode cX10_generateWorkingKey 316 = .ok (.aload 5, 2) := dk_25 5 (dk_at dksX10_generateWorkingKey_13 11 rfl rfl)
theorem dX10_generateWorkingKey_318 : decode cX10_generateWorkingKey 318 = .ok (.iconst 0, 1) := dk_3 (dk_at dksX10_generateWorkingKey_13 13 rfl rfl)
theorem dX10_generateWorkingKey_319 : decode cX10_generateWorkingKey 319 = .ok (.aaload, 1) := dk_50 (dk_at dksX10_generateWorkingKey_13 14 rfl rfl)
theorem dX10_generateWorkingKey_320 : decode cX10_generateWorkingKey 320 = .ok (.iconst 3, 1) := dk_6 (dk_at dksX10_generateWorkingKey_13 15 rfl rfl)
theorem dX10_generateWorkingKey_321 : decode cX10_generateWorkingKey 321 = .ok (.iload 9, 2) := dk_21 9 (dk_at dksX10_generateWorkingKey_13 16 rfl rfl)
theorem dX10_generateWorkingKey_323 : decode cX10_generateWorkingKey 323 = .ok (.iastore, 1) := dk_79 (dk_at dksX10_generateWorkingKey_13 18 rfl rfl)
theorem dX10_generateWorkingKey_324 : decode cX10_generateWorkingKey 324 = .ok (.aload_n 1, 1) := dk_43 (dk_at dksX10_generateWorkingKey_13 19 rfl rfl)
theorem dX10_generateWorkingKey_325 : decode cX10_generateWorkingKey 325 = .ok (.bipush 16, 2) := dk_16 16 (dk_at dksX10_generateWorkingKey_13 20 rfl rfl)
theorem dX10_generateWorkingKey_327 : decode cX10_generateWorkingKey 327 = .ok (.invokestatic 36, 3) := dk_184 0 36 (dk_at dksX10_generateWorkingKey_14 0 rfl rfl)
theorem dX10_generateWorkingKey_330 : decode cX10_generateWorkingKey 330 = .ok (.istore 10, 2) := dk_54 10 (dk_at dksX10_generateWorkingKey_14 3 rfl rfl)
theorem dX10_generateWorkingKey_332 : decode cX10_generateWorkingKey 332 = .ok (.aload_n 1, 1) := dk_43 (dk_at dksX10_generateWorkingKey_14 5 rfl rfl)
theorem dX10_generateWorkingKey_333 : decode cX10_generateWorkingKey 333 = .ok (.bipush 20, 2) := dk_16 20 (dk_at dksX10_generateWorkingKey_14 6 rfl rfl)
theorem dX10_generateWorkingKey_335 : decode cX10_generateWorkingKey 335 = .ok (.invokestatic 36, 3) := dk_184 0 36 (dk_at dksX10_generateWorkingKey_14 8 rfl rfl)
theorem dX10_generateWorkingKey_338 : decode cX10_generateWorkingKey 338 = .ok (.istore 11, 2) := dk_54 11 (dk_at dksX10_generateWorkingKey_14 11 rfl rfl)
theorem dX10_generateWorkingKey_340 : decode cX10_generateWorkingKey 340 = .ok (.iconst 1, 1) := dk_4 (dk_at dksX10_generateWorkingKey_14 13 rfl rfl)
theorem dX10_generateWorkingKey_341 : decode cX10_generateWorkingKey 341 = .ok (.istore 12, 2) := dk_54 12 (dk_at dksX10_generateWorkingKey_14 14 rfl rfl)
theorem dX10_generateWorkingKey_343 : decode cX10_generateWorkingKey 343 = .ok (.iconst 1, 1) := dk_4 (dk_at dksX10_generateWorkingKey_14 16 rfl rfl)
theorem dX10_generateWorkingKey_344 : decode cX10_generateWorkingKey 344 = .ok (.istore 13, 2) := dk_54 13 (dk_at dksX10_generateWorkingKey_14 17 rfl rfl)
theorem dX10_generateWorkingKey_346 : decode cX10_generateWorkingKey 346 = .ok (.aload 5, 2) := dk_25 5 (dk_at dksX10_generateWorkingKey_14 19 rfl rfl)
theorem dX10_generateWorkingKey_348 : decode cX10_generateWorkingKey 348 = .ok (.iload 12, 2) := dk_21 12 (dk_at dksX10_generateWorkingKey_14 21 rfl rfl)
theorem dX10_generateWorkingKey_350 : decode cX10_generateWorkingKey 350 = .ok (.aaload, 1) := dk_50 (dk_at dksX10_generateWorkingKey_14 23 rfl rfl)
theorem dX10_generateWorkingKey_351 : decode cX10_generateWorkingKey 351 = .ok (.iconst 0, 1) := dk_3 (dk_at dksX10_generateWorkingKey_15 0 rfl rfl)
theorem dX10_generateWorkingKey_352 : decode cX10_generateWorkingKey 352 = .ok (.iload 10, 2) := dk_21 10 (dk_at dksX10_generateWorkingKey_15 1 rfl rfl)
theorem dX10_generateWorkingKey_354 : decode cX10_generateWorkingKey 354 = .ok (.iastore, 1) := dk_79 (dk_at dksX10_generateWorkingKey_15 3 rfl rfl)
theorem dX10_generateWorkingKey_355 : decode cX10_generateWorkingKey 355 = .ok (.aload 5, 2) := dk_25 5 (dk_at dksX10_generateWorkingKey_15 4 rfl rfl)
theorem dX10_generateWorkingKey_357 : decode cX10_generateWorkingKey 357 = .ok (.iload 12, 2) := dk_21 12 (dk_at dksX10_generateWorkingKey_15 6 rfl rfl)
theorem dX10_generateWorkingKey_359 : decode cX10_generateWorkingKey 359 = .ok (.aaload, 1) := dk_50 (dk_at dksX10_generateWorkingKey_15 8 rfl rfl)
theorem dX10_generateWorkingKey_360 : decode cX10_generateWorkingKey 360 = .ok (.iconst 1, 1) := dk_4 (dk_at dksX10_generateWorkingKey_15 9 rfl rfl)
theorem dX10_generateWorkingKey_361 : decode cX10_generateWorkingKey 361 = .ok (.iload 11, 2) := dk_21 11 (dk_at dksX10_generateWorkingKey_15 10 rfl rfl)
theorem dX10_generateWorkingKey_363 : decode cX10_generateWorkingKey 363 = .ok (.iastore, 1) := dk_79 (dk_at dksX10_generateWorkingKey_15 12 rfl rfl)
theorem dX10_generateWorkingKey_364 : decode cX10_generateWorkingKey 364 = .ok (.iload 11, 2) := dk_21 11 (dk_at dksX10_generateWorkingKey_15 13 rfl rfl)
theorem dX10_generateWorkingKey_366 : decode cX10_generateWorkingKey 366 = .ok (.bipush 8, 2) := dk_16 8 (dk_at dksX10_generateWorkingKey_15 15 rfl rfl)
theorem dX10_generateWorkingKey_368 : decode cX10_generateWorkingKey 368 = .ok (.invokestatic 7, 3) := dk_184 0 7 (dk_at dksX10_generateWorkingKey_15 17 rfl rfl)
theorem dX10_generateWorkingKey_371 : decode cX10_generateWorkingKey 371 = .ok (.invokestatic 42, 3) := dk_184 0 42 (dk_at dksX10_generateWorkingKey_15 20 rfl rfl)
theorem dX10_generateWorkingKey_374 : decode cX10_generateWorkingKey 374 = .ok (.iload 13, 2) := dk_21 13 (dk_at dksX10_generateWorkingKey_16 0 rfl rfl)
theorem dX10_generateWorkingKey_376 : decode cX10_generateWorkingKey 376 = .ok (.ixor, 1) := dk_130 (dk_at dksX10_generateWorkingKey_16 2 rfl rfl)
theorem dX10_generateWorkingKey_377 : decode cX10_generateWorkingKey 377 = .ok (.istore 14, 2) := dk_54 14 (dk_at dksX10_generateWorkingKey_16 3 rfl rfl)
theorem dX10_generateWorkingKey_379 : decode cX10_generateWorkingKey 379 = .ok (.iload 13, 2) := dk_21 13 (dk_at dksX10_generateWorkingKey_16 5 rfl rfl)
theorem dX10_generateWorkingKey_381 : decode cX10_generateWorkingKey 381 = .ok (.iconst 1, 1) := dk_4 (dk_at dksX10_generateWorkingKey_16 7 rfl rfl)
theorem dX10_generateWorkingKey_382 : decode cX10_generateWorkingKey 382 = .ok (.ishl, 1) := dk_120 (dk_at dksX10_generateWorkingKey_16 8 rfl rfl)
theorem dX10_generateWorkingKey_383 : decode cX10_generateWorkingKey 383 = .ok (.istore 13, 2) := dk_54 13 (dk_at dksX10_generateWorkingKey_16 9 rfl rfl)
theorem dX10_generateWorkingKey_385 : decode cX10_generateWorkingKey 385 = .ok (.iload 6, 2) := dk_21 6 (dk_at dksX10_generateWorkingKey_16 11 rfl rfl)
theorem dX10_generateWorkingKey_387 : decode cX10_generateWorkingKey 387 = .ok (.iload 14, 2) := dk_21 14 (dk_at dksX10_generateWorkingKey_16 13 rfl rfl)
theorem dX10_generateWorkingKey_389 : decode cX10_generateWorkingKey 389 = .ok (.ixor, 1) := dk_130 (dk_at dksX10_generateWorkingKey_16 15 rfl rfl)
theorem dX10_generateWorkingKey_390 : decode cX10_generateWorkingKey 390 = .ok (.istore 6, 2) := dk_54 6 (dk_at dksX10_generateWorkingKey_16 16 rfl rfl)
theorem dX10_generateWorkingKey_392 : decode cX10_generateWorkingKey 392 = .ok (.aload 5, 2) := dk_25 5 (dk_at dksX10_generateWorkingKey_16 18 rfl rfl)
theorem dX10_generateWorkingKey_394 : decode cX10_generateWorkingKey 394 = .ok (.iload 12, 2) := dk_21 12 (dk_at dksX10_generateWorkingKey_16 20 rfl rfl)
theorem dX10_generateWorkingKey_396 : decode cX10_generateWorkingKey 396 = .ok (.aaload, 1) := dk_50 (dk_at dksX10_generateWorkingKey_16 22 rfl rfl)
theorem dX10_generateWorkingKey_397 : decode cX10_generateWorkingKey 397 = .ok (.iconst 2, 1) := dk_5 (dk_at dksX10_generateWorkingKey_16 23 rfl rfl)
theorem dX10_generateWorkingKey_398 : decode cX10_generateWorkingKey 398 = .ok (.iload 6, 2) := dk_21 6 (dk_at dksX10_generateWorkingKey_17 0 rfl rfl)
theorem dX10_generateWorkingKey_400 : decode cX10_generateWorkingKey 400 = .ok (.iastore, 1) := dk_79 (dk_at dksX10_generateWorkingKey_17 2 rfl rfl)
theorem dX10_generateWorkingKey_401 : decode cX10_generateWorkingKey 401 = .ok (.iload 7, 2) := dk_21 7 (dk_at dksX10_generateWorkingKey_17 3 rfl rfl)
theorem dX10_generateWorkingKey_403 : decode cX10_generateWorkingKey 403 = .ok (.iload 6, 2) := dk_21 6 (dk_at dksX10_generateWorkingKey_17 5 rfl rfl)
theorem dX10_generateWorkingKey_405 : decode cX10_generateWorkingKey 405 = .ok (.ixor, 1) := dk_130 (dk_at dksX10_generateWorkingKey_17 7 rfl rfl)
theorem dX10_generateWorkingKey_406 : decode cX10_generateWorkingKey 406 = .ok (.istore 7, 2) := dk_54 7 (dk_at dksX10_generateWorkingKey_17 8 rfl rfl)
theorem dX10_generateWorkingKey_408 : decode cX10_generateWorkingKey 408 = .ok (.aload 5, 2) := dk_25 5 (dk_at dksX10_generateWorkingKey_17 10 rfl rfl)
theorem dX10_generateWorkingKey_410 : decode cX10_generateWorkingKey 410 = .ok (.iload 12, 2) := dk_21 12 (dk_at dksX10_generateWorkingKey_17 12 rfl rfl)
theorem dX10_generateWorkingKey_412 : decode cX10_generateWorkingKey 412 = .ok (.aaload, 1) := dk_50 (dk_at dksX10_generateWorkingKey_17 14 rfl rfl)
theorem dX10_generateWorkingKey_413 : decode cX10_generateWorkingKey 413 = .ok (.iconst 3, 1) := dk_6 (dk_at dksX10_generateWorkingKey_17 15 rfl rfl)
theorem dX10_generateWorkingKey_414 : decode cX10_generateWorkingKey 414 = .ok (.iload 7, 2) := dk_21 7 (dk_at dksX10_generateWorkingKey_17 16 rfl rfl)
theorem dX10_generateWorkingKey_416 : decode cX10_generateWorkingKey 416 = .ok (.iastore, 1) := dk_79 (dk_at dksX10_generateWorkingKey_17 18 rfl rfl)
theorem dX10_generateWorkingKey_417 : decode cX10_generateWorkingKey 417 = .ok (.iload 8, 2) := dk_21 8 (dk_at dksX10_generateWorkingKey_17 19 rfl rfl)
theorem dX10_generateWorkingKey_419 : decode cX10_generateWorkingKey 419 = .ok (.iload 7, 2) := dk_21 7 (dk_at dksX10_generateWorkingKey_17 21 rfl rfl)
theorem dX10_generateWorkingKey_421 : decode cX10_generateWorkingKey 421 = .ok (.ixor, 1) := dk_130 (dk_at dksX10_generateWorkingKey_17 23 rfl rfl)
theorem dX10_generateWorkingKey_422 : decode cX10_generateWorkingKey 422 = .ok (.istore 8, 2) := dk_54 8 (dk_at dksX10_generateWorkingKey_18 0 rfl rfl)
theorem dX10_generateWorkingKey_424 : decode cX10_generateWorkingKey 424 = .ok (.aload 5, 2) := dk_25 5 (dk_at dksX10_generateWorkingKey_18 2 rfl rfl)
theorem dX10_generateWorkingKey_426 : decode cX10_generateWorkingKey 426 = .ok (.iload 12, 2) := dk_21 12 (dk_at dksX10_generateWorkingKey_18 4 rfl rfl)
theorem dX10_generateWorkingKey_428 : decode cX10_generateWorkingKey 428 = .ok (.iconst 1, 1) := dk_4 (dk_at dksX10_generateWorkingKey_18 6 rfl rfl)
theorem dX10_generateWorkingKey_429 : decode cX10_generateWorkingKey 429 = .ok (.iadd, 1) := dk_96 (dk_at dksX10_generateWorkingKey_18 7 rfl rfl)
theorem dX10_generateWorkingKey_430 : decode cX10_generateWorkingKey 430 = .ok (.aaload, 1) := dk_50 (dk_at dksX10_generateWorkingKey_18 8 rfl rfl)
theorem dX10_generateWorkingKey_431 : decode cX10_generateWorkingKey 431 = .ok (.iconst 0, 1) := dk_3 (dk_at dksX10_generateWorkingKey_18 9 rfl rfl)
theorem dX10_generateWorkingKey_432 : decode cX10_generateWorkingKey 432 = .ok (.iload 8, 2) := dk_21 8 (dk_at dksX10_generateWorkingKey_18 10 rfl rfl)
theorem dX10_generateWorkingKey_434 : decode cX10_generateWorkingKey 434 = .ok (.iastore, 1) := dk_79 (dk_at dksX10_generateWorkingKey_18 12 rfl rfl)
theorem dX10_generateWorkingKey_435 : decode cX10_generateWorkingKey 435 = .ok (.iload 9, 2) := dk_21 9 (dk_at dksX10_generateWorkingKey_18 13 rfl rfl)
theorem dX10_generateWorkingKey_437 : decode cX10_generateWorkingKey 437 = .ok (.iload 8, 2) := dk_21 8 (dk_at dksX10_generateWorkingKey_18 15 rfl rfl)
theorem dX10_generateWorkingKey_439 : decode cX10_generateWorkingKey 439 = .ok (.ixor, 1) := dk_130 (dk_at dksX10_generateWorkingKey_18 17 rfl rfl)
theorem dX10_generateWorkingKey_440 : decode cX10_generateWorkingKey 440 = .ok (.istore 9, 2) := dk_54 9 (dk_at dksX10_generateWorkingKey_18 18 rfl rfl)
theorem dX10_generateWorkingKey_442 : decode cX10_generateWorkingKey 442 = .ok (.aload 5, 2) := dk_25 5 (dk_at dksX10_generateWorkingKey_18 20 rfl rfl)
theorem dX10_generateWorkingKey_444 : decode cX10_generateWorkingKey 444 = .ok (.iload 12, 2) := dk_21 12 (dk_at dksX10_generateWorkingKey_18 22 rfl rfl)
theorem dX10_generateWorkingKey_446 : decode cX10_generateWorkingKey 446 = .ok (.iconst 1, 1) := dk_4 (dk_at dksX10_generateWorkingKey_19 0 rfl rfl)
theorem dX10_generateWorkingKey_447 : decode cX10_generateWorkingKey 447 = .ok (.iadd, 1) := dk_96 (dk_at dksX10_generateWorkingKey_19 1 rfl rfl)
theorem dX10_generateWorkingKey_448 : decode cX10_generateWorkingKey 448 = .ok (.aaload, 1) := dk_50 (dk_at dksX10_generateWorkingKey_19 2 rfl rfl)
theorem dX10_generateWorkingKey_449 : decode cX10_generateWorkingKey 449 = .ok (.iconst 1, 1) := dk_4 (dk_at dksX10_generateWorkingKey_19 3 rfl rfl)
theorem dX10_generateWorkingKey_450 : decode cX10_generateWorkingKey 450 = .ok (.iload 9, 2) := dk_21 9 (dk_at dksX10_generateWorkingKey_19 4 rfl rfl)
theorem dX10_generateWorkingKey_452 : decode cX10_generateWorkingKey 452 = .ok (.iastore, 1) := dk_79 (dk_at dksX10_generateWorkingKey_19 6 rfl rfl)
theorem dX10_generateWorkingKey_453 : decode cX10_generateWorkingKey 453 = .ok (.iload 10, 2) := dk_21 10 (dk_at dksX10_generateWorkingKey_19 7 rfl rfl)
theorem dX10_generateWorkingKey_455 : decode cX10_generateWorkingKey 455 = .ok (.iload 9, 2) := dk_21 9 (dk_at dksX10_generateWorkingKey_19 9 rfl rfl)
theorem dX10_generateWorkingKey_457 : decode cX10_generateWorkingKey 457 = .ok (.ixor, 1) := dk_130 (dk_at dksX10_generateWorkingKey_19 11 rfl rfl)
theorem dX10_generateWorkingKey_458 : decode cX10_generateWorkingKey 458 = .ok (.istore 10, 2) := dk_54 10 (dk_at dksX10_generateWorkingKey_19 12 rfl rfl)
theorem dX10_generateWorkingKey_460 : decode cX10_generateWorkingKey 460 = .ok (.aload 5, 2) := dk_25 5 (dk_at dksX10_generateWorkingKey_19 14 rfl rfl)
theorem dX10_generateWorkingKey_462 : decode cX10_generateWorkingKey 462 = .ok (.iload 12, 2) := dk_21 12 (dk_at dksX10_generateWorkingKey_19 16 rfl rfl)
theorem dX10_generateWorkingKey_464 : decode cX10_generateWorkingKey 464 = .ok (.iconst 1, 1) := dk_4 (dk_at dksX10_generateWorkingKey_19 18 rfl rfl)
theorem dX10_generateWorkingKey_465 : decode cX10_generateWorkingKey 465 = .ok (.iadd, 1) := dk_96 (dk_at dksX10_generateWorkingKey_19 19 rfl rfl)
theorem dX10_generateWorkingKey_466 : decode cX10_generateWorkingKey 466 = .ok (.aaload, 1) := dk_50 (dk_at dksX10_generateWorkingKey_19 20 rfl rfl)
theorem dX10_generateWorkingKey_467 : decode cX10_generateWorkingKey 467 = .ok (.iconst 2, 1) := dk_5 (dk_at dksX10_generateWorkingKey_19 21 rfl rfl)
theorem dX10_generateWorkingKey_468 : decode cX10_generateWorkingKey 468 = .ok (.iload 10, 2) := dk_21 10 (dk_at dksX10_generateWorkingKey_19 22 rfl rfl)
theorem dX10_generateWorkingKey_470 : decode cX10_generateWorkingKey 470 = .ok (.iastore, 1) := dk_79 (dk_at dksX10_generateWorkingKey_20 0 rfl rfl)
theorem dX10_generateWorkingKey_471 : decode cX10_generateWorkingKey 471 = .ok (.iload 11, 2) := dk_21 11 (dk_at dksX10_generateWorkingKey_20 1 rfl rfl)
theorem dX10_generateWorkingKey_473 : decode cX10_generateWorkingKey 473 = .ok (.iload 10, 2) := dk_21 10 (dk_at dksX10_generateWorkingKey_20 3 rfl rfl)
theorem dX10_generateWorkingKey_475 : decode cX10_generateWorkingKey 475 = .ok (.ixor, 1) := dk_130 (dk_at dksX10_generateWorkingKey_20 5 rfl rfl)
theorem dX10_generateWorkingKey_476 : decode cX10_generateWorkingKey 476 = .ok (.istore 11, 2) := dk_54 11 (dk_at dksX10_generateWorkingKey_20 6 rfl rfl)
theorem dX10_generateWorkingKey_478 : decode cX10_generateWorkingKey 478 = .ok (.aload 5, 2) := dk_25 5 (dk_at dksX10_generateWorkingKey_20 8 rfl rfl)
theorem dX10_generateWorkingKey_480 : decode cX10_generateWorkingKey 480 = .ok (.iload 12, 2) := dk_21 12 (dk_at dksX10_generateWorkingKey_20 10 rfl rfl)
theorem dX10_generateWorkingKey_482 : decode cX10_generateWorkingKey 482 = .ok (.iconst 1, 1) := dk_4 (dk_at dksX10_generateWorkingKey_20 12 rfl rfl)
theorem dX10_generateWorkingKey_483 : decode cX10_generateWorkingKey 483 = .ok (.iadd, 1) := dk_96 (dk_at dksX10_generateWorkingKey_20 13 rfl rfl)
theorem dX10_generateWorkingKey_484 : decode cX10_generateWorkingKey 484 = .ok (.aaload, 1) := dk_50 (dk_at dksX10_generateWorkingKey_20 14 rfl rfl)
theorem dX10_generateWorkingKey_485 : decode cX10_generateWorkingKey 485 = .ok (.iconst 3, 1) := dk_6 (dk_at dksX10_generateWorkingKey_20 15 rfl rfl)
theorem dX10_generateWorkingKey_486 : decode cX10_generateWorkingKey 486 = .ok (.iload 11, 2) := dk_21 11 (dk_at dksX10_generateWorkingKey_20 16 rfl rfl)
theorem dX10_generateWorkingKey_488 : decode cX10_generateWorkingKey 488 = .ok (.iastore, 1) := dk_79 (dk_at dksX10_generateWorkingKey_20 18 rfl rfl)
theorem dX10_generateWorkingKey_489 : decode cX10_generateWorkingKey 489 = .ok (.iload 11, 2) := dk_21 11 (dk_at dksX10_generateWorkingKey_20 19 rfl rfl)
theorem dX10_generateWorkingKey_491 : decode cX10_generateWorkingKey 491 = .ok (.bipush 8, 2) := dk_16 8 (dk_at dksX10_generateWorkingKey_20 21 rfl rfl)
theorem dX10_generateWorkingKey_493 : decode cX10_generateWorkingKey 493 = .ok (.invokestatic 7, 3) := dk_184 0 7 (dk_at dksX10_generateWorkingKey_21 0 rfl rfl)
theorem dX10_generateWorkingKey_496 : decode cX10_generateWorkingKey 496 = .ok (.invokestatic 42, 3) := dk_184 0 42 (dk_at dksX10_generateWorkingKey_21 3 rfl rfl)
theorem dX10_generateWorkingKey_499 : decode cX10_generateWorkingKey 499 = .ok (.iload 13, 2) := dk_21 13 (dk_at dksX10_generateWorkingKey_21 6 rfl rfl)
theorem dX10_generateWorkingKey_501 : decode cX10_generateWorkingKey 501 = .ok (.ixor, 1) := dk_130 (dk_at dksX10_generateWorkingKey_21 8 rfl rfl)
theorem dX10_generateWorkingKey_502 : decode cX10_generateWorkingKey 502 = .ok (.istore 14, 2) := dk_54 14 (dk_at dksX10_generateWorkingKey_21 9 rfl rfl)
theorem dX10_generateWorkingKey_504 : decode cX10_generateWorkingKey 504 = .ok (.iload 13, 2) := dk_21 13 (dk_at dksX10_generateWorkingKey_21 11 rfl rfl)
theorem dX10_generateWorkingKey_506 : decode cX10_generateWorkingKey 506 = .ok (.iconst 1, 1) := dk_4 (dk_at dksX10_generateWorkingKey_21 13 rfl rfl)
theorem dX10_generateWorkingKey_507 : decode cX10_generateWorkingKey 507 = .ok (.ishl, 1) := dk_120 (dk_at dksX10_generateWorkingKey_21 14 rfl rfl)
theorem dX10_generateWorkingKey_508 : decode cX10_generateWorkingKey 508 = .ok (.istore 13, 2) := dk_54 13 (dk_at dksX10_generateWorkingKey_21 15 rfl rfl)
theorem dX10_generateWorkingKey_510 : decode cX10_generateWorkingKey 510 = .ok (.iload 6, 2) := dk_21 6 (dk_at dksX10_generateWorkingKey_21 17 rfl rfl)
theorem dX10_generateWorkingKey_512 : decode cX10_generateWorkingKey 512 = .ok (.iload 14, 2) := dk_21 14 (dk_at dksX10_generateWorkingKey_21 19 rfl rfl)
theorem dX10_generateWorkingKey_514 : decode cX10_generateWorkingKey 514 = .ok (.ixor, 1) := dk_130 (dk_at dksX10_generateWorkingKey_21 21 rfl rfl)
theorem dX10_generateWorkingKey_515 : decode cX10_generateWorkingKey 515 = .ok (.istore 6, 2) := dk_54 6 (dk_at dksX10_generateWorkingKey_21 22 rfl rfl)
theorem dX10_generateWorkingKey_517 : decode cX10_generateWorkingKey 517 = .ok (.aload 5, 2) := dk_25 5 (dk_at dksX10_generateWorkingKey_22 0 rfl rfl)
theorem dX10_generateWorkingKey_519 : decode cX10_generateWorkingKey 519 = .ok (.iload 12, 2) := dk_21 12 (dk_at dksX10_generateWorkingKey_22 2 rfl rfl)
theorem dX10_generateWorkingKey_521 : decode cX10_generateWorkingKey 521 = .ok (.iconst 2, 1) := dk_5 (dk_at dksX10_generateWorkingKey_22 4 rfl rfl)
theorem dX10_generateWorkingKey_522 : decode cX10_generateWorkingKey 522 = .ok (.iadd, 1) := dk_96 (dk_at dksX10_generateWorkingKey_22 5 rfl rfl)
theorem dX10_generateWorkingKey_523 : decode cX10_generateWorkingKey 523 = .ok (.aaload, 1) := dk_50 (dk_at dksX10_generateWorkingKey_22 6 rfl rfl)
theorem dX10_generateWorkingKey_524 : decode cX10_generateWorkingKey 524 = .ok (.iconst 0, 1) := dk_3 (dk_at dksX10_generateWorkingKey_22 7 rfl rfl)
theorem dX10_generateWorkingKey_525 : decode cX10_generateWorkingKey 525 = .ok (.iload 6, 2) := dk_21 6 (dk_at dksX10_generateWorkingKey_22 8 rfl rfl)
theorem dX10_generateWorkingKey_527 : decode cX10_generateWorkingKey 527 = .ok (.iastore, 1) := dk_79 (dk_at dksX10_generateWorkingKey_22 10 rfl rfl)
theorem dX10_generateWorkingKey_528 : decode cX10_generateWorkingKey 528 = .ok (.iload 7, 2) := dk_21 7 (dk_at dksX10_generateWorkingKey_22 11 rfl rfl)
theorem dX10_generateWorkingKey_530 : decode cX10_generateWorkingKey 530 = .ok (.iload 6, 2) := dk_21 6 (dk_at dksX10_generateWorkingKey_22 13 rfl rfl)
theorem dX10_generateWorkingKey_532 : decode cX10_generateWorkingKey 532 = .ok (.ixor, 1) := dk_130 (dk_at dksX10_generateWorkingKey_22 15 rfl rfl)
theorem dX10_generateWorkingKey_533 : decode cX10_generateWorkingKey 533 = .ok (.istore 7, 2) := dk_54 7 (dk_at dksX10_generateWorkingKey_22 16 rfl rfl)
theorem dX10_generateWorkingKey_535 : decode cX10_generateWorkingKey 535 = .ok (.aload 5, 2) := dk_25 5 (dk_at dksX10_generateWorkingKey_22 18 rfl rfl)
theorem dX10_generateWorkingKey_537 : decode cX10_generateWorkingKey 537 = .ok (.iload 12, 2) := dk_21 12 (dk_at dksX10_generateWorkingKey_22 20 rfl rfl)
theorem dX10_generateWorkingKey_539 : decode cX10_generateWorkingKey 539 = .ok (.iconst 2, 1) := dk_5 (dk_at dksX10_generateWorkingKey_22 22 rfl rfl)
theorem dX10_generateWorkingKey_540 : decode cX10_generateWorkingKey 540 = .ok (.iadd, 1) := dk_96 (dk_at dksX10_generateWorkingKey_22 23 rfl rfl)
theorem dX10_generateWorkingKey_541 : decode cX10_generateWorkingKey 541 = .ok (.aaload, 1) := dk_50 (dk_at dksX10_generateWorkingKey_23 0 rfl rfl)
theorem dX10_generateWorkingKey_542 : decode cX10_generateWorkingKey 542 = .ok (.iconst 1, 1) := dk_4 (dk_at dksX10_generateWorkingKey_23 1 rfl rfl)
theorem dX10_generateWorkingKey_543 : decode cX10_generateWorkingKey 543 = .ok (.iload 7, 2) := dk_21 7 (dk_at dksX10_generateWorkingKey_23 2 rfl rfl)
theorem dX10_generateWorkingKey_545 : decode cX10_generateWorkingKey 545 = .ok (.iastore, 1) := dk_79 (dk_at dksX10_generateWorkingKey_23 4 rfl rfl)
theorem dX10_generateWorkingKey_546 : decode cX10_generateWorkingKey 546 = .ok (.iload 8, 2) := dk_21 8 (dk_at dksX10_generateWorkingKey_23 5 rfl rfl)
theorem dX10_generateWorkingKey_548 : decode cX10_generateWorkingKey 548 = .ok (.iload 7, 2) := dk_21 7 (dk_at dksX10_generateWorkingKey_23 7 rfl rfl)
theorem dX10_generateWorkingKey_550 : decode cX10_generateWorkingKey 550 = .ok (.ixor, 1) := dk_130 (dk_at dksX10_generateWorkingKey_23 9 rfl rfl)
theorem dX10_generateWorkingKey_551 : decode cX10_generateWorkingKey 551 = .ok (.istore 8, 2) := dk_54 8 (dk_at dksX10_generateWorkingKey_23 10 rfl rfl)
theorem dX10_generateWorkingKey_553 : decode cX10_generateWorkingKey 553 = .ok (.aload 5, 2) := dk_25 5 (dk_at dksX10_generateWorkingKey_23 12 rfl rfl)
theorem dX10_generateWorkingKey_555 : decode cX10_generateWorkingKey 555 = .ok (.iload 12, 2) := dk_21 12 (dk_at dksX10_generateWorkingKey_23 14 rfl rfl)
theorem dX10_generateWorkingKey_557 : decode cX10_generateWorkingKey 557 = .ok (.iconst 2, 1) := dk_5 (dk_at dksX10_generateWorkingKey_23 16 rfl rfl)
theorem dX10_generateWorkingKey_558 : decode cX10_generateWorkingKey 558 = .ok (.iadd, 1) := dk_96 (dk_at dksX10_generateWorkingKey_23 17 rfl rfl)
theorem dX10_generateWorkingKey_559 : decode cX10_generateWorkingKey 559 = .ok (.aaload, 1) := dk_50 (dk_at dksX10_generateWorkingKey_23 18 rfl rfl)
theorem dX10_generateWorkingKey_560 : decode cX10_generateWorkingKey 560 = .ok (.iconst 2, 1) := dk_5 (dk_at dksX10_generateWorkingKey_23 19 rfl rfl)
theorem dX10_generateWorkingKey_561 : decode cX10_generateWorkingKey 561 = .ok (.iload 8, 2) := dk_21 8 (dk_at dksX10_generateWorkingKey_23 20 rfl rfl)
theorem dX10_generateWorkingKey_563 : decode cX10_generateWorkingKey 563 = .ok (.iastore, 1) := dk_79 (dk_at dksX10_generateWorkingKey_23 22 rfl rfl)
theorem dX10_generateWorkingKey_564 : decode cX10_generateWorkingKey 564 = .ok (.iload 9, 2) := dk_21 9 (dk_at dksX10_generateWorkingKey_24 0 rfl rfl)
theorem dX10_generateWorkingKey_566 : decode cX10_generateWorkingKey 566 = .ok (.iload 8, 2) := dk_21 8 (dk_at dksX10_generateWorkingKey_24 2 rfl rfl)
theorem dX10_generateWorkingKey_568 : decode cX10_generateWorkingKey 568 = .ok (.ixor, 1) := dk_130 (dk_at dksX10_generateWorkingKey_24 4 rfl rfl)
theorem dX10_generateWorkingKey_569 : decode cX10_generateWorkingKey 569 = .ok (.istore 9, 2) := dk_54 9 (dk_at dksX10_generateWorkingKey_24 5 rfl rfl)
theorem dX10_generateWorkingKey_571 : decode cX10_generateWorkingKey 571 = .ok (.aload 5, 2) := dk_25 5 (dk_at dksX10_generateWorkingKey_24 7 rfl rfl)
theorem dX10_generateWorkingKey_573 : decode cX10_generateWorkingKey 573 = .ok (.iload 12, 2) := dk_21 12 (dk_at dksX10_generateWorkingKey_24 9 rfl rfl)
theorem dX10_generateWorkingKey_575 : decode cX10_generateWorkingKey 575 = .ok (.iconst 2, 1) := dk_5 (dk_at dksX10_generateWorkingKey_24 11 rfl rfl)
theorem dX10_generateWorkingKey_576 : decode cX10_generateWorkingKey 576 = .ok (.iadd, 1) := dk_96 (dk_at dksX10_generateWorkingKey_24 12 rfl rfl)
theorem dX10_generateWorkingKey_577 : decode cX10_generateWorkingKey 577 = .ok (.aaload, 1) := dk_50 (dk_at dksX10_generateWorkingKey_24 13 rfl rfl)
theorem dX10_generateWorkingKey_578 : decode cX10_generateWorkingKey 578 = .ok (.iconst 3, 1) := dk_6 (dk_at dksX10_generateWorkingKey_24 14 rfl rfl)
theorem dX10_generateWorkingKey_579 : decode cX10_generateWorkingKey 579 = .ok (.iload 9, 2) := dk_21 9 (dk_at dksX10_generateWorkingKey_24 15 rfl rfl)
theorem dX10_generateWorkingKey_581 : decode cX10_generateWorkingKey 581 = .ok (.iastore, 1) := dk_79 (dk_at dksX10_generateWorkingKey_24 17 rfl rfl)
theorem dX10_generateWorkingKey_582 : decode cX10_generateWorkingKey 582 = .ok (.iinc 12 3, 3) := dk_132 12 3 (dk_at dksX10_generateWorkingKey_24 18 rfl rfl)
theorem dX10_generateWorkingKey_585 : decode cX10_generateWorkingKey 585 = .ok (.iload 12, 2) := dk_21 12 (dk_at dksX10_generateWorkingKey_24 21 rfl rfl)
theorem dX10_generateWorkingKey_587 : decode cX10_generateWorkingKey 587 = .ok (.bipush 13, 2) := dk_16 13 (dk_at dksX10_generateWorkingKey_25 0 rfl rfl)
theorem dX10_generateWorkingKey_589 : decode cX10_generateWorkingKey 589 = .ok (.if_icmp .lt 6, 3) := dk_161 0 6 (dk_at dksX10_generateWorkingKey_25 2 rfl rfl)
theorem dX10_generateWorkingKey_592 : decode cX10_generateWorkingKey 592 = .ok (.goto 337, 3) := dk_167 1 81 (dk_at dksX10_generateWorkingKey_25 5 rfl rfl)
theorem dX10_generateWorkingKey_595 : decode cX10_generateWorkingKey 595 = .ok (.iload 10, 2) := dk_21 10 (dk_at dksX10_generateWorkingKey_25 8 rfl rfl)
theorem dX10_generateWorkingKey_597 : decode cX10_generateWorkingKey 597 = .ok (.iload 9, 2) := dk_21 9 (dk_at dksX10_generateWorkingKey_25 10 rfl rfl)
theorem dX10_generateWorkingKey_599 : decode cX10_generateWorkingKey 599 = .ok (.ixor, 1) := dk_130 (dk_at dksX10_generateWorkingKey_25 12 rfl rfl)
theorem dX10_generateWorkingKey_600 : decode cX10_generateWorkingKey 600 = .ok (.istore 10, 2) := dk_54 10 (dk_at dksX10_generateWorkingKey_25 13 rfl rfl)
theorem dX10_generateWorkingKey_602 : decode cX10_generateWorkingKey 602 = .ok (.iload 11, 2) := dk_21 11 (dk_at dksX10_generateWorkingKey_25 15 rfl rfl)
theorem dX10_generateWorkingKey_604 : decode cX10_generateWorkingKey 604 = .ok (.iload 10, 2) := dk_21 10 (dk_at dksX10_generateWorkingKey_25 17 rfl rfl)
theorem dX10_generateWorkingKey_606 : decode cX10_generateWorkingKey 606 = .ok (.ixor, 1) := dk_130 (dk_at dksX10_generateWorkingKey_25 19 rfl rfl)
theorem dX10_generateWorkingKey_607 : decode cX10_generateWorkingKey 607 = .ok (.istore 11, 2) := dk_54 11 (dk_at dksX10_generateWorkingKey_25 20 rfl rfl)
theorem dX10_generateWorkingKey_609 : decode cX10_generateWorkingKey 609 = .ok (.goto (-263), 3) := dk_167 254 249 (dk_at dksX10_generateWorkingKey_26 0 rfl rfl)
theorem dX10_generateWorkingKey_612 : decode cX10_generateWorkingKey 612 = .ok (.aload_n 1, 1) := dk_43 (dk_at dksX10_generateWorkingKey_26 3 rfl rfl)
theorem dX10_generateWorkingKey_613 : decode cX10_generateWorkingKey 613 = .ok (.iconst 0, 1) := dk_3 (dk_at dksX10_generateWorkingKey_26 4 rfl rfl)
theorem dX10_generateWorkingKey_614 : decode cX10_generateWorkingKey 614 = .ok (.invokestatic 36, 3) := dk_184 0 36 (dk_at dksX10_generateWorkingKey_26 5 rfl rfl)
theorem dX10_generateWorkingKey_617 : decode cX10_generateWorkingKey 617 = .ok (.istore 6, 2) := dk_54 6 (dk_at dksX10_generateWorkingKey_26 8 rfl rfl)
theorem dX10_generateWorkingKey_619 : decode cX10_generateWorkingKey 619 = .ok (.aload 5, 2) := dk_25 5 (dk_at dksX10_generateWorkingKey_26 10 rfl rfl)
theorem dX10_generateWorkingKey_621 : decode cX10_generateWorkingKey 621 = .ok (.iconst 0, 1) := dk_3 (dk_at dksX10_generateWorkingKey_26 12 rfl rfl)
theorem dX10_generateWorkingKey_622 : decode cX10_generateWorkingKey 622 = .ok (.aaload, 1) := dk_50 (dk_at dksX10_generateWorkingKey_26 13 rfl rfl)
theorem dX10_generateWorkingKey_623 : decode cX10_generateWorkingKey 623 = .ok (.iconst 0, 1) := dk_3 (dk_at dksX10_generateWorkingKey_26 14 rfl rfl)
theorem dX10_generateWorkingKey_624 : decode cX10_generateWorkingKey 624 = .ok (.iload 6, 2) := dk_21 6 (dk_at dksX10_generateWorkingKey_26 15 rfl rfl)
theorem dX10_generateWorkingKey_626 : decode cX10_generateWorkingKey 626 = .ok (.iastore, 1) := dk_79 (dk_at dksX10_generateWorkingKey_26 17 rfl rfl)
theorem dX10_generateWorkingKey_627 : decode cX10_generateWorkingKey 627 = .ok (.aload_n 1, 1) := dk_43 (dk_at dksX10_generateWorkingKey_26 18 rfl rfl)
theorem dX10_generateWorkingKey_628 : decode cX10_generateWorkingKey 628 = .ok (.iconst 4, 1) := dk_7 (dk_at dksX10_generateWorkingKey_26 19 rfl rfl)
theorem dX10_generateWorkingKey_629 : decode cX10_generateWorkingKey 629 = .ok (.invokestatic 36, 3) := dk_184 0 36 (dk_at dksX10_generateWorkingKey_26 20 rfl rfl)
theorem dX10_generateWorkingKey_632 : decode cX10_generateWorkingKey 632 = .ok (.istore 7, 2) := dk_54 7 (dk_at dksX10_generateWorkingKey_27 0 rfl rfl)
theorem dX10_generateWorkingKey_634 : decode cX10_generateWorkingKey 634 = .ok (.aload 5, 2) := dk_25 5 (dk_at dksX10_generateWorkingKey_27 2 rfl rfl)
theorem dX10_generateWorkingKey_636 : decode cX10_generateWorkingKey 636 = .ok (.iconst 0, 1) := dk_3 (dk_at dksX10_generateWorkingKey_27 4 rfl rfl)
theorem dX10_generateWorkingKey_637 : decode cX10_generateWorkingKey 637 = .ok (.aaload, 1) := dk_50 (dk_at dksX10_generateWorkingKey_27 5 rfl rfl)
theorem dX10_generateWorkingKey_638 : decode cX10_generateWorkingKey 638 = .ok (.iconst 1, 1) := dk_4 (dk_at dksX10_generateWorkingKey_27 6 rfl rfl)
theorem dX10_generateWorkingKey_639 : decode cX10_generateWorkingKey 639 = .ok (.iload 7, 2) := dk_21 7 (dk_at dksX10_generateWorkingKey_27 7 rfl rfl)
theorem dX10_generateWorkingKey_641 : decode cX10_generateWorkingKey 641 = .ok (.iastore, 1) := dk_79 (dk_at dksX10_generateWorkingKey_27 9 rfl rfl)
theorem dX10_generateWorkingKey_642 : decode cX10_generateWorkingKey 642 = .ok (.aload_n 1, 1) := dk_43 (dk_at dksX10_generateWorkingKey_27 10 rfl rfl)
theorem dX10_generateWorkingKey_643 : decode cX10_generateWorkingKey 643 = .ok (.bipush 8, 2) := dk_16 8 (dk_at dksX10_generateWorkingKey_27 11 rfl rfl)
theorem dX10_generateWorkingKey_645 : decode cX10_generateWorkingKey 645 = .ok (.invokestatic 36, 3) := dk_184 0 36 (dk_at dksX10_generateWorkingKey_27 13 rfl rfl)
theorem dX10_generateWorkingKey_648 : decode cX10_generateWorkingKey 648 = .ok (.istore 8, 2) := dk_54 8 (dk_at dksX10_generateWorkingKey_27 16 rfl rfl)
theorem dX10_generateWorkingKey_650 : decode cX10_generateWorkingKey 650 = .ok (.aload 5, 2) := dk_25 5 (dk_at dksX10_generateWorkingKey_27 18 rfl rfl)
theorem dX10_generateWorkingKey_652 : decode cX10_generateWorkingKey 652 = .ok (.iconst 0, 1) := dk_3 (dk_at dksX10_generateWorkingKey_27 20 rfl rfl)
theorem dX10_generateWorkingKey_653 : decode cX10_generateWorkingKey 653 = .ok (.aaload, 1) := dk_50 (dk_at dksX10_generateWorkingKey_27 21 rfl rfl)
theorem dX10_generateWorkingKey_654 : decode cX10_generateWorkingKey 654 = .ok (.iconst 2, 1) := dk_5 (dk_at dksX10_generateWorkingKey_27 22 rfl rfl)
theorem dX10_generateWorkingKey_655 : decode cX10_generateWorkingKey 655 = .ok (.iload 8, 2) := dk_21 8 (dk_at dksX10_generateWorkingKey_28 0 rfl rfl)
theorem dX10_generateWorkingKey_657 : decode cX10_generateWorkingKey 657 = .ok (.iastore, 1) := dk_79 (dk_at dksX10_generateWorkingKey_28 2 rfl rfl)
theorem dX10_generateWorkingKey_658 : decode cX10_generateWorkingKey 658 = .ok (.aload_n 1, 1) := dk_43 (dk_at dksX10_generateWorkingKey_28 3 rfl rfl)
theorem dX10_generateWorkingKey_659 : decode cX10_generateWorkingKey 659 = .ok (.bipush 12, 2) := dk_16 12 (dk_at dksX10_generateWorkingKey_28 4 rfl rfl)
theorem dX10_generateWorkingKey_661 : decode cX10_generateWorkingKey 661 = .ok (.invokestatic 36, 3) := dk_184 0 36 (dk_at dksX10_generateWorkingKey_28 6 rfl rfl)
theorem dX10_generateWorkingKey_664 : decode cX10_generateWorkingKey 664 = .ok (.istore 9, 2) := dk_54 9 (dk_at dksX10_generateWorkingKey_28 9 rfl rfl)
theorem dX10_generateWorkingKey_666 : decode cX10_generateWorkingKey 666 = .ok (.aload 5, 2) := dk_25 5 (dk_at dksX10_generateWorkingKey_28 11 rfl rfl)
theorem dX10_generateWorkingKey_668 : decode cX10_generateWorkingKey 668 = .ok (.iconst 0, 1) := dk_3 (dk_at dksX10_generateWorkingKey_28 13 rfl rfl)
theorem dX10_generateWorkingKey_669 : decode cX10_generateWorkingKey 669 = .ok (.aaload, 1) := dk_50 (dk_at dksX10_generateWorkingKey_28 14 rfl rfl)
theorem dX10_generateWorkingKey_670 : decode cX10_generateWorkingKey 670 = .ok (.iconst 3, 1) := dk_6 (dk_at dksX10_generateWorkingKey_28 15 rfl rfl)
theorem dX10_generateWorkingKey_671 : decode cX10_generateWorkingKey 671 = .ok (.iload 9, 2) := dk_21 9 (dk_at dksX10_generateWorkingKey_28 16 rfl rfl)
theorem dX10_generateWorkingKey_673 : decode cX10_generateWorkingKey 673 = .ok (.iastore, 1) := dk_79 (dk_at dksX10_generateWorkingKey_28 18 rfl rfl)
theorem dX10_generateWorkingKey_674 : decode cX10_generateWorkingKey 674 = .ok (.aload_n 1, 1) := dk_43 (dk_at dksX10_generateWorkingKey_28 19 rfl rfl)
theorem dX10_generateWorkingKey_675 : decode cX10_generateWorkingKey 675 = .ok (.bipush 16, 2) := dk_16 16 (dk_at dksX10_generateWorkingKey_28 20 rfl rfl)
theorem dX10_generateWorkingKey_677 : decode cX10_generateWorkingKey 677 = .ok (.invokestatic 36, 3) := dk_184 0 36 (dk_at dksX10_generateWorkingKey_29 0 rfl rfl)
theorem dX10_generateWorkingKey_680 : decode cX10_generateWorkingKey 680 = .ok (.istore 10, 2) := dk_54 10 (dk_at dksX10_generateWorkingKey_29 3 rfl rfl)
theorem dX10_generateWorkingKey_682 : decode cX10_generateWorkingKey 682 = .ok (.aload 5, 2) := dk_25 5 (dk_at dksX10_generateWorkingKey_29 5 rfl rfl)
theorem dX10_generateWorkingKey_684 : decode cX10_generateWorkingKey 684 = .ok (.iconst 1, 1) := dk_4 (dk_at dksX10_generateWorkingKey_29 7 rfl rfl)
theorem dX10_generateWorkingKey_685 : decode cX10_generateWorkingKey 685 = .ok (.aaload, 1) := dk_50 (dk_at dksX10_generateWorkingKey_29 8 rfl rfl)
theorem dX10_generateWorkingKey_686 : decode cX10_generateWorkingKey 686 = .ok (.iconst 0, 1) := dk_3 (dk_at dksX10_generateWorkingKey_29 9 rfl rfl)
theorem dX10_generateWorkingKey_687 : decode cX10_generateWorkingKey 687 = .ok (.iload 10, 2) := dk_21 10 (dk_at dksX10_generateWorkingKey_29 10 rfl rfl)
theorem dX10_generateWorkingKey_689 : decode cX10_generateWorkingKey 689 = .ok (.iastore, 1) := dk_79 (dk_at dksX10_generateWorkingKey_29 12 rfl rfl)
theorem dX10_generateWorkingKey_690 : decode cX10_generateWorkingKey 690 = .ok (.aload_n 1, 1) := dk_43 (dk_at dksX10_generateWorkingKey_29 13 rfl rfl)
theorem dX10_generateWorkingKey_691 : decode cX10_generateWorkingKey 691 = .ok (.bipush 20, 2) := dk_16 20 (dk_at dksX10_generateWorkingKey_29 14 rfl rfl)
theorem dX10_generateWorkingKey_693 : decode cX10_generateWorkingKey 693 = .ok (.invokestatic 36, 3) := dk_184 0 36 (dk_at dksX10_generateWorkingKey_29 16 rfl rfl)
theorem dX10_generateWorkingKey_696 : decode cX10_generateWorkingKey 696 = .ok (.istore 11, 2) := dk_54 11 (dk_at dksX10_generateWorkingKey_29 19 rfl rfl)
theorem dX10_generateWorkingKey_698 : decode cX10_generateWorkingKey 698 = .ok (.aload 5, 2) := dk_25 5 (dk_at dksX10_generateWorkingKey_29 21 rfl rfl)
theorem dX10_generateWorkingKey_700 : decode cX10_generateWorkingKey 700 = .ok (.iconst 1, 1) := dk_4 (dk_at dksX10_generateWorkingKey_29 23 rfl rfl)
theorem dX10_generateWorkingKey_701 : decode cX10_generateWorkingKey 701 = .ok (.aaload, 1) := dk_50 (dk_at dksX10_generateWorkingKey_30 0 rfl rfl)
theorem dX10_generateWorkingKey_702 : decode cX10_generateWorkingKey 702 = .ok (.iconst 1, 1) := dk_4 (dk_at dksX10_generateWorkingKey_30 1 rfl rfl)
theorem dX10_generateWorkingKey_703 : decode cX10_generateWorkingKey 703 = .ok (.iload 11, 2) := dk_21 11 (dk_at dksX10_generateWorkingKey_30 2 rfl rfl)
theorem dX10_generateWorkingKey_705 : decode cX10_generateWorkingKey 705 = .ok (.iastore, 1) := dk_79 (dk_at dksX10_generateWorkingKey_30 4 rfl rfl)
theorem dX10_generateWorkingKey_706 : decode cX10_generateWorkingKey 706 = .ok (.aload_n 1, 1) := dk_43 (dk_at dksX10_generateWorkingKey_30 5 rfl rfl)
theorem dX10_generateWorkingKey_707 : decode cX10_generateWorkingKey 707 = .ok (.bipush 24, 2) := dk_16 24 (dk_at dksX10_generateWorkingKey_30 6 rfl rfl)
theorem dX10_generateWorkingKey_709 : decode cX10_generateWorkingKey 709 = .ok (.invokestatic 36, 3) := dk_184 0 36 (dk_at dksX10_generateWorkingKey_30 8 rfl rfl)
theorem dX10_generateWorkingKey_712 : decode cX10_generateWorkingKey 712 = .ok (.istore 12, 2) := dk_54 12 (dk_at dksX10_generateWorkingKey_30 11 rfl rfl)
theorem dX10_generateWorkingKey_714 : decode cX10_generateWorkingKey 714 = .ok (.aload 5, 2) := dk_25 5 (dk_at dksX10_generateWorkingKey_30 13 rfl rfl)
theorem dX10_generateWorkingKey_716 : decode cX10_generateWorkingKey 716 = .ok (.iconst 1, 1) := dk_4 (dk_at dksX10_generateWorkingKey_30 15 rfl rfl)
theorem dX10_generateWorkingKey_717 : decode cX10_generateWorkingKey 717 = .ok (.aaload, 1) := dk_50 (dk_at dksX10_generateWorkingKey_30 16 rfl rfl)
theorem dX10_generateWorkingKey_718 : decode cX10_generateWorkingKey 718 = .ok (.iconst 2, 1) := dk_5 (dk_at dksX10_generateWorkingKey_30 17 rfl rfl)
theorem dX10_generateWorkingKey_719 : decode cX10_generateWorkingKey 719 = .ok (.iload 12, 2) := dk_21 12 (dk_at dksX10_generateWorkingKey_30 18 rfl rfl)
theorem dX10_generateWorkingKey_721 : decode cX10_generateWorkingKey 721 = .ok (.iastore, 1) := dk_79 (dk_at dksX10_generateWorkingKey_30 20 rfl rfl)
theorem dX10_generateWorkingKey_722 : decode cX10_generateWorkingKey 722 = .ok (.aload_n 1, 1) := dk_43 (dk_at dksX10_generateWorkingKey_30 21 rfl rfl)
theorem dX10_generateWorkingKey_723 : decode cX10_generateWorkingKey 723 = .ok (.bipush 28, 2) := dk_16 28 (dk_at dksX10_generateWorkingKey_30 22 rfl rfl)
theorem dX10_generateWorkingKey_725 : decode cX10_generateWorkingKey 725 = .ok (.invokestatic 36, 3) := dk_184 0 36 (dk_at dksX10_generateWorkingKey_31 0 rfl rfl)
theorem dX10_generateWorkingKey_728 : decode cX10_generateWorkingKey 728 = .ok (.istore 13, 2) := dk_54 13 (dk_at dksX10_generateWorkingKey_31 3 rfl rfl)
theorem dX10_generateWorkingKey_730 : decode cX10_generateWorkingKey 730 = .ok (.aload 5, 2) := dk_25 5 (dk_at dksX10_generateWorkingKey_31 5 rfl rfl)
theorem dX10_generateWorkingKey_732 : decode cX10_generateWorkingKey 732 = .ok (.iconst 1, 1) := dk_4 (dk_at dksX10_generateWorkingKey_31 7 rfl rfl)
theorem dX10_generateWorkingKey_733 : decode cX10_generateWorkingKey 733 = .ok (.aaload, 1) := dk_50 (dk_at dksX10_generateWorkingKey_31 8 rfl rfl)
theorem dX10_generateWorkingKey_734 : decode cX10_generateWorkingKey 734 = .ok (.iconst 3, 1) := dk_6 (dk_at dksX10_generateWorkingKey_31 9 rfl rfl)
theorem dX10_generateWorkingKey_735 : decode cX10_generateWorkingKey 735 = .ok (.iload 13, 2) := dk_21 13 (dk_at dksX10_generateWorkingKey_31 10 rfl rfl)
theorem dX10_generateWorkingKey_737 : decode cX10_generateWorkingKey 737 = .ok (.iastore, 1) := dk_79 (dk_at dksX10_generateWorkingKey_31 12 rfl rfl)
theorem dX10_generateWorkingKey_738 : decode cX10_generateWorkingKey 738 = .ok (.iconst 2, 1) := dk_5 (dk_at dksX10_generateWorkingKey_31 13 rfl rfl)
theorem dX10_generateWorkingKey_739 : decode cX10_generateWorkingKey 739 = .ok (.istore 14, 2) := dk_54 14 (dk_at dksX10_generateWorkingKey_31 14 rfl rfl)
theorem dX10_generateWorkingKey_741 : decode cX10_generateWorkingKey 741 = .ok (.iconst 1, 1) := dk_4 (dk_at dksX10_generateWorkingKey_31 16 rfl rfl)
theorem dX10_generateWorkingKey_742 : decode cX10_generateWorkingKey 742 = .ok (.istore 15, 2) := dk_54 15 (dk_at dksX10_generateWorkingKey_31 17 rfl rfl)
theorem dX10_generateWorkingKey_744 : decode cX10_generateWorkingKey 744 = .ok (.iload 13, 2) := dk_21 13 (dk_at dksX10_generateWorkingKey_31 19 rfl rfl)
theorem dX10_generateWorkingKey_746 : decode cX10_generateWorkingKey 746 = .ok (.bipush 8, 2) := dk_16 8 (dk_at dksX10_generateWorkingKey_31 21 rfl rfl)
theorem dX10_generateWorkingKey_748 : decode cX10_generateWorkingKey 748 = .ok (.invokestatic 7, 3) := dk_184 0 7 (dk_at dksX10_generateWorkingKey_32 0 rfl rfl)
theorem dX10_generateWorkingKey_751 : decode cX10_generateWorkingKey 751 = .ok (.invokestatic 42, 3) := dk_184 0 42 (dk_at dksX10_generateWorkingKey_32 3 rfl rfl)
theorem dX10_generateWorkingKey_754 : decode cX10_generateWorkingKey 754 = .ok (.iload 15, 2) := dk_21 15 (dk_at dksX10_generateWorkingKey_32 6 rfl rfl)
theorem dX10_generateWorkingKey_756 : decode cX10_generateWorkingKey 756 = .ok (.ixor, 1) := dk_130 (dk_at dksX10_generateWorkingKey_32 8 rfl rfl)
theorem dX10_generateWorkingKey_757 : decode cX10_generateWorkingKey 757 = .ok (.istore 16, 2) := dk_54 16 (dk_at dksX10_generateWorkingKey_32 9 rfl rfl)
theorem dX10_generateWorkingKey_759 : decode cX10_generateWorkingKey 759 = .ok (.iload 15, 2) := dk_21 15 (dk_at dksX10_generateWorkingKey_32 11 rfl rfl)
theorem dX10_generateWorkingKey_761 : decode cX10_generateWorkingKey 761 = .ok (.iconst 1, 1) := dk_4 (dk_at dksX10_generateWorkingKey_32 13 rfl rfl)
theorem dX10_generateWorkingKey_762 : decode cX10_generateWorkingKey 762 = .ok (.ishl, 1) := dk_120 (dk_at dksX10_generateWorkingKey_32 14 rfl rfl)
theorem dX10_generateWorkingKey_763 : decode cX10_generateWorkingKey 763 = .ok (.istore 15, 2) := dk_54 15 (dk_at dksX10_generateWorkingKey_32 15 rfl rfl)
theorem dX10_generateWorkingKey_765 : decode cX10_generateWorkingKey 765 = .ok (.iload 6, 2) := dk_21 6 (dk_at dksX10_generateWorkingKey_32 17 rfl rfl)
theorem dX10_generateWorkingKey_767 : decode cX10_generateWorkingKey 767 = .ok (.iload 16, 2) := dk_21 16 (dk_at dksX10_generateWorkingKey_32 19 rfl rfl)
theorem dX10_generateWorkingKey_769 : decode cX10_generateWorkingKey 769 = .ok (.ixor, 1) := dk_130 (dk_at dksX10_generateWorkingKey_32 21 rfl rfl)
theorem dX10_generateWorkingKey_770 : decode cX10_generateWorkingKey 770 = .ok (.istore 6, 2) := dk_54 6 (dk_at dksX10_generateWorkingKey_32 22 rfl rfl)
theorem dX10_generateWorkingKey_772 : decode cX10_generateWorkingKey 772 = .ok (.aload 5, 2) := dk_25 5 (dk_at dksX10_generateWorkingKey_33 0 rfl rfl)
theorem dX10_generateWorkingKey_774 : decode cX10_generateWorkingKey 774 = .ok (.iload 14, 2) := dk_21 14 (dk_at dksX10_generateWorkingKey_33 2 rfl rfl)
theorem dX10_generateWorkingKey_776 : decode cX10_generateWorkingKey 776 = .ok (.aaload, 1) := dk_50 (dk_at dksX10_generateWorkingKey_33 4 rfl rfl)
theorem dX10_generateWorkingKey_777 : decode cX10_generateWorkingKey 777 = .ok (.iconst 0, 1) := dk_3 (dk_at dksX10_generateWorkingKey_33 5 rfl rfl)
theorem dX10_generateWorkingKey_778 : decode cX10_generateWorkingKey 778 = .ok (.iload 6, 2) := dk_21 6 (dk_at dksX10_generateWorkingKey_33 6 rfl rfl)
theorem dX10_generateWorkingKey_780 : decode cX10_generateWorkingKey 780 = .ok (.iastore, 1) := dk_79 (dk_at dksX10_generateWorkingKey_33 8 rfl rfl)
theorem dX10_generateWorkingKey_781 : decode cX10_generateWorkingKey 781 = .ok (.iload 7, 2) := dk_21 7 (dk_at dksX10_generateWorkingKey_33 9 rfl rfl)
theorem dX10_generateWorkingKey_783 : decode cX10_generateWorkingKey 783 = .ok (.iload 6, 2) := dk_21 6 (dk_at dksX10_generateWorkingKey_33 11 rfl rfl)
theorem dX10_generateWorkingKey_785 : decode cX10_generateWorkingKey 785 = .ok (.ixor, 1) := dk_130 (dk_at dksX10_generateWorkingKey_33 13 rfl rfl)
theorem dX10_generateWorkingKey_786 : decode cX10_generateWorkingKey 786 = .ok (.istore 7, 2) := dk_54 7 (dk_at dksX10_generateWorkingKey_33 14 rfl rfl)
theorem dX10_generateWorkingKey_788 : decode cX10_generateWorkingKey 788 = .ok (.aload 5, 2) := dk_25 5 (dk_at dksX10_generateWorkingKey_33 16 rfl rfl)
theorem dX10_generateWorkingKey_790 : decode cX10_generateWorkingKey 790 = .ok (.iload 14, 2) := dk_21 14 (dk_at dksX10_generateWorkingKey_33 18 rfl rfl)
theorem dX10_generateWorkingKey_792 : decode cX10_generateWorkingKey 792 = .ok (.aaload, 1) := dk_50 (dk_at dksX10_generateWorkingKey_33 20 rfl rfl)
theorem dX10_generateWorkingKey_793 : decode cX10_generateWorkingKey 793 = .ok (.iconst 1, 1) := dk_4 (dk_at dksX10_generateWorkingKey_33 21 rfl rfl)
theorem dX10_generateWorkingKey_794 : decode cX10_generateWorkingKey 794 = .ok (.iload 7, 2) := dk_21 7 (dk_at dksX10_generateWorkingKey_33 22 rfl rfl)
theorem dX10_generateWorkingKey_796 : decode cX10_generateWorkingKey 796 = .ok (.iastore, 1) := dk_79 (dk_at dksX10_generateWorkingKey_34 0 rfl rfl)
theorem dX10_generateWorkingKey_797 : decode cX10_generateWorkingKey 797 = .ok (.iload 8, 2) := dk_21 8 (dk_at dksX10_generateWorkingKey_34 1 rfl rfl)
theorem dX10_generateWorkingKey_799 : decode cX10_generateWorkingKey 799 = .ok (.iload 7, 2) := dk_21 7 (dk_at dksX10_generateWorkingKey_34 3 rfl rfl)
theorem dX10_generateWorkingKey_801 : decode cX10_generateWorkingKey 801 = .ok (.ixor, 1) := dk_130 (dk_at dksX10_generateWorkingKey_34 5 rfl rfl)
theorem dX10_generateWorkingKey_802 : decode cX10_generateWorkingKey 802 = .ok (.istore 8, 2) := dk_54 8 (dk_at dksX10_generateWorkingKey_34 6 rfl rfl)
theorem dX10_generateWorkingKey_804 : decode cX10_generateWorkingKey 804 = .ok (.aload 5, 2) := dk_25 5 (dk_at dksX10_generateWorkingKey_34 8 rfl rfl)
theorem dX10_generateWorkingKey_806 : decode cX10_generateWorkingKey 806 = .ok (.iload 14, 2) := dk_21 14 (dk_at dksX10_generateWorkingKey_34 10 rfl rfl)
theorem dX10_generateWorkingKey_808 : decode cX10_generateWorkingKey 808 = .ok (.aaload, 1) := dk_50 (dk_at dksX10_generateWorkingKey_34 12 rfl rfl)
theorem dX10_generateWorkingKey_809 : decode cX10_generateWorkingKey 809 = .ok (.iconst 2, 1) := dk_5 (dk_at dksX10_generateWorkingKey_34 13 rfl rfl)
theorem dX10_generateWorkingKey_810 : decode cX10_generateWorkingKey 810 = .ok (.iload 8, 2) := dk_21 8 (dk_at dksX10_generateWorkingKey_34 14 rfl rfl)
theorem dX10_generateWorkingKey_812 : decode cX10_generateWorkingKey 812 = .ok (.iastore, 1) := dk_79 (dk_at dksX10_generateWorkingKey_34 16 rfl rfl)
theorem dX10_generateWorkingKey_813 : decode cX10_generateWorkingKey 813 = .ok (.iload 9, 2) := dk_21 9 (dk_at dksX10_generateWorkingKey_34 17 rfl rfl)
theorem dX10_generateWorkingKey_815 : decode cX10_generateWorkingKey 815 = .ok (.iload 8, 2) := dk_21 8 (dk_at dksX10_generateWorkingKey_34 19 rfl rfl)
theorem dX10_generateWorkingKey_817 : decode cX10_generateWorkingKey 817 = .ok (.ixor, 1) := dk_130 (dk_at dksX10_generateWorkingKey_34 21 rfl rfl)
theorem dX10_generateWorkingKey_818 : decode cX10_generateWorkingKey 818 = .ok (.istore 9, 2) := dk_54 9 (dk_at dksX10_generateWorkingKey_34 22 rfl rfl)
theorem dX10_generateWorkingKey_820 : decode cX10_generateWorkingKey 820 = .ok (.aload 5, 2) := dk_25 5 (dk_at dksX10_generateWorkingKey_35 0 rfl rfl)
theorem dX10_generateWorkingKey_822 : decode cX10_generateWorkingKey 822 = .ok (.iload 14, 2) := dk_21 14 (dk_at dksX10_generateWorkingKey_35 2 rfl rfl)
theorem dX10_generateWorkingKey_824 : decode cX10_generateWorkingKey 824 = .ok (.aaload, 1) := dk_50 (dk_at dksX10_generateWorkingKey_35 4 rfl rfl)
theorem dX10_generateWorkingKey_825 : decode cX10_generateWorkingKey 825 = .ok (.iconst 3, 1) := dk_6 (dk_at dksX10_generateWorkingKey_35 5 rfl rfl)
theorem dX10_generateWorkingKey_826 : decode cX10_generateWorkingKey 826 = .ok (.iload 9, 2) := dk_21 9 (dk_at dksX10_generateWorkingKey_35 6 rfl rfl)
theorem dX10_generateWorkingKey_828 : decode cX10_generateWorkingKey 828 = .ok (.iastore, 1) := dk_79 (dk_at dksX10_generateWorkingKey_35 8 rfl rfl)
theorem dX10_generateWorkingKey_829 : decode cX10_generateWorkingKey 829 = .ok (.iinc 14 1, 3) := dk_132 14 1 (dk_at dksX10_generateWorkingKey_35 9 rfl rfl)
theorem dX10_generateWorkingKey_832 : decode cX10_generateWorkingKey 832 = .ok (.iload 14, 2) := dk_21 14 (dk_at dksX10_generateWorkingKey_35 12 rfl rfl)
theorem dX10_generateWorkingKey_834 : decode cX10_generateWorkingKey 834 = .ok (.bipush 15, 2) := dk_16 15 (dk_at dksX10_generateWorkingKey_35 14 rfl rfl)
theorem dX10_generateWorkingKey_836 : decode cX10_generateWorkingKey 836 = .ok (.if_icmp .lt 6, 3) := dk_161 0 6 (dk_at dksX10_generateWorkingKey_35 16 rfl rfl)
theorem dX10_generateWorkingKey_839 : decode cX10_generateWorkingKey 839 = .ok (.goto 90, 3) := dk_167 0 90 (dk_at dksX10_generateWorkingKey_35 19 rfl rfl)
theorem dX10_generateWorkingKey_842 : decode cX10_generateWorkingKey 842 = .ok (.iload 9, 2) := dk_21 9 (dk_at dksX10_generateWorkingKey_35 22 rfl rfl)
theorem dX10_generateWorkingKey_844 : decode cX10_generateWorkingKey 844 = .ok (.invokestatic 42, 3) := dk_184 0 42 (dk_at dksX10_generateWorkingKey_36 0 rfl rfl)
theorem dX10_generateWorkingKey_847 : decode cX10_generateWorkingKey 847 = .ok (.istore 16, 2) := dk_54 16 (dk_at dksX10_generateWorkingKey_36 3 rfl rfl)
theorem dX10_generateWorkingKey_849 : decode cX10_generateWorkingKey 849 = .ok (.iload 10, 2) := dk_21 10 (dk_at dksX10_generateWorkingKey_36 5 rfl rfl)
theorem dX10_generateWorkingKey_851 : decode cX10_generateWorkingKey 851 = .ok (.iload 16, 2) := dk_21 16 (dk_at dksX10_generateWorkingKey_36 7 rfl rfl)
theorem dX10_generateWorkingKey_853 : decode cX10_generateWorkingKey 853 = .ok (.ixor, 1) := dk_130 (dk_at dksX10_generateWorkingKey_36 9 rfl rfl)
theorem dX10_generateWorkingKey_854 : decode cX10_generateWorkingKey 854 = .ok (.istore 10, 2) := dk_54 10 (dk_at dksX10_generateWorkingKey_36 10 rfl rfl)
theorem dX10_generateWorkingKey_856 : decode cX10_generateWorkingKey 856 = .ok (.aload 5, 2) := dk_25 5 (dk_at dksX10_generateWorkingKey_36 12 rfl rfl)
theorem dX10_generateWorkingKey_858 : decode cX10_generateWorkingKey 858 = .ok (.iload 14, 2) := dk_21 14 (dk_at dksX10_generateWorkingKey_36 14 rfl rfl)
theorem dX10_generateWorkingKey_860 : decode cX10_generateWorkingKey 860 = .ok (.aaload, 1) := dk_50 (dk_at dksX10_generateWorkingKey_36 16 rfl rfl)
theorem dX10_generateWorkingKey_861 : decode cX10_generateWorkingKey 861 = .ok (.iconst 0, 1) := dk_3 (dk_at dksX10_generateWorkingKey_36 17 rfl rfl)
theorem dX10_generateWorkingKey_862 : decode cX10_generateWorkingKey 862 = .ok (.iload 10, 2) := dk_21 10 (dk_at dksX10_generateWorkingKey_36 18 rfl rfl)
theorem dX10_generateWorkingKey_864 : decode cX10_generateWorkingKey 864 = .ok (.iastore, 1) := dk_79 (dk_at dksX10_generateWorkingKey_36 20 rfl rfl)
theorem dX10_generateWorkingKey_865 : decode cX10_generateWorkingKey 865 = .ok (.iload 11, 2) := dk_21 11 (dk_at dksX10_generateWorkingKey_36 21 rfl rfl)
theorem dX10_generateWorkingKey_867 : decode cX10_generateWorkingKey 867 = .ok (.iload 10, 2) := dk_21 10 (dk_at dksX10_generateWorkingKey_37 0 rfl rfl)
theorem dX10_generateWorkingKey_869 : decode cX10_generateWorkingKey 869 = .ok (.ixor, 1) := dk_130 (dk_at dksX10_generateWorkingKey_37 2 rfl rfl)
theorem dX10_generateWorkingKey_870 : decode cX10_generateWorkingKey 870 = .ok (.istore 11, 2) := dk_54 11 (dk_at dksX10_generateWorkingKey_37 3 rfl rfl)
theorem dX10_generateWorkingKey_872 : decode cX10_generateWorkingKey 872 = .ok (.aload 5, 2) := dk_25 5 (dk_at dksX10_generateWorkingKey_37 5 rfl rfl)
theorem dX10_generateWorkingKey_874 : decode cX10_generateWorkingKey 874 = .ok (.iload 14, 2) := dk_21 14 (dk_at dksX10_generateWorkingKey_37 7 rfl rfl)
theorem dX10_generateWorkingKey_876 : decode cX10_generateWorkingKey 876 = .ok (.aaload, 1) := dk_50 (dk_at dksX10_generateWorkingKey_37 9 rfl rfl)
theorem dX10_generateWorkingKey_877 : decode cX10_generateWorkingKey 877 = .ok (.iconst 1, 1) := dk_4 (dk_at dksX10_generateWorkingKey_37 10 rfl rfl)
theorem dX10_generateWorkingKey_878 : decode cX10_generateWorkingKey 878 = .ok (.iload 11, 2) := dk_21 11 (dk_at dksX10_generateWorkingKey_37 11 rfl rfl)
theorem dX10_generateWorkingKey_880 : decode cX10_generateWorkingKey 880 = .ok (.iastore, 1) := dk_79 (dk_at dksX10_generateWorkingKey_37 13 rfl rfl)
theorem dX10_generateWorkingKey_881 : decode cX10_generateWorkingKey 881 = .ok (.iload 12, 2) := dk_21 12 (dk_at dksX10_generateWorkingKey_37 14 rfl rfl)
theorem dX10_generateWorkingKey_883 : decode cX10_generateWorkingKey 883 = .ok (.iload 11, 2) := dk_21 11 (dk_at dksX10_generateWorkingKey_37 16 rfl rfl)
theorem dX10_generateWorkingKey_885 : decode cX10_generateWorkingKey 885 = .ok (.ixor, 1) := dk_130 (dk_at dksX10_generateWorkingKey_37 18 rfl rfl)
theorem dX10_generateWorkingKey_886 : decode cX10_generateWorkingKey 886 = .ok (.istore 12, 2) := dk_54 12 (dk_at dksX10_generateWorkingKey_37 19 rfl rfl)
theorem dX10_generateWorkingKey_888 : decode cX10_generateWorkingKey 888 = .ok (.aload 5, 2) := dk_25 5 (dk_at dksX10_generateWorkingKey_37 21 rfl rfl)
theorem dX10_generateWorkingKey_890 : decode cX10_generateWorkingKey 890 = .ok (.iload 14, 2) := dk_21 14 (dk_at dksX10_generateWorkingKey_38 0 rfl rfl)
theorem dX10_generateWorkingKey_892 : decode cX10_generateWorkingKey 892 = .ok (.aaload, 1) := dk_50 (dk_at dksX10_generateWorkingKey_38 2 rfl rfl)
theorem dX10_generateWorkingKey_893 : decode cX10_generateWorkingKey 893 = .ok (.iconst 2, 1) := dk_5 (dk_at dksX10_generateWorkingKey_38 3 rfl rfl)
theorem dX10_generateWorkingKey_894 : decode cX10_generateWorkingKey 894 = .ok (.iload 12, 2) := dk_21 12 (dk_at dksX10_generateWorkingKey_38 4 rfl rfl)
theorem dX10_generateWorkingKey_896 : decode cX10_generateWorkingKey 896 = .ok (.iastore, 1) := dk_79 (dk_at dksX10_generateWorkingKey_38 6 rfl rfl)
theorem dX10_generateWorkingKey_897 : decode cX10_generateWorkingKey 897 = .ok (.iload 13, 2) := dk_21 13 (dk_at dksX10_generateWorkingKey_38 7 rfl rfl)
theorem dX10_generateWorkingKey_899 : decode cX10_generateWorkingKey 899 = .ok (.iload 12, 2) := dk_21 12 (dk_at dksX10_generateWorkingKey_38 9 rfl rfl)
theorem dX10_generateWorkingKey_901 : decode cX10_generateWorkingKey 901 = .ok (.ixor, 1) := dk_130 (dk_at dksX10_generateWorkingKey_38 11 rfl rfl)
theorem dX10_generateWorkingKey_902 : decode cX10_generateWorkingKey 902 = .ok (.istore 13, 2) := dk_54 13 (dk_at dksX10_generateWorkingKey_38 12 rfl rfl)
theorem dX10_generateWorkingKey_904 : decode cX10_generateWorkingKey 904 = .ok (.aload 5, 2) := dk_25 5 (dk_at dksX10_generateWorkingKey_38 14 rfl rfl)
theorem dX10_generateWorkingKey_906 : decode cX10_generateWorkingKey 906 = .ok (.iload 14, 2) := dk_21 14 (dk_at dksX10_generateWorkingKey_38 16 rfl rfl)
theorem dX10_generateWorkingKey_908 : decode cX10_generateWorkingKey 908 = .ok (.aaload, 1) := dk_50 (dk_at dksX10_generateWorkingKey_38 18 rfl rfl)
theorem dX10_generateWorkingKey_909 : decode cX10_generateWorkingKey 909 = .ok (.iconst 3, 1) := dk_6 (dk_at dksX10_generateWorkingKey_38 19 rfl rfl)
theorem dX10_generateWorkingKey_910 : decode cX10_generateWorkingKey 910 = .ok (.iload 13, 2) := dk_21 13 (dk_at dksX10_generateWorkingKey_38 20 rfl rfl)
theorem dX10_generateWorkingKey_912 : decode cX10_generateWorkingKey 912 = .ok (.iastore, 1) := dk_79 (dk_at dksX10_generateWorkingKey_38 22 rfl rfl)
theorem dX10_generateWorkingKey_913 : decode cX10_generateWorkingKey 913 = .ok (.iinc 14 1, 3) := dk_132 14 1 (dk_at dksX10_generateWorkingKey_39 0 rfl rfl)
theorem dX10_generateWorkingKey_916 : decode cX10_generateWorkingKey 916 = .ok (.goto (-172), 3) := dk_167 255 84 (dk_at dksX10_generateWorkingKey_39 3 rfl rfl)
theorem dX10_generateWorkingKey_919 : decode cX10_generateWorkingKey 919 = .ok (.new 49, 3) := dk_187 0 49 (dk_at dksX10_generateWorkingKey_39 6 rfl rfl)
theorem dX10_generateWorkingKey_922 : decode cX10_generateWorkingKey 922 = .ok (.dup, 1) := dk_89 (dk_at dksX10_generateWorkingKey_39 9 rfl rfl)
theorem dX10_generateWorkingKey_923 : decode cX10_generateWorkingKey 923 = .ok (.ldc 51, 2) := dk_18 51 (dk_at dksX10_generateWorkingKey_39 10 rfl rfl)
theorem dX10_generateWorkingKey_925 : decode cX10_generateWorkingKey 925 = .ok (.invokespecial 53, 3) := dk_183 0 53 (dk_at dksX10_generateWorkingKey_39 12 rfl rfl)
theorem dX10_generateWorkingKey_928 : decode cX10_generateWorkingKey 928 = .ok (.athrow, 1) := dk_191 (dk_at dksX10_generateWorkingKey_39 15 rfl rfl)
theorem dX10_generateWorkingKey_929 : decode cX10_generateWorkingKey 929 = .ok (.iload_n 2, 1) := dk_28 (dk_at dksX10_generateWorkingKey_39 16 rfl rfl)
theorem dX10_generateWorkingKey_930 : decode cX10_generateWorkingKey 930 = .ok (.ifCond .ne 55, 3) := dk_154 0 55 (dk_at dksX10_generateWorkingKey_39 17 rfl rfl)
theorem dX10_generateWorkingKey_933 : decode cX10_generateWorkingKey 933 = .ok (.iconst 1, 1) := dk_4 (dk_at dksX10_generateWorkingKey_39 20 rfl rfl)
theorem dX10_generateWorkingKey_934 : decode cX10_generateWorkingKey 934 = .ok (.istore 6, 2) := dk_54 6 (dk_at dksX10_generateWorkingKey_39 21 rfl rfl)
theorem dX10_generateWorkingKey_936 : decode cX10_generateWorkingKey 936 = .ok (.iload 6, 2) := dk_21 6 (dk_at dksX10_generateWorkingKey_40 0 rfl rfl)
theorem dX10_generateWorkingKey_938 : decode cX10_generateWorkingKey 938 = .ok (.aload_n 0, 1) := dk_42 (dk_at dksX10_generateWorkingKey_40 2 rfl rfl)
theorem dX10_generateWorkingKey_939 : decode cX10_generateWorkingKey 939 = .ok (.getfield 30, 3) := dk_180 0 30 (dk_at dksX10_generateWorkingKey_40 3 rfl rfl)
theorem dX10_generateWorkingKey_942 : decode cX10_generateWorkingKey 942 = .ok (.if_icmp .ge 43, 3) := dk_162 0 43 (dk_at dksX10_generateWorkingKey_40 6 rfl rfl)
theorem dX10_generateWorkingKey_945 : decode cX10_generateWorkingKey 945 = .ok (.iconst 0, 1) := dk_3 (dk_at dksX10_generateWorkingKey_40 9 rfl rfl)
theorem dX10_generateWorkingKey_946 : decode cX10_generateWorkingKey 946 = .ok (.istore 7, 2) := dk_54 7 (dk_at dksX10_generateWorkingKey_40 10 rfl rfl)
theorem dX10_generateWorkingKey_948 : decode cX10_generateWorkingKey 948 = .ok (.iload 7, 2) := dk_21 7 (dk_at dksX10_generateWorkingKey_40 12 rfl rfl)
theorem dX10_generateWorkingKey_950 : decode cX10_generateWorkingKey 950 = .ok (.iconst 4, 1) := dk_7 (dk_at dksX10_generateWorkingKey_40 14 rfl rfl)
theorem dX10_generateWorkingKey_951 : decode cX10_generateWorkingKey 951 = .ok (.if_icmp .ge 28, 3) := dk_162 0 28 (dk_at dksX10_generateWorkingKey_40 15 rfl rfl)
theorem dX10_generateWorkingKey_954 : decode cX10_generateWorkingKey 954 = .ok (.aload 5, 2) := dk_25 5 (dk_at dksX10_generateWorkingKey_40 18 rfl rfl)
theorem dX10_generateWorkingKey_956 : decode cX10_generateWorkingKey 956 = .ok (.iload 6, 2) := dk_21 6 (dk_at dksX10_generateWorkingKey_40 20 rfl rfl)
theorem dX10_generateWorkingKey_958 : decode cX10_generateWorkingKey 958 = .ok (.aaload, 1) := dk_50 (dk_at dksX10_generateWorkingKey_40 22 rfl rfl)
theorem dX10_generateWorkingKey_959 : decode cX10_generateWorkingKey 959 = .ok (.iload 7, 2) := dk_21 7 (dk_at dksX10_generateWorkingKey_41 0 rfl rfl)
theorem dX10_generateWorkingKey_961 : decode cX10_generateWorkingKey 961 = .ok (.aload 5, 2) := dk_25 5 (dk_at dksX10_generateWorkingKey_41 2 rfl rfl)
theorem dX10_generateWorkingKey_963 : decode cX10_generateWorkingKey 963 = .ok (.iload 6, 2) := dk_21 6 (dk_at dksX10_generateWorkingKey_41 4 rfl rfl)
theorem dX10_generateWorkingKey_965 : decode cX10_generateWorkingKey 965 = .ok (.aaload, 1) := dk_50 (dk_at dksX10_generateWorkingKey_41 6 rfl rfl)
theorem dX10_generateWorkingKey_966 : decode cX10_generateWorkingKey 966 = .ok (.iload 7, 2) := dk_21 7 (dk_at dksX10_generateWorkingKey_41 7 rfl rfl)
theorem dX10_generateWorkingKey_968 : decode cX10_generateWorkingKey 968 = .ok (.iaload, 1) := dk_46 (dk_at dksX10_generateWorkingKey_41 9 rfl rfl)
theorem dX10_generateWorkingKey_969 : decode cX10_generateWorkingKey 969 = .ok (.invokestatic 54, 3) := dk_184 0 54 (dk_at dksX10_generateWorkingKey_41 10 rfl rfl)
theorem dX10_generateWorkingKey_972 : decode cX10_generateWorkingKey 972 = .ok (.iastore, 1) := dk_79 (dk_at dksX10_generateWorkingKey_41 13 rfl rfl)
theorem dX10_generateWorkingKey_973 : decode cX10_generateWorkingKey 973 = .ok (.iinc 7 1, 3) := dk_132 7 1 (dk_at dksX10_generateWorkingKey_41 14 rfl rfl)
theorem dX10_generateWorkingKey_976 : decode cX10_generateWorkingKey 976 = .ok (.goto (-28), 3) := dk_167 255 228 (dk_at dksX10_generateWorkingKey_41 17 rfl rfl)
theorem dX10_generateWorkingKey_979 : decode cX10_generateWorkingKey 979 = .ok (.iinc 6 1, 3) := dk_132 6 1 (dk_at dksX10_generateWorkingKey_41 20 rfl rfl)
theorem dX10_generateWorkingKey_982 : decode cX10_generateWorkingKey 982 = .ok (.goto (-46), 3) := dk_167 255 210 (dk_at dksX10_generateWorkingKey_42 0 rfl rfl)
theorem dX10_generateWorkingKey_985 : decode cX10_generateWorkingKey 985 = .ok (.aload 5, 2) := dk_25 5 (dk_at dksX10_generateWorkingKey_42 3 rfl rfl)
theorem dX10_generateWorkingKey_987 : decode cX10_generateWorkingKey 987 = .ok (.areturn, 1) := dk_176 (dk_at dksX10_generateWorkingKey_42 5 rfl rfl)
abbrev cX10_shift : ByteArray := prog_1_method_1_code
def yX10_shift : MethodName := ⟨RX10, "shift", "(II)I"⟩
def dkwX10_shift_0 : List UInt8 := [26, 27, 124, 26, 27, 116, 120, 128, 172]
abbrev dktX10_shift_0 : List UInt8 := dkwX10_shift_0 ++ []
theorem dksX10_shift_0 : cX10_shift.data.toList.drop 0 = dktX10_shift_0 := by decide +kernel
theorem dX10_shift_0 : decode cX10_shift 0 = .ok (.iload_n 0, 1) := dk_26 (dk_at dksX10_shift_0 0 rfl rfl)
theorem dX10_shift_1 : decode cX10_shift 1 = .ok (.iload_n 1, 1) := dk_27 (dk_at dksX10_shift_0 1 rfl rfl)
theorem dX10_shift_2 : decode cX10_shift 2 = .ok (.iushr, 1) := dk_124 (dk_at dksX10_shift_0 2 rfl rfl)
theorem dX10_shift_3 : decode cX10_shift 3 = .ok (.iload_n 0, 1) := dk_26 (dk_at dksX10_shift_0 3 rfl rfl)
theorem dX10_shift_4 : decode cX10_shift 4 = .ok (.iload_n 1, 1) := dk_27 (dk_at dksX10_shift_0 4 rfl rfl)
theorem dX10_shift_5 : decode cX10_shift 5 = .ok (.ineg, 1) := dk_116 (dk_at dksX10_shift_0 5 rfl rfl)
theorem dX10_shift_6 : decode cX10_shift 6 = .ok (.ishl, 1) := dk_120 (dk_at dksX10_shift_0 6 rfl rfl)
theorem dX10_shift_7 : decode cX10_shift 7 = .ok (.ior, 1) := dk_128 (dk_at dksX10_shift_0 7 rfl rfl)
theorem dX10_shift_8 : decode cX10_shift 8 = .ok (.ireturn, 1) := dk_172 (dk_at dksX10_shift_0 8 rfl rfl)
abbrev cX10_subWord : ByteArray := prog_1_method_5_code
def yX10_subWord : MethodName := ⟨RX10, "subWord", "(I)I"⟩
def dkwX10_subWord_2 : List UInt8 := [126, 16, 16, 120, 128, 178, 0, 18, 26, 16, 24, 122, 17, 0, 255, 126, 51, 16, 24, 120, 128, 172]
abbrev dktX10_subWord_2 : List UInt8 := dkwX10_subWord_2 ++ []
def dkwX10_subWord_1 : List UInt8 := [51, 17, 0, 255, 126, 16, 8, 120, 128, 178, 0, 18, 26, 16, 16, 122, 17, 0, 255, 126, 51, 17, 0, 255]
abbrev dktX10_subWord_1 : List UInt8 := dkwX10_subWord_1 ++ dktX10_subWord_2
def dkwX10_subWord_0 : List UInt8 := [178, 0, 18, 26, 17, 0, 255, 126, 51, 17, 0, 255, 126, 178, 0, 18, 26, 16, 8, 122, 17, 0, 255, 126]
abbrev dktX10_subWord_0 : List UInt8 := dkwX10_subWord_0 ++ dktX10_subWord_1
theorem dksX10_subWord_0 : cX10_subWord.data.toList.drop 0 = dktX10_subWord_0 := by decide +kernel
theorem dksX10_subWord_1 : cX10_subWord.data.toList.drop 24 = dktX10_subWord_1 := dk_seg dksX10_subWord_0 24 rfl rfl
theorem dksX10_subWord_2 : cX10_subWord.data.toList.drop 48 = dktX10_subWord_2 := dk_seg dksX10_subWord_1 24 rfl rfl
theorem dX10_subWord_0 : decode cX10_subWord 0 = .ok (.getstatic 18, 3) := dk_178 0 18 (dk_at dksX10_subWord_0 0 rfl rfl)
theorem dX10_subWord_3 : decode cX10_subWord 3 = .ok (.iload_n 0, 1) := dk_26 (dk_at dksX10_subWord_0 3 rfl rfl)
theorem dX10_subWord_4 : decode cX10_subWord 4 = .ok (.sipush 255, 3) := dk_17 0 255 (dk_at dksX10_subWord_0 4 rfl rfl)
theorem dX10_subWord_7 : decode cX10_subWord 7 = .ok (.iand, 1) := dk_126 (dk_at dksX10_subWord_0 7 rfl rfl)
theorem dX10_subWord_8 : decode cX10_subWord 8 = .ok (.baload, 1) := dk_51 (dk_at dksX10_subWord_0 8 rfl rfl)
theorem dX10_subWord_9 : decode cX10_subWord 9 = .ok (.sipush 255, 3) := dk_17 0 255 (dk_at dksX10_subWord_0 9 rfl rfl)
theorem dX10_subWord_12 : decode cX10_subWord 12 = .ok (.iand, 1) := dk_126 (dk_at dksX10_subWord_0 12 rfl rfl)
theorem dX10_subWord_13 : decode cX10_subWord 13 = .ok (.getstatic 18, 3) := dk_178 0 18 (dk_at dksX10_subWord_0 13 rfl rfl)
theorem dX10_subWord_16 : decode cX10_subWord 16 = .ok (.iload_n 0, 1) := dk_26 (dk_at dksX10_subWord_0 16 rfl rfl)
theorem dX10_subWord_17 : decode cX10_subWord 17 = .ok (.bipush 8, 2) := dk_16 8 (dk_at dksX10_subWord_0 17 rfl rfl)
theorem dX10_subWord_19 : decode cX10_subWord 19 = .ok (.ishr, 1) := dk_122 (dk_at dksX10_subWord_0 19 rfl rfl)
theorem dX10_subWord_20 : decode cX10_subWord 20 = .ok (.sipush 255, 3) := dk_17 0 255 (dk_at dksX10_subWord_0 20 rfl rfl)
theorem dX10_subWord_23 : decode cX10_subWord 23 = .ok (.iand, 1) := dk_126 (dk_at dksX10_subWord_0 23 rfl rfl)
theorem dX10_subWord_24 : decode cX10_subWord 24 = .ok (.baload, 1) := dk_51 (dk_at dksX10_subWord_1 0 rfl rfl)
theorem dX10_subWord_25 : decode cX10_subWord 25 = .ok (.sipush 255, 3) := dk_17 0 255 (dk_at dksX10_subWord_1 1 rfl rfl)
theorem dX10_subWord_28 : decode cX10_subWord 28 = .ok (.iand, 1) := dk_126 (dk_at dksX10_subWord_1 4 rfl rfl)
theorem dX10_subWord_29 : decode cX10_subWord 29 = .ok (.bipush 8, 2) := dk_16 8 (dk_at dksX10_subWord_1 5 rfl rfl)
theorem dX10_subWord_31 : decode cX10_subWord 31 = .ok (.ishl, 1) := dk_120 (dk_at dksX10_subWord_1 7 rfl rfl)
theorem dX10_subWord_32 : decode cX10_subWord 32 = .ok (.ior, 1) := dk_128 (dk_at dksX10_subWord_1 8 rfl rfl)
theorem dX10_subWord_33 : decode cX10_subWord 33 = .ok (.getstatic 18, 3) := dk_178 0 18 (dk_at dksX10_subWord_1 9 rfl rfl)
theorem dX10_subWord_36 : decode cX10_subWord 36 = .ok (.iload_n 0, 1) := dk_26 (dk_at dksX10_subWord_1 12 rfl rfl)
theorem dX10_subWord_37 : decode cX10_subWord 37 = .ok (.bipush 16, 2) := dk_16 16 (dk_at dksX10_subWord_1 13 rfl rfl)
theorem dX10_subWord_39 : decode cX10_subWord 39 = .ok (.ishr, 1) := dk_122 (dk_at dksX10_subWord_1 15 rfl rfl)
theorem dX10_subWord_40 : decode cX10_subWord 40 = .ok (.sipush 255, 3) := dk_17 0 255 (dk_at dksX10_subWord_1 16 rfl rfl)
theorem dX10_subWord_43 : decode cX10_subWord 43 = .ok (.iand, 1) := dk_126 (dk_at dksX10_subWord_1 19 rfl rfl)
theorem dX10_subWord_44 : decode cX10_subWord 44 = .ok (.baload, 1) := dk_51 (dk_at dksX10_subWord_1 20 rfl rfl)
theorem dX10_subWord_45 : decode cX10_subWord 45 = .ok (.sipush 255, 3) := dk_17 0 255 (dk_at dksX10_subWord_1 21 rfl rfl)
theorem dX10_subWord_48 : decode cX10_subWord 48 = .ok (.iand, 1) := dk_126 (dk_at dksX10_subWord_2 0 rfl rfl)
theorem dX10_subWord_49 : decode cX10_subWord 49 = .ok (.bipush 16, 2) := dk_16 16 (dk_at dksX10_subWord_2 1 rfl rfl)
theorem dX10_subWord_51 : decode cX10_subWord 51 = .ok (.ishl, 1) := dk_120 (dk_at dksX10_subWord_2 3 rfl rfl)
theorem dX10_subWord_52 : decode cX10_subWord 52 = .ok (.ior, 1) := dk_128 (dk_at dksX10_subWord_2 4 rfl rfl)
theorem dX10_subWord_53 : decode cX10_subWord 53 = .ok (.getstatic 18, 3) := dk_178 0 18 (dk_at dksX10_subWord_2 5 rfl rfl)
theorem dX10_subWord_56 : decode cX10_subWord 56 = .ok (.iload_n 0, 1) := dk_26 (dk_at dksX10_subWord_2 8 rfl rfl)
theorem dX10_subWord_57 : decode cX10_subWord 57 = .ok (.bipush 24, 2) := dk_16 24 (dk_at dksX10_subWord_2 9 rfl rfl)
theorem dX10_subWord_59 : decode cX10_subWord 59 = .ok (.ishr, 1) := dk_122 (dk_at dksX10_subWord_2 11 rfl rfl)
theorem dX10_subWord_60 : decode cX10_subWord 60 = .ok (.sipush 255, 3) := dk_17 0 255 (dk_at dksX10_subWord_2 12 rfl rfl)
theorem dX10_subWord_63 : decode cX10_subWord 63 = .ok (.iand, 1) := dk_126 (dk_at dksX10_subWord_2 15 rfl rfl)
theorem dX10_subWord_64 : decode cX10_subWord 64 = .ok (.baload, 1) := dk_51 (dk_at dksX10_subWord_2 16 rfl rfl)
theorem dX10_subWord_65 : decode cX10_subWord 65 = .ok (.bipush 24, 2) := dk_16 24 (dk_at dksX10_subWord_2 17 rfl rfl)
theorem dX10_subWord_67 : decode cX10_subWord 67 = .ok (.ishl, 1) := dk_120 (dk_at dksX10_subWord_2 19 rfl rfl)
theorem dX10_subWord_68 : decode cX10_subWord 68 = .ok (.ior, 1) := dk_128 (dk_at dksX10_subWord_2 20 rfl rfl)
theorem dX10_subWord_69 : decode cX10_subWord 69 = .ok (.ireturn, 1) := dk_172 (dk_at dksX10_subWord_2 21 rfl rfl)
abbrev cX10_inv_mcol : ByteArray := prog_1_method_4_code
def yX10_inv_mcol : MethodName := ⟨RX10, "inv_mcol", "(I)I"⟩
def dkwX10_inv_mcol_1 : List UInt8 := [61, 27, 28, 28, 16, 16, 184, 0, 7, 130, 130, 60, 27, 172]
abbrev dktX10_inv_mcol_1 : List UInt8 := dkwX10_inv_mcol_1 ++ []
def dkwX10_inv_mcol_0 : List UInt8 := [26, 60, 27, 27, 16, 8, 184, 0, 7, 130, 61, 27, 28, 184, 0, 11, 130, 60, 28, 27, 184, 0, 15, 130]
abbrev dktX10_inv_mcol_0 : List UInt8 := dkwX10_inv_mcol_0 ++ dktX10_inv_mcol_1
theorem dksX10_inv_mcol_0 : cX10_inv_mcol.data.toList.drop 0 = dktX10_inv_mcol_0 := by decide +kernel
theorem dksX10_inv_mcol_1 : cX10_inv_mcol.data.toList.drop 24 = dktX10_inv_mcol_1 := dk_seg dksX10_inv_mcol_0 24 rfl rfl
theorem dX10_inv_mcol_0 : decode cX10_inv_mcol 0 = .ok (.iload_n 0, 1) := dk_26 (dk_at dksX10_inv_mcol_0 0 rfl rfl)
theorem dX10_inv_mcol_1 : decode cX10_inv_mcol 1 = .ok (.istore_n 1, 1) := dk_60 (dk_at dksX10_inv_mcol_0 1 rfl rfl)
theorem dX10_inv_mcol_2 : decode cX10_inv_mcol 2 = .ok (.iload_n 1, 1) := dk_27 (dk_at dksX10_inv_mcol_0 2 rfl rfl)
theorem dX10_inv_mcol_3 : decode cX10_inv_mcol 3 = .ok (.iload_n 1, 1) := dk_27 (dk_at dksX10_inv_mcol_0 3 rfl rfl)
theorem dX10_inv_mcol_4 : decode cX10_inv_mcol 4 = .ok (.bipush 8, 2) := dk_16 8 (dk_at dksX10_inv_mcol_0 4 rfl rfl)
theorem dX10_inv_mcol_6 : decode cX10_inv_mcol 6 = .ok (.invokestatic 7, 3) := dk_184 0 7 (dk_at dksX10_inv_mcol_0 6 rfl rfl)
theorem dX10_inv_mcol_9 : decode cX10_inv_mcol 9 = .ok (.ixor, 1) := dk_130 (dk_at dksX10_inv_mcol_0 9 rfl rfl)
theorem dX10_inv_mcol_10 : decode cX10_inv_mcol 10 = .ok (.istore_n 2, 1) := dk_61 (dk_at dksX10_inv_mcol_0 10 rfl rfl)
theorem dX10_inv_mcol_11 : decode cX10_inv_mcol 11 = .ok (.iload_n 1, 1) := dk_27 (dk_at dksX10_inv_mcol_0 11 rfl rfl)
theorem dX10_inv_mcol_12 : decode cX10_inv_mcol 12 = .ok (.iload_n 2, 1) := dk_28 (dk_at dksX10_inv_mcol_0 12 rfl rfl)
theorem dX10_inv_mcol_13 : decode cX10_inv_mcol 13 = .ok (.invokestatic 11, 3) := dk_184 0 11 (dk_at dksX10_inv_mcol_0 13 rfl rfl)
theorem dX10_inv_mcol_16 : decode cX10_inv_mcol 16 = .ok (.ixor, 1) := dk_130 (dk_at dksX10_inv_mcol_0 16 rfl rfl)
theorem dX10_inv_mcol_17 : decode cX10_inv_mcol 17 = .ok (.istore_n 1, 1) := dk_60 (dk_at dksX10_inv_mcol_0 17 rfl rfl)
theorem dX10_inv_mcol_18 : decode cX10_inv_mcol 18 = .ok (.iload_n 2, 1) := dk_28 (dk_at dksX10_inv_mcol_0 18 rfl rfl)
theorem dX10_inv_mcol_19 : decode cX10_inv_mcol 19 = .ok (.iload_n 1, 1) := dk_27 (dk_at dksX10_inv_mcol_0 19 rfl rfl)
theorem dX10_inv_mcol_20 : decode cX10_inv_mcol 20 = .ok (.invokestatic 15, 3) := dk_184 0 15 (dk_at dksX10_inv_mcol_0 20 rfl rfl)
theorem dX10_inv_mcol_23 : decode cX10_inv_mcol 23 = .ok (.ixor, 1) := dk_130 (dk_at dksX10_inv_mcol_0 23 rfl rfl)
theorem dX10_inv_mcol_24 : decode cX10_inv_mcol 24 = .ok (.istore_n 2, 1) := dk_61 (dk_at dksX10_inv_mcol_1 0 rfl rfl)
theorem dX10_inv_mcol_25 : decode cX10_inv_mcol 25 = .ok (.iload_n 1, 1) := dk_27 (dk_at dksX10_inv_mcol_1 1 rfl rfl)
theorem dX10_inv_mcol_26 : decode cX10_inv_mcol 26 = .ok (.iload_n 2, 1) := dk_28 (dk_at dksX10_inv_mcol_1 2 rfl rfl)
theorem dX10_inv_mcol_27 : decode cX10_inv_mcol 27 = .ok (.iload_n 2, 1) := dk_28 (dk_at dksX10_inv_mcol_1 3 rfl rfl)
theorem dX10_inv_mcol_28 : decode cX10_inv_mcol 28 = .ok (.bipush 16, 2) := dk_16 16 (dk_at dksX10_inv_mcol_1 4 rfl rfl)
theorem dX10_inv_mcol_30 : decode cX10_inv_mcol 30 = .ok (.invokestatic 7, 3) := dk_184 0 7 (dk_at dksX10_inv_mcol_1 6 rfl rfl)
theorem dX10_inv_mcol_33 : decode cX10_inv_mcol 33 = .ok (.ixor, 1) := dk_130 (dk_at dksX10_inv_mcol_1 9 rfl rfl)
theorem dX10_inv_mcol_34 : decode cX10_inv_mcol 34 = .ok (.ixor, 1) := dk_130 (dk_at dksX10_inv_mcol_1 10 rfl rfl)
theorem dX10_inv_mcol_35 : decode cX10_inv_mcol 35 = .ok (.istore_n 1, 1) := dk_60 (dk_at dksX10_inv_mcol_1 11 rfl rfl)
theorem dX10_inv_mcol_36 : decode cX10_inv_mcol 36 = .ok (.iload_n 1, 1) := dk_27 (dk_at dksX10_inv_mcol_1 12 rfl rfl)
theorem dX10_inv_mcol_37 : decode cX10_inv_mcol 37 = .ok (.ireturn, 1) := dk_172 (dk_at dksX10_inv_mcol_1 13 rfl rfl)
abbrev cX10_FFmulX : ByteArray := prog_1_method_2_code
def yX10_FFmulX : MethodName := ⟨RX10, "FFmulX", "(I)I"⟩
def dkwX10_FFmulX_0 : List UInt8 := [26, 18, 3, 126, 4, 120, 26, 18, 4, 126, 16, 7, 124, 16, 27, 104, 130, 172]
abbrev dktX10_FFmulX_0 : List UInt8 := dkwX10_FFmulX_0 ++ []
theorem dksX10_FFmulX_0 : cX10_FFmulX.data.toList.drop 0 = dktX10_FFmulX_0 := by decide +kernel
theorem dX10_FFmulX_0 : decode cX10_FFmulX 0 = .ok (.iload_n 0, 1) := dk_26 (dk_at dksX10_FFmulX_0 0 rfl rfl)
theorem dX10_FFmulX_1 : decode cX10_FFmulX 1 = .ok (.ldc 3, 2) := dk_18 3 (dk_at dksX10_FFmulX_0 1 rfl rfl)
theorem dX10_FFmulX_3 : decode cX10_FFmulX 3 = .ok (.iand, 1) := dk_126 (dk_at dksX10_FFmulX_0 3 rfl rfl)
theorem dX10_FFmulX_4 : decode cX10_FFmulX 4 = .ok (.iconst 1, 1) := dk_4 (dk_at dksX10_FFmulX_0 4 rfl rfl)
theorem dX10_FFmulX_5 : decode cX10_FFmulX 5 = .ok (.ishl, 1) := dk_120 (dk_at dksX10_FFmulX_0 5 rfl rfl)
theorem dX10_FFmulX_6 : decode cX10_FFmulX 6 = .ok (.iload_n 0, 1) := dk_26 (dk_at dksX10_FFmulX_0 6 rfl rfl)
theorem dX10_FFmulX_7 : decode cX10_FFmulX 7 = .ok (.ldc 4, 2) := dk_18 4 (dk_at dksX10_FFmulX_0 7 rfl rfl)
theorem dX10_FFmulX_9 : decode cX10_FFmulX 9 = .ok (.iand, 1) := dk_126 (dk_at dksX10_FFmulX_0 9 rfl rfl)
theorem dX10_FFmulX_10 : decode cX10_FFmulX 10 = .ok (.bipush 7, 2) := dk_16 7 (dk_at dksX10_FFmulX_0 10 rfl rfl)
theorem dX10_FFmulX_12 : decode cX10_FFmulX 12 = .ok (.iushr, 1) := dk_124 (dk_at dksX10_FFmulX_0 12 rfl rfl)
theorem dX10_FFmulX_13 : decode cX10_FFmulX 13 = .ok (.bipush 27, 2) := dk_16 27 (dk_at dksX10_FFmulX_0 13 rfl rfl)
theorem dX10_FFmulX_15 : decode cX10_FFmulX 15 = .ok (.imul, 1) := dk_104 (dk_at dksX10_FFmulX_0 15 rfl rfl)
theorem dX10_FFmulX_16 : decode cX10_FFmulX 16 = .ok (.ixor, 1) := dk_130 (dk_at dksX10_FFmulX_0 16 rfl rfl)
theorem dX10_FFmulX_17 : decode cX10_FFmulX 17 = .ok (.ireturn, 1) := dk_172 (dk_at dksX10_FFmulX_0 17 rfl rfl)
abbrev cX10_FFmulX2 : ByteArray := prog_1_method_3_code
def yX10_FFmulX2 : MethodName := ⟨RX10, "FFmulX2", "(I)I"⟩
def dkwX10_FFmulX2_1 : List UInt8 := [8, 124, 130, 172]
abbrev dktX10_FFmulX2_1 : List UInt8 := dkwX10_FFmulX2_1 ++ []
def dkwX10_FFmulX2_0 : List UInt8 := [26, 18, 5, 126, 5, 120, 60, 26, 18, 6, 126, 61, 28, 28, 4, 124, 130, 61, 27, 28, 5, 124, 130, 28]
abbrev dktX10_FFmulX2_0 : List UInt8 := dkwX10_FFmulX2_0 ++ dktX10_FFmulX2_1
theorem dksX10_FFmulX2_0 : cX10_FFmulX2.data.toList.drop 0 = dktX10_FFmulX2_0 := by decide +kernel
theorem dksX10_FFmulX2_1 : cX10_FFmulX2.data.toList.drop 24 = dktX10_FFmulX2_1 := dk_seg dksX10_FFmulX2_0 24 rfl rfl
theorem dX10_FFmulX2_0 : decode cX10_FFmulX2 0 = .ok (.iload_n 0, 1) := dk_26 (dk_at dksX10_FFmulX2_0 0 rfl rfl)
theorem dX10_FFmulX2_1 : decode cX10_FFmulX2 1 = .ok (.ldc 5, 2) := dk_18 5 (dk_at dksX10_FFmulX2_0 1 rfl rfl)
theorem dX10_FFmulX2_3 : decode cX10_FFmulX2 3 = .ok (.iand, 1) := dk_126 (dk_at dksX10_FFmulX2_0 3 rfl rfl)
theorem dX10_FFmulX2_4 : decode cX10_FFmulX2 4 = .ok (.iconst 2, 1) := dk_5 (dk_at dksX10_FFmulX2_0 4 rfl rfl)
theorem dX10_FFmulX2_5 : decode cX10_FFmulX2 5 = .ok (.ishl, 1) := dk_120 (dk_at dksX10_FFmulX2_0 5 rfl rfl)
theorem dX10_FFmulX2_6 : decode cX10_FFmulX2 6 = .ok (.istore_n 1, 1) := dk_60 (dk_at dksX10_FFmulX2_0 6 rfl rfl)
theorem dX10_FFmulX2_7 : decode cX10_FFmulX2 7 = .ok (.iload_n 0, 1) := dk_26 (dk_at dksX10_FFmulX2_0 7 rfl rfl)
theorem dX10_FFmulX2_8 : decode cX10_FFmulX2 8 = .ok (.ldc 6, 2) := dk_18 6 (dk_at dksX10_FFmulX2_0 8 rfl rfl)
theorem dX10_FFmulX2_10 : decode cX10_FFmulX2 10 = .ok (.iand, 1) := dk_126 (dk_at dksX10_FFmulX2_0 10 rfl rfl)
theorem dX10_FFmulX2_11 : decode cX10_FFmulX2 11 = .ok (.istore_n 2, 1) := dk_61 (dk_at dksX10_FFmulX2_0 11 rfl rfl)
theorem dX10_FFmulX2_12 : decode cX10_FFmulX2 12 = .ok (.iload_n 2, 1) := dk_28 (dk_at dksX10_FFmulX2_0 12 rfl rfl)
theorem dX10_FFmulX2_13 : decode cX10_FFmulX2 13 = .ok (.iload_n 2, 1) := dk_28 (dk_at dksX10_FFmulX2_0 13 rfl rfl)
theorem dX10_FFmulX2_14 : decode cX10_FFmulX2 14 = .ok (.iconst 1, 1) := dk_4 (dk_at dksX10_FFmulX2_0 14 rfl rfl)
theorem dX10_FFmulX2_15 : decode cX10_FFmulX2 15 = .ok (.iushr, 1) := dk_124 (dk_at dksX10_FFmulX2_0 15 rfl rfl)
theorem dX10_FFmulX2_16 : decode cX10_FFmulX2 16 = .ok (.ixor, 1) := dk_130 (dk_at dksX10_FFmulX2_0 16 rfl rfl)
theorem dX10_FFmulX2_17 : decode cX10_FFmulX2 17 = .ok (.istore_n 2, 1) := dk_61 (dk_at dksX10_FFmulX2_0 17 rfl rfl)
theorem dX10_FFmulX2_18 : decode cX10_FFmulX2 18 = .ok (.iload_n 1, 1) := dk_27 (dk_at dksX10_FFmulX2_0 18 rfl rfl)
theorem dX10_FFmulX2_19 : decode cX10_FFmulX2 19 = .ok (.iload_n 2, 1) := dk_28 (dk_at dksX10_FFmulX2_0 19 rfl rfl)
theorem dX10_FFmulX2_20 : decode cX10_FFmulX2 20 = .ok (.iconst 2, 1) := dk_5 (dk_at dksX10_FFmulX2_0 20 rfl rfl)
theorem dX10_FFmulX2_21 : decode cX10_FFmulX2 21 = .ok (.iushr, 1) := dk_124 (dk_at dksX10_FFmulX2_0 21 rfl rfl)
theorem dX10_FFmulX2_22 : decode cX10_FFmulX2 22 = .ok (.ixor, 1) := dk_130 (dk_at dksX10_FFmulX2_0 22 rfl rfl)
theorem dX10_FFmulX2_23 : decode cX10_FFmulX2 23 = .ok (.iload_n 2, 1) := dk_28 (dk_at dksX10_FFmulX2_0 23 rfl rfl)
theorem dX10_FFmulX2_24 : decode cX10_FFmulX2 24 = .ok (.iconst 5, 1) := dk_8 (dk_at dksX10_FFmulX2_1 0 rfl rfl)
theorem dX10_FFmulX2_25 : decode cX10_FFmulX2 25 = .ok (.iushr, 1) := dk_124 (dk_at dksX10_FFmulX2_1 1 rfl rfl)
theorem dX10_FFmulX2_26 : decode cX10_FFmulX2 26 = .ok (.ixor, 1) := dk_130 (dk_at dksX10_FFmulX2_1 2 rfl rfl)
theorem dX10_FFmulX2_27 : decode cX10_FFmulX2 27 = .ok (.ireturn, 1) := dk_172 (dk_at dksX10_FFmulX2_1 3 rfl rfl)
abbrev cX10_processBlock : ByteArray := prog_1_method_10_code
def yX10_processBlock : MethodName := ⟨RX10, "processBlock", "([BI[BI)I"⟩
def dkwX10_processBlock_4 : List UInt8 := [172]
abbrev dktX10_processBlock_4 : List UInt8 := dkwX10_processBlock_4 ++ []
def dkwX10_processBlock_3 : List UInt8 := [180, 0, 62, 182, 0, 105, 167, 0, 16, 42, 43, 28, 45, 21, 4, 42, 180, 0, 62, 182, 0, 109, 16, 16]
abbrev dktX10_processBlock_3 : List UInt8 := dkwX10_processBlock_3 ++ dktX10_processBlock_4
def dkwX10_processBlock_2 : List UInt8 := [187, 0, 100, 89, 18, 102, 183, 0, 104, 191, 42, 180, 0, 75, 153, 0, 19, 42, 43, 28, 45, 21, 4, 42]
abbrev dktX10_processBlock_2 : List UInt8 := dkwX10_processBlock_2 ++ dktX10_processBlock_3
def dkwX10_processBlock_1 : List UInt8 := [164, 0, 13, 187, 0, 95, 89, 18, 97, 183, 0, 99, 191, 21, 4, 45, 190, 16, 16, 100, 164, 0, 13]
abbrev dktX10_processBlock_1 : List UInt8 := dkwX10_processBlock_1 ++ dktX10_processBlock_2
def dkwX10_processBlock_0 : List UInt8 := [42, 180, 0, 62, 199, 0, 13, 187, 0, 49, 89, 18, 93, 183, 0, 53, 191, 28, 43, 190, 16, 16, 100]
abbrev dktX10_processBlock_0 : List UInt8 := dkwX10_processBlock_0 ++ dktX10_processBlock_1
theorem dksX10_processBlock_0 : cX10_processBlock.data.toList.drop 0 = dktX10_processBlock_0 := by decide +kernel
theorem dksX10_processBlock_1 : cX10_processBlock.data.toList.drop 23 = dktX10_processBlock_1 := dk_seg dksX10_processBlock_0 23 rfl rfl
theorem dksX10_processBlock_2 : cX10_processBlock.data.toList.drop 46 = dktX10_processBlock_2 := dk_seg dksX10_processBlock_1 23 rfl rfl
theorem dksX10_processBlock_3 : cX10_processBlock.data.toList.drop 70 = dktX10_processBlock_3 := dk_seg dksX10_processBlock_2 24 rfl rfl
theorem dksX10_processBlock_4 : cX10_processBlock.data.toList.drop 94 = dktX10_processBlock_4 := dk_seg dksX10_processBlock_3 24 rfl rfl
theorem dX10_processBlock_0 : decode cX10_processBlock 0 = .ok (.aload_n 0, 1) := dk_42 (dk_at dksX10_processBlock_0 0 rfl rfl)
theorem dX10_processBlock_1 : decode cX10_processBlock 1 = .ok (.getfield 62, 3) := dk_180 0 62 (dk_at dksX10_processBlock_0 1 rfl rfl)
theorem dX10_processBlock_4 : decode cX10_processBlock 4 = .ok (.ifnonnull 13, 3) := dk_199 0 13 (dk_at dksX10_processBlock_0 4 rfl rfl)
theorem dX10_processBlock_7 : decode cX10_processBlock 7 = .ok (.new 49, 3) := dk_187 0 49 (dk_at dksX10_processBlock_0 7 rfl rfl)
theorem dX10_processBlock_10 : decode cX10_processBlock 10 = .ok (.dup, 1) := dk_89 (dk_at dksX10_processBlock_0 10 rfl rfl)
theorem dX10_processBlock_11 : decode cX10_processBlock 11 = .ok (.ldc 93, 2) := dk_18 93 (dk_at dksX10_processBlock_0 11 rfl rfl)
theorem dX10_processBlock_13 : decode cX10_processBlock 13 = .ok (.invokespecial 53, 3) := dk_183 0 53 (dk_at dksX10_processBlock_0 13 rfl rfl)
theorem dX10_processBlock_16 : decode cX10_processBlock 16 = .ok (.athrow, 1) := dk_191 (dk_at dksX10_processBlock_0 16 rfl rfl)
theorem dX10_processBlock_17 : decode cX10_processBlock 17 = .ok (.iload_n 2, 1) := dk_28 (dk_at dksX10_processBlock_0 17 rfl rfl)
theorem dX10_processBlock_18 : decode cX10_processBlock 18 = .ok (.aload_n 1, 1) := dk_43 (dk_at dksX10_processBlock_0 18 rfl rfl)
theorem dX10_processBlock_19 : decode cX10_processBlock 19 = .ok (.arraylength, 1) := dk_190 (dk_at dksX10_processBlock_0 19 rfl rfl)
theorem dX10_processBlock_20 : decode cX10_processBlock 20 = .ok (.bipush 16, 2) := dk_16 16 (dk_at dksX10_processBlock_0 20 rfl rfl)
theorem dX10_processBlock_22 : decode cX10_processBlock 22 = .ok (.isub, 1) := dk_100 (dk_at dksX10_processBlock_0 22 rfl rfl)
theorem dX10_processBlock_23 : decode cX10_processBlock 23 = .ok (.if_icmp .le 13, 3) := dk_164 0 13 (dk_at dksX10_processBlock_1 0 rfl rfl)
theorem dX10_processBlock_26 : decode cX10_processBlock 26 = .ok (.new 95, 3) := dk_187 0 95 (dk_at dksX10_processBlock_1 3 rfl rfl)
theorem dX10_processBlock_29 : decode cX10_processBlock 29 = .ok (.dup, 1) := dk_89 (dk_at dksX10_processBlock_1 6 rfl rfl)
theorem dX10_processBlock_30 : decode cX10_processBlock 30 = .ok (.ldc 97, 2) := dk_18 97 (dk_at dksX10_processBlock_1 7 rfl rfl)
theorem dX10_processBlock_32 : decode cX10_processBlock 32 = .ok (.invokespecial 99, 3) := dk_183 0 99 (dk_at dksX10_processBlock_1 9 rfl rfl)
theorem dX10_processBlock_35 : decode cX10_processBlock 35 = .ok (.athrow, 1) := dk_191 (dk_at dksX10_processBlock_1 12 rfl rfl)
theorem dX10_processBlock_36 : decode cX10_processBlock 36 = .ok (.iload 4, 2) := dk_21 4 (dk_at dksX10_processBlock_1 13 rfl rfl)
theorem dX10_processBlock_38 : decode cX10_processBlock 38 = .ok (.aload_n 3, 1) := dk_45 (dk_at dksX10_processBlock_1 15 rfl rfl)
theorem dX10_processBlock_39 : decode cX10_processBlock 39 = .ok (.arraylength, 1) := dk_190 (dk_at dksX10_processBlock_1 16 rfl rfl)
theorem dX10_processBlock_40 : decode cX10_processBlock 40 = .ok (.bipush 16, 2) := dk_16 16 (dk_at dksX10_processBlock_1 17 rfl rfl)
theorem dX10_processBlock_42 : decode cX10_processBlock 42 = .ok (.isub, 1) := dk_100 (dk_at dksX10_processBlock_1 19 rfl rfl)
theorem dX10_processBlock_43 : decode cX10_processBlock 43 = .ok (.if_icmp .le 13, 3) := dk_164 0 13 (dk_at dksX10_processBlock_1 20 rfl rfl)
theorem dX10_processBlock_46 : decode cX10_processBlock 46 = .ok (.new 100, 3) := dk_187 0 100 (dk_at dksX10_processBlock_2 0 rfl rfl)
theorem dX10_processBlock_49 : decode cX10_processBlock 49 = .ok (.dup, 1) := dk_89 (dk_at dksX10_processBlock_2 3 rfl rfl)
theorem dX10_processBlock_50 : decode cX10_processBlock 50 = .ok (.ldc 102, 2) := dk_18 102 (dk_at dksX10_processBlock_2 4 rfl rfl)
theorem dX10_processBlock_52 : decode cX10_processBlock 52 = .ok (.invokespecial 104, 3) := dk_183 0 104 (dk_at dksX10_processBlock_2 6 rfl rfl)
theorem dX10_processBlock_55 : decode cX10_processBlock 55 = .ok (.athrow, 1) := dk_191 (dk_at dksX10_processBlock_2 9 rfl rfl)
theorem dX10_processBlock_56 : decode cX10_processBlock 56 = .ok (.aload_n 0, 1) := dk_42 (dk_at dksX10_processBlock_2 10 rfl rfl)
theorem dX10_processBlock_57 : decode cX10_processBlock 57 = .ok (.getfield 75, 3) := dk_180 0 75 (dk_at dksX10_processBlock_2 11 rfl rfl)
theorem dX10_processBlock_60 : decode cX10_processBlock 60 = .ok (.ifCond .eq 19, 3) := dk_153 0 19 (dk_at dksX10_processBlock_2 14 rfl rfl)
theorem dX10_processBlock_63 : decode cX10_processBlock 63 = .ok (.aload_n 0, 1) := dk_42 (dk_at dksX10_processBlock_2 17 rfl rfl)
theorem dX10_processBlock_64 : decode cX10_processBlock 64 = .ok (.aload_n 1, 1) := dk_43 (dk_at dksX10_processBlock_2 18 rfl rfl)
theorem dX10_processBlock_65 : decode cX10_processBlock 65 = .ok (.iload_n 2, 1) := dk_28 (dk_at dksX10_processBlock_2 19 rfl rfl)
theorem dX10_processBlock_66 : decode cX10_processBlock 66 = .ok (.aload_n 3, 1) := dk_45 (dk_at dksX10_processBlock_2 20 rfl rfl)
theorem dX10_processBlock_67 : decode cX10_processBlock 67 = .ok (.iload 4, 2) := dk_21 4 (dk_at dksX10_processBlock_2 21 rfl rfl)
theorem dX10_processBlock_69 : decode cX10_processBlock 69 = .ok (.aload_n 0, 1) := dk_42 (dk_at dksX10_processBlock_2 23 rfl rfl)
theorem dX10_processBlock_70 : decode cX10_processBlock 70 = .ok (.getfield 62, 3) := dk_180 0 62 (dk_at dksX10_processBlock_3 0 rfl rfl)
theorem dX10_processBlock_73 : decode cX10_processBlock 73 = .ok (.invokevirtual 105, 3) := dk_182 0 105 (dk_at dksX10_processBlock_3 3 rfl rfl)
theorem dX10_processBlock_76 : decode cX10_processBlock 76 = .ok (.goto 16, 3) := dk_167 0 16 (dk_at dksX10_processBlock_3 6 rfl rfl)
theorem dX10_processBlock_79 : decode cX10_processBlock 79 = .ok (.aload_n 0, 1) := dk_42 (dk_at dksX10_processBlock_3 9 rfl rfl)
theorem dX10_processBlock_80 : decode cX10_processBlock 80 = .ok (.aload_n 1, 1) := dk_43 (dk_at dksX10_processBlock_3 10 rfl rfl)
theorem dX10_processBlock_81 : decode cX10_processBlock 81 = .ok (.iload_n 2, 1) := dk_28 (dk_at dksX10_processBlock_3 11 rfl rfl)
theorem dX10_processBlock_82 : decode cX10_processBlock 82 = .ok (.aload_n 3, 1) := dk_45 (dk_at dksX10_processBlock_3 12 rfl rfl)
theorem dX10_processBlock_83 : decode cX10_processBlock 83 = .ok (.iload 4, 2) := dk_21 4 (dk_at dksX10_processBlock_3 13 rfl rfl)
theorem dX10_processBlock_85 : decode cX10_processBlock 85 = .ok (.aload_n 0, 1) := dk_42 (dk_at dksX10_processBlock_3 15 rfl rfl)
theorem dX10_processBlock_86 : decode cX10_processBlock 86 = .ok (.getfield 62, 3) := dk_180 0 62 (dk_at dksX10_processBlock_3 16 rfl rfl)
theorem dX10_processBlock_89 : decode cX10_processBlock 89 = .ok (.invokevirtual 109, 3) := dk_182 0 109 (dk_at dksX10_processBlock_3 19 rfl rfl)
theorem dX10_processBlock_92 : decode cX10_processBlock 92 = .ok (.bipush 16, 2) := dk_16 16 (dk_at dksX10_processBlock_3 22 rfl rfl)
theorem dX10_processBlock_94 : decode cX10_processBlock 94 = .ok (.ireturn, 1) := dk_172 (dk_at dksX10_processBlock_4 0 rfl rfl)
abbrev cX10_encryptBlock : ByteArray := prog_1_method_12_code
def yX10_encryptBlock : MethodName := ⟨RX10, "encryptBlock", "([BI[BI[[I)V"⟩
def dkwX10_encryptBlock_60 : List UInt8 := [16, 12, 96, 184, 0, 115, 177]
abbrev dktX10_encryptBlock_60 : List UInt8 := dkwX10_encryptBlock_60 ++ []
def dkwX10_encryptBlock_59 : List UInt8 := [21, 4, 7, 96, 184, 0, 115, 21, 8, 45, 21, 4, 16, 8, 96, 184, 0, 115, 21, 9, 45, 21, 4]
abbrev dktX10_encryptBlock_59 : List UInt8 := dkwX10_encryptBlock_59 ++ dktX10_encryptBlock_60
def dkwX10_encryptBlock_58 : List UInt8 := [130, 25, 5, 21, 13, 50, 6, 46, 130, 54, 9, 21, 6, 45, 21, 4, 3, 96, 184, 0, 115, 21, 7, 45]
abbrev dktX10_encryptBlock_58 : List UInt8 := dkwX10_encryptBlock_58 ++ dktX10_encryptBlock_59
def dkwX10_encryptBlock_57 : List UInt8 := [17, 0, 255, 126, 16, 16, 120, 130, 178, 0, 18, 21, 16, 16, 24, 122, 17, 0, 255, 126, 51, 16, 24, 120]
abbrev dktX10_encryptBlock_57 : List UInt8 := dkwX10_encryptBlock_57 ++ dktX10_encryptBlock_58
def dkwX10_encryptBlock_56 : List UInt8 := [17, 0, 255, 126, 16, 8, 120, 130, 42, 180, 0, 85, 21, 15, 16, 16, 122, 17, 0, 255, 126, 51]
abbrev dktX10_encryptBlock_56 : List UInt8 := dkwX10_encryptBlock_56 ++ dktX10_encryptBlock_57
def dkwX10_encryptBlock_55 : List UInt8 := [17, 0, 255, 126, 51, 17, 0, 255, 126, 42, 180, 0, 85, 21, 14, 16, 8, 122, 17, 0, 255, 126, 51]
abbrev dktX10_encryptBlock_55 : List UInt8 := dkwX10_encryptBlock_55 ++ dktX10_encryptBlock_56
def dkwX10_encryptBlock_54 : List UInt8 := [126, 51, 16, 24, 120, 130, 25, 5, 21, 13, 50, 5, 46, 130, 54, 8, 42, 180, 0, 85, 21, 17]
abbrev dktX10_encryptBlock_54 : List UInt8 := dkwX10_encryptBlock_54 ++ dktX10_encryptBlock_55
def dkwX10_encryptBlock_53 : List UInt8 := [17, 0, 255, 126, 51, 17, 0, 255, 126, 16, 16, 120, 130, 178, 0, 18, 21, 15, 16, 24, 122, 17, 0, 255]
abbrev dktX10_encryptBlock_53 : List UInt8 := dkwX10_encryptBlock_53 ++ dktX10_encryptBlock_54
def dkwX10_encryptBlock_52 : List UInt8 := [16, 8, 122, 17, 0, 255, 126, 51, 17, 0, 255, 126, 16, 8, 120, 130, 178, 0, 18, 21, 14, 16, 16, 122]
abbrev dktX10_encryptBlock_52 : List UInt8 := dkwX10_encryptBlock_52 ++ dktX10_encryptBlock_53
def dkwX10_encryptBlock_51 : List UInt8 := [130, 54, 7, 42, 180, 0, 85, 21, 16, 17, 0, 255, 126, 51, 17, 0, 255, 126, 178, 0, 18, 21, 17]
abbrev dktX10_encryptBlock_51 : List UInt8 := dkwX10_encryptBlock_51 ++ dktX10_encryptBlock_52
def dkwX10_encryptBlock_50 : List UInt8 := [180, 0, 85, 21, 14, 16, 24, 122, 17, 0, 255, 126, 51, 16, 24, 120, 130, 25, 5, 21, 13, 50, 4, 46]
abbrev dktX10_encryptBlock_50 : List UInt8 := dkwX10_encryptBlock_50 ++ dktX10_encryptBlock_51
def dkwX10_encryptBlock_49 : List UInt8 := [130, 178, 0, 18, 21, 17, 16, 16, 122, 17, 0, 255, 126, 51, 17, 0, 255, 126, 16, 16, 120, 130, 42]
abbrev dktX10_encryptBlock_49 : List UInt8 := dkwX10_encryptBlock_49 ++ dktX10_encryptBlock_50
def dkwX10_encryptBlock_48 : List UInt8 := [17, 0, 255, 126, 178, 0, 18, 21, 16, 16, 8, 122, 17, 0, 255, 126, 51, 17, 0, 255, 126, 16, 8, 120]
abbrev dktX10_encryptBlock_48 : List UInt8 := dkwX10_encryptBlock_48 ++ dktX10_encryptBlock_49
def dkwX10_encryptBlock_47 : List UInt8 := [120, 130, 25, 5, 21, 13, 50, 3, 46, 130, 54, 6, 42, 180, 0, 85, 21, 15, 17, 0, 255, 126, 51]
abbrev dktX10_encryptBlock_47 : List UInt8 := dkwX10_encryptBlock_47 ++ dktX10_encryptBlock_48
def dkwX10_encryptBlock_46 : List UInt8 := [17, 0, 255, 126, 16, 16, 120, 130, 42, 180, 0, 85, 21, 17, 16, 24, 122, 17, 0, 255, 126, 51, 16, 24]
abbrev dktX10_encryptBlock_46 : List UInt8 := dkwX10_encryptBlock_46 ++ dktX10_encryptBlock_47
def dkwX10_encryptBlock_45 : List UInt8 := [17, 0, 255, 126, 16, 8, 120, 130, 42, 180, 0, 85, 21, 16, 16, 16, 122, 17, 0, 255, 126, 51]
abbrev dktX10_encryptBlock_45 : List UInt8 := dkwX10_encryptBlock_45 ++ dktX10_encryptBlock_46
def dkwX10_encryptBlock_44 : List UInt8 := [17, 0, 255, 126, 51, 17, 0, 255, 126, 178, 0, 18, 21, 15, 16, 8, 122, 17, 0, 255, 126, 51]
abbrev dktX10_encryptBlock_44 : List UInt8 := dkwX10_encryptBlock_44 ++ dktX10_encryptBlock_45
def dkwX10_encryptBlock_43 : List UInt8 := [16, 8, 184, 0, 7, 130, 25, 5, 21, 13, 132, 13, 1, 50, 6, 46, 130, 54, 17, 178, 0, 18, 21, 14]
abbrev dktX10_encryptBlock_43 : List UInt8 := dkwX10_encryptBlock_43 ++ dktX10_encryptBlock_44
def dkwX10_encryptBlock_42 : List UInt8 := [17, 0, 255, 126, 46, 16, 16, 184, 0, 7, 130, 178, 0, 112, 21, 12, 16, 24, 122, 17, 0, 255, 126, 46]
abbrev dktX10_encryptBlock_42 : List UInt8 := dkwX10_encryptBlock_42 ++ dktX10_encryptBlock_43
def dkwX10_encryptBlock_41 : List UInt8 := [21, 10, 16, 8, 122, 17, 0, 255, 126, 46, 16, 24, 184, 0, 7, 130, 178, 0, 112, 21, 11, 16, 16, 122]
abbrev dktX10_encryptBlock_41 : List UInt8 := dkwX10_encryptBlock_41 ++ dktX10_encryptBlock_42
def dkwX10_encryptBlock_40 : List UInt8 := [130, 25, 5, 21, 13, 50, 5, 46, 130, 54, 16, 178, 0, 112, 21, 17, 17, 0, 255, 126, 46, 178, 0, 112]
abbrev dktX10_encryptBlock_40 : List UInt8 := dkwX10_encryptBlock_40 ++ dktX10_encryptBlock_41
def dkwX10_encryptBlock_39 : List UInt8 := [16, 16, 184, 0, 7, 130, 178, 0, 112, 21, 11, 16, 24, 122, 17, 0, 255, 126, 46, 16, 8, 184, 0, 7]
abbrev dktX10_encryptBlock_39 : List UInt8 := dkwX10_encryptBlock_39 ++ dktX10_encryptBlock_40
def dkwX10_encryptBlock_38 : List UInt8 := [17, 0, 255, 126, 46, 16, 24, 184, 0, 7, 130, 178, 0, 112, 21, 10, 16, 16, 122, 17, 0, 255, 126, 46]
abbrev dktX10_encryptBlock_38 : List UInt8 := dkwX10_encryptBlock_38 ++ dktX10_encryptBlock_39
def dkwX10_encryptBlock_37 : List UInt8 := [50, 4, 46, 130, 54, 15, 178, 0, 112, 21, 12, 17, 0, 255, 126, 46, 178, 0, 112, 21, 17, 16, 8, 122]
abbrev dktX10_encryptBlock_37 : List UInt8 := dkwX10_encryptBlock_37 ++ dktX10_encryptBlock_38
def dkwX10_encryptBlock_36 : List UInt8 := [130, 178, 0, 112, 21, 10, 16, 24, 122, 17, 0, 255, 126, 46, 16, 8, 184, 0, 7, 130, 25, 5, 21, 13]
abbrev dktX10_encryptBlock_36 : List UInt8 := dkwX10_encryptBlock_36 ++ dktX10_encryptBlock_37
def dkwX10_encryptBlock_35 : List UInt8 := [16, 24, 184, 0, 7, 130, 178, 0, 112, 21, 17, 16, 16, 122, 17, 0, 255, 126, 46, 16, 16, 184, 0, 7]
abbrev dktX10_encryptBlock_35 : List UInt8 := dkwX10_encryptBlock_35 ++ dktX10_encryptBlock_36
def dkwX10_encryptBlock_34 : List UInt8 := [178, 0, 112, 21, 11, 17, 0, 255, 126, 46, 178, 0, 112, 21, 12, 16, 8, 122, 17, 0, 255, 126, 46]
abbrev dktX10_encryptBlock_34 : List UInt8 := dkwX10_encryptBlock_34 ++ dktX10_encryptBlock_35
def dkwX10_encryptBlock_33 : List UInt8 := [16, 24, 122, 17, 0, 255, 126, 46, 16, 8, 184, 0, 7, 130, 25, 5, 21, 13, 50, 3, 46, 130, 54, 14]
abbrev dktX10_encryptBlock_33 : List UInt8 := dkwX10_encryptBlock_33 ++ dktX10_encryptBlock_34
def dkwX10_encryptBlock_32 : List UInt8 := [178, 0, 112, 21, 12, 16, 16, 122, 17, 0, 255, 126, 46, 16, 16, 184, 0, 7, 130, 178, 0, 112, 21, 17]
abbrev dktX10_encryptBlock_32 : List UInt8 := dkwX10_encryptBlock_32 ++ dktX10_encryptBlock_33
def dkwX10_encryptBlock_31 : List UInt8 := [17, 0, 255, 126, 46, 178, 0, 112, 21, 11, 16, 8, 122, 17, 0, 255, 126, 46, 16, 24, 184, 0, 7, 130]
abbrev dktX10_encryptBlock_31 : List UInt8 := dkwX10_encryptBlock_31 ++ dktX10_encryptBlock_32
def dkwX10_encryptBlock_30 : List UInt8 := [130, 25, 5, 21, 13, 132, 13, 1, 50, 6, 46, 130, 54, 17, 167, 253, 135, 178, 0, 112, 21, 10]
abbrev dktX10_encryptBlock_30 : List UInt8 := dkwX10_encryptBlock_30 ++ dktX10_encryptBlock_31
def dkwX10_encryptBlock_29 : List UInt8 := [16, 16, 184, 0, 7, 130, 178, 0, 112, 21, 16, 16, 24, 122, 17, 0, 255, 126, 46, 16, 8, 184, 0, 7]
abbrev dktX10_encryptBlock_29 : List UInt8 := dkwX10_encryptBlock_29 ++ dktX10_encryptBlock_30
def dkwX10_encryptBlock_28 : List UInt8 := [17, 0, 255, 126, 46, 16, 24, 184, 0, 7, 130, 178, 0, 112, 21, 15, 16, 16, 122, 17, 0, 255, 126, 46]
abbrev dktX10_encryptBlock_28 : List UInt8 := dkwX10_encryptBlock_28 ++ dktX10_encryptBlock_29
def dkwX10_encryptBlock_27 : List UInt8 := [5, 46, 130, 54, 12, 178, 0, 112, 21, 17, 17, 0, 255, 126, 46, 178, 0, 112, 21, 14, 16, 8, 122]
abbrev dktX10_encryptBlock_27 : List UInt8 := dkwX10_encryptBlock_27 ++ dktX10_encryptBlock_28
def dkwX10_encryptBlock_26 : List UInt8 := [178, 0, 112, 21, 15, 16, 24, 122, 17, 0, 255, 126, 46, 16, 8, 184, 0, 7, 130, 25, 5, 21, 13, 50]
abbrev dktX10_encryptBlock_26 : List UInt8 := dkwX10_encryptBlock_26 ++ dktX10_encryptBlock_27
def dkwX10_encryptBlock_25 : List UInt8 := [184, 0, 7, 130, 178, 0, 112, 21, 14, 16, 16, 122, 17, 0, 255, 126, 46, 16, 16, 184, 0, 7, 130]
abbrev dktX10_encryptBlock_25 : List UInt8 := dkwX10_encryptBlock_25 ++ dktX10_encryptBlock_26
def dkwX10_encryptBlock_24 : List UInt8 := [21, 16, 17, 0, 255, 126, 46, 178, 0, 112, 21, 17, 16, 8, 122, 17, 0, 255, 126, 46, 16, 24]
abbrev dktX10_encryptBlock_24 : List UInt8 := dkwX10_encryptBlock_24 ++ dktX10_encryptBlock_25
def dkwX10_encryptBlock_23 : List UInt8 := [17, 0, 255, 126, 46, 16, 8, 184, 0, 7, 130, 25, 5, 21, 13, 50, 4, 46, 130, 54, 11, 178, 0, 112]
abbrev dktX10_encryptBlock_23 : List UInt8 := dkwX10_encryptBlock_23 ++ dktX10_encryptBlock_24
def dkwX10_encryptBlock_22 : List UInt8 := [21, 17, 16, 16, 122, 17, 0, 255, 126, 46, 16, 16, 184, 0, 7, 130, 178, 0, 112, 21, 14, 16, 24, 122]
abbrev dktX10_encryptBlock_22 : List UInt8 := dkwX10_encryptBlock_22 ++ dktX10_encryptBlock_23
def dkwX10_encryptBlock_21 : List UInt8 := [126, 46, 178, 0, 112, 21, 16, 16, 8, 122, 17, 0, 255, 126, 46, 16, 24, 184, 0, 7, 130, 178, 0, 112]
abbrev dktX10_encryptBlock_21 : List UInt8 := dkwX10_encryptBlock_21 ++ dktX10_encryptBlock_22
def dkwX10_encryptBlock_20 : List UInt8 := [16, 8, 184, 0, 7, 130, 25, 5, 21, 13, 50, 3, 46, 130, 54, 10, 178, 0, 112, 21, 15, 17, 0, 255]
abbrev dktX10_encryptBlock_20 : List UInt8 := dkwX10_encryptBlock_20 ++ dktX10_encryptBlock_21
def dkwX10_encryptBlock_19 : List UInt8 := [17, 0, 255, 126, 46, 16, 16, 184, 0, 7, 130, 178, 0, 112, 21, 17, 16, 24, 122, 17, 0, 255, 126, 46]
abbrev dktX10_encryptBlock_19 : List UInt8 := dkwX10_encryptBlock_19 ++ dktX10_encryptBlock_20
def dkwX10_encryptBlock_18 : List UInt8 := [16, 8, 122, 17, 0, 255, 126, 46, 16, 24, 184, 0, 7, 130, 178, 0, 112, 21, 16, 16, 16, 122]
abbrev dktX10_encryptBlock_18 : List UInt8 := dkwX10_encryptBlock_18 ++ dktX10_encryptBlock_19
def dkwX10_encryptBlock_17 : List UInt8 := [132, 13, 1, 50, 6, 46, 130, 54, 17, 178, 0, 112, 21, 14, 17, 0, 255, 126, 46, 178, 0, 112, 21, 15]
abbrev dktX10_encryptBlock_17 : List UInt8 := dkwX10_encryptBlock_17 ++ dktX10_encryptBlock_18
def dkwX10_encryptBlock_16 : List UInt8 := [178, 0, 112, 21, 12, 16, 24, 122, 17, 0, 255, 126, 46, 16, 8, 184, 0, 7, 130, 25, 5, 21, 13]
abbrev dktX10_encryptBlock_16 : List UInt8 := dkwX10_encryptBlock_16 ++ dktX10_encryptBlock_17
def dkwX10_encryptBlock_15 : List UInt8 := [184, 0, 7, 130, 178, 0, 112, 21, 11, 16, 16, 122, 17, 0, 255, 126, 46, 16, 16, 184, 0, 7, 130]
abbrev dktX10_encryptBlock_15 : List UInt8 := dkwX10_encryptBlock_15 ++ dktX10_encryptBlock_16
def dkwX10_encryptBlock_14 : List UInt8 := [21, 17, 17, 0, 255, 126, 46, 178, 0, 112, 21, 10, 16, 8, 122, 17, 0, 255, 126, 46, 16, 24]
abbrev dktX10_encryptBlock_14 : List UInt8 := dkwX10_encryptBlock_14 ++ dktX10_encryptBlock_15
def dkwX10_encryptBlock_13 : List UInt8 := [17, 0, 255, 126, 46, 16, 8, 184, 0, 7, 130, 25, 5, 21, 13, 50, 5, 46, 130, 54, 16, 178, 0, 112]
abbrev dktX10_encryptBlock_13 : List UInt8 := dkwX10_encryptBlock_13 ++ dktX10_encryptBlock_14
def dkwX10_encryptBlock_12 : List UInt8 := [21, 10, 16, 16, 122, 17, 0, 255, 126, 46, 16, 16, 184, 0, 7, 130, 178, 0, 112, 21, 11, 16, 24, 122]
abbrev dktX10_encryptBlock_12 : List UInt8 := dkwX10_encryptBlock_12 ++ dktX10_encryptBlock_13
def dkwX10_encryptBlock_11 : List UInt8 := [126, 46, 178, 0, 112, 21, 17, 16, 8, 122, 17, 0, 255, 126, 46, 16, 24, 184, 0, 7, 130, 178, 0, 112]
abbrev dktX10_encryptBlock_11 : List UInt8 := dkwX10_encryptBlock_11 ++ dktX10_encryptBlock_12
def dkwX10_encryptBlock_10 : List UInt8 := [16, 8, 184, 0, 7, 130, 25, 5, 21, 13, 50, 4, 46, 130, 54, 15, 178, 0, 112, 21, 12, 17, 0, 255]
abbrev dktX10_encryptBlock_10 : List UInt8 := dkwX10_encryptBlock_10 ++ dktX10_encryptBlock_11
def dkwX10_encryptBlock_9 : List UInt8 := [17, 0, 255, 126, 46, 16, 16, 184, 0, 7, 130, 178, 0, 112, 21, 10, 16, 24, 122, 17, 0, 255, 126, 46]
abbrev dktX10_encryptBlock_9 : List UInt8 := dkwX10_encryptBlock_9 ++ dktX10_encryptBlock_10
def dkwX10_encryptBlock_8 : List UInt8 := [21, 12, 16, 8, 122, 17, 0, 255, 126, 46, 16, 24, 184, 0, 7, 130, 178, 0, 112, 21, 17, 16, 16, 122]
abbrev dktX10_encryptBlock_8 : List UInt8 := dkwX10_encryptBlock_8 ++ dktX10_encryptBlock_9
def dkwX10_encryptBlock_7 : List UInt8 := [25, 5, 21, 13, 50, 3, 46, 130, 54, 14, 178, 0, 112, 21, 11, 17, 0, 255, 126, 46, 178, 0, 112]
abbrev dktX10_encryptBlock_7 : List UInt8 := dkwX10_encryptBlock_7 ++ dktX10_encryptBlock_8
def dkwX10_encryptBlock_6 : List UInt8 := [184, 0, 7, 130, 178, 0, 112, 21, 17, 16, 24, 122, 17, 0, 255, 126, 46, 16, 8, 184, 0, 7, 130]
abbrev dktX10_encryptBlock_6 : List UInt8 := dkwX10_encryptBlock_6 ++ dktX10_encryptBlock_7
def dkwX10_encryptBlock_5 : List UInt8 := [126, 46, 16, 24, 184, 0, 7, 130, 178, 0, 112, 21, 12, 16, 16, 122, 17, 0, 255, 126, 46, 16, 16]
abbrev dktX10_encryptBlock_5 : List UInt8 := dkwX10_encryptBlock_5 ++ dktX10_encryptBlock_6
def dkwX10_encryptBlock_4 : List UInt8 := [162, 2, 116, 178, 0, 112, 21, 10, 17, 0, 255, 126, 46, 178, 0, 112, 21, 11, 16, 8, 122, 17, 0, 255]
abbrev dktX10_encryptBlock_4 : List UInt8 := dkwX10_encryptBlock_4 ++ dktX10_encryptBlock_5
def dkwX10_encryptBlock_3 : List UInt8 := [4, 54, 13, 21, 9, 25, 5, 3, 50, 6, 46, 130, 54, 17, 21, 13, 42, 180, 0, 30, 4, 100]
abbrev dktX10_encryptBlock_3 : List UInt8 := dkwX10_encryptBlock_3 ++ dktX10_encryptBlock_4
def dkwX10_encryptBlock_2 : List UInt8 := [54, 10, 21, 7, 25, 5, 3, 50, 4, 46, 130, 54, 11, 21, 8, 25, 5, 3, 50, 5, 46, 130, 54, 12]
abbrev dktX10_encryptBlock_2 : List UInt8 := dkwX10_encryptBlock_2 ++ dktX10_encryptBlock_3
def dkwX10_encryptBlock_1 : List UInt8 := [184, 0, 36, 54, 8, 43, 28, 16, 12, 96, 184, 0, 36, 54, 9, 21, 6, 25, 5, 3, 50, 3, 46, 130]
abbrev dktX10_encryptBlock_1 : List UInt8 := dkwX10_encryptBlock_1 ++ dktX10_encryptBlock_2
def dkwX10_encryptBlock_0 : List UInt8 := [43, 28, 3, 96, 184, 0, 36, 54, 6, 43, 28, 7, 96, 184, 0, 36, 54, 7, 43, 28, 16, 8, 96]
abbrev dktX10_encryptBlock_0 : List UInt8 := dkwX10_encryptBlock_0 ++ dktX10_encryptBlock_1
theorem dksX10_encryptBlock_0 : cX10_encryptBlock.data.toList.drop 0 = dktX10_encryptBlock_0 := by decide +kernel
theorem dksX10_encryptBlock_1 : cX10_encryptBlock.data.toList.drop 23 = dktX10_encryptBlock_1 := dk_seg dksX10_encryptBlock_0 23 rfl rfl
theorem dksX10_encryptBlock_2 : cX10_encryptBlock.data.toList.drop 47 = dktX10_encryptBlock_2 := dk_seg dksX10_encryptBlock_1 24 rfl rfl
theorem dksX10_encryptBlock_3 : cX10_encryptBlock.data.toList.drop 71 = dktX10_encryptBlock_3 := dk_seg dksX10_encryptBlock_2 24 rfl rfl
theorem dksX10_encryptBlock_4 : cX10_encryptBlock.data.toList.drop 93 = dktX10_encryptBlock_4 := dk_seg dksX10_encryptBlock_3 22 rfl rfl
theorem dksX10_encryptBlock_5 : cX10_encryptBlock.data.toList.drop 117 = dktX10_encryptBlock_5 := dk_seg dksX10_encryptBlock_4 24 rfl rfl
theorem dksX10_encryptBlock_6 : cX10_encryptBlock.data.toList.drop 140 = dktX10_encryptBlock_6 := dk_seg dksX10_encryptBlock_5 23 rfl rfl
theorem dksX10_encryptBlock_7 : cX10_encryptBlock.data.toList.drop 163 = dktX10_encryptBlock_7 := dk_seg dksX10_encryptBlock_6 23 rfl rfl
theorem dksX10_encryptBlock_8 : cX10_encryptBlock.data.toList.drop 186 = dktX10_encryptBlock_8 := dk_seg dksX10_encryptBlock_7 23 rfl rfl
theorem dksX10_encryptBlock_9 : cX10_encryptBlock.data.toList.drop 210 = dktX10_encryptBlock_9 := dk_seg dksX10_encryptBlock_8 24 rfl rfl
theorem dksX10_encryptBlock_10 : cX10_encryptBlock.data.toList.drop 234 = dktX10_encryptBlock_10 := dk_seg dksX10_encryptBlock_9 24 rfl rfl
theorem dksX10_encryptBlock_11 : cX10_encryptBlock.data.toList.drop 258 = dktX10_encryptBlock_11 := dk_seg dksX10_encryptBlock_10 24 rfl rfl
theorem dksX10_encryptBlock_12 : cX10_encryptBlock.data.toList.drop 282 = dktX10_encryptBlock_12 := dk_seg dksX10_encryptBlock_11 24 rfl rfl
theorem dksX10_encryptBlock_13 : cX10_encryptBlock.data.toList.drop 306 = dktX10_encryptBlock_13 := dk_seg dksX10_encryptBlock_12 24 rfl rfl
theorem dksX10_encryptBlock_14 : cX10_encryptBlock.data.toList.drop 330 = dktX10_encryptBlock_14 := dk_seg dksX10_encryptBlock_13 24 rfl rfl
theorem dksX10_encryptBlock_15 : cX10_encryptBlock.data.toList.drop 352 = dktX10_encryptBlock_15 := dk_seg dksX10_encryptBlock_14 22 rfl rfl
theorem dksX10_encryptBlock_16 : cX10_encryptBlock.data.toList.drop 375 = dktX10_encryptBlock_16 := dk_seg dksX10_encryptBlock_15 23 rfl rfl
theorem dksX10_encryptBlock_17 : cX10_encryptBlock.data.toList.drop 398 = dktX10_encryptBlock_17 := dk_seg dksX10_encryptBlock_16 23 rfl rfl
theorem dksX10_encryptBlock_18 : cX10_encryptBlock.data.toList.drop 422 = dktX10_encryptBlock_18 := dk_seg dksX10_encryptBlock_17 24 rfl rfl
theorem dksX10_encryptBlock_19 : cX10_encryptBlock.data.toList.drop 444 = dktX10_encryptBlock_19 := dk_seg dksX10_encryptBlock_18 22 rfl rfl
theorem dksX10_encryptBlock_20 : cX10_encryptBlock.data.toList.drop 468 = dktX10_encryptBlock_20 := dk_seg dksX10_encryptBlock_19 24 rfl rfl
theorem dksX10_encryptBlock_21 : cX10_encryptBlock.data.toList.drop 492 = dktX10_encryptBlock_21 := dk_seg dksX10_encryptBlock_20 24 rfl rfl
theorem dksX10_encryptBlock_22 : cX10_encryptBlock.data.toList.drop 516 = dktX10_encryptBlock_22 := dk_seg dksX10_encryptBlock_21 24 rfl rfl
theorem dksX10_encryptBlock_23 : cX10_encryptBlock.data.toList.drop 540 = dktX10_encryptBlock_23 := dk_seg dksX10_encryptBlock_22 24 rfl rfl
theorem dksX10_encryptBlock_24 : cX10_encryptBlock.data.toList.drop 564 = dktX10_encryptBlock_24 := dk_seg dksX10_encryptBlock_23 24 rfl rfl
theorem dksX10_encryptBlock_25 : cX10_encryptBlock.data.toList.drop 586 = dktX10_encryptBlock_25 := dk_seg dksX10_encryptBlock_24 22 rfl rfl
theorem dksX10_encryptBlock_26 : cX10_encryptBlock.data.toList.drop 609 = dktX10_encryptBlock_26 := dk_seg dksX10_encryptBlock_25 23 rfl rfl
theorem dksX10_encryptBlock_27 : cX10_encryptBlock.data.toList.drop 633 = dktX10_encryptBlock_27 := dk_seg dksX10_encryptBlock_26 24 rfl rfl
theorem dksX10_encryptBlock_28 : cX10_encryptBlock.data.toList.drop 656 = dktX10_encryptBlock_28 := dk_seg dksX10_encryptBlock_27 23 rfl rfl
theorem dksX10_encryptBlock_29 : cX10_encryptBlock.data.toList.drop 680 = dktX10_encryptBlock_29 := dk_seg dksX10_encryptBlock_28 24 rfl rfl
theorem dksX10_encryptBlock_30 : cX10_encryptBlock.data.toList.drop 704 = dktX10_encryptBlock_30 := dk_seg dksX10_encryptBlock_29 24 rfl rfl
theorem dksX10_encryptBlock_31 : cX10_encryptBlock.data.toList.drop 726 = dktX10_encryptBlock_31 := dk_seg dksX10_encryptBlock_30 22 rfl rfl
theorem dksX10_encryptBlock_32 : cX10_encryptBlock.data.toList.drop 750 = dktX10_encryptBlock_32 := dk_seg dksX10_encryptBlock_31 24 rfl rfl
theorem dksX10_encryptBlock_33 : cX10_encryptBlock.data.toList.drop 774 = dktX10_encryptBlock_33 := dk_seg dksX10_encryptBlock_32 24 rfl rfl
theorem dksX10_encryptBlock_34 : cX10_encryptBlock.data.toList.drop 798 = dktX10_encryptBlock_34 := dk_seg dksX10_encryptBlock_33 24 rfl rfl
theorem dksX10_encryptBlock_35 : cX10_encryptBlock.data.toList.drop 821 = dktX10_encryptBlock_35 := dk_seg dksX10_encryptBlock_34 23 rfl rfl
theorem dksX10_encryptBlock_36 : cX10_encryptBlock.data.toList.drop 845 = dktX10_encryptBlock_36 := dk_seg dksX10_encryptBlock_35 24 rfl rfl
theorem dksX10_encryptBlock_37 : cX10_encryptBlock.data.toList.drop 869 = dktX10_encryptBlock_37 := dk_seg dksX10_encryptBlock_36 24 rfl rfl
theorem dksX10_encryptBlock_38 : cX10_encryptBlock.data.toList.drop 893 = dktX10_encryptBlock_38 := dk_seg dksX10_encryptBlock_37 24 rfl rfl
theorem dksX10_encryptBlock_39 : cX10_encryptBlock.data.toList.drop 917 = dktX10_encryptBlock_39 := dk_seg dksX10_encryptBlock_38 24 rfl rfl
theorem dksX10_encryptBlock_40 : cX10_encryptBlock.data.toList.drop 941 = dktX10_encryptBlock_40 := dk_seg dksX10_encryptBlock_39 24 rfl rfl
theorem dksX10_encryptBlock_41 : cX10_encryptBlock.data.toList.drop 965 = dktX10_encryptBlock_41 := dk_seg dksX10_encryptBlock_40 24 rfl rfl
theorem dksX10_encryptBlock_42 : cX10_encryptBlock.data.toList.drop 989 = dktX10_encryptBlock_42 := dk_seg dksX10_encryptBlock_41 24 rfl rfl
theorem dksX10_encryptBlock_43 : cX10_encryptBlock.data.toList.drop 1013 = dktX10_encryptBlock_43 := dk_seg dksX10_encryptBlock_42 24 rfl rfl
theorem dksX10_encryptBlock_44 : cX10_encryptBlock.data.toList.drop 1037 = dktX10_encryptBlock_44 := dk_seg dksX10_encryptBlock_43 24 rfl rfl
theorem dksX10_encryptBlock_45 : cX10_encryptBlock.data.toList.drop 1059 = dktX10_encryptBlock_45 := dk_seg dksX10_encryptBlock_44 22 rfl rfl
theorem dksX10_encryptBlock_46 : cX10_encryptBlock.data.toList.drop 1081 = dktX10_encryptBlock_46 := dk_seg dksX10_encryptBlock_45 22 rfl rfl
theorem dksX10_encryptBlock_47 : cX10_encryptBlock.data.toList.drop 1105 = dktX10_encryptBlock_47 := dk_seg dksX10_encryptBlock_46 24 rfl rfl
theorem dksX10_encryptBlock_48 : cX10_encryptBlock.data.toList.drop 1128 = dktX10_encryptBlock_48 := dk_seg dksX10_encryptBlock_47 23 rfl rfl
theorem dksX10_encryptBlock_49 : cX10_encryptBlock.data.toList.drop 1152 = dktX10_encryptBlock_49 := dk_seg dksX10_encryptBlock_48 24 rfl rfl
theorem dksX10_encryptBlock_50 : cX10_encryptBlock.data.toList.drop 1175 = dktX10_encryptBlock_50 := dk_seg dksX10_encryptBlock_49 23 rfl rfl
theorem dksX10_encryptBlock_51 : cX10_encryptBlock.data.toList.drop 1199 = dktX10_encryptBlock_51 := dk_seg dksX10_encryptBlock_50 24 rfl rfl
theorem dksX10_encryptBlock_52 : cX10_encryptBlock.data.toList.drop 1222 = dktX10_encryptBlock_52 := dk_seg dksX10_encryptBlock_51 23 rfl rfl
theorem dksX10_encryptBlock_53 : cX10_encryptBlock.data.toList.drop 1246 = dktX10_encryptBlock_53 := dk_seg dksX10_encryptBlock_52 24 rfl rfl
theorem dksX10_encryptBlock_54 : cX10_encryptBlock.data.toList.drop 1270 = dktX10_encryptBlock_54 := dk_seg dksX10_encryptBlock_53 24 rfl rfl
theorem dksX10_encryptBlock_55 : cX10_encryptBlock.data.toList.drop 1292 = dktX10_encryptBlock_55 := dk_seg dksX10_encryptBlock_54 22 rfl rfl
theorem dksX10_encryptBlock_56 : cX10_encryptBlock.data.toList.drop 1315 = dktX10_encryptBlock_56 := dk_seg dksX10_encryptBlock_55 23 rfl rfl
theorem dksX10_encryptBlock_57 : cX10_encryptBlock.data.toList.drop 1337 = dktX10_encryptBlock_57 := dk_seg dksX10_encryptBlock_56 22 rfl rfl
theorem dksX10_encryptBlock_58 : cX10_encryptBlock.data.toList.drop 1361 = dktX10_encryptBlock_58 := dk_seg dksX10_encryptBlock_57 24 rfl rfl
theorem dksX10_encryptBlock_59 : cX10_encryptBlock.data.toList.drop 1385 = dktX10_encryptBlock_59 := dk_seg dksX10_encryptBlock_58 24 rfl rfl
theorem dksX10_encryptBlock_60 : cX10_encryptBlock.data.toList.drop 1408 = dktX10_encryptBlock_60 := dk_seg dksX10_encryptBlock_59 23 rfl rfl
theorem dX10_encryptBlock_0 : decode cX10_encryptBlock 0 = .ok (.aload_n 1, 1) := dk_43 (dk_at dksX10_encryptBlock_0 0 rfl rfl)
theorem dX10_encryptBlock_1 : decode cX10_encryptBlock 1 = .ok (.iload_n 2, 1) := dk_28 (dk_at dksX10_encryptBlock_0 1 rfl rfl)
theorem dX10_encryptBlock_2 : decode cX10_encryptBlock 2 = .ok (.iconst 0, 1) := dk_3 (dk_at dksX10_encryptBlock_0 2 rfl rfl)
theorem dX10_encryptBlock_3 : decode cX10_encryptBlock 3 = .ok (.iadd, 1) := dk_96 (dk_at dksX10_encryptBlock_0 3 rfl rfl)
theorem dX10_encryptBlock_4 : decode cX10_encryptBlock 4 = .ok (.invokestatic 36, 3) := dk_184 0 36 (dk_at dksX10_encryptBlock_0 4 rfl rfl)
theorem dX10_encryptBlock_7 : decode cX10_encryptBlock 7 = .ok (.istore 6, 2) := dk_54 6 (dk_at dksX10_encryptBlock_0 7 rfl rfl)
theorem dX10_encryptBlock_9 : decode cX10_encryptBlock 9 = .ok (.aload_n 1, 1) := dk_43 (dk_at dksX10_encryptBlock_0 9 rfl rfl)
theorem dX10_encryptBlock_10 : decode cX10_encryptBlock 10 = .ok (.iload_n 2, 1) := dk_28 (dk_at dksX10_encryptBlock_0 10 rfl rfl)
theorem dX10_encryptBlock_11 : decode cX10_encryptBlock 11 = .ok (.iconst 4, 1) := dk_7 (dk_at dksX10_encryptBlock_0 11 rfl rfl)
theorem dX10_encryptBlock_12 : decode cX10_encryptBlock 12 = .ok (.iadd, 1) := dk_96 (dk_at dksX10_encryptBlock_0 12 rfl rfl)
theorem dX10_encryptBlock_13 : decode cX10_encryptBlock 13 = .ok (.invokestatic 36, 3) := dk_184 0 36 (dk_at dksX10_encryptBlock_0 13 rfl rfl)
theorem dX10_encryptBlock_16 : decode cX10_encryptBlock 16 = .ok (.istore 7, 2) := dk_54 7 (dk_at dksX10_encryptBlock_0 16 rfl rfl)
theorem dX10_encryptBlock_18 : decode cX10_encryptBlock 18 = .ok (.aload_n 1, 1) := dk_43 (dk_at dksX10_encryptBlock_0 18 rfl rfl)
theorem dX10_encryptBlock_19 : decode cX10_encryptBlock 19 = .ok (.iload_n 2, 1) := dk_28 (dk_at dksX10_encryptBlock_0 19 rfl rfl)
theorem dX10_encryptBlock_20 : decode cX10_encryptBlock 20 = .ok (.bipush 8, 2) := dk_16 8 (dk_at dksX10_encryptBlock_0 20 rfl rfl)
theorem dX10_encryptBlock_22 : decode cX10_encryptBlock 22 = .ok (.iadd, 1) := dk_96 (dk_at dksX10_encryptBlock_0 22 rfl rfl)
theorem dX10_encryptBlock_23 : decode cX10_encryptBlock 23 = .ok (.invokestatic 36, 3) := dk_184 0 36 (dk_at dksX10_encryptBlock_1 0 rfl rfl)
theorem dX10_encryptBlock_26 : decode cX10_encryptBlock 26 = .ok (.istore 8, 2) := dk_54 8 (dk_at dksX10_encryptBlock_1 3 rfl rfl)
theorem dX10_encryptBlock_28 : decode cX10_encryptBlock 28 = .ok (.aload_n 1, 1) := dk_43 (dk_at dksX10_encryptBlock_1 5 rfl rfl)
theorem dX10_encryptBlock_29 : decode cX10_encryptBlock 29 = .ok (.iload_n 2, 1) := dk_28 (dk_at dksX10_encryptBlock_1 6 rfl rfl)
theorem dX10_encryptBlock_30 : decode cX10_encryptBlock 30 = .ok (.bipush 12, 2) := dk_16 12 (dk_at dksX10_encryptBlock_1 7 rfl rfl)
theorem dX10_encryptBlock_32 : decode cX10_encryptBlock 32 = .ok (.iadd, 1) := dk_96 (dk_at dksX10_encryptBlock_1 9 rfl rfl)
theorem dX10_encryptBlock_33 : decode cX10_encryptBlock 33 = .ok (.invokestatic 36, 3) := dk_184 0 36 (dk_at dksX10_encryptBlock_1 10 rfl rfl)
theorem dX10_encryptBlock_36 : decode cX10_encryptBlock 36 = .ok (.istore 9, 2) := dk_54 9 (dk_at dksX10_encryptBlock_1 13 rfl rfl)
theorem dX10_encryptBlock_38 : decode cX10_encryptBlock 38 = .ok (.iload 6, 2) := dk_21 6 (dk_at dksX10_encryptBlock_1 15 rfl rfl)
theorem dX10_encryptBlock_40 : decode cX10_encryptBlock 40 = .ok (.aload 5, 2) := dk_25 5 (dk_at dksX10_encryptBlock_1 17 rfl rfl)
theorem dX10_encryptBlock_42 : decode cX10_encryptBlock 42 = .ok (.iconst 0, 1) := dk_3 (dk_at dksX10_encryptBlock_1 19 rfl rfl)
theorem dX10_encryptBlock_43 : decode cX10_encryptBlock 43 = .ok (.aaload, 1) := dk_50 (dk_at dksX10_encryptBlock_1 20 rfl rfl)
theorem dX10_encryptBlock_44 : decode cX10_encryptBlock 44 = .ok (.iconst 0, 1) := dk_3 (dk_at dksX10_encryptBlock_1 21 rfl rfl)
theorem dX10_encryptBlock_45 : decode cX10_encryptBlock 45 = .ok (.iaload, 1) := dk_46 (dk_at dksX10_encryptBlock_1 22 rfl rfl)
theorem dX10_encryptBlock_46 : decode cX10_encryptBlock 46 = .ok (.ixor, 1) := dk_130 (dk_at dksX10_encryptBlock_1 23 rfl rfl)
theorem dX10_encryptBlock_47 : decode cX10_encryptBlock 47 = .ok (.istore 10, 2) := dk_54 10 (dk_at dksX10_encryptBlock_2 0 rfl rfl)
theorem dX10_encryptBlock_49 : decode cX10_encryptBlock 49 = .ok (.iload 7, 2) := dk_21 7 (dk_at dksX10_encryptBlock_2 2 rfl rfl)
theorem dX10_encryptBlock_51 : decode cX10_encryptBlock 51 = .ok (.aload 5, 2) := dk_25 5 (dk_at dksX10_encryptBlock_2 4 rfl rfl)
theorem dX10_encryptBlock_53 : decode cX10_encryptBlock 53 = .ok (.iconst 0, 1) := dk_3 (dk_at dksX10_encryptBlock_2 6 rfl rfl)
theorem dX10_encryptBlock_54 : decode cX10_encryptBlock 54 = .ok (.aaload, 1) := dk_50 (dk_at dksX10_encryptBlock_2 7 rfl rfl)
theorem dX10_encryptBlock_55 : decode cX10_encryptBlock 55 = .ok (.iconst 1, 1) := dk_4 (dk_at dksX10_encryptBlock_2 8 rfl rfl)
theorem dX10_encryptBlock_56 : decode cX10_encryptBlock 56 = .ok (.iaload, 1) := dk_46 (dk_at dksX10_encryptBlock_2 9 rfl rfl)
theorem dX10_encryptBlock_57 : decode cX10_encryptBlock 57 = .ok (.ixor, 1) := dk_130 (dk_at dksX10_encryptBlock_2 10 rfl rfl)
theorem dX10_encryptBlock_58 : decode cX10_encryptBlock 58 = .ok (.istore 11, 2) := dk_54 11 (dk_at dksX10_encryptBlock_2 11 rfl rfl)
theorem dX10_encryptBlock_60 : decode cX10_encryptBlock 60 = .ok (.iload 8, 2) := dk_21 8 (dk_at dksX10_encryptBlock_2 13 rfl rfl)
theorem dX10_encryptBlock_62 : decode cX10_encryptBlock 62 = .ok (.aload 5, 2) := dk_25 5 (dk_at dksX10_encryptBlock_2 15 rfl rfl)
theorem dX10_encryptBlock_64 : decode cX10_encryptBlock 64 = .ok (.iconst 0, 1) := dk_3 (dk_at dksX10_encryptBlock_2 17 rfl rfl)
theorem dX10_encryptBlock_65 : decode cX10_encryptBlock 65 = .ok (.aaload, 1) := dk_50 (dk_at dksX10_encryptBlock_2 18 rfl rfl)
theorem dX10_encryptBlock_66 : decode cX10_encryptBlock 66 = .ok (.iconst 2, 1) := dk_5 (dk_at dksX10_encryptBlock_2 19 rfl rfl)
theorem dX10_encryptBlock_67 : decode cX10_encryptBlock 67 = .ok (.iaload, 1) := dk_46 (dk_at dksX10_encryptBlock_2 20 rfl rfl)
theorem dX10_encryptBlock_68 : decode cX10_encryptBlock 68 = .ok (.ixor, 1) := dk_130 (dk_at dksX10_encryptBlock_2 21 rfl rfl)
theorem dX10_encryptBlock_69 : decode cX10_encryptBlock 69 = .ok (.istore 12, 2) := dk_54 12 (dk_at dksX10_encryptBlock_2 22 rfl rfl)
theorem dX10_encryptBlock_71 : decode cX10_encryptBlock 71 = .ok (.iconst 1, 1) := dk_4 (dk_at dksX10_encryptBlock_3 0 rfl rfl)
theorem dX10_encryptBlock_72 : decode cX10_encryptBlock 72 = .ok (.istore 13, 2) := dk_54 13 (dk_at dksX10_encryptBlock_3 1 rfl rfl)
theorem dX10_encryptBlock_74 : decode cX10_encryptBlock 74 = .ok (.iload 9, 2) := dk_21 9 (dk_at dksX10_encryptBlock_3 3 rfl rfl)
theorem dX10_encryptBlock_76 : decode cX10_encryptBlock 76 = .ok (.aload 5, 2) := dk_25 5 (dk_at dksX10_encryptBlock_3 5 rfl rfl)
theorem dX10_encryptBlock_78 : decode cX10_encryptBlock 78 = .ok (.iconst 0, 1) := dk_3 (dk_at dksX10_encryptBlock_3 7 rfl rfl)
theorem dX10_encryptBlock_79 : decode cX10_encryptBlock 79 = .ok (.aaload, 1) := dk_50 (dk_at dksX10_encryptBlock_3 8 rfl rfl)
theorem dX10_encryptBlock_80 : decode cX10_encryptBlock 80 = .ok (.iconst 3, 1) := dk_6 (dk_at dksX10_encryptBlock_3 9 rfl rfl)
theorem dX10_encryptBlock_81 : decode cX10_encryptBlock 81 = .ok (.iaload, 1) := dk_46 (dk_at dksX10_encryptBlock_3 10 rfl rfl)
theorem dX10_encryptBlock_82 : decode cX10_encryptBlock 82 = .ok (.ixor, 1) := dk_130 (dk_at dksX10_encryptBlock_3 11 rfl rfl)
theorem dX10_encryptBlock_83 : decode cX10_encryptBlock 83 = .ok (.istore 17, 2) := dk_54 17 (dk_at dksX10_encryptBlock_3 12 rfl rfl)
theorem dX10_encryptBlock_85 : decode cX10_encryptBlock 85 = .ok (.iload 13, 2) := dk_21 13 (dk_at dksX10_encryptBlock_3 14 rfl rfl)
theorem dX10_encryptBlock_87 : decode cX10_encryptBlock 87 = .ok (.aload_n 0, 1) := dk_42 (dk_at dksX10_encryptBlock_3 16 rfl rfl)
theorem dX10_encryptBlock_88 : decode cX10_encryptBlock 88 = .ok (.getfield 30, 3) := dk_180 0 30 (dk_at dksX10_encryptBlock_3 17 rfl rfl)
theorem dX10_encryptBlock_91 : decode cX10_encryptBlock 91 = .ok (.iconst 1, 1) := dk_4 (dk_at dksX10_encryptBlock_3 20 rfl rfl)
theorem dX10_encryptBlock_92 : decode cX10_encryptBlock 92 = .ok (.isub, 1) := dk_100 (dk_at dksX10_encryptBlock_3 21 rfl rfl)
theorem dX10_encryptBlock_93 : decode cX10_encryptBlock 93 = .ok (.if_icmp .ge 628, 3) := dk_162 2 116 (dk_at dksX10_encryptBlock_4 0 rfl rfl)
theorem dX10_encryptBlock_96 : decode cX10_encryptBlock 96 = .ok (.getstatic 112, 3) := dk_178 0 112 (dk_at dksX10_encryptBlock_4 3 rfl rfl)
theorem dX10_encryptBlock_99 : decode cX10_encryptBlock 99 = .ok (.iload 10, 2) := dk_21 10 (dk_at dksX10_encryptBlock_4 6 rfl rfl)
theorem dX10_encryptBlock_101 : decode cX10_encryptBlock 101 = .ok (.sipush 255, 3) := dk_17 0 255 (dk_at dksX10_encryptBlock_4 8 rfl rfl)
theorem dX10_encryptBlock_104 : decode cX10_encryptBlock 104 = .ok (.iand, 1) := dk_126 (dk_at dksX10_encryptBlock_4 11 rfl rfl)
theorem dX10_encryptBlock_105 : decode cX10_encryptBlock 105 = .ok (.iaload, 1) := dk_46 (dk_at dksX10_encryptBlock_4 12 rfl rfl)
theorem dX10_encryptBlock_106 : decode cX10_encryptBlock 106 = .ok (.getstatic 112, 3) := dk_178 0 112 (dk_at dksX10_encryptBlock_4 13 rfl rfl)
theorem dX10_encryptBlock_109 : decode cX10_encryptBlock 109 = .ok (.iload 11, 2) := dk_21 11 (dk_at dksX10_encryptBlock_4 16 rfl rfl)
theorem dX10_encryptBlock_111 : decode cX10_encryptBlock 111 = .ok (.bipush 8, 2) := dk_16 8 (dk_at dksX10_encryptBlock_4 18 rfl rfl)
theorem dX10_encryptBlock_113 : decode cX10_encryptBlock 113 = .ok (.ishr, 1) := dk_122 (dk_at dksX10_encryptBlock_4 20 rfl rfl)
theorem dX10_encryptBlock_114 : decode cX10_encryptBlock 114 = .ok (.sipush 255, 3) := dk_17 0 255 (dk_at dksX10_encryptBlock_4 21 rfl rfl)
theorem dX10_encryptBlock_117 : decode cX10_encryptBlock 117 = .ok (.iand, 1) := dk_126 (dk_at dksX10_encryptBlock_5 0 rfl rfl)
theorem dX10_encryptBlock_118 : decode cX10_encryptBlock 118 = .ok (.iaload, 1) := dk_46 (dk_at dksX10_encryptBlock_5 1 rfl rfl)
theorem dX10_encryptBlock_119 : decode cX10_encryptBlock 119 = .ok (.bipush 24, 2) := dk_16 24 (dk_at dksX10_encryptBlock_5 2 rfl rfl)
theorem dX10_encryptBlock_121 : decode cX10_encryptBlock 121 = .ok (.invokestatic 7, 3) := dk_184 0 7 (dk_at dksX10_encryptBlock_5 4 rfl rfl)
theorem dX10_encryptBlock_124 : decode cX10_encryptBlock 124 = .ok (.ixor, 1) := dk_130 (dk_at dksX10_encryptBlock_5 7 rfl rfl)
theorem dX10_encryptBlock_125 : decode cX10_encryptBlock 125 = .ok (.getstatic 112, 3) := dk_178 0 112 (dk_at dksX10_encryptBlock_5 8 rfl rfl)
theorem dX10_encryptBlock_128 : decode cX10_encryptBlock 128 = .ok (.iload 12, 2) := dk_21 12 (dk_at dksX10_encryptBlock_5 11 rfl rfl)
theorem dX10_encryptBlock_130 : decode cX10_encryptBlock 130 = .ok (.bipush 16, 2) := dk_16 16 (dk_at dksX10_encryptBlock_5 13 rfl rfl)
theorem dX10_encryptBlock_132 : decode cX10_encryptBlock 132 = .ok (.ishr, 1) := dk_122 (dk_at dksX10_encryptBlock_5 15 rfl rfl)
theorem dX10_encryptBlock_133 : decode cX10_encryptBlock 133 = .ok (.sipush 255, 3) := dk_17 0 255 (dk_at dksX10_encryptBlock_5 16 rfl rfl)
theorem dX10_encryptBlock_136 : decode cX10_encryptBlock 136 = .ok (.iand, 1) := dk_126 (dk_at dksX10_encryptBlock_5 19 rfl rfl)
theorem dX10_encryptBlock_137 : decode cX10_encryptBlock 137 = .ok (.iaload, 1) := dk_46 (dk_at dksX10_encryptBlock_5 20 rfl rfl)
theorem dX10_encryptBlock_138 : decode cX10_encryptBlock 138 = .ok (.bipush 16, 2) := dk_16 16 (dk_at dksX10_encryptBlock_5 21 rfl rfl)
theorem dX10_encryptBlock_140 : decode cX10_encryptBlock 140 = .ok (.invokestatic 7, 3) := dk_184 0 7 (dk_at dksX10_encryptBlock_6 0 rfl rfl)
theorem dX10_encryptBlock_143 : decode cX10_encryptBlock 143 = .ok (.ixor, 1) := dk_130 (dk_at dksX10_encryptBlock_6 3 rfl rfl)
theorem dX10_encryptBlock_144 : decode cX10_encryptBlock 144 = .ok (.getstatic 112, 3) := dk_178 0 112 (dk_at dksX10_encryptBlock_6 4 rfl rfl)
theorem dX10_encryptBlock_147 : decode cX10_encryptBlock 147 = .ok (.iload 17, 2) := dk_21 17 (dk_at dksX10_encryptBlock_6 7 rfl rfl)
theorem dX10_encryptBlock_149 : decode cX10_encryptBlock 149 = .ok (.bipush 24, 2) := dk_16 24 (dk_at dksX10_encryptBlock_6 9 rfl rfl)
theorem dX10_encryptBlock_151 : decode cX10_encryptBlock 151 = .ok (.ishr, 1) := dk_122 (dk_at dksX10_encryptBlock_6 11 rfl rfl)
theorem dX10_encryptBlock_152 : decode cX10_encryptBlock 152 = .ok (.sipush 255, 3) := dk_17 0 255 (dk_at dksX10_encryptBlock_6 12 rfl rfl)
theorem dX10_encryptBlock_155 : decode cX10_encryptBlock 155 = .ok (.iand, 1) := dk_126 (dk_at dksX10_encryptBlock_6 15 rfl rfl)
theorem dX10_encryptBlock_156 : decode cX10_encryptBlock 156 = .ok (.iaload, 1) := dk_46 (dk_at dksX10_encryptBlock_6 16 rfl rfl)
theorem dX10_encryptBlock_157 : decode cX10_encryptBlock 157 = .ok (.bipush 8, 2) := dk_16 8 (dk_at dksX10_encryptBlock_6 17 rfl rfl)
theorem dX10_encryptBlock_159 : decode cX10_encryptBlock 159 = .ok (.invokestatic 7, 3) := dk_184 0 7 (dk_at dksX10_encryptBlock_6 19 rfl rfl)
theorem dX10_encryptBlock_162 : decode cX10_encryptBlock 162 = .ok (.ixor, 1) := dk_130 (dk_at dksX10_encryptBlock_6 22 rfl rfl)
theorem dX10_encryptBlock_163 : decode cX10_encryptBlock 163 = .ok (.aload 5, 2) := dk_25 5 (dk_at dksX10_encryptBlock_7 0 rfl rfl)
theorem dX10_encryptBlock_165 : decode cX10_encryptBlock 165 = .ok (.iload 13, 2) := dk_21 13 (dk_at dksX10_encryptBlock_7 2 rfl rfl)
theorem dX10_encryptBlock_167 : decode cX10_encryptBlock 167 = .ok (.aaload, 1) := dk_50 (dk_at dksX10_encryptBlock_7 4 rfl rfl)
theorem dX10_encryptBlock_168 : decode cX10_encryptBlock 168 = .ok (.iconst 0, 1) := dk_3 (dk_at dksX10_encryptBlock_7 5 rfl rfl)
theorem dX10_encryptBlock_169 : decode cX10_encryptBlock 169 = .ok (.iaload, 1) := dk_46 (dk_at dksX10_encryptBlock_7 6 rfl rfl)
theorem dX10_encryptBlock_170 : decode cX10_encryptBlock 170 = .ok (.ixor, 1) := dk_130 (dk_at dksX10_encryptBlock_7 7 rfl rfl)
theorem dX10_encryptBlock_171 : decode cX10_encryptBlock 171 = .ok (.istore 14, 2) := dk_54 14 (dk_at dksX10_encryptBlock_7 8 rfl rfl)
theorem dX10_encryptBlock_173 : decode cX10_encryptBlock 173 = .ok (.getstatic 112, 3) := dk_178 0 112 (dk_at dksX10_encryptBlock_7 10 rfl rfl)
theorem dX10_encryptBlock_176 : decode cX10_encryptBlock 176 = .ok (.iload 11, 2) := dk_21 11 (dk_at dksX10_encryptBlock_7 13 rfl rfl)
theorem dX10_encryptBlock_178 : decode cX10_encryptBlock 178 = .ok (.sipush 255, 3) := dk_17 0 255 (dk_at dksX10_encryptBlock_7 15 rfl rfl)
theorem dX10_encryptBlock_181 : decode cX10_encryptBlock 181 = .ok (.iand, 1) := dk_126 (dk_at dksX10_encryptBlock_7 18 rfl rfl)
theorem dX10_encryptBlock_182 : decode cX10_encryptBlock 182 = .ok (.iaload, 1) := dk_46 (dk_at dksX10_encryptBlock_7 19 rfl rfl)
theorem dX10_encryptBlock_183 : decode cX10_encryptBlock 183 = .ok (.getstatic 112, 3) := dk_178 0 112 (dk_at dksX10_encryptBlock_7 20 rfl rfl)
theorem dX10_encryptBlock_186 : decode cX10_encryptBlock 186 = .ok (.iload 12, 2) := dk_21 12 (dk_at dksX10_encryptBlock_8 0 rfl rfl)
theorem dX10_encryptBlock_188 : decode cX10_encryptBlock 188 = .ok (.bipush 8, 2) := dk_16 8 (dk_at dksX10_encryptBlock_8 2 rfl rfl)
theorem dX10_encryptBlock_190 : decode cX10_encryptBlock 190 = .ok (.ishr, 1) := dk_122 (dk_at dksX10_encryptBlock_8 4 rfl rfl)
theorem dX10_encryptBlock_191 : decode cX10_encryptBlock 191 = .ok (.sipush 255, 3) := dk_17 0 255 (dk_at dksX10_encryptBlock_8 5 rfl rfl)
theorem dX10_encryptBlock_194 : decode cX10_encryptBlock 194 = .ok (.iand, 1) := dk_126 (dk_at dksX10_encryptBlock_8 8 rfl rfl)
theorem dX10_encryptBlock_195 : decode cX10_encryptBlock 195 = .ok (.iaload, 1) := dk_46 (dk_at dksX10_encryptBlock_8 9 rfl rfl)
theorem dX10_encryptBlock_196 : decode cX10_encryptBlock 196 = .ok (.bipush 24, 2) := dk_16 24 (dk_at dksX10_encryptBlock_8 10 rfl rfl)
theorem dX10_encryptBlock_198 : decode cX10_encryptBlock 198 = .ok (.invokestatic 7, 3) := dk_184 0 7 (dk_at dksX10_encryptBlock_8 12 rfl rfl)
theorem dX10_encryptBlock_201 : decode cX10_encryptBlock 201 = .ok (.ixor, 1) := dk_130 (dk_at dksX10_encryptBlock_8 15 rfl rfl)
theorem dX10_encryptBlock_202 : decode cX10_encryptBlock 202 = .ok (.getstatic 112, 3) := dk_178 0 112 (dk_at dksX10_encryptBlock_8 16 rfl rfl)
theorem dX10_encryptBlock_205 : decode cX10_encryptBlock 205 = .ok (.iload 17, 2) := dk_21 17 (dk_at dksX10_encryptBlock_8 19 rfl rfl)
theorem dX10_encryptBlock_207 : decode cX10_encryptBlock 207 = .ok (.bipush 16, 2) := dk_16 16 (dk_at dksX10_encryptBlock_8 21 rfl rfl)
theorem dX10_encryptBlock_209 : decode cX10_encryptBlock 209 = .ok (.ishr, 1) := dk_122 (dk_at dksX10_encryptBlock_8 23 rfl rfl)
theorem dX10_encryptBlock_210 : decode cX10_encryptBlock 210 = .ok (.sipush 255, 3) := dk_17 0 255 (dk_at dksX10_encryptBlock_9 0 rfl rfl)
theorem dX10_encryptBlock_213 : decode cX10_encryptBlock 213 = .ok (.iand, 1) := dk_126 (dk_at dksX10_encryptBlock_9 3 rfl rfl)
theorem dX10_encryptBlock_214 : decode cX10_encryptBlock 214 = .ok (.iaload, 1) := dk_46 (dk_at dksX10_encryptBlock_9 4 rfl rfl)
theorem dX10_encryptBlock_215 : decode cX10_encryptBlock 215 = .ok (.bipush 16, 2) := dk_16 16 (dk_at dksX10_encryptBlock_9 5 rfl rfl)
theorem dX10_encryptBlock_217 : decode cX10_encryptBlock 217 = .ok (.invokestatic 7, 3) := dk_184 0 7 (dk_at dksX10_encryptBlock_9 7 rfl rfl)
theorem dX10_encryptBlock_220 : decode cX10_encryptBlock 220 = .ok (.ixor, 1) := dk_130 (dk_at dksX10_encryptBlock_9 10 rfl rfl)
theorem dX10_encryptBlock_221 : decode cX10_encryptBlock 221 = .ok (.getstatic 112, 3) := dk_178 0 112 (dk_at dksX10_encryptBlock_9 11 rfl rfl)
theorem dX10_encryptBlock_224 : decode cX10_encryptBlock 224 = .ok (.iload 10, 2) := dk_21 10 (dk_at dksX10_encryptBlock_9 14 rfl rfl)
theorem dX10_encryptBlock_226 : decode cX10_encryptBlock 226 = .ok (.bipush 24, 2) := dk_16 24 (dk_at dksX10_encryptBlock_9 16 rfl rfl)
theorem dX10_encryptBlock_228 : decode cX10_encryptBlock 228 = .ok (.ishr, 1) := dk_122 (dk_at dksX10_encryptBlock_9 18 rfl rfl)
theorem dX10_encryptBlock_229 : decode cX10_encryptBlock 229 = .ok (.sipush 255, 3) := dk_17 0 255 (dk_at dksX10_encryptBlock_9 19 rfl rfl)
theorem dX10_encryptBlock_232 : decode cX10_encryptBlock 232 = .ok (.iand, 1) := dk_126 (dk_at dksX10_encryptBlock_9 22 rfl rfl)
theorem dX10_encryptBlock_233 : decode cX10_encryptBlock 233 = .ok (.iaload, 1) := dk_46 (dk_at dksX10_encryptBlock_9 23 rfl rfl)
theorem dX10_encryptBlock_234 : decode cX10_encryptBlock 234 = .ok (.bipush 8, 2) := dk_16 8 (dk_at dksX10_encryptBlock_10 0 rfl rfl)
theorem dX10_encryptBlock_236 : decode cX10_encryptBlock 236 = .ok (.invokestatic 7, 3) := dk_184 0 7 (dk_at dksX10_encryptBlock_10 2 rfl rfl)
theorem dX10_encryptBlock_239 : decode cX10_encryptBlock 239 = .ok (.ixor, 1) := dk_130 (dk_at dksX10_encryptBlock_10 5 rfl rfl)
theorem dX10_encryptBlock_240 : decode cX10_encryptBlock 240 = .ok (.aload 5, 2) := dk_25 5 (dk_at dksX10_encryptBlock_10 6 rfl rfl)
theorem dX10_encryptBlock_242 : decode cX10_encryptBlock 242 = .ok (.iload 13, 2) := dk_21 13 (dk_at dksX10_encryptBlock_10 8 rfl rfl)
theorem dX10_encryptBlock_244 : decode cX10_encryptBlock 244 = .ok (.aaload, 1) := dk_50 (dk_at dksX10_encryptBlock_10 10 rfl rfl)
theorem dX10_encryptBlock_245 : decode cX10_encryptBlock 245 = .ok (.iconst 1, 1) := dk_4 (dk_at dksX10_encryptBlock_10 11 rfl rfl)
theorem dX10_encryptBlock_246 : decode cX10_encryptBlock 246 = .ok (.iaload, 1) := dk_46 (dk_at dksX10_encryptBlock_10 12 rfl rfl)
theorem dX10_encryptBlock_247 : decode cX10_encryptBlock 247 = .ok (.ixor, 1) := dk_130 (dk_at dksX10_encryptBlock_10 13 rfl rfl)
theorem dX10_encryptBlock_248 : decode cX10_encryptBlock 248 = .ok (.istore 15, 2) := dk_54 15 (dk_at dksX10_encryptBlock_10 14 rfl rfl)
theorem dX10_encryptBlock_250 : decode cX10_encryptBlock 250 = .ok (.getstatic 112, 3) := dk_178 0 112 (dk_at dksX10_encryptBlock_10 16 rfl rfl)
theorem dX10_encryptBlock_253 : decode cX10_encryptBlock 253 = .ok (.iload 12, 2) := dk_21 12 (dk_at dksX10_encryptBlock_10 19 rfl rfl)
theorem dX10_encryptBlock_255 : decode cX10_encryptBlock 255 = .ok (.sipush 255, 3) := dk_17 0 255 (dk_at dksX10_encryptBlock_10 21 rfl rfl)
theorem dX10_encryptBlock_258 : decode cX10_encryptBlock 258 = .ok (.iand, 1) := dk_126 (dk_at dksX10_encryptBlock_11 0 rfl rfl)
theorem dX10_encryptBlock_259 : decode cX10_encryptBlock 259 = .ok (.iaload, 1) := dk_46 (dk_at dksX10_encryptBlock_11 1 rfl rfl)
theorem dX10_encryptBlock_260 : decode cX10_encryptBlock 260 = .ok (.getstatic 112, 3) := dk_178 0 112 (dk_at dksX10_encryptBlock_11 2 rfl rfl)
theorem dX10_encryptBlock_263 : decode cX10_encryptBlock 263 = .ok (.iload 17, 2) := dk_21 17 (dk_at dksX10_encryptBlock_11 5 rfl rfl)
theorem dX10_encryptBlock_265 : decode cX10_encryptBlock 265 = .ok (.bipush 8, 2) := dk_16 8 (dk_at dksX10_encryptBlock_11 7 rfl rfl)
theorem dX10_encryptBlock_267 : decode cX10_encryptBlock 267 = .ok (.ishr, 1) := dk_122 (dk_at dksX10_encryptBlock_11 9 rfl rfl)
theorem dX10_encryptBlock_268 : decode cX10_encryptBlock 268 = .ok (.sipush 255, 3) := dk_17 0 255 (dk_at dksX10_encryptBlock_11 10 rfl rfl)
theorem dX10_encryptBlock_271 : decode cX10_encryptBlock 271 = .ok (.iand, 1) := dk_126 (dk_at dksX10_encryptBlock_11 13 rfl rfl)
theorem dX10_encryptBlock_272 : decode cX10_encryptBlock 272 = .ok (.iaload, 1) := dk_46 (dk_at dksX10_encryptBlock_11 14 rfl rfl)
theorem dX10_encryptBlock_273 : decode cX10_encryptBlock 273 = .ok (.bipush 24, 2) := dk_16 24 (dk_at dksX10_encryptBlock_11 15 rfl rfl)
theorem dX10_encryptBlock_275 : decode cX10_encryptBlock 275 = .ok (.invokestatic 7, 3) := dk_184 0 7 (dk_at dksX10_encryptBlock_11 17 rfl rfl)
theorem dX10_encryptBlock_278 : decode cX10_encryptBlock 278 = .ok (.ixor, 1) := dk_130 (dk_at dksX10_encryptBlock_11 20 rfl rfl)
theorem dX10_encryptBlock_279 : decode cX10_encryptBlock 279 = .ok (.getstatic 112, 3) := dk_178 0 112 (dk_at dksX10_encryptBlock_11 21 rfl rfl)
theorem dX10_encryptBlock_282 : decode cX10_encryptBlock 282 = .ok (.iload 10, 2) := dk_21 10 (dk_at dksX10_encryptBlock_12 0 rfl rfl)
theorem dX10_encryptBlock_284 : decode cX10_encryptBlock 284 = .ok (.bipush 16, 2) := dk_16 16 (dk_at dksX10_encryptBlock_12 2 rfl rfl)
theorem dX10_encryptBlock_286 : decode cX10_encryptBlock 286 = .ok (.ishr, 1) := dk_122 (dk_at dksX10_encryptBlock_12 4 rfl rfl)
theorem dX10_encryptBlock_287 : decode cX10_encryptBlock 287 = .ok (.sipush 255, 3) := dk_17 0 255 (dk_at dksX10_encryptBlock_12 5 rfl rfl)
theorem dX10_encryptBlock_290 : decode cX10_encryptBlock 290 = .ok (.iand, 1) := dk_126 (dk_at dksX10_encryptBlock_12 8 rfl rfl)
theorem dX10_encryptBlock_291 : decode cX10_encryptBlock 291 = .ok (.iaload, 1) := dk_46 (dk_at dksX10_encryptBlock_12 9 rfl rfl)
theorem dX10_encryptBlock_292 : decode cX10_encryptBlock 292 = .ok (.bipush 16, 2) := dk_16 16 (dk_at dksX10_encryptBlock_12 10 rfl rfl)
theorem dX10_encryptBlock_294 : decode cX10_encryptBlock 294 = .ok (.invokestatic 7, 3) := dk_184 0 7 (dk_at dksX10_encryptBlock_12 12 rfl rfl)
theorem dX10_encryptBlock_297 : decode cX10_encryptBlock 297 = .ok (.ixor, 1) := dk_130 (dk_at dksX10_encryptBlock_12 15 rfl rfl)
theorem dX10_encryptBlock_298 : decode cX10_encryptBlock 298 = .ok (.getstatic 112, 3) := dk_178 0 112 (dk_at dksX10_encryptBlock_12 16 rfl rfl)
theorem dX10_encryptBlock_301 : decode cX10_encryptBlock 301 = .ok (.iload 11, 2) := dk_21 11 (dk_at dksX10_encryptBlock_12 19 rfl rfl)
theorem dX10_encryptBlock_303 : decode cX10_encryptBlock 303 = .ok (.bipush 24, 2) := dk_16 24 (dk_at dksX10_encryptBlock_12 21 rfl rfl)
theorem dX10_encryptBlock_305 : decode cX10_encryptBlock 305 = .ok (.ishr, 1) := dk_122 (dk_at dksX10_encryptBlock_12 23 rfl rfl)
theorem dX10_encryptBlock_306 : decode cX10_encryptBlock 306 = .ok (.sipush 255, 3) := dk_17 0 255 (dk_at dksX10_encryptBlock_13 0 rfl rfl)
theorem dX10_encryptBlock_309 : decode cX10_encryptBlock 309 = .ok (.iand, 1) := dk_126 (dk_at dksX10_encryptBlock_13 3 rfl rfl)
theorem dX10_encryptBlock_310 : decode cX10_encryptBlock 310 = .ok (.iaload, 1) := dk_46 (dk_at dksX10_encryptBlock_13 4 rfl rfl)
theorem dX10_encryptBlock_311 : decode cX10_encryptBlock 311 = .ok (.bipush 8, 2) := dk_16 8 (dk_at dksX10_encryptBlock_13 5 rfl rfl)
theorem dX10_encryptBlock_313 : decode cX10_encryptBlock 313 = .ok (.invokestatic 7, 3) := dk_184 0 7 (dk_at dksX10_encryptBlock_13 7 rfl rfl)
theorem dX10_encryptBlock_316 : decode cX10_encryptBlock 316 = .ok (.ixor, 1) := dk_130 (dk_at dksX10_encryptBlock_13 10 rfl rfl)
theorem dX10_encryptBlock_317 : decode cX10_encryptBlock 317 = .ok (.aload 5, 2) := dk_25 5 (dk_at dksX10_encryptBlock_13 11 rfl rfl)
theorem dX10_encryptBlock_319 : decode cX10_encryptBlock 319 = .ok (.iload 13, 2) := dk_21 13 (dk_at dksX10_encryptBlock_13 13 rfl rfl)
theorem dX10_encryptBlock_321 : decode cX10_encryptBlock 321 = .ok (.aaload, 1) := dk_50 (dk_at dksX10_encryptBlock_13 15 rfl rfl)
theorem dX10_encryptBlock_322 : decode cX10_encryptBlock 322 = .ok (.iconst 2, 1) := dk_5 (dk_at dksX10_encryptBlock_13 16 rfl rfl)
theorem dX10_encryptBlock_323 : decode cX10_encryptBlock 323 = .ok (.iaload, 1) := dk_46 (dk_at dksX10_encryptBlock_13 17 rfl rfl)
theorem dX10_encryptBlock_324 : decode cX10_encryptBlock 324 = .ok (.ixor, 1) := dk_130 (dk_at dksX10_encryptBlock_13 18 rfl rfl)
theorem dX10_encryptBlock_325 : decode cX10_encryptBlock 325 = .ok (.istore 16, 2) := dk_54 16 (dk_at dksX10_encryptBlock_13 19 rfl rfl)
theorem dX10_encryptBlock_327 : decode cX10_encryptBlock 327 = .ok (.getstatic 112, 3) := dk_178 0 112 (dk_at dksX10_encryptBlock_13 21 rfl rfl)
theorem dX10_encryptBlock_330 : decode cX10_encryptBlock 330 = .ok (.iload 17, 2) := dk_21 17 (dk_at dksX10_encryptBlock_14 0 rfl rfl)
theorem dX10_encryptBlock_332 : decode cX10_encryptBlock 332 = .ok (.sipush 255, 3) := dk_17 0 255 (dk_at dksX10_encryptBlock_14 2 rfl rfl)
theorem dX10_encryptBlock_335 : decode cX10_encryptBlock 335 = .ok (.iand, 1) := dk_126 (dk_at dksX10_encryptBlock_14 5 rfl rfl)
theorem dX10_encryptBlock_336 : decode cX10_encryptBlock 336 = .ok (.iaload, 1) := dk_46 (dk_at dksX10_encryptBlock_14 6 rfl rfl)
theorem dX10_encryptBlock_337 : decode cX10_encryptBlock 337 = .ok (.getstatic 112, 3) := dk_178 0 112 (dk_at dksX10_encryptBlock_14 7 rfl rfl)
theorem dX10_encryptBlock_340 : decode cX10_encryptBlock 340 = .ok (.iload 10, 2) := dk_21 10 (dk_at dksX10_encryptBlock_14 10 rfl rfl)
theorem dX10_encryptBlock_342 : decode cX10_encryptBlock 342 = .ok (.bipush 8, 2) := dk_16 8 (dk_at dksX10_encryptBlock_14 12 rfl rfl)
theorem dX10_encryptBlock_344 : decode cX10_encryptBlock 344 = .ok (.ishr, 1) := dk_122 (dk_at dksX10_encryptBlock_14 14 rfl rfl)
theorem dX10_encryptBlock_345 : decode cX10_encryptBlock 345 = .ok (.sipush 255, 3) := dk_17 0 255 (dk_at dksX10_encryptBlock_14 15 rfl rfl)
theorem dX10_encryptBlock_348 : decode cX10_encryptBlock 348 = .ok (.iand, 1) := dk_126 (dk_at dksX10_encryptBlock_14 18 rfl rfl)
theorem dX10_encryptBlock_349 : decode cX10_encryptBlock 349 = .ok (.iaload, 1) := dk_46 (dk_at dksX10_encryptBlock_14 19 rfl rfl)
theorem dX10_encryptBlock_350 : decode cX10_encryptBlock 350 = .ok (.bipush 24, 2) := dk_16 24 (dk_at dksX10_encryptBlock_14 20 rfl rfl)
theorem dX10_encryptBlock_352 : decode cX10_encryptBlock 352 = .ok (.invokestatic 7, 3) := dk_184 0 7 (dk_at dksX10_encryptBlock_15 0 rfl rfl)
theorem dX10_encryptBlock_355 : decode cX10_encryptBlock 355 = .ok (.ixor, 1) := dk_130 (dk_at dksX10_encryptBlock_15 3 rfl rfl)
theorem dX10_encryptBlock_356 : decode cX10_encryptBlock 356 = .ok (.getstatic 112, 3) := dk_178 0 112 (dk_at dksX10_encryptBlock_15 4 rfl rfl)
theorem dX10_encryptBlock_359 : decode cX10_encryptBlock 359 = .ok (.iload 11, 2) := dk_21 11 (dk_at dksX10_encryptBlock_15 7 rfl rfl)
theorem dX10_encryptBlock_361 : decode cX10_encryptBlock 361 = .ok (.bipush 16, 2) := dk_16 16 (dk_at dksX10_encryptBlock_15 9 rfl rfl)
theorem dX10_encryptBlock_363 : decode cX10_encryptBlock 363 = .ok (.ishr, 1) := dk_122 (dk_at dksX10_encryptBlock_15 11 rfl rfl)
theorem dX10_encryptBlock_364 : decode cX10_encryptBlock 364 = .ok (.sipush 255, 3) := dk_17 0 255 (dk_at dksX10_encryptBlock_15 12 rfl rfl)
theorem dX10_encryptBlock_367 : decode cX10_encryptBlock 367 = .ok (.iand, 1) := dk_126 (dk_at dksX10_encryptBlock_15 15 rfl rfl)
theorem dX10_encryptBlock_368 : decode cX10_encryptBlock 368 = .ok (.iaload, 1) := dk_46 (dk_at dksX10_encryptBlock_15 16 rfl rfl)
theorem dX10_encryptBlock_369 : decode cX10_encryptBlock 369 = .ok (.bipush 16, 2) := dk_16 16 (dk_at dksX10_encryptBlock_15 17 rfl rfl)
theorem dX10_encryptBlock_371 : decode cX10_encryptBlock 371 = .ok (.invokestatic 7, 3) := dk_184 0 7 (dk_at dksX10_encryptBlock_15 19 rfl rfl)
theorem dX10_encryptBlock_374 : decode cX10_encryptBlock 374 = .ok (.ixor, 1) := dk_130 (dk_at dksX10_encryptBlock_15 22 rfl rfl)
theorem dX10_encryptBlock_375 : decode cX10_encryptBlock 375 = .ok (.getstatic 112, 3) := dk_178 0 112 (dk_at dksX10_encryptBlock_16 0 rfl rfl)
theorem dX10_encryptBlock_378 : decode cX10_encryptBlock 378 = .ok (.iload 12, 2) := dk_21 12 (dk_at dksX10_encryptBlock_16 3 rfl rfl)
theorem dX10_encryptBlock_380 : decode cX10_encryptBlock 380 = .ok (.bipush 24, 2) := dk_16 24 (dk_at dksX10_encryptBlock_16 5 rfl rfl)
theorem dX10_encryptBlock_382 : decode cX10_encryptBlock 382 = .ok (.ishr, 1) := dk_122 (dk_at dksX10_encryptBlock_16 7 rfl rfl)
theorem dX10_encryptBlock_383 : decode cX10_encryptBlock 383 = .ok (.sipush 255, 3) := dk_17 0 255 (dk_at dksX10_encryptBlock_16 8 rfl rfl)
theorem dX10_encryptBlock_386 : decode cX10_encryptBlock 386 = .ok (.iand, 1) := dk_126 (dk_at dksX10_encryptBlock_16 11 rfl rfl)
theorem dX10_encryptBlock_387 : decode cX10_encryptBlock 387 = .ok (.iaload, 1) := dk_46 (dk_at dksX10_encryptBlock_16 12 rfl rfl)
theorem dX10_encryptBlock_388 : decode cX10_encryptBlock 388 = .ok (.bipush 8, 2) := dk_16 8 (dk_at dksX10_encryptBlock_16 13 rfl rfl)
theorem dX10_encryptBlock_390 : decode cX10_encryptBlock 390 = .ok (.invokestatic 7, 3) := dk_184 0 7 (dk_at dksX10_encryptBlock_16 15 rfl rfl)
theorem dX10_encryptBlock_393 : decode cX10_encryptBlock 393 = .ok (.ixor, 1) := dk_130 (dk_at dksX10_encryptBlock_16 18 rfl rfl)
theorem dX10_encryptBlock_394 : decode cX10_encryptBlock 394 = .ok (.aload 5, 2) := dk_25 5 (dk_at dksX10_encryptBlock_16 19 rfl rfl)
theorem dX10_encryptBlock_396 : decode cX10_encryptBlock 396 = .ok (.iload 13, 2) := dk_21 13 (dk_at dksX10_encryptBlock_16 21 rfl rfl)
theorem dX10_encryptBlock_398 : decode cX10_encryptBlock 398 = .ok (.iinc 13 1, 3) := dk_132 13 1 (dk_at dksX10_encryptBlock_17 0 rfl rfl)
theorem dX10_encryptBlock_401 : decode cX10_encryptBlock 401 = .ok (.aaload, 1) := dk_50 (dk_at dksX10_encryptBlock_17 3 rfl rfl)
theorem dX10_encryptBlock_402 : decode cX10_encryptBlock 402 = .ok (.iconst 3, 1) := dk_6 (dk_at dksX10_encryptBlock_17 4 rfl rfl)
theorem dX10_encryptBlock_403 : decode cX10_encryptBlock 403 = .ok (.iaload, 1) := dk_46 (dk_at dksX10_encryptBlock_17 5 rfl rfl)
theorem dX10_encryptBlock_404 : decode cX10_encryptBlock 404 = .ok (.ixor, 1) := dk_130 (dk_at dksX10_encryptBlock_17 6 rfl rfl)
theorem dX10_encryptBlock_405 : decode cX10_encryptBlock 405 = .ok (.istore 17, 2) := dk_54 17 (dk_at dksX10_encryptBlock_17 7 rfl rfl)
theorem dX10_encryptBlock_407 : decode cX10_encryptBlock 407 = .ok (.getstatic 112, 3) := dk_178 0 112 (dk_at dksX10_encryptBlock_17 9 rfl rfl)
theorem dX10_encryptBlock_410 : decode cX10_encryptBlock 410 = .ok (.iload 14, 2) := dk_21 14 (dk_at dksX10_encryptBlock_17 12 rfl rfl)
theorem dX10_encryptBlock_412 : decode cX10_encryptBlock 412 = .ok (.sipush 255, 3) := dk_17 0 255 (dk_at dksX10_encryptBlock_17 14 rfl rfl)
theorem dX10_encryptBlock_415 : decode cX10_encryptBlock 415 = .ok (.iand, 1) := dk_126 (dk_at dksX10_encryptBlock_17 17 rfl rfl)
theorem dX10_encryptBlock_416 : decode cX10_encryptBlock 416 = .ok (.iaload, 1) := dk_46 (dk_at dksX10_encryptBlock_17 18 rfl rfl)
theorem dX10_encryptBlock_417 : decode cX10_encryptBlock 417 = .ok (.getstatic 112, 3) := dk_178 0 112 (dk_at dksX10_encryptBlock_17 19 rfl rfl)
theorem dX10_encryptBlock_420 : decode cX10_encryptBlock 420 = .ok (.iload 15, 2) := dk_21 15 (dk_at dksX10_encryptBlock_17 22 rfl rfl)
theorem dX10_encryptBlock_422 : decode cX10_encryptBlock 422 = .ok (.bipush 8, 2) := dk_16 8 (dk_at dksX10_encryptBlock_18 0 rfl rfl)
theorem dX10_encryptBlock_424 : decode cX10_encryptBlock 424 = .ok (.ishr, 1) := dk_122 (dk_at dksX10_encryptBlock_18 2 rfl rfl)
theorem dX10_encryptBlock_425 : decode cX10_encryptBlock 425 = .ok (.sipush 255, 3) := dk_17 0 255 (dk_at dksX10_encryptBlock_18 3 rfl rfl)
theorem dX10_encryptBlock_428 : decode cX10_encryptBlock 428 = .ok (.iand, 1) := dk_126 (dk_at dksX10_encryptBlock_18 6 rfl rfl)
theorem dX10_encryptBlock_429 : decode cX10_encryptBlock 429 = .ok (.iaload, 1) := dk_46 (dk_at dksX10_encryptBlock_18 7 rfl rfl)
theorem dX10_encryptBlock_430 : decode cX10_encryptBlock 430 = .ok (.bipush 24, 2) := dk_16 24 (dk_at dksX10_encryptBlock_18 8 rfl rfl)
theorem dX10_encryptBlock_432 : decode cX10_encryptBlock 432 = .ok (.invokestatic 7, 3) := dk_184 0 7 (dk_at dksX10_encryptBlock_18 10 rfl rfl)
theorem dX10_encryptBlock_435 : decode cX10_encryptBlock 435 = .ok (.ixor, 1) := dk_130 (dk_at dksX10_encryptBlock_18 13 rfl rfl)
theorem dX10_encryptBlock_436 : decode cX10_encryptBlock 436 = .ok (.getstatic 112, 3) := dk_178 0 112 (dk_at dksX10_encryptBlock_18 14 rfl rfl)
theorem dX10_encryptBlock_439 : decode cX10_encryptBlock 439 = .ok (.iload 16, 2) := dk_21 16 (dk_at dksX10_encryptBlock_18 17 rfl rfl)
theorem dX10_encryptBlock_441 : decode cX10_encryptBlock 441 = .ok (.bipush 16, 2) := dk_16 16 (dk_at dksX10_encryptBlock_18 19 rfl rfl)
theorem dX10_encryptBlock_443 : decode cX10_encryptBlock 443 = .ok (.ishr, 1) := dk_122 (dk_at dksX10_encryptBlock_18 21 rfl rfl)
theorem dX10_encryptBlock_444 : decode cX10_encryptBlock 444 = .ok (.sipush 255, 3) := dk_17 0 255 (dk_at dksX10_encryptBlock_19 0 rfl rfl)
theorem dX10_encryptBlock_447 : decode cX10_encryptBlock 447 = .ok (.iand, 1) := dk_126 (dk_at dksX10_encryptBlock_19 3 rfl rfl)
theorem dX10_encryptBlock_448 : decode cX10_encryptBlock 448 = .ok (.iaload, 1) := dk_46 (dk_at dksX10_encryptBlock_19 4 rfl rfl)
theorem dX10_encryptBlock_449 : decode cX10_encryptBlock 449 = .ok (.bipush 16, 2) := dk_16 16 (dk_at dksX10_encryptBlock_19 5 rfl rfl)
theorem dX10_encryptBlock_451 : decode cX10_encryptBlock 451 = .ok (.invokestatic 7, 3) := dk_184 0 7 (dk_at dksX10_encryptBlock_19 7 rfl rfl)
theorem dX10_encryptBlock_454 : decode cX10_encryptBlock 454 = .ok (.ixor, 1) := dk_130 (dk_at dksX10_encryptBlock_19 10 rfl rfl)
theorem dX10_encryptBlock_455 : decode cX10_encryptBlock 455 = .ok (.getstatic 112, 3) := dk_178 0 112 (dk_at dksX10_encryptBlock_19 11 rfl rfl)
theorem dX10_encryptBlock_458 : decode cX10_encryptBlock 458 = .ok (.iload 17, 2) := dk_21 17 (dk_at dksX10_encryptBlock_19 14 rfl rfl)
theorem dX10_encryptBlock_460 : decode cX10_encryptBlock 460 = .ok (.bipush 24, 2) := dk_16 24 (dk_at dksX10_encryptBlock_19 16 rfl rfl)
theorem dX10_encryptBlock_462 : decode cX10_encryptBlock 462 = .ok (.ishr, 1) := dk_122 (dk_at dksX10_encryptBlock_19 18 rfl rfl)
theorem dX10_encryptBlock_463 : decode cX10_encryptBlock 463 = .ok (.sipush 255, 3) := dk_17 0 255 (dk_at dksX10_encryptBlock_19 19 rfl rfl)
theorem dX10_encryptBlock_466 : decode cX10_encryptBlock 466 = .ok (.iand, 1) := dk_126 (dk_at dksX10_encryptBlock_19 22 rfl rfl)
theorem dX10_encryptBlock_467 : decode cX10_encryptBlock 467 = .ok (.iaload, 1) := dk_46 (dk_at dksX10_encryptBlock_19 23 rfl rfl)
theorem dX10_encryptBlock_468 : decode cX10_encryptBlock 468 = .ok (.bipush 8, 2) := dk_16 8 (dk_at dksX10_encryptBlock_20 0 rfl rfl)
theorem dX10_encryptBlock_470 : decode cX10_encryptBlock 470 = .ok (.invokestatic 7, 3) := dk_184 0 7 (dk_at dksX10_encryptBlock_20 2 rfl rfl)
theorem dX10_encryptBlock_473 : decode cX10_encryptBlock 473 = .ok (.ixor, 1) := dk_130 (dk_at dksX10_encryptBlock_20 5 rfl rfl)
theorem dX10_encryptBlock_474 : decode cX10_encryptBlock 474 = .ok (.aload 5, 2) := dk_25 5 (dk_at dksX10_encryptBlock_20 6 rfl rfl)
theorem dX10_encryptBlock_476 : decode cX10_encryptBlock 476 = .ok (.iload 13, 2) := dk_21 13 (dk_at dksX10_encryptBlock_20 8 rfl rfl)
theorem dX10_encryptBlock_478 : decode cX10_encryptBlock 478 = .ok (.aaload, 1) := dk_50 (dk_at dksX10_encryptBlock_20 10 rfl rfl)
theorem dX10_encryptBlock_479 : decode cX10_encryptBlock 479 = .ok (.iconst 0, 1) := dk_3 (dk_at dksX10_encryptBlock_20 11 rfl rfl)
theorem dX10_encryptBlock_480 : decode cX10_encryptBlock 480 = .ok (.iaload, 1) := dk_46 (dk_at dksX10_encryptBlock_20 12 rfl rfl)
theorem dX10_encryptBlock_481 : decode cX10_encryptBlock 481 = .ok (.ixor, 1) := dk_130 (dk_at dksX10_encryptBlock_20 13 rfl rfl)
theorem dX10_encryptBlock_482 : decode cX10_encryptBlock 482 = .ok (.istore 10, 2) := dk_54 10 (dk_at dksX10_encryptBlock_20 14 rfl rfl)
theorem dX10_encryptBlock_484 : decode cX10_encryptBlock 484 = .ok (.getstatic 112, 3) := dk_178 0 112 (dk_at dksX10_encryptBlock_20 16 rfl rfl)
theorem dX10_encryptBlock_487 : decode cX10_encryptBlock 487 = .ok (.iload 15, 2) := dk_21 15 (dk_at dksX10_encryptBlock_20 19 rfl rfl)
theorem dX10_encryptBlock_489 : decode cX10_encryptBlock 489 = .ok (.sipush 255, 3) := dk_17 0 255 (dk_at dksX10_encryptBlock_20 21 rfl rfl)
theorem dX10_encryptBlock_492 : decode cX10_encryptBlock 492 = .ok (.iand, 1) := dk_126 (dk_at dksX10_encryptBlock_21 0 rfl rfl)
theorem dX10_encryptBlock_493 : decode cX10_encryptBlock 493 = .ok (.iaload, 1) := dk_46 (dk_at dksX10_encryptBlock_21 1 rfl rfl)
theorem dX10_encryptBlock_494 : decode cX10_encryptBlock 494 = .ok (.getstatic 112, 3) := dk_178 0 112 (dk_at dksX10_encryptBlock_21 2 rfl rfl)
theorem dX10_encryptBlock_497 : decode cX10_encryptBlock 497 = .ok (.iload 16, 2) := dk_21 16 (dk_at dksX10_encryptBlock_21 5 rfl rfl)
theorem dX10_encryptBlock_499 : decode cX10_encryptBlock 499 = .ok (.bipush 8, 2) := dk_16 8 (dk_at dksX10_encryptBlock_21 7 rfl rfl)
theorem dX10_encryptBlock_501 : decode cX10_encryptBlock 501 = .ok (.ishr, 1) := dk_122 (dk_at dksX10_encryptBlock_21 9 rfl rfl)
theorem dX10_encryptBlock_502 : decode cX10_encryptBlock 502 = .ok (.sipush 255, 3) := dk_17 0 255 (dk_at dksX10_encryptBlock_21 10 rfl rfl)
theorem dX10_encryptBlock_505 : decode cX10_encryptBlock 505 = .ok (.iand, 1) := dk_126 (dk_at dksX10_encryptBlock_21 13 rfl rfl)
theorem dX10_encryptBlock_506 : decode cX10_encryptBlock 506 = .ok (.iaload, 1) := dk_46 (dk_at dksX10_encryptBlock_21 14 rfl rfl)
theorem dX10_encryptBlock_507 : decode cX10_encryptBlock 507 = .ok (.bipush 24, 2) := dk_16 24 (dk_at dksX10_encryptBlock_21 15 rfl rfl)
theorem dX10_encryptBlock_509 : decode cX10_encryptBlock 509 = .ok (.invokestatic 7, 3) := dk_184 0 7 (dk_at dksX10_encryptBlock_21 17 rfl rfl)
theorem dX10_encryptBlock_512 : decode cX10_encryptBlock 512 = .ok (.ixor, 1) := dk_130 (dk_at dksX10_encryptBlock_21 20 rfl rfl)
theorem dX10_encryptBlock_513 : decode cX10_encryptBlock 513 = .ok (.getstatic 112, 3) := dk_178 0 112 (dk_at dksX10_encryptBlock_21 21 rfl rfl)
theorem dX10_encryptBlock_516 : decode cX10_encryptBlock 516 = .ok (.iload 17, 2) := dk_21 17 (dk_at dksX10_encryptBlock_22 0 rfl rfl)
theorem dX10_encryptBlock_518 : decode cX10_encryptBlock 518 = .ok (.bipush 16, 2) := dk_16 16 (dk_at dksX10_encryptBlock_22 2 rfl rfl)
theorem dX10_encryptBlock_520 : decode cX10_encryptBlock 520 = .ok (.ishr, 1) := dk_122 (dk_at dksX10_encryptBlock_22 4 rfl rfl)
theorem dX10_encryptBlock_521 : decode cX10_encryptBlock 521 = .ok (.sipush 255, 3) := dk_17 0 255 (dk_at dksX10_encryptBlock_22 5 rfl rfl)
theorem dX10_encryptBlock_524 : decode cX10_encryptBlock 524 = .ok (.iand, 1) := dk_126 (dk_at dksX10_encryptBlock_22 8 rfl rfl)
theorem dX10_encryptBlock_525 : decode cX10_encryptBlock 525 = .ok (.iaload, 1) := dk_46 (dk_at dksX10_encryptBlock_22 9 rfl rfl)
theorem dX10_encryptBlock_526 : decode cX10_encryptBlock 526 = .ok (.bipush 16, 2) := dk_16 16 (dk_at dksX10_encryptBlock_22 10 rfl rfl)
theorem dX10_encryptBlock_528 : decode cX10_encryptBlock 528 = .ok (.invokestatic 7, 3) := dk_184 0 7 (dk_at dksX10_encryptBlock_22 12 rfl rfl)
theorem dX10_encryptBlock_531 : decode cX10_encryptBlock 531 = .ok (.ixor, 1) := dk_130 (dk_at dksX10_encryptBlock_22 15 rfl rfl)
theorem dX10_encryptBlock_532 : decode cX10_encryptBlock 532 = .ok (.getstatic 112, 3) := dk_178 0 112 (dk_at dksX10_encryptBlock_22 16 rfl rfl)
theorem dX10_encryptBlock_535 : decode cX10_encryptBlock 535 = .ok (.iload 14, 2) := dk_21 14 (dk_at dksX10_encryptBlock_22 19 rfl rfl)
theorem dX10_encryptBlock_537 : decode cX10_encryptBlock 537 = .ok (.bipush 24, 2) := dk_16 24 (dk_at dksX10_encryptBlock_22 21 rfl rfl)
theorem dX10_encryptBlock_539 : decode cX10_encryptBlock 539 = .ok (.ishr, 1) := dk_122 (dk_at dksX10_encryptBlock_22 23 rfl rfl)
theorem dX10_encryptBlock_540 : decode cX10_encryptBlock 540 = .ok (.sipush 255, 3) := dk_17 0 255 (dk_at dksX10_encryptBlock_23 0 rfl rfl)
theorem dX10_encryptBlock_543 : decode cX10_encryptBlock 543 = .ok (.iand, 1) := dk_126 (dk_at dksX10_encryptBlock_23 3 rfl rfl)
theorem dX10_encryptBlock_544 : decode cX10_encryptBlock 544 = .ok (.iaload, 1) := dk_46 (dk_at dksX10_encryptBlock_23 4 rfl rfl)
theorem dX10_encryptBlock_545 : decode cX10_encryptBlock 545 = .ok (.bipush 8, 2) := dk_16 8 (dk_at dksX10_encryptBlock_23 5 rfl rfl)
theorem dX10_encryptBlock_547 : decode cX10_encryptBlock 547 = .ok (.invokestatic 7, 3) := dk_184 0 7 (dk_at dksX10_encryptBlock_23 7 rfl rfl)
theorem dX10_encryptBlock_550 : decode cX10_encryptBlock 550 = .ok (.ixor, 1) := dk_130 (dk_at dksX10_encryptBlock_23 10 rfl rfl)
theorem dX10_encryptBlock_551 : decode cX10_encryptBlock 551 = .ok (.aload 5, 2) := dk_25 5 (dk_at dksX10_encryptBlock_23 11 rfl rfl)
theorem dX10_encryptBlock_553 : decode cX10_encryptBlock 553 = .ok (.iload 13, 2) := dk_21 13 (dk_at dksX10_encryptBlock_23 13 rfl rfl)
theorem dX10_encryptBlock_555 : decode cX10_encryptBlock 555 = .ok (.aaload, 1) := dk_50 (dk_at dksX10_encryptBlock_23 15 rfl rfl)
theorem dX10_encryptBlock_556 : decode cX10_encryptBlock 556 = .ok (.iconst 1, 1) := dk_4 (dk_at dksX10_encryptBlock_23 16 rfl rfl)
theorem dX10_encryptBlock_557 : decode cX10_encryptBlock 557 = .ok (.iaload, 1) := dk_46 (dk_at dksX10_encryptBlock_23 17 rfl rfl)
theorem dX10_encryptBlock_558 : decode cX10_encryptBlock 558 = .ok (.ixor, 1) := dk_130 (dk_at dksX10_encryptBlock_23 18 rfl rfl)
theorem dX10_encryptBlock_559 : decode cX10_encryptBlock 559 = .ok (.istore 11, 2) := dk_54 11 (dk_at dksX10_encryptBlock_23 19 rfl rfl)
theorem dX10_encryptBlock_561 : decode cX10_encryptBlock 561 = .ok (.getstatic 112, 3) := dk_178 0 112 (dk_at dksX10_encryptBlock_23 21 rfl rfl)
theorem dX10_encryptBlock_564 : decode cX10_encryptBlock 564 = .ok (.iload 16, 2) := dk_21 16 (dk_at dksX10_encryptBlock_24 0 rfl rfl)
theorem dX10_encryptBlock_566 : decode cX10_encryptBlock 566 = .ok (.sipush 255, 3) := dk_17 0 255 (dk_at dksX10_encryptBlock_24 2 rfl rfl)
theorem dX10_encryptBlock_569 : decode cX10_encryptBlock 569 = .ok (.iand, 1) := dk_126 (dk_at dksX10_encryptBlock_24 5 rfl rfl)
theorem dX10_encryptBlock_570 : decode cX10_encryptBlock 570 = .ok (.iaload, 1) := dk_46 (dk_at dksX10_encryptBlock_24 6 rfl rfl)
theorem dX10_encryptBlock_571 : decode cX10_encryptBlock 571 = .ok (.getstatic 112, 3) := dk_178 0 112 (dk_at dksX10_encryptBlock_24 7 rfl rfl)
theorem dX10_encryptBlock_574 : decode cX10_encryptBlock 574 = .ok (.iload 17, 2) := dk_21 17 (dk_at dksX10_encryptBlock_24 10 rfl rfl)
theorem dX10_encryptBlock_576 : decode cX10_encryptBlock 576 = .ok (.bipush 8, 2) := dk_16 8 (dk_at dksX10_encryptBlock_24 12 rfl rfl)
theorem dX10_encryptBlock_578 : decode cX10_encryptBlock 578 = .ok (.ishr, 1) := dk_122 (dk_at dksX10_encryptBlock_24 14 rfl rfl)
theorem dX10_encryptBlock_579 : decode cX10_encryptBlock 579 = .ok (.sipush 255, 3) := dk_17 0 255 (dk_at dksX10_encryptBlock_24 15 rfl rfl)
theorem dX10_encryptBlock_582 : decode cX10_encryptBlock 582 = .ok (.iand, 1) := dk_126 (dk_at dksX10_encryptBlock_24 18 rfl rfl)
theorem dX10_encryptBlock_583 : decode cX10_encryptBlock 583 = .ok (.iaload, 1) := dk_46 (dk_at dksX10_encryptBlock_24 19 rfl rfl)
theorem dX10_encryptBlock_584 : decode cX10_encryptBlock 584 = .ok (.bipush 24, 2) := dk_16 24 (dk_at dksX10_encryptBlock_24 20 rfl rfl)
theorem dX10_encryptBlock_586 : decode cX10_encryptBlock 586 = .ok (.invokestatic 7, 3) := dk_184 0 7 (dk_at dksX10_encryptBlock_25 0 rfl rfl)
theorem dX10_encryptBlock_589 : decode cX10_encryptBlock 589 = .ok (.ixor, 1) := dk_130 (dk_at dksX10_encryptBlock_25 3 rfl rfl)
theorem dX10_encryptBlock_590 : decode cX10_encryptBlock 590 = .ok (.getstatic 112, 3) := dk_178 0 112 (dk_at dksX10_encryptBlock_25 4 rfl rfl)
theorem dX10_encryptBlock_593 : decode cX10_encryptBlock 593 = .ok (.iload 14, 2) := dk_21 14 (dk_at dksX10_encryptBlock_25 7 rfl rfl)
theorem dX10_encryptBlock_595 : decode cX10_encryptBlock 595 = .ok (.bipush 16, 2) := dk_16 16 (dk_at dksX10_encryptBlock_25 9 rfl rfl)
theorem dX10_encryptBlock_597 : decode cX10_encryptBlock 597 = .ok (.ishr, 1) := dk_122 (dk_at dksX10_encryptBlock_25 11 rfl rfl)
theorem dX10_encryptBlock_598 : decode cX10_encryptBlock 598 = .ok (.sipush 255, 3) := dk_17 0 255 (dk_at dksX10_encryptBlock_25 12 rfl rfl)
theorem dX10_encryptBlock_601 : decode cX10_encryptBlock 601 = .ok (.iand, 1) := dk_126 (dk_at dksX10_encryptBlock_25 15 rfl rfl)
theorem dX10_encryptBlock_602 : decode cX10_encryptBlock 602 = .ok (.iaload, 1) := dk_46 (dk_at dksX10_encryptBlock_25 16 rfl rfl)
theorem dX10_encryptBlock_603 : decode cX10_encryptBlock 603 = .ok (.bipush 16, 2) := dk_16 16 (dk_at dksX10_encryptBlock_25 17 rfl rfl)
theorem dX10_encryptBlock_605 : decode cX10_encryptBlock 605 = .ok (.invokestatic 7, 3) := dk_184 0 7 (dk_at dksX10_encryptBlock_25 19 rfl rfl)
theorem dX10_encryptBlock_608 : decode cX10_encryptBlock 608 = .ok (.ixor, 1) := dk_130 (dk_at dksX10_encryptBlock_25 22 rfl rfl)
theorem dX10_encryptBlock_609 : decode cX10_encryptBlock 609 = .ok (.getstatic 112, 3) := dk_178 0 112 (dk_at dksX10_encryptBlock_26 0 rfl rfl)
theorem dX10_encryptBlock_612 : decode cX10_encryptBlock 612 = .ok (.iload 15, 2) := dk_21 15 (dk_at dksX10_encryptBlock_26 3 rfl rfl)
theorem dX10_encryptBlock_614 : decode cX10_encryptBlock 614 = .ok (.bipush 24, 2) := dk_16 24 (dk_at dksX10_encryptBlock_26 5 rfl rfl)
theorem dX10_encryptBlock_616 : decode cX10_encryptBlock 616 = .ok (.ishr, 1) := dk_122 (dk_at dksX10_encryptBlock_26 7 rfl rfl)
theorem dX10_encryptBlock_617 : decode cX10_encryptBlock 617 = .ok (.sipush 255, 3) := dk_17 0 255 (dk_at dksX10_encryptBlock_26 8 rfl rfl)
theorem dX10_encryptBlock_620 : decode cX10_encryptBlock 620 = .ok (.iand, 1) := dk_126 (dk_at dksX10_encryptBlock_26 11 rfl rfl)
theorem dX10_encryptBlock_621 : decode cX10_encryptBlock 621 = .ok (.iaload, 1) := dk_46 (dk_at dksX10_encryptBlock_26 12 rfl rfl)
theorem dX10_encryptBlock_622 : decode cX10_encryptBlock 622 = .ok (.bipush 8, 2) := dk_16 8 (dk_at dksX10_encryptBlock_26 13 rfl rfl)
theorem dX10_encryptBlock_624 : decode cX10_encryptBlock 624 = .ok (.invokestatic 7, 3) := dk_184 0 7 (dk_at dksX10_encryptBlock_26 15 rfl rfl)
theorem dX10_encryptBlock_627 : decode cX10_encryptBlock 627 = .ok (.ixor, 1) := dk_130 (dk_at dksX10_encryptBlock_26 18 rfl rfl)
theorem dX10_encryptBlock_628 : decode cX10_encryptBlock 628 = .ok (.aload 5, 2) := dk_25 5 (dk_at dksX10_encryptBlock_26 19 rfl rfl)
theorem dX10_encryptBlock_630 : decode cX10_encryptBlock 630 = .ok (.iload 13, 2) := dk_21 13 (dk_at dksX10_encryptBlock_26 21 rfl rfl)
theorem dX10_encryptBlock_632 : decode cX10_encryptBlock 632 = .ok (.aaload, 1) := dk_50 (dk_at dksX10_encryptBlock_26 23 rfl rfl)
theorem dX10_encryptBlock_633 : decode cX10_encryptBlock 633 = .ok (.iconst 2, 1) := dk_5 (dk_at dksX10_encryptBlock_27 0 rfl rfl)
theorem dX10_encryptBlock_634 : decode cX10_encryptBlock 634 = .ok (.iaload, 1) := dk_46 (dk_at dksX10_encryptBlock_27 1 rfl rfl)
theorem dX10_encryptBlock_635 : decode cX10_encryptBlock 635 = .ok (.ixor, 1) := dk_130 (dk_at dksX10_encryptBlock_27 2 rfl rfl)
theorem dX10_encryptBlock_636 : decode cX10_encryptBlock 636 = .ok (.istore 12, 2) := dk_54 12 (dk_at dksX10_encryptBlock_27 3 rfl rfl)
theorem dX10_encryptBlock_638 : decode cX10_encryptBlock 638 = .ok (.getstatic 112, 3) := dk_178 0 112 (dk_at dksX10_encryptBlock_27 5 rfl rfl)
theorem dX10_encryptBlock_641 : decode cX10_encryptBlock 641 = .ok (.iload 17, 2) := dk_21 17 (dk_at dksX10_encryptBlock_27 8 rfl rfl)
theorem dX10_encryptBlock_643 : decode cX10_encryptBlock 643 = .ok (.sipush 255, 3) := dk_17 0 255 (dk_at dksX10_encryptBlock_27 10 rfl rfl)
theorem dX10_encryptBlock_646 : decode cX10_encryptBlock 646 = .ok (.iand, 1) := dk_126 (dk_at dksX10_encryptBlock_27 13 rfl rfl)
theorem dX10_encryptBlock_647 : decode cX10_encryptBlock 647 = .ok (.iaload, 1) := dk_46 (dk_at dksX10_encryptBlock_27 14 rfl rfl)
theorem dX10_encryptBlock_648 : decode cX10_encryptBlock 648 = .ok (.getstatic 112, 3) := dk_178 0 112 (dk_at dksX10_encryptBlock_27 15 rfl rfl)
theorem dX10_encryptBlock_651 : decode cX10_encryptBlock 651 = .ok (.iload 14, 2) := dk_21 14 (dk_at dksX10_encryptBlock_27 18 rfl rfl)
theorem dX10_encryptBlock_653 : decode cX10_encryptBlock 653 = .ok (.bipush 8, 2) := dk_16 8 (dk_at dksX10_encryptBlock_27 20 rfl rfl)
theorem dX10_encryptBlock_655 : decode cX10_encryptBlock 655 = .ok (.ishr, 1) := dk_122 (dk_at dksX10_encryptBlock_27 22 rfl rfl)
theorem dX10_encryptBlock_656 : decode cX10_encryptBlock 656 = .ok (.sipush 255, 3) := dk_17 0 255 (dk_at dksX10_encryptBlock_28 0 rfl rfl)
theorem dX10_encryptBlock_659 : decode cX10_encryptBlock 659 = .ok (.iand, 1) := dk_126 (dk_at dksX10_encryptBlock_28 3 rfl rfl)
theorem dX10_encryptBlock_660 : decode cX10_encryptBlock 660 = .ok (.iaload, 1) := dk_46 (dk_at dksX10_encryptBlock_28 4 rfl rfl)
theorem dX10_encryptBlock_661 : decode cX10_encryptBlock 661 = .ok (.bipush 24, 2) := dk_16 24 (dk_at dksX10_encryptBlock_28 5 rfl rfl)
theorem dX10_encryptBlock_663 : decode cX10_encryptBlock 663 = .ok (.invokestatic 7, 3) := dk_184 0 7 (dk_at dksX10_encryptBlock_28 7 rfl rfl)
theorem dX10_encryptBlock_666 : decode cX10_encryptBlock 666 = .ok (.ixor, 1) := dk_130 (dk_at dksX10_encryptBlock_28 10 rfl rfl)
theorem dX10_encryptBlock_667 : decode cX10_encryptBlock 667 = .ok (.getstatic 112, 3) := dk_178 0 112 (dk_at dksX10_encryptBlock_28 11 rfl rfl)
theorem dX10_encryptBlock_670 : decode cX10_encryptBlock 670 = .ok (.iload 15, 2) := dk_21 15 (dk_at dksX10_encryptBlock_28 14 rfl rfl)
theorem dX10_encryptBlock_672 : decode cX10_encryptBlock 672 = .ok (.bipush 16, 2) := dk_16 16 (dk_at dksX10_encryptBlock_28 16 rfl rfl)
theorem dX10_encryptBlock_674 : decode cX10_encryptBlock 674 = .ok (.ishr, 1) := dk_122 (dk_at dksX10_encryptBlock_28 18 rfl rfl)
theorem dX10_encryptBlock_675 : decode cX10_encryptBlock 675 = .ok (.sipush 255, 3) := dk_17 0 255 (dk_at dksX10_encryptBlock_28 19 rfl rfl)
theorem dX10_encryptBlock_678 : decode cX10_encryptBlock 678 = .ok (.iand, 1) := dk_126 (dk_at dksX10_encryptBlock_28 22 rfl rfl)
theorem dX10_encryptBlock_679 : decode cX10_encryptBlock 679 = .ok (.iaload, 1) := dk_46 (dk_at dksX10_encryptBlock_28 23 rfl rfl)
theorem dX10_encryptBlock_680 : decode cX10_encryptBlock 680 = .ok (.bipush 16, 2) := dk_16 16 (dk_at dksX10_encryptBlock_29 0 rfl rfl)
theorem dX10_encryptBlock_682 : decode cX10_encryptBlock 682 = .ok (.invokestatic 7, 3) := dk_184 0 7 (dk_at dksX10_encryptBlock_29 2 rfl rfl)
theorem dX10_encryptBlock_685 : decode cX10_encryptBlock 685 = .ok (.ixor, 1) := dk_130 (dk_at dksX10_encryptBlock_29 5 rfl rfl)
theorem dX10_encryptBlock_686 : decode cX10_encryptBlock 686 = .ok (.getstatic 112, 3) := dk_178 0 112 (dk_at dksX10_encryptBlock_29 6 rfl rfl)
theorem dX10_encryptBlock_689 : decode cX10_encryptBlock 689 = .ok (.iload 16, 2) := dk_21 16 (dk_at dksX10_encryptBlock_29 9 rfl rfl)
theorem dX10_encryptBlock_691 : decode cX10_encryptBlock 691 = .ok (.bipush 24, 2) := dk_16 24 (dk_at dksX10_encryptBlock_29 11 rfl rfl)
theorem dX10_encryptBlock_693 : decode cX10_encryptBlock 693 = .ok (.ishr, 1) := dk_122 (dk_at dksX10_encryptBlock_29 13 rfl rfl)
theorem dX10_encryptBlock_694 : decode cX10_encryptBlock 694 = .ok (.sipush 255, 3) := dk_17 0 255 (dk_at dksX10_encryptBlock_29 14 rfl rfl)
theorem dX10_encryptBlock_697 : decode cX10_encryptBlock 697 = .ok (.iand, 1) := dk_126 (dk_at dksX10_encryptBlock_29 17 rfl rfl)
theorem dX10_encryptBlock_698 : decode cX10_encryptBlock 698 = .ok (.iaload, 1) := dk_46 (dk_at dksX10_encryptBlock_29 18 rfl rfl)
theorem dX10_encryptBlock_699 : decode cX10_encryptBlock 699 = .ok (.bipush 8, 2) := dk_16 8 (dk_at dksX10_encryptBlock_29 19 rfl rfl)
theorem dX10_encryptBlock_701 : decode cX10_encryptBlock 701 = .ok (.invokestatic 7, 3) := dk_184 0 7 (dk_at dksX10_encryptBlock_29 21 rfl rfl)
theorem dX10_encryptBlock_704 : decode cX10_encryptBlock 704 = .ok (.ixor, 1) := dk_130 (dk_at dksX10_encryptBlock_30 0 rfl rfl)
theorem dX10_encryptBlock_705 : decode cX10_encryptBlock 705 = .ok (.aload 5, 2) := dk_25 5 (dk_at dksX10_encryptBlock_30 1 rfl rfl)
theorem dX10_encryptBlock_707 : decode cX10_encryptBlock 707 = .ok (.iload 13, 2) := dk_21 13 (dk_at dksX10_encryptBlock_30 3 rfl rfl)
theorem dX10_encryptBlock_709 : decode cX10_encryptBlock 709 = .ok (.iinc 13 1, 3) := dk_132 13 1 (dk_at dksX10_encryptBlock_30 5 rfl rfl)
theorem dX10_encryptBlock_712 : decode cX10_encryptBlock 712 = .ok (.aaload, 1) := dk_50 (dk_at dksX10_encryptBlock_30 8 rfl rfl)
theorem dX10_encryptBlock_713 : decode cX10_encryptBlock 713 = .ok (.iconst 3, 1) := dk_6 (dk_at dksX10_encryptBlock_30 9 rfl rfl)
theorem dX10_encryptBlock_714 : decode cX10_encryptBlock 714 = .ok (.iaload, 1) := dk_46 (dk_at dksX10_encryptBlock_30 10 rfl rfl)
theorem dX10_encryptBlock_715 : decode cX10_encryptBlock 715 = .ok (.ixor, 1) := dk_130 (dk_at dksX10_encryptBlock_30 11 rfl rfl)
theorem dX10_encryptBlock_716 : decode cX10_encryptBlock 716 = .ok (.istore 17, 2) := dk_54 17 (dk_at dksX10_encryptBlock_30 12 rfl rfl)
theorem dX10_encryptBlock_718 : decode cX10_encryptBlock 718 = .ok (.goto (-633), 3) := dk_167 253 135 (dk_at dksX10_encryptBlock_30 14 rfl rfl)
theorem dX10_encryptBlock_721 : decode cX10_encryptBlock 721 = .ok (.getstatic 112, 3) := dk_178 0 112 (dk_at dksX10_encryptBlock_30 17 rfl rfl)
theorem dX10_encryptBlock_724 : decode cX10_encryptBlock 724 = .ok (.iload 10, 2) := dk_21 10 (dk_at dksX10_encryptBlock_30 20 rfl rfl)
theorem dX10_encryptBlock_726 : decode cX10_encryptBlock 726 = .ok (.sipush 255, 3) := dk_17 0 255 (dk_at dksX10_encryptBlock_31 0 rfl rfl)
theorem dX10_encryptBlock_729 : decode cX10_encryptBlock 729 = .ok (.iand, 1) := dk_126 (dk_at dksX10_encryptBlock_31 3 rfl rfl)
theorem dX10_encryptBlock_730 : decode cX10_encryptBlock 730 = .ok (.iaload, 1) := dk_46 (dk_at dksX10_encryptBlock_31 4 rfl rfl)
theorem dX10_encryptBlock_731 : decode cX10_encryptBlock 731 = .ok (.getstatic 112, 3) := dk_178 0 112 (dk_at dksX10_encryptBlock_31 5 rfl rfl)
theorem dX10_encryptBlock_734 : decode cX10_encryptBlock 734 = .ok (.iload 11, 2) := dk_21 11 (dk_at dksX10_encryptBlock_31 8 rfl rfl)
theorem dX10_encryptBlock_736 : decode cX10_encryptBlock 736 = .ok (.bipush 8, 2) := dk_16 8 (dk_at dksX10_encryptBlock_31 10 rfl rfl)
theorem dX10_encryptBlock_738 : decode cX10_encryptBlock 738 = .ok (.ishr, 1) := dk_122 (dk_at dksX10_encryptBlock_31 12 rfl rfl)
theorem dX10_encryptBlock_739 : decode cX10_encryptBlock 739 = .ok (.sipush 255, 3) := dk_17 0 255 (dk_at dksX10_encryptBlock_31 13 rfl rfl)
theorem dX10_encryptBlock_742 : decode cX10_encryptBlock 742 = .ok (.iand, 1) := dk_126 (dk_at dksX10_encryptBlock_31 16 rfl rfl)
theorem dX10_encryptBlock_743 : decode cX10_encryptBlock 743 = .ok (.iaload, 1) := dk_46 (dk_at dksX10_encryptBlock_31 17 rfl rfl)
theorem dX10_encryptBlock_744 : decode cX10_encryptBlock 744 = .ok (.bipush 24, 2) := dk_16 24 (dk_at dksX10_encryptBlock_31 18 rfl rfl)
theorem dX10_encryptBlock_746 : decode cX10_encryptBlock 746 = .ok (.invokestatic 7, 3) := dk_184 0 7 (dk_at dksX10_encryptBlock_31 20 rfl rfl)
theorem dX10_encryptBlock_749 : decode cX10_encryptBlock 749 = .ok (.ixor, 1) := dk_130 (dk_at dksX10_encryptBlock_31 23 rfl rfl)
theorem dX10_encryptBlock_750 : decode cX10_encryptBlock 750 = .ok (.getstatic 112, 3) := dk_178 0 112 (dk_at dksX10_encryptBlock_32 0 rfl rfl)
theorem dX10_encryptBlock_753 : decode cX10_encryptBlock 753 = .ok (.iload 12, 2) := dk_21 12 (dk_at dksX10_encryptBlock_32 3 rfl rfl)
theorem dX10_encryptBlock_755 : decode cX10_encryptBlock 755 = .ok (.bipush 16, 2) := dk_16 16 (dk_at dksX10_encryptBlock_32 5 rfl rfl)
theorem dX10_encryptBlock_757 : decode cX10_encryptBlock 757 = .ok (.ishr, 1) := dk_122 (dk_at dksX10_encryptBlock_32 7 rfl rfl)
theorem dX10_encryptBlock_758 : decode cX10_encryptBlock 758 = .ok (.sipush 255, 3) := dk_17 0 255 (dk_at dksX10_encryptBlock_32 8 rfl rfl)
theorem dX10_encryptBlock_761 : decode cX10_encryptBlock 761 = .ok (.iand, 1) := dk_126 (dk_at dksX10_encryptBlock_32 11 rfl rfl)
theorem dX10_encryptBlock_762 : decode cX10_encryptBlock 762 = .ok (.iaload, 1) := dk_46 (dk_at dksX10_encryptBlock_32 12 rfl rfl)
theorem dX10_encryptBlock_763 : decode cX10_encryptBlock 763 = .ok (.bipush 16, 2) := dk_16 16 (dk_at dksX10_encryptBlock_32 13 rfl rfl)
theorem dX10_encryptBlock_765 : decode cX10_encryptBlock 765 = .ok (.invokestatic 7, 3) := dk_184 0 7 (dk_at dksX10_encryptBlock_32 15 rfl rfl)
theorem dX10_encryptBlock_768 : decode cX10_encryptBlock 768 = .ok (.ixor, 1) := dk_130 (dk_at dksX10_encryptBlock_32 18 rfl rfl)
theorem dX10_encryptBlock_769 : decode cX10_encryptBlock 769 = .ok (.getstatic 112, 3) := dk_178 0 112 (dk_at dksX10_encryptBlock_32 19 rfl rfl)
theorem dX10_encryptBlock_772 : decode cX10_encryptBlock 772 = .ok (.iload 17, 2) := dk_21 17 (dk_at dksX10_encryptBlock_32 22 rfl rfl)
theorem dX10_encryptBlock_774 : decode cX10_encryptBlock 774 = .ok (.bipush 24, 2) := dk_16 24 (dk_at dksX10_encryptBlock_33 0 rfl rfl)
theorem dX10_encryptBlock_776 : decode cX10_encryptBlock 776 = .ok (.ishr, 1) := dk_122 (dk_at dksX10_encryptBlock_33 2 rfl rfl)
theorem dX10_encryptBlock_777 : decode cX10_encryptBlock 777 = .ok (.sipush 255, 3) := dk_17 0 255 (dk_at dksX10_encryptBlock_33 3 rfl rfl)
theorem dX10_encryptBlock_780 : decode cX10_encryptBlock 780 = .ok (.iand, 1) := dk_126 (dk_at dksX10_encryptBlock_33 6 rfl rfl)
theorem dX10_encryptBlock_781 : decode cX10_encryptBlock 781 = .ok (.iaload, 1) := dk_46 (dk_at dksX10_encryptBlock_33 7 rfl rfl)
theorem dX10_encryptBlock_782 : decode cX10_encryptBlock 782 = .ok (.bipush 8, 2) := dk_16 8 (dk_at dksX10_encryptBlock_33 8 rfl rfl)
theorem dX10_encryptBlock_784 : decode cX10_encryptBlock 784 = .ok (.invokestatic 7, 3) := dk_184 0 7 (dk_at dksX10_encryptBlock_33 10 rfl rfl)
theorem dX10_encryptBlock_787 : decode cX10_encryptBlock 787 = .ok (.ixor, 1) := dk_130 (dk_at dksX10_encryptBlock_33 13 rfl rfl)
theorem dX10_encryptBlock_788 : decode cX10_encryptBlock 788 = .ok (.aload 5, 2) := dk_25 5 (dk_at dksX10_encryptBlock_33 14 rfl rfl)
theorem dX10_encryptBlock_790 : decode cX10_encryptBlock 790 = .ok (.iload 13, 2) := dk_21 13 (dk_at dksX10_encryptBlock_33 16 rfl rfl)
theorem dX10_encryptBlock_792 : decode cX10_encryptBlock 792 = .ok (.aaload, 1) := dk_50 (dk_at dksX10_encryptBlock_33 18 rfl rfl)
theorem dX10_encryptBlock_793 : decode cX10_encryptBlock 793 = .ok (.iconst 0, 1) := dk_3 (dk_at dksX10_encryptBlock_33 19 rfl rfl)
theorem dX10_encryptBlock_794 : decode cX10_encryptBlock 794 = .ok (.iaload, 1) := dk_46 (dk_at dksX10_encryptBlock_33 20 rfl rfl)
theorem dX10_encryptBlock_795 : decode cX10_encryptBlock 795 = .ok (.ixor, 1) := dk_130 (dk_at dksX10_encryptBlock_33 21 rfl rfl)
theorem dX10_encryptBlock_796 : decode cX10_encryptBlock 796 = .ok (.istore 14, 2) := dk_54 14 (dk_at dksX10_encryptBlock_33 22 rfl rfl)
theorem dX10_encryptBlock_798 : decode cX10_encryptBlock 798 = .ok (.getstatic 112, 3) := dk_178 0 112 (dk_at dksX10_encryptBlock_34 0 rfl rfl)
theorem dX10_encryptBlock_801 : decode cX10_encryptBlock 801 = .ok (.iload 11, 2) := dk_21 11 (dk_at dksX10_encryptBlock_34 3 rfl rfl)
theorem dX10_encryptBlock_803 : decode cX10_encryptBlock 803 = .ok (.sipush 255, 3) := dk_17 0 255 (dk_at dksX10_encryptBlock_34 5 rfl rfl)
theorem dX10_encryptBlock_806 : decode cX10_encryptBlock 806 = .ok (.iand, 1) := dk_126 (dk_at dksX10_encryptBlock_34 8 rfl rfl)
theorem dX10_encryptBlock_807 : decode cX10_encryptBlock 807 = .ok (.iaload, 1) := dk_46 (dk_at dksX10_encryptBlock_34 9 rfl rfl)
theorem dX10_encryptBlock_808 : decode cX10_encryptBlock 808 = .ok (.getstatic 112, 3) := dk_178 0 112 (dk_at dksX10_encryptBlock_34 10 rfl rfl)
theorem dX10_encryptBlock_811 : decode cX10_encryptBlock 811 = .ok (.iload 12, 2) := dk_21 12 (dk_at dksX10_encryptBlock_34 13 rfl rfl)
theorem dX10_encryptBlock_813 : decode cX10_encryptBlock 813 = .ok (.bipush 8, 2) := dk_16 8 (dk_at dksX10_encryptBlock_34 15 rfl rfl)
theorem dX10_encryptBlock_815 : decode cX10_encryptBlock 815 = .ok (.ishr, 1) := dk_122 (dk_at dksX10_encryptBlock_34 17 rfl rfl)
theorem dX10_encryptBlock_816 : decode cX10_encryptBlock 816 = .ok (.sipush 255, 3) := dk_17 0 255 (dk_at dksX10_encryptBlock_34 18 rfl rfl)
theorem dX10_encryptBlock_819 : decode cX10_encryptBlock 819 = .ok (.iand, 1) := dk_126 (dk_at dksX10_encryptBlock_34 21 rfl rfl)
theorem dX10_encryptBlock_820 : decode cX10_encryptBlock 820 = .ok (.iaload, 1) := dk_46 (dk_at dksX10_encryptBlock_34 22 rfl rfl)
theorem dX10_encryptBlock_821 : decode cX10_encryptBlock 821 = .ok (.bipush 24, 2) := dk_16 24 (dk_at dksX10_encryptBlock_35 0 rfl rfl)
theorem dX10_encryptBlock_823 : decode cX10_encryptBlock 823 = .ok (.invokestatic 7, 3) := dk_184 0 7 (dk_at dksX10_encryptBlock_35 2 rfl rfl)
theorem dX10_encryptBlock_826 : decode cX10_encryptBlock 826 = .ok (.ixor, 1) := dk_130 (dk_at dksX10_encryptBlock_35 5 rfl rfl)
theorem dX10_encryptBlock_827 : decode cX10_encryptBlock 827 = .ok (.getstatic 112, 3) := dk_178 0 112 (dk_at dksX10_encryptBlock_35 6 rfl rfl)
theorem dX10_encryptBlock_830 : decode cX10_encryptBlock 830 = .ok (.iload 17, 2) := dk_21 17 (dk_at dksX10_encryptBlock_35 9 rfl rfl)
theorem dX10_encryptBlock_832 : decode cX10_encryptBlock 832 = .ok (.bipush 16, 2) := dk_16 16 (dk_at dksX10_encryptBlock_35 11 rfl rfl)
theorem dX10_encryptBlock_834 : decode cX10_encryptBlock 834 = .ok (.ishr, 1) := dk_122 (dk_at dksX10_encryptBlock_35 13 rfl rfl)
theorem dX10_encryptBlock_835 : decode cX10_encryptBlock 835 = .ok (.sipush 255, 3) := dk_17 0 255 (dk_at dksX10_encryptBlock_35 14 rfl rfl)
theorem dX10_encryptBlock_838 : decode cX10_encryptBlock 838 = .ok (.iand, 1) := dk_126 (dk_at dksX10_encryptBlock_35 17 rfl rfl)
theorem dX10_encryptBlock_839 : decode cX10_encryptBlock 839 = .ok (.iaload, 1) := dk_46 (dk_at dksX10_encryptBlock_35 18 rfl rfl)
theorem dX10_encryptBlock_840 : decode cX10_encryptBlock 840 = .ok (.bipush 16, 2) := dk_16 16 (dk_at dksX10_encryptBlock_35 19 rfl rfl)
theorem dX10_encryptBlock_842 : decode cX10_encryptBlock 842 = .ok (.invokestatic 7, 3) := dk_184 0 7 (dk_at dksX10_encryptBlock_35 21 rfl rfl)
theorem dX10_encryptBlock_845 : decode cX10_encryptBlock 845 = .ok (.ixor, 1) := dk_130 (dk_at dksX10_encryptBlock_36 0 rfl rfl)
theorem dX10_encryptBlock_846 : decode cX10_encryptBlock 846 = .ok (.getstatic 112, 3) := dk_178 0 112 (dk_at dksX10_encryptBlock_36 1 rfl rfl)
theorem dX10_encryptBlock_849 : decode cX10_encryptBlock 849 = .ok (.iload 10, 2) := dk_21 10 (dk_at dksX10_encryptBlock_36 4 rfl rfl)
theorem dX10_encryptBlock_851 : decode cX10_encryptBlock 851 = .ok (.bipush 24, 2) := dk_16 24 (dk_at dksX10_encryptBlock_36 6 rfl rfl)
theorem dX10_encryptBlock_853 : decode cX10_encryptBlock 853 = .ok (.ishr, 1) := dk_122 (dk_at dksX10_encryptBlock_36 8 rfl rfl)
theorem dX10_encryptBlock_854 : decode cX10_encryptBlock 854 = .ok (.sipush 255, 3) := dk_17 0 255 (dk_at dksX10_encryptBlock_36 9 rfl rfl)
theorem dX10_encryptBlock_857 : decode cX10_encryptBlock 857 = .ok (.iand, 1) := dk_126 (dk_at dksX10_encryptBlock_36 12 rfl rfl)
theorem dX10_encryptBlock_858 : decode cX10_encryptBlock 858 = .ok (.iaload, 1) := dk_46 (dk_at dksX10_encryptBlock_36 13 rfl rfl)
theorem dX10_encryptBlock_859 : decode cX10_encryptBlock 859 = .ok (.bipush 8, 2) := dk_16 8 (dk_at dksX10_encryptBlock_36 14 rfl rfl)
theorem dX10_encryptBlock_861 : decode cX10_encryptBlock 861 = .ok (.invokestatic 7, 3) := dk_184 0 7 (dk_at dksX10_encryptBlock_36 16 rfl rfl)
theorem dX10_encryptBlock_864 : decode cX10_encryptBlock 864 = .ok (.ixor, 1) := dk_130 (dk_at dksX10_encryptBlock_36 19 rfl rfl)
theorem dX10_encryptBlock_865 : decode cX10_encryptBlock 865 = .ok (.aload 5, 2) := dk_25 5 (dk_at dksX10_encryptBlock_36 20 rfl rfl)
theorem dX10_encryptBlock_867 : decode cX10_encryptBlock 867 = .ok (.iload 13, 2) := dk_21 13 (dk_at dksX10_encryptBlock_36 22 rfl rfl)
theorem dX10_encryptBlock_869 : decode cX10_encryptBlock 869 = .ok (.aaload, 1) := dk_50 (dk_at dksX10_encryptBlock_37 0 rfl rfl)
theorem dX10_encryptBlock_870 : decode cX10_encryptBlock 870 = .ok (.iconst 1, 1) := dk_4 (dk_at dksX10_encryptBlock_37 1 rfl rfl)
theorem dX10_encryptBlock_871 : decode cX10_encryptBlock 871 = .ok (.iaload, 1) := dk_46 (dk_at dksX10_encryptBlock_37 2 rfl rfl)
theorem dX10_encryptBlock_872 : decode cX10_encryptBlock 872 = .ok (.ixor, 1) := dk_130 (dk_at dksX10_encryptBlock_37 3 rfl rfl)
theorem dX10_encryptBlock_873 : decode cX10_encryptBlock 873 = .ok (.istore 15, 2) := dk_54 15 (dk_at dksX10_encryptBlock_37 4 rfl rfl)
theorem dX10_encryptBlock_875 : decode cX10_encryptBlock 875 = .ok (.getstatic 112, 3) := dk_178 0 112 (dk_at dksX10_encryptBlock_37 6 rfl rfl)
theorem dX10_encryptBlock_878 : decode cX10_encryptBlock 878 = .ok (.iload 12, 2) := dk_21 12 (dk_at dksX10_encryptBlock_37 9 rfl rfl)
theorem dX10_encryptBlock_880 : decode cX10_encryptBlock 880 = .ok (.sipush 255, 3) := dk_17 0 255 (dk_at dksX10_encryptBlock_37 11 rfl rfl)
theorem dX10_encryptBlock_883 : decode cX10_encryptBlock 883 = .ok (.iand, 1) := dk_126 (dk_at dksX10_encryptBlock_37 14 rfl rfl)
theorem dX10_encryptBlock_884 : decode cX10_encryptBlock 884 = .ok (.iaload, 1) := dk_46 (dk_at dksX10_encryptBlock_37 15 rfl rfl)
theorem dX10_encryptBlock_885 : decode cX10_encryptBlock 885 = .ok (.getstatic 112, 3) := dk_178 0 112 (dk_at dksX10_encryptBlock_37 16 rfl rfl)
theorem dX10_encryptBlock_888 : decode cX10_encryptBlock 888 = .ok (.iload 17, 2) := dk_21 17 (dk_at dksX10_encryptBlock_37 19 rfl rfl)
theorem dX10_encryptBlock_890 : decode cX10_encryptBlock 890 = .ok (.bipush 8, 2) := dk_16 8 (dk_at dksX10_encryptBlock_37 21 rfl rfl)
theorem dX10_encryptBlock_892 : decode cX10_encryptBlock 892 = .ok (.ishr, 1) := dk_122 (dk_at dksX10_encryptBlock_37 23 rfl rfl)
theorem dX10_encryptBlock_893 : decode cX10_encryptBlock 893 = .ok (.sipush 255, 3) := dk_17 0 255 (dk_at dksX10_encryptBlock_38 0 rfl rfl)
theorem dX10_encryptBlock_896 : decode cX10_encryptBlock 896 = .ok (.iand, 1) := dk_126 (dk_at dksX10_encryptBlock_38 3 rfl rfl)
theorem dX10_encryptBlock_897 : decode cX10_encryptBlock 897 = .ok (.iaload, 1) := dk_46 (dk_at dksX10_encryptBlock_38 4 rfl rfl)
theorem dX10_encryptBlock_898 : decode cX10_encryptBlock 898 = .ok (.bipush 24, 2) := dk_16 24 (dk_at dksX10_encryptBlock_38 5 rfl rfl)
theorem dX10_encryptBlock_900 : decode cX10_encryptBlock 900 = .ok (.invokestatic 7, 3) := dk_184 0 7 (dk_at dksX10_encryptBlock_38 7 rfl rfl)
theorem dX10_encryptBlock_903 : decode cX10_encryptBlock 903 = .ok (.ixor, 1) := dk_130 (dk_at dksX10_encryptBlock_38 10 rfl rfl)
theorem dX10_encryptBlock_904 : decode cX10_encryptBlock 904 = .ok (.getstatic 112, 3) := dk_178 0 112 (dk_at dksX10_encryptBlock_38 11 rfl rfl)
theorem dX10_encryptBlock_907 : decode cX10_encryptBlock 907 = .ok (.iload 10, 2) := dk_21 10 (dk_at dksX10_encryptBlock_38 14 rfl rfl)
theorem dX10_encryptBlock_909 : decode cX10_encryptBlock 909 = .ok (.bipush 16, 2) := dk_16 16 (dk_at dksX10_encryptBlock_38 16 rfl rfl)
theorem dX10_encryptBlock_911 : decode cX10_encryptBlock 911 = .ok (.ishr, 1) := dk_122 (dk_at dksX10_encryptBlock_38 18 rfl rfl)
theorem dX10_encryptBlock_912 : decode cX10_encryptBlock 912 = .ok (.sipush 255, 3) := dk_17 0 255 (dk_at dksX10_encryptBlock_38 19 rfl rfl)
theorem dX10_encryptBlock_915 : decode cX10_encryptBlock 915 = .ok (.iand, 1) := dk_126 (dk_at dksX10_encryptBlock_38 22 rfl rfl)
theorem dX10_encryptBlock_916 : decode cX10_encryptBlock 916 = .ok (.iaload, 1) := dk_46 (dk_at dksX10_encryptBlock_38 23 rfl rfl)
theorem dX10_encryptBlock_917 : decode cX10_encryptBlock 917 = .ok (.bipush 16, 2) := dk_16 16 (dk_at dksX10_encryptBlock_39 0 rfl rfl)
theorem dX10_encryptBlock_919 : decode cX10_encryptBlock 919 = .ok (.invokestatic 7, 3) := dk_184 0 7 (dk_at dksX10_encryptBlock_39 2 rfl rfl)
theorem dX10_encryptBlock_922 : decode cX10_encryptBlock 922 = .ok (.ixor, 1) := dk_130 (dk_at dksX10_encryptBlock_39 5 rfl rfl)
theorem dX10_encryptBlock_923 : decode cX10_encryptBlock 923 = .ok (.getstatic 112, 3) := dk_178 0 112 (dk_at dksX10_encryptBlock_39 6 rfl rfl)
theorem dX10_encryptBlock_926 : decode cX10_encryptBlock 926 = .ok (.iload 11, 2) := dk_21 11 (dk_at dksX10_encryptBlock_39 9 rfl rfl)
theorem dX10_encryptBlock_928 : decode cX10_encryptBlock 928 = .ok (.bipush 24, 2) := dk_16 24 (dk_at dksX10_encryptBlock_39 11 rfl rfl)
theorem dX10_encryptBlock_930 : decode cX10_encryptBlock 930 = .ok (.ishr, 1) := dk_122 (dk_at dksX10_encryptBlock_39 13 rfl rfl)
theorem dX10_encryptBlock_931 : decode cX10_encryptBlock 931 = .ok (.sipush 255, 3) := dk_17 0 255 (dk_at dksX10_encryptBlock_39 14 rfl rfl)
theorem dX10_encryptBlock_934 : decode cX10_encryptBlock 934 = .ok (.iand, 1) := dk_126 (dk_at dksX10_encryptBlock_39 17 rfl rfl)
theorem dX10_encryptBlock_935 : decode cX10_encryptBlock 935 = .ok (.iaload, 1) := dk_46 (dk_at dksX10_encryptBlock_39 18 rfl rfl)
theorem dX10_encryptBlock_936 : decode cX10_encryptBlock 936 = .ok (.bipush 8, 2) := dk_16 8 (dk_at dksX10_encryptBlock_39 19 rfl rfl)
theorem dX10_encryptBlock_938 : decode cX10_encryptBlock 938 = .ok (.invokestatic 7, 3) := dk_184 0 7 (dk_at dksX10_encryptBlock_39 21 rfl rfl)
theorem dX10_encryptBlock_941 : decode cX10_encryptBlock 941 = .ok (.ixor, 1) := dk_130 (dk_at dksX10_encryptBlock_40 0 rfl rfl)
theorem dX10_encryptBlock_942 : decode cX10_encryptBlock 942 = .ok (.aload 5, 2) := dk_25 5 (dk_at dksX10_encryptBlock_40 1 rfl rfl)
theorem dX10_encryptBlock_944 : decode cX10_encryptBlock 944 = .ok (.iload 13, 2) := dk_21 13 (dk_at dksX10_encryptBlock_40 3 rfl rfl)
theorem dX10_encryptBlock_946 : decode cX10_encryptBlock 946 = .ok (.aaload, 1) := dk_50 (dk_at dksX10_encryptBlock_40 5 rfl rfl)
theorem dX10_encryptBlock_947 : decode cX10_encryptBlock 947 = .ok (.iconst 2, 1) := dk_5 (dk_at dksX10_encryptBlock_40 6 rfl rfl)
theorem dX10_encryptBlock_948 : decode cX10_encryptBlock 948 = .ok (.iaload, 1) := dk_46 (dk_at dksX10_encryptBlock_40 7 rfl rfl)
theorem dX10_encryptBlock_949 : decode cX10_encryptBlock 949 = .ok (.ixor, 1) := dk_130 (dk_at dksX10_encryptBlock_40 8 rfl rfl)
theorem dX10_encryptBlock_950 : decode cX10_encryptBlock 950 = .ok (.istore 16, 2) := dk_54 16 (dk_at dksX10_encryptBlock_40 9 rfl rfl)
theorem dX10_encryptBlock_952 : decode cX10_encryptBlock 952 = .ok (.getstatic 112, 3) := dk_178 0 112 (dk_at dksX10_encryptBlock_40 11 rfl rfl)
theorem dX10_encryptBlock_955 : decode cX10_encryptBlock 955 = .ok (.iload 17, 2) := dk_21 17 (dk_at dksX10_encryptBlock_40 14 rfl rfl)
theorem dX10_encryptBlock_957 : decode cX10_encryptBlock 957 = .ok (.sipush 255, 3) := dk_17 0 255 (dk_at dksX10_encryptBlock_40 16 rfl rfl)
theorem dX10_encryptBlock_960 : decode cX10_encryptBlock 960 = .ok (.iand, 1) := dk_126 (dk_at dksX10_encryptBlock_40 19 rfl rfl)
theorem dX10_encryptBlock_961 : decode cX10_encryptBlock 961 = .ok (.iaload, 1) := dk_46 (dk_at dksX10_encryptBlock_40 20 rfl rfl)
theorem dX10_encryptBlock_962 : decode cX10_encryptBlock 962 = .ok (.getstatic 112, 3) := dk_178 0 112 (dk_at dksX10_encryptBlock_40 21 rfl rfl)
theorem dX10_encryptBlock_965 : decode cX10_encryptBlock 965 = .ok (.iload 10, 2) := dk_21 10 (dk_at dksX10_encryptBlock_41 0 rfl rfl)
theorem dX10_encryptBlock_967 : decode cX10_encryptBlock 967 = .ok (.bipush 8, 2) := dk_16 8 (dk_at dksX10_encryptBlock_41 2 rfl rfl)
theorem dX10_encryptBlock_969 : decode cX10_encryptBlock 969 = .ok (.ishr, 1) := dk_122 (dk_at dksX10_encryptBlock_41 4 rfl rfl)
theorem dX10_encryptBlock_970 : decode cX10_encryptBlock 970 = .ok (.sipush 255, 3) := dk_17 0 255 (dk_at dksX10_encryptBlock_41 5 rfl rfl)
theorem dX10_encryptBlock_973 : decode cX10_encryptBlock 973 = .ok (.iand, 1) := dk_126 (dk_at dksX10_encryptBlock_41 8 rfl rfl)
theorem dX10_encryptBlock_974 : decode cX10_encryptBlock 974 = .ok (.iaload, 1) := dk_46 (dk_at dksX10_encryptBlock_41 9 rfl rfl)
theorem dX10_encryptBlock_975 : decode cX10_encryptBlock 975 = .ok (.bipush 24, 2) := dk_16 24 (dk_at dksX10_encryptBlock_41 10 rfl rfl)
theorem dX10_encryptBlock_977 : decode cX10_encryptBlock 977 = .ok (.invokestatic 7, 3) := dk_184 0 7 (dk_at dksX10_encryptBlock_41 12 rfl rfl)
theorem dX10_encryptBlock_980 : decode cX10_encryptBlock 980 = .ok (.ixor, 1) := dk_130 (dk_at dksX10_encryptBlock_41 15 rfl rfl)
theorem dX10_encryptBlock_981 : decode cX10_encryptBlock 981 = .ok (.getstatic 112, 3) := dk_178 0 112 (dk_at dksX10_encryptBlock_41 16 rfl rfl)
theorem dX10_encryptBlock_984 : decode cX10_encryptBlock 984 = .ok (.iload 11, 2) := dk_21 11 (dk_at dksX10_encryptBlock_41 19 rfl rfl)
theorem dX10_encryptBlock_986 : decode cX10_encryptBlock 986 = .ok (.bipush 16, 2) := dk_16 16 (dk_at dksX10_encryptBlock_41 21 rfl rfl)
theorem dX10_encryptBlock_988 : decode cX10_encryptBlock 988 = .ok (.ishr, 1) := dk_122 (dk_at dksX10_encryptBlock_41 23 rfl rfl)
theorem dX10_encryptBlock_989 : decode cX10_encryptBlock 989 = .ok (.sipush 255, 3) := dk_17 0 255 (dk_at dksX10_encryptBlock_42 0 rfl rfl)
theorem dX10_encryptBlock_992 : decode cX10_encryptBlock 992 = .ok (.iand, 1) := dk_126 (dk_at dksX10_encryptBlock_42 3 rfl rfl)
theorem dX10_encryptBlock_993 : decode cX10_encryptBlock 993 = .ok (.iaload, 1) := dk_46 (dk_at dksX10_encryptBlock_42 4 rfl rfl)
theorem dX10_encryptBlock_994 : decode cX10_encryptBlock 994 = .ok (.bipush 16, 2) := dk_16 16 (dk_at dksX10_encryptBlock_42 5 rfl rfl)
theorem dX10_encryptBlock_996 : decode cX10_encryptBlock 996 = .ok (.invokestatic 7, 3) := dk_184 0 7 (dk_at dksX10_encryptBlock_42 7 rfl rfl)
theorem dX10_encryptBlock_999 : decode cX10_encryptBlock 999 = .ok (.ixor, 1) := dk_130 (dk_at dksX10_encryptBlock_42 10 rfl rfl)
theorem dX10_encryptBlock_1000 : decode cX10_encryptBlock 1000 = .ok (.getstatic 112, 3) := dk_178 0 112 (dk_at dksX10_encryptBlock_42 11 rfl rfl)
theorem dX10_encryptBlock_1003 : decode cX10_encryptBlock 1003 = .ok (.iload 12, 2) := dk_21 12 (dk_at dksX10_encryptBlock_42 14 rfl rfl)
theorem dX10_encryptBlock_1005 : decode cX10_encryptBlock 1005 = .ok (.bipush 24, 2) := dk_16 24 (dk_at dksX10_encryptBlock_42 16 rfl rfl)
theorem dX10_encryptBlock_1007 : decode cX10_encryptBlock 1007 = .ok (.ishr, 1) := dk_122 (dk_at dksX10_encryptBlock_42 18 rfl rfl)
theorem dX10_encryptBlock_1008 : decode cX10_encryptBlock 1008 = .ok (.sipush 255, 3) := dk_17 0 255 (dk_at dksX10_encryptBlock_42 19 rfl rfl)
theorem dX10_encryptBlock_1011 : decode cX10_encryptBlock 1011 = .ok (.iand, 1) := dk_126 (dk_at dksX10_encryptBlock_42 22 rfl rfl)
theorem dX10_encryptBlock_1012 : decode cX10_encryptBlock 1012 = .ok (.iaload, 1) := dk_46 (dk_at dksX10_encryptBlock_42 23 rfl rfl)
theorem dX10_encryptBlock_1013 : decode cX10_encryptBlock 1013 = .ok (.bipush 8, 2) := dk_16 8 (dk_at dksX10_encryptBlock_43 0 rfl rfl)
theorem dX10_encryptBlock_1015 : decode cX10_encryptBlock 1015 = .ok (.invokestatic 7, 3) := dk_184 0 7 (dk_at dksX10_encryptBlock_43 2 rfl rfl)
theorem dX10_encryptBlock_1018 : decode cX10_encryptBlock 1018 = .ok (.ixor, 1) := dk_130 (dk_at dksX10_encryptBlock_43 5 rfl rfl)
theorem dX10_encryptBlock_1019 : decode cX10_encryptBlock 1019 = .ok (.aload 5, 2) := dk_25 5 (dk_at dksX10_encryptBlock_43 6 rfl rfl)
theorem dX10_encryptBlock_1021 : decode cX10_encryptBlock 1021 = .ok (.iload 13, 2) := dk_21 13 (dk_at dksX10_encryptBlock_43 8 rfl rfl)
theorem dX10_encryptBlock_1023 : decode cX10_encryptBlock 1023 = .ok (.iinc 13 1, 3) := dk_132 13 1 (dk_at dksX10_encryptBlock_43 10 rfl rfl)
theorem dX10_encryptBlock_1026 : decode cX10_encryptBlock 1026 = .ok (.aaload, 1) := dk_50 (dk_at dksX10_encryptBlock_43 13 rfl rfl)
theorem dX10_encryptBlock_1027 : decode cX10_encryptBlock 1027 = .ok (.iconst 3, 1) := dk_6 (dk_at dksX10_encryptBlock_43 14 rfl rfl)
theorem dX10_encryptBlock_1028 : decode cX10_encryptBlock 1028 = .ok (.iaload, 1) := dk_46 (dk_at dksX10_encryptBlock_43 15 rfl rfl)
theorem dX10_encryptBlock_1029 : decode cX10_encryptBlock 1029 = .ok (.ixor, 1) := dk_130 (dk_at dksX10_encryptBlock_43 16 rfl rfl)
theorem dX10_encryptBlock_1030 : decode cX10_encryptBlock 1030 = .ok (.istore 17, 2) := dk_54 17 (dk_at dksX10_encryptBlock_43 17 rfl rfl)
theorem dX10_encryptBlock_1032 : decode cX10_encryptBlock 1032 = .ok (.getstatic 18, 3) := dk_178 0 18 (dk_at dksX10_encryptBlock_43 19 rfl rfl)
theorem dX10_encryptBlock_1035 : decode cX10_encryptBlock 1035 = .ok (.iload 14, 2) := dk_21 14 (dk_at dksX10_encryptBlock_43 22 rfl rfl)
theorem dX10_encryptBlock_1037 : decode cX10_encryptBlock 1037 = .ok (.sipush 255, 3) := dk_17 0 255 (dk_at dksX10_encryptBlock_44 0 rfl rfl)
theorem dX10_encryptBlock_1040 : decode cX10_encryptBlock 1040 = .ok (.iand, 1) := dk_126 (dk_at dksX10_encryptBlock_44 3 rfl rfl)
theorem dX10_encryptBlock_1041 : decode cX10_encryptBlock 1041 = .ok (.baload, 1) := dk_51 (dk_at dksX10_encryptBlock_44 4 rfl rfl)
theorem dX10_encryptBlock_1042 : decode cX10_encryptBlock 1042 = .ok (.sipush 255, 3) := dk_17 0 255 (dk_at dksX10_encryptBlock_44 5 rfl rfl)
theorem dX10_encryptBlock_1045 : decode cX10_encryptBlock 1045 = .ok (.iand, 1) := dk_126 (dk_at dksX10_encryptBlock_44 8 rfl rfl)
theorem dX10_encryptBlock_1046 : decode cX10_encryptBlock 1046 = .ok (.getstatic 18, 3) := dk_178 0 18 (dk_at dksX10_encryptBlock_44 9 rfl rfl)
theorem dX10_encryptBlock_1049 : decode cX10_encryptBlock 1049 = .ok (.iload 15, 2) := dk_21 15 (dk_at dksX10_encryptBlock_44 12 rfl rfl)
theorem dX10_encryptBlock_1051 : decode cX10_encryptBlock 1051 = .ok (.bipush 8, 2) := dk_16 8 (dk_at dksX10_encryptBlock_44 14 rfl rfl)
theorem dX10_encryptBlock_1053 : decode cX10_encryptBlock 1053 = .ok (.ishr, 1) := dk_122 (dk_at dksX10_encryptBlock_44 16 rfl rfl)
theorem dX10_encryptBlock_1054 : decode cX10_encryptBlock 1054 = .ok (.sipush 255, 3) := dk_17 0 255 (dk_at dksX10_encryptBlock_44 17 rfl rfl)
theorem dX10_encryptBlock_1057 : decode cX10_encryptBlock 1057 = .ok (.iand, 1) := dk_126 (dk_at dksX10_encryptBlock_44 20 rfl rfl)
theorem dX10_encryptBlock_1058 : decode cX10_encryptBlock 1058 = .ok (.baload, 1) := dk_51 (dk_at dksX10_encryptBlock_44 21 rfl rfl)
theorem dX10_encryptBlock_1059 : decode cX10_encryptBlock 1059 = .ok (.sipush 255, 3) := dk_17 0 255 (dk_at dksX10_encryptBlock_45 0 rfl rfl)
theorem dX10_encryptBlock_1062 : decode cX10_encryptBlock 1062 = .ok (.iand, 1) := dk_126 (dk_at dksX10_encryptBlock_45 3 rfl rfl)
theorem dX10_encryptBlock_1063 : decode cX10_encryptBlock 1063 = .ok (.bipush 8, 2) := dk_16 8 (dk_at dksX10_encryptBlock_45 4 rfl rfl)
theorem dX10_encryptBlock_1065 : decode cX10_encryptBlock 1065 = .ok (.ishl, 1) := dk_120 (dk_at dksX10_encryptBlock_45 6 rfl rfl)
theorem dX10_encryptBlock_1066 : decode cX10_encryptBlock 1066 = .ok (.ixor, 1) := dk_130 (dk_at dksX10_encryptBlock_45 7 rfl rfl)
theorem dX10_encryptBlock_1067 : decode cX10_encryptBlock 1067 = .ok (.aload_n 0, 1) := dk_42 (dk_at dksX10_encryptBlock_45 8 rfl rfl)
theorem dX10_encryptBlock_1068 : decode cX10_encryptBlock 1068 = .ok (.getfield 85, 3) := dk_180 0 85 (dk_at dksX10_encryptBlock_45 9 rfl rfl)
theorem dX10_encryptBlock_1071 : decode cX10_encryptBlock 1071 = .ok (.iload 16, 2) := dk_21 16 (dk_at dksX10_encryptBlock_45 12 rfl rfl)
theorem dX10_encryptBlock_1073 : decode cX10_encryptBlock 1073 = .ok (.bipush 16, 2) := dk_16 16 (dk_at dksX10_encryptBlock_45 14 rfl rfl)
theorem dX10_encryptBlock_1075 : decode cX10_encryptBlock 1075 = .ok (.ishr, 1) := dk_122 (dk_at dksX10_encryptBlock_45 16 rfl rfl)
theorem dX10_encryptBlock_1076 : decode cX10_encryptBlock 1076 = .ok (.sipush 255, 3) := dk_17 0 255 (dk_at dksX10_encryptBlock_45 17 rfl rfl)
theorem dX10_encryptBlock_1079 : decode cX10_encryptBlock 1079 = .ok (.iand, 1) := dk_126 (dk_at dksX10_encryptBlock_45 20 rfl rfl)
theorem dX10_encryptBlock_1080 : decode cX10_encryptBlock 1080 = .ok (.baload, 1) := dk_51 (dk_at dksX10_encryptBlock_45 21 rfl rfl)
theorem dX10_encryptBlock_1081 : decode cX10_encryptBlock 1081 = .ok (.sipush 255, 3) := dk_17 0 255 (dk_at dksX10_encryptBlock_46 0 rfl rfl)
theorem dX10_encryptBlock_1084 : decode cX10_encryptBlock 1084 = .ok (.iand, 1) := dk_126 (dk_at dksX10_encryptBlock_46 3 rfl rfl)
theorem dX10_encryptBlock_1085 : decode cX10_encryptBlock 1085 = .ok (.bipush 16, 2) := dk_16 16 (dk_at dksX10_encryptBlock_46 4 rfl rfl)
theorem dX10_encryptBlock_1087 : decode cX10_encryptBlock 1087 = .ok (.ishl, 1) := dk_120 (dk_at dksX10_encryptBlock_46 6 rfl rfl)
theorem dX10_encryptBlock_1088 : decode cX10_encryptBlock 1088 = .ok (.ixor, 1) := dk_130 (dk_at dksX10_encryptBlock_46 7 rfl rfl)
theorem dX10_encryptBlock_1089 : decode cX10_encryptBlock 1089 = .ok (.aload_n 0, 1) := dk_42 (dk_at dksX10_encryptBlock_46 8 rfl rfl)
theorem dX10_encryptBlock_1090 : decode cX10_encryptBlock 1090 = .ok (.getfield 85, 3) := dk_180 0 85 (dk_at dksX10_encryptBlock_46 9 rfl rfl)
theorem dX10_encryptBlock_1093 : decode cX10_encryptBlock 1093 = .ok (.iload 17, 2) := dk_21 17 (dk_at dksX10_encryptBlock_46 12 rfl rfl)
theorem dX10_encryptBlock_1095 : decode cX10_encryptBlock 1095 = .ok (.bipush 24, 2) := dk_16 24 (dk_at dksX10_encryptBlock_46 14 rfl rfl)
theorem dX10_encryptBlock_1097 : decode cX10_encryptBlock 1097 = .ok (.ishr, 1) := dk_122 (dk_at dksX10_encryptBlock_46 16 rfl rfl)
theorem dX10_encryptBlock_1098 : decode cX10_encryptBlock 1098 = .ok (.sipush 255, 3) := dk_17 0 255 (dk_at dksX10_encryptBlock_46 17 rfl rfl)
theorem dX10_encryptBlock_1101 : decode cX10_encryptBlock 1101 = .ok (.iand, 1) := dk_126 (dk_at dksX10_encryptBlock_46 20 rfl rfl)
theorem dX10_encryptBlock_1102 : decode cX10_encryptBlock 1102 = .ok (.baload, 1) := dk_51 (dk_at dksX10_encryptBlock_46 21 rfl rfl)
theorem dX10_encryptBlock_1103 : decode cX10_encryptBlock 1103 = .ok (.bipush 24, 2) := dk_16 24 (dk_at dksX10_encryptBlock_46 22 rfl rfl)
theorem dX10_encryptBlock_1105 : decode cX10_encryptBlock 1105 = .ok (.ishl, 1) := dk_120 (dk_at dksX10_encryptBlock_47 0 rfl rfl)
theorem dX10_encryptBlock_1106 : decode cX10_encryptBlock 1106 = .ok (.ixor, 1) := dk_130 (dk_at dksX10_encryptBlock_47 1 rfl rfl)
theorem dX10_encryptBlock_1107 : decode cX10_encryptBlock 1107 = .ok (.aload 5, 2) := dk_25 5 (dk_at dksX10_encryptBlock_47 2 rfl rfl)
theorem dX10_encryptBlock_1109 : decode cX10_encryptBlock 1109 = .ok (.iload 13, 2) := dk_21 13 (dk_at dksX10_encryptBlock_47 4 rfl rfl)
theorem dX10_encryptBlock_1111 : decode cX10_encryptBlock 1111 = .ok (.aaload, 1) := dk_50 (dk_at dksX10_encryptBlock_47 6 rfl rfl)
theorem dX10_encryptBlock_1112 : decode cX10_encryptBlock 1112 = .ok (.iconst 0, 1) := dk_3 (dk_at dksX10_encryptBlock_47 7 rfl rfl)
theorem dX10_encryptBlock_1113 : decode cX10_encryptBlock 1113 = .ok (.iaload, 1) := dk_46 (dk_at dksX10_encryptBlock_47 8 rfl rfl)
theorem dX10_encryptBlock_1114 : decode cX10_encryptBlock 1114 = .ok (.ixor, 1) := dk_130 (dk_at dksX10_encryptBlock_47 9 rfl rfl)
theorem dX10_encryptBlock_1115 : decode cX10_encryptBlock 1115 = .ok (.istore 6, 2) := dk_54 6 (dk_at dksX10_encryptBlock_47 10 rfl rfl)
theorem dX10_encryptBlock_1117 : decode cX10_encryptBlock 1117 = .ok (.aload_n 0, 1) := dk_42 (dk_at dksX10_encryptBlock_47 12 rfl rfl)
theorem dX10_encryptBlock_1118 : decode cX10_encryptBlock 1118 = .ok (.getfield 85, 3) := dk_180 0 85 (dk_at dksX10_encryptBlock_47 13 rfl rfl)
theorem dX10_encryptBlock_1121 : decode cX10_encryptBlock 1121 = .ok (.iload 15, 2) := dk_21 15 (dk_at dksX10_encryptBlock_47 16 rfl rfl)
theorem dX10_encryptBlock_1123 : decode cX10_encryptBlock 1123 = .ok (.sipush 255, 3) := dk_17 0 255 (dk_at dksX10_encryptBlock_47 18 rfl rfl)
theorem dX10_encryptBlock_1126 : decode cX10_encryptBlock 1126 = .ok (.iand, 1) := dk_126 (dk_at dksX10_encryptBlock_47 21 rfl rfl)
theorem dX10_encryptBlock_1127 : decode cX10_encryptBlock 1127 = .ok (.baload, 1) := dk_51 (dk_at dksX10_encryptBlock_47 22 rfl rfl)
theorem dX10_encryptBlock_1128 : decode cX10_encryptBlock 1128 = .ok (.sipush 255, 3) := dk_17 0 255 (dk_at dksX10_encryptBlock_48 0 rfl rfl)
theorem dX10_encryptBlock_1131 : decode cX10_encryptBlock 1131 = .ok (.iand, 1) := dk_126 (dk_at dksX10_encryptBlock_48 3 rfl rfl)
theorem dX10_encryptBlock_1132 : decode cX10_encryptBlock 1132 = .ok (.getstatic 18, 3) := dk_178 0 18 (dk_at dksX10_encryptBlock_48 4 rfl rfl)
theorem dX10_encryptBlock_1135 : decode cX10_encryptBlock 1135 = .ok (.iload 16, 2) := dk_21 16 (dk_at dksX10_encryptBlock_48 7 rfl rfl)
theorem dX10_encryptBlock_1137 : decode cX10_encryptBlock 1137 = .ok (.bipush 8, 2) := dk_16 8 (dk_at dksX10_encryptBlock_48 9 rfl rfl)
theorem dX10_encryptBlock_1139 : decode cX10_encryptBlock 1139 = .ok (.ishr, 1) := dk_122 (dk_at dksX10_encryptBlock_48 11 rfl rfl)
theorem dX10_encryptBlock_1140 : decode cX10_encryptBlock 1140 = .ok (.sipush 255, 3) := dk_17 0 255 (dk_at dksX10_encryptBlock_48 12 rfl rfl)
theorem dX10_encryptBlock_1143 : decode cX10_encryptBlock 1143 = .ok (.iand, 1) := dk_126 (dk_at dksX10_encryptBlock_48 15 rfl rfl)
theorem dX10_encryptBlock_1144 : decode cX10_encryptBlock 1144 = .ok (.baload, 1) := dk_51 (dk_at dksX10_encryptBlock_48 16 rfl rfl)
theorem dX10_encryptBlock_1145 : decode cX10_encryptBlock 1145 = .ok (.sipush 255, 3) := dk_17 0 255 (dk_at dksX10_encryptBlock_48 17 rfl rfl)
theorem dX10_encryptBlock_1148 : decode cX10_encryptBlock 1148 = .ok (.iand, 1) := dk_126 (dk_at dksX10_encryptBlock_48 20 rfl rfl)
theorem dX10_encryptBlock_1149 : decode cX10_encryptBlock 1149 = .ok (.bipush 8, 2) := dk_16 8 (dk_at dksX10_encryptBlock_48 21 rfl rfl)
theorem dX10_encryptBlock_1151 : decode cX10_encryptBlock 1151 = .ok (.ishl, 1) := dk_120 (dk_at dksX10_encryptBlock_48 23 rfl rfl)
theorem dX10_encryptBlock_1152 : decode cX10_encryptBlock 1152 = .ok (.ixor, 1) := dk_130 (dk_at dksX10_encryptBlock_49 0 rfl rfl)
theorem dX10_encryptBlock_1153 : decode cX10_encryptBlock 1153 = .ok (.getstatic 18, 3) := dk_178 0 18 (dk_at dksX10_encryptBlock_49 1 rfl rfl)
theorem dX10_encryptBlock_1156 : decode cX10_encryptBlock 1156 = .ok (.iload 17, 2) := dk_21 17 (dk_at dksX10_encryptBlock_49 4 rfl rfl)
theorem dX10_encryptBlock_1158 : decode cX10_encryptBlock 1158 = .ok (.bipush 16, 2) := dk_16 16 (dk_at dksX10_encryptBlock_49 6 rfl rfl)
theorem dX10_encryptBlock_1160 : decode cX10_encryptBlock 1160 = .ok (.ishr, 1) := dk_122 (dk_at dksX10_encryptBlock_49 8 rfl rfl)
theorem dX10_encryptBlock_1161 : decode cX10_encryptBlock 1161 = .ok (.sipush 255, 3) := dk_17 0 255 (dk_at dksX10_encryptBlock_49 9 rfl rfl)
theorem dX10_encryptBlock_1164 : decode cX10_encryptBlock 1164 = .ok (.iand, 1) := dk_126 (dk_at dksX10_encryptBlock_49 12 rfl rfl)
theorem dX10_encryptBlock_1165 : decode cX10_encryptBlock 1165 = .ok (.baload, 1) := dk_51 (dk_at dksX10_encryptBlock_49 13 rfl rfl)
theorem dX10_encryptBlock_1166 : decode cX10_encryptBlock 1166 = .ok (.sipush 255, 3) := dk_17 0 255 (dk_at dksX10_encryptBlock_49 14 rfl rfl)
theorem dX10_encryptBlock_1169 : decode cX10_encryptBlock 1169 = .ok (.iand, 1) := dk_126 (dk_at dksX10_encryptBlock_49 17 rfl rfl)
theorem dX10_encryptBlock_1170 : decode cX10_encryptBlock 1170 = .ok (.bipush 16, 2) := dk_16 16 (dk_at dksX10_encryptBlock_49 18 rfl rfl)
theorem dX10_encryptBlock_1172 : decode cX10_encryptBlock 1172 = .ok (.ishl, 1) := dk_120 (dk_at dksX10_encryptBlock_49 20 rfl rfl)
theorem dX10_encryptBlock_1173 : decode cX10_encryptBlock 1173 = .ok (.ixor, 1) := dk_130 (dk_at dksX10_encryptBlock_49 21 rfl rfl)
theorem dX10_encryptBlock_1174 : decode cX10_encryptBlock 1174 = .ok (.aload_n 0, 1) := dk_42 (dk_at dksX10_encryptBlock_49 22 rfl rfl)
theorem dX10_encryptBlock_1175 : decode cX10_encryptBlock 1175 = .ok (.getfield 85, 3) := dk_180 0 85 (dk_at dksX10_encryptBlock_50 0 rfl rfl)
theorem dX10_encryptBlock_1178 : decode cX10_encryptBlock 1178 = .ok (.iload 14, 2) := dk_21 14 (dk_at dksX10_encryptBlock_50 3 rfl rfl)
theorem dX10_encryptBlock_1180 : decode cX10_encryptBlock 1180 = .ok (.bipush 24, 2) := dk_16 24 (dk_at dksX10_encryptBlock_50 5 rfl rfl)
theorem dX10_encryptBlock_1182 : decode cX10_encryptBlock 1182 = .ok (.ishr, 1) := dk_122 (dk_at dksX10_encryptBlock_50 7 rfl rfl)
theorem dX10_encryptBlock_1183 : decode cX10_encryptBlock 1183 = .ok (.sipush 255, 3) := dk_17 0 255 (dk_at dksX10_encryptBlock_50 8 rfl rfl)
theorem dX10_encryptBlock_1186 : decode cX10_encryptBlock 1186 = .ok (.iand, 1) := dk_126 (dk_at dksX10_encryptBlock_50 11 rfl rfl)
theorem dX10_encryptBlock_1187 : decode cX10_encryptBlock 1187 = .ok (.baload, 1) := dk_51 (dk_at dksX10_encryptBlock_50 12 rfl rfl)
theorem dX10_encryptBlock_1188 : decode cX10_encryptBlock 1188 = .ok (.bipush 24, 2) := dk_16 24 (dk_at dksX10_encryptBlock_50 13 rfl rfl)
theorem dX10_encryptBlock_1190 : decode cX10_encryptBlock 1190 = .ok (.ishl, 1) := dk_120 (dk_at dksX10_encryptBlock_50 15 rfl rfl)
theorem dX10_encryptBlock_1191 : decode cX10_encryptBlock 1191 = .ok (.ixor, 1) := dk_130 (dk_at dksX10_encryptBlock_50 16 rfl rfl)
theorem dX10_encryptBlock_1192 : decode cX10_encryptBlock 1192 = .ok (.aload 5, 2) := dk_25 5 (dk_at dksX10_encryptBlock_50 17 rfl rfl)
theorem dX10_encryptBlock_1194 : decode cX10_encryptBlock 1194 = .ok (.iload 13, 2) := dk_21 13 (dk_at dksX10_encryptBlock_50 19 rfl rfl)
theorem dX10_encryptBlock_1196 : decode cX10_encryptBlock 1196 = .ok (.aaload, 1) := dk_50 (dk_at dksX10_encryptBlock_50 21 rfl rfl)
theorem dX10_encryptBlock_1197 : decode cX10_encryptBlock 1197 = .ok (.iconst 1, 1) := dk_4 (dk_at dksX10_encryptBlock_50 22 rfl rfl)
theorem dX10_encryptBlock_1198 : decode cX10_encryptBlock 1198 = .ok (.iaload, 1) := dk_46 (dk_at dksX10_encryptBlock_50 23 rfl rfl)
theorem dX10_encryptBlock_1199 : decode cX10_encryptBlock 1199 = .ok (.ixor, 1) := dk_130 (dk_at dksX10_encryptBlock_51 0 rfl rfl)
theorem dX10_encryptBlock_1200 : decode cX10_encryptBlock 1200 = .ok (.istore 7, 2) := dk_54 7 (dk_at dksX10_encryptBlock_51 1 rfl rfl)
theorem dX10_encryptBlock_1202 : decode cX10_encryptBlock 1202 = .ok (.aload_n 0, 1) := dk_42 (dk_at dksX10_encryptBlock_51 3 rfl rfl)
theorem dX10_encryptBlock_1203 : decode cX10_encryptBlock 1203 = .ok (.getfield 85, 3) := dk_180 0 85 (dk_at dksX10_encryptBlock_51 4 rfl rfl)
theorem dX10_encryptBlock_1206 : decode cX10_encryptBlock 1206 = .ok (.iload 16, 2) := dk_21 16 (dk_at dksX10_encryptBlock_51 7 rfl rfl)
theorem dX10_encryptBlock_1208 : decode cX10_encryptBlock 1208 = .ok (.sipush 255, 3) := dk_17 0 255 (dk_at dksX10_encryptBlock_51 9 rfl rfl)
theorem dX10_encryptBlock_1211 : decode cX10_encryptBlock 1211 = .ok (.iand, 1) := dk_126 (dk_at dksX10_encryptBlock_51 12 rfl rfl)
theorem dX10_encryptBlock_1212 : decode cX10_encryptBlock 1212 = .ok (.baload, 1) := dk_51 (dk_at dksX10_encryptBlock_51 13 rfl rfl)
theorem dX10_encryptBlock_1213 : decode cX10_encryptBlock 1213 = .ok (.sipush 255, 3) := dk_17 0 255 (dk_at dksX10_encryptBlock_51 14 rfl rfl)
theorem dX10_encryptBlock_1216 : decode cX10_encryptBlock 1216 = .ok (.iand, 1) := dk_126 (dk_at dksX10_encryptBlock_51 17 rfl rfl)
theorem dX10_encryptBlock_1217 : decode cX10_encryptBlock 1217 = .ok (.getstatic 18, 3) := dk_178 0 18 (dk_at dksX10_encryptBlock_51 18 rfl rfl)
theorem dX10_encryptBlock_1220 : decode cX10_encryptBlock 1220 = .ok (.iload 17, 2) := dk_21 17 (dk_at dksX10_encryptBlock_51 21 rfl rfl)
theorem dX10_encryptBlock_1222 : decode cX10_encryptBlock 1222 = .ok (.bipush 8, 2) := dk_16 8 (dk_at dksX10_encryptBlock_52 0 rfl rfl)
theorem dX10_encryptBlock_1224 : decode cX10_encryptBlock 1224 = .ok (.ishr, 1) := dk_122 (dk_at dksX10_encryptBlock_52 2 rfl rfl)
theorem dX10_encryptBlock_1225 : decode cX10_encryptBlock 1225 = .ok (.sipush 255, 3) := dk_17 0 255 (dk_at dksX10_encryptBlock_52 3 rfl rfl)
theorem dX10_encryptBlock_1228 : decode cX10_encryptBlock 1228 = .ok (.iand, 1) := dk_126 (dk_at dksX10_encryptBlock_52 6 rfl rfl)
theorem dX10_encryptBlock_1229 : decode cX10_encryptBlock 1229 = .ok (.baload, 1) := dk_51 (dk_at dksX10_encryptBlock_52 7 rfl rfl)
theorem dX10_encryptBlock_1230 : decode cX10_encryptBlock 1230 = .ok (.sipush 255, 3) := dk_17 0 255 (dk_at dksX10_encryptBlock_52 8 rfl rfl)
theorem dX10_encryptBlock_1233 : decode cX10_encryptBlock 1233 = .ok (.iand, 1) := dk_126 (dk_at dksX10_encryptBlock_52 11 rfl rfl)
theorem dX10_encryptBlock_1234 : decode cX10_encryptBlock 1234 = .ok (.bipush 8, 2) := dk_16 8 (dk_at dksX10_encryptBlock_52 12 rfl rfl)
theorem dX10_encryptBlock_1236 : decode cX10_encryptBlock 1236 = .ok (.ishl, 1) := dk_120 (dk_at dksX10_encryptBlock_52 14 rfl rfl)
theorem dX10_encryptBlock_1237 : decode cX10_encryptBlock 1237 = .ok (.ixor, 1) := dk_130 (dk_at dksX10_encryptBlock_52 15 rfl rfl)
theorem dX10_encryptBlock_1238 : decode cX10_encryptBlock 1238 = .ok (.getstatic 18, 3) := dk_178 0 18 (dk_at dksX10_encryptBlock_52 16 rfl rfl)
theorem dX10_encryptBlock_1241 : decode cX10_encryptBlock 1241 = .ok (.iload 14, 2) := dk_21 14 (dk_at dksX10_encryptBlock_52 19 rfl rfl)
theorem dX10_encryptBlock_1243 : decode cX10_encryptBlock 1243 = .ok (.bipush 16, 2) := dk_16 16 (dk_at dksX10_encryptBlock_52 21 rfl rfl)
theorem dX10_encryptBlock_1245 : decode cX10_encryptBlock 1245 = .ok (.ishr, 1) := dk_122 (dk_at dksX10_encryptBlock_52 23 rfl rfl)
theorem dX10_encryptBlock_1246 : decode cX10_encryptBlock 1246 = .ok (.sipush 255, 3) := dk_17 0 255 (dk_at dksX10_encryptBlock_53 0 rfl rfl)
theorem dX10_encryptBlock_1249 : decode cX10_encryptBlock 1249 = .ok (.iand, 1) := dk_126 (dk_at dksX10_encryptBlock_53 3 rfl rfl)
theorem dX10_encryptBlock_1250 : decode cX10_encryptBlock 1250 = .ok (.baload, 1) := dk_51 (dk_at dksX10_encryptBlock_53 4 rfl rfl)
theorem dX10_encryptBlock_1251 : decode cX10_encryptBlock 1251 = .ok (.sipush 255, 3) := dk_17 0 255 (dk_at dksX10_encryptBlock_53 5 rfl rfl)
theorem dX10_encryptBlock_1254 : decode cX10_encryptBlock 1254 = .ok (.iand, 1) := dk_126 (dk_at dksX10_encryptBlock_53 8 rfl rfl)
theorem dX10_encryptBlock_1255 : decode cX10_encryptBlock 1255 = .ok (.bipush 16, 2) := dk_16 16 (dk_at dksX10_encryptBlock_53 9 rfl rfl)
theorem dX10_encryptBlock_1257 : decode cX10_encryptBlock 1257 = .ok (.ishl, 1) := dk_120 (dk_at dksX10_encryptBlock_53 11 rfl rfl)
theorem dX10_encryptBlock_1258 : decode cX10_encryptBlock 1258 = .ok (.ixor, 1) := dk_130 (dk_at dksX10_encryptBlock_53 12 rfl rfl)
theorem dX10_encryptBlock_1259 : decode cX10_encryptBlock 1259 = .ok (.getstatic 18, 3) := dk_178 0 18 (dk_at dksX10_encryptBlock_53 13 rfl rfl)
theorem dX10_encryptBlock_1262 : decode cX10_encryptBlock 1262 = .ok (.iload 15, 2) := dk_21 15 (dk_at dksX10_encryptBlock_53 16 rfl rfl)
theorem dX10_encryptBlock_1264 : decode cX10_encryptBlock 1264 = .ok (.bipush 24, 2) := dk_16 24 (dk_at dksX10_encryptBlock_53 18 rfl rfl)
theorem dX10_encryptBlock_1266 : decode cX10_encryptBlock 1266 = .ok (.ishr, 1) := dk_122 (dk_at dksX10_encryptBlock_53 20 rfl rfl)
theorem dX10_encryptBlock_1267 : decode cX10_encryptBlock 1267 = .ok (.sipush 255, 3) := dk_17 0 255 (dk_at dksX10_encryptBlock_53 21 rfl rfl)
theorem dX10_encryptBlock_1270 : decode cX10_encryptBlock 1270 = .ok (.iand, 1) := dk_126 (dk_at dksX10_encryptBlock_54 0 rfl rfl)
theorem dX10_encryptBlock_1271 : decode cX10_encryptBlock 1271 = .ok (.baload, 1) := dk_51 (dk_at dksX10_encryptBlock_54 1 rfl rfl)
theorem dX10_encryptBlock_1272 : decode cX10_encryptBlock 1272 = .ok (.bipush 24, 2) := dk_16 24 (dk_at dksX10_encryptBlock_54 2 rfl rfl)
theorem dX10_encryptBlock_1274 : decode cX10_encryptBlock 1274 = .ok (.ishl, 1) := dk_120 (dk_at dksX10_encryptBlock_54 4 rfl rfl)
theorem dX10_encryptBlock_1275 : decode cX10_encryptBlock 1275 = .ok (.ixor, 1) := dk_130 (dk_at dksX10_encryptBlock_54 5 rfl rfl)
theorem dX10_encryptBlock_1276 : decode cX10_encryptBlock 1276 = .ok (.aload 5, 2) := dk_25 5 (dk_at dksX10_encryptBlock_54 6 rfl rfl)
theorem dX10_encryptBlock_1278 : decode cX10_encryptBlock 1278 = .ok (.iload 13, 2) := dk_21 13 (dk_at dksX10_encryptBlock_54 8 rfl rfl)
theorem dX10_encryptBlock_1280 : decode cX10_encryptBlock 1280 = .ok (.aaload, 1) := dk_50 (dk_at dksX10_encryptBlock_54 10 rfl rfl)
theorem dX10_encryptBlock_1281 : decode cX10_encryptBlock 1281 = .ok (.iconst 2, 1) := dk_5 (dk_at dksX10_encryptBlock_54 11 rfl rfl)
theorem dX10_encryptBlock_1282 : decode cX10_encryptBlock 1282 = .ok (.iaload, 1) := dk_46 (dk_at dksX10_encryptBlock_54 12 rfl rfl)
theorem dX10_encryptBlock_1283 : decode cX10_encryptBlock 1283 = .ok (.ixor, 1) := dk_130 (dk_at dksX10_encryptBlock_54 13 rfl rfl)
theorem dX10_encryptBlock_1284 : decode cX10_encryptBlock 1284 = .ok (.istore 8, 2) := dk_54 8 (dk_at dksX10_encryptBlock_54 14 rfl rfl)
theorem dX10_encryptBlock_1286 : decode cX10_encryptBlock 1286 = .ok (.aload_n 0, 1) := dk_42 (dk_at dksX10_encryptBlock_54 16 rfl rfl)
theorem dX10_encryptBlock_1287 : decode cX10_encryptBlock 1287 = .ok (.getfield 85, 3) := dk_180 0 85 (dk_at dksX10_encryptBlock_54 17 rfl rfl)
theorem dX10_encryptBlock_1290 : decode cX10_encryptBlock 1290 = .ok (.iload 17, 2) := dk_21 17 (dk_at dksX10_encryptBlock_54 20 rfl rfl)
theorem dX10_encryptBlock_1292 : decode cX10_encryptBlock 1292 = .ok (.sipush 255, 3) := dk_17 0 255 (dk_at dksX10_encryptBlock_55 0 rfl rfl)
theorem dX10_encryptBlock_1295 : decode cX10_encryptBlock 1295 = .ok (.iand, 1) := dk_126 (dk_at dksX10_encryptBlock_55 3 rfl rfl)
theorem dX10_encryptBlock_1296 : decode cX10_encryptBlock 1296 = .ok (.baload, 1) := dk_51 (dk_at dksX10_encryptBlock_55 4 rfl rfl)
theorem dX10_encryptBlock_1297 : decode cX10_encryptBlock 1297 = .ok (.sipush 255, 3) := dk_17 0 255 (dk_at dksX10_encryptBlock_55 5 rfl rfl)
theorem dX10_encryptBlock_1300 : decode cX10_encryptBlock 1300 = .ok (.iand, 1) := dk_126 (dk_at dksX10_encryptBlock_55 8 rfl rfl)
theorem dX10_encryptBlock_1301 : decode cX10_encryptBlock 1301 = .ok (.aload_n 0, 1) := dk_42 (dk_at dksX10_encryptBlock_55 9 rfl rfl)
theorem dX10_encryptBlock_1302 : decode cX10_encryptBlock 1302 = .ok (.getfield 85, 3) := dk_180 0 85 (dk_at dksX10_encryptBlock_55 10 rfl rfl)
theorem dX10_encryptBlock_1305 : decode cX10_encryptBlock 1305 = .ok (.iload 14, 2) := dk_21 14 (dk_at dksX10_encryptBlock_55 13 rfl rfl)
theorem dX10_encryptBlock_1307 : decode cX10_encryptBlock 1307 = .ok (.bipush 8, 2) := dk_16 8 (dk_at dksX10_encryptBlock_55 15 rfl rfl)
theorem dX10_encryptBlock_1309 : decode cX10_encryptBlock 1309 = .ok (.ishr, 1) := dk_122 (dk_at dksX10_encryptBlock_55 17 rfl rfl)
theorem dX10_encryptBlock_1310 : decode cX10_encryptBlock 1310 = .ok (.sipush 255, 3) := dk_17 0 255 (dk_at dksX10_encryptBlock_55 18 rfl rfl)
theorem dX10_encryptBlock_1313 : decode cX10_encryptBlock 1313 = .ok (.iand, 1) := dk_126 (dk_at dksX10_encryptBlock_55 21 rfl rfl)
theorem dX10_encryptBlock_1314 : decode cX10_encryptBlock 1314 = .ok (.baload, 1) := dk_51 (dk_at dksX10_encryptBlock_55 22 rfl rfl)
theorem dX10_encryptBlock_1315 : decode cX10_encryptBlock 1315 = .ok (.sipush 255, 3) := dk_17 0 255 (dk_at dksX10_encryptBlock_56 0 rfl rfl)
theorem dX10_encryptBlock_1318 : decode cX10_encryptBlock 1318 = .ok (.iand, 1) := dk_126 (dk_at dksX10_encryptBlock_56 3 rfl rfl)
theorem dX10_encryptBlock_1319 : decode cX10_encryptBlock 1319 = .ok (.bipush 8, 2) := dk_16 8 (dk_at dksX10_encryptBlock_56 4 rfl rfl)
theorem dX10_encryptBlock_1321 : decode cX10_encryptBlock 1321 = .ok (.ishl, 1) := dk_120 (dk_at dksX10_encryptBlock_56 6 rfl rfl)
theorem dX10_encryptBlock_1322 : decode cX10_encryptBlock 1322 = .ok (.ixor, 1) := dk_130 (dk_at dksX10_encryptBlock_56 7 rfl rfl)
theorem dX10_encryptBlock_1323 : decode cX10_encryptBlock 1323 = .ok (.aload_n 0, 1) := dk_42 (dk_at dksX10_encryptBlock_56 8 rfl rfl)
theorem dX10_encryptBlock_1324 : decode cX10_encryptBlock 1324 = .ok (.getfield 85, 3) := dk_180 0 85 (dk_at dksX10_encryptBlock_56 9 rfl rfl)
theorem dX10_encryptBlock_1327 : decode cX10_encryptBlock 1327 = .ok (.iload 15, 2) := dk_21 15 (dk_at dksX10_encryptBlock_56 12 rfl rfl)
theorem dX10_encryptBlock_1329 : decode cX10_encryptBlock 1329 = .ok (.bipush 16, 2) := dk_16 16 (dk_at dksX10_encryptBlock_56 14 rfl rfl)
theorem dX10_encryptBlock_1331 : decode cX10_encryptBlock 1331 = .ok (.ishr, 1) := dk_122 (dk_at dksX10_encryptBlock_56 16 rfl rfl)
theorem dX10_encryptBlock_1332 : decode cX10_encryptBlock 1332 = .ok (.sipush 255, 3) := dk_17 0 255 (dk_at dksX10_encryptBlock_56 17 rfl rfl)
theorem dX10_encryptBlock_1335 : decode cX10_encryptBlock 1335 = .ok (.iand, 1) := dk_126 (dk_at dksX10_encryptBlock_56 20 rfl rfl)
theorem dX10_encryptBlock_1336 : decode cX10_encryptBlock 1336 = .ok (.baload, 1) := dk_51 (dk_at dksX10_encryptBlock_56 21 rfl rfl)
theorem dX10_encryptBlock_1337 : decode cX10_encryptBlock 1337 = .ok (.sipush 255, 3) := dk_17 0 255 (dk_at dksX10_encryptBlock_57 0 rfl rfl)
theorem dX10_encryptBlock_1340 : decode cX10_encryptBlock 1340 = .ok (.iand, 1) := dk_126 (dk_at dksX10_encryptBlock_57 3 rfl rfl)
theorem dX10_encryptBlock_1341 : decode cX10_encryptBlock 1341 = .ok (.bipush 16, 2) := dk_16 16 (dk_at dksX10_encryptBlock_57 4 rfl rfl)
theorem dX10_encryptBlock_1343 : decode cX10_encryptBlock 1343 = .ok (.ishl, 1) := dk_120 (dk_at dksX10_encryptBlock_57 6 rfl rfl)
theorem dX10_encryptBlock_1344 : decode cX10_encryptBlock 1344 = .ok (.ixor, 1) := dk_130 (dk_at dksX10_encryptBlock_57 7 rfl rfl)
theorem dX10_encryptBlock_1345 : decode cX10_encryptBlock 1345 = .ok (.getstatic 18, 3) := dk_178 0 18 (dk_at dksX10_encryptBlock_57 8 rfl rfl)
theorem dX10_encryptBlock_1348 : decode cX10_encryptBlock 1348 = .ok (.iload 16, 2) := dk_21 16 (dk_at dksX10_encryptBlock_57 11 rfl rfl)
theorem dX10_encryptBlock_1350 : decode cX10_encryptBlock 1350 = .ok (.bipush 24, 2) := dk_16 24 (dk_at dksX10_encryptBlock_57 13 rfl rfl)
theorem dX10_encryptBlock_1352 : decode cX10_encryptBlock 1352 = .ok (.ishr, 1) := dk_122 (dk_at dksX10_encryptBlock_57 15 rfl rfl)
theorem dX10_encryptBlock_1353 : decode cX10_encryptBlock 1353 = .ok (.sipush 255, 3) := dk_17 0 255 (dk_at dksX10_encryptBlock_57 16 rfl rfl)
theorem dX10_encryptBlock_1356 : decode cX10_encryptBlock 1356 = .ok (.iand, 1) := dk_126 (dk_at dksX10_encryptBlock_57 19 rfl rfl)
theorem dX10_encryptBlock_1357 : decode cX10_encryptBlock 1357 = .ok (.baload, 1) := dk_51 (dk_at dksX10_encryptBlock_57 20 rfl rfl)
theorem dX10_encryptBlock_1358 : decode cX10_encryptBlock 1358 = .ok (.bipush 24, 2) := dk_16 24 (dk_at dksX10_encryptBlock_57 21 rfl rfl)
theorem dX10_encryptBlock_1360 : decode cX10_encryptBlock 1360 = .ok (.ishl, 1) := dk_120 (dk_at dksX10_encryptBlock_57 23 rfl rfl)
theorem dX10_encryptBlock_1361 : decode cX10_encryptBlock 1361 = .ok (.ixor, 1) := dk_130 (dk_at dksX10_encryptBlock_58 0 rfl rfl)
theorem dX10_encryptBlock_1362 : decode cX10_encryptBlock 1362 = .ok (.aload 5, 2) := dk_25 5 (dk_at dksX10_encryptBlock_58 1 rfl rfl)
theorem dX10_encryptBlock_1364 : decode cX10_encryptBlock 1364 = .ok (.iload 13, 2) := dk_21 13 (dk_at dksX10_encryptBlock_58 3 rfl rfl)
theorem dX10_encryptBlock_1366 : decode cX10_encryptBlock 1366 = .ok (.aaload, 1) := dk_50 (dk_at dksX10_encryptBlock_58 5 rfl rfl)
theorem dX10_encryptBlock_1367 : decode cX10_encryptBlock 1367 = .ok (.iconst 3, 1) := dk_6 (dk_at dksX10_encryptBlock_58 6 rfl rfl)
theorem dX10_encryptBlock_1368 : decode cX10_encryptBlock 1368 = .ok (.iaload, 1) := dk_46 (dk_at dksX10_encryptBlock_58 7 rfl rfl)
theorem dX10_encryptBlock_1369 : decode cX10_encryptBlock 1369 = .ok (.ixor, 1) := dk_130 (dk_at dksX10_encryptBlock_58 8 rfl rfl)
theorem dX10_encryptBlock_1370 : decode cX10_encryptBlock 1370 = .ok (.istore 9, 2) := dk_54 9 (dk_at dksX10_encryptBlock_58 9 rfl rfl)
theorem dX10_encryptBlock_1372 : decode cX10_encryptBlock 1372 = .ok (.iload 6, 2) := dk_21 6 (dk_at dksX10_encryptBlock_58 11 rfl rfl)
theorem dX10_encryptBlock_1374 : decode cX10_encryptBlock 1374 = .ok (.aload_n 3, 1) := dk_45 (dk_at dksX10_encryptBlock_58 13 rfl rfl)
theorem dX10_encryptBlock_1375 : decode cX10_encryptBlock 1375 = .ok (.iload 4, 2) := dk_21 4 (dk_at dksX10_encryptBlock_58 14 rfl rfl)
theorem dX10_encryptBlock_1377 : decode cX10_encryptBlock 1377 = .ok (.iconst 0, 1) := dk_3 (dk_at dksX10_encryptBlock_58 16 rfl rfl)
theorem dX10_encryptBlock_1378 : decode cX10_encryptBlock 1378 = .ok (.iadd, 1) := dk_96 (dk_at dksX10_encryptBlock_58 17 rfl rfl)
theorem dX10_encryptBlock_1379 : decode cX10_encryptBlock 1379 = .ok (.invokestatic 115, 3) := dk_184 0 115 (dk_at dksX10_encryptBlock_58 18 rfl rfl)
theorem dX10_encryptBlock_1382 : decode cX10_encryptBlock 1382 = .ok (.iload 7, 2) := dk_21 7 (dk_at dksX10_encryptBlock_58 21 rfl rfl)
theorem dX10_encryptBlock_1384 : decode cX10_encryptBlock 1384 = .ok (.aload_n 3, 1) := dk_45 (dk_at dksX10_encryptBlock_58 23 rfl rfl)
theorem dX10_encryptBlock_1385 : decode cX10_encryptBlock 1385 = .ok (.iload 4, 2) := dk_21 4 (dk_at dksX10_encryptBlock_59 0 rfl rfl)
theorem dX10_encryptBlock_1387 : decode cX10_encryptBlock 1387 = .ok (.iconst 4, 1) := dk_7 (dk_at dksX10_encryptBlock_59 2 rfl rfl)
theorem dX10_encryptBlock_1388 : decode cX10_encryptBlock 1388 = .ok (.iadd, 1) := dk_96 (dk_at dksX10_encryptBlock_59 3 rfl rfl)
theorem dX10_encryptBlock_1389 : decode cX10_encryptBlock 1389 = .ok (.invokestatic 115, 3) := dk_184 0 115 (dk_at dksX10_encryptBlock_59 4 rfl rfl)
theorem dX10_encryptBlock_1392 : decode cX10_encryptBlock 1392 = .ok (.iload 8, 2) := dk_21 8 (dk_at dksX10_encryptBlock_59 7 rfl rfl)
theorem dX10_encryptBlock_1394 : decode cX10_encryptBlock 1394 = .ok (.aload_n 3, 1) := dk_45 (dk_at dksX10_encryptBlock_59 9 rfl rfl)
theorem dX10_encryptBlock_1395 : decode cX10_encryptBlock 1395 = .ok (.iload 4, 2) := dk_21 4 (dk_at dksX10_encryptBlock_59 10 rfl rfl)
theorem dX10_encryptBlock_1397 : decode cX10_encryptBlock 1397 = .ok (.bipush 8, 2) := dk_16 8 (dk_at dksX10_encryptBlock_59 12 rfl rfl)
theorem dX10_encryptBlock_1399 : decode cX10_encryptBlock 1399 = .ok (.iadd, 1) := dk_96 (dk_at dksX10_encryptBlock_59 14 rfl rfl)
theorem dX10_encryptBlock_1400 : decode cX10_encryptBlock 1400 = .ok (.invokestatic 115, 3) := dk_184 0 115 (dk_at dksX10_encryptBlock_59 15 rfl rfl)
theorem dX10_encryptBlock_1403 : decode cX10_encryptBlock 1403 = .ok (.iload 9, 2) := dk_21 9 (dk_at dksX10_encryptBlock_59 18 rfl rfl)
theorem dX10_encryptBlock_1405 : decode cX10_encryptBlock 1405 = .ok (.aload_n 3, 1) := dk_45 (dk_at dksX10_encryptBlock_59 20 rfl rfl)
theorem dX10_encryptBlock_1406 : decode cX10_encryptBlock 1406 = .ok (.iload 4, 2) := dk_21 4 (dk_at dksX10_encryptBlock_59 21 rfl rfl)
theorem dX10_encryptBlock_1408 : decode cX10_encryptBlock 1408 = .ok (.bipush 12, 2) := dk_16 12 (dk_at dksX10_encryptBlock_60 0 rfl rfl)
theorem dX10_encryptBlock_1410 : decode cX10_encryptBlock 1410 = .ok (.iadd, 1) := dk_96 (dk_at dksX10_encryptBlock_60 2 rfl rfl)
theorem dX10_encryptBlock_1411 : decode cX10_encryptBlock 1411 = .ok (.invokestatic 115, 3) := dk_184 0 115 (dk_at dksX10_encryptBlock_60 3 rfl rfl)
theorem dX10_encryptBlock_1414 : decode cX10_encryptBlock 1414 = .ok (.return_, 1) := dk_177 (dk_at dksX10_encryptBlock_60 6 rfl rfl)
abbrev cX10_decryptBlock : ByteArray := prog_1_method_13_code
def yX10_decryptBlock : MethodName := ⟨RX10, "decryptBlock", "([BI[BI[[I)V"⟩
def dkwX10_decryptBlock_60 : List UInt8 := [16, 12, 96, 184, 0, 115, 177]
abbrev dktX10_decryptBlock_60 : List UInt8 := dkwX10_decryptBlock_60 ++ []
def dkwX10_decryptBlock_59 : List UInt8 := [21, 4, 7, 96, 184, 0, 115, 21, 8, 45, 21, 4, 16, 8, 96, 184, 0, 115, 21, 9, 45, 21, 4]
abbrev dktX10_decryptBlock_59 : List UInt8 := dkwX10_decryptBlock_59 ++ dktX10_decryptBlock_60
def dkwX10_decryptBlock_58 : List UInt8 := [120, 130, 25, 5, 3, 50, 6, 46, 130, 54, 9, 21, 6, 45, 21, 4, 3, 96, 184, 0, 115, 21, 7, 45]
abbrev dktX10_decryptBlock_58 : List UInt8 := dkwX10_decryptBlock_58 ++ dktX10_decryptBlock_59
def dkwX10_decryptBlock_57 : List UInt8 := [17, 0, 255, 126, 16, 16, 120, 130, 42, 180, 0, 85, 21, 14, 16, 24, 122, 17, 0, 255, 126, 51, 16, 24]
abbrev dktX10_decryptBlock_57 : List UInt8 := dkwX10_decryptBlock_57 ++ dktX10_decryptBlock_58
def dkwX10_decryptBlock_56 : List UInt8 := [17, 0, 255, 126, 16, 8, 120, 130, 42, 180, 0, 85, 21, 15, 16, 16, 122, 17, 0, 255, 126, 51]
abbrev dktX10_decryptBlock_56 : List UInt8 := dkwX10_decryptBlock_56 ++ dktX10_decryptBlock_57
def dkwX10_decryptBlock_55 : List UInt8 := [17, 0, 255, 126, 51, 17, 0, 255, 126, 42, 180, 0, 85, 21, 16, 16, 8, 122, 17, 0, 255, 126, 51]
abbrev dktX10_decryptBlock_55 : List UInt8 := dkwX10_decryptBlock_55 ++ dktX10_decryptBlock_56
def dkwX10_decryptBlock_54 : List UInt8 := [17, 0, 255, 126, 51, 16, 24, 120, 130, 25, 5, 3, 50, 5, 46, 130, 54, 8, 178, 0, 88, 21, 17]
abbrev dktX10_decryptBlock_54 : List UInt8 := dkwX10_decryptBlock_54 ++ dktX10_decryptBlock_55
def dkwX10_decryptBlock_53 : List UInt8 := [17, 0, 255, 126, 51, 17, 0, 255, 126, 16, 16, 120, 130, 42, 180, 0, 85, 21, 17, 16, 24, 122]
abbrev dktX10_decryptBlock_53 : List UInt8 := dkwX10_decryptBlock_53 ++ dktX10_decryptBlock_54
def dkwX10_decryptBlock_52 : List UInt8 := [122, 17, 0, 255, 126, 51, 17, 0, 255, 126, 16, 8, 120, 130, 178, 0, 88, 21, 14, 16, 16, 122]
abbrev dktX10_decryptBlock_52 : List UInt8 := dkwX10_decryptBlock_52 ++ dktX10_decryptBlock_53
def dkwX10_decryptBlock_51 : List UInt8 := [54, 7, 42, 180, 0, 85, 21, 16, 17, 0, 255, 126, 51, 17, 0, 255, 126, 178, 0, 88, 21, 15, 16, 8]
abbrev dktX10_decryptBlock_51 : List UInt8 := dkwX10_decryptBlock_51 ++ dktX10_decryptBlock_52
def dkwX10_decryptBlock_50 : List UInt8 := [180, 0, 85, 21, 16, 16, 24, 122, 17, 0, 255, 126, 51, 16, 24, 120, 130, 25, 5, 3, 50, 4, 46, 130]
abbrev dktX10_decryptBlock_50 : List UInt8 := dkwX10_decryptBlock_50 ++ dktX10_decryptBlock_51
def dkwX10_decryptBlock_49 : List UInt8 := [178, 0, 88, 21, 17, 16, 16, 122, 17, 0, 255, 126, 51, 17, 0, 255, 126, 16, 16, 120, 130, 42]
abbrev dktX10_decryptBlock_49 : List UInt8 := dkwX10_decryptBlock_49 ++ dktX10_decryptBlock_50
def dkwX10_decryptBlock_48 : List UInt8 := [126, 42, 180, 0, 85, 21, 14, 16, 8, 122, 17, 0, 255, 126, 51, 17, 0, 255, 126, 16, 8, 120, 130]
abbrev dktX10_decryptBlock_48 : List UInt8 := dkwX10_decryptBlock_48 ++ dktX10_decryptBlock_49
def dkwX10_decryptBlock_47 : List UInt8 := [130, 25, 5, 3, 50, 3, 46, 130, 54, 6, 42, 180, 0, 85, 21, 15, 17, 0, 255, 126, 51, 17, 0, 255]
abbrev dktX10_decryptBlock_47 : List UInt8 := dkwX10_decryptBlock_47 ++ dktX10_decryptBlock_48
def dkwX10_decryptBlock_46 : List UInt8 := [17, 0, 255, 126, 16, 16, 120, 130, 178, 0, 88, 21, 15, 16, 24, 122, 17, 0, 255, 126, 51, 16, 24, 120]
abbrev dktX10_decryptBlock_46 : List UInt8 := dkwX10_decryptBlock_46 ++ dktX10_decryptBlock_47
def dkwX10_decryptBlock_45 : List UInt8 := [51, 17, 0, 255, 126, 16, 8, 120, 130, 42, 180, 0, 85, 21, 16, 16, 16, 122, 17, 0, 255, 126, 51]
abbrev dktX10_decryptBlock_45 : List UInt8 := dkwX10_decryptBlock_45 ++ dktX10_decryptBlock_46
def dkwX10_decryptBlock_44 : List UInt8 := [21, 14, 17, 0, 255, 126, 51, 17, 0, 255, 126, 42, 180, 0, 85, 21, 17, 16, 8, 122, 17, 0, 255, 126]
abbrev dktX10_decryptBlock_44 : List UInt8 := dkwX10_decryptBlock_44 ++ dktX10_decryptBlock_45
def dkwX10_decryptBlock_43 : List UInt8 := [17, 0, 255, 126, 46, 16, 8, 184, 0, 7, 130, 25, 5, 21, 13, 50, 6, 46, 130, 54, 17, 178, 0, 88]
abbrev dktX10_decryptBlock_43 : List UInt8 := dkwX10_decryptBlock_43 ++ dktX10_decryptBlock_44
def dkwX10_decryptBlock_42 : List UInt8 := [21, 11, 16, 16, 122, 17, 0, 255, 126, 46, 16, 16, 184, 0, 7, 130, 178, 0, 119, 21, 10, 16, 24, 122]
abbrev dktX10_decryptBlock_42 : List UInt8 := dkwX10_decryptBlock_42 ++ dktX10_decryptBlock_43
def dkwX10_decryptBlock_41 : List UInt8 := [126, 46, 178, 0, 119, 21, 12, 16, 8, 122, 17, 0, 255, 126, 46, 16, 24, 184, 0, 7, 130, 178, 0, 119]
abbrev dktX10_decryptBlock_41 : List UInt8 := dkwX10_decryptBlock_41 ++ dktX10_decryptBlock_42
def dkwX10_decryptBlock_40 : List UInt8 := [16, 8, 184, 0, 7, 130, 25, 5, 21, 13, 50, 5, 46, 130, 54, 16, 178, 0, 119, 21, 17, 17, 0, 255]
abbrev dktX10_decryptBlock_40 : List UInt8 := dkwX10_decryptBlock_40 ++ dktX10_decryptBlock_41
def dkwX10_decryptBlock_39 : List UInt8 := [17, 0, 255, 126, 46, 16, 16, 184, 0, 7, 130, 178, 0, 119, 21, 17, 16, 24, 122, 17, 0, 255, 126, 46]
abbrev dktX10_decryptBlock_39 : List UInt8 := dkwX10_decryptBlock_39 ++ dktX10_decryptBlock_40
def dkwX10_decryptBlock_38 : List UInt8 := [21, 11, 16, 8, 122, 17, 0, 255, 126, 46, 16, 24, 184, 0, 7, 130, 178, 0, 119, 21, 10, 16, 16, 122]
abbrev dktX10_decryptBlock_38 : List UInt8 := dkwX10_decryptBlock_38 ++ dktX10_decryptBlock_39
def dkwX10_decryptBlock_37 : List UInt8 := [130, 25, 5, 21, 13, 50, 4, 46, 130, 54, 15, 178, 0, 119, 21, 12, 17, 0, 255, 126, 46, 178, 0, 119]
abbrev dktX10_decryptBlock_37 : List UInt8 := dkwX10_decryptBlock_37 ++ dktX10_decryptBlock_38
def dkwX10_decryptBlock_36 : List UInt8 := [16, 16, 184, 0, 7, 130, 178, 0, 119, 21, 12, 16, 24, 122, 17, 0, 255, 126, 46, 16, 8, 184, 0, 7]
abbrev dktX10_decryptBlock_36 : List UInt8 := dkwX10_decryptBlock_36 ++ dktX10_decryptBlock_37
def dkwX10_decryptBlock_35 : List UInt8 := [17, 0, 255, 126, 46, 16, 24, 184, 0, 7, 130, 178, 0, 119, 21, 17, 16, 16, 122, 17, 0, 255, 126, 46]
abbrev dktX10_decryptBlock_35 : List UInt8 := dkwX10_decryptBlock_35 ++ dktX10_decryptBlock_36
def dkwX10_decryptBlock_34 : List UInt8 := [50, 3, 46, 130, 54, 14, 178, 0, 119, 21, 11, 17, 0, 255, 126, 46, 178, 0, 119, 21, 10, 16, 8, 122]
abbrev dktX10_decryptBlock_34 : List UInt8 := dkwX10_decryptBlock_34 ++ dktX10_decryptBlock_35
def dkwX10_decryptBlock_33 : List UInt8 := [130, 178, 0, 119, 21, 11, 16, 24, 122, 17, 0, 255, 126, 46, 16, 8, 184, 0, 7, 130, 25, 5, 21, 13]
abbrev dktX10_decryptBlock_33 : List UInt8 := dkwX10_decryptBlock_33 ++ dktX10_decryptBlock_34
def dkwX10_decryptBlock_32 : List UInt8 := [16, 24, 184, 0, 7, 130, 178, 0, 119, 21, 12, 16, 16, 122, 17, 0, 255, 126, 46, 16, 16, 184, 0, 7]
abbrev dktX10_decryptBlock_32 : List UInt8 := dkwX10_decryptBlock_32 ++ dktX10_decryptBlock_33
def dkwX10_decryptBlock_31 : List UInt8 := [178, 0, 119, 21, 10, 17, 0, 255, 126, 46, 178, 0, 119, 21, 17, 16, 8, 122, 17, 0, 255, 126, 46]
abbrev dktX10_decryptBlock_31 : List UInt8 := dkwX10_decryptBlock_31 ++ dktX10_decryptBlock_32
def dkwX10_decryptBlock_30 : List UInt8 := [16, 8, 184, 0, 7, 130, 25, 5, 21, 13, 132, 13, 255, 50, 6, 46, 130, 54, 17, 167, 253, 140]
abbrev dktX10_decryptBlock_30 : List UInt8 := dkwX10_decryptBlock_30 ++ dktX10_decryptBlock_31
def dkwX10_decryptBlock_29 : List UInt8 := [17, 0, 255, 126, 46, 16, 16, 184, 0, 7, 130, 178, 0, 119, 21, 14, 16, 24, 122, 17, 0, 255, 126, 46]
abbrev dktX10_decryptBlock_29 : List UInt8 := dkwX10_decryptBlock_29 ++ dktX10_decryptBlock_30
def dkwX10_decryptBlock_28 : List UInt8 := [21, 16, 16, 8, 122, 17, 0, 255, 126, 46, 16, 24, 184, 0, 7, 130, 178, 0, 119, 21, 15, 16, 16, 122]
abbrev dktX10_decryptBlock_28 : List UInt8 := dkwX10_decryptBlock_28 ++ dktX10_decryptBlock_29
def dkwX10_decryptBlock_27 : List UInt8 := [130, 25, 5, 21, 13, 50, 5, 46, 130, 54, 12, 178, 0, 119, 21, 17, 17, 0, 255, 126, 46, 178, 0, 119]
abbrev dktX10_decryptBlock_27 : List UInt8 := dkwX10_decryptBlock_27 ++ dktX10_decryptBlock_28
def dkwX10_decryptBlock_26 : List UInt8 := [16, 16, 184, 0, 7, 130, 178, 0, 119, 21, 17, 16, 24, 122, 17, 0, 255, 126, 46, 16, 8, 184, 0, 7]
abbrev dktX10_decryptBlock_26 : List UInt8 := dkwX10_decryptBlock_26 ++ dktX10_decryptBlock_27
def dkwX10_decryptBlock_25 : List UInt8 := [17, 0, 255, 126, 46, 16, 24, 184, 0, 7, 130, 178, 0, 119, 21, 14, 16, 16, 122, 17, 0, 255, 126, 46]
abbrev dktX10_decryptBlock_25 : List UInt8 := dkwX10_decryptBlock_25 ++ dktX10_decryptBlock_26
def dkwX10_decryptBlock_24 : List UInt8 := [50, 4, 46, 130, 54, 11, 178, 0, 119, 21, 16, 17, 0, 255, 126, 46, 178, 0, 119, 21, 15, 16, 8, 122]
abbrev dktX10_decryptBlock_24 : List UInt8 := dkwX10_decryptBlock_24 ++ dktX10_decryptBlock_25
def dkwX10_decryptBlock_23 : List UInt8 := [130, 178, 0, 119, 21, 16, 16, 24, 122, 17, 0, 255, 126, 46, 16, 8, 184, 0, 7, 130, 25, 5, 21, 13]
abbrev dktX10_decryptBlock_23 : List UInt8 := dkwX10_decryptBlock_23 ++ dktX10_decryptBlock_24
def dkwX10_decryptBlock_22 : List UInt8 := [16, 24, 184, 0, 7, 130, 178, 0, 119, 21, 17, 16, 16, 122, 17, 0, 255, 126, 46, 16, 16, 184, 0, 7]
abbrev dktX10_decryptBlock_22 : List UInt8 := dkwX10_decryptBlock_22 ++ dktX10_decryptBlock_23
def dkwX10_decryptBlock_21 : List UInt8 := [178, 0, 119, 21, 15, 17, 0, 255, 126, 46, 178, 0, 119, 21, 14, 16, 8, 122, 17, 0, 255, 126, 46]
abbrev dktX10_decryptBlock_21 : List UInt8 := dkwX10_decryptBlock_21 ++ dktX10_decryptBlock_22
def dkwX10_decryptBlock_20 : List UInt8 := [16, 24, 122, 17, 0, 255, 126, 46, 16, 8, 184, 0, 7, 130, 25, 5, 21, 13, 50, 3, 46, 130, 54, 10]
abbrev dktX10_decryptBlock_20 : List UInt8 := dkwX10_decryptBlock_20 ++ dktX10_decryptBlock_21
def dkwX10_decryptBlock_19 : List UInt8 := [178, 0, 119, 21, 16, 16, 16, 122, 17, 0, 255, 126, 46, 16, 16, 184, 0, 7, 130, 178, 0, 119, 21, 15]
abbrev dktX10_decryptBlock_19 : List UInt8 := dkwX10_decryptBlock_19 ++ dktX10_decryptBlock_20
def dkwX10_decryptBlock_18 : List UInt8 := [17, 0, 255, 126, 46, 178, 0, 119, 21, 17, 16, 8, 122, 17, 0, 255, 126, 46, 16, 24, 184, 0, 7, 130]
abbrev dktX10_decryptBlock_18 : List UInt8 := dkwX10_decryptBlock_18 ++ dktX10_decryptBlock_19
def dkwX10_decryptBlock_17 : List UInt8 := [16, 8, 184, 0, 7, 130, 25, 5, 21, 13, 132, 13, 255, 50, 6, 46, 130, 54, 17, 178, 0, 119, 21, 14]
abbrev dktX10_decryptBlock_17 : List UInt8 := dkwX10_decryptBlock_17 ++ dktX10_decryptBlock_18
def dkwX10_decryptBlock_16 : List UInt8 := [17, 0, 255, 126, 46, 16, 16, 184, 0, 7, 130, 178, 0, 119, 21, 10, 16, 24, 122, 17, 0, 255, 126, 46]
abbrev dktX10_decryptBlock_16 : List UInt8 := dkwX10_decryptBlock_16 ++ dktX10_decryptBlock_17
def dkwX10_decryptBlock_15 : List UInt8 := [21, 12, 16, 8, 122, 17, 0, 255, 126, 46, 16, 24, 184, 0, 7, 130, 178, 0, 119, 21, 11, 16, 16, 122]
abbrev dktX10_decryptBlock_15 : List UInt8 := dkwX10_decryptBlock_15 ++ dktX10_decryptBlock_16
def dkwX10_decryptBlock_14 : List UInt8 := [130, 25, 5, 21, 13, 50, 5, 46, 130, 54, 16, 178, 0, 119, 21, 17, 17, 0, 255, 126, 46, 178, 0, 119]
abbrev dktX10_decryptBlock_14 : List UInt8 := dkwX10_decryptBlock_14 ++ dktX10_decryptBlock_15
def dkwX10_decryptBlock_13 : List UInt8 := [16, 16, 184, 0, 7, 130, 178, 0, 119, 21, 17, 16, 24, 122, 17, 0, 255, 126, 46, 16, 8, 184, 0, 7]
abbrev dktX10_decryptBlock_13 : List UInt8 := dkwX10_decryptBlock_13 ++ dktX10_decryptBlock_14
def dkwX10_decryptBlock_12 : List UInt8 := [17, 0, 255, 126, 46, 16, 24, 184, 0, 7, 130, 178, 0, 119, 21, 10, 16, 16, 122, 17, 0, 255, 126, 46]
abbrev dktX10_decryptBlock_12 : List UInt8 := dkwX10_decryptBlock_12 ++ dktX10_decryptBlock_13
def dkwX10_decryptBlock_11 : List UInt8 := [4, 46, 130, 54, 15, 178, 0, 119, 21, 12, 17, 0, 255, 126, 46, 178, 0, 119, 21, 11, 16, 8, 122]
abbrev dktX10_decryptBlock_11 : List UInt8 := dkwX10_decryptBlock_11 ++ dktX10_decryptBlock_12
def dkwX10_decryptBlock_10 : List UInt8 := [178, 0, 119, 21, 12, 16, 24, 122, 17, 0, 255, 126, 46, 16, 8, 184, 0, 7, 130, 25, 5, 21, 13, 50]
abbrev dktX10_decryptBlock_10 : List UInt8 := dkwX10_decryptBlock_10 ++ dktX10_decryptBlock_11
def dkwX10_decryptBlock_9 : List UInt8 := [184, 0, 7, 130, 178, 0, 119, 21, 17, 16, 16, 122, 17, 0, 255, 126, 46, 16, 16, 184, 0, 7, 130]
abbrev dktX10_decryptBlock_9 : List UInt8 := dkwX10_decryptBlock_9 ++ dktX10_decryptBlock_10
def dkwX10_decryptBlock_8 : List UInt8 := [21, 11, 17, 0, 255, 126, 46, 178, 0, 119, 21, 10, 16, 8, 122, 17, 0, 255, 126, 46, 16, 24]
abbrev dktX10_decryptBlock_8 : List UInt8 := dkwX10_decryptBlock_8 ++ dktX10_decryptBlock_9
def dkwX10_decryptBlock_7 : List UInt8 := [17, 0, 255, 126, 46, 16, 8, 184, 0, 7, 130, 25, 5, 21, 13, 50, 3, 46, 130, 54, 14, 178, 0, 119]
abbrev dktX10_decryptBlock_7 : List UInt8 := dkwX10_decryptBlock_7 ++ dktX10_decryptBlock_8
def dkwX10_decryptBlock_6 : List UInt8 := [21, 12, 16, 16, 122, 17, 0, 255, 126, 46, 16, 16, 184, 0, 7, 130, 178, 0, 119, 21, 11, 16, 24, 122]
abbrev dktX10_decryptBlock_6 : List UInt8 := dkwX10_decryptBlock_6 ++ dktX10_decryptBlock_7
def dkwX10_decryptBlock_5 : List UInt8 := [46, 178, 0, 119, 21, 17, 16, 8, 122, 17, 0, 255, 126, 46, 16, 24, 184, 0, 7, 130, 178, 0, 119]
abbrev dktX10_decryptBlock_5 : List UInt8 := dkwX10_decryptBlock_5 ++ dktX10_decryptBlock_6
def dkwX10_decryptBlock_4 : List UInt8 := [180, 0, 30, 50, 6, 46, 130, 54, 17, 21, 13, 4, 164, 2, 116, 178, 0, 119, 21, 10, 17, 0, 255, 126]
abbrev dktX10_decryptBlock_4 : List UInt8 := dkwX10_decryptBlock_4 ++ dktX10_decryptBlock_5
def dkwX10_decryptBlock_3 : List UInt8 := [180, 0, 30, 50, 5, 46, 130, 54, 12, 42, 180, 0, 30, 4, 100, 54, 13, 21, 9, 25, 5, 42]
abbrev dktX10_decryptBlock_3 : List UInt8 := dkwX10_decryptBlock_3 ++ dktX10_decryptBlock_4
def dkwX10_decryptBlock_2 : List UInt8 := [3, 46, 130, 54, 10, 21, 7, 25, 5, 42, 180, 0, 30, 50, 4, 46, 130, 54, 11, 21, 8, 25, 5, 42]
abbrev dktX10_decryptBlock_2 : List UInt8 := dkwX10_decryptBlock_2 ++ dktX10_decryptBlock_3
def dkwX10_decryptBlock_1 : List UInt8 := [184, 0, 36, 54, 8, 43, 28, 16, 12, 96, 184, 0, 36, 54, 9, 21, 6, 25, 5, 42, 180, 0, 30, 50]
abbrev dktX10_decryptBlock_1 : List UInt8 := dkwX10_decryptBlock_1 ++ dktX10_decryptBlock_2
def dkwX10_decryptBlock_0 : List UInt8 := [43, 28, 3, 96, 184, 0, 36, 54, 6, 43, 28, 7, 96, 184, 0, 36, 54, 7, 43, 28, 16, 8, 96]
abbrev dktX10_decryptBlock_0 : List UInt8 := dkwX10_decryptBlock_0 ++ dktX10_decryptBlock_1
theorem dksX10_decryptBlock_0 : cX10_decryptBlock.data.toList.drop 0 = dktX10_decryptBlock_0 := by decide +kernel
theorem dksX10_decryptBlock_1 : cX10_decryptBlock.data.toList.drop 23 = dktX10_decryptBlock_1 := dk_seg dksX10_decryptBlock_0 23 rfl rfl
theorem dksX10_decryptBlock_2 : cX10_decryptBlock.data.toList.drop 47 = dktX10_decryptBlock_2 := dk_seg dksX10_decryptBlock_1 24 rfl rfl
theorem dksX10_decryptBlock_3 : cX10_decryptBlock.data.toList.drop 71 = dktX10_decryptBlock_3 := dk_seg dksX10_decryptBlock_2 24 rfl rfl
theorem dksX10_decryptBlock_4 : cX10_decryptBlock.data.toList.drop 93 = dktX10_decryptBlock_4 := dk_seg dksX10_decryptBlock_3 22 rfl rfl
theorem dksX10_decryptBlock_5 : cX10_decryptBlock.data.toList.drop 117 = dktX10_decryptBlock_5 := dk_seg dksX10_decryptBlock_4 24 rfl rfl
theorem dksX10_decryptBlock_6 : cX10_decryptBlock.data.toList.drop 140 = dktX10_decryptBlock_6 := dk_seg dksX10_decryptBlock_5 23 rfl rfl
theorem dksX10_decryptBlock_7 : cX10_decryptBlock.data.toList.drop 164 = dktX10_decryptBlock_7 := dk_seg dksX10_decryptBlock_6 24 rfl rfl
theorem dksX10_decryptBlock_8 : cX10_decryptBlock.data.toList.drop 188 = dktX10_decryptBlock_8 := dk_seg dksX10_decryptBlock_7 24 rfl rfl
theorem dksX10_decryptBlock_9 : cX10_decryptBlock.data.toList.drop 210 = dktX10_decryptBlock_9 := dk_seg dksX10_decryptBlock_8 22 rfl rfl
theorem dksX10_decryptBlock_10 : cX10_decryptBlock.data.toList.drop 233 = dktX10_decryptBlock_10 := dk_seg dksX10_decryptBlock_9 23 rfl rfl
theorem dksX10_decryptBlock_11 : cX10_decryptBlock.data.toList.drop 257 = dktX10_decryptBlock_11 := dk_seg dksX10_decryptBlock_10 24 rfl rfl
theorem dksX10_decryptBlock_12 : cX10_decryptBlock.data.toList.drop 280 = dktX10_decryptBlock_12 := dk_seg dksX10_decryptBlock_11 23 rfl rfl
theorem dksX10_decryptBlock_13 : cX10_decryptBlock.data.toList.drop 304 = dktX10_decryptBlock_13 := dk_seg dksX10_decryptBlock_12 24 rfl rfl
theorem dksX10_decryptBlock_14 : cX10_decryptBlock.data.toList.drop 328 = dktX10_decryptBlock_14 := dk_seg dksX10_decryptBlock_13 24 rfl rfl
theorem dksX10_decryptBlock_15 : cX10_decryptBlock.data.toList.drop 352 = dktX10_decryptBlock_15 := dk_seg dksX10_decryptBlock_14 24 rfl rfl
theorem dksX10_decryptBlock_16 : cX10_decryptBlock.data.toList.drop 376 = dktX10_decryptBlock_16 := dk_seg dksX10_decryptBlock_15 24 rfl rfl
theorem dksX10_decryptBlock_17 : cX10_decryptBlock.data.toList.drop 400 = dktX10_decryptBlock_17 := dk_seg dksX10_decryptBlock_16 24 rfl rfl
theorem dksX10_decryptBlock_18 : cX10_decryptBlock.data.toList.drop 424 = dktX10_decryptBlock_18 := dk_seg dksX10_decryptBlock_17 24 rfl rfl
theorem dksX10_decryptBlock_19 : cX10_decryptBlock.data.toList.drop 448 = dktX10_decryptBlock_19 := dk_seg dksX10_decryptBlock_18 24 rfl rfl
theorem dksX10_decryptBlock_20 : cX10_decryptBlock.data.toList.drop 472 = dktX10_decryptBlock_20 := dk_seg dksX10_decryptBlock_19 24 rfl rfl
theorem dksX10_decryptBlock_21 : cX10_decryptBlock.data.toList.drop 496 = dktX10_decryptBlock_21 := dk_seg dksX10_decryptBlock_20 24 rfl rfl
theorem dksX10_decryptBlock_22 : cX10_decryptBlock.data.toList.drop 519 = dktX10_decryptBlock_22 := dk_seg dksX10_decryptBlock_21 23 rfl rfl
theorem dksX10_decryptBlock_23 : cX10_decryptBlock.data.toList.drop 543 = dktX10_decryptBlock_23 := dk_seg dksX10_decryptBlock_22 24 rfl rfl
theorem dksX10_decryptBlock_24 : cX10_decryptBlock.data.toList.drop 567 = dktX10_decryptBlock_24 := dk_seg dksX10_decryptBlock_23 24 rfl rfl
theorem dksX10_decryptBlock_25 : cX10_decryptBlock.data.toList.drop 591 = dktX10_decryptBlock_25 := dk_seg dksX10_decryptBlock_24 24 rfl rfl
theorem dksX10_decryptBlock_26 : cX10_decryptBlock.data.toList.drop 615 = dktX10_decryptBlock_26 := dk_seg dksX10_decryptBlock_25 24 rfl rfl
theorem dksX10_decryptBlock_27 : cX10_decryptBlock.data.toList.drop 639 = dktX10_decryptBlock_27 := dk_seg dksX10_decryptBlock_26 24 rfl rfl
theorem dksX10_decryptBlock_28 : cX10_decryptBlock.data.toList.drop 663 = dktX10_decryptBlock_28 := dk_seg dksX10_decryptBlock_27 24 rfl rfl
theorem dksX10_decryptBlock_29 : cX10_decryptBlock.data.toList.drop 687 = dktX10_decryptBlock_29 := dk_seg dksX10_decryptBlock_28 24 rfl rfl
theorem dksX10_decryptBlock_30 : cX10_decryptBlock.data.toList.drop 711 = dktX10_decryptBlock_30 := dk_seg dksX10_decryptBlock_29 24 rfl rfl
theorem dksX10_decryptBlock_31 : cX10_decryptBlock.data.toList.drop 733 = dktX10_decryptBlock_31 := dk_seg dksX10_decryptBlock_30 22 rfl rfl
theorem dksX10_decryptBlock_32 : cX10_decryptBlock.data.toList.drop 756 = dktX10_decryptBlock_32 := dk_seg dksX10_decryptBlock_31 23 rfl rfl
theorem dksX10_decryptBlock_33 : cX10_decryptBlock.data.toList.drop 780 = dktX10_decryptBlock_33 := dk_seg dksX10_decryptBlock_32 24 rfl rfl
theorem dksX10_decryptBlock_34 : cX10_decryptBlock.data.toList.drop 804 = dktX10_decryptBlock_34 := dk_seg dksX10_decryptBlock_33 24 rfl rfl
theorem dksX10_decryptBlock_35 : cX10_decryptBlock.data.toList.drop 828 = dktX10_decryptBlock_35 := dk_seg dksX10_decryptBlock_34 24 rfl rfl
theorem dksX10_decryptBlock_36 : cX10_decryptBlock.data.toList.drop 852 = dktX10_decryptBlock_36 := dk_seg dksX10_decryptBlock_35 24 rfl rfl
theorem dksX10_decryptBlock_37 : cX10_decryptBlock.data.toList.drop 876 = dktX10_decryptBlock_37 := dk_seg dksX10_decryptBlock_36 24 rfl rfl
theorem dksX10_decryptBlock_38 : cX10_decryptBlock.data.toList.drop 900 = dktX10_decryptBlock_38 := dk_seg dksX10_decryptBlock_37 24 rfl rfl
theorem dksX10_decryptBlock_39 : cX10_decryptBlock.data.toList.drop 924 = dktX10_decryptBlock_39 := dk_seg dksX10_decryptBlock_38 24 rfl rfl
theorem dksX10_decryptBlock_40 : cX10_decryptBlock.data.toList.drop 948 = dktX10_decryptBlock_40 := dk_seg dksX10_decryptBlock_39 24 rfl rfl
theorem dksX10_decryptBlock_41 : cX10_decryptBlock.data.toList.drop 972 = dktX10_decryptBlock_41 := dk_seg dksX10_decryptBlock_40 24 rfl rfl
theorem dksX10_decryptBlock_42 : cX10_decryptBlock.data.toList.drop 996 = dktX10_decryptBlock_42 := dk_seg dksX10_decryptBlock_41 24 rfl rfl
theorem dksX10_decryptBlock_43 : cX10_decryptBlock.data.toList.drop 1020 = dktX10_decryptBlock_43 := dk_seg dksX10_decryptBlock_42 24 rfl rfl
theorem dksX10_decryptBlock_44 : cX10_decryptBlock.data.toList.drop 1044 = dktX10_decryptBlock_44 := dk_seg dksX10_decryptBlock_43 24 rfl rfl
theorem dksX10_decryptBlock_45 : cX10_decryptBlock.data.toList.drop 1068 = dktX10_decryptBlock_45 := dk_seg dksX10_decryptBlock_44 24 rfl rfl
theorem dksX10_decryptBlock_46 : cX10_decryptBlock.data.toList.drop 1091 = dktX10_decryptBlock_46 := dk_seg dksX10_decryptBlock_45 23 rfl rfl
theorem dksX10_decryptBlock_47 : cX10_decryptBlock.data.toList.drop 1115 = dktX10_decryptBlock_47 := dk_seg dksX10_decryptBlock_46 24 rfl rfl
theorem dksX10_decryptBlock_48 : cX10_decryptBlock.data.toList.drop 1139 = dktX10_decryptBlock_48 := dk_seg dksX10_decryptBlock_47 24 rfl rfl
theorem dksX10_decryptBlock_49 : cX10_decryptBlock.data.toList.drop 1162 = dktX10_decryptBlock_49 := dk_seg dksX10_decryptBlock_48 23 rfl rfl
theorem dksX10_decryptBlock_50 : cX10_decryptBlock.data.toList.drop 1184 = dktX10_decryptBlock_50 := dk_seg dksX10_decryptBlock_49 22 rfl rfl
theorem dksX10_decryptBlock_51 : cX10_decryptBlock.data.toList.drop 1208 = dktX10_decryptBlock_51 := dk_seg dksX10_decryptBlock_50 24 rfl rfl
theorem dksX10_decryptBlock_52 : cX10_decryptBlock.data.toList.drop 1232 = dktX10_decryptBlock_52 := dk_seg dksX10_decryptBlock_51 24 rfl rfl
theorem dksX10_decryptBlock_53 : cX10_decryptBlock.data.toList.drop 1254 = dktX10_decryptBlock_53 := dk_seg dksX10_decryptBlock_52 22 rfl rfl
theorem dksX10_decryptBlock_54 : cX10_decryptBlock.data.toList.drop 1276 = dktX10_decryptBlock_54 := dk_seg dksX10_decryptBlock_53 22 rfl rfl
theorem dksX10_decryptBlock_55 : cX10_decryptBlock.data.toList.drop 1299 = dktX10_decryptBlock_55 := dk_seg dksX10_decryptBlock_54 23 rfl rfl
theorem dksX10_decryptBlock_56 : cX10_decryptBlock.data.toList.drop 1322 = dktX10_decryptBlock_56 := dk_seg dksX10_decryptBlock_55 23 rfl rfl
theorem dksX10_decryptBlock_57 : cX10_decryptBlock.data.toList.drop 1344 = dktX10_decryptBlock_57 := dk_seg dksX10_decryptBlock_56 22 rfl rfl
theorem dksX10_decryptBlock_58 : cX10_decryptBlock.data.toList.drop 1368 = dktX10_decryptBlock_58 := dk_seg dksX10_decryptBlock_57 24 rfl rfl
theorem dksX10_decryptBlock_59 : cX10_decryptBlock.data.toList.drop 1392 = dktX10_decryptBlock_59 := dk_seg dksX10_decryptBlock_58 24 rfl rfl
theorem dksX10_decryptBlock_60 : cX10_decryptBlock.data.toList.drop 1415 = dktX10_decryptBlock_60 := dk_seg dksX10_decryptBlock_59 23 rfl rfl
theorem dX10_decryptBlock_0 : decode cX10_decryptBlock 0 = .ok (.aload_n 1, 1) := dk_43 (dk_at dksX10_decryptBlock_0 0 rfl rfl)
theorem dX10_decryptBlock_1 : decode cX10_decryptBlock 1 = .ok (.iload_n 2, 1) := dk_28 (dk_at dksX10_decryptBlock_0 1 rfl rfl)
theorem dX10_decryptBlock_2 : decode cX10_decryptBlock 2 = .ok (.iconst 0, 1) := dk_3 (dk_at dksX10_decryptBlock_0 2 rfl rfl)
theorem dX10_decryptBlock_3 : decode cX10_decryptBlock 3 = .ok (.iadd, 1) := dk_96 (dk_at dksX10_decryptBlock_0 3 rfl rfl)
theorem dX10_decryptBlock_4 : decode cX10_decryptBlock 4 = .ok (.invokestatic 36, 3) := dk_184 0 36 (dk_at dksX10_decryptBlock_0 4 rfl rfl)
theorem dX10_decryptBlock_7 : decode cX10_decryptBlock 7 = .ok (.istore 6, 2) := dk_54 6 (dk_at dksX10_decryptBlock_0 7 rfl rfl)
theorem dX10_decryptBlock_9 : decode cX10_decryptBlock 9 = .ok (.aload_n 1, 1) := dk_43 (dk_at dksX10_decryptBlock_0 9 rfl rfl)
theorem dX10_decryptBlock_10 : decode cX10_decryptBlock 10 = .ok (.iload_n 2, 1) := dk_28 (dk_at dksX10_decryptBlock_0 10 rfl rfl)
theorem dX10_decryptBlock_11 : decode cX10_decryptBlock 11 = .ok (.iconst 4, 1) := dk_7 (dk_at dksX10_decryptBlock_0 11 rfl rfl)
theorem dX10_decryptBlock_12 : decode cX10_decryptBlock 12 = .ok (.iadd, 1) := dk_96 (dk_at dksX10_decryptBlock_0 12 rfl rfl)
theorem dX10_decryptBlock_13 : decode cX10_decryptBlock 13 = .ok (.invokestatic 36, 3) := dk_184 0 36 (dk_at dksX10_decryptBlock_0 13 rfl rfl)
theorem dX10_decryptBlock_16 : decode cX10_decryptBlock 16 = .ok (.istore 7, 2) := dk_54 7 (dk_at dksX10_decryptBlock_0 16 rfl rfl)
theorem dX10_decryptBlock_18 : decode cX10_decryptBlock 18 = .ok (.aload_n 1, 1) := dk_43 (dk_at dksX10_decryptBlock_0 18 rfl rfl)
theorem dX10_decryptBlock_19 : decode cX10_decryptBlock 19 = .ok (.iload_n 2, 1) := dk_28 (dk_at dksX10_decryptBlock_0 19 rfl rfl)
theorem dX10_decryptBlock_20 : decode cX10_decryptBlock 20 = .ok (.bipush 8, 2) := dk_16 8 (dk_at dksX10_decryptBlock_0 20 rfl rfl)
theorem dX10_decryptBlock_22 : decode cX10_decryptBlock 22 = .ok (.iadd, 1) := dk_96 (dk_at dksX10_decryptBlock_0 22 rfl rfl)
theorem dX10_decryptBlock_23 : decode cX10_decryptBlock 23 = .ok (.invokestatic 36, 3) := dk_184 0 36 (dk_at dksX10_decryptBlock_1 0 rfl rfl)
theorem dX10_decryptBlock_26 : decode cX10_decryptBlock 26 = .ok (.istore 8, 2) := dk_54 8 (dk_at dksX10_decryptBlock_1 3 rfl rfl)
theorem dX10_decryptBlock_28 : decode cX10_decryptBlock 28 = .ok (.aload_n 1, 1) := dk_43 (dk_at dksX10_decryptBlock_1 5 rfl rfl)
theorem dX10_decryptBlock_29 : decode cX10_decryptBlock 29 = .ok (.iload_n 2, 1) := dk_28 (dk_at dksX10_decryptBlock_1 6 rfl rfl)
theorem dX10_decryptBlock_30 : decode cX10_decryptBlock 30 = .ok (.bipush 12, 2) := dk_16 12 (dk_at dksX10_decryptBlock_1 7 rfl rfl)
theorem dX10_decryptBlock_32 : decode cX10_decryptBlock 32 = .ok (.iadd, 1) := dk_96 (dk_at dksX10_decryptBlock_1 9 rfl rfl)
theorem dX10_decryptBlock_33 : decode cX10_decryptBlock 33 = .ok (.invokestatic 36, 3) := dk_184 0 36 (dk_at dksX10_decryptBlock_1 10 rfl rfl)
theorem dX10_decryptBlock_36 : decode cX10_decryptBlock 36 = .ok (.istore 9, 2) := dk_54 9 (dk_at dksX10_decryptBlock_1 13 rfl rfl)
theorem dX10_decryptBlock_38 : decode cX10_decryptBlock 38 = .ok (.iload 6, 2) := dk_21 6 (dk_at dksX10_decryptBlock_1 15 rfl rfl)
theorem dX10_decryptBlock_40 : decode cX10_decryptBlock 40 = .ok (.aload 5, 2) := dk_25 5 (dk_at dksX10_decryptBlock_1 17 rfl rfl)
theorem dX10_decryptBlock_42 : decode cX10_decryptBlock 42 = .ok (.aload_n 0, 1) := dk_42 (dk_at dksX10_decryptBlock_1 19 rfl rfl)
theorem dX10_decryptBlock_43 : decode cX10_decryptBlock 43 = .ok (.getfield 30, 3) := dk_180 0 30 (dk_at dksX10_decryptBlock_1 20 rfl rfl)
theorem dX10_decryptBlock_46 : decode cX10_decryptBlock 46 = .ok (.aaload, 1) := dk_50 (dk_at dksX10_decryptBlock_1 23 rfl rfl)
theorem dX10_decryptBlock_47 : decode cX10_decryptBlock 47 = .ok (.iconst 0, 1) := dk_3 (dk_at dksX10_decryptBlock_2 0 rfl rfl)
theorem dX10_decryptBlock_48 : decode cX10_decryptBlock 48 = .ok (.iaload, 1) := dk_46 (dk_at dksX10_decryptBlock_2 1 rfl rfl)
theorem dX10_decryptBlock_49 : decode cX10_decryptBlock 49 = .ok (.ixor, 1) := dk_130 (dk_at dksX10_decryptBlock_2 2 rfl rfl)
theorem dX10_decryptBlock_50 : decode cX10_decryptBlock 50 = .ok (.istore 10, 2) := dk_54 10 (dk_at dksX10_decryptBlock_2 3 rfl rfl)
theorem dX10_decryptBlock_52 : decode cX10_decryptBlock 52 = .ok (.iload 7, 2) := dk_21 7 (dk_at dksX10_decryptBlock_2 5 rfl rfl)
theorem dX10_decryptBlock_54 : decode cX10_decryptBlock 54 = .ok (.aload 5, 2) := dk_25 5 (dk_at dksX10_decryptBlock_2 7 rfl rfl)
theorem dX10_decryptBlock_56 : decode cX10_decryptBlock 56 = .ok (.aload_n 0, 1) := dk_42 (dk_at dksX10_decryptBlock_2 9 rfl rfl)
theorem dX10_decryptBlock_57 : decode cX10_decryptBlock 57 = .ok (.getfield 30, 3) := dk_180 0 30 (dk_at dksX10_decryptBlock_2 10 rfl rfl)
theorem dX10_decryptBlock_60 : decode cX10_decryptBlock 60 = .ok (.aaload, 1) := dk_50 (dk_at dksX10_decryptBlock_2 13 rfl rfl)
theorem dX10_decryptBlock_61 : decode cX10_decryptBlock 61 = .ok (.iconst 1, 1) := dk_4 (dk_at dksX10_decryptBlock_2 14 rfl rfl)
theorem dX10_decryptBlock_62 : decode cX10_decryptBlock 62 = .ok (.iaload, 1) := dk_46 (dk_at dksX10_decryptBlock_2 15 rfl rfl)
theorem dX10_decryptBlock_63 : decode cX10_decryptBlock 63 = .ok (.ixor, 1) := dk_130 (dk_at dksX10_decryptBlock_2 16 rfl rfl)
theorem dX10_decryptBlock_64 : decode cX10_decryptBlock 64 = .ok (.istore 11, 2) := dk_54 11 (dk_at dksX10_decryptBlock_2 17 rfl rfl)
theorem dX10_decryptBlock_66 : decode cX10_decryptBlock 66 = .ok (.iload 8, 2) := dk_21 8 (dk_at dksX10_decryptBlock_2 19 rfl rfl)
theorem dX10_decryptBlock_68 : decode cX10_decryptBlock 68 = .ok (.aload 5, 2) := dk_25 5 (dk_at dksX10_decryptBlock_2 21 rfl rfl)
theorem dX10_decryptBlock_70 : decode cX10_decryptBlock 70 = .ok (.aload_n 0, 1) := dk_42 (dk_at dksX10_decryptBlock_2 23 rfl rfl)
theorem dX10_decryptBlock_71 : decode cX10_decryptBlock 71 = .ok (.getfield 30, 3) := dk_180 0 30 (dk_at dksX10_decryptBlock_3 0 rfl rfl)
theorem dX10_decryptBlock_74 : decode cX10_decryptBlock 74 = .ok (.aaload, 1) := dk_50 (dk_at dksX10_decryptBlock_3 3 rfl rfl)
theorem dX10_decryptBlock_75 : decode cX10_decryptBlock 75 = .ok (.iconst 2, 1) := dk_5 (dk_at dksX10_decryptBlock_3 4 rfl rfl)
theorem dX10_decryptBlock_76 : decode cX10_decryptBlock 76 = .ok (.iaload, 1) := dk_46 (dk_at dksX10_decryptBlock_3 5 rfl rfl)
theorem dX10_decryptBlock_77 : decode cX10_decryptBlock 77 = .ok (.ixor, 1) := dk_130 (dk_at dksX10_decryptBlock_3 6 rfl rfl)
theorem dX10_decryptBlock_78 : decode cX10_decryptBlock 78 = .ok (.istore 12, 2) := dk_54 12 (dk_at dksX10_decryptBlock_3 7 rfl rfl)
theorem dX10_decryptBlock_80 : decode cX10_decryptBlock 80 = .ok (.aload_n 0, 1) := dk_42 (dk_at dksX10_decryptBlock_3 9 rfl rfl)
theorem dX10_decryptBlock_81 : decode cX10_decryptBlock 81 = .ok (.getfield 30, 3) := dk_180 0 30 (dk_at dksX10_decryptBlock_3 10 rfl rfl)
theorem dX10_decryptBlock_84 : decode cX10_decryptBlock 84 = .ok (.iconst 1, 1) := dk_4 (dk_at dksX10_decryptBlock_3 13 rfl rfl)
theorem dX10_decryptBlock_85 : decode cX10_decryptBlock 85 = .ok (.isub, 1) := dk_100 (dk_at dksX10_decryptBlock_3 14 rfl rfl)
theorem dX10_decryptBlock_86 : decode cX10_decryptBlock 86 = .ok (.istore 13, 2) := dk_54 13 (dk_at dksX10_decryptBlock_3 15 rfl rfl)
theorem dX10_decryptBlock_88 : decode cX10_decryptBlock 88 = .ok (.iload 9, 2) := dk_21 9 (dk_at dksX10_decryptBlock_3 17 rfl rfl)
theorem dX10_decryptBlock_90 : decode cX10_decryptBlock 90 = .ok (.aload 5, 2) := dk_25 5 (dk_at dksX10_decryptBlock_3 19 rfl rfl)
theorem dX10_decryptBlock_92 : decode cX10_decryptBlock 92 = .ok (.aload_n 0, 1) := dk_42 (dk_at dksX10_decryptBlock_3 21 rfl rfl)
theorem dX10_decryptBlock_93 : decode cX10_decryptBlock 93 = .ok (.getfield 30, 3) := dk_180 0 30 (dk_at dksX10_decryptBlock_4 0 rfl rfl)
theorem dX10_decryptBlock_96 : decode cX10_decryptBlock 96 = .ok (.aaload, 1) := dk_50 (dk_at dksX10_decryptBlock_4 3 rfl rfl)
theorem dX10_decryptBlock_97 : decode cX10_decryptBlock 97 = .ok (.iconst 3, 1) := dk_6 (dk_at dksX10_decryptBlock_4 4 rfl rfl)
theorem dX10_decryptBlock_98 : decode cX10_decryptBlock 98 = .ok (.iaload, 1) := dk_46 (dk_at dksX10_decryptBlock_4 5 rfl rfl)
theorem dX10_decryptBlock_99 : decode cX10_decryptBlock 99 = .ok (.ixor, 1) := dk_130 (dk_at dksX10_decryptBlock_4 6 rfl rfl)
theorem dX10_decryptBlock_100 : decode cX10_decryptBlock 100 = .ok (.istore 17, 2) := dk_54 17 (dk_at dksX10_decryptBlock_4 7 rfl rfl)
theorem dX10_decryptBlock_102 : decode cX10_decryptBlock 102 = .ok (.iload 13, 2) := dk_21 13 (dk_at dksX10_decryptBlock_4 9 rfl rfl)
theorem dX10_decryptBlock_104 : decode cX10_decryptBlock 104 = .ok (.iconst 1, 1) := dk_4 (dk_at dksX10_decryptBlock_4 11 rfl rfl)
theorem dX10_decryptBlock_105 : decode cX10_decryptBlock 105 = .ok (.if_icmp .le 628, 3) := dk_164 2 116 (dk_at dksX10_decryptBlock_4 12 rfl rfl)
theorem dX10_decryptBlock_108 : decode cX10_decryptBlock 108 = .ok (.getstatic 119, 3) := dk_178 0 119 (dk_at dksX10_decryptBlock_4 15 rfl rfl)
theorem dX10_decryptBlock_111 : decode cX10_decryptBlock 111 = .ok (.iload 10, 2) := dk_21 10 (dk_at dksX10_decryptBlock_4 18 rfl rfl)
theorem dX10_decryptBlock_113 : decode cX10_decryptBlock 113 = .ok (.sipush 255, 3) := dk_17 0 255 (dk_at dksX10_decryptBlock_4 20 rfl rfl)
theorem dX10_decryptBlock_116 : decode cX10_decryptBlock 116 = .ok (.iand, 1) := dk_126 (dk_at dksX10_decryptBlock_4 23 rfl rfl)
theorem dX10_decryptBlock_117 : decode cX10_decryptBlock 117 = .ok (.iaload, 1) := dk_46 (dk_at dksX10_decryptBlock_5 0 rfl rfl)
theorem dX10_decryptBlock_118 : decode cX10_decryptBlock 118 = .ok (.getstatic 119, 3) := dk_178 0 119 (dk_at dksX10_decryptBlock_5 1 rfl rfl)
theorem dX10_decryptBlock_121 : decode cX10_decryptBlock 121 = .ok (.iload 17, 2) := dk_21 17 (dk_at dksX10_decryptBlock_5 4 rfl rfl)
theorem dX10_decryptBlock_123 : decode cX10_decryptBlock 123 = .ok (.bipush 8, 2) := dk_16 8 (dk_at dksX10_decryptBlock_5 6 rfl rfl)
theorem dX10_decryptBlock_125 : decode cX10_decryptBlock 125 = .ok (.ishr, 1) := dk_122 (dk_at dksX10_decryptBlock_5 8 rfl rfl)
theorem dX10_decryptBlock_126 : decode cX10_decryptBlock 126 = .ok (.sipush 255, 3) := dk_17 0 255 (dk_at dksX10_decryptBlock_5 9 rfl rfl)
theorem dX10_decryptBlock_129 : decode cX10_decryptBlock 129 = .ok (.iand, 1) := dk_126 (dk_at dksX10_decryptBlock_5 12 rfl rfl)
theorem dX10_decryptBlock_130 : decode cX10_decryptBlock 130 = .ok (.iaload, 1) := dk_46 (dk_at dksX10_decryptBlock_5 13 rfl rfl)
theorem dX10_decryptBlock_131 : decode cX10_decryptBlock 131 = .ok (.bipush 24, 2) := dk_16 24 (dk_at dksX10_decryptBlock_5 14 rfl rfl)
theorem dX10_decryptBlock_133 : decode cX10_decryptBlock 133 = .ok (.invokestatic 7, 3) := dk_184 0 7 (dk_at dksX10_decryptBlock_5 16 rfl rfl)
theorem dX10_decryptBlock_136 : decode cX10_decryptBlock 136 = .ok (.ixor, 1) := dk_130 (dk_at dksX10_decryptBlock_5 19 rfl rfl)
theorem dX10_decryptBlock_137 : decode cX10_decryptBlock 137 = .ok (.getstatic 119, 3) := dk_178 0 119 (dk_at dksX10_decryptBlock_5 20 rfl rfl)
theorem dX10_decryptBlock_140 : decode cX10_decryptBlock 140 = .ok (.iload 12, 2) := dk_21 12 (dk_at dksX10_decryptBlock_6 0 rfl rfl)
theorem dX10_decryptBlock_142 : decode cX10_decryptBlock 142 = .ok (.bipush 16, 2) := dk_16 16 (dk_at dksX10_decryptBlock_6 2 rfl rfl)
theorem dX10_decryptBlock_144 : decode cX10_decryptBlock 144 = .ok (.ishr, 1) := dk_122 (dk_at dksX10_decryptBlock_6 4 rfl rfl)
theorem dX10_decryptBlock_145 : decode cX10_decryptBlock 145 = .ok (.sipush 255, 3) := dk_17 0 255 (dk_at dksX10_decryptBlock_6 5 rfl rfl)
theorem dX10_decryptBlock_148 : decode cX10_decryptBlock 148 = .ok (.iand, 1) := dk_126 (dk_at dksX10_decryptBlock_6 8 rfl rfl)
theorem dX10_decryptBlock_149 : decode cX10_decryptBlock 149 = .ok (.iaload, 1) := dk_46 (dk_at dksX10_decryptBlock_6 9 rfl rfl)
theorem dX10_decryptBlock_150 : decode cX10_decryptBlock 150 = .ok (.bipush 16, 2) := dk_16 16 (dk_at dksX10_decryptBlock_6 10 rfl rfl)
theorem dX10_decryptBlock_152 : decode cX10_decryptBlock 152 = .ok (.invokestatic 7, 3) := dk_184 0 7 (dk_at dksX10_decryptBlock_6 12 rfl rfl)
theorem dX10_decryptBlock_155 : decode cX10_decryptBlock 155 = .ok (.ixor, 1) := dk_130 (dk_at dksX10_decryptBlock_6 15 rfl rfl)
theorem dX10_decryptBlock_156 : decode cX10_decryptBlock 156 = .ok (.getstatic 119, 3) := dk_178 0 119 (dk_at dksX10_decryptBlock_6 16 rfl rfl)
theorem dX10_decryptBlock_159 : decode cX10_decryptBlock 159 = .ok (.iload 11, 2) := dk_21 11 (dk_at dksX10_decryptBlock_6 19 rfl rfl)
theorem dX10_decryptBlock_161 : decode cX10_decryptBlock 161 = .ok (.bipush 24, 2) := dk_16 24 (dk_at dksX10_decryptBlock_6 21 rfl rfl)
theorem dX10_decryptBlock_163 : decode cX10_decryptBlock 163 = .ok (.ishr, 1) := dk_122 (dk_at dksX10_decryptBlock_6 23 rfl rfl)
theorem dX10_decryptBlock_164 : decode cX10_decryptBlock 164 = .ok (.sipush 255, 3) := dk_17 0 255 (dk_at dksX10_decryptBlock_7 0 rfl rfl)
theorem dX10_decryptBlock_167 : decode cX10_decryptBlock 167 = .ok (.iand, 1) := dk_126 (dk_at dksX10_decryptBlock_7 3 rfl rfl)
theorem dX10_decryptBlock_168 : decode cX10_decryptBlock 168 = .ok (.iaload, 1) := dk_46 (dk_at dksX10_decryptBlock_7 4 rfl rfl)
theorem dX10_decryptBlock_169 : decode cX10_decryptBlock 169 = .ok (.bipush 8, 2) := dk_16 8 (dk_at dksX10_decryptBlock_7 5 rfl rfl)
theorem dX10_decryptBlock_171 : decode cX10_decryptBlock 171 = .ok (.invokestatic 7, 3) := dk_184 0 7 (dk_at dksX10_decryptBlock_7 7 rfl rfl)
theorem dX10_decryptBlock_174 : decode cX10_decryptBlock 174 = .ok (.ixor, 1) := dk_130 (dk_at dksX10_decryptBlock_7 10 rfl rfl)
theorem dX10_decryptBlock_175 : decode cX10_decryptBlock 175 = .ok (.aload 5, 2) := dk_25 5 (dk_at dksX10_decryptBlock_7 11 rfl rfl)
theorem dX10_decryptBlock_177 : decode cX10_decryptBlock 177 = .ok (.iload 13, 2) := dk_21 13 (dk_at dksX10_decryptBlock_7 13 rfl rfl)
theorem dX10_decryptBlock_179 : decode cX10_decryptBlock 179 = .ok (.aaload, 1) := dk_50 (dk_at dksX10_decryptBlock_7 15 rfl rfl)
theorem dX10_decryptBlock_180 : decode cX10_decryptBlock 180 = .ok (.iconst 0, 1) := dk_3 (dk_at dksX10_decryptBlock_7 16 rfl rfl)
theorem dX10_decryptBlock_181 : decode cX10_decryptBlock 181 = .ok (.iaload, 1) := dk_46 (dk_at dksX10_decryptBlock_7 17 rfl rfl)
theorem dX10_decryptBlock_182 : decode cX10_decryptBlock 182 = .ok (.ixor, 1) := dk_130 (dk_at dksX10_decryptBlock_7 18 rfl rfl)
theorem dX10_decryptBlock_183 : decode cX10_decryptBlock 183 = .ok (.istore 14, 2) := dk_54 14 (dk_at dksX10_decryptBlock_7 19 rfl rfl)
theorem dX10_decryptBlock_185 : decode cX10_decryptBlock 185 = .ok (.getstatic 119, 3) := dk_178 0 119 (dk_at dksX10_decryptBlock_7 21 rfl rfl)
theorem dX10_decryptBlock_188 : decode cX10_decryptBlock 188 = .ok (.iload 11, 2) := dk_21 11 (dk_at dksX10_decryptBlock_8 0 rfl rfl)
theorem dX10_decryptBlock_190 : decode cX10_decryptBlock 190 = .ok (.sipush 255, 3) := dk_17 0 255 (dk_at dksX10_decryptBlock_8 2 rfl rfl)
theorem dX10_decryptBlock_193 : decode cX10_decryptBlock 193 = .ok (.iand, 1) := dk_126 (dk_at dksX10_decryptBlock_8 5 rfl rfl)
theorem dX10_decryptBlock_194 : decode cX10_decryptBlock 194 = .ok (.iaload, 1) := dk_46 (dk_at dksX10_decryptBlock_8 6 rfl rfl)
theorem dX10_decryptBlock_195 : decode cX10_decryptBlock 195 = .ok (.getstatic 119, 3) := dk_178 0 119 (dk_at dksX10_decryptBlock_8 7 rfl rfl)
theorem dX10_decryptBlock_198 : decode cX10_decryptBlock 198 = .ok (.iload 10, 2) := dk_21 10 (dk_at dksX10_decryptBlock_8 10 rfl rfl)
theorem dX10_decryptBlock_200 : decode cX10_decryptBlock 200 = .ok (.bipush 8, 2) := dk_16 8 (dk_at dksX10_decryptBlock_8 12 rfl rfl)
theorem dX10_decryptBlock_202 : decode cX10_decryptBlock 202 = .ok (.ishr, 1) := dk_122 (dk_at dksX10_decryptBlock_8 14 rfl rfl)
theorem dX10_decryptBlock_203 : decode cX10_decryptBlock 203 = .ok (.sipush 255, 3) := dk_17 0 255 (dk_at dksX10_decryptBlock_8 15 rfl rfl)
theorem dX10_decryptBlock_206 : decode cX10_decryptBlock 206 = .ok (.iand, 1) := dk_126 (dk_at dksX10_decryptBlock_8 18 rfl rfl)
theorem dX10_decryptBlock_207 : decode cX10_decryptBlock 207 = .ok (.iaload, 1) := dk_46 (dk_at dksX10_decryptBlock_8 19 rfl rfl)
theorem dX10_decryptBlock_208 : decode cX10_decryptBlock 208 = .ok (.bipush 24, 2) := dk_16 24 (dk_at dksX10_decryptBlock_8 20 rfl rfl)
theorem dX10_decryptBlock_210 : decode cX10_decryptBlock 210 = .ok (.invokestatic 7, 3) := dk_184 0 7 (dk_at dksX10_decryptBlock_9 0 rfl rfl)
theorem dX10_decryptBlock_213 : decode cX10_decryptBlock 213 = .ok (.ixor, 1) := dk_130 (dk_at dksX10_decryptBlock_9 3 rfl rfl)
theorem dX10_decryptBlock_214 : decode cX10_decryptBlock 214 = .ok (.getstatic 119, 3) := dk_178 0 119 (dk_at dksX10_decryptBlock_9 4 rfl rfl)
theorem dX10_decryptBlock_217 : decode cX10_decryptBlock 217 = .ok (.iload 17, 2) := dk_21 17 (dk_at dksX10_decryptBlock_9 7 rfl rfl)
theorem dX10_decryptBlock_219 : decode cX10_decryptBlock 219 = .ok (.bipush 16, 2) := dk_16 16 (dk_at dksX10_decryptBlock_9 9 rfl rfl)
theorem dX10_decryptBlock_221 : decode cX10_decryptBlock 221 = .ok (.ishr, 1) := dk_122 (dk_at dksX10_decryptBlock_9 11 rfl rfl)
theorem dX10_decryptBlock_222 : decode cX10_decryptBlock 222 = .ok (.sipush 255, 3) := dk_17 0 255 (dk_at dksX10_decryptBlock_9 12 rfl rfl)
theorem dX10_decryptBlock_225 : decode cX10_decryptBlock 225 = .ok (.iand, 1) := dk_126 (dk_at dksX10_decryptBlock_9 15 rfl rfl)
theorem dX10_decryptBlock_226 : decode cX10_decryptBlock 226 = .ok (.iaload, 1) := dk_46 (dk_at dksX10_decryptBlock_9 16 rfl rfl)
theorem dX10_decryptBlock_227 : decode cX10_decryptBlock 227 = .ok (.bipush 16, 2) := dk_16 16 (dk_at dksX10_decryptBlock_9 17 rfl rfl)
theorem dX10_decryptBlock_229 : decode cX10_decryptBlock 229 = .ok (.invokestatic 7, 3) := dk_184 0 7 (dk_at dksX10_decryptBlock_9 19 rfl rfl)
theorem dX10_decryptBlock_232 : decode cX10_decryptBlock 232 = .ok (.ixor, 1) := dk_130 (dk_at dksX10_decryptBlock_9 22 rfl rfl)
theorem dX10_decryptBlock_233 : decode cX10_decryptBlock 233 = .ok (.getstatic 119, 3) := dk_178 0 119 (dk_at dksX10_decryptBlock_10 0 rfl rfl)
theorem dX10_decryptBlock_236 : decode cX10_decryptBlock 236 = .ok (.iload 12, 2) := dk_21 12 (dk_at dksX10_decryptBlock_10 3 rfl rfl)
theorem dX10_decryptBlock_238 : decode cX10_decryptBlock 238 = .ok (.bipush 24, 2) := dk_16 24 (dk_at dksX10_decryptBlock_10 5 rfl rfl)
theorem dX10_decryptBlock_240 : decode cX10_decryptBlock 240 = .ok (.ishr, 1) := dk_122 (dk_at dksX10_decryptBlock_10 7 rfl rfl)
theorem dX10_decryptBlock_241 : decode cX10_decryptBlock 241 = .ok (.sipush 255, 3) := dk_17 0 255 (dk_at dksX10_decryptBlock_10 8 rfl rfl)
theorem dX10_decryptBlock_244 : decode cX10_decryptBlock 244 = .ok (.iand, 1) := dk_126 (dk_at dksX10_decryptBlock_10 11 rfl rfl)
theorem dX10_decryptBlock_245 : decode cX10_decryptBlock 245 = .ok (.iaload, 1) := dk_46 (dk_at dksX10_decryptBlock_10 12 rfl rfl)
theorem dX10_decryptBlock_246 : decode cX10_decryptBlock 246 = .ok (.bipush 8, 2) := dk_16 8 (dk_at dksX10_decryptBlock_10 13 rfl rfl)
theorem dX10_decryptBlock_248 : decode cX10_decryptBlock 248 = .ok (.invokestatic 7, 3) := dk_184 0 7 (dk_at dksX10_decryptBlock_10 15 rfl rfl)
theorem dX10_decryptBlock_251 : decode cX10_decryptBlock 251 = .ok (.ixor, 1) := dk_130 (dk_at dksX10_decryptBlock_10 18 rfl rfl)
theorem dX10_decryptBlock_252 : decode cX10_decryptBlock 252 = .ok (.aload 5, 2) := dk_25 5 (dk_at dksX10_decryptBlock_10 19 rfl rfl)
theorem dX10_decryptBlock_254 : decode cX10_decryptBlock 254 = .ok (.iload 13, 2) := dk_21 13 (dk_at dksX10_decryptBlock_10 21 rfl rfl)
theorem dX10_decryptBlock_256 : decode cX10_decryptBlock 256 = .ok (.aaload, 1) := dk_50 (dk_at dksX10_decryptBlock_10 23 rfl rfl)
theorem dX10_decryptBlock_257 : decode cX10_decryptBlock 257 = .ok (.iconst 1, 1) := dk_4 (dk_at dksX10_decryptBlock_11 0 rfl rfl)
theorem dX10_decryptBlock_258 : decode cX10_decryptBlock 258 = .ok (.iaload, 1) := dk_46 (dk_at dksX10_decryptBlock_11 1 rfl rfl)
theorem dX10_decryptBlock_259 : decode cX10_decryptBlock 259 = .ok (.ixor, 1) := dk_130 (dk_at dksX10_decryptBlock_11 2 rfl rfl)
theorem dX10_decryptBlock_260 : decode cX10_decryptBlock 260 = .ok (.istore 15, 2) := dk_54 15 (dk_at dksX10_decryptBlock_11 3 rfl rfl)
theorem dX10_decryptBlock_262 : decode cX10_decryptBlock 262 = .ok (.getstatic 119, 3) := dk_178 0 119 (dk_at dksX10_decryptBlock_11 5 rfl rfl)
theorem dX10_decryptBlock_265 : decode cX10_decryptBlock 265 = .ok (.iload 12, 2) := dk_21 12 (dk_at dksX10_decryptBlock_11 8 rfl rfl)
theorem dX10_decryptBlock_267 : decode cX10_decryptBlock 267 = .ok (.sipush 255, 3) := dk_17 0 255 (dk_at dksX10_decryptBlock_11 10 rfl rfl)
theorem dX10_decryptBlock_270 : decode cX10_decryptBlock 270 = .ok (.iand, 1) := dk_126 (dk_at dksX10_decryptBlock_11 13 rfl rfl)
theorem dX10_decryptBlock_271 : decode cX10_decryptBlock 271 = .ok (.iaload, 1) := dk_46 (dk_at dksX10_decryptBlock_11 14 rfl rfl)
theorem dX10_decryptBlock_272 : decode cX10_decryptBlock 272 = .ok (.getstatic 119, 3) := dk_178 0 119 (dk_at dksX10_decryptBlock_11 15 rfl rfl)
theorem dX10_decryptBlock_275 : decode cX10_decryptBlock 275 = .ok (.iload 11, 2) := dk_21 11 (dk_at dksX10_decryptBlock_11 18 rfl rfl)
theorem dX10_decryptBlock_277 : decode cX10_decryptBlock 277 = .ok (.bipush 8, 2) := dk_16 8 (dk_at dksX10_decryptBlock_11 20 rfl rfl)
theorem dX10_decryptBlock_279 : decode cX10_decryptBlock 279 = .ok (.ishr, 1) := dk_122 (dk_at dksX10_decryptBlock_11 22 rfl rfl)
theorem dX10_decryptBlock_280 : decode cX10_decryptBlock 280 = .ok (.sipush 255, 3) := dk_17 0 255 (dk_at dksX10_decryptBlock_12 0 rfl rfl)
theorem dX10_decryptBlock_283 : decode cX10_decryptBlock 283 = .ok (.iand, 1) := dk_126 (dk_at dksX10_decryptBlock_12 3 rfl rfl)
theorem dX10_decryptBlock_284 : decode cX10_decryptBlock 284 = .ok (.iaload, 1) := dk_46 (dk_at dksX10_decryptBlock_12 4 rfl rfl)
theorem dX10_decryptBlock_285 : decode cX10_decryptBlock 285 = .ok (.bipush 24, 2) := dk_16 24 (dk_at dksX10_decryptBlock_12 5 rfl rfl)
theorem dX10_decryptBlock_287 : decode cX10_decryptBlock 287 = .ok (.invokestatic 7, 3) := dk_184 0 7 (dk_at dksX10_decryptBlock_12 7 rfl rfl)
theorem dX10_decryptBlock_290 : decode cX10_decryptBlock 290 = .ok (.ixor, 1) := dk_130 (dk_at dksX10_decryptBlock_12 10 rfl rfl)
theorem dX10_decryptBlock_291 : decode cX10_decryptBlock 291 = .ok (.getstatic 119, 3) := dk_178 0 119 (dk_at dksX10_decryptBlock_12 11 rfl rfl)
theorem dX10_decryptBlock_294 : decode cX10_decryptBlock 294 = .ok (.iload 10, 2) := dk_21 10 (dk_at dksX10_decryptBlock_12 14 rfl rfl)
theorem dX10_decryptBlock_296 : decode cX10_decryptBlock 296 = .ok (.bipush 16, 2) := dk_16 16 (dk_at dksX10_decryptBlock_12 16 rfl rfl)
theorem dX10_decryptBlock_298 : decode cX10_decryptBlock 298 = .ok (.ishr, 1) := dk_122 (dk_at dksX10_decryptBlock_12 18 rfl rfl)
theorem dX10_decryptBlock_299 : decode cX10_decryptBlock 299 = .ok (.sipush 255, 3) := dk_17 0 255 (dk_at dksX10_decryptBlock_12 19 rfl rfl)
theorem dX10_decryptBlock_302 : decode cX10_decryptBlock 302 = .ok (.iand, 1) := dk_126 (dk_at dksX10_decryptBlock_12 22 rfl rfl)
theorem dX10_decryptBlock_303 : decode cX10_decryptBlock 303 = .ok (.iaload, 1) := dk_46 (dk_at dksX10_decryptBlock_12 23 rfl rfl)
theorem dX10_decryptBlock_304 : decode cX10_decryptBlock 304 = .ok (.bipush 16, 2) := dk_16 16 (dk_at dksX10_decryptBlock_13 0 rfl rfl)
theorem dX10_decryptBlock_306 : decode cX10_decryptBlock 306 = .ok (.invokestatic 7, 3) := dk_184 0 7 (dk_at dksX10_decryptBlock_13 2 rfl rfl)
theorem dX10_decryptBlock_309 : decode cX10_decryptBlock 309 = .ok (.ixor, 1) := dk_130 (dk_at dksX10_decryptBlock_13 5 rfl rfl)
theorem dX10_decryptBlock_310 : decode cX10_decryptBlock 310 = .ok (.getstatic 119, 3) := dk_178 0 119 (dk_at dksX10_decryptBlock_13 6 rfl rfl)
theorem dX10_decryptBlock_313 : decode cX10_decryptBlock 313 = .ok (.iload 17, 2) := dk_21 17 (dk_at dksX10_decryptBlock_13 9 rfl rfl)
theorem dX10_decryptBlock_315 : decode cX10_decryptBlock 315 = .ok (.bipush 24, 2) := dk_16 24 (dk_at dksX10_decryptBlock_13 11 rfl rfl)
theorem dX10_decryptBlock_317 : decode cX10_decryptBlock 317 = .ok (.ishr, 1) := dk_122 (dk_at dksX10_decryptBlock_13 13 rfl rfl)
theorem dX10_decryptBlock_318 : decode cX10_decryptBlock 318 = .ok (.sipush 255, 3) := dk_17 0 255 (dk_at dksX10_decryptBlock_13 14 rfl rfl)
theorem dX10_decryptBlock_321 : decode cX10_decryptBlock 321 = .ok (.iand, 1) := dk_126 (dk_at dksX10_decryptBlock_13 17 rfl rfl)
theorem dX10_decryptBlock_322 : decode cX10_decryptBlock 322 = .ok (.iaload, 1) := dk_46 (dk_at dksX10_decryptBlock_13 18 rfl rfl)
theorem dX10_decryptBlock_323 : decode cX10_decryptBlock 323 = .ok (.bipush 8, 2) := dk_16 8 (dk_at dksX10_decryptBlock_13 19 rfl rfl)
theorem dX10_decryptBlock_325 : decode cX10_decryptBlock 325 = .ok (.invokestatic 7, 3) := dk_184 0 7 (dk_at dksX10_decryptBlock_13 21 rfl rfl)
theorem dX10_decryptBlock_328 : decode cX10_decryptBlock 328 = .ok (.ixor, 1) := dk_130 (dk_at dksX10_decryptBlock_14 0 rfl rfl)
theorem dX10_decryptBlock_329 : decode cX10_decryptBlock 329 = .ok (.aload 5, 2) := dk_25 5 (dk_at dksX10_decryptBlock_14 1 rfl rfl)
theorem dX10_decryptBlock_331 : decode cX10_decryptBlock 331 = .ok (.iload 13, 2) := dk_21 13 (dk_at dksX10_decryptBlock_14 3 rfl rfl)
theorem dX10_decryptBlock_333 : decode cX10_decryptBlock 333 = .ok (.aaload, 1) := dk_50 (dk_at dksX10_decryptBlock_14 5 rfl rfl)
theorem dX10_decryptBlock_334 : decode cX10_decryptBlock 334 = .ok (.iconst 2, 1) := dk_5 (dk_at dksX10_decryptBlock_14 6 rfl rfl)
theorem dX10_decryptBlock_335 : decode cX10_decryptBlock 335 = .ok (.iaload, 1) := dk_46 (dk_at dksX10_decryptBlock_14 7 rfl rfl)
theorem dX10_decryptBlock_336 : decode cX10_decryptBlock 336 = .ok (.ixor, 1) := dk_130 (dk_at dksX10_decryptBlock_14 8 rfl rfl)
theorem dX10_decryptBlock_337 : decode cX10_decryptBlock 337 = .ok (.istore 16, 2) := dk_54 16 (dk_at dksX10_decryptBlock_14 9 rfl rfl)
theorem dX10_decryptBlock_339 : decode cX10_decryptBlock 339 = .ok (.getstatic 119, 3) := dk_178 0 119 (dk_at dksX10_decryptBlock_14 11 rfl rfl)
theorem dX10_decryptBlock_342 : decode cX10_decryptBlock 342 = .ok (.iload 17, 2) := dk_21 17 (dk_at dksX10_decryptBlock_14 14 rfl rfl)
theorem dX10_decryptBlock_344 : decode cX10_decryptBlock 344 = .ok (.sipush 255, 3) := dk_17 0 255 (dk_at dksX10_decryptBlock_14 16 rfl rfl)
theorem dX10_decryptBlock_347 : decode cX10_decryptBlock 347 = .ok (.iand, 1) := dk_126 (dk_at dksX10_decryptBlock_14 19 rfl rfl)
theorem dX10_decryptBlock_348 : decode cX10_decryptBlock 348 = .ok (.iaload, 1) := dk_46 (dk_at dksX10_decryptBlock_14 20 rfl rfl)
theorem dX10_decryptBlock_349 : decode cX10_decryptBlock 349 = .ok (.getstatic 119, 3) := dk_178 0 119 (dk_at dksX10_decryptBlock_14 21 rfl rfl)
theorem dX10_decryptBlock_352 : decode cX10_decryptBlock 352 = .ok (.iload 12, 2) := dk_21 12 (dk_at dksX10_decryptBlock_15 0 rfl rfl)
theorem dX10_decryptBlock_354 : decode cX10_decryptBlock 354 = .ok (.bipush 8, 2) := dk_16 8 (dk_at dksX10_decryptBlock_15 2 rfl rfl)
theorem dX10_decryptBlock_356 : decode cX10_decryptBlock 356 = .ok (.ishr, 1) := dk_122 (dk_at dksX10_decryptBlock_15 4 rfl rfl)
theorem dX10_decryptBlock_357 : decode cX10_decryptBlock 357 = .ok (.sipush 255, 3) := dk_17 0 255 (dk_at dksX10_decryptBlock_15 5 rfl rfl)
theorem dX10_decryptBlock_360 : decode cX10_decryptBlock 360 = .ok (.iand, 1) := dk_126 (dk_at dksX10_decryptBlock_15 8 rfl rfl)
theorem dX10_decryptBlock_361 : decode cX10_decryptBlock 361 = .ok (.iaload, 1) := dk_46 (dk_at dksX10_decryptBlock_15 9 rfl rfl)
theorem dX10_decryptBlock_362 : decode cX10_decryptBlock 362 = .ok (.bipush 24, 2) := dk_16 24 (dk_at dksX10_decryptBlock_15 10 rfl rfl)
theorem dX10_decryptBlock_364 : decode cX10_decryptBlock 364 = .ok (.invokestatic 7, 3) := dk_184 0 7 (dk_at dksX10_decryptBlock_15 12 rfl rfl)
theorem dX10_decryptBlock_367 : decode cX10_decryptBlock 367 = .ok (.ixor, 1) := dk_130 (dk_at dksX10_decryptBlock_15 15 rfl rfl)
theorem dX10_decryptBlock_368 : decode cX10_decryptBlock 368 = .ok (.getstatic 119, 3) := dk_178 0 119 (dk_at dksX10_decryptBlock_15 16 rfl rfl)
theorem dX10_decryptBlock_371 : decode cX10_decryptBlock 371 = .ok (.iload 11, 2) := dk_21 11 (dk_at dksX10_decryptBlock_15 19 rfl rfl)
theorem dX10_decryptBlock_373 : decode cX10_decryptBlock 373 = .ok (.bipush 16, 2) := dk_16 16 (dk_at dksX10_decryptBlock_15 21 rfl rfl)
theorem dX10_decryptBlock_375 : decode cX10_decryptBlock 375 = .ok (.ishr, 1) := dk_122 (dk_at dksX10_decryptBlock_15 23 rfl rfl)
theorem dX10_decryptBlock_376 : decode cX10_decryptBlock 376 = .ok (.sipush 255, 3) := dk_17 0 255 (dk_at dksX10_decryptBlock_16 0 rfl rfl)
theorem dX10_decryptBlock_379 : decode cX10_decryptBlock 379 = .ok (.iand, 1) := dk_126 (dk_at dksX10_decryptBlock_16 3 rfl rfl)
theorem dX10_decryptBlock_380 : decode cX10_decryptBlock 380 = .ok (.iaload, 1) := dk_46 (dk_at dksX10_decryptBlock_16 4 rfl rfl)
theorem dX10_decryptBlock_381 : decode cX10_decryptBlock 381 = .ok (.bipush 16, 2) := dk_16 16 (dk_at dksX10_decryptBlock_16 5 rfl rfl)
theorem dX10_decryptBlock_383 : decode cX10_decryptBlock 383 = .ok (.invokestatic 7, 3) := dk_184 0 7 (dk_at dksX10_decryptBlock_16 7 rfl rfl)
theorem dX10_decryptBlock_386 : decode cX10_decryptBlock 386 = .ok (.ixor, 1) := dk_130 (dk_at dksX10_decryptBlock_16 10 rfl rfl)
theorem dX10_decryptBlock_387 : decode cX10_decryptBlock 387 = .ok (.getstatic 119, 3) := dk_178 0 119 (dk_at dksX10_decryptBlock_16 11 rfl rfl)
theorem dX10_decryptBlock_390 : decode cX10_decryptBlock 390 = .ok (.iload 10, 2) := dk_21 10 (dk_at dksX10_decryptBlock_16 14 rfl rfl)
theorem dX10_decryptBlock_392 : decode cX10_decryptBlock 392 = .ok (.bipush 24, 2) := dk_16 24 (dk_at dksX10_decryptBlock_16 16 rfl rfl)
theorem dX10_decryptBlock_394 : decode cX10_decryptBlock 394 = .ok (.ishr, 1) := dk_122 (dk_at dksX10_decryptBlock_16 18 rfl rfl)
theorem dX10_decryptBlock_395 : decode cX10_decryptBlock 395 = .ok (.sipush 255, 3) := dk_17 0 255 (dk_at dksX10_decryptBlock_16 19 rfl rfl)
theorem dX10_decryptBlock_398 : decode cX10_decryptBlock 398 = .ok (.iand, 1) := dk_126 (dk_at dksX10_decryptBlock_16 22 rfl rfl)
theorem dX10_decryptBlock_399 : decode cX10_decryptBlock 399 = .ok (.iaload, 1) := dk_46 (dk_at dksX10_decryptBlock_16 23 rfl rfl)
theorem dX10_decryptBlock_400 : decode cX10_decryptBlock 400 = .ok (.bipush 8, 2) := dk_16 8 (dk_at dksX10_decryptBlock_17 0 rfl rfl)
theorem dX10_decryptBlock_402 : decode cX10_decryptBlock 402 = .ok (.invokestatic 7, 3) := dk_184 0 7 (dk_at dksX10_decryptBlock_17 2 rfl rfl)
theorem dX10_decryptBlock_405 : decode cX10_decryptBlock 405 = .ok (.ixor, 1) := dk_130 (dk_at dksX10_decryptBlock_17 5 rfl rfl)
theorem dX10_decryptBlock_406 : decode cX10_decryptBlock 406 = .ok (.aload 5, 2) := dk_25 5 (dk_at dksX10_decryptBlock_17 6 rfl rfl)
theorem dX10_decryptBlock_408 : decode cX10_decryptBlock 408 = .ok (.iload 13, 2) := dk_21 13 (dk_at dksX10_decryptBlock_17 8 rfl rfl)
theorem dX10_decryptBlock_410 : decode cX10_decryptBlock 410 = .ok (.iinc 13 (-1), 3) := dk_132 13 255 (dk_at dksX10_decryptBlock_17 10 rfl rfl)
theorem dX10_decryptBlock_413 : decode cX10_decryptBlock 413 = .ok (.aaload, 1) := dk_50 (dk_at dksX10_decryptBlock_17 13 rfl rfl)
theorem dX10_decryptBlock_414 : decode cX10_decryptBlock 414 = .ok (.iconst 3, 1) := dk_6 (dk_at dksX10_decryptBlock_17 14 rfl rfl)
theorem dX10_decryptBlock_415 : decode cX10_decryptBlock 415 = .ok (.iaload, 1) := dk_46 (dk_at dksX10_decryptBlock_17 15 rfl rfl)
theorem dX10_decryptBlock_416 : decode cX10_decryptBlock 416 = .ok (.ixor, 1) := dk_130 (dk_at dksX10_decryptBlock_17 16 rfl rfl)
theorem dX10_decryptBlock_417 : decode cX10_decryptBlock 417 = .ok (.istore 17, 2) := dk_54 17 (dk_at dksX10_decryptBlock_17 17 rfl rfl)
theorem dX10_decryptBlock_419 : decode cX10_decryptBlock 419 = .ok (.getstatic 119, 3) := dk_178 0 119 (dk_at dksX10_decryptBlock_17 19 rfl rfl)
theorem dX10_decryptBlock_422 : decode cX10_decryptBlock 422 = .ok (.iload 14, 2) := dk_21 14 (dk_at dksX10_decryptBlock_17 22 rfl rfl)
theorem dX10_decryptBlock_424 : decode cX10_decryptBlock 424 = .ok (.sipush 255, 3) := dk_17 0 255 (dk_at dksX10_decryptBlock_18 0 rfl rfl)
theorem dX10_decryptBlock_427 : decode cX10_decryptBlock 427 = .ok (.iand, 1) := dk_126 (dk_at dksX10_decryptBlock_18 3 rfl rfl)
theorem dX10_decryptBlock_428 : decode cX10_decryptBlock 428 = .ok (.iaload, 1) := dk_46 (dk_at dksX10_decryptBlock_18 4 rfl rfl)
theorem dX10_decryptBlock_429 : decode cX10_decryptBlock 429 = .ok (.getstatic 119, 3) := dk_178 0 119 (dk_at dksX10_decryptBlock_18 5 rfl rfl)
theorem dX10_decryptBlock_432 : decode cX10_decryptBlock 432 = .ok (.iload 17, 2) := dk_21 17 (dk_at dksX10_decryptBlock_18 8 rfl rfl)
theorem dX10_decryptBlock_434 : decode cX10_decryptBlock 434 = .ok (.bipush 8, 2) := dk_16 8 (dk_at dksX10_decryptBlock_18 10 rfl rfl)
theorem dX10_decryptBlock_436 : decode cX10_decryptBlock 436 = .ok (.ishr, 1) := dk_122 (dk_at dksX10_decryptBlock_18 12 rfl rfl)
theorem dX10_decryptBlock_437 : decode cX10_decryptBlock 437 = .ok (.sipush 255, 3) := dk_17 0 255 (dk_at dksX10_decryptBlock_18 13 rfl rfl)
theorem dX10_decryptBlock_440 : decode cX10_decryptBlock 440 = .ok (.iand, 1) := dk_126 (dk_at dksX10_decryptBlock_18 16 rfl rfl)
theorem dX10_decryptBlock_441 : decode cX10_decryptBlock 441 = .ok (.iaload, 1) := dk_46 (dk_at dksX10_decryptBlock_18 17 rfl rfl)
theorem dX10_decryptBlock_442 : decode cX10_decryptBlock 442 = .ok (.bipush 24, 2) := dk_16 24 (dk_at dksX10_decryptBlock_18 18 rfl rfl)
theorem dX10_decryptBlock_444 : decode cX10_decryptBlock 444 = .ok (.invokestatic 7, 3) := dk_184 0 7 (dk_at dksX10_decryptBlock_18 20 rfl rfl)
theorem dX10_decryptBlock_447 : decode cX10_decryptBlock 447 = .ok (.ixor, 1) := dk_130 (dk_at dksX10_decryptBlock_18 23 rfl rfl)
theorem dX10_decryptBlock_448 : decode cX10_decryptBlock 448 = .ok (.getstatic 119, 3) := dk_178 0 119 (dk_at dksX10_decryptBlock_19 0 rfl rfl)
theorem dX10_decryptBlock_451 : decode cX10_decryptBlock 451 = .ok (.iload 16, 2) := dk_21 16 (dk_at dksX10_decryptBlock_19 3 rfl rfl)
theorem dX10_decryptBlock_453 : decode cX10_decryptBlock 453 = .ok (.bipush 16, 2) := dk_16 16 (dk_at dksX10_decryptBlock_19 5 rfl rfl)
theorem dX10_decryptBlock_455 : decode cX10_decryptBlock 455 = .ok (.ishr, 1) := dk_122 (dk_at dksX10_decryptBlock_19 7 rfl rfl)
theorem dX10_decryptBlock_456 : decode cX10_decryptBlock 456 = .ok (.sipush 255, 3) := dk_17 0 255 (dk_at dksX10_decryptBlock_19 8 rfl rfl)
theorem dX10_decryptBlock_459 : decode cX10_decryptBlock 459 = .ok (.iand, 1) := dk_126 (dk_at dksX10_decryptBlock_19 11 rfl rfl)
theorem dX10_decryptBlock_460 : decode cX10_decryptBlock 460 = .ok (.iaload, 1) := dk_46 (dk_at dksX10_decryptBlock_19 12 rfl rfl)
theorem dX10_decryptBlock_461 : decode cX10_decryptBlock 461 = .ok (.bipush 16, 2) := dk_16 16 (dk_at dksX10_decryptBlock_19 13 rfl rfl)
theorem dX10_decryptBlock_463 : decode cX10_decryptBlock 463 = .ok (.invokestatic 7, 3) := dk_184 0 7 (dk_at dksX10_decryptBlock_19 15 rfl rfl)
theorem dX10_decryptBlock_466 : decode cX10_decryptBlock 466 = .ok (.ixor, 1) := dk_130 (dk_at dksX10_decryptBlock_19 18 rfl rfl)
theorem dX10_decryptBlock_467 : decode cX10_decryptBlock 467 = .ok (.getstatic 119, 3) := dk_178 0 119 (dk_at dksX10_decryptBlock_19 19 rfl rfl)
theorem dX10_decryptBlock_470 : decode cX10_decryptBlock 470 = .ok (.iload 15, 2) := dk_21 15 (dk_at dksX10_decryptBlock_19 22 rfl rfl)
theorem dX10_decryptBlock_472 : decode cX10_decryptBlock 472 = .ok (.bipush 24, 2) := dk_16 24 (dk_at dksX10_decryptBlock_20 0 rfl rfl)
theorem dX10_decryptBlock_474 : decode cX10_decryptBlock 474 = .ok (.ishr, 1) := dk_122 (dk_at dksX10_decryptBlock_20 2 rfl rfl)
theorem dX10_decryptBlock_475 : decode cX10_decryptBlock 475 = .ok (.sipush 255, 3) := dk_17 0 255 (dk_at dksX10_decryptBlock_20 3 rfl rfl)
theorem dX10_decryptBlock_478 : decode cX10_decryptBlock 478 = .ok (.iand, 1) := dk_126 (dk_at dksX10_decryptBlock_20 6 rfl rfl)
theorem dX10_decryptBlock_479 : decode cX10_decryptBlock 479 = .ok (.iaload, 1) := dk_46 (dk_at dksX10_decryptBlock_20 7 rfl rfl)
theorem dX10_decryptBlock_480 : decode cX10_decryptBlock 480 = .ok (.bipush 8, 2) := dk_16 8 (dk_at dksX10_decryptBlock_20 8 rfl rfl)
theorem dX10_decryptBlock_482 : decode cX10_decryptBlock 482 = .ok (.invokestatic 7, 3) := dk_184 0 7 (dk_at dksX10_decryptBlock_20 10 rfl rfl)
theorem dX10_decryptBlock_485 : decode cX10_decryptBlock 485 = .ok (.ixor, 1) := dk_130 (dk_at dksX10_decryptBlock_20 13 rfl rfl)
theorem dX10_decryptBlock_486 : decode cX10_decryptBlock 486 = .ok (.aload 5, 2) := dk_25 5 (dk_at dksX10_decryptBlock_20 14 rfl rfl)
theorem dX10_decryptBlock_488 : decode cX10_decryptBlock 488 = .ok (.iload 13, 2) := dk_21 13 (dk_at dksX10_decryptBlock_20 16 rfl rfl)
theorem dX10_decryptBlock_490 : decode cX10_decryptBlock 490 = .ok (.aaload, 1) := dk_50 (dk_at dksX10_decryptBlock_20 18 rfl rfl)
theorem dX10_decryptBlock_491 : decode cX10_decryptBlock 491 = .ok (.iconst 0, 1) := dk_3 (dk_at dksX10_decryptBlock_20 19 rfl rfl)
theorem dX10_decryptBlock_492 : decode cX10_decryptBlock 492 = .ok (.iaload, 1) := dk_46 (dk_at dksX10_decryptBlock_20 20 rfl rfl)
theorem dX10_decryptBlock_493 : decode cX10_decryptBlock 493 = .ok (.ixor, 1) := dk_130 (dk_at dksX10_decryptBlock_20 21 rfl rfl)
theorem dX10_decryptBlock_494 : decode cX10_decryptBlock 494 = .ok (.istore 10, 2) := dk_54 10 (dk_at dksX10_decryptBlock_20 22 rfl rfl)
theorem dX10_decryptBlock_496 : decode cX10_decryptBlock 496 = .ok (.getstatic 119, 3) := dk_178 0 119 (dk_at dksX10_decryptBlock_21 0 rfl rfl)
theorem dX10_decryptBlock_499 : decode cX10_decryptBlock 499 = .ok (.iload 15, 2) := dk_21 15 (dk_at dksX10_decryptBlock_21 3 rfl rfl)
theorem dX10_decryptBlock_501 : decode cX10_decryptBlock 501 = .ok (.sipush 255, 3) := dk_17 0 255 (dk_at dksX10_decryptBlock_21 5 rfl rfl)
theorem dX10_decryptBlock_504 : decode cX10_decryptBlock 504 = .ok (.iand, 1) := dk_126 (dk_at dksX10_decryptBlock_21 8 rfl rfl)
theorem dX10_decryptBlock_505 : decode cX10_decryptBlock 505 = .ok (.iaload, 1) := dk_46 (dk_at dksX10_decryptBlock_21 9 rfl rfl)
theorem dX10_decryptBlock_506 : decode cX10_decryptBlock 506 = .ok (.getstatic 119, 3) := dk_178 0 119 (dk_at dksX10_decryptBlock_21 10 rfl rfl)
theorem dX10_decryptBlock_509 : decode cX10_decryptBlock 509 = .ok (.iload 14, 2) := dk_21 14 (dk_at dksX10_decryptBlock_21 13 rfl rfl)
theorem dX10_decryptBlock_511 : decode cX10_decryptBlock 511 = .ok (.bipush 8, 2) := dk_16 8 (dk_at dksX10_decryptBlock_21 15 rfl rfl)
theorem dX10_decryptBlock_513 : decode cX10_decryptBlock 513 = .ok (.ishr, 1) := dk_122 (dk_at dksX10_decryptBlock_21 17 rfl rfl)
theorem dX10_decryptBlock_514 : decode cX10_decryptBlock 514 = .ok (.sipush 255, 3) := dk_17 0 255 (dk_at dksX10_decryptBlock_21 18 rfl rfl)
theorem dX10_decryptBlock_517 : decode cX10_decryptBlock 517 = .ok (.iand, 1) := dk_126 (dk_at dksX10_decryptBlock_21 21 rfl rfl)
theorem dX10_decryptBlock_518 : decode cX10_decryptBlock 518 = .ok (.iaload, 1) := dk_46 (dk_at dksX10_decryptBlock_21 22 rfl rfl)
theorem dX10_decryptBlock_519 : decode cX10_decryptBlock 519 = .ok (.bipush 24, 2) := dk_16 24 (dk_at dksX10_decryptBlock_22 0 rfl rfl)
theorem dX10_decryptBlock_521 : decode cX10_decryptBlock 521 = .ok (.invokestatic 7, 3) := dk_184 0 7 (dk_at dksX10_decryptBlock_22 2 rfl rfl)
theorem dX10_decryptBlock_524 : decode cX10_decryptBlock 524 = .ok (.ixor, 1) := dk_130 (dk_at dksX10_decryptBlock_22 5 rfl rfl)
theorem dX10_decryptBlock_525 : decode cX10_decryptBlock 525 = .ok (.getstatic 119, 3) := dk_178 0 119 (dk_at dksX10_decryptBlock_22 6 rfl rfl)
theorem dX10_decryptBlock_528 : decode cX10_decryptBlock 528 = .ok (.iload 17, 2) := dk_21 17 (dk_at dksX10_decryptBlock_22 9 rfl rfl)
theorem dX10_decryptBlock_530 : decode cX10_decryptBlock 530 = .ok (.bipush 16, 2) := dk_16 16 (dk_at dksX10_decryptBlock_22 11 rfl rfl)
theorem dX10_decryptBlock_532 : decode cX10_decryptBlock 532 = .ok (.ishr, 1) := dk_122 (dk_at dksX10_decryptBlock_22 13 rfl rfl)
theorem dX10_decryptBlock_533 : decode cX10_decryptBlock 533 = .ok (.sipush 255, 3) := dk_17 0 255 (dk_at dksX10_decryptBlock_22 14 rfl rfl)
theorem dX10_decryptBlock_536 : decode cX10_decryptBlock 536 = .ok (.iand, 1) := dk_126 (dk_at dksX10_decryptBlock_22 17 rfl rfl)
theorem dX10_decryptBlock_537 : decode cX10_decryptBlock 537 = .ok (.iaload, 1) := dk_46 (dk_at dksX10_decryptBlock_22 18 rfl rfl)
theorem dX10_decryptBlock_538 : decode cX10_decryptBlock 538 = .ok (.bipush 16, 2) := dk_16 16 (dk_at dksX10_decryptBlock_22 19 rfl rfl)
theorem dX10_decryptBlock_540 : decode cX10_decryptBlock 540 = .ok (.invokestatic 7, 3) := dk_184 0 7 (dk_at dksX10_decryptBlock_22 21 rfl rfl)
theorem dX10_decryptBlock_543 : decode cX10_decryptBlock 543 = .ok (.ixor, 1) := dk_130 (dk_at dksX10_decryptBlock_23 0 rfl rfl)
theorem dX10_decryptBlock_544 : decode cX10_decryptBlock 544 = .ok (.getstatic 119, 3) := dk_178 0 119 (dk_at dksX10_decryptBlock_23 1 rfl rfl)
theorem dX10_decryptBlock_547 : decode cX10_decryptBlock 547 = .ok (.iload 16, 2) := dk_21 16 (dk_at dksX10_decryptBlock_23 4 rfl rfl)
theorem dX10_decryptBlock_549 : decode cX10_decryptBlock 549 = .ok (.bipush 24, 2) := dk_16 24 (dk_at dksX10_decryptBlock_23 6 rfl rfl)
theorem dX10_decryptBlock_551 : decode cX10_decryptBlock 551 = .ok (.ishr, 1) := dk_122 (dk_at dksX10_decryptBlock_23 8 rfl rfl)
theorem dX10_decryptBlock_552 : decode cX10_decryptBlock 552 = .ok (.sipush 255, 3) := dk_17 0 255 (dk_at dksX10_decryptBlock_23 9 rfl rfl)
theorem dX10_decryptBlock_555 : decode cX10_decryptBlock 555 = .ok (.iand, 1) := dk_126 (dk_at dksX10_decryptBlock_23 12 rfl rfl)
theorem dX10_decryptBlock_556 : decode cX10_decryptBlock 556 = .ok (.iaload, 1) := dk_46 (dk_at dksX10_decryptBlock_23 13 rfl rfl)
theorem dX10_decryptBlock_557 : decode cX10_decryptBlock 557 = .ok (.bipush 8, 2) := dk_16 8 (dk_at dksX10_decryptBlock_23 14 rfl rfl)
theorem dX10_decryptBlock_559 : decode cX10_decryptBlock 559 = .ok (.invokestatic 7, 3) := dk_184 0 7 (dk_at dksX10_decryptBlock_23 16 rfl rfl)
theorem dX10_decryptBlock_562 : decode cX10_decryptBlock 562 = .ok (.ixor, 1) := dk_130 (dk_at dksX10_decryptBlock_23 19 rfl rfl)
theorem dX10_decryptBlock_563 : decode cX10_decryptBlock 563 = .ok (.aload 5, 2) := dk_25 5 (dk_at dksX10_decryptBlock_23 20 rfl rfl)
theorem dX10_decryptBlock_565 : decode cX10_decryptBlock 565 = .ok (.iload 13, 2) := dk_21 13 (dk_at dksX10_decryptBlock_23 22 rfl rfl)
theorem dX10_decryptBlock_567 : decode cX10_decryptBlock 567 = .ok (.aaload, 1) := dk_50 (dk_at dksX10_decryptBlock_24 0 rfl rfl)
theorem dX10_decryptBlock_568 : decode cX10_decryptBlock 568 = .ok (.iconst 1, 1) := dk_4 (dk_at dksX10_decryptBlock_24 1 rfl rfl)
theorem dX10_decryptBlock_569 : decode cX10_decryptBlock 569 = .ok (.iaload, 1) := dk_46 (dk_at dksX10_decryptBlock_24 2 rfl rfl)
theorem dX10_decryptBlock_570 : decode cX10_decryptBlock 570 = .ok (.ixor, 1) := dk_130 (dk_at dksX10_decryptBlock_24 3 rfl rfl)
theorem dX10_decryptBlock_571 : decode cX10_decryptBlock 571 = .ok (.istore 11, 2) := dk_54 11 (dk_at dksX10_decryptBlock_24 4 rfl rfl)
theorem dX10_decryptBlock_573 : decode cX10_decryptBlock 573 = .ok (.getstatic 119, 3) := dk_178 0 119 (dk_at dksX10_decryptBlock_24 6 rfl rfl)
theorem dX10_decryptBlock_576 : decode cX10_decryptBlock 576 = .ok (.iload 16, 2) := dk_21 16 (dk_at dksX10_decryptBlock_24 9 rfl rfl)
theorem dX10_decryptBlock_578 : decode cX10_decryptBlock 578 = .ok (.sipush 255, 3) := dk_17 0 255 (dk_at dksX10_decryptBlock_24 11 rfl rfl)
theorem dX10_decryptBlock_581 : decode cX10_decryptBlock 581 = .ok (.iand, 1) := dk_126 (dk_at dksX10_decryptBlock_24 14 rfl rfl)
theorem dX10_decryptBlock_582 : decode cX10_decryptBlock 582 = .ok (.iaload, 1) := dk_46 (dk_at dksX10_decryptBlock_24 15 rfl rfl)
theorem dX10_decryptBlock_583 : decode cX10_decryptBlock 583 = .ok (.getstatic 119, 3) := dk_178 0 119 (dk_at dksX10_decryptBlock_24 16 rfl rfl)
theorem dX10_decryptBlock_586 : decode cX10_decryptBlock 586 = .ok (.iload 15, 2) := dk_21 15 (dk_at dksX10_decryptBlock_24 19 rfl rfl)
theorem dX10_decryptBlock_588 : decode cX10_decryptBlock 588 = .ok (.bipush 8, 2) := dk_16 8 (dk_at dksX10_decryptBlock_24 21 rfl rfl)
theorem dX10_decryptBlock_590 : decode cX10_decryptBlock 590 = .ok (.ishr, 1) := dk_122 (dk_at dksX10_decryptBlock_24 23 rfl rfl)
theorem dX10_decryptBlock_591 : decode cX10_decryptBlock 591 = .ok (.sipush 255, 3) := dk_17 0 255 (dk_at dksX10_decryptBlock_25 0 rfl rfl)
theorem dX10_decryptBlock_594 : decode cX10_decryptBlock 594 = .ok (.iand, 1) := dk_126 (dk_at dksX10_decryptBlock_25 3 rfl rfl)
theorem dX10_decryptBlock_595 : decode cX10_decryptBlock 595 = .ok (.iaload, 1) := dk_46 (dk_at dksX10_decryptBlock_25 4 rfl rfl)
theorem dX10_decryptBlock_596 : decode cX10_decryptBlock 596 = .ok (.bipush 24, 2) := dk_16 24 (dk_at dksX10_decryptBlock_25 5 rfl rfl)
theorem dX10_decryptBlock_598 : decode cX10_decryptBlock 598 = .ok (.invokestatic 7, 3) := dk_184 0 7 (dk_at dksX10_decryptBlock_25 7 rfl rfl)
theorem dX10_decryptBlock_601 : decode cX10_decryptBlock 601 = .ok (.ixor, 1) := dk_130 (dk_at dksX10_decryptBlock_25 10 rfl rfl)
theorem dX10_decryptBlock_602 : decode cX10_decryptBlock 602 = .ok (.getstatic 119, 3) := dk_178 0 119 (dk_at dksX10_decryptBlock_25 11 rfl rfl)
theorem dX10_decryptBlock_605 : decode cX10_decryptBlock 605 = .ok (.iload 14, 2) := dk_21 14 (dk_at dksX10_decryptBlock_25 14 rfl rfl)
theorem dX10_decryptBlock_607 : decode cX10_decryptBlock 607 = .ok (.bipush 16, 2) := dk_16 16 (dk_at dksX10_decryptBlock_25 16 rfl rfl)
theorem dX10_decryptBlock_609 : decode cX10_decryptBlock 609 = .ok (.ishr, 1) := dk_122 (dk_at dksX10_decryptBlock_25 18 rfl rfl)
theorem dX10_decryptBlock_610 : decode cX10_decryptBlock 610 = .ok (.sipush 255, 3) := dk_17 0 255 (dk_at dksX10_decryptBlock_25 19 rfl rfl)
theorem dX10_decryptBlock_613 : decode cX10_decryptBlock 613 = .ok (.iand, 1) := dk_126 (dk_at dksX10_decryptBlock_25 22 rfl rfl)
theorem dX10_decryptBlock_614 : decode cX10_decryptBlock 614 = .ok (.iaload, 1) := dk_46 (dk_at dksX10_decryptBlock_25 23 rfl rfl)
theorem dX10_decryptBlock_615 : decode cX10_decryptBlock 615 = .ok (.bipush 16, 2) := dk_16 16 (dk_at dksX10_decryptBlock_26 0 rfl rfl)
theorem dX10_decryptBlock_617 : decode cX10_decryptBlock 617 = .ok (.invokestatic 7, 3) := dk_184 0 7 (dk_at dksX10_decryptBlock_26 2 rfl rfl)
theorem dX10_decryptBlock_620 : decode cX10_decryptBlock 620 = .ok (.ixor, 1) := dk_130 (dk_at dksX10_decryptBlock_26 5 rfl rfl)
theorem dX10_decryptBlock_621 : decode cX10_decryptBlock 621 = .ok (.getstatic 119, 3) := dk_178 0 119 (dk_at dksX10_decryptBlock_26 6 rfl rfl)
theorem dX10_decryptBlock_624 : decode cX10_decryptBlock 624 = .ok (.iload 17, 2) := dk_21 17 (dk_at dksX10_decryptBlock_26 9 rfl rfl)
theorem dX10_decryptBlock_626 : decode cX10_decryptBlock 626 = .ok (.bipush 24, 2) := dk_16 24 (dk_at dksX10_decryptBlock_26 11 rfl rfl)
theorem dX10_decryptBlock_628 : decode cX10_decryptBlock 628 = .ok (.ishr, 1) := dk_122 (dk_at dksX10_decryptBlock_26 13 rfl rfl)
theorem dX10_decryptBlock_629 : decode cX10_decryptBlock 629 = .ok (.sipush 255, 3) := dk_17 0 255 (dk_at dksX10_decryptBlock_26 14 rfl rfl)
theorem dX10_decryptBlock_632 : decode cX10_decryptBlock 632 = .ok (.iand, 1) := dk_126 (dk_at dksX10_decryptBlock_26 17 rfl rfl)
theorem dX10_decryptBlock_633 : decode cX10_decryptBlock 633 = .ok (.iaload, 1) := dk_46 (dk_at dksX10_decryptBlock_26 18 rfl rfl)
theorem dX10_decryptBlock_634 : decode cX10_decryptBlock 634 = .ok (.bipush 8, 2) := dk_16 8 (dk_at dksX10_decryptBlock_26 19 rfl rfl)
theorem dX10_decryptBlock_636 : decode cX10_decryptBlock 636 = .ok (.invokestatic 7, 3) := dk_184 0 7 (dk_at dksX10_decryptBlock_26 21 rfl rfl)
theorem dX10_decryptBlock_639 : decode cX10_decryptBlock 639 = .ok (.ixor, 1) := dk_130 (dk_at dksX10_decryptBlock_27 0 rfl rfl)
theorem dX10_decryptBlock_640 : decode cX10_decryptBlock 640 = .ok (.aload 5, 2) := dk_25 5 (dk_at dksX10_decryptBlock_27 1 rfl rfl)
theorem dX10_decryptBlock_642 : decode cX10_decryptBlock 642 = .ok (.iload 13, 2) := dk_21 13 (dk_at dksX10_decryptBlock_27 3 rfl rfl)
theorem dX10_decryptBlock_644 : decode cX10_decryptBlock 644 = .ok (.aaload, 1) := dk_50 (dk_at dksX10_decryptBlock_27 5 rfl rfl)
theorem dX10_decryptBlock_645 : decode cX10_decryptBlock 645 = .ok (.iconst 2, 1) := dk_5 (dk_at dksX10_decryptBlock_27 6 rfl rfl)
theorem dX10_decryptBlock_646 : decode cX10_decryptBlock 646 = .ok (.iaload, 1) := dk_46 (dk_at dksX10_decryptBlock_27 7 rfl rfl)
theorem dX10_decryptBlock_647 : decode cX10_decryptBlock 647 = .ok (.ixor, 1) := dk_130 (dk_at dksX10_decryptBlock_27 8 rfl rfl)
theorem dX10_decryptBlock_648 : decode cX10_decryptBlock 648 = .ok (.istore 12, 2) := dk_54 12 (dk_at dksX10_decryptBlock_27 9 rfl rfl)
theorem dX10_decryptBlock_650 : decode cX10_decryptBlock 650 = .ok (.getstatic 119, 3) := dk_178 0 119 (dk_at dksX10_decryptBlock_27 11 rfl rfl)
theorem dX10_decryptBlock_653 : decode cX10_decryptBlock 653 = .ok (.iload 17, 2) := dk_21 17 (dk_at dksX10_decryptBlock_27 14 rfl rfl)
theorem dX10_decryptBlock_655 : decode cX10_decryptBlock 655 = .ok (.sipush 255, 3) := dk_17 0 255 (dk_at dksX10_decryptBlock_27 16 rfl rfl)
theorem dX10_decryptBlock_658 : decode cX10_decryptBlock 658 = .ok (.iand, 1) := dk_126 (dk_at dksX10_decryptBlock_27 19 rfl rfl)
theorem dX10_decryptBlock_659 : decode cX10_decryptBlock 659 = .ok (.iaload, 1) := dk_46 (dk_at dksX10_decryptBlock_27 20 rfl rfl)
theorem dX10_decryptBlock_660 : decode cX10_decryptBlock 660 = .ok (.getstatic 119, 3) := dk_178 0 119 (dk_at dksX10_decryptBlock_27 21 rfl rfl)
theorem dX10_decryptBlock_663 : decode cX10_decryptBlock 663 = .ok (.iload 16, 2) := dk_21 16 (dk_at dksX10_decryptBlock_28 0 rfl rfl)
theorem dX10_decryptBlock_665 : decode cX10_decryptBlock 665 = .ok (.bipush 8, 2) := dk_16 8 (dk_at dksX10_decryptBlock_28 2 rfl rfl)
theorem dX10_decryptBlock_667 : decode cX10_decryptBlock 667 = .ok (.ishr, 1) := dk_122 (dk_at dksX10_decryptBlock_28 4 rfl rfl)
theorem dX10_decryptBlock_668 : decode cX10_decryptBlock 668 = .ok (.sipush 255, 3) := dk_17 0 255 (dk_at dksX10_decryptBlock_28 5 rfl rfl)
theorem dX10_decryptBlock_671 : decode cX10_decryptBlock 671 = .ok (.iand, 1) := dk_126 (dk_at dksX10_decryptBlock_28 8 rfl rfl)
theorem dX10_decryptBlock_672 : decode cX10_decryptBlock 672 = .ok (.iaload, 1) := dk_46 (dk_at dksX10_decryptBlock_28 9 rfl rfl)
theorem dX10_decryptBlock_673 : decode cX10_decryptBlock 673 = .ok (.bipush 24, 2) := dk_16 24 (dk_at dksX10_decryptBlock_28 10 rfl rfl)
theorem dX10_decryptBlock_675 : decode cX10_decryptBlock 675 = .ok (.invokestatic 7, 3) := dk_184 0 7 (dk_at dksX10_decryptBlock_28 12 rfl rfl)
theorem dX10_decryptBlock_678 : decode cX10_decryptBlock 678 = .ok (.ixor, 1) := dk_130 (dk_at dksX10_decryptBlock_28 15 rfl rfl)
theorem dX10_decryptBlock_679 : decode cX10_decryptBlock 679 = .ok (.getstatic 119, 3) := dk_178 0 119 (dk_at dksX10_decryptBlock_28 16 rfl rfl)
theorem dX10_decryptBlock_682 : decode cX10_decryptBlock 682 = .ok (.iload 15, 2) := dk_21 15 (dk_at dksX10_decryptBlock_28 19 rfl rfl)
theorem dX10_decryptBlock_684 : decode cX10_decryptBlock 684 = .ok (.bipush 16, 2) := dk_16 16 (dk_at dksX10_decryptBlock_28 21 rfl rfl)
theorem dX10_decryptBlock_686 : decode cX10_decryptBlock 686 = .ok (.ishr, 1) := dk_122 (dk_at dksX10_decryptBlock_28 23 rfl rfl)
theorem dX10_decryptBlock_687 : decode cX10_decryptBlock 687 = .ok (.sipush 255, 3) := dk_17 0 255 (dk_at dksX10_decryptBlock_29 0 rfl rfl)
theorem dX10_decryptBlock_690 : decode cX10_decryptBlock 690 = .ok (.iand, 1) := dk_126 (dk_at dksX10_decryptBlock_29 3 rfl rfl)
theorem dX10_decryptBlock_691 : decode cX10_decryptBlock 691 = .ok (.iaload, 1) := dk_46 (dk_at dksX10_decryptBlock_29 4 rfl rfl)
theorem dX10_decryptBlock_692 : decode cX10_decryptBlock 692 = .ok (.bipush 16, 2) := dk_16 16 (dk_at dksX10_decryptBlock_29 5 rfl rfl)
theorem dX10_decryptBlock_694 : decode cX10_decryptBlock 694 = .ok (.invokestatic 7, 3) := dk_184 0 7 (dk_at dksX10_decryptBlock_29 7 rfl rfl)
theorem dX10_decryptBlock_697 : decode cX10_decryptBlock 697 = .ok (.ixor, 1) := dk_130 (dk_at dksX10_decryptBlock_29 10 rfl rfl)
theorem dX10_decryptBlock_698 : decode cX10_decryptBlock 698 = .ok (.getstatic 119, 3) := dk_178 0 119 (dk_at dksX10_decryptBlock_29 11 rfl rfl)
theorem dX10_decryptBlock_701 : decode cX10_decryptBlock 701 = .ok (.iload 14, 2) := dk_21 14 (dk_at dksX10_decryptBlock_29 14 rfl rfl)
theorem dX10_decryptBlock_703 : decode cX10_decryptBlock 703 = .ok (.bipush 24, 2) := dk_16 24 (dk_at dksX10_decryptBlock_29 16 rfl rfl)
theorem dX10_decryptBlock_705 : decode cX10_decryptBlock 705 = .ok (.ishr, 1) := dk_122 (dk_at dksX10_decryptBlock_29 18 rfl rfl)
theorem dX10_decryptBlock_706 : decode cX10_decryptBlock 706 = .ok (.sipush 255, 3) := dk_17 0 255 (dk_at dksX10_decryptBlock_29 19 rfl rfl)
theorem dX10_decryptBlock_709 : decode cX10_decryptBlock 709 = .ok (.iand, 1) := dk_126 (dk_at dksX10_decryptBlock_29 22 rfl rfl)
theorem dX10_decryptBlock_710 : decode cX10_decryptBlock 710 = .ok (.iaload, 1) := dk_46 (dk_at dksX10_decryptBlock_29 23 rfl rfl)
theorem dX10_decryptBlock_711 : decode cX10_decryptBlock 711 = .ok (.bipush 8, 2) := dk_16 8 (dk_at dksX10_decryptBlock_30 0 rfl rfl)
theorem dX10_decryptBlock_713 : decode cX10_decryptBlock 713 = .ok (.invokestatic 7, 3) := dk_184 0 7 (dk_at dksX10_decryptBlock_30 2 rfl rfl)
theorem dX10_decryptBlock_716 : decode cX10_decryptBlock 716 = .ok (.ixor, 1) := dk_130 (dk_at dksX10_decryptBlock_30 5 rfl rfl)
theorem dX10_decryptBlock_717 : decode cX10_decryptBlock 717 = .ok (.aload 5, 2) := dk_25 5 (dk_at dksX10_decryptBlock_30 6 rfl rfl)
theorem dX10_decryptBlock_719 : decode cX10_decryptBlock 719 = .ok (.iload 13, 2) := dk_21 13 (dk_at dksX10_decryptBlock_30 8 rfl rfl)
theorem dX10_decryptBlock_721 : decode cX10_decryptBlock 721 = .ok (.iinc 13 (-1), 3) := dk_132 13 255 (dk_at dksX10_decryptBlock_30 10 rfl rfl)
theorem dX10_decryptBlock_724 : decode cX10_decryptBlock 724 = .ok (.aaload, 1) := dk_50 (dk_at dksX10_decryptBlock_30 13 rfl rfl)
theorem dX10_decryptBlock_725 : decode cX10_decryptBlock 725 = .ok (.iconst 3, 1) := dk_6 (dk_at dksX10_decryptBlock_30 14 rfl rfl)
theorem dX10_decryptBlock_726 : decode cX10_decryptBlock 726 = .ok (.iaload, 1) := dk_46 (dk_at dksX10_decryptBlock_30 15 rfl rfl)
theorem dX10_decryptBlock_727 : decode cX10_decryptBlock 727 = .ok (.ixor, 1) := dk_130 (dk_at dksX10_decryptBlock_30 16 rfl rfl)
theorem dX10_decryptBlock_728 : decode cX10_decryptBlock 728 = .ok (.istore 17, 2) := dk_54 17 (dk_at dksX10_decryptBlock_30 17 rfl rfl)
theorem dX10_decryptBlock_730 : decode cX10_decryptBlock 730 = .ok (.goto (-628), 3) := dk_167 253 140 (dk_at dksX10_decryptBlock_30 19 rfl rfl)
theorem dX10_decryptBlock_733 : decode cX10_decryptBlock 733 = .ok (.getstatic 119, 3) := dk_178 0 119 (dk_at dksX10_decryptBlock_31 0 rfl rfl)
theorem dX10_decryptBlock_736 : decode cX10_decryptBlock 736 = .ok (.iload 10, 2) := dk_21 10 (dk_at dksX10_decryptBlock_31 3 rfl rfl)
theorem dX10_decryptBlock_738 : decode cX10_decryptBlock 738 = .ok (.sipush 255, 3) := dk_17 0 255 (dk_at dksX10_decryptBlock_31 5 rfl rfl)
theorem dX10_decryptBlock_741 : decode cX10_decryptBlock 741 = .ok (.iand, 1) := dk_126 (dk_at dksX10_decryptBlock_31 8 rfl rfl)
theorem dX10_decryptBlock_742 : decode cX10_decryptBlock 742 = .ok (.iaload, 1) := dk_46 (dk_at dksX10_decryptBlock_31 9 rfl rfl)
theorem dX10_decryptBlock_743 : decode cX10_decryptBlock 743 = .ok (.getstatic 119, 3) := dk_178 0 119 (dk_at dksX10_decryptBlock_31 10 rfl rfl)
theorem dX10_decryptBlock_746 : decode cX10_decryptBlock 746 = .ok (.iload 17, 2) := dk_21 17 (dk_at dksX10_decryptBlock_31 13 rfl rfl)
theorem dX10_decryptBlock_748 : decode cX10_decryptBlock 748 = .ok (.bipush 8, 2) := dk_16 8 (dk_at dksX10_decryptBlock_31 15 rfl rfl)
theorem dX10_decryptBlock_750 : decode cX10_decryptBlock 750 = .ok (.ishr, 1) := dk_122 (dk_at dksX10_decryptBlock_31 17 rfl rfl)
theorem dX10_decryptBlock_751 : decode cX10_decryptBlock 751 = .ok (.sipush 255, 3) := dk_17 0 255 (dk_at dksX10_decryptBlock_31 18 rfl rfl)
theorem dX10_decryptBlock_754 : decode cX10_decryptBlock 754 = .ok (.iand, 1) := dk_126 (dk_at dksX10_decryptBlock_31 21 rfl rfl)
theorem dX10_decryptBlock_755 : decode cX10_decryptBlock 755 = .ok (.iaload, 1) := dk_46 (dk_at dksX10_decryptBlock_31 22 rfl rfl)
theorem dX10_decryptBlock_756 : decode cX10_decryptBlock 756 = .ok (.bipush 24, 2) := dk_16 24 (dk_at dksX10_decryptBlock_32 0 rfl rfl)
theorem dX10_decryptBlock_758 : decode cX10_decryptBlock 758 = .ok (.invokestatic 7, 3) := dk_184 0 7 (dk_at dksX10_decryptBlock_32 2 rfl rfl)
theorem dX10_decryptBlock_761 : decode cX10_decryptBlock 761 = .ok (.ixor, 1) := dk_130 (dk_at dksX10_decryptBlock_32 5 rfl rfl)
theorem dX10_decryptBlock_762 : decode cX10_decryptBlock 762 = .ok (.getstatic 119, 3) := dk_178 0 119 (dk_at dksX10_decryptBlock_32 6 rfl rfl)
theorem dX10_decryptBlock_765 : decode cX10_decryptBlock 765 = .ok (.iload 12, 2) := dk_21 12 (dk_at dksX10_decryptBlock_32 9 rfl rfl)
theorem dX10_decryptBlock_767 : decode cX10_decryptBlock 767 = .ok (.bipush 16, 2) := dk_16 16 (dk_at dksX10_decryptBlock_32 11 rfl rfl)
theorem dX10_decryptBlock_769 : decode cX10_decryptBlock 769 = .ok (.ishr, 1) := dk_122 (dk_at dksX10_decryptBlock_32 13 rfl rfl)
theorem dX10_decryptBlock_770 : decode cX10_decryptBlock 770 = .ok (.sipush 255, 3) := dk_17 0 255 (dk_at dksX10_decryptBlock_32 14 rfl rfl)
theorem dX10_decryptBlock_773 : decode cX10_decryptBlock 773 = .ok (.iand, 1) := dk_126 (dk_at dksX10_decryptBlock_32 17 rfl rfl)
theorem dX10_decryptBlock_774 : decode cX10_decryptBlock 774 = .ok (.iaload, 1) := dk_46 (dk_at dksX10_decryptBlock_32 18 rfl rfl)
theorem dX10_decryptBlock_775 : decode cX10_decryptBlock 775 = .ok (.bipush 16, 2) := dk_16 16 (dk_at dksX10_decryptBlock_32 19 rfl rfl)
theorem dX10_decryptBlock_777 : decode cX10_decryptBlock 777 = .ok (.invokestatic 7, 3) := dk_184 0 7 (dk_at dksX10_decryptBlock_32 21 rfl rfl)
theorem dX10_decryptBlock_780 : decode cX10_decryptBlock 780 = .ok (.ixor, 1) := dk_130 (dk_at dksX10_decryptBlock_33 0 rfl rfl)
theorem dX10_decryptBlock_781 : decode cX10_decryptBlock 781 = .ok (.getstatic 119, 3) := dk_178 0 119 (dk_at dksX10_decryptBlock_33 1 rfl rfl)
theorem dX10_decryptBlock_784 : decode cX10_decryptBlock 784 = .ok (.iload 11, 2) := dk_21 11 (dk_at dksX10_decryptBlock_33 4 rfl rfl)
theorem dX10_decryptBlock_786 : decode cX10_decryptBlock 786 = .ok (.bipush 24, 2) := dk_16 24 (dk_at dksX10_decryptBlock_33 6 rfl rfl)
theorem dX10_decryptBlock_788 : decode cX10_decryptBlock 788 = .ok (.ishr, 1) := dk_122 (dk_at dksX10_decryptBlock_33 8 rfl rfl)
theorem dX10_decryptBlock_789 : decode cX10_decryptBlock 789 = .ok (.sipush 255, 3) := dk_17 0 255 (dk_at dksX10_decryptBlock_33 9 rfl rfl)
theorem dX10_decryptBlock_792 : decode cX10_decryptBlock 792 = .ok (.iand, 1) := dk_126 (dk_at dksX10_decryptBlock_33 12 rfl rfl)
theorem dX10_decryptBlock_793 : decode cX10_decryptBlock 793 = .ok (.iaload, 1) := dk_46 (dk_at dksX10_decryptBlock_33 13 rfl rfl)
theorem dX10_decryptBlock_794 : decode cX10_decryptBlock 794 = .ok (.bipush 8, 2) := dk_16 8 (dk_at dksX10_decryptBlock_33 14 rfl rfl)
theorem dX10_decryptBlock_796 : decode cX10_decryptBlock 796 = .ok (.invokestatic 7, 3) := dk_184 0 7 (dk_at dksX10_decryptBlock_33 16 rfl rfl)
theorem dX10_decryptBlock_799 : decode cX10_decryptBlock 799 = .ok (.ixor, 1) := dk_130 (dk_at dksX10_decryptBlock_33 19 rfl rfl)
theorem dX10_decryptBlock_800 : decode cX10_decryptBlock 800 = .ok (.aload 5, 2) := dk_25 5 (dk_at dksX10_decryptBlock_33 20 rfl rfl)
theorem dX10_decryptBlock_802 : decode cX10_decryptBlock 802 = .ok (.iload 13, 2) := dk_21 13 (dk_at dksX10_decryptBlock_33 22 rfl rfl)
theorem dX10_decryptBlock_804 : decode cX10_decryptBlock 804 = .ok (.aaload, 1) := dk_50 (dk_at dksX10_decryptBlock_34 0 rfl rfl)
theorem dX10_decryptBlock_805 : decode cX10_decryptBlock 805 = .ok (.iconst 0, 1) := dk_3 (dk_at dksX10_decryptBlock_34 1 rfl rfl)
theorem dX10_decryptBlock_806 : decode cX10_decryptBlock 806 = .ok (.iaload, 1) := dk_46 (dk_at dksX10_decryptBlock_34 2 rfl rfl)
theorem dX10_decryptBlock_807 : decode cX10_decryptBlock 807 = .ok (.ixor, 1) := dk_130 (dk_at dksX10_decryptBlock_34 3 rfl rfl)
theorem dX10_decryptBlock_808 : decode cX10_decryptBlock 808 = .ok (.istore 14, 2) := dk_54 14 (dk_at dksX10_decryptBlock_34 4 rfl rfl)
theorem dX10_decryptBlock_810 : decode cX10_decryptBlock 810 = .ok (.getstatic 119, 3) := dk_178 0 119 (dk_at dksX10_decryptBlock_34 6 rfl rfl)
theorem dX10_decryptBlock_813 : decode cX10_decryptBlock 813 = .ok (.iload 11, 2) := dk_21 11 (dk_at dksX10_decryptBlock_34 9 rfl rfl)
theorem dX10_decryptBlock_815 : decode cX10_decryptBlock 815 = .ok (.sipush 255, 3) := dk_17 0 255 (dk_at dksX10_decryptBlock_34 11 rfl rfl)
theorem dX10_decryptBlock_818 : decode cX10_decryptBlock 818 = .ok (.iand, 1) := dk_126 (dk_at dksX10_decryptBlock_34 14 rfl rfl)
theorem dX10_decryptBlock_819 : decode cX10_decryptBlock 819 = .ok (.iaload, 1) := dk_46 (dk_at dksX10_decryptBlock_34 15 rfl rfl)
theorem dX10_decryptBlock_820 : decode cX10_decryptBlock 820 = .ok (.getstatic 119, 3) := dk_178 0 119 (dk_at dksX10_decryptBlock_34 16 rfl rfl)
theorem dX10_decryptBlock_823 : decode cX10_decryptBlock 823 = .ok (.iload 10, 2) := dk_21 10 (dk_at dksX10_decryptBlock_34 19 rfl rfl)
theorem dX10_decryptBlock_825 : decode cX10_decryptBlock 825 = .ok (.bipush 8, 2) := dk_16 8 (dk_at dksX10_decryptBlock_34 21 rfl rfl)
theorem dX10_decryptBlock_827 : decode cX10_decryptBlock 827 = .ok (.ishr, 1) := dk_122 (dk_at dksX10_decryptBlock_34 23 rfl rfl)
theorem dX10_decryptBlock_828 : decode cX10_decryptBlock 828 = .ok (.sipush 255, 3) := dk_17 0 255 (dk_at dksX10_decryptBlock_35 0 rfl rfl)
theorem dX10_decryptBlock_831 : decode cX10_decryptBlock 831 = .ok (.iand, 1) := dk_126 (dk_at dksX10_decryptBlock_35 3 rfl rfl)
theorem dX10_decryptBlock_832 : decode cX10_decryptBlock 832 = .ok (.iaload, 1) := dk_46 (dk_at dksX10_decryptBlock_35 4 rfl rfl)
theorem dX10_decryptBlock_833 : decode cX10_decryptBlock 833 = .ok (.bipush 24, 2) := dk_16 24 (dk_at dksX10_decryptBlock_35 5 rfl rfl)
theorem dX10_decryptBlock_835 : decode cX10_decryptBlock 835 = .ok (.invokestatic 7, 3) := dk_184 0 7 (dk_at dksX10_decryptBlock_35 7 rfl rfl)
theorem dX10_decryptBlock_838 : decode cX10_decryptBlock 838 = .ok (.ixor, 1) := dk_130 (dk_at dksX10_decryptBlock_35 10 rfl rfl)
theorem dX10_decryptBlock_839 : decode cX10_decryptBlock 839 = .ok (.getstatic 119, 3) := dk_178 0 119 (dk_at dksX10_decryptBlock_35 11 rfl rfl)
theorem dX10_decryptBlock_842 : decode cX10_decryptBlock 842 = .ok (.iload 17, 2) := dk_21 17 (dk_at dksX10_decryptBlock_35 14 rfl rfl)
theorem dX10_decryptBlock_844 : decode cX10_decryptBlock 844 = .ok (.bipush 16, 2) := dk_16 16 (dk_at dksX10_decryptBlock_35 16 rfl rfl)
theorem dX10_decryptBlock_846 : decode cX10_decryptBlock 846 = .ok (.ishr, 1) := dk_122 (dk_at dksX10_decryptBlock_35 18 rfl rfl)
theorem dX10_decryptBlock_847 : decode cX10_decryptBlock 847 = .ok (.sipush 255, 3) := dk_17 0 255 (dk_at dksX10_decryptBlock_35 19 rfl rfl)
theorem dX10_decryptBlock_850 : decode cX10_decryptBlock 850 = .ok (.iand, 1) := dk_126 (dk_at dksX10_decryptBlock_35 22 rfl rfl)
theorem dX10_decryptBlock_851 : decode cX10_decryptBlock 851 = .ok (.iaload, 1) := dk_46 (dk_at dksX10_decryptBlock_35 23 rfl rfl)
theorem dX10_decryptBlock_852 : decode cX10_decryptBlock 852 = .ok (.bipush 16, 2) := dk_16 16 (dk_at dksX10_decryptBlock_36 0 rfl rfl)
theorem dX10_decryptBlock_854 : decode cX10_decryptBlock 854 = .ok (.invokestatic 7, 3) := dk_184 0 7 (dk_at dksX10_decryptBlock_36 2 rfl rfl)
theorem dX10_decryptBlock_857 : decode cX10_decryptBlock 857 = .ok (.ixor, 1) := dk_130 (dk_at dksX10_decryptBlock_36 5 rfl rfl)
theorem dX10_decryptBlock_858 : decode cX10_decryptBlock 858 = .ok (.getstatic 119, 3) := dk_178 0 119 (dk_at dksX10_decryptBlock_36 6 rfl rfl)
theorem dX10_decryptBlock_861 : decode cX10_decryptBlock 861 = .ok (.iload 12, 2) := dk_21 12 (dk_at dksX10_decryptBlock_36 9 rfl rfl)
theorem dX10_decryptBlock_863 : decode cX10_decryptBlock 863 = .ok (.bipush 24, 2) := dk_16 24 (dk_at dksX10_decryptBlock_36 11 rfl rfl)
theorem dX10_decryptBlock_865 : decode cX10_decryptBlock 865 = .ok (.ishr, 1) := dk_122 (dk_at dksX10_decryptBlock_36 13 rfl rfl)
theorem dX10_decryptBlock_866 : decode cX10_decryptBlock 866 = .ok (.sipush 255, 3) := dk_17 0 255 (dk_at dksX10_decryptBlock_36 14 rfl rfl)
theorem dX10_decryptBlock_869 : decode cX10_decryptBlock 869 = .ok (.iand, 1) := dk_126 (dk_at dksX10_decryptBlock_36 17 rfl rfl)
theorem dX10_decryptBlock_870 : decode cX10_decryptBlock 870 = .ok (.iaload, 1) := dk_46 (dk_at dksX10_decryptBlock_36 18 rfl rfl)
theorem dX10_decryptBlock_871 : decode cX10_decryptBlock 871 = .ok (.bipush 8, 2) := dk_16 8 (dk_at dksX10_decryptBlock_36 19 rfl rfl)
theorem dX10_decryptBlock_873 : decode cX10_decryptBlock 873 = .ok (.invokestatic 7, 3) := dk_184 0 7 (dk_at dksX10_decryptBlock_36 21 rfl rfl)
theorem dX10_decryptBlock_876 : decode cX10_decryptBlock 876 = .ok (.ixor, 1) := dk_130 (dk_at dksX10_decryptBlock_37 0 rfl rfl)
theorem dX10_decryptBlock_877 : decode cX10_decryptBlock 877 = .ok (.aload 5, 2) := dk_25 5 (dk_at dksX10_decryptBlock_37 1 rfl rfl)
theorem dX10_decryptBlock_879 : decode cX10_decryptBlock 879 = .ok (.iload 13, 2) := dk_21 13 (dk_at dksX10_decryptBlock_37 3 rfl rfl)
theorem dX10_decryptBlock_881 : decode cX10_decryptBlock 881 = .ok (.aaload, 1) := dk_50 (dk_at dksX10_decryptBlock_37 5 rfl rfl)
theorem dX10_decryptBlock_882 : decode cX10_decryptBlock 882 = .ok (.iconst 1, 1) := dk_4 (dk_at dksX10_decryptBlock_37 6 rfl rfl)
theorem dX10_decryptBlock_883 : decode cX10_decryptBlock 883 = .ok (.iaload, 1) := dk_46 (dk_at dksX10_decryptBlock_37 7 rfl rfl)
theorem dX10_decryptBlock_884 : decode cX10_decryptBlock 884 = .ok (.ixor, 1) := dk_130 (dk_at dksX10_decryptBlock_37 8 rfl rfl)
theorem dX10_decryptBlock_885 : decode cX10_decryptBlock 885 = .ok (.istore 15, 2) := dk_54 15 (dk_at dksX10_decryptBlock_37 9 rfl rfl)
theorem dX10_decryptBlock_887 : decode cX10_decryptBlock 887 = .ok (.getstatic 119, 3) := dk_178 0 119 (dk_at dksX10_decryptBlock_37 11 rfl rfl)
theorem dX10_decryptBlock_890 : decode cX10_decryptBlock 890 = .ok (.iload 12, 2) := dk_21 12 (dk_at dksX10_decryptBlock_37 14 rfl rfl)
theorem dX10_decryptBlock_892 : decode cX10_decryptBlock 892 = .ok (.sipush 255, 3) := dk_17 0 255 (dk_at dksX10_decryptBlock_37 16 rfl rfl)
theorem dX10_decryptBlock_895 : decode cX10_decryptBlock 895 = .ok (.iand, 1) := dk_126 (dk_at dksX10_decryptBlock_37 19 rfl rfl)
theorem dX10_decryptBlock_896 : decode cX10_decryptBlock 896 = .ok (.iaload, 1) := dk_46 (dk_at dksX10_decryptBlock_37 20 rfl rfl)
theorem dX10_decryptBlock_897 : decode cX10_decryptBlock 897 = .ok (.getstatic 119, 3) := dk_178 0 119 (dk_at dksX10_decryptBlock_37 21 rfl rfl)
theorem dX10_decryptBlock_900 : decode cX10_decryptBlock 900 = .ok (.iload 11, 2) := dk_21 11 (dk_at dksX10_decryptBlock_38 0 rfl rfl)
theorem dX10_decryptBlock_902 : decode cX10_decryptBlock 902 = .ok (.bipush 8, 2) := dk_16 8 (dk_at dksX10_decryptBlock_38 2 rfl rfl)
theorem dX10_decryptBlock_904 : decode cX10_decryptBlock 904 = .ok (.ishr, 1) := dk_122 (dk_at dksX10_decryptBlock_38 4 rfl rfl)
theorem dX10_decryptBlock_905 : decode cX10_decryptBlock 905 = .ok (.sipush 255, 3) := dk_17 0 255 (dk_at dksX10_decryptBlock_38 5 rfl rfl)
theorem dX10_decryptBlock_908 : decode cX10_decryptBlock 908 = .ok (.iand, 1) := dk_126 (dk_at dksX10_decryptBlock_38 8 rfl rfl)
theorem dX10_decryptBlock_909 : decode cX10_decryptBlock 909 = .ok (.iaload, 1) := dk_46 (dk_at dksX10_decryptBlock_38 9 rfl rfl)
theorem dX10_decryptBlock_910 : decode cX10_decryptBlock 910 = .ok (.bipush 24, 2) := dk_16 24 (dk_at dksX10_decryptBlock_38 10 rfl rfl)
theorem dX10_decryptBlock_912 : decode cX10_decryptBlock 912 = .ok (.invokestatic 7, 3) := dk_184 0 7 (dk_at dksX10_decryptBlock_38 12 rfl rfl)
theorem dX10_decryptBlock_915 : decode cX10_decryptBlock 915 = .ok (.ixor, 1) := dk_130 (dk_at dksX10_decryptBlock_38 15 rfl rfl)
theorem dX10_decryptBlock_916 : decode cX10_decryptBlock 916 = .ok (.getstatic 119, 3) := dk_178 0 119 (dk_at dksX10_decryptBlock_38 16 rfl rfl)
theorem dX10_decryptBlock_919 : decode cX10_decryptBlock 919 = .ok (.iload 10, 2) := dk_21 10 (dk_at dksX10_decryptBlock_38 19 rfl rfl)
theorem dX10_decryptBlock_921 : decode cX10_decryptBlock 921 = .ok (.bipush 16, 2) := dk_16 16 (dk_at dksX10_decryptBlock_38 21 rfl rfl)
theorem dX10_decryptBlock_923 : decode cX10_decryptBlock 923 = .ok (.ishr, 1) := dk_122 (dk_at dksX10_decryptBlock_38 23 rfl rfl)
theorem dX10_decryptBlock_924 : decode cX10_decryptBlock 924 = .ok (.sipush 255, 3) := dk_17 0 255 (dk_at dksX10_decryptBlock_39 0 rfl rfl)
theorem dX10_decryptBlock_927 : decode cX10_decryptBlock 927 = .ok (.iand, 1) := dk_126 (dk_at dksX10_decryptBlock_39 3 rfl rfl)
theorem dX10_decryptBlock_928 : decode cX10_decryptBlock 928 = .ok (.iaload, 1) := dk_46 (dk_at dksX10_decryptBlock_39 4 rfl rfl)
theorem dX10_decryptBlock_929 : decode cX10_decryptBlock 929 = .ok (.bipush 16, 2) := dk_16 16 (dk_at dksX10_decryptBlock_39 5 rfl rfl)
theorem dX10_decryptBlock_931 : decode cX10_decryptBlock 931 = .ok (.invokestatic 7, 3) := dk_184 0 7 (dk_at dksX10_decryptBlock_39 7 rfl rfl)
theorem dX10_decryptBlock_934 : decode cX10_decryptBlock 934 = .ok (.ixor, 1) := dk_130 (dk_at dksX10_decryptBlock_39 10 rfl rfl)
theorem dX10_decryptBlock_935 : decode cX10_decryptBlock 935 = .ok (.getstatic 119, 3) := dk_178 0 119 (dk_at dksX10_decryptBlock_39 11 rfl rfl)
theorem dX10_decryptBlock_938 : decode cX10_decryptBlock 938 = .ok (.iload 17, 2) := dk_21 17 (dk_at dksX10_decryptBlock_39 14 rfl rfl)
theorem dX10_decryptBlock_940 : decode cX10_decryptBlock 940 = .ok (.bipush 24, 2) := dk_16 24 (dk_at dksX10_decryptBlock_39 16 rfl rfl)
theorem dX10_decryptBlock_942 : decode cX10_decryptBlock 942 = .ok (.ishr, 1) := dk_122 (dk_at dksX10_decryptBlock_39 18 rfl rfl)
theorem dX10_decryptBlock_943 : decode cX10_decryptBlock 943 = .ok (.sipush 255, 3) := dk_17 0 255 (dk_at dksX10_decryptBlock_39 19 rfl rfl)
theorem dX10_decryptBlock_946 : decode cX10_decryptBlock 946 = .ok (.iand, 1) := dk_126 (dk_at dksX10_decryptBlock_39 22 rfl rfl)
theorem dX10_decryptBlock_947 : decode cX10_decryptBlock 947 = .ok (.iaload, 1) := dk_46 (dk_at dksX10_decryptBlock_39 23 rfl rfl)
theorem dX10_decryptBlock_948 : decode cX10_decryptBlock 948 = .ok (.bipush 8, 2) := dk_16 8 (dk_at dksX10_decryptBlock_40 0 rfl rfl)
theorem dX10_decryptBlock_950 : decode cX10_decryptBlock 950 = .ok (.invokestatic 7, 3) := dk_184 0 7 (dk_at dksX10_decryptBlock_40 2 rfl rfl)
theorem dX10_decryptBlock_953 : decode cX10_decryptBlock 953 = .ok (.ixor, 1) := dk_130 (dk_at dksX10_decryptBlock_40 5 rfl rfl)
theorem dX10_decryptBlock_954 : decode cX10_decryptBlock 954 = .ok (.aload 5, 2) := dk_25 5 (dk_at dksX10_decryptBlock_40 6 rfl rfl)
theorem dX10_decryptBlock_956 : decode cX10_decryptBlock 956 = .ok (.iload 13, 2) := dk_21 13 (dk_at dksX10_decryptBlock_40 8 rfl rfl)
theorem dX10_decryptBlock_958 : decode cX10_decryptBlock 958 = .ok (.aaload, 1) := dk_50 (dk_at dksX10_decryptBlock_40 10 rfl rfl)
theorem dX10_decryptBlock_959 : decode cX10_decryptBlock 959 = .ok (.iconst 2, 1) := dk_5 (dk_at dksX10_decryptBlock_40 11 rfl rfl)
theorem dX10_decryptBlock_960 : decode cX10_decryptBlock 960 = .ok (.iaload, 1) := dk_46 (dk_at dksX10_decryptBlock_40 12 rfl rfl)
theorem dX10_decryptBlock_961 : decode cX10_decryptBlock 961 = .ok (.ixor, 1) := dk_130 (dk_at dksX10_decryptBlock_40 13 rfl rfl)
theorem dX10_decryptBlock_962 : decode cX10_decryptBlock 962 = .ok (.istore 16, 2) := dk_54 16 (dk_at dksX10_decryptBlock_40 14 rfl rfl)
theorem dX10_decryptBlock_964 : decode cX10_decryptBlock 964 = .ok (.getstatic 119, 3) := dk_178 0 119 (dk_at dksX10_decryptBlock_40 16 rfl rfl)
theorem dX10_decryptBlock_967 : decode cX10_decryptBlock 967 = .ok (.iload 17, 2) := dk_21 17 (dk_at dksX10_decryptBlock_40 19 rfl rfl)
theorem dX10_decryptBlock_969 : decode cX10_decryptBlock 969 = .ok (.sipush 255, 3) := dk_17 0 255 (dk_at dksX10_decryptBlock_40 21 rfl rfl)
theorem dX10_decryptBlock_972 : decode cX10_decryptBlock 972 = .ok (.iand, 1) := dk_126 (dk_at dksX10_decryptBlock_41 0 rfl rfl)
theorem dX10_decryptBlock_973 : decode cX10_decryptBlock 973 = .ok (.iaload, 1) := dk_46 (dk_at dksX10_decryptBlock_41 1 rfl rfl)
theorem dX10_decryptBlock_974 : decode cX10_decryptBlock 974 = .ok (.getstatic 119, 3) := dk_178 0 119 (dk_at dksX10_decryptBlock_41 2 rfl rfl)
theorem dX10_decryptBlock_977 : decode cX10_decryptBlock 977 = .ok (.iload 12, 2) := dk_21 12 (dk_at dksX10_decryptBlock_41 5 rfl rfl)
theorem dX10_decryptBlock_979 : decode cX10_decryptBlock 979 = .ok (.bipush 8, 2) := dk_16 8 (dk_at dksX10_decryptBlock_41 7 rfl rfl)
theorem dX10_decryptBlock_981 : decode cX10_decryptBlock 981 = .ok (.ishr, 1) := dk_122 (dk_at dksX10_decryptBlock_41 9 rfl rfl)
theorem dX10_decryptBlock_982 : decode cX10_decryptBlock 982 = .ok (.sipush 255, 3) := dk_17 0 255 (dk_at dksX10_decryptBlock_41 10 rfl rfl)
theorem dX10_decryptBlock_985 : decode cX10_decryptBlock 985 = .ok (.iand, 1) := dk_126 (dk_at dksX10_decryptBlock_41 13 rfl rfl)
theorem dX10_decryptBlock_986 : decode cX10_decryptBlock 986 = .ok (.iaload, 1) := dk_46 (dk_at dksX10_decryptBlock_41 14 rfl rfl)
theorem dX10_decryptBlock_987 : decode cX10_decryptBlock 987 = .ok (.bipush 24, 2) := dk_16 24 (dk_at dksX10_decryptBlock_41 15 rfl rfl)
theorem dX10_decryptBlock_989 : decode cX10_decryptBlock 989 = .ok (.invokestatic 7, 3) := dk_184 0 7 (dk_at dksX10_decryptBlock_41 17 rfl rfl)
theorem dX10_decryptBlock_992 : decode cX10_decryptBlock 992 = .ok (.ixor, 1) := dk_130 (dk_at dksX10_decryptBlock_41 20 rfl rfl)
theorem dX10_decryptBlock_993 : decode cX10_decryptBlock 993 = .ok (.getstatic 119, 3) := dk_178 0 119 (dk_at dksX10_decryptBlock_41 21 rfl rfl)
theorem dX10_decryptBlock_996 : decode cX10_decryptBlock 996 = .ok (.iload 11, 2) := dk_21 11 (dk_at dksX10_decryptBlock_42 0 rfl rfl)
theorem dX10_decryptBlock_998 : decode cX10_decryptBlock 998 = .ok (.bipush 16, 2) := dk_16 16 (dk_at dksX10_decryptBlock_42 2 rfl rfl)
theorem dX10_decryptBlock_1000 : decode cX10_decryptBlock 1000 = .ok (.ishr, 1) := dk_122 (dk_at dksX10_decryptBlock_42 4 rfl rfl)
theorem dX10_decryptBlock_1001 : decode cX10_decryptBlock 1001 = .ok (.sipush 255, 3) := dk_17 0 255 (dk_at dksX10_decryptBlock_42 5 rfl rfl)
theorem dX10_decryptBlock_1004 : decode cX10_decryptBlock 1004 = .ok (.iand, 1) := dk_126 (dk_at dksX10_decryptBlock_42 8 rfl rfl)
theorem dX10_decryptBlock_1005 : decode cX10_decryptBlock 1005 = .ok (.iaload, 1) := dk_46 (dk_at dksX10_decryptBlock_42 9 rfl rfl)
theorem dX10_decryptBlock_1006 : decode cX10_decryptBlock 1006 = .ok (.bipush 16, 2) := dk_16 16 (dk_at dksX10_decryptBlock_42 10 rfl rfl)
theorem dX10_decryptBlock_1008 : decode cX10_decryptBlock 1008 = .ok (.invokestatic 7, 3) := dk_184 0 7 (dk_at dksX10_decryptBlock_42 12 rfl rfl)
theorem dX10_decryptBlock_1011 : decode cX10_decryptBlock 1011 = .ok (.ixor, 1) := dk_130 (dk_at dksX10_decryptBlock_42 15 rfl rfl)
theorem dX10_decryptBlock_1012 : decode cX10_decryptBlock 1012 = .ok (.getstatic 119, 3) := dk_178 0 119 (dk_at dksX10_decryptBlock_42 16 rfl rfl)
theorem dX10_decryptBlock_1015 : decode cX10_decryptBlock 1015 = .ok (.iload 10, 2) := dk_21 10 (dk_at dksX10_decryptBlock_42 19 rfl rfl)
theorem dX10_decryptBlock_1017 : decode cX10_decryptBlock 1017 = .ok (.bipush 24, 2) := dk_16 24 (dk_at dksX10_decryptBlock_42 21 rfl rfl)
theorem dX10_decryptBlock_1019 : decode cX10_decryptBlock 1019 = .ok (.ishr, 1) := dk_122 (dk_at dksX10_decryptBlock_42 23 rfl rfl)
theorem dX10_decryptBlock_1020 : decode cX10_decryptBlock 1020 = .ok (.sipush 255, 3) := dk_17 0 255 (dk_at dksX10_decryptBlock_43 0 rfl rfl)
theorem dX10_decryptBlock_1023 : decode cX10_decryptBlock 1023 = .ok (.iand, 1) := dk_126 (dk_at dksX10_decryptBlock_43 3 rfl rfl)
theorem dX10_decryptBlock_1024 : decode cX10_decryptBlock 1024 = .ok (.iaload, 1) := dk_46 (dk_at dksX10_decryptBlock_43 4 rfl rfl)
theorem dX10_decryptBlock_1025 : decode cX10_decryptBlock 1025 = .ok (.bipush 8, 2) := dk_16 8 (dk_at dksX10_decryptBlock_43 5 rfl rfl)
theorem dX10_decryptBlock_1027 : decode cX10_decryptBlock 1027 = .ok (.invokestatic 7, 3) := dk_184 0 7 (dk_at dksX10_decryptBlock_43 7 rfl rfl)
theorem dX10_decryptBlock_1030 : decode cX10_decryptBlock 1030 = .ok (.ixor, 1) := dk_130 (dk_at dksX10_decryptBlock_43 10 rfl rfl)
theorem dX10_decryptBlock_1031 : decode cX10_decryptBlock 1031 = .ok (.aload 5, 2) := dk_25 5 (dk_at dksX10_decryptBlock_43 11 rfl rfl)
theorem dX10_decryptBlock_1033 : decode cX10_decryptBlock 1033 = .ok (.iload 13, 2) := dk_21 13 (dk_at dksX10_decryptBlock_43 13 rfl rfl)
theorem dX10_decryptBlock_1035 : decode cX10_decryptBlock 1035 = .ok (.aaload, 1) := dk_50 (dk_at dksX10_decryptBlock_43 15 rfl rfl)
theorem dX10_decryptBlock_1036 : decode cX10_decryptBlock 1036 = .ok (.iconst 3, 1) := dk_6 (dk_at dksX10_decryptBlock_43 16 rfl rfl)
theorem dX10_decryptBlock_1037 : decode cX10_decryptBlock 1037 = .ok (.iaload, 1) := dk_46 (dk_at dksX10_decryptBlock_43 17 rfl rfl)
theorem dX10_decryptBlock_1038 : decode cX10_decryptBlock 1038 = .ok (.ixor, 1) := dk_130 (dk_at dksX10_decryptBlock_43 18 rfl rfl)
theorem dX10_decryptBlock_1039 : decode cX10_decryptBlock 1039 = .ok (.istore 17, 2) := dk_54 17 (dk_at dksX10_decryptBlock_43 19 rfl rfl)
theorem dX10_decryptBlock_1041 : decode cX10_decryptBlock 1041 = .ok (.getstatic 88, 3) := dk_178 0 88 (dk_at dksX10_decryptBlock_43 21 rfl rfl)
theorem dX10_decryptBlock_1044 : decode cX10_decryptBlock 1044 = .ok (.iload 14, 2) := dk_21 14 (dk_at dksX10_decryptBlock_44 0 rfl rfl)
theorem dX10_decryptBlock_1046 : decode cX10_decryptBlock 1046 = .ok (.sipush 255, 3) := dk_17 0 255 (dk_at dksX10_decryptBlock_44 2 rfl rfl)
theorem dX10_decryptBlock_1049 : decode cX10_decryptBlock 1049 = .ok (.iand, 1) := dk_126 (dk_at dksX10_decryptBlock_44 5 rfl rfl)
theorem dX10_decryptBlock_1050 : decode cX10_decryptBlock 1050 = .ok (.baload, 1) := dk_51 (dk_at dksX10_decryptBlock_44 6 rfl rfl)
theorem dX10_decryptBlock_1051 : decode cX10_decryptBlock 1051 = .ok (.sipush 255, 3) := dk_17 0 255 (dk_at dksX10_decryptBlock_44 7 rfl rfl)
theorem dX10_decryptBlock_1054 : decode cX10_decryptBlock 1054 = .ok (.iand, 1) := dk_126 (dk_at dksX10_decryptBlock_44 10 rfl rfl)
theorem dX10_decryptBlock_1055 : decode cX10_decryptBlock 1055 = .ok (.aload_n 0, 1) := dk_42 (dk_at dksX10_decryptBlock_44 11 rfl rfl)
theorem dX10_decryptBlock_1056 : decode cX10_decryptBlock 1056 = .ok (.getfield 85, 3) := dk_180 0 85 (dk_at dksX10_decryptBlock_44 12 rfl rfl)
theorem dX10_decryptBlock_1059 : decode cX10_decryptBlock 1059 = .ok (.iload 17, 2) := dk_21 17 (dk_at dksX10_decryptBlock_44 15 rfl rfl)
theorem dX10_decryptBlock_1061 : decode cX10_decryptBlock 1061 = .ok (.bipush 8, 2) := dk_16 8 (dk_at dksX10_decryptBlock_44 17 rfl rfl)
theorem dX10_decryptBlock_1063 : decode cX10_decryptBlock 1063 = .ok (.ishr, 1) := dk_122 (dk_at dksX10_decryptBlock_44 19 rfl rfl)
theorem dX10_decryptBlock_1064 : decode cX10_decryptBlock 1064 = .ok (.sipush 255, 3) := dk_17 0 255 (dk_at dksX10_decryptBlock_44 20 rfl rfl)
theorem dX10_decryptBlock_1067 : decode cX10_decryptBlock 1067 = .ok (.iand, 1) := dk_126 (dk_at dksX10_decryptBlock_44 23 rfl rfl)
theorem dX10_decryptBlock_1068 : decode cX10_decryptBlock 1068 = .ok (.baload, 1) := dk_51 (dk_at dksX10_decryptBlock_45 0 rfl rfl)
theorem dX10_decryptBlock_1069 : decode cX10_decryptBlock 1069 = .ok (.sipush 255, 3) := dk_17 0 255 (dk_at dksX10_decryptBlock_45 1 rfl rfl)
theorem dX10_decryptBlock_1072 : decode cX10_decryptBlock 1072 = .ok (.iand, 1) := dk_126 (dk_at dksX10_decryptBlock_45 4 rfl rfl)
theorem dX10_decryptBlock_1073 : decode cX10_decryptBlock 1073 = .ok (.bipush 8, 2) := dk_16 8 (dk_at dksX10_decryptBlock_45 5 rfl rfl)
theorem dX10_decryptBlock_1075 : decode cX10_decryptBlock 1075 = .ok (.ishl, 1) := dk_120 (dk_at dksX10_decryptBlock_45 7 rfl rfl)
theorem dX10_decryptBlock_1076 : decode cX10_decryptBlock 1076 = .ok (.ixor, 1) := dk_130 (dk_at dksX10_decryptBlock_45 8 rfl rfl)
theorem dX10_decryptBlock_1077 : decode cX10_decryptBlock 1077 = .ok (.aload_n 0, 1) := dk_42 (dk_at dksX10_decryptBlock_45 9 rfl rfl)
theorem dX10_decryptBlock_1078 : decode cX10_decryptBlock 1078 = .ok (.getfield 85, 3) := dk_180 0 85 (dk_at dksX10_decryptBlock_45 10 rfl rfl)
theorem dX10_decryptBlock_1081 : decode cX10_decryptBlock 1081 = .ok (.iload 16, 2) := dk_21 16 (dk_at dksX10_decryptBlock_45 13 rfl rfl)
theorem dX10_decryptBlock_1083 : decode cX10_decryptBlock 1083 = .ok (.bipush 16, 2) := dk_16 16 (dk_at dksX10_decryptBlock_45 15 rfl rfl)
theorem dX10_decryptBlock_1085 : decode cX10_decryptBlock 1085 = .ok (.ishr, 1) := dk_122 (dk_at dksX10_decryptBlock_45 17 rfl rfl)
theorem dX10_decryptBlock_1086 : decode cX10_decryptBlock 1086 = .ok (.sipush 255, 3) := dk_17 0 255 (dk_at dksX10_decryptBlock_45 18 rfl rfl)
theorem dX10_decryptBlock_1089 : decode cX10_decryptBlock 1089 = .ok (.iand, 1) := dk_126 (dk_at dksX10_decryptBlock_45 21 rfl rfl)
theorem dX10_decryptBlock_1090 : decode cX10_decryptBlock 1090 = .ok (.baload, 1) := dk_51 (dk_at dksX10_decryptBlock_45 22 rfl rfl)
theorem dX10_decryptBlock_1091 : decode cX10_decryptBlock 1091 = .ok (.sipush 255, 3) := dk_17 0 255 (dk_at dksX10_decryptBlock_46 0 rfl rfl)
theorem dX10_decryptBlock_1094 : decode cX10_decryptBlock 1094 = .ok (.iand, 1) := dk_126 (dk_at dksX10_decryptBlock_46 3 rfl rfl)
theorem dX10_decryptBlock_1095 : decode cX10_decryptBlock 1095 = .ok (.bipush 16, 2) := dk_16 16 (dk_at dksX10_decryptBlock_46 4 rfl rfl)
theorem dX10_decryptBlock_1097 : decode cX10_decryptBlock 1097 = .ok (.ishl, 1) := dk_120 (dk_at dksX10_decryptBlock_46 6 rfl rfl)
theorem dX10_decryptBlock_1098 : decode cX10_decryptBlock 1098 = .ok (.ixor, 1) := dk_130 (dk_at dksX10_decryptBlock_46 7 rfl rfl)
theorem dX10_decryptBlock_1099 : decode cX10_decryptBlock 1099 = .ok (.getstatic 88, 3) := dk_178 0 88 (dk_at dksX10_decryptBlock_46 8 rfl rfl)
theorem dX10_decryptBlock_1102 : decode cX10_decryptBlock 1102 = .ok (.iload 15, 2) := dk_21 15 (dk_at dksX10_decryptBlock_46 11 rfl rfl)
theorem dX10_decryptBlock_1104 : decode cX10_decryptBlock 1104 = .ok (.bipush 24, 2) := dk_16 24 (dk_at dksX10_decryptBlock_46 13 rfl rfl)
theorem dX10_decryptBlock_1106 : decode cX10_decryptBlock 1106 = .ok (.ishr, 1) := dk_122 (dk_at dksX10_decryptBlock_46 15 rfl rfl)
theorem dX10_decryptBlock_1107 : decode cX10_decryptBlock 1107 = .ok (.sipush 255, 3) := dk_17 0 255 (dk_at dksX10_decryptBlock_46 16 rfl rfl)
theorem dX10_decryptBlock_1110 : decode cX10_decryptBlock 1110 = .ok (.iand, 1) := dk_126 (dk_at dksX10_decryptBlock_46 19 rfl rfl)
theorem dX10_decryptBlock_1111 : decode cX10_decryptBlock 1111 = .ok (.baload, 1) := dk_51 (dk_at dksX10_decryptBlock_46 20 rfl rfl)
theorem dX10_decryptBlock_1112 : decode cX10_decryptBlock 1112 = .ok (.bipush 24, 2) := dk_16 24 (dk_at dksX10_decryptBlock_46 21 rfl rfl)
theorem dX10_decryptBlock_1114 : decode cX10_decryptBlock 1114 = .ok (.ishl, 1) := dk_120 (dk_at dksX10_decryptBlock_46 23 rfl rfl)
theorem dX10_decryptBlock_1115 : decode cX10_decryptBlock 1115 = .ok (.ixor, 1) := dk_130 (dk_at dksX10_decryptBlock_47 0 rfl rfl)
theorem dX10_decryptBlock_1116 : decode cX10_decryptBlock 1116 = .ok (.aload 5, 2) := dk_25 5 (dk_at dksX10_decryptBlock_47 1 rfl rfl)
theorem dX10_decryptBlock_1118 : decode cX10_decryptBlock 1118 = .ok (.iconst 0, 1) := dk_3 (dk_at dksX10_decryptBlock_47 3 rfl rfl)
theorem dX10_decryptBlock_1119 : decode cX10_decryptBlock 1119 = .ok (.aaload, 1) := dk_50 (dk_at dksX10_decryptBlock_47 4 rfl rfl)
theorem dX10_decryptBlock_1120 : decode cX10_decryptBlock 1120 = .ok (.iconst 0, 1) := dk_3 (dk_at dksX10_decryptBlock_47 5 rfl rfl)
theorem dX10_decryptBlock_1121 : decode cX10_decryptBlock 1121 = .ok (.iaload, 1) := dk_46 (dk_at dksX10_decryptBlock_47 6 rfl rfl)
theorem dX10_decryptBlock_1122 : decode cX10_decryptBlock 1122 = .ok (.ixor, 1) := dk_130 (dk_at dksX10_decryptBlock_47 7 rfl rfl)
theorem dX10_decryptBlock_1123 : decode cX10_decryptBlock 1123 = .ok (.istore 6, 2) := dk_54 6 (dk_at dksX10_decryptBlock_47 8 rfl rfl)
theorem dX10_decryptBlock_1125 : decode cX10_decryptBlock 1125 = .ok (.aload_n 0, 1) := dk_42 (dk_at dksX10_decryptBlock_47 10 rfl rfl)
theorem dX10_decryptBlock_1126 : decode cX10_decryptBlock 1126 = .ok (.getfield 85, 3) := dk_180 0 85 (dk_at dksX10_decryptBlock_47 11 rfl rfl)
theorem dX10_decryptBlock_1129 : decode cX10_decryptBlock 1129 = .ok (.iload 15, 2) := dk_21 15 (dk_at dksX10_decryptBlock_47 14 rfl rfl)
theorem dX10_decryptBlock_1131 : decode cX10_decryptBlock 1131 = .ok (.sipush 255, 3) := dk_17 0 255 (dk_at dksX10_decryptBlock_47 16 rfl rfl)
theorem dX10_decryptBlock_1134 : decode cX10_decryptBlock 1134 = .ok (.iand, 1) := dk_126 (dk_at dksX10_decryptBlock_47 19 rfl rfl)
theorem dX10_decryptBlock_1135 : decode cX10_decryptBlock 1135 = .ok (.baload, 1) := dk_51 (dk_at dksX10_decryptBlock_47 20 rfl rfl)
theorem dX10_decryptBlock_1136 : decode cX10_decryptBlock 1136 = .ok (.sipush 255, 3) := dk_17 0 255 (dk_at dksX10_decryptBlock_47 21 rfl rfl)
theorem dX10_decryptBlock_1139 : decode cX10_decryptBlock 1139 = .ok (.iand, 1) := dk_126 (dk_at dksX10_decryptBlock_48 0 rfl rfl)
theorem dX10_decryptBlock_1140 : decode cX10_decryptBlock 1140 = .ok (.aload_n 0, 1) := dk_42 (dk_at dksX10_decryptBlock_48 1 rfl rfl)
theorem dX10_decryptBlock_1141 : decode cX10_decryptBlock 1141 = .ok (.getfield 85, 3) := dk_180 0 85 (dk_at dksX10_decryptBlock_48 2 rfl rfl)
theorem dX10_decryptBlock_1144 : decode cX10_decryptBlock 1144 = .ok (.iload 14, 2) := dk_21 14 (dk_at dksX10_decryptBlock_48 5 rfl rfl)
theorem dX10_decryptBlock_1146 : decode cX10_decryptBlock 1146 = .ok (.bipush 8, 2) := dk_16 8 (dk_at dksX10_decryptBlock_48 7 rfl rfl)
theorem dX10_decryptBlock_1148 : decode cX10_decryptBlock 1148 = .ok (.ishr, 1) := dk_122 (dk_at dksX10_decryptBlock_48 9 rfl rfl)
theorem dX10_decryptBlock_1149 : decode cX10_decryptBlock 1149 = .ok (.sipush 255, 3) := dk_17 0 255 (dk_at dksX10_decryptBlock_48 10 rfl rfl)
theorem dX10_decryptBlock_1152 : decode cX10_decryptBlock 1152 = .ok (.iand, 1) := dk_126 (dk_at dksX10_decryptBlock_48 13 rfl rfl)
theorem dX10_decryptBlock_1153 : decode cX10_decryptBlock 1153 = .ok (.baload, 1) := dk_51 (dk_at dksX10_decryptBlock_48 14 rfl rfl)
theorem dX10_decryptBlock_1154 : decode cX10_decryptBlock 1154 = .ok (.sipush 255, 3) := dk_17 0 255 (dk_at dksX10_decryptBlock_48 15 rfl rfl)
theorem dX10_decryptBlock_1157 : decode cX10_decryptBlock 1157 = .ok (.iand, 1) := dk_126 (dk_at dksX10_decryptBlock_48 18 rfl rfl)
theorem dX10_decryptBlock_1158 : decode cX10_decryptBlock 1158 = .ok (.bipush 8, 2) := dk_16 8 (dk_at dksX10_decryptBlock_48 19 rfl rfl)
theorem dX10_decryptBlock_1160 : decode cX10_decryptBlock 1160 = .ok (.ishl, 1) := dk_120 (dk_at dksX10_decryptBlock_48 21 rfl rfl)
theorem dX10_decryptBlock_1161 : decode cX10_decryptBlock 1161 = .ok (.ixor, 1) := dk_130 (dk_at dksX10_decryptBlock_48 22 rfl rfl)
theorem dX10_decryptBlock_1162 : decode cX10_decryptBlock 1162 = .ok (.getstatic 88, 3) := dk_178 0 88 (dk_at dksX10_decryptBlock_49 0 rfl rfl)
theorem dX10_decryptBlock_1165 : decode cX10_decryptBlock 1165 = .ok (.iload 17, 2) := dk_21 17 (dk_at dksX10_decryptBlock_49 3 rfl rfl)
theorem dX10_decryptBlock_1167 : decode cX10_decryptBlock 1167 = .ok (.bipush 16, 2) := dk_16 16 (dk_at dksX10_decryptBlock_49 5 rfl rfl)
theorem dX10_decryptBlock_1169 : decode cX10_decryptBlock 1169 = .ok (.ishr, 1) := dk_122 (dk_at dksX10_decryptBlock_49 7 rfl rfl)
theorem dX10_decryptBlock_1170 : decode cX10_decryptBlock 1170 = .ok (.sipush 255, 3) := dk_17 0 255 (dk_at dksX10_decryptBlock_49 8 rfl rfl)
theorem dX10_decryptBlock_1173 : decode cX10_decryptBlock 1173 = .ok (.iand, 1) := dk_126 (dk_at dksX10_decryptBlock_49 11 rfl rfl)
theorem dX10_decryptBlock_1174 : decode cX10_decryptBlock 1174 = .ok (.baload, 1) := dk_51 (dk_at dksX10_decryptBlock_49 12 rfl rfl)
theorem dX10_decryptBlock_1175 : decode cX10_decryptBlock 1175 = .ok (.sipush 255, 3) := dk_17 0 255 (dk_at dksX10_decryptBlock_49 13 rfl rfl)
theorem dX10_decryptBlock_1178 : decode cX10_decryptBlock 1178 = .ok (.iand, 1) := dk_126 (dk_at dksX10_decryptBlock_49 16 rfl rfl)
theorem dX10_decryptBlock_1179 : decode cX10_decryptBlock 1179 = .ok (.bipush 16, 2) := dk_16 16 (dk_at dksX10_decryptBlock_49 17 rfl rfl)
theorem dX10_decryptBlock_1181 : decode cX10_decryptBlock 1181 = .ok (.ishl, 1) := dk_120 (dk_at dksX10_decryptBlock_49 19 rfl rfl)
theorem dX10_decryptBlock_1182 : decode cX10_decryptBlock 1182 = .ok (.ixor, 1) := dk_130 (dk_at dksX10_decryptBlock_49 20 rfl rfl)
theorem dX10_decryptBlock_1183 : decode cX10_decryptBlock 1183 = .ok (.aload_n 0, 1) := dk_42 (dk_at dksX10_decryptBlock_49 21 rfl rfl)
theorem dX10_decryptBlock_1184 : decode cX10_decryptBlock 1184 = .ok (.getfield 85, 3) := dk_180 0 85 (dk_at dksX10_decryptBlock_50 0 rfl rfl)
theorem dX10_decryptBlock_1187 : decode cX10_decryptBlock 1187 = .ok (.iload 16, 2) := dk_21 16 (dk_at dksX10_decryptBlock_50 3 rfl rfl)
theorem dX10_decryptBlock_1189 : decode cX10_decryptBlock 1189 = .ok (.bipush 24, 2) := dk_16 24 (dk_at dksX10_decryptBlock_50 5 rfl rfl)
theorem dX10_decryptBlock_1191 : decode cX10_decryptBlock 1191 = .ok (.ishr, 1) := dk_122 (dk_at dksX10_decryptBlock_50 7 rfl rfl)
theorem dX10_decryptBlock_1192 : decode cX10_decryptBlock 1192 = .ok (.sipush 255, 3) := dk_17 0 255 (dk_at dksX10_decryptBlock_50 8 rfl rfl)
theorem dX10_decryptBlock_1195 : decode cX10_decryptBlock 1195 = .ok (.iand, 1) := dk_126 (dk_at dksX10_decryptBlock_50 11 rfl rfl)
theorem dX10_decryptBlock_1196 : decode cX10_decryptBlock 1196 = .ok (.baload, 1) := dk_51 (dk_at dksX10_decryptBlock_50 12 rfl rfl)
theorem dX10_decryptBlock_1197 : decode cX10_decryptBlock 1197 = .ok (.bipush 24, 2) := dk_16 24 (dk_at dksX10_decryptBlock_50 13 rfl rfl)
theorem dX10_decryptBlock_1199 : decode cX10_decryptBlock 1199 = .ok (.ishl, 1) := dk_120 (dk_at dksX10_decryptBlock_50 15 rfl rfl)
theorem dX10_decryptBlock_1200 : decode cX10_decryptBlock 1200 = .ok (.ixor, 1) := dk_130 (dk_at dksX10_decryptBlock_50 16 rfl rfl)
theorem dX10_decryptBlock_1201 : decode cX10_decryptBlock 1201 = .ok (.aload 5, 2) := dk_25 5 (dk_at dksX10_decryptBlock_50 17 rfl rfl)
theorem dX10_decryptBlock_1203 : decode cX10_decryptBlock 1203 = .ok (.iconst 0, 1) := dk_3 (dk_at dksX10_decryptBlock_50 19 rfl rfl)
theorem dX10_decryptBlock_1204 : decode cX10_decryptBlock 1204 = .ok (.aaload, 1) := dk_50 (dk_at dksX10_decryptBlock_50 20 rfl rfl)
theorem dX10_decryptBlock_1205 : decode cX10_decryptBlock 1205 = .ok (.iconst 1, 1) := dk_4 (dk_at dksX10_decryptBlock_50 21 rfl rfl)
theorem dX10_decryptBlock_1206 : decode cX10_decryptBlock 1206 = .ok (.iaload, 1) := dk_46 (dk_at dksX10_decryptBlock_50 22 rfl rfl)
theorem dX10_decryptBlock_1207 : decode cX10_decryptBlock 1207 = .ok (.ixor, 1) := dk_130 (dk_at dksX10_decryptBlock_50 23 rfl rfl)
theorem dX10_decryptBlock_1208 : decode cX10_decryptBlock 1208 = .ok (.istore 7, 2) := dk_54 7 (dk_at dksX10_decryptBlock_51 0 rfl rfl)
theorem dX10_decryptBlock_1210 : decode cX10_decryptBlock 1210 = .ok (.aload_n 0, 1) := dk_42 (dk_at dksX10_decryptBlock_51 2 rfl rfl)
theorem dX10_decryptBlock_1211 : decode cX10_decryptBlock 1211 = .ok (.getfield 85, 3) := dk_180 0 85 (dk_at dksX10_decryptBlock_51 3 rfl rfl)
theorem dX10_decryptBlock_1214 : decode cX10_decryptBlock 1214 = .ok (.iload 16, 2) := dk_21 16 (dk_at dksX10_decryptBlock_51 6 rfl rfl)
theorem dX10_decryptBlock_1216 : decode cX10_decryptBlock 1216 = .ok (.sipush 255, 3) := dk_17 0 255 (dk_at dksX10_decryptBlock_51 8 rfl rfl)
theorem dX10_decryptBlock_1219 : decode cX10_decryptBlock 1219 = .ok (.iand, 1) := dk_126 (dk_at dksX10_decryptBlock_51 11 rfl rfl)
theorem dX10_decryptBlock_1220 : decode cX10_decryptBlock 1220 = .ok (.baload, 1) := dk_51 (dk_at dksX10_decryptBlock_51 12 rfl rfl)
theorem dX10_decryptBlock_1221 : decode cX10_decryptBlock 1221 = .ok (.sipush 255, 3) := dk_17 0 255 (dk_at dksX10_decryptBlock_51 13 rfl rfl)
theorem dX10_decryptBlock_1224 : decode cX10_decryptBlock 1224 = .ok (.iand, 1) := dk_126 (dk_at dksX10_decryptBlock_51 16 rfl rfl)
theorem dX10_decryptBlock_1225 : decode cX10_decryptBlock 1225 = .ok (.getstatic 88, 3) := dk_178 0 88 (dk_at dksX10_decryptBlock_51 17 rfl rfl)
theorem dX10_decryptBlock_1228 : decode cX10_decryptBlock 1228 = .ok (.iload 15, 2) := dk_21 15 (dk_at dksX10_decryptBlock_51 20 rfl rfl)
theorem dX10_decryptBlock_1230 : decode cX10_decryptBlock 1230 = .ok (.bipush 8, 2) := dk_16 8 (dk_at dksX10_decryptBlock_51 22 rfl rfl)
theorem dX10_decryptBlock_1232 : decode cX10_decryptBlock 1232 = .ok (.ishr, 1) := dk_122 (dk_at dksX10_decryptBlock_52 0 rfl rfl)
theorem dX10_decryptBlock_1233 : decode cX10_decryptBlock 1233 = .ok (.sipush 255, 3) := dk_17 0 255 (dk_at dksX10_decryptBlock_52 1 rfl rfl)
theorem dX10_decryptBlock_1236 : decode cX10_decryptBlock 1236 = .ok (.iand, 1) := dk_126 (dk_at dksX10_decryptBlock_52 4 rfl rfl)
theorem dX10_decryptBlock_1237 : decode cX10_decryptBlock 1237 = .ok (.baload, 1) := dk_51 (dk_at dksX10_decryptBlock_52 5 rfl rfl)
theorem dX10_decryptBlock_1238 : decode cX10_decryptBlock 1238 = .ok (.sipush 255, 3) := dk_17 0 255 (dk_at dksX10_decryptBlock_52 6 rfl rfl)
theorem dX10_decryptBlock_1241 : decode cX10_decryptBlock 1241 = .ok (.iand, 1) := dk_126 (dk_at dksX10_decryptBlock_52 9 rfl rfl)
theorem dX10_decryptBlock_1242 : decode cX10_decryptBlock 1242 = .ok (.bipush 8, 2) := dk_16 8 (dk_at dksX10_decryptBlock_52 10 rfl rfl)
theorem dX10_decryptBlock_1244 : decode cX10_decryptBlock 1244 = .ok (.ishl, 1) := dk_120 (dk_at dksX10_decryptBlock_52 12 rfl rfl)
theorem dX10_decryptBlock_1245 : decode cX10_decryptBlock 1245 = .ok (.ixor, 1) := dk_130 (dk_at dksX10_decryptBlock_52 13 rfl rfl)
theorem dX10_decryptBlock_1246 : decode cX10_decryptBlock 1246 = .ok (.getstatic 88, 3) := dk_178 0 88 (dk_at dksX10_decryptBlock_52 14 rfl rfl)
theorem dX10_decryptBlock_1249 : decode cX10_decryptBlock 1249 = .ok (.iload 14, 2) := dk_21 14 (dk_at dksX10_decryptBlock_52 17 rfl rfl)
theorem dX10_decryptBlock_1251 : decode cX10_decryptBlock 1251 = .ok (.bipush 16, 2) := dk_16 16 (dk_at dksX10_decryptBlock_52 19 rfl rfl)
theorem dX10_decryptBlock_1253 : decode cX10_decryptBlock 1253 = .ok (.ishr, 1) := dk_122 (dk_at dksX10_decryptBlock_52 21 rfl rfl)
theorem dX10_decryptBlock_1254 : decode cX10_decryptBlock 1254 = .ok (.sipush 255, 3) := dk_17 0 255 (dk_at dksX10_decryptBlock_53 0 rfl rfl)
theorem dX10_decryptBlock_1257 : decode cX10_decryptBlock 1257 = .ok (.iand, 1) := dk_126 (dk_at dksX10_decryptBlock_53 3 rfl rfl)
theorem dX10_decryptBlock_1258 : decode cX10_decryptBlock 1258 = .ok (.baload, 1) := dk_51 (dk_at dksX10_decryptBlock_53 4 rfl rfl)
theorem dX10_decryptBlock_1259 : decode cX10_decryptBlock 1259 = .ok (.sipush 255, 3) := dk_17 0 255 (dk_at dksX10_decryptBlock_53 5 rfl rfl)
theorem dX10_decryptBlock_1262 : decode cX10_decryptBlock 1262 = .ok (.iand, 1) := dk_126 (dk_at dksX10_decryptBlock_53 8 rfl rfl)
theorem dX10_decryptBlock_1263 : decode cX10_decryptBlock 1263 = .ok (.bipush 16, 2) := dk_16 16 (dk_at dksX10_decryptBlock_53 9 rfl rfl)
theorem dX10_decryptBlock_1265 : decode cX10_decryptBlock 1265 = .ok (.ishl, 1) := dk_120 (dk_at dksX10_decryptBlock_53 11 rfl rfl)
theorem dX10_decryptBlock_1266 : decode cX10_decryptBlock 1266 = .ok (.ixor, 1) := dk_130 (dk_at dksX10_decryptBlock_53 12 rfl rfl)
theorem dX10_decryptBlock_1267 : decode cX10_decryptBlock 1267 = .ok (.aload_n 0, 1) := dk_42 (dk_at dksX10_decryptBlock_53 13 rfl rfl)
theorem dX10_decryptBlock_1268 : decode cX10_decryptBlock 1268 = .ok (.getfield 85, 3) := dk_180 0 85 (dk_at dksX10_decryptBlock_53 14 rfl rfl)
theorem dX10_decryptBlock_1271 : decode cX10_decryptBlock 1271 = .ok (.iload 17, 2) := dk_21 17 (dk_at dksX10_decryptBlock_53 17 rfl rfl)
theorem dX10_decryptBlock_1273 : decode cX10_decryptBlock 1273 = .ok (.bipush 24, 2) := dk_16 24 (dk_at dksX10_decryptBlock_53 19 rfl rfl)
theorem dX10_decryptBlock_1275 : decode cX10_decryptBlock 1275 = .ok (.ishr, 1) := dk_122 (dk_at dksX10_decryptBlock_53 21 rfl rfl)
theorem dX10_decryptBlock_1276 : decode cX10_decryptBlock 1276 = .ok (.sipush 255, 3) := dk_17 0 255 (dk_at dksX10_decryptBlock_54 0 rfl rfl)
theorem dX10_decryptBlock_1279 : decode cX10_decryptBlock 1279 = .ok (.iand, 1) := dk_126 (dk_at dksX10_decryptBlock_54 3 rfl rfl)
theorem dX10_decryptBlock_1280 : decode cX10_decryptBlock 1280 = .ok (.baload, 1) := dk_51 (dk_at dksX10_decryptBlock_54 4 rfl rfl)
theorem dX10_decryptBlock_1281 : decode cX10_decryptBlock 1281 = .ok (.bipush 24, 2) := dk_16 24 (dk_at dksX10_decryptBlock_54 5 rfl rfl)
theorem dX10_decryptBlock_1283 : decode cX10_decryptBlock 1283 = .ok (.ishl, 1) := dk_120 (dk_at dksX10_decryptBlock_54 7 rfl rfl)
theorem dX10_decryptBlock_1284 : decode cX10_decryptBlock 1284 = .ok (.ixor, 1) := dk_130 (dk_at dksX10_decryptBlock_54 8 rfl rfl)
theorem dX10_decryptBlock_1285 : decode cX10_decryptBlock 1285 = .ok (.aload 5, 2) := dk_25 5 (dk_at dksX10_decryptBlock_54 9 rfl rfl)
theorem dX10_decryptBlock_1287 : decode cX10_decryptBlock 1287 = .ok (.iconst 0, 1) := dk_3 (dk_at dksX10_decryptBlock_54 11 rfl rfl)
theorem dX10_decryptBlock_1288 : decode cX10_decryptBlock 1288 = .ok (.aaload, 1) := dk_50 (dk_at dksX10_decryptBlock_54 12 rfl rfl)
theorem dX10_decryptBlock_1289 : decode cX10_decryptBlock 1289 = .ok (.iconst 2, 1) := dk_5 (dk_at dksX10_decryptBlock_54 13 rfl rfl)
theorem dX10_decryptBlock_1290 : decode cX10_decryptBlock 1290 = .ok (.iaload, 1) := dk_46 (dk_at dksX10_decryptBlock_54 14 rfl rfl)
theorem dX10_decryptBlock_1291 : decode cX10_decryptBlock 1291 = .ok (.ixor, 1) := dk_130 (dk_at dksX10_decryptBlock_54 15 rfl rfl)
theorem dX10_decryptBlock_1292 : decode cX10_decryptBlock 1292 = .ok (.istore 8, 2) := dk_54 8 (dk_at dksX10_decryptBlock_54 16 rfl rfl)
theorem dX10_decryptBlock_1294 : decode cX10_decryptBlock 1294 = .ok (.getstatic 88, 3) := dk_178 0 88 (dk_at dksX10_decryptBlock_54 18 rfl rfl)
theorem dX10_decryptBlock_1297 : decode cX10_decryptBlock 1297 = .ok (.iload 17, 2) := dk_21 17 (dk_at dksX10_decryptBlock_54 21 rfl rfl)
theorem dX10_decryptBlock_1299 : decode cX10_decryptBlock 1299 = .ok (.sipush 255, 3) := dk_17 0 255 (dk_at dksX10_decryptBlock_55 0 rfl rfl)
theorem dX10_decryptBlock_1302 : decode cX10_decryptBlock 1302 = .ok (.iand, 1) := dk_126 (dk_at dksX10_decryptBlock_55 3 rfl rfl)
theorem dX10_decryptBlock_1303 : decode cX10_decryptBlock 1303 = .ok (.baload, 1) := dk_51 (dk_at dksX10_decryptBlock_55 4 rfl rfl)
theorem dX10_decryptBlock_1304 : decode cX10_decryptBlock 1304 = .ok (.sipush 255, 3) := dk_17 0 255 (dk_at dksX10_decryptBlock_55 5 rfl rfl)
theorem dX10_decryptBlock_1307 : decode cX10_decryptBlock 1307 = .ok (.iand, 1) := dk_126 (dk_at dksX10_decryptBlock_55 8 rfl rfl)
theorem dX10_decryptBlock_1308 : decode cX10_decryptBlock 1308 = .ok (.aload_n 0, 1) := dk_42 (dk_at dksX10_decryptBlock_55 9 rfl rfl)
theorem dX10_decryptBlock_1309 : decode cX10_decryptBlock 1309 = .ok (.getfield 85, 3) := dk_180 0 85 (dk_at dksX10_decryptBlock_55 10 rfl rfl)
theorem dX10_decryptBlock_1312 : decode cX10_decryptBlock 1312 = .ok (.iload 16, 2) := dk_21 16 (dk_at dksX10_decryptBlock_55 13 rfl rfl)
theorem dX10_decryptBlock_1314 : decode cX10_decryptBlock 1314 = .ok (.bipush 8, 2) := dk_16 8 (dk_at dksX10_decryptBlock_55 15 rfl rfl)
theorem dX10_decryptBlock_1316 : decode cX10_decryptBlock 1316 = .ok (.ishr, 1) := dk_122 (dk_at dksX10_decryptBlock_55 17 rfl rfl)
theorem dX10_decryptBlock_1317 : decode cX10_decryptBlock 1317 = .ok (.sipush 255, 3) := dk_17 0 255 (dk_at dksX10_decryptBlock_55 18 rfl rfl)
theorem dX10_decryptBlock_1320 : decode cX10_decryptBlock 1320 = .ok (.iand, 1) := dk_126 (dk_at dksX10_decryptBlock_55 21 rfl rfl)
theorem dX10_decryptBlock_1321 : decode cX10_decryptBlock 1321 = .ok (.baload, 1) := dk_51 (dk_at dksX10_decryptBlock_55 22 rfl rfl)
theorem dX10_decryptBlock_1322 : decode cX10_decryptBlock 1322 = .ok (.sipush 255, 3) := dk_17 0 255 (dk_at dksX10_decryptBlock_56 0 rfl rfl)
theorem dX10_decryptBlock_1325 : decode cX10_decryptBlock 1325 = .ok (.iand, 1) := dk_126 (dk_at dksX10_decryptBlock_56 3 rfl rfl)
theorem dX10_decryptBlock_1326 : decode cX10_decryptBlock 1326 = .ok (.bipush 8, 2) := dk_16 8 (dk_at dksX10_decryptBlock_56 4 rfl rfl)
theorem dX10_decryptBlock_1328 : decode cX10_decryptBlock 1328 = .ok (.ishl, 1) := dk_120 (dk_at dksX10_decryptBlock_56 6 rfl rfl)
theorem dX10_decryptBlock_1329 : decode cX10_decryptBlock 1329 = .ok (.ixor, 1) := dk_130 (dk_at dksX10_decryptBlock_56 7 rfl rfl)
theorem dX10_decryptBlock_1330 : decode cX10_decryptBlock 1330 = .ok (.aload_n 0, 1) := dk_42 (dk_at dksX10_decryptBlock_56 8 rfl rfl)
theorem dX10_decryptBlock_1331 : decode cX10_decryptBlock 1331 = .ok (.getfield 85, 3) := dk_180 0 85 (dk_at dksX10_decryptBlock_56 9 rfl rfl)
theorem dX10_decryptBlock_1334 : decode cX10_decryptBlock 1334 = .ok (.iload 15, 2) := dk_21 15 (dk_at dksX10_decryptBlock_56 12 rfl rfl)
theorem dX10_decryptBlock_1336 : decode cX10_decryptBlock 1336 = .ok (.bipush 16, 2) := dk_16 16 (dk_at dksX10_decryptBlock_56 14 rfl rfl)
theorem dX10_decryptBlock_1338 : decode cX10_decryptBlock 1338 = .ok (.ishr, 1) := dk_122 (dk_at dksX10_decryptBlock_56 16 rfl rfl)
theorem dX10_decryptBlock_1339 : decode cX10_decryptBlock 1339 = .ok (.sipush 255, 3) := dk_17 0 255 (dk_at dksX10_decryptBlock_56 17 rfl rfl)
theorem dX10_decryptBlock_1342 : decode cX10_decryptBlock 1342 = .ok (.iand, 1) := dk_126 (dk_at dksX10_decryptBlock_56 20 rfl rfl)
theorem dX10_decryptBlock_1343 : decode cX10_decryptBlock 1343 = .ok (.baload, 1) := dk_51 (dk_at dksX10_decryptBlock_56 21 rfl rfl)
theorem dX10_decryptBlock_1344 : decode cX10_decryptBlock 1344 = .ok (.sipush 255, 3) := dk_17 0 255 (dk_at dksX10_decryptBlock_57 0 rfl rfl)
theorem dX10_decryptBlock_1347 : decode cX10_decryptBlock 1347 = .ok (.iand, 1) := dk_126 (dk_at dksX10_decryptBlock_57 3 rfl rfl)
theorem dX10_decryptBlock_1348 : decode cX10_decryptBlock 1348 = .ok (.bipush 16, 2) := dk_16 16 (dk_at dksX10_decryptBlock_57 4 rfl rfl)
theorem dX10_decryptBlock_1350 : decode cX10_decryptBlock 1350 = .ok (.ishl, 1) := dk_120 (dk_at dksX10_decryptBlock_57 6 rfl rfl)
theorem dX10_decryptBlock_1351 : decode cX10_decryptBlock 1351 = .ok (.ixor, 1) := dk_130 (dk_at dksX10_decryptBlock_57 7 rfl rfl)
theorem dX10_decryptBlock_1352 : decode cX10_decryptBlock 1352 = .ok (.aload_n 0, 1) := dk_42 (dk_at dksX10_decryptBlock_57 8 rfl rfl)
theorem dX10_decryptBlock_1353 : decode cX10_decryptBlock 1353 = .ok (.getfield 85, 3) := dk_180 0 85 (dk_at dksX10_decryptBlock_57 9 rfl rfl)
theorem dX10_decryptBlock_1356 : decode cX10_decryptBlock 1356 = .ok (.iload 14, 2) := dk_21 14 (dk_at dksX10_decryptBlock_57 12 rfl rfl)
theorem dX10_decryptBlock_1358 : decode cX10_decryptBlock 1358 = .ok (.bipush 24, 2) := dk_16 24 (dk_at dksX10_decryptBlock_57 14 rfl rfl)
theorem dX10_decryptBlock_1360 : decode cX10_decryptBlock 1360 = .ok (.ishr, 1) := dk_122 (dk_at dksX10_decryptBlock_57 16 rfl rfl)
theorem dX10_decryptBlock_1361 : decode cX10_decryptBlock 1361 = .ok (.sipush 255, 3) := dk_17 0 255 (dk_at dksX10_decryptBlock_57 17 rfl rfl)
theorem dX10_decryptBlock_1364 : decode cX10_decryptBlock 1364 = .ok (.iand, 1) := dk_126 (dk_at dksX10_decryptBlock_57 20 rfl rfl)
theorem dX10_decryptBlock_1365 : decode cX10_decryptBlock 1365 = .ok (.baload, 1) := dk_51 (dk_at dksX10_decryptBlock_57 21 rfl rfl)
theorem dX10_decryptBlock_1366 : decode cX10_decryptBlock 1366 = .ok (.bipush 24, 2) := dk_16 24 (dk_at dksX10_decryptBlock_57 22 rfl rfl)
theorem dX10_decryptBlock_1368 : decode cX10_decryptBlock 1368 = .ok (.ishl, 1) := dk_120 (dk_at dksX10_decryptBlock_58 0 rfl rfl)
theorem dX10_decryptBlock_1369 : decode cX10_decryptBlock 1369 = .ok (.ixor, 1) := dk_130 (dk_at dksX10_decryptBlock_58 1 rfl rfl)
theorem dX10_decryptBlock_1370 : decode cX10_decryptBlock 1370 = .ok (.aload 5, 2) := dk_25 5 (dk_at dksX10_decryptBlock_58 2 rfl rfl)
theorem dX10_decryptBlock_1372 : decode cX10_decryptBlock 1372 = .ok (.iconst 0, 1) := dk_3 (dk_at dksX10_decryptBlock_58 4 rfl rfl)
theorem dX10_decryptBlock_1373 : decode cX10_decryptBlock 1373 = .ok (.aaload, 1) := dk_50 (dk_at dksX10_decryptBlock_58 5 rfl rfl)
theorem dX10_decryptBlock_1374 : decode cX10_decryptBlock 1374 = .ok (.iconst 3, 1) := dk_6 (dk_at dksX10_decryptBlock_58 6 rfl rfl)
theorem dX10_decryptBlock_1375 : decode cX10_decryptBlock 1375 = .ok (.iaload, 1) := dk_46 (dk_at dksX10_decryptBlock_58 7 rfl rfl)
theorem dX10_decryptBlock_1376 : decode cX10_decryptBlock 1376 = .ok (.ixor, 1) := dk_130 (dk_at dksX10_decryptBlock_58 8 rfl rfl)
theorem dX10_decryptBlock_1377 : decode cX10_decryptBlock 1377 = .ok (.istore 9, 2) := dk_54 9 (dk_at dksX10_decryptBlock_58 9 rfl rfl)
theorem dX10_decryptBlock_1379 : decode cX10_decryptBlock 1379 = .ok (.iload 6, 2) := dk_21 6 (dk_at dksX10_decryptBlock_58 11 rfl rfl)
theorem dX10_decryptBlock_1381 : decode cX10_decryptBlock 1381 = .ok (.aload_n 3, 1) := dk_45 (dk_at dksX10_decryptBlock_58 13 rfl rfl)
theorem dX10_decryptBlock_1382 : decode cX10_decryptBlock 1382 = .ok (.iload 4, 2) := dk_21 4 (dk_at dksX10_decryptBlock_58 14 rfl rfl)
theorem dX10_decryptBlock_1384 : decode cX10_decryptBlock 1384 = .ok (.iconst 0, 1) := dk_3 (dk_at dksX10_decryptBlock_58 16 rfl rfl)
theorem dX10_decryptBlock_1385 : decode cX10_decryptBlock 1385 = .ok (.iadd, 1) := dk_96 (dk_at dksX10_decryptBlock_58 17 rfl rfl)
theorem dX10_decryptBlock_1386 : decode cX10_decryptBlock 1386 = .ok (.invokestatic 115, 3) := dk_184 0 115 (dk_at dksX10_decryptBlock_58 18 rfl rfl)
theorem dX10_decryptBlock_1389 : decode cX10_decryptBlock 1389 = .ok (.iload 7, 2) := dk_21 7 (dk_at dksX10_decryptBlock_58 21 rfl rfl)
theorem dX10_decryptBlock_1391 : decode cX10_decryptBlock 1391 = .ok (.aload_n 3, 1) := dk_45 (dk_at dksX10_decryptBlock_58 23 rfl rfl)
theorem dX10_decryptBlock_1392 : decode cX10_decryptBlock 1392 = .ok (.iload 4, 2) := dk_21 4 (dk_at dksX10_decryptBlock_59 0 rfl rfl)
theorem dX10_decryptBlock_1394 : decode cX10_decryptBlock 1394 = .ok (.iconst 4, 1) := dk_7 (dk_at dksX10_decryptBlock_59 2 rfl rfl)
theorem dX10_decryptBlock_1395 : decode cX10_decryptBlock 1395 = .ok (.iadd, 1) := dk_96 (dk_at dksX10_decryptBlock_59 3 rfl rfl)
theorem dX10_decryptBlock_1396 : decode cX10_decryptBlock 1396 = .ok (.invokestatic 115, 3) := dk_184 0 115 (dk_at dksX10_decryptBlock_59 4 rfl rfl)
theorem dX10_decryptBlock_1399 : decode cX10_decryptBlock 1399 = .ok (.iload 8, 2) := dk_21 8 (dk_at dksX10_decryptBlock_59 7 rfl rfl)
theorem dX10_decryptBlock_1401 : decode cX10_decryptBlock 1401 = .ok (.aload_n 3, 1) := dk_45 (dk_at dksX10_decryptBlock_59 9 rfl rfl)
theorem dX10_decryptBlock_1402 : decode cX10_decryptBlock 1402 = .ok (.iload 4, 2) := dk_21 4 (dk_at dksX10_decryptBlock_59 10 rfl rfl)
theorem dX10_decryptBlock_1404 : decode cX10_decryptBlock 1404 = .ok (.bipush 8, 2) := dk_16 8 (dk_at dksX10_decryptBlock_59 12 rfl rfl)
theorem dX10_decryptBlock_1406 : decode cX10_decryptBlock 1406 = .ok (.iadd, 1) := dk_96 (dk_at dksX10_decryptBlock_59 14 rfl rfl)
theorem dX10_decryptBlock_1407 : decode cX10_decryptBlock 1407 = .ok (.invokestatic 115, 3) := dk_184 0 115 (dk_at dksX10_decryptBlock_59 15 rfl rfl)
theorem dX10_decryptBlock_1410 : decode cX10_decryptBlock 1410 = .ok (.iload 9, 2) := dk_21 9 (dk_at dksX10_decryptBlock_59 18 rfl rfl)
theorem dX10_decryptBlock_1412 : decode cX10_decryptBlock 1412 = .ok (.aload_n 3, 1) := dk_45 (dk_at dksX10_decryptBlock_59 20 rfl rfl)
theorem dX10_decryptBlock_1413 : decode cX10_decryptBlock 1413 = .ok (.iload 4, 2) := dk_21 4 (dk_at dksX10_decryptBlock_59 21 rfl rfl)
theorem dX10_decryptBlock_1415 : decode cX10_decryptBlock 1415 = .ok (.bipush 12, 2) := dk_16 12 (dk_at dksX10_decryptBlock_60 0 rfl rfl)
theorem dX10_decryptBlock_1417 : decode cX10_decryptBlock 1417 = .ok (.iadd, 1) := dk_96 (dk_at dksX10_decryptBlock_60 2 rfl rfl)
theorem dX10_decryptBlock_1418 : decode cX10_decryptBlock 1418 = .ok (.invokestatic 115, 3) := dk_184 0 115 (dk_at dksX10_decryptBlock_60 3 rfl rfl)
theorem dX10_decryptBlock_1421 : decode cX10_decryptBlock 1421 = .ok (.return_, 1) := dk_177 (dk_at dksX10_decryptBlock_60 6 rfl rfl)
theorem q19 : (Jvm.Cond.initialized "AESEngine") ∈ lw_all := lw_g (lw_at lw_m1 10 rfl) rfl
theorem q131 : (Jvm.Cond.instantiable "AESEngine" (4 : Nat)) ∈ lw_all := lw_g (lw_at lw_m1 122 rfl) rfl
theorem q133 : (Jvm.Cond.instanceMethod ({ cls := "AESEngine", name := "<init>", desc := "()V" } : Jvm.MethodName)) ∈ lw_all := lw_g (lw_at lw_m1 124 rfl) rfl
theorem q134 : (Jvm.Cond.code ({ cls := "AESEngine", name := "<init>", desc := "()V" } : Jvm.MethodName) prog_1_method_7_code (1 : Nat) (Option.none : Option Jvm.ClassFile.FieldType)) ∈ lw_all := lw_g (lw_at lw_m1 125 rfl) rfl
theorem q135 : (Jvm.Cond.methodLink "AESEngine" (57 : Nat) ({ cls := "DefaultMultiBlockCipher", name := "<init>", desc := "()V" } : Jvm.MethodName)) ∈ lw_all := lw_g (lw_at lw_m1 126 rfl) rfl
theorem q139 : (Jvm.Cond.fieldLink "AESEngine" (30 : Nat) "AESEngine" "ROUNDS" "I") ∈ lw_all := lw_g (lw_at lw_m1 130 rfl) rfl
theorem q140 : (Jvm.Cond.fieldLink "AESEngine" (62 : Nat) "AESEngine" "WorkingKey" "[[I") ∈ lw_all := lw_g (lw_at lw_m1 131 rfl) rfl
theorem q141 : (Jvm.Cond.fieldLink "AESEngine" (75 : Nat) "AESEngine" "forEncryption" "Z") ∈ lw_all := lw_g (lw_at lw_m1 132 rfl) rfl
theorem q142 : (Jvm.Cond.fieldLink "AESEngine" (85 : Nat) "AESEngine" "s" "[B") ∈ lw_all := lw_g (lw_at lw_m1 133 rfl) rfl
theorem q143 : (Jvm.Cond.lays "AESEngine" "AESEngine" "ROUNDS" "I") ∈ lw_all := lw_g (lw_at lw_m1 134 rfl) rfl
theorem q144 : (Jvm.Cond.soleField "AESEngine" "ROUNDS") ∈ lw_all := lw_g (lw_at lw_m1 135 rfl) rfl
theorem q145 : (Jvm.Cond.lays "AESEngine" "AESEngine" "WorkingKey" "[[I") ∈ lw_all := lw_g (lw_at lw_m1 136 rfl) rfl
theorem q146 : (Jvm.Cond.soleField "AESEngine" "WorkingKey") ∈ lw_all := lw_g (lw_at lw_m1 137 rfl) rfl
theorem q147 : (Jvm.Cond.lays "AESEngine" "AESEngine" "forEncryption" "Z") ∈ lw_all := lw_g (lw_at lw_m1 138 rfl) rfl
theorem q148 : (Jvm.Cond.soleField "AESEngine" "forEncryption") ∈ lw_all := lw_g (lw_at lw_m1 139 rfl) rfl
theorem q149 : (Jvm.Cond.lays "AESEngine" "AESEngine" "s" "[B") ∈ lw_all := lw_g (lw_at lw_m1 140 rfl) rfl
theorem q150 : (Jvm.Cond.soleField "AESEngine" "s") ∈ lw_all := lw_g (lw_at lw_m1 141 rfl) rfl
theorem q151 : (Jvm.Cond.superclass "AESEngine" "DefaultMultiBlockCipher") ∈ lw_all := lw_g (lw_at lw_m1 142 rfl) rfl
theorem q160 : (Jvm.Cond.castable "AESEngine" "BlockCipher") ∈ lw_tbl := lw_at lw_m1 151 rfl
theorem q161 : (Jvm.Cond.selects "AESEngine" ({ cls := "BlockCipher", name := "getBlockSize", desc := "()I" } : Jvm.MethodName) ({ cls := "AESEngine", name := "getBlockSize", desc := "()I" } : Jvm.MethodName)) ∈ lw_all := lw_g (lw_at lw_m1 152 rfl) rfl
theorem q162 : (Jvm.Cond.unhidden "AESEngine" "getBlockSize" "()I") ∈ lw_tbl := lw_at lw_m1 153 rfl
theorem q163 : (Jvm.Cond.instanceMethod ({ cls := "AESEngine", name := "getBlockSize", desc := "()I" } : Jvm.MethodName)) ∈ lw_all := lw_g (lw_at lw_m1 154 rfl) rfl
theorem q164 : (Jvm.Cond.publicMethod ({ cls := "AESEngine", name := "getBlockSize", desc := "()I" } : Jvm.MethodName)) ∈ lw_tbl := lw_at lw_m1 155 rfl
theorem q165 : (Jvm.Cond.code ({ cls := "AESEngine", name := "getBlockSize", desc := "()I" } : Jvm.MethodName) prog_1_method_9_code (1 : Nat) (Option.some Jvm.ClassFile.FieldType.int)) ∈ lw_all := lw_g (lw_at lw_m1 156 rfl) rfl
theorem q276 : (Jvm.Cond.selects "AESEngine" ({ cls := "BlockCipher", name := "reset", desc := "()V" } : Jvm.MethodName) ({ cls := "AESEngine", name := "reset", desc := "()V" } : Jvm.MethodName)) ∈ lw_all := lw_g (lw_at lw_m2 27 rfl) rfl
theorem q277 : (Jvm.Cond.unhidden "AESEngine" "reset" "()V") ∈ lw_tbl := lw_at lw_m2 28 rfl
theorem q278 : (Jvm.Cond.instanceMethod ({ cls := "AESEngine", name := "reset", desc := "()V" } : Jvm.MethodName)) ∈ lw_all := lw_g (lw_at lw_m2 29 rfl) rfl
theorem q279 : (Jvm.Cond.publicMethod ({ cls := "AESEngine", name := "reset", desc := "()V" } : Jvm.MethodName)) ∈ lw_tbl := lw_at lw_m2 30 rfl
theorem q280 : (Jvm.Cond.code ({ cls := "AESEngine", name := "reset", desc := "()V" } : Jvm.MethodName) prog_1_method_11_code (1 : Nat) (Option.none : Option Jvm.ClassFile.FieldType)) ∈ lw_all := lw_g (lw_at lw_m2 31 rfl) rfl
theorem q399 : (Jvm.Cond.selects "AESEngine" ({ cls := "BlockCipher", name := "init", desc := "(ZLCipherParameters;)V" } : Jvm.MethodName) ({ cls := "AESEngine", name := "init", desc := "(ZLCipherParameters;)V" } : Jvm.MethodName)) ∈ lw_all := lw_g (lw_at lw_m2 150 rfl) rfl
theorem q400 : (Jvm.Cond.unhidden "AESEngine" "init" "(ZLCipherParameters;)V") ∈ lw_tbl := lw_at lw_m2 151 rfl
theorem q401 : (Jvm.Cond.instanceMethod ({ cls := "AESEngine", name := "init", desc := "(ZLCipherParameters;)V" } : Jvm.MethodName)) ∈ lw_all := lw_g (lw_at lw_m2 152 rfl) rfl
theorem q402 : (Jvm.Cond.publicMethod ({ cls := "AESEngine", name := "init", desc := "(ZLCipherParameters;)V" } : Jvm.MethodName)) ∈ lw_tbl := lw_at lw_m2 153 rfl
theorem q403 : (Jvm.Cond.code ({ cls := "AESEngine", name := "init", desc := "(ZLCipherParameters;)V" } : Jvm.MethodName) prog_1_method_8_code (3 : Nat) (Option.none : Option Jvm.ClassFile.FieldType)) ∈ lw_all := lw_g (lw_at lw_m2 154 rfl) rfl
theorem q404 : (Jvm.Cond.classLink "AESEngine" (65 : Nat) "KeyParameter") ∈ lw_all := lw_g (lw_at lw_m2 155 rfl) rfl
theorem q405 : (Jvm.Cond.methodLink "AESEngine" (67 : Nat) ({ cls := "KeyParameter", name := "getKey", desc := "()[B" } : Jvm.MethodName)) ∈ lw_all := lw_g (lw_at lw_m2 156 rfl) rfl
theorem q409 : (Jvm.Cond.methodLink "AESEngine" (71 : Nat) ({ cls := "AESEngine", name := "generateWorkingKey", desc := "([BZ)[[I" } : Jvm.MethodName)) ∈ lw_all := lw_g (lw_at lw_m2 160 rfl) rfl
theorem q410 : (Jvm.Cond.privateMethod ({ cls := "AESEngine", name := "generateWorkingKey", desc := "([BZ)[[I" } : Jvm.MethodName)) ∈ lw_tbl := lw_at lw_m2 161 rfl
theorem q411 : (Jvm.Cond.instanceMethod ({ cls := "AESEngine", name := "generateWorkingKey", desc := "([BZ)[[I" } : Jvm.MethodName)) ∈ lw_all := lw_g (lw_at lw_m2 162 rfl) rfl
theorem q412 : (Jvm.Cond.code ({ cls := "AESEngine", name := "generateWorkingKey", desc := "([BZ)[[I" } : Jvm.MethodName) prog_1_method_6_code (17 : Nat) (Option.some (Jvm.ClassFile.FieldType.array (Jvm.ClassFile.FieldType.array Jvm.ClassFile.FieldType.int)))) ∈ lw_all := lw_g (lw_at lw_m2 163 rfl) rfl
theorem q413 : (Jvm.Cond.classLink "AESEngine" (22 : Nat) "java/lang/IllegalArgumentException") ∈ lw_all := lw_g (lw_at lw_m2 164 rfl) rfl
theorem q422 : (Jvm.Cond.stringRef "AESEngine" (24 : Nat) "Key length not 128/192/256 bits.") ∈ lw_tbl := lw_at lw_m2 173 rfl
theorem q423 : (Jvm.Cond.methodLink "AESEngine" (26 : Nat) ({ cls := "java/lang/IllegalArgumentException", name := "<init>", desc := "(Ljava/lang/String;)V" } : Jvm.MethodName)) ∈ lw_all := lw_g (lw_at lw_m2 174 rfl) rfl
theorem q429 : (Jvm.Cond.classLink "AESEngine" (34 : Nat) "[[I") ∈ lw_all := lw_g (lw_at lw_m2 180 rfl) rfl
theorem q431 : (Jvm.Cond.methodLink "AESEngine" (36 : Nat) ({ cls := "Pack", name := "littleEndianToInt", desc := "([BI)I" } : Jvm.MethodName)) ∈ lw_all := lw_g (lw_at lw_m2 182 rfl) rfl
theorem q434 : (Jvm.Cond.methodLink "AESEngine" (7 : Nat) ({ cls := "AESEngine", name := "shift", desc := "(II)I" } : Jvm.MethodName)) ∈ lw_all := lw_g (lw_at lw_m2 185 rfl) rfl
theorem q435 : (Jvm.Cond.static ({ cls := "AESEngine", name := "shift", desc := "(II)I" } : Jvm.MethodName)) ∈ lw_all := lw_g (lw_at lw_m2 186 rfl) rfl
theorem q436 : (Jvm.Cond.code ({ cls := "AESEngine", name := "shift", desc := "(II)I" } : Jvm.MethodName) prog_1_method_1_code (2 : Nat) (Option.some Jvm.ClassFile.FieldType.int)) ∈ lw_all := lw_g (lw_at lw_m2 187 rfl) rfl
theorem q437 : (Jvm.Cond.methodLink "AESEngine" (42 : Nat) ({ cls := "AESEngine", name := "subWord", desc := "(I)I" } : Jvm.MethodName)) ∈ lw_all := lw_g (lw_at lw_m2 188 rfl) rfl
theorem q438 : (Jvm.Cond.static ({ cls := "AESEngine", name := "subWord", desc := "(I)I" } : Jvm.MethodName)) ∈ lw_all := lw_g (lw_at lw_m2 189 rfl) rfl
theorem q439 : (Jvm.Cond.code ({ cls := "AESEngine", name := "subWord", desc := "(I)I" } : Jvm.MethodName) prog_1_method_5_code (1 : Nat) (Option.some Jvm.ClassFile.FieldType.int)) ∈ lw_all := lw_g (lw_at lw_m2 190 rfl) rfl
theorem q440 : (Jvm.Cond.fieldLink "AESEngine" (18 : Nat) "AESEngine" "S" "[B") ∈ lw_all := lw_g (lw_at lw_m2 191 rfl) rfl
theorem q441 : (Jvm.Cond.laysStatic "AESEngine" "S" "[B") ∈ lw_tbl := lw_at lw_m2 192 rfl
theorem q442 : (Jvm.Cond.fieldLink "AESEngine" (45 : Nat) "AESEngine" "rcon" "[I") ∈ lw_all := lw_g (lw_at lw_m2 193 rfl) rfl
theorem q443 : (Jvm.Cond.laysStatic "AESEngine" "rcon" "[I") ∈ lw_tbl := lw_at lw_m2 194 rfl
theorem q444 : (Jvm.Cond.classLink "AESEngine" (49 : Nat) "java/lang/IllegalStateException") ∈ lw_all := lw_g (lw_at lw_m2 195 rfl) rfl
theorem q445 : (Jvm.Cond.stringRef "AESEngine" (51 : Nat) "Should never get here") ∈ lw_tbl := lw_at lw_m2 196 rfl
theorem q446 : (Jvm.Cond.methodLink "AESEngine" (53 : Nat) ({ cls := "java/lang/IllegalStateException", name := "<init>", desc := "(Ljava/lang/String;)V" } : Jvm.MethodName)) ∈ lw_all := lw_g (lw_at lw_m2 197 rfl) rfl
theorem q447 : (Jvm.Cond.methodLink "AESEngine" (54 : Nat) ({ cls := "AESEngine", name := "inv_mcol", desc := "(I)I" } : Jvm.MethodName)) ∈ lw_all := lw_g (lw_at lw_m2 198 rfl) rfl
theorem q448 : (Jvm.Cond.static ({ cls := "AESEngine", name := "inv_mcol", desc := "(I)I" } : Jvm.MethodName)) ∈ lw_all := lw_g (lw_at lw_m2 199 rfl) rfl
theorem q449 : (Jvm.Cond.code ({ cls := "AESEngine", name := "inv_mcol", desc := "(I)I" } : Jvm.MethodName) prog_1_method_4_code (3 : Nat) (Option.some Jvm.ClassFile.FieldType.int)) ∈ lw_all := lw_g (lw_at lw_m2 200 rfl) rfl
theorem q450 : (Jvm.Cond.methodLink "AESEngine" (11 : Nat) ({ cls := "AESEngine", name := "FFmulX", desc := "(I)I" } : Jvm.MethodName)) ∈ lw_all := lw_g (lw_at lw_m2 201 rfl) rfl
theorem q451 : (Jvm.Cond.static ({ cls := "AESEngine", name := "FFmulX", desc := "(I)I" } : Jvm.MethodName)) ∈ lw_all := lw_g (lw_at lw_m2 202 rfl) rfl
theorem q452 : (Jvm.Cond.code ({ cls := "AESEngine", name := "FFmulX", desc := "(I)I" } : Jvm.MethodName) prog_1_method_2_code (1 : Nat) (Option.some Jvm.ClassFile.FieldType.int)) ∈ lw_all := lw_g (lw_at lw_m2 203 rfl) rfl
theorem q453 : (Jvm.Cond.constant "AESEngine" (3 : Nat) (2139062143 : Int32)) ∈ lw_all := lw_g (lw_at lw_m2 204 rfl) rfl
theorem q454 : (Jvm.Cond.constant "AESEngine" (4 : Nat) (-2139062144 : Int32)) ∈ lw_all := lw_g (lw_at lw_m2 205 rfl) rfl
theorem q455 : (Jvm.Cond.methodLink "AESEngine" (15 : Nat) ({ cls := "AESEngine", name := "FFmulX2", desc := "(I)I" } : Jvm.MethodName)) ∈ lw_all := lw_g (lw_at lw_m2 206 rfl) rfl
theorem q456 : (Jvm.Cond.static ({ cls := "AESEngine", name := "FFmulX2", desc := "(I)I" } : Jvm.MethodName)) ∈ lw_all := lw_g (lw_at lw_m2 207 rfl) rfl
theorem q457 : (Jvm.Cond.code ({ cls := "AESEngine", name := "FFmulX2", desc := "(I)I" } : Jvm.MethodName) prog_1_method_3_code (3 : Nat) (Option.some Jvm.ClassFile.FieldType.int)) ∈ lw_all := lw_g (lw_at lw_m2 208 rfl) rfl
theorem q458 : (Jvm.Cond.constant "AESEngine" (5 : Nat) (1061109567 : Int32)) ∈ lw_all := lw_g (lw_at lw_m2 209 rfl) rfl
theorem q459 : (Jvm.Cond.constant "AESEngine" (6 : Nat) (-1061109568 : Int32)) ∈ lw_all := lw_g (lw_at lw_m2 210 rfl) rfl
theorem q460 : (Jvm.Cond.methodLink "AESEngine" (79 : Nat) ({ cls := "OwnArrays", name := "clone", desc := "([B)[B" } : Jvm.MethodName)) ∈ lw_all := lw_g (lw_at lw_m2 211 rfl) rfl
theorem q470 : (Jvm.Cond.fieldLink "AESEngine" (88 : Nat) "AESEngine" "Si" "[B") ∈ lw_all := lw_g (lw_at lw_m2 221 rfl) rfl
theorem q471 : (Jvm.Cond.laysStatic "AESEngine" "Si" "[B") ∈ lw_tbl := lw_at lw_m2 222 rfl
theorem q472 : (Jvm.Cond.stringRef "AESEngine" (91 : Nat) "left out") ∈ lw_tbl := lw_at lw_m2 223 rfl
theorem q553 : (Jvm.Cond.selects "AESEngine" ({ cls := "BlockCipher", name := "processBlock", desc := "([BI[BI)I" } : Jvm.MethodName) ({ cls := "AESEngine", name := "processBlock", desc := "([BI[BI)I" } : Jvm.MethodName)) ∈ lw_all := lw_g (lw_at lw_m3 64 rfl) rfl
theorem q554 : (Jvm.Cond.unhidden "AESEngine" "processBlock" "([BI[BI)I") ∈ lw_tbl := lw_at lw_m3 65 rfl
theorem q555 : (Jvm.Cond.instanceMethod ({ cls := "AESEngine", name := "processBlock", desc := "([BI[BI)I" } : Jvm.MethodName)) ∈ lw_all := lw_g (lw_at lw_m3 66 rfl) rfl
theorem q556 : (Jvm.Cond.publicMethod ({ cls := "AESEngine", name := "processBlock", desc := "([BI[BI)I" } : Jvm.MethodName)) ∈ lw_tbl := lw_at lw_m3 67 rfl
theorem q557 : (Jvm.Cond.code ({ cls := "AESEngine", name := "processBlock", desc := "([BI[BI)I" } : Jvm.MethodName) prog_1_method_10_code (5 : Nat) (Option.some Jvm.ClassFile.FieldType.int)) ∈ lw_all := lw_g (lw_at lw_m3 68 rfl) rfl
theorem q558 : (Jvm.Cond.stringRef "AESEngine" (93 : Nat) "AES engine not initialised") ∈ lw_tbl := lw_at lw_m3 69 rfl
theorem q559 : (Jvm.Cond.classLink "AESEngine" (95 : Nat) "DataLengthException") ∈ lw_all := lw_g (lw_at lw_m3 70 rfl) rfl
theorem q568 : (Jvm.Cond.stringRef "AESEngine" (97 : Nat) "input buffer too short") ∈ lw_tbl := lw_at lw_m3 79 rfl
theorem q569 : (Jvm.Cond.methodLink "AESEngine" (99 : Nat) ({ cls := "DataLengthException", name := "<init>", desc := "(Ljava/lang/String;)V" } : Jvm.MethodName)) ∈ lw_all := lw_g (lw_at lw_m3 80 rfl) rfl
theorem q572 : (Jvm.Cond.classLink "AESEngine" (100 : Nat) "OutputLengthException") ∈ lw_all := lw_g (lw_at lw_m3 83 rfl) rfl
theorem q573 : (Jvm.Cond.stringRef "AESEngine" (102 : Nat) "output buffer too short") ∈ lw_tbl := lw_at lw_m3 84 rfl
theorem q574 : (Jvm.Cond.methodLink "AESEngine" (104 : Nat) ({ cls := "OutputLengthException", name := "<init>", desc := "(Ljava/lang/String;)V" } : Jvm.MethodName)) ∈ lw_all := lw_g (lw_at lw_m3 85 rfl) rfl
theorem q575 : (Jvm.Cond.methodLink "AESEngine" (105 : Nat) ({ cls := "AESEngine", name := "encryptBlock", desc := "([BI[BI[[I)V" } : Jvm.MethodName)) ∈ lw_all := lw_g (lw_at lw_m3 86 rfl) rfl
theorem q576 : (Jvm.Cond.privateMethod ({ cls := "AESEngine", name := "encryptBlock", desc := "([BI[BI[[I)V" } : Jvm.MethodName)) ∈ lw_tbl := lw_at lw_m3 87 rfl
theorem q577 : (Jvm.Cond.instanceMethod ({ cls := "AESEngine", name := "encryptBlock", desc := "([BI[BI[[I)V" } : Jvm.MethodName)) ∈ lw_all := lw_g (lw_at lw_m3 88 rfl) rfl
theorem q578 : (Jvm.Cond.code ({ cls := "AESEngine", name := "encryptBlock", desc := "([BI[BI[[I)V" } : Jvm.MethodName) prog_1_method_12_code (18 : Nat) (Option.none : Option Jvm.ClassFile.FieldType)) ∈ lw_all := lw_g (lw_at lw_m3 89 rfl) rfl
theorem q579 : (Jvm.Cond.fieldLink "AESEngine" (112 : Nat) "AESEngine" "T0" "[I") ∈ lw_all := lw_g (lw_at lw_m3 90 rfl) rfl
theorem q580 : (Jvm.Cond.laysStatic "AESEngine" "T0" "[I") ∈ lw_tbl := lw_at lw_m3 91 rfl
theorem q581 : (Jvm.Cond.methodLink "AESEngine" (115 : Nat) ({ cls := "Pack", name := "intToLittleEndian", desc := "(I[BI)V" } : Jvm.MethodName)) ∈ lw_all := lw_g (lw_at lw_m3 92 rfl) rfl
theorem q584 : (Jvm.Cond.methodLink "AESEngine" (109 : Nat) ({ cls := "AESEngine", name := "decryptBlock", desc := "([BI[BI[[I)V" } : Jvm.MethodName)) ∈ lw_all := lw_g (lw_at lw_m3 95 rfl) rfl
theorem q585 : (Jvm.Cond.privateMethod ({ cls := "AESEngine", name := "decryptBlock", desc := "([BI[BI[[I)V" } : Jvm.MethodName)) ∈ lw_tbl := lw_at lw_m3 96 rfl
theorem q586 : (Jvm.Cond.instanceMethod ({ cls := "AESEngine", name := "decryptBlock", desc := "([BI[BI[[I)V" } : Jvm.MethodName)) ∈ lw_all := lw_g (lw_at lw_m3 97 rfl) rfl
theorem q587 : (Jvm.Cond.code ({ cls := "AESEngine", name := "decryptBlock", desc := "([BI[BI[[I)V" } : Jvm.MethodName) prog_1_method_13_code (18 : Nat) (Option.none : Option Jvm.ClassFile.FieldType)) ∈ lw_all := lw_g (lw_at lw_m3 98 rfl) rfl
theorem q588 : (Jvm.Cond.fieldLink "AESEngine" (119 : Nat) "AESEngine" "Tinv0" "[I") ∈ lw_all := lw_g (lw_at lw_m3 99 rfl) rfl
theorem q589 : (Jvm.Cond.laysStatic "AESEngine" "Tinv0" "[I") ∈ lw_tbl := lw_at lw_m3 100 rfl
theorem in_X10 : ∀ w ∈ wsX100, w ∈ lw_all := lw_in wsX100 [143, 145, 147, 149] (by decide +kernel) (by decide +kernel)
