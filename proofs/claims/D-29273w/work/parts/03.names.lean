theorem q67 : (Jvm.Cond.arrayClass Jvm.ClassFile.FieldType.byte) ∈ lw_all := lw_g (lw_at lw_m1 58 rfl) rfl
set_option maxRecDepth 100000
theorem q430 : (Jvm.Cond.arrayOver (Jvm.ClassFile.FieldType.array Jvm.ClassFile.FieldType.int)) ∈ lw_tbl := lw_at lw_m2 181 rfl
theorem q544 : (Jvm.Cond.arrayClass Jvm.ClassFile.FieldType.int) ∈ lw_all := lw_g (lw_at lw_m3 55 rfl) rfl
theorem q22 : (Jvm.Cond.initialized "java/lang/System") ∈ lw_all := lw_g (lw_at lw_m1 13 rfl) rfl
set_option maxRecDepth 100000
theorem q245 : (Jvm.Cond.static ({ cls := "java/lang/System", name := "arraycopy", desc := "(Ljava/lang/Object;ILjava/lang/Object;II)V" } : Jvm.MethodName)) ∈ lw_all := lw_g (lw_at lw_m1 236 rfl) rfl
theorem q246 : (Jvm.Cond.native ({ cls := "java/lang/System", name := "arraycopy", desc := "(Ljava/lang/Object;ILjava/lang/Object;II)V" } : Jvm.MethodName)) ∈ lw_all := lw_g (lw_at lw_m1 237 rfl) rfl
theorem q158 : (Jvm.Cond.interfaceMethod "BlockCipher" "BlockCipher" "getBlockSize" "()I") ∈ lw_tbl := lw_at lw_m1 149 rfl
set_option maxRecDepth 100000
theorem q159 : (Jvm.Cond.declares ({ cls := "BlockCipher", name := "getBlockSize", desc := "()I" } : Jvm.MethodName)) ∈ lw_tbl := lw_at lw_m1 150 rfl
theorem q274 : (Jvm.Cond.interfaceMethod "BlockCipher" "BlockCipher" "reset" "()V") ∈ lw_tbl := lw_at lw_m2 25 rfl
theorem q275 : (Jvm.Cond.declares ({ cls := "BlockCipher", name := "reset", desc := "()V" } : Jvm.MethodName)) ∈ lw_tbl := lw_at lw_m2 26 rfl
theorem q397 : (Jvm.Cond.interfaceMethod "BlockCipher" "BlockCipher" "init" "(ZLCipherParameters;)V") ∈ lw_tbl := lw_at lw_m2 148 rfl
theorem q398 : (Jvm.Cond.declares ({ cls := "BlockCipher", name := "init", desc := "(ZLCipherParameters;)V" } : Jvm.MethodName)) ∈ lw_tbl := lw_at lw_m2 149 rfl
theorem q551 : (Jvm.Cond.interfaceMethod "BlockCipher" "BlockCipher" "processBlock" "([BI[BI)I") ∈ lw_tbl := lw_at lw_m3 62 rfl
theorem q552 : (Jvm.Cond.declares ({ cls := "BlockCipher", name := "processBlock", desc := "([BI[BI)I" } : Jvm.MethodName)) ∈ lw_tbl := lw_at lw_m3 63 rfl
theorem q371 : (Jvm.Cond.interfaceMethod "BlockCipherPadding" "BlockCipherPadding" "init" "(Ljava/security/SecureRandom;)V") ∈ lw_tbl := lw_at lw_m2 122 rfl
set_option maxRecDepth 100000
theorem q372 : (Jvm.Cond.declares ({ cls := "BlockCipherPadding", name := "init", desc := "(Ljava/security/SecureRandom;)V" } : Jvm.MethodName)) ∈ lw_tbl := lw_at lw_m2 123 rfl
theorem q614 : (Jvm.Cond.interfaceMethod "BlockCipherPadding" "BlockCipherPadding" "addPadding" "([BI)I") ∈ lw_tbl := lw_at lw_m3 125 rfl
theorem q615 : (Jvm.Cond.declares ({ cls := "BlockCipherPadding", name := "addPadding", desc := "([BI)I" } : Jvm.MethodName)) ∈ lw_tbl := lw_at lw_m3 126 rfl
theorem q636 : (Jvm.Cond.interfaceMethod "BlockCipherPadding" "BlockCipherPadding" "padCount" "([B)I") ∈ lw_tbl := lw_at lw_m3 147 rfl
theorem q637 : (Jvm.Cond.declares ({ cls := "BlockCipherPadding", name := "padCount", desc := "([B)I" } : Jvm.MethodName)) ∈ lw_tbl := lw_at lw_m3 148 rfl
theorem q464 : (Jvm.Cond.sameMethod "[B" "java/lang/Object" "clone" "()Ljava/lang/Object;") ∈ lw_all := lw_g (lw_at lw_m2 215 rfl) rfl
set_option maxRecDepth 100000
theorem q467 : (Jvm.Cond.selects "[B" ({ cls := "[B", name := "clone", desc := "()Ljava/lang/Object;" } : Jvm.MethodName) ({ cls := "java/lang/Object", name := "clone", desc := "()Ljava/lang/Object;" } : Jvm.MethodName)) ∈ lw_all := lw_g (lw_at lw_m2 218 rfl) rfl
theorem q468 : (Jvm.Cond.castable "[B" "java/lang/Cloneable") ∈ lw_tbl := lw_at lw_m2 219 rfl
/-! PaddedDeskLaw -/
set_option maxRecDepth 100000
def RX0 : String := "PaddedDeskLaw"
abbrev cX0_cell : ByteArray := method_2_code
def yX0_cell : MethodName := ⟨RX0, "cell", "([II)I"⟩
def dkwX0_cell_0 : List UInt8 := [27, 42, 190, 162, 0, 15, 27, 16, 78, 162, 0, 9, 42, 27, 46, 167, 0, 4, 3, 172]
abbrev dktX0_cell_0 : List UInt8 := dkwX0_cell_0 ++ []
theorem dksX0_cell_0 : cX0_cell.data.toList.drop 0 = dktX0_cell_0 := by decide +kernel
theorem dX0_cell_0 : decode cX0_cell 0 = .ok (.iload_n 1, 1) := dk_27 (dk_at dksX0_cell_0 0 rfl rfl)
theorem dX0_cell_1 : decode cX0_cell 1 = .ok (.aload_n 0, 1) := dk_42 (dk_at dksX0_cell_0 1 rfl rfl)
theorem dX0_cell_2 : decode cX0_cell 2 = .ok (.arraylength, 1) := dk_190 (dk_at dksX0_cell_0 2 rfl rfl)
theorem dX0_cell_3 : decode cX0_cell 3 = .ok (.if_icmp .ge 15, 3) := dk_162 0 15 (dk_at dksX0_cell_0 3 rfl rfl)
theorem dX0_cell_6 : decode cX0_cell 6 = .ok (.iload_n 1, 1) := dk_27 (dk_at dksX0_cell_0 6 rfl rfl)
theorem dX0_cell_7 : decode cX0_cell 7 = .ok (.bipush 78, 2) := dk_16 78 (dk_at dksX0_cell_0 7 rfl rfl)
theorem dX0_cell_9 : decode cX0_cell 9 = .ok (.if_icmp .ge 9, 3) := dk_162 0 9 (dk_at dksX0_cell_0 9 rfl rfl)
theorem dX0_cell_12 : decode cX0_cell 12 = .ok (.aload_n 0, 1) := dk_42 (dk_at dksX0_cell_0 12 rfl rfl)
theorem dX0_cell_13 : decode cX0_cell 13 = .ok (.iload_n 1, 1) := dk_27 (dk_at dksX0_cell_0 13 rfl rfl)
theorem dX0_cell_14 : decode cX0_cell 14 = .ok (.iaload, 1) := dk_46 (dk_at dksX0_cell_0 14 rfl rfl)
theorem dX0_cell_15 : decode cX0_cell 15 = .ok (.goto 4, 3) := dk_167 0 4 (dk_at dksX0_cell_0 15 rfl rfl)
theorem dX0_cell_18 : decode cX0_cell 18 = .ok (.iconst 0, 1) := dk_3 (dk_at dksX0_cell_0 18 rfl rfl)
theorem dX0_cell_19 : decode cX0_cell 19 = .ok (.ireturn, 1) := dk_172 (dk_at dksX0_cell_0 19 rfl rfl)
abbrev cX0_bare : ByteArray := method_3_code
def yX0_bare : MethodName := ⟨RX0, "bare", "(I)I"⟩
def dkwX0_bare_0 : List UInt8 := [26, 18, 9, 126, 172]
abbrev dktX0_bare_0 : List UInt8 := dkwX0_bare_0 ++ []
theorem dksX0_bare_0 : cX0_bare.data.toList.drop 0 = dktX0_bare_0 := by decide +kernel
theorem dX0_bare_0 : decode cX0_bare 0 = .ok (.iload_n 0, 1) := dk_26 (dk_at dksX0_bare_0 0 rfl rfl)
theorem dX0_bare_1 : decode cX0_bare 1 = .ok (.ldc 9, 2) := dk_18 9 (dk_at dksX0_bare_0 1 rfl rfl)
theorem dX0_bare_3 : decode cX0_bare 3 = .ok (.iand, 1) := dk_126 (dk_at dksX0_bare_0 3 rfl rfl)
theorem dX0_bare_4 : decode cX0_bare 4 = .ok (.ireturn, 1) := dk_172 (dk_at dksX0_bare_0 4 rfl rfl)
abbrev cX0_word : ByteArray := method_4_code
def yX0_word : MethodName := ⟨RX0, "word", "([III)V"⟩
def dkwX0_word_1 : List UInt8 := [79, 132, 3, 1, 167, 255, 230, 177]
abbrev dktX0_word_1 : List UInt8 := dkwX0_word_1 ++ []
def dkwX0_word_0 : List UInt8 := [3, 62, 29, 7, 162, 0, 27, 42, 27, 29, 96, 28, 16, 24, 16, 8, 29, 104, 100, 122, 17, 0, 255, 126]
abbrev dktX0_word_0 : List UInt8 := dkwX0_word_0 ++ dktX0_word_1
theorem dksX0_word_0 : cX0_word.data.toList.drop 0 = dktX0_word_0 := by decide +kernel
theorem dksX0_word_1 : cX0_word.data.toList.drop 24 = dktX0_word_1 := dk_seg dksX0_word_0 24 rfl rfl
theorem dX0_word_0 : decode cX0_word 0 = .ok (.iconst 0, 1) := dk_3 (dk_at dksX0_word_0 0 rfl rfl)
theorem dX0_word_1 : decode cX0_word 1 = .ok (.istore_n 3, 1) := dk_62 (dk_at dksX0_word_0 1 rfl rfl)
theorem dX0_word_2 : decode cX0_word 2 = .ok (.iload_n 3, 1) := dk_29 (dk_at dksX0_word_0 2 rfl rfl)
theorem dX0_word_3 : decode cX0_word 3 = .ok (.iconst 4, 1) := dk_7 (dk_at dksX0_word_0 3 rfl rfl)
theorem dX0_word_4 : decode cX0_word 4 = .ok (.if_icmp .ge 27, 3) := dk_162 0 27 (dk_at dksX0_word_0 4 rfl rfl)
theorem dX0_word_7 : decode cX0_word 7 = .ok (.aload_n 0, 1) := dk_42 (dk_at dksX0_word_0 7 rfl rfl)
theorem dX0_word_8 : decode cX0_word 8 = .ok (.iload_n 1, 1) := dk_27 (dk_at dksX0_word_0 8 rfl rfl)
theorem dX0_word_9 : decode cX0_word 9 = .ok (.iload_n 3, 1) := dk_29 (dk_at dksX0_word_0 9 rfl rfl)
theorem dX0_word_10 : decode cX0_word 10 = .ok (.iadd, 1) := dk_96 (dk_at dksX0_word_0 10 rfl rfl)
theorem dX0_word_11 : decode cX0_word 11 = .ok (.iload_n 2, 1) := dk_28 (dk_at dksX0_word_0 11 rfl rfl)
theorem dX0_word_12 : decode cX0_word 12 = .ok (.bipush 24, 2) := dk_16 24 (dk_at dksX0_word_0 12 rfl rfl)
theorem dX0_word_14 : decode cX0_word 14 = .ok (.bipush 8, 2) := dk_16 8 (dk_at dksX0_word_0 14 rfl rfl)
theorem dX0_word_16 : decode cX0_word 16 = .ok (.iload_n 3, 1) := dk_29 (dk_at dksX0_word_0 16 rfl rfl)
theorem dX0_word_17 : decode cX0_word 17 = .ok (.imul, 1) := dk_104 (dk_at dksX0_word_0 17 rfl rfl)
theorem dX0_word_18 : decode cX0_word 18 = .ok (.isub, 1) := dk_100 (dk_at dksX0_word_0 18 rfl rfl)
theorem dX0_word_19 : decode cX0_word 19 = .ok (.ishr, 1) := dk_122 (dk_at dksX0_word_0 19 rfl rfl)
theorem dX0_word_20 : decode cX0_word 20 = .ok (.sipush 255, 3) := dk_17 0 255 (dk_at dksX0_word_0 20 rfl rfl)
theorem dX0_word_23 : decode cX0_word 23 = .ok (.iand, 1) := dk_126 (dk_at dksX0_word_0 23 rfl rfl)
theorem dX0_word_24 : decode cX0_word 24 = .ok (.iastore, 1) := dk_79 (dk_at dksX0_word_1 0 rfl rfl)
theorem dX0_word_25 : decode cX0_word 25 = .ok (.iinc 3 1, 3) := dk_132 3 1 (dk_at dksX0_word_1 1 rfl rfl)
theorem dX0_word_28 : decode cX0_word 28 = .ok (.goto (-26), 3) := dk_167 255 230 (dk_at dksX0_word_1 4 rfl rfl)
theorem dX0_word_31 : decode cX0_word 31 = .ok (.return_, 1) := dk_177 (dk_at dksX0_word_1 7 rfl rfl)
abbrev cX0_box : ByteArray := method_6_code
def yX0_box : MethodName := ⟨RX0, "box", "()[I"⟩
def dkwX0_box_5 : List UInt8 := [167, 255, 184, 44, 176]
abbrev dktX0_box_5 : List UInt8 := dkwX0_box_5 ++ []
def dkwX0_box_4 : List UInt8 := [128, 17, 0, 255, 126, 130, 54, 5, 132, 6, 1, 167, 255, 224, 44, 42, 29, 46, 21, 5, 79, 132, 3, 1]
abbrev dktX0_box_4 : List UInt8 := dkwX0_box_4 ++ dktX0_box_5
def dkwX0_box_3 : List UInt8 := [3, 54, 6, 21, 6, 8, 162, 0, 32, 21, 5, 21, 4, 21, 6, 120, 21, 4, 16, 8, 21, 6, 100, 122]
abbrev dktX0_box_3 : List UInt8 := dkwX0_box_3 ++ dktX0_box_4
def dkwX0_box_2 : List UInt8 := [29, 17, 0, 255, 162, 0, 71, 42, 17, 0, 255, 29, 100, 17, 0, 255, 112, 46, 54, 4, 16, 99, 54, 5]
abbrev dktX0_box_2 : List UInt8 := dkwX0_box_2 ++ dktX0_box_3
def dkwX0_box_1 : List UInt8 := [184, 0, 10, 130, 60, 132, 2, 1, 167, 255, 235, 17, 1, 0, 188, 10, 77, 44, 3, 16, 99, 79, 3, 62]
abbrev dktX0_box_1 : List UInt8 := dkwX0_box_1 ++ dktX0_box_2
def dkwX0_box_0 : List UInt8 := [17, 0, 255, 188, 10, 75, 4, 60, 3, 61, 28, 17, 0, 255, 162, 0, 20, 42, 28, 27, 79, 27, 27]
abbrev dktX0_box_0 : List UInt8 := dkwX0_box_0 ++ dktX0_box_1
theorem dksX0_box_0 : cX0_box.data.toList.drop 0 = dktX0_box_0 := by decide +kernel
theorem dksX0_box_1 : cX0_box.data.toList.drop 23 = dktX0_box_1 := dk_seg dksX0_box_0 23 rfl rfl
theorem dksX0_box_2 : cX0_box.data.toList.drop 47 = dktX0_box_2 := dk_seg dksX0_box_1 24 rfl rfl
theorem dksX0_box_3 : cX0_box.data.toList.drop 71 = dktX0_box_3 := dk_seg dksX0_box_2 24 rfl rfl
theorem dksX0_box_4 : cX0_box.data.toList.drop 95 = dktX0_box_4 := dk_seg dksX0_box_3 24 rfl rfl
theorem dksX0_box_5 : cX0_box.data.toList.drop 119 = dktX0_box_5 := dk_seg dksX0_box_4 24 rfl rfl
theorem dX0_box_0 : decode cX0_box 0 = .ok (.sipush 255, 3) := dk_17 0 255 (dk_at dksX0_box_0 0 rfl rfl)
theorem dX0_box_3 : decode cX0_box 3 = .ok (.newarray .int, 2) := dk_188_10 (dk_at dksX0_box_0 3 rfl rfl)
theorem dX0_box_5 : decode cX0_box 5 = .ok (.astore_n 0, 1) := dk_75 (dk_at dksX0_box_0 5 rfl rfl)
theorem dX0_box_6 : decode cX0_box 6 = .ok (.iconst 1, 1) := dk_4 (dk_at dksX0_box_0 6 rfl rfl)
theorem dX0_box_7 : decode cX0_box 7 = .ok (.istore_n 1, 1) := dk_60 (dk_at dksX0_box_0 7 rfl rfl)
theorem dX0_box_8 : decode cX0_box 8 = .ok (.iconst 0, 1) := dk_3 (dk_at dksX0_box_0 8 rfl rfl)
theorem dX0_box_9 : decode cX0_box 9 = .ok (.istore_n 2, 1) := dk_61 (dk_at dksX0_box_0 9 rfl rfl)
theorem dX0_box_10 : decode cX0_box 10 = .ok (.iload_n 2, 1) := dk_28 (dk_at dksX0_box_0 10 rfl rfl)
theorem dX0_box_11 : decode cX0_box 11 = .ok (.sipush 255, 3) := dk_17 0 255 (dk_at dksX0_box_0 11 rfl rfl)
theorem dX0_box_14 : decode cX0_box 14 = .ok (.if_icmp .ge 20, 3) := dk_162 0 20 (dk_at dksX0_box_0 14 rfl rfl)
theorem dX0_box_17 : decode cX0_box 17 = .ok (.aload_n 0, 1) := dk_42 (dk_at dksX0_box_0 17 rfl rfl)
theorem dX0_box_18 : decode cX0_box 18 = .ok (.iload_n 2, 1) := dk_28 (dk_at dksX0_box_0 18 rfl rfl)
theorem dX0_box_19 : decode cX0_box 19 = .ok (.iload_n 1, 1) := dk_27 (dk_at dksX0_box_0 19 rfl rfl)
theorem dX0_box_20 : decode cX0_box 20 = .ok (.iastore, 1) := dk_79 (dk_at dksX0_box_0 20 rfl rfl)
theorem dX0_box_21 : decode cX0_box 21 = .ok (.iload_n 1, 1) := dk_27 (dk_at dksX0_box_0 21 rfl rfl)
theorem dX0_box_22 : decode cX0_box 22 = .ok (.iload_n 1, 1) := dk_27 (dk_at dksX0_box_0 22 rfl rfl)
theorem dX0_box_23 : decode cX0_box 23 = .ok (.invokestatic 10, 3) := dk_184 0 10 (dk_at dksX0_box_1 0 rfl rfl)
theorem dX0_box_26 : decode cX0_box 26 = .ok (.ixor, 1) := dk_130 (dk_at dksX0_box_1 3 rfl rfl)
theorem dX0_box_27 : decode cX0_box 27 = .ok (.istore_n 1, 1) := dk_60 (dk_at dksX0_box_1 4 rfl rfl)
theorem dX0_box_28 : decode cX0_box 28 = .ok (.iinc 2 1, 3) := dk_132 2 1 (dk_at dksX0_box_1 5 rfl rfl)
theorem dX0_box_31 : decode cX0_box 31 = .ok (.goto (-21), 3) := dk_167 255 235 (dk_at dksX0_box_1 8 rfl rfl)
theorem dX0_box_34 : decode cX0_box 34 = .ok (.sipush 256, 3) := dk_17 1 0 (dk_at dksX0_box_1 11 rfl rfl)
theorem dX0_box_37 : decode cX0_box 37 = .ok (.newarray .int, 2) := dk_188_10 (dk_at dksX0_box_1 14 rfl rfl)
theorem dX0_box_39 : decode cX0_box 39 = .ok (.astore_n 2, 1) := dk_77 (dk_at dksX0_box_1 16 rfl rfl)
theorem dX0_box_40 : decode cX0_box 40 = .ok (.aload_n 2, 1) := dk_44 (dk_at dksX0_box_1 17 rfl rfl)
theorem dX0_box_41 : decode cX0_box 41 = .ok (.iconst 0, 1) := dk_3 (dk_at dksX0_box_1 18 rfl rfl)
theorem dX0_box_42 : decode cX0_box 42 = .ok (.bipush 99, 2) := dk_16 99 (dk_at dksX0_box_1 19 rfl rfl)
theorem dX0_box_44 : decode cX0_box 44 = .ok (.iastore, 1) := dk_79 (dk_at dksX0_box_1 21 rfl rfl)
theorem dX0_box_45 : decode cX0_box 45 = .ok (.iconst 0, 1) := dk_3 (dk_at dksX0_box_1 22 rfl rfl)
theorem dX0_box_46 : decode cX0_box 46 = .ok (.istore_n 3, 1) := dk_62 (dk_at dksX0_box_1 23 rfl rfl)
theorem dX0_box_47 : decode cX0_box 47 = .ok (.iload_n 3, 1) := dk_29 (dk_at dksX0_box_2 0 rfl rfl)
theorem dX0_box_48 : decode cX0_box 48 = .ok (.sipush 255, 3) := dk_17 0 255 (dk_at dksX0_box_2 1 rfl rfl)
theorem dX0_box_51 : decode cX0_box 51 = .ok (.if_icmp .ge 71, 3) := dk_162 0 71 (dk_at dksX0_box_2 4 rfl rfl)
theorem dX0_box_54 : decode cX0_box 54 = .ok (.aload_n 0, 1) := dk_42 (dk_at dksX0_box_2 7 rfl rfl)
theorem dX0_box_55 : decode cX0_box 55 = .ok (.sipush 255, 3) := dk_17 0 255 (dk_at dksX0_box_2 8 rfl rfl)
theorem dX0_box_58 : decode cX0_box 58 = .ok (.iload_n 3, 1) := dk_29 (dk_at dksX0_box_2 11 rfl rfl)
theorem dX0_box_59 : decode cX0_box 59 = .ok (.isub, 1) := dk_100 (dk_at dksX0_box_2 12 rfl rfl)
theorem dX0_box_60 : decode cX0_box 60 = .ok (.sipush 255, 3) := dk_17 0 255 (dk_at dksX0_box_2 13 rfl rfl)
theorem dX0_box_63 : decode cX0_box 63 = .ok (.irem, 1) := dk_112 (dk_at dksX0_box_2 16 rfl rfl)
theorem dX0_box_64 : decode cX0_box 64 = .ok (.iaload, 1) := dk_46 (dk_at dksX0_box_2 17 rfl rfl)
theorem dX0_box_65 : decode cX0_box 65 = .ok (.istore 4, 2) := dk_54 4 (dk_at dksX0_box_2 18 rfl rfl)
theorem dX0_box_67 : decode cX0_box 67 = .ok (.bipush 99, 2) := dk_16 99 (dk_at dksX0_box_2 20 rfl rfl)
theorem dX0_box_69 : decode cX0_box 69 = .ok (.istore 5, 2) := dk_54 5 (dk_at dksX0_box_2 22 rfl rfl)
theorem dX0_box_71 : decode cX0_box 71 = .ok (.iconst 0, 1) := dk_3 (dk_at dksX0_box_3 0 rfl rfl)
theorem dX0_box_72 : decode cX0_box 72 = .ok (.istore 6, 2) := dk_54 6 (dk_at dksX0_box_3 1 rfl rfl)
theorem dX0_box_74 : decode cX0_box 74 = .ok (.iload 6, 2) := dk_21 6 (dk_at dksX0_box_3 3 rfl rfl)
theorem dX0_box_76 : decode cX0_box 76 = .ok (.iconst 5, 1) := dk_8 (dk_at dksX0_box_3 5 rfl rfl)
theorem dX0_box_77 : decode cX0_box 77 = .ok (.if_icmp .ge 32, 3) := dk_162 0 32 (dk_at dksX0_box_3 6 rfl rfl)
theorem dX0_box_80 : decode cX0_box 80 = .ok (.iload 5, 2) := dk_21 5 (dk_at dksX0_box_3 9 rfl rfl)
theorem dX0_box_82 : decode cX0_box 82 = .ok (.iload 4, 2) := dk_21 4 (dk_at dksX0_box_3 11 rfl rfl)
theorem dX0_box_84 : decode cX0_box 84 = .ok (.iload 6, 2) := dk_21 6 (dk_at dksX0_box_3 13 rfl rfl)
theorem dX0_box_86 : decode cX0_box 86 = .ok (.ishl, 1) := dk_120 (dk_at dksX0_box_3 15 rfl rfl)
theorem dX0_box_87 : decode cX0_box 87 = .ok (.iload 4, 2) := dk_21 4 (dk_at dksX0_box_3 16 rfl rfl)
theorem dX0_box_89 : decode cX0_box 89 = .ok (.bipush 8, 2) := dk_16 8 (dk_at dksX0_box_3 18 rfl rfl)
theorem dX0_box_91 : decode cX0_box 91 = .ok (.iload 6, 2) := dk_21 6 (dk_at dksX0_box_3 20 rfl rfl)
theorem dX0_box_93 : decode cX0_box 93 = .ok (.isub, 1) := dk_100 (dk_at dksX0_box_3 22 rfl rfl)
theorem dX0_box_94 : decode cX0_box 94 = .ok (.ishr, 1) := dk_122 (dk_at dksX0_box_3 23 rfl rfl)
theorem dX0_box_95 : decode cX0_box 95 = .ok (.ior, 1) := dk_128 (dk_at dksX0_box_4 0 rfl rfl)
theorem dX0_box_96 : decode cX0_box 96 = .ok (.sipush 255, 3) := dk_17 0 255 (dk_at dksX0_box_4 1 rfl rfl)
theorem dX0_box_99 : decode cX0_box 99 = .ok (.iand, 1) := dk_126 (dk_at dksX0_box_4 4 rfl rfl)
theorem dX0_box_100 : decode cX0_box 100 = .ok (.ixor, 1) := dk_130 (dk_at dksX0_box_4 5 rfl rfl)
theorem dX0_box_101 : decode cX0_box 101 = .ok (.istore 5, 2) := dk_54 5 (dk_at dksX0_box_4 6 rfl rfl)
theorem dX0_box_103 : decode cX0_box 103 = .ok (.iinc 6 1, 3) := dk_132 6 1 (dk_at dksX0_box_4 8 rfl rfl)
theorem dX0_box_106 : decode cX0_box 106 = .ok (.goto (-32), 3) := dk_167 255 224 (dk_at dksX0_box_4 11 rfl rfl)
theorem dX0_box_109 : decode cX0_box 109 = .ok (.aload_n 2, 1) := dk_44 (dk_at dksX0_box_4 14 rfl rfl)
theorem dX0_box_110 : decode cX0_box 110 = .ok (.aload_n 0, 1) := dk_42 (dk_at dksX0_box_4 15 rfl rfl)
theorem dX0_box_111 : decode cX0_box 111 = .ok (.iload_n 3, 1) := dk_29 (dk_at dksX0_box_4 16 rfl rfl)
theorem dX0_box_112 : decode cX0_box 112 = .ok (.iaload, 1) := dk_46 (dk_at dksX0_box_4 17 rfl rfl)
theorem dX0_box_113 : decode cX0_box 113 = .ok (.iload 5, 2) := dk_21 5 (dk_at dksX0_box_4 18 rfl rfl)
theorem dX0_box_115 : decode cX0_box 115 = .ok (.iastore, 1) := dk_79 (dk_at dksX0_box_4 20 rfl rfl)
theorem dX0_box_116 : decode cX0_box 116 = .ok (.iinc 3 1, 3) := dk_132 3 1 (dk_at dksX0_box_4 21 rfl rfl)
theorem dX0_box_119 : decode cX0_box 119 = .ok (.goto (-72), 3) := dk_167 255 184 (dk_at dksX0_box_5 0 rfl rfl)
theorem dX0_box_122 : decode cX0_box 122 = .ok (.aload_n 2, 1) := dk_44 (dk_at dksX0_box_5 3 rfl rfl)
theorem dX0_box_123 : decode cX0_box 123 = .ok (.areturn, 1) := dk_176 (dk_at dksX0_box_5 4 rfl rfl)
abbrev cX0_twice : ByteArray := method_5_code
def yX0_twice : MethodName := ⟨RX0, "twice", "(I)I"⟩
def dkwX0_twice_0 : List UInt8 := [26, 17, 0, 128, 162, 0, 9, 5, 26, 104, 167, 0, 10, 5, 26, 104, 17, 1, 27, 130, 172]
abbrev dktX0_twice_0 : List UInt8 := dkwX0_twice_0 ++ []
theorem dksX0_twice_0 : cX0_twice.data.toList.drop 0 = dktX0_twice_0 := by decide +kernel
theorem dX0_twice_0 : decode cX0_twice 0 = .ok (.iload_n 0, 1) := dk_26 (dk_at dksX0_twice_0 0 rfl rfl)
theorem dX0_twice_1 : decode cX0_twice 1 = .ok (.sipush 128, 3) := dk_17 0 128 (dk_at dksX0_twice_0 1 rfl rfl)
theorem dX0_twice_4 : decode cX0_twice 4 = .ok (.if_icmp .ge 9, 3) := dk_162 0 9 (dk_at dksX0_twice_0 4 rfl rfl)
theorem dX0_twice_7 : decode cX0_twice 7 = .ok (.iconst 2, 1) := dk_5 (dk_at dksX0_twice_0 7 rfl rfl)
theorem dX0_twice_8 : decode cX0_twice 8 = .ok (.iload_n 0, 1) := dk_26 (dk_at dksX0_twice_0 8 rfl rfl)
theorem dX0_twice_9 : decode cX0_twice 9 = .ok (.imul, 1) := dk_104 (dk_at dksX0_twice_0 9 rfl rfl)
theorem dX0_twice_10 : decode cX0_twice 10 = .ok (.goto 10, 3) := dk_167 0 10 (dk_at dksX0_twice_0 10 rfl rfl)
theorem dX0_twice_13 : decode cX0_twice 13 = .ok (.iconst 2, 1) := dk_5 (dk_at dksX0_twice_0 13 rfl rfl)
theorem dX0_twice_14 : decode cX0_twice 14 = .ok (.iload_n 0, 1) := dk_26 (dk_at dksX0_twice_0 14 rfl rfl)
theorem dX0_twice_15 : decode cX0_twice 15 = .ok (.imul, 1) := dk_104 (dk_at dksX0_twice_0 15 rfl rfl)
theorem dX0_twice_16 : decode cX0_twice 16 = .ok (.sipush 283, 3) := dk_17 1 27 (dk_at dksX0_twice_0 16 rfl rfl)
theorem dX0_twice_19 : decode cX0_twice 19 = .ok (.ixor, 1) := dk_130 (dk_at dksX0_twice_0 19 rfl rfl)
theorem dX0_twice_20 : decode cX0_twice 20 = .ok (.ireturn, 1) := dk_172 (dk_at dksX0_twice_0 20 rfl rfl)
abbrev cX0_rounds : ByteArray := method_7_code
def yX0_rounds : MethodName := ⟨RX0, "rounds", "([II[I)[I"⟩
def dkwX0_rounds_10 : List UInt8 := [25, 6, 21, 7, 46, 130, 79, 132, 7, 1, 167, 255, 225, 132, 5, 4, 167, 255, 24, 45, 176]
abbrev dktX0_rounds_10 : List UInt8 := dkwX0_rounds_10 ++ []
def dkwX0_rounds_9 : List UInt8 := [3, 54, 7, 21, 7, 7, 162, 0, 31, 45, 21, 5, 21, 7, 96, 45, 21, 5, 21, 7, 96, 27, 100, 46]
abbrev dktX0_rounds_9 : List UInt8 := dkwX0_rounds_9 ++ dktX0_rounds_10
def dkwX0_rounds_8 : List UInt8 := [21, 7, 7, 162, 0, 21, 25, 6, 21, 7, 44, 25, 6, 21, 7, 46, 46, 79, 132, 7, 1, 167, 255, 235]
abbrev dktX0_rounds_8 : List UInt8 := dkwX0_rounds_8 ++ dktX0_rounds_9
def dkwX0_rounds_7 : List UInt8 := [54, 4, 167, 0, 45, 27, 16, 32, 160, 0, 39, 21, 5, 27, 112, 16, 16, 160, 0, 30, 3, 54, 7]
abbrev dktX0_rounds_7 : List UInt8 := dkwX0_rounds_7 ++ dktX0_rounds_8
def dkwX0_rounds_6 : List UInt8 := [25, 6, 5, 44, 25, 6, 6, 46, 46, 79, 25, 6, 6, 44, 21, 7, 46, 79, 21, 4, 184, 0, 10]
abbrev dktX0_rounds_6 : List UInt8 := dkwX0_rounds_6 ++ dktX0_rounds_7
def dkwX0_rounds_5 : List UInt8 := [25, 6, 3, 44, 25, 6, 4, 46, 46, 21, 4, 130, 79, 25, 6, 4, 44, 25, 6, 5, 46, 46, 79]
abbrev dktX0_rounds_5 : List UInt8 := dkwX0_rounds_5 ++ dktX0_rounds_6
def dkwX0_rounds_4 : List UInt8 := [89, 6, 45, 21, 5, 4, 100, 46, 79, 58, 6, 21, 5, 27, 112, 154, 0, 60, 25, 6, 3, 46, 54, 7]
abbrev dktX0_rounds_4 : List UInt8 := dkwX0_rounds_4 ++ dktX0_rounds_5
def dkwX0_rounds_3 : List UInt8 := [21, 5, 7, 100, 46, 79, 89, 4, 45, 21, 5, 6, 100, 46, 79, 89, 5, 45, 21, 5, 5, 100, 46, 79]
abbrev dktX0_rounds_3 : List UInt8 := dkwX0_rounds_3 ++ dktX0_rounds_4
def dkwX0_rounds_2 : List UInt8 := [42, 21, 5, 21, 6, 96, 46, 79, 132, 6, 1, 167, 255, 233, 167, 0, 187, 7, 188, 10, 89, 3, 45]
abbrev dktX0_rounds_2 : List UInt8 := dkwX0_rounds_2 ++ dktX0_rounds_3
def dkwX0_rounds_1 : List UInt8 := [162, 0, 231, 21, 5, 27, 162, 0, 35, 3, 54, 6, 21, 6, 7, 162, 0, 23, 45, 21, 5, 21, 6, 96]
abbrev dktX0_rounds_1 : List UInt8 := dkwX0_rounds_1 ++ dktX0_rounds_2
def dkwX0_rounds_0 : List UInt8 := [16, 16, 27, 7, 108, 16, 7, 96, 104, 188, 10, 78, 4, 54, 4, 3, 54, 5, 21, 5, 45, 190]
abbrev dktX0_rounds_0 : List UInt8 := dkwX0_rounds_0 ++ dktX0_rounds_1
theorem dksX0_rounds_0 : cX0_rounds.data.toList.drop 0 = dktX0_rounds_0 := by decide +kernel
theorem dksX0_rounds_1 : cX0_rounds.data.toList.drop 22 = dktX0_rounds_1 := dk_seg dksX0_rounds_0 22 rfl rfl
theorem dksX0_rounds_2 : cX0_rounds.data.toList.drop 46 = dktX0_rounds_2 := dk_seg dksX0_rounds_1 24 rfl rfl
theorem dksX0_rounds_3 : cX0_rounds.data.toList.drop 69 = dktX0_rounds_3 := dk_seg dksX0_rounds_2 23 rfl rfl
theorem dksX0_rounds_4 : cX0_rounds.data.toList.drop 93 = dktX0_rounds_4 := dk_seg dksX0_rounds_3 24 rfl rfl
theorem dksX0_rounds_5 : cX0_rounds.data.toList.drop 117 = dktX0_rounds_5 := dk_seg dksX0_rounds_4 24 rfl rfl
theorem dksX0_rounds_6 : cX0_rounds.data.toList.drop 140 = dktX0_rounds_6 := dk_seg dksX0_rounds_5 23 rfl rfl
theorem dksX0_rounds_7 : cX0_rounds.data.toList.drop 163 = dktX0_rounds_7 := dk_seg dksX0_rounds_6 23 rfl rfl
theorem dksX0_rounds_8 : cX0_rounds.data.toList.drop 186 = dktX0_rounds_8 := dk_seg dksX0_rounds_7 23 rfl rfl
theorem dksX0_rounds_9 : cX0_rounds.data.toList.drop 210 = dktX0_rounds_9 := dk_seg dksX0_rounds_8 24 rfl rfl
theorem dksX0_rounds_10 : cX0_rounds.data.toList.drop 234 = dktX0_rounds_10 := dk_seg dksX0_rounds_9 24 rfl rfl
theorem dX0_rounds_0 : decode cX0_rounds 0 = .ok (.bipush 16, 2) := dk_16 16 (dk_at dksX0_rounds_0 0 rfl rfl)
theorem dX0_rounds_2 : decode cX0_rounds 2 = .ok (.iload_n 1, 1) := dk_27 (dk_at dksX0_rounds_0 2 rfl rfl)
theorem dX0_rounds_3 : decode cX0_rounds 3 = .ok (.iconst 4, 1) := dk_7 (dk_at dksX0_rounds_0 3 rfl rfl)
theorem dX0_rounds_4 : decode cX0_rounds 4 = .ok (.idiv, 1) := dk_108 (dk_at dksX0_rounds_0 4 rfl rfl)
theorem dX0_rounds_5 : decode cX0_rounds 5 = .ok (.bipush 7, 2) := dk_16 7 (dk_at dksX0_rounds_0 5 rfl rfl)
theorem dX0_rounds_7 : decode cX0_rounds 7 = .ok (.iadd, 1) := dk_96 (dk_at dksX0_rounds_0 7 rfl rfl)
theorem dX0_rounds_8 : decode cX0_rounds 8 = .ok (.imul, 1) := dk_104 (dk_at dksX0_rounds_0 8 rfl rfl)
theorem dX0_rounds_9 : decode cX0_rounds 9 = .ok (.newarray .int, 2) := dk_188_10 (dk_at dksX0_rounds_0 9 rfl rfl)
theorem dX0_rounds_11 : decode cX0_rounds 11 = .ok (.astore_n 3, 1) := dk_78 (dk_at dksX0_rounds_0 11 rfl rfl)
theorem dX0_rounds_12 : decode cX0_rounds 12 = .ok (.iconst 1, 1) := dk_4 (dk_at dksX0_rounds_0 12 rfl rfl)
theorem dX0_rounds_13 : decode cX0_rounds 13 = .ok (.istore 4, 2) := dk_54 4 (dk_at dksX0_rounds_0 13 rfl rfl)
theorem dX0_rounds_15 : decode cX0_rounds 15 = .ok (.iconst 0, 1) := dk_3 (dk_at dksX0_rounds_0 15 rfl rfl)
theorem dX0_rounds_16 : decode cX0_rounds 16 = .ok (.istore 5, 2) := dk_54 5 (dk_at dksX0_rounds_0 16 rfl rfl)
theorem dX0_rounds_18 : decode cX0_rounds 18 = .ok (.iload 5, 2) := dk_21 5 (dk_at dksX0_rounds_0 18 rfl rfl)
theorem dX0_rounds_20 : decode cX0_rounds 20 = .ok (.aload_n 3, 1) := dk_45 (dk_at dksX0_rounds_0 20 rfl rfl)
theorem dX0_rounds_21 : decode cX0_rounds 21 = .ok (.arraylength, 1) := dk_190 (dk_at dksX0_rounds_0 21 rfl rfl)
theorem dX0_rounds_22 : decode cX0_rounds 22 = .ok (.if_icmp .ge 231, 3) := dk_162 0 231 (dk_at dksX0_rounds_1 0 rfl rfl)
theorem dX0_rounds_25 : decode cX0_rounds 25 = .ok (.iload 5, 2) := dk_21 5 (dk_at dksX0_rounds_1 3 rfl rfl)
theorem dX0_rounds_27 : decode cX0_rounds 27 = .ok (.iload_n 1, 1) := dk_27 (dk_at dksX0_rounds_1 5 rfl rfl)
theorem dX0_rounds_28 : decode cX0_rounds 28 = .ok (.if_icmp .ge 35, 3) := dk_162 0 35 (dk_at dksX0_rounds_1 6 rfl rfl)
theorem dX0_rounds_31 : decode cX0_rounds 31 = .ok (.iconst 0, 1) := dk_3 (dk_at dksX0_rounds_1 9 rfl rfl)
theorem dX0_rounds_32 : decode cX0_rounds 32 = .ok (.istore 6, 2) := dk_54 6 (dk_at dksX0_rounds_1 10 rfl rfl)
theorem dX0_rounds_34 : decode cX0_rounds 34 = .ok (.iload 6, 2) := dk_21 6 (dk_at dksX0_rounds_1 12 rfl rfl)
theorem dX0_rounds_36 : decode cX0_rounds 36 = .ok (.iconst 4, 1) := dk_7 (dk_at dksX0_rounds_1 14 rfl rfl)
theorem dX0_rounds_37 : decode cX0_rounds 37 = .ok (.if_icmp .ge 23, 3) := dk_162 0 23 (dk_at dksX0_rounds_1 15 rfl rfl)
theorem dX0_rounds_40 : decode cX0_rounds 40 = .ok (.aload_n 3, 1) := dk_45 (dk_at dksX0_rounds_1 18 rfl rfl)
theorem dX0_rounds_41 : decode cX0_rounds 41 = .ok (.iload 5, 2) := dk_21 5 (dk_at dksX0_rounds_1 19 rfl rfl)
theorem dX0_rounds_43 : decode cX0_rounds 43 = .ok (.iload 6, 2) := dk_21 6 (dk_at dksX0_rounds_1 21 rfl rfl)
theorem dX0_rounds_45 : decode cX0_rounds 45 = .ok (.iadd, 1) := dk_96 (dk_at dksX0_rounds_1 23 rfl rfl)
theorem dX0_rounds_46 : decode cX0_rounds 46 = .ok (.aload_n 0, 1) := dk_42 (dk_at dksX0_rounds_2 0 rfl rfl)
theorem dX0_rounds_47 : decode cX0_rounds 47 = .ok (.iload 5, 2) := dk_21 5 (dk_at dksX0_rounds_2 1 rfl rfl)
theorem dX0_rounds_49 : decode cX0_rounds 49 = .ok (.iload 6, 2) := dk_21 6 (dk_at dksX0_rounds_2 3 rfl rfl)
theorem dX0_rounds_51 : decode cX0_rounds 51 = .ok (.iadd, 1) := dk_96 (dk_at dksX0_rounds_2 5 rfl rfl)
theorem dX0_rounds_52 : decode cX0_rounds 52 = .ok (.iaload, 1) := dk_46 (dk_at dksX0_rounds_2 6 rfl rfl)
theorem dX0_rounds_53 : decode cX0_rounds 53 = .ok (.iastore, 1) := dk_79 (dk_at dksX0_rounds_2 7 rfl rfl)
theorem dX0_rounds_54 : decode cX0_rounds 54 = .ok (.iinc 6 1, 3) := dk_132 6 1 (dk_at dksX0_rounds_2 8 rfl rfl)
theorem dX0_rounds_57 : decode cX0_rounds 57 = .ok (.goto (-23), 3) := dk_167 255 233 (dk_at dksX0_rounds_2 11 rfl rfl)
theorem dX0_rounds_60 : decode cX0_rounds 60 = .ok (.goto 187, 3) := dk_167 0 187 (dk_at dksX0_rounds_2 14 rfl rfl)
theorem dX0_rounds_63 : decode cX0_rounds 63 = .ok (.iconst 4, 1) := dk_7 (dk_at dksX0_rounds_2 17 rfl rfl)
theorem dX0_rounds_64 : decode cX0_rounds 64 = .ok (.newarray .int, 2) := dk_188_10 (dk_at dksX0_rounds_2 18 rfl rfl)
theorem dX0_rounds_66 : decode cX0_rounds 66 = .ok (.dup, 1) := dk_89 (dk_at dksX0_rounds_2 20 rfl rfl)
theorem dX0_rounds_67 : decode cX0_rounds 67 = .ok (.iconst 0, 1) := dk_3 (dk_at dksX0_rounds_2 21 rfl rfl)
theorem dX0_rounds_68 : decode cX0_rounds 68 = .ok (.aload_n 3, 1) := dk_45 (dk_at dksX0_rounds_2 22 rfl rfl)
theorem dX0_rounds_69 : decode cX0_rounds 69 = .ok (.iload 5, 2) := dk_21 5 (dk_at dksX0_rounds_3 0 rfl rfl)
theorem dX0_rounds_71 : decode cX0_rounds 71 = .ok (.iconst 4, 1) := dk_7 (dk_at dksX0_rounds_3 2 rfl rfl)
theorem dX0_rounds_72 : decode cX0_rounds 72 = .ok (.isub, 1) := dk_100 (dk_at dksX0_rounds_3 3 rfl rfl)
theorem dX0_rounds_73 : decode cX0_rounds 73 = .ok (.iaload, 1) := dk_46 (dk_at dksX0_rounds_3 4 rfl rfl)
theorem dX0_rounds_74 : decode cX0_rounds 74 = .ok (.iastore, 1) := dk_79 (dk_at dksX0_rounds_3 5 rfl rfl)
theorem dX0_rounds_75 : decode cX0_rounds 75 = .ok (.dup, 1) := dk_89 (dk_at dksX0_rounds_3 6 rfl rfl)
theorem dX0_rounds_76 : decode cX0_rounds 76 = .ok (.iconst 1, 1) := dk_4 (dk_at dksX0_rounds_3 7 rfl rfl)
theorem dX0_rounds_77 : decode cX0_rounds 77 = .ok (.aload_n 3, 1) := dk_45 (dk_at dksX0_rounds_3 8 rfl rfl)
theorem dX0_rounds_78 : decode cX0_rounds 78 = .ok (.iload 5, 2) := dk_21 5 (dk_at dksX0_rounds_3 9 rfl rfl)
theorem dX0_rounds_80 : decode cX0_rounds 80 = .ok (.iconst 3, 1) := dk_6 (dk_at dksX0_rounds_3 11 rfl rfl)
theorem dX0_rounds_81 : decode cX0_rounds 81 = .ok (.isub, 1) := dk_100 (dk_at dksX0_rounds_3 12 rfl rfl)
theorem dX0_rounds_82 : decode cX0_rounds 82 = .ok (.iaload, 1) := dk_46 (dk_at dksX0_rounds_3 13 rfl rfl)
theorem dX0_rounds_83 : decode cX0_rounds 83 = .ok (.iastore, 1) := dk_79 (dk_at dksX0_rounds_3 14 rfl rfl)
theorem dX0_rounds_84 : decode cX0_rounds 84 = .ok (.dup, 1) := dk_89 (dk_at dksX0_rounds_3 15 rfl rfl)
theorem dX0_rounds_85 : decode cX0_rounds 85 = .ok (.iconst 2, 1) := dk_5 (dk_at dksX0_rounds_3 16 rfl rfl)
theorem dX0_rounds_86 : decode cX0_rounds 86 = .ok (.aload_n 3, 1) := dk_45 (dk_at dksX0_rounds_3 17 rfl rfl)
theorem dX0_rounds_87 : decode cX0_rounds 87 = .ok (.iload 5, 2) := dk_21 5 (dk_at dksX0_rounds_3 18 rfl rfl)
theorem dX0_rounds_89 : decode cX0_rounds 89 = .ok (.iconst 2, 1) := dk_5 (dk_at dksX0_rounds_3 20 rfl rfl)
theorem dX0_rounds_90 : decode cX0_rounds 90 = .ok (.isub, 1) := dk_100 (dk_at dksX0_rounds_3 21 rfl rfl)
theorem dX0_rounds_91 : decode cX0_rounds 91 = .ok (.iaload, 1) := dk_46 (dk_at dksX0_rounds_3 22 rfl rfl)
theorem dX0_rounds_92 : decode cX0_rounds 92 = .ok (.iastore, 1) := dk_79 (dk_at dksX0_rounds_3 23 rfl rfl)
theorem dX0_rounds_93 : decode cX0_rounds 93 = .ok (.dup, 1) := dk_89 (dk_at dksX0_rounds_4 0 rfl rfl)
theorem dX0_rounds_94 : decode cX0_rounds 94 = .ok (.iconst 3, 1) := dk_6 (dk_at dksX0_rounds_4 1 rfl rfl)
theorem dX0_rounds_95 : decode cX0_rounds 95 = .ok (.aload_n 3, 1) := dk_45 (dk_at dksX0_rounds_4 2 rfl rfl)
theorem dX0_rounds_96 : decode cX0_rounds 96 = .ok (.iload 5, 2) := dk_21 5 (dk_at dksX0_rounds_4 3 rfl rfl)
theorem dX0_rounds_98 : decode cX0_rounds 98 = .ok (.iconst 1, 1) := dk_4 (dk_at dksX0_rounds_4 5 rfl rfl)
theorem dX0_rounds_99 : decode cX0_rounds 99 = .ok (.isub, 1) := dk_100 (dk_at dksX0_rounds_4 6 rfl rfl)
theorem dX0_rounds_100 : decode cX0_rounds 100 = .ok (.iaload, 1) := dk_46 (dk_at dksX0_rounds_4 7 rfl rfl)
theorem dX0_rounds_101 : decode cX0_rounds 101 = .ok (.iastore, 1) := dk_79 (dk_at dksX0_rounds_4 8 rfl rfl)
theorem dX0_rounds_102 : decode cX0_rounds 102 = .ok (.astore 6, 2) := dk_58 6 (dk_at dksX0_rounds_4 9 rfl rfl)
theorem dX0_rounds_104 : decode cX0_rounds 104 = .ok (.iload 5, 2) := dk_21 5 (dk_at dksX0_rounds_4 11 rfl rfl)
theorem dX0_rounds_106 : decode cX0_rounds 106 = .ok (.iload_n 1, 1) := dk_27 (dk_at dksX0_rounds_4 13 rfl rfl)
theorem dX0_rounds_107 : decode cX0_rounds 107 = .ok (.irem, 1) := dk_112 (dk_at dksX0_rounds_4 14 rfl rfl)
theorem dX0_rounds_108 : decode cX0_rounds 108 = .ok (.ifCond .ne 60, 3) := dk_154 0 60 (dk_at dksX0_rounds_4 15 rfl rfl)
theorem dX0_rounds_111 : decode cX0_rounds 111 = .ok (.aload 6, 2) := dk_25 6 (dk_at dksX0_rounds_4 18 rfl rfl)
theorem dX0_rounds_113 : decode cX0_rounds 113 = .ok (.iconst 0, 1) := dk_3 (dk_at dksX0_rounds_4 20 rfl rfl)
theorem dX0_rounds_114 : decode cX0_rounds 114 = .ok (.iaload, 1) := dk_46 (dk_at dksX0_rounds_4 21 rfl rfl)
theorem dX0_rounds_115 : decode cX0_rounds 115 = .ok (.istore 7, 2) := dk_54 7 (dk_at dksX0_rounds_4 22 rfl rfl)
theorem dX0_rounds_117 : decode cX0_rounds 117 = .ok (.aload 6, 2) := dk_25 6 (dk_at dksX0_rounds_5 0 rfl rfl)
theorem dX0_rounds_119 : decode cX0_rounds 119 = .ok (.iconst 0, 1) := dk_3 (dk_at dksX0_rounds_5 2 rfl rfl)
theorem dX0_rounds_120 : decode cX0_rounds 120 = .ok (.aload_n 2, 1) := dk_44 (dk_at dksX0_rounds_5 3 rfl rfl)
theorem dX0_rounds_121 : decode cX0_rounds 121 = .ok (.aload 6, 2) := dk_25 6 (dk_at dksX0_rounds_5 4 rfl rfl)
theorem dX0_rounds_123 : decode cX0_rounds 123 = .ok (.iconst 1, 1) := dk_4 (dk_at dksX0_rounds_5 6 rfl rfl)
theorem dX0_rounds_124 : decode cX0_rounds 124 = .ok (.iaload, 1) := dk_46 (dk_at dksX0_rounds_5 7 rfl rfl)
theorem dX0_rounds_125 : decode cX0_rounds 125 = .ok (.iaload, 1) := dk_46 (dk_at dksX0_rounds_5 8 rfl rfl)
theorem dX0_rounds_126 : decode cX0_rounds 126 = .ok (.iload 4, 2) := dk_21 4 (dk_at dksX0_rounds_5 9 rfl rfl)
theorem dX0_rounds_128 : decode cX0_rounds 128 = .ok (.ixor, 1) := dk_130 (dk_at dksX0_rounds_5 11 rfl rfl)
theorem dX0_rounds_129 : decode cX0_rounds 129 = .ok (.iastore, 1) := dk_79 (dk_at dksX0_rounds_5 12 rfl rfl)
theorem dX0_rounds_130 : decode cX0_rounds 130 = .ok (.aload 6, 2) := dk_25 6 (dk_at dksX0_rounds_5 13 rfl rfl)
theorem dX0_rounds_132 : decode cX0_rounds 132 = .ok (.iconst 1, 1) := dk_4 (dk_at dksX0_rounds_5 15 rfl rfl)
theorem dX0_rounds_133 : decode cX0_rounds 133 = .ok (.aload_n 2, 1) := dk_44 (dk_at dksX0_rounds_5 16 rfl rfl)
theorem dX0_rounds_134 : decode cX0_rounds 134 = .ok (.aload 6, 2) := dk_25 6 (dk_at dksX0_rounds_5 17 rfl rfl)
theorem dX0_rounds_136 : decode cX0_rounds 136 = .ok (.iconst 2, 1) := dk_5 (dk_at dksX0_rounds_5 19 rfl rfl)
theorem dX0_rounds_137 : decode cX0_rounds 137 = .ok (.iaload, 1) := dk_46 (dk_at dksX0_rounds_5 20 rfl rfl)
theorem dX0_rounds_138 : decode cX0_rounds 138 = .ok (.iaload, 1) := dk_46 (dk_at dksX0_rounds_5 21 rfl rfl)
theorem dX0_rounds_139 : decode cX0_rounds 139 = .ok (.iastore, 1) := dk_79 (dk_at dksX0_rounds_5 22 rfl rfl)
theorem dX0_rounds_140 : decode cX0_rounds 140 = .ok (.aload 6, 2) := dk_25 6 (dk_at dksX0_rounds_6 0 rfl rfl)
theorem dX0_rounds_142 : decode cX0_rounds 142 = .ok (.iconst 2, 1) := dk_5 (dk_at dksX0_rounds_6 2 rfl rfl)
theorem dX0_rounds_143 : decode cX0_rounds 143 = .ok (.aload_n 2, 1) := dk_44 (dk_at dksX0_rounds_6 3 rfl rfl)
theorem dX0_rounds_144 : decode cX0_rounds 144 = .ok (.aload 6, 2) := dk_25 6 (dk_at dksX0_rounds_6 4 rfl rfl)
theorem dX0_rounds_146 : decode cX0_rounds 146 = .ok (.iconst 3, 1) := dk_6 (dk_at dksX0_rounds_6 6 rfl rfl)
theorem dX0_rounds_147 : decode cX0_rounds 147 = .ok (.iaload, 1) := dk_46 (dk_at dksX0_rounds_6 7 rfl rfl)
theorem dX0_rounds_148 : decode cX0_rounds 148 = .ok (.iaload, 1) := dk_46 (dk_at dksX0_rounds_6 8 rfl rfl)
theorem dX0_rounds_149 : decode cX0_rounds 149 = .ok (.iastore, 1) := dk_79 (dk_at dksX0_rounds_6 9 rfl rfl)
theorem dX0_rounds_150 : decode cX0_rounds 150 = .ok (.aload 6, 2) := dk_25 6 (dk_at dksX0_rounds_6 10 rfl rfl)
theorem dX0_rounds_152 : decode cX0_rounds 152 = .ok (.iconst 3, 1) := dk_6 (dk_at dksX0_rounds_6 12 rfl rfl)
theorem dX0_rounds_153 : decode cX0_rounds 153 = .ok (.aload_n 2, 1) := dk_44 (dk_at dksX0_rounds_6 13 rfl rfl)
theorem dX0_rounds_154 : decode cX0_rounds 154 = .ok (.iload 7, 2) := dk_21 7 (dk_at dksX0_rounds_6 14 rfl rfl)
theorem dX0_rounds_156 : decode cX0_rounds 156 = .ok (.iaload, 1) := dk_46 (dk_at dksX0_rounds_6 16 rfl rfl)
theorem dX0_rounds_157 : decode cX0_rounds 157 = .ok (.iastore, 1) := dk_79 (dk_at dksX0_rounds_6 17 rfl rfl)
theorem dX0_rounds_158 : decode cX0_rounds 158 = .ok (.iload 4, 2) := dk_21 4 (dk_at dksX0_rounds_6 18 rfl rfl)
theorem dX0_rounds_160 : decode cX0_rounds 160 = .ok (.invokestatic 10, 3) := dk_184 0 10 (dk_at dksX0_rounds_6 20 rfl rfl)
theorem dX0_rounds_163 : decode cX0_rounds 163 = .ok (.istore 4, 2) := dk_54 4 (dk_at dksX0_rounds_7 0 rfl rfl)
theorem dX0_rounds_165 : decode cX0_rounds 165 = .ok (.goto 45, 3) := dk_167 0 45 (dk_at dksX0_rounds_7 2 rfl rfl)
theorem dX0_rounds_168 : decode cX0_rounds 168 = .ok (.iload_n 1, 1) := dk_27 (dk_at dksX0_rounds_7 5 rfl rfl)
theorem dX0_rounds_169 : decode cX0_rounds 169 = .ok (.bipush 32, 2) := dk_16 32 (dk_at dksX0_rounds_7 6 rfl rfl)
theorem dX0_rounds_171 : decode cX0_rounds 171 = .ok (.if_icmp .ne 39, 3) := dk_160 0 39 (dk_at dksX0_rounds_7 8 rfl rfl)
theorem dX0_rounds_174 : decode cX0_rounds 174 = .ok (.iload 5, 2) := dk_21 5 (dk_at dksX0_rounds_7 11 rfl rfl)
theorem dX0_rounds_176 : decode cX0_rounds 176 = .ok (.iload_n 1, 1) := dk_27 (dk_at dksX0_rounds_7 13 rfl rfl)
theorem dX0_rounds_177 : decode cX0_rounds 177 = .ok (.irem, 1) := dk_112 (dk_at dksX0_rounds_7 14 rfl rfl)
theorem dX0_rounds_178 : decode cX0_rounds 178 = .ok (.bipush 16, 2) := dk_16 16 (dk_at dksX0_rounds_7 15 rfl rfl)
theorem dX0_rounds_180 : decode cX0_rounds 180 = .ok (.if_icmp .ne 30, 3) := dk_160 0 30 (dk_at dksX0_rounds_7 17 rfl rfl)
theorem dX0_rounds_183 : decode cX0_rounds 183 = .ok (.iconst 0, 1) := dk_3 (dk_at dksX0_rounds_7 20 rfl rfl)
theorem dX0_rounds_184 : decode cX0_rounds 184 = .ok (.istore 7, 2) := dk_54 7 (dk_at dksX0_rounds_7 21 rfl rfl)
theorem dX0_rounds_186 : decode cX0_rounds 186 = .ok (.iload 7, 2) := dk_21 7 (dk_at dksX0_rounds_8 0 rfl rfl)
theorem dX0_rounds_188 : decode cX0_rounds 188 = .ok (.iconst 4, 1) := dk_7 (dk_at dksX0_rounds_8 2 rfl rfl)
theorem dX0_rounds_189 : decode cX0_rounds 189 = .ok (.if_icmp .ge 21, 3) := dk_162 0 21 (dk_at dksX0_rounds_8 3 rfl rfl)
theorem dX0_rounds_192 : decode cX0_rounds 192 = .ok (.aload 6, 2) := dk_25 6 (dk_at dksX0_rounds_8 6 rfl rfl)
theorem dX0_rounds_194 : decode cX0_rounds 194 = .ok (.iload 7, 2) := dk_21 7 (dk_at dksX0_rounds_8 8 rfl rfl)
theorem dX0_rounds_196 : decode cX0_rounds 196 = .ok (.aload_n 2, 1) := dk_44 (dk_at dksX0_rounds_8 10 rfl rfl)
theorem dX0_rounds_197 : decode cX0_rounds 197 = .ok (.aload 6, 2) := dk_25 6 (dk_at dksX0_rounds_8 11 rfl rfl)
theorem dX0_rounds_199 : decode cX0_rounds 199 = .ok (.iload 7, 2) := dk_21 7 (dk_at dksX0_rounds_8 13 rfl rfl)
theorem dX0_rounds_201 : decode cX0_rounds 201 = .ok (.iaload, 1) := dk_46 (dk_at dksX0_rounds_8 15 rfl rfl)
theorem dX0_rounds_202 : decode cX0_rounds 202 = .ok (.iaload, 1) := dk_46 (dk_at dksX0_rounds_8 16 rfl rfl)
theorem dX0_rounds_203 : decode cX0_rounds 203 = .ok (.iastore, 1) := dk_79 (dk_at dksX0_rounds_8 17 rfl rfl)
theorem dX0_rounds_204 : decode cX0_rounds 204 = .ok (.iinc 7 1, 3) := dk_132 7 1 (dk_at dksX0_rounds_8 18 rfl rfl)
theorem dX0_rounds_207 : decode cX0_rounds 207 = .ok (.goto (-21), 3) := dk_167 255 235 (dk_at dksX0_rounds_8 21 rfl rfl)
theorem dX0_rounds_210 : decode cX0_rounds 210 = .ok (.iconst 0, 1) := dk_3 (dk_at dksX0_rounds_9 0 rfl rfl)
theorem dX0_rounds_211 : decode cX0_rounds 211 = .ok (.istore 7, 2) := dk_54 7 (dk_at dksX0_rounds_9 1 rfl rfl)
theorem dX0_rounds_213 : decode cX0_rounds 213 = .ok (.iload 7, 2) := dk_21 7 (dk_at dksX0_rounds_9 3 rfl rfl)
theorem dX0_rounds_215 : decode cX0_rounds 215 = .ok (.iconst 4, 1) := dk_7 (dk_at dksX0_rounds_9 5 rfl rfl)
theorem dX0_rounds_216 : decode cX0_rounds 216 = .ok (.if_icmp .ge 31, 3) := dk_162 0 31 (dk_at dksX0_rounds_9 6 rfl rfl)
theorem dX0_rounds_219 : decode cX0_rounds 219 = .ok (.aload_n 3, 1) := dk_45 (dk_at dksX0_rounds_9 9 rfl rfl)
theorem dX0_rounds_220 : decode cX0_rounds 220 = .ok (.iload 5, 2) := dk_21 5 (dk_at dksX0_rounds_9 10 rfl rfl)
theorem dX0_rounds_222 : decode cX0_rounds 222 = .ok (.iload 7, 2) := dk_21 7 (dk_at dksX0_rounds_9 12 rfl rfl)
theorem dX0_rounds_224 : decode cX0_rounds 224 = .ok (.iadd, 1) := dk_96 (dk_at dksX0_rounds_9 14 rfl rfl)
theorem dX0_rounds_225 : decode cX0_rounds 225 = .ok (.aload_n 3, 1) := dk_45 (dk_at dksX0_rounds_9 15 rfl rfl)
theorem dX0_rounds_226 : decode cX0_rounds 226 = .ok (.iload 5, 2) := dk_21 5 (dk_at dksX0_rounds_9 16 rfl rfl)
theorem dX0_rounds_228 : decode cX0_rounds 228 = .ok (.iload 7, 2) := dk_21 7 (dk_at dksX0_rounds_9 18 rfl rfl)
theorem dX0_rounds_230 : decode cX0_rounds 230 = .ok (.iadd, 1) := dk_96 (dk_at dksX0_rounds_9 20 rfl rfl)
theorem dX0_rounds_231 : decode cX0_rounds 231 = .ok (.iload_n 1, 1) := dk_27 (dk_at dksX0_rounds_9 21 rfl rfl)
theorem dX0_rounds_232 : decode cX0_rounds 232 = .ok (.isub, 1) := dk_100 (dk_at dksX0_rounds_9 22 rfl rfl)
theorem dX0_rounds_233 : decode cX0_rounds 233 = .ok (.iaload, 1) := dk_46 (dk_at dksX0_rounds_9 23 rfl rfl)
theorem dX0_rounds_234 : decode cX0_rounds 234 = .ok (.aload 6, 2) := dk_25 6 (dk_at dksX0_rounds_10 0 rfl rfl)
theorem dX0_rounds_236 : decode cX0_rounds 236 = .ok (.iload 7, 2) := dk_21 7 (dk_at dksX0_rounds_10 2 rfl rfl)
theorem dX0_rounds_238 : decode cX0_rounds 238 = .ok (.iaload, 1) := dk_46 (dk_at dksX0_rounds_10 4 rfl rfl)
theorem dX0_rounds_239 : decode cX0_rounds 239 = .ok (.ixor, 1) := dk_130 (dk_at dksX0_rounds_10 5 rfl rfl)
theorem dX0_rounds_240 : decode cX0_rounds 240 = .ok (.iastore, 1) := dk_79 (dk_at dksX0_rounds_10 6 rfl rfl)
theorem dX0_rounds_241 : decode cX0_rounds 241 = .ok (.iinc 7 1, 3) := dk_132 7 1 (dk_at dksX0_rounds_10 7 rfl rfl)
theorem dX0_rounds_244 : decode cX0_rounds 244 = .ok (.goto (-31), 3) := dk_167 255 225 (dk_at dksX0_rounds_10 10 rfl rfl)
theorem dX0_rounds_247 : decode cX0_rounds 247 = .ok (.iinc 5 4, 3) := dk_132 5 4 (dk_at dksX0_rounds_10 13 rfl rfl)
theorem dX0_rounds_250 : decode cX0_rounds 250 = .ok (.goto (-232), 3) := dk_167 255 24 (dk_at dksX0_rounds_10 16 rfl rfl)
theorem dX0_rounds_253 : decode cX0_rounds 253 = .ok (.aload_n 3, 1) := dk_45 (dk_at dksX0_rounds_10 19 rfl rfl)
theorem dX0_rounds_254 : decode cX0_rounds 254 = .ok (.areturn, 1) := dk_176 (dk_at dksX0_rounds_10 20 rfl rfl)
abbrev cX0_block : ByteArray := method_8_code
def yX0_block : MethodName := ⟨RX0, "block", "([I[I[I)[I"⟩
def dkwX0_block_9 : List UInt8 := [167, 255, 146, 132, 5, 1, 167, 255, 87, 45, 176]
abbrev dktX0_block_9 : List UInt8 := dkwX0_block_9 ++ []
def dkwX0_block_8 : List UInt8 := [21, 11, 167, 0, 5, 21, 9, 43, 16, 16, 21, 5, 104, 21, 7, 96, 46, 130, 79, 132, 7, 1]
abbrev dktX0_block_8 : List UInt8 := dkwX0_block_8 ++ dktX0_block_9
def dkwX0_block_7 : List UInt8 := [21, 8, 21, 7, 6, 96, 7, 112, 96, 46, 130, 54, 11, 45, 21, 7, 21, 5, 21, 4, 162, 0, 8]
abbrev dktX0_block_7 : List UInt8 := dkwX0_block_7 ++ dktX0_block_8
def dkwX0_block_6 : List UInt8 := [21, 10, 184, 0, 10, 130, 21, 10, 130, 25, 6, 21, 8, 21, 7, 5, 96, 7, 112, 96, 46, 130, 25, 6]
abbrev dktX0_block_6 : List UInt8 := dkwX0_block_6 ++ dktX0_block_7
def dkwX0_block_5 : List UInt8 := [21, 7, 46, 54, 9, 25, 6, 21, 8, 21, 7, 4, 96, 7, 112, 96, 46, 54, 10, 21, 9, 184, 0, 10]
abbrev dktX0_block_5 : List UInt8 := dkwX0_block_5 ++ dktX0_block_6
def dkwX0_block_4 : List UInt8 := [167, 255, 225, 3, 54, 7, 21, 7, 16, 16, 162, 0, 109, 21, 7, 7, 108, 7, 104, 54, 8, 25, 6]
abbrev dktX0_block_4 : List UInt8 := dkwX0_block_4 ++ dktX0_block_5
def dkwX0_block_3 : List UInt8 := [25, 6, 21, 7, 44, 45, 21, 7, 7, 21, 7, 7, 112, 104, 96, 16, 16, 112, 46, 46, 79, 132, 7, 1]
abbrev dktX0_block_3 : List UInt8 := dkwX0_block_3 ++ dktX0_block_4
def dkwX0_block_2 : List UInt8 := [21, 5, 21, 4, 163, 0, 168, 16, 16, 188, 10, 58, 6, 3, 54, 7, 21, 7, 16, 16, 162, 0, 30]
abbrev dktX0_block_2 : List UInt8 := dkwX0_block_2 ++ dktX0_block_3
def dkwX0_block_1 : List UInt8 := [21, 4, 46, 130, 79, 132, 4, 1, 167, 255, 233, 43, 190, 16, 16, 108, 4, 100, 54, 4, 4, 54, 5]
abbrev dktX0_block_1 : List UInt8 := dkwX0_block_1 ++ dktX0_block_2
def dkwX0_block_0 : List UInt8 := [16, 16, 188, 10, 78, 3, 54, 4, 21, 4, 16, 16, 162, 0, 22, 45, 21, 4, 42, 21, 4, 46, 43]
abbrev dktX0_block_0 : List UInt8 := dkwX0_block_0 ++ dktX0_block_1
theorem dksX0_block_0 : cX0_block.data.toList.drop 0 = dktX0_block_0 := by decide +kernel
theorem dksX0_block_1 : cX0_block.data.toList.drop 23 = dktX0_block_1 := dk_seg dksX0_block_0 23 rfl rfl
theorem dksX0_block_2 : cX0_block.data.toList.drop 46 = dktX0_block_2 := dk_seg dksX0_block_1 23 rfl rfl
theorem dksX0_block_3 : cX0_block.data.toList.drop 69 = dktX0_block_3 := dk_seg dksX0_block_2 23 rfl rfl
theorem dksX0_block_4 : cX0_block.data.toList.drop 93 = dktX0_block_4 := dk_seg dksX0_block_3 24 rfl rfl
theorem dksX0_block_5 : cX0_block.data.toList.drop 116 = dktX0_block_5 := dk_seg dksX0_block_4 23 rfl rfl
theorem dksX0_block_6 : cX0_block.data.toList.drop 140 = dktX0_block_6 := dk_seg dksX0_block_5 24 rfl rfl
theorem dksX0_block_7 : cX0_block.data.toList.drop 164 = dktX0_block_7 := dk_seg dksX0_block_6 24 rfl rfl
theorem dksX0_block_8 : cX0_block.data.toList.drop 187 = dktX0_block_8 := dk_seg dksX0_block_7 23 rfl rfl
theorem dksX0_block_9 : cX0_block.data.toList.drop 209 = dktX0_block_9 := dk_seg dksX0_block_8 22 rfl rfl
theorem dX0_block_0 : decode cX0_block 0 = .ok (.bipush 16, 2) := dk_16 16 (dk_at dksX0_block_0 0 rfl rfl)
theorem dX0_block_2 : decode cX0_block 2 = .ok (.newarray .int, 2) := dk_188_10 (dk_at dksX0_block_0 2 rfl rfl)
theorem dX0_block_4 : decode cX0_block 4 = .ok (.astore_n 3, 1) := dk_78 (dk_at dksX0_block_0 4 rfl rfl)
theorem dX0_block_5 : decode cX0_block 5 = .ok (.iconst 0, 1) := dk_3 (dk_at dksX0_block_0 5 rfl rfl)
theorem dX0_block_6 : decode cX0_block 6 = .ok (.istore 4, 2) := dk_54 4 (dk_at dksX0_block_0 6 rfl rfl)
theorem dX0_block_8 : decode cX0_block 8 = .ok (.iload 4, 2) := dk_21 4 (dk_at dksX0_block_0 8 rfl rfl)
theorem dX0_block_10 : decode cX0_block 10 = .ok (.bipush 16, 2) := dk_16 16 (dk_at dksX0_block_0 10 rfl rfl)
theorem dX0_block_12 : decode cX0_block 12 = .ok (.if_icmp .ge 22, 3) := dk_162 0 22 (dk_at dksX0_block_0 12 rfl rfl)
theorem dX0_block_15 : decode cX0_block 15 = .ok (.aload_n 3, 1) := dk_45 (dk_at dksX0_block_0 15 rfl rfl)
theorem dX0_block_16 : decode cX0_block 16 = .ok (.iload 4, 2) := dk_21 4 (dk_at dksX0_block_0 16 rfl rfl)
theorem dX0_block_18 : decode cX0_block 18 = .ok (.aload_n 0, 1) := dk_42 (dk_at dksX0_block_0 18 rfl rfl)
theorem dX0_block_19 : decode cX0_block 19 = .ok (.iload 4, 2) := dk_21 4 (dk_at dksX0_block_0 19 rfl rfl)
theorem dX0_block_21 : decode cX0_block 21 = .ok (.iaload, 1) := dk_46 (dk_at dksX0_block_0 21 rfl rfl)
theorem dX0_block_22 : decode cX0_block 22 = .ok (.aload_n 1, 1) := dk_43 (dk_at dksX0_block_0 22 rfl rfl)
theorem dX0_block_23 : decode cX0_block 23 = .ok (.iload 4, 2) := dk_21 4 (dk_at dksX0_block_1 0 rfl rfl)
theorem dX0_block_25 : decode cX0_block 25 = .ok (.iaload, 1) := dk_46 (dk_at dksX0_block_1 2 rfl rfl)
theorem dX0_block_26 : decode cX0_block 26 = .ok (.ixor, 1) := dk_130 (dk_at dksX0_block_1 3 rfl rfl)
theorem dX0_block_27 : decode cX0_block 27 = .ok (.iastore, 1) := dk_79 (dk_at dksX0_block_1 4 rfl rfl)
theorem dX0_block_28 : decode cX0_block 28 = .ok (.iinc 4 1, 3) := dk_132 4 1 (dk_at dksX0_block_1 5 rfl rfl)
theorem dX0_block_31 : decode cX0_block 31 = .ok (.goto (-23), 3) := dk_167 255 233 (dk_at dksX0_block_1 8 rfl rfl)
theorem dX0_block_34 : decode cX0_block 34 = .ok (.aload_n 1, 1) := dk_43 (dk_at dksX0_block_1 11 rfl rfl)
theorem dX0_block_35 : decode cX0_block 35 = .ok (.arraylength, 1) := dk_190 (dk_at dksX0_block_1 12 rfl rfl)
theorem dX0_block_36 : decode cX0_block 36 = .ok (.bipush 16, 2) := dk_16 16 (dk_at dksX0_block_1 13 rfl rfl)
theorem dX0_block_38 : decode cX0_block 38 = .ok (.idiv, 1) := dk_108 (dk_at dksX0_block_1 15 rfl rfl)
theorem dX0_block_39 : decode cX0_block 39 = .ok (.iconst 1, 1) := dk_4 (dk_at dksX0_block_1 16 rfl rfl)
theorem dX0_block_40 : decode cX0_block 40 = .ok (.isub, 1) := dk_100 (dk_at dksX0_block_1 17 rfl rfl)
theorem dX0_block_41 : decode cX0_block 41 = .ok (.istore 4, 2) := dk_54 4 (dk_at dksX0_block_1 18 rfl rfl)
theorem dX0_block_43 : decode cX0_block 43 = .ok (.iconst 1, 1) := dk_4 (dk_at dksX0_block_1 20 rfl rfl)
theorem dX0_block_44 : decode cX0_block 44 = .ok (.istore 5, 2) := dk_54 5 (dk_at dksX0_block_1 21 rfl rfl)
theorem dX0_block_46 : decode cX0_block 46 = .ok (.iload 5, 2) := dk_21 5 (dk_at dksX0_block_2 0 rfl rfl)
theorem dX0_block_48 : decode cX0_block 48 = .ok (.iload 4, 2) := dk_21 4 (dk_at dksX0_block_2 2 rfl rfl)
theorem dX0_block_50 : decode cX0_block 50 = .ok (.if_icmp .gt 168, 3) := dk_163 0 168 (dk_at dksX0_block_2 4 rfl rfl)
theorem dX0_block_53 : decode cX0_block 53 = .ok (.bipush 16, 2) := dk_16 16 (dk_at dksX0_block_2 7 rfl rfl)
theorem dX0_block_55 : decode cX0_block 55 = .ok (.newarray .int, 2) := dk_188_10 (dk_at dksX0_block_2 9 rfl rfl)
theorem dX0_block_57 : decode cX0_block 57 = .ok (.astore 6, 2) := dk_58 6 (dk_at dksX0_block_2 11 rfl rfl)
theorem dX0_block_59 : decode cX0_block 59 = .ok (.iconst 0, 1) := dk_3 (dk_at dksX0_block_2 13 rfl rfl)
theorem dX0_block_60 : decode cX0_block 60 = .ok (.istore 7, 2) := dk_54 7 (dk_at dksX0_block_2 14 rfl rfl)
theorem dX0_block_62 : decode cX0_block 62 = .ok (.iload 7, 2) := dk_21 7 (dk_at dksX0_block_2 16 rfl rfl)
theorem dX0_block_64 : decode cX0_block 64 = .ok (.bipush 16, 2) := dk_16 16 (dk_at dksX0_block_2 18 rfl rfl)
theorem dX0_block_66 : decode cX0_block 66 = .ok (.if_icmp .ge 30, 3) := dk_162 0 30 (dk_at dksX0_block_2 20 rfl rfl)
theorem dX0_block_69 : decode cX0_block 69 = .ok (.aload 6, 2) := dk_25 6 (dk_at dksX0_block_3 0 rfl rfl)
theorem dX0_block_71 : decode cX0_block 71 = .ok (.iload 7, 2) := dk_21 7 (dk_at dksX0_block_3 2 rfl rfl)
theorem dX0_block_73 : decode cX0_block 73 = .ok (.aload_n 2, 1) := dk_44 (dk_at dksX0_block_3 4 rfl rfl)
theorem dX0_block_74 : decode cX0_block 74 = .ok (.aload_n 3, 1) := dk_45 (dk_at dksX0_block_3 5 rfl rfl)
theorem dX0_block_75 : decode cX0_block 75 = .ok (.iload 7, 2) := dk_21 7 (dk_at dksX0_block_3 6 rfl rfl)
theorem dX0_block_77 : decode cX0_block 77 = .ok (.iconst 4, 1) := dk_7 (dk_at dksX0_block_3 8 rfl rfl)
theorem dX0_block_78 : decode cX0_block 78 = .ok (.iload 7, 2) := dk_21 7 (dk_at dksX0_block_3 9 rfl rfl)
theorem dX0_block_80 : decode cX0_block 80 = .ok (.iconst 4, 1) := dk_7 (dk_at dksX0_block_3 11 rfl rfl)
theorem dX0_block_81 : decode cX0_block 81 = .ok (.irem, 1) := dk_112 (dk_at dksX0_block_3 12 rfl rfl)
theorem dX0_block_82 : decode cX0_block 82 = .ok (.imul, 1) := dk_104 (dk_at dksX0_block_3 13 rfl rfl)
theorem dX0_block_83 : decode cX0_block 83 = .ok (.iadd, 1) := dk_96 (dk_at dksX0_block_3 14 rfl rfl)
theorem dX0_block_84 : decode cX0_block 84 = .ok (.bipush 16, 2) := dk_16 16 (dk_at dksX0_block_3 15 rfl rfl)
theorem dX0_block_86 : decode cX0_block 86 = .ok (.irem, 1) := dk_112 (dk_at dksX0_block_3 17 rfl rfl)
theorem dX0_block_87 : decode cX0_block 87 = .ok (.iaload, 1) := dk_46 (dk_at dksX0_block_3 18 rfl rfl)
theorem dX0_block_88 : decode cX0_block 88 = .ok (.iaload, 1) := dk_46 (dk_at dksX0_block_3 19 rfl rfl)
theorem dX0_block_89 : decode cX0_block 89 = .ok (.iastore, 1) := dk_79 (dk_at dksX0_block_3 20 rfl rfl)
theorem dX0_block_90 : decode cX0_block 90 = .ok (.iinc 7 1, 3) := dk_132 7 1 (dk_at dksX0_block_3 21 rfl rfl)
theorem dX0_block_93 : decode cX0_block 93 = .ok (.goto (-31), 3) := dk_167 255 225 (dk_at dksX0_block_4 0 rfl rfl)
theorem dX0_block_96 : decode cX0_block 96 = .ok (.iconst 0, 1) := dk_3 (dk_at dksX0_block_4 3 rfl rfl)
theorem dX0_block_97 : decode cX0_block 97 = .ok (.istore 7, 2) := dk_54 7 (dk_at dksX0_block_4 4 rfl rfl)
theorem dX0_block_99 : decode cX0_block 99 = .ok (.iload 7, 2) := dk_21 7 (dk_at dksX0_block_4 6 rfl rfl)
theorem dX0_block_101 : decode cX0_block 101 = .ok (.bipush 16, 2) := dk_16 16 (dk_at dksX0_block_4 8 rfl rfl)
theorem dX0_block_103 : decode cX0_block 103 = .ok (.if_icmp .ge 109, 3) := dk_162 0 109 (dk_at dksX0_block_4 10 rfl rfl)
theorem dX0_block_106 : decode cX0_block 106 = .ok (.iload 7, 2) := dk_21 7 (dk_at dksX0_block_4 13 rfl rfl)
theorem dX0_block_108 : decode cX0_block 108 = .ok (.iconst 4, 1) := dk_7 (dk_at dksX0_block_4 15 rfl rfl)
theorem dX0_block_109 : decode cX0_block 109 = .ok (.idiv, 1) := dk_108 (dk_at dksX0_block_4 16 rfl rfl)
theorem dX0_block_110 : decode cX0_block 110 = .ok (.iconst 4, 1) := dk_7 (dk_at dksX0_block_4 17 rfl rfl)
theorem dX0_block_111 : decode cX0_block 111 = .ok (.imul, 1) := dk_104 (dk_at dksX0_block_4 18 rfl rfl)
theorem dX0_block_112 : decode cX0_block 112 = .ok (.istore 8, 2) := dk_54 8 (dk_at dksX0_block_4 19 rfl rfl)
theorem dX0_block_114 : decode cX0_block 114 = .ok (.aload 6, 2) := dk_25 6 (dk_at dksX0_block_4 21 rfl rfl)
theorem dX0_block_116 : decode cX0_block 116 = .ok (.iload 7, 2) := dk_21 7 (dk_at dksX0_block_5 0 rfl rfl)
theorem dX0_block_118 : decode cX0_block 118 = .ok (.iaload, 1) := dk_46 (dk_at dksX0_block_5 2 rfl rfl)
theorem dX0_block_119 : decode cX0_block 119 = .ok (.istore 9, 2) := dk_54 9 (dk_at dksX0_block_5 3 rfl rfl)
theorem dX0_block_121 : decode cX0_block 121 = .ok (.aload 6, 2) := dk_25 6 (dk_at dksX0_block_5 5 rfl rfl)
theorem dX0_block_123 : decode cX0_block 123 = .ok (.iload 8, 2) := dk_21 8 (dk_at dksX0_block_5 7 rfl rfl)
theorem dX0_block_125 : decode cX0_block 125 = .ok (.iload 7, 2) := dk_21 7 (dk_at dksX0_block_5 9 rfl rfl)
theorem dX0_block_127 : decode cX0_block 127 = .ok (.iconst 1, 1) := dk_4 (dk_at dksX0_block_5 11 rfl rfl)
theorem dX0_block_128 : decode cX0_block 128 = .ok (.iadd, 1) := dk_96 (dk_at dksX0_block_5 12 rfl rfl)
theorem dX0_block_129 : decode cX0_block 129 = .ok (.iconst 4, 1) := dk_7 (dk_at dksX0_block_5 13 rfl rfl)
theorem dX0_block_130 : decode cX0_block 130 = .ok (.irem, 1) := dk_112 (dk_at dksX0_block_5 14 rfl rfl)
theorem dX0_block_131 : decode cX0_block 131 = .ok (.iadd, 1) := dk_96 (dk_at dksX0_block_5 15 rfl rfl)
theorem dX0_block_132 : decode cX0_block 132 = .ok (.iaload, 1) := dk_46 (dk_at dksX0_block_5 16 rfl rfl)
theorem dX0_block_133 : decode cX0_block 133 = .ok (.istore 10, 2) := dk_54 10 (dk_at dksX0_block_5 17 rfl rfl)
theorem dX0_block_135 : decode cX0_block 135 = .ok (.iload 9, 2) := dk_21 9 (dk_at dksX0_block_5 19 rfl rfl)
theorem dX0_block_137 : decode cX0_block 137 = .ok (.invokestatic 10, 3) := dk_184 0 10 (dk_at dksX0_block_5 21 rfl rfl)
theorem dX0_block_140 : decode cX0_block 140 = .ok (.iload 10, 2) := dk_21 10 (dk_at dksX0_block_6 0 rfl rfl)
theorem dX0_block_142 : decode cX0_block 142 = .ok (.invokestatic 10, 3) := dk_184 0 10 (dk_at dksX0_block_6 2 rfl rfl)
theorem dX0_block_145 : decode cX0_block 145 = .ok (.ixor, 1) := dk_130 (dk_at dksX0_block_6 5 rfl rfl)
theorem dX0_block_146 : decode cX0_block 146 = .ok (.iload 10, 2) := dk_21 10 (dk_at dksX0_block_6 6 rfl rfl)
theorem dX0_block_148 : decode cX0_block 148 = .ok (.ixor, 1) := dk_130 (dk_at dksX0_block_6 8 rfl rfl)
theorem dX0_block_149 : decode cX0_block 149 = .ok (.aload 6, 2) := dk_25 6 (dk_at dksX0_block_6 9 rfl rfl)
theorem dX0_block_151 : decode cX0_block 151 = .ok (.iload 8, 2) := dk_21 8 (dk_at dksX0_block_6 11 rfl rfl)
theorem dX0_block_153 : decode cX0_block 153 = .ok (.iload 7, 2) := dk_21 7 (dk_at dksX0_block_6 13 rfl rfl)
theorem dX0_block_155 : decode cX0_block 155 = .ok (.iconst 2, 1) := dk_5 (dk_at dksX0_block_6 15 rfl rfl)
theorem dX0_block_156 : decode cX0_block 156 = .ok (.iadd, 1) := dk_96 (dk_at dksX0_block_6 16 rfl rfl)
theorem dX0_block_157 : decode cX0_block 157 = .ok (.iconst 4, 1) := dk_7 (dk_at dksX0_block_6 17 rfl rfl)
theorem dX0_block_158 : decode cX0_block 158 = .ok (.irem, 1) := dk_112 (dk_at dksX0_block_6 18 rfl rfl)
theorem dX0_block_159 : decode cX0_block 159 = .ok (.iadd, 1) := dk_96 (dk_at dksX0_block_6 19 rfl rfl)
theorem dX0_block_160 : decode cX0_block 160 = .ok (.iaload, 1) := dk_46 (dk_at dksX0_block_6 20 rfl rfl)
theorem dX0_block_161 : decode cX0_block 161 = .ok (.ixor, 1) := dk_130 (dk_at dksX0_block_6 21 rfl rfl)
theorem dX0_block_162 : decode cX0_block 162 = .ok (.aload 6, 2) := dk_25 6 (dk_at dksX0_block_6 22 rfl rfl)
theorem dX0_block_164 : decode cX0_block 164 = .ok (.iload 8, 2) := dk_21 8 (dk_at dksX0_block_7 0 rfl rfl)
theorem dX0_block_166 : decode cX0_block 166 = .ok (.iload 7, 2) := dk_21 7 (dk_at dksX0_block_7 2 rfl rfl)
theorem dX0_block_168 : decode cX0_block 168 = .ok (.iconst 3, 1) := dk_6 (dk_at dksX0_block_7 4 rfl rfl)
theorem dX0_block_169 : decode cX0_block 169 = .ok (.iadd, 1) := dk_96 (dk_at dksX0_block_7 5 rfl rfl)
theorem dX0_block_170 : decode cX0_block 170 = .ok (.iconst 4, 1) := dk_7 (dk_at dksX0_block_7 6 rfl rfl)
theorem dX0_block_171 : decode cX0_block 171 = .ok (.irem, 1) := dk_112 (dk_at dksX0_block_7 7 rfl rfl)
theorem dX0_block_172 : decode cX0_block 172 = .ok (.iadd, 1) := dk_96 (dk_at dksX0_block_7 8 rfl rfl)
theorem dX0_block_173 : decode cX0_block 173 = .ok (.iaload, 1) := dk_46 (dk_at dksX0_block_7 9 rfl rfl)
theorem dX0_block_174 : decode cX0_block 174 = .ok (.ixor, 1) := dk_130 (dk_at dksX0_block_7 10 rfl rfl)
theorem dX0_block_175 : decode cX0_block 175 = .ok (.istore 11, 2) := dk_54 11 (dk_at dksX0_block_7 11 rfl rfl)
theorem dX0_block_177 : decode cX0_block 177 = .ok (.aload_n 3, 1) := dk_45 (dk_at dksX0_block_7 13 rfl rfl)
theorem dX0_block_178 : decode cX0_block 178 = .ok (.iload 7, 2) := dk_21 7 (dk_at dksX0_block_7 14 rfl rfl)
theorem dX0_block_180 : decode cX0_block 180 = .ok (.iload 5, 2) := dk_21 5 (dk_at dksX0_block_7 16 rfl rfl)
theorem dX0_block_182 : decode cX0_block 182 = .ok (.iload 4, 2) := dk_21 4 (dk_at dksX0_block_7 18 rfl rfl)
theorem dX0_block_184 : decode cX0_block 184 = .ok (.if_icmp .ge 8, 3) := dk_162 0 8 (dk_at dksX0_block_7 20 rfl rfl)
theorem dX0_block_187 : decode cX0_block 187 = .ok (.iload 11, 2) := dk_21 11 (dk_at dksX0_block_8 0 rfl rfl)
theorem dX0_block_189 : decode cX0_block 189 = .ok (.goto 5, 3) := dk_167 0 5 (dk_at dksX0_block_8 2 rfl rfl)
theorem dX0_block_192 : decode cX0_block 192 = .ok (.iload 9, 2) := dk_21 9 (dk_at dksX0_block_8 5 rfl rfl)
theorem dX0_block_194 : decode cX0_block 194 = .ok (.aload_n 1, 1) := dk_43 (dk_at dksX0_block_8 7 rfl rfl)
theorem dX0_block_195 : decode cX0_block 195 = .ok (.bipush 16, 2) := dk_16 16 (dk_at dksX0_block_8 8 rfl rfl)
theorem dX0_block_197 : decode cX0_block 197 = .ok (.iload 5, 2) := dk_21 5 (dk_at dksX0_block_8 10 rfl rfl)
theorem dX0_block_199 : decode cX0_block 199 = .ok (.imul, 1) := dk_104 (dk_at dksX0_block_8 12 rfl rfl)
theorem dX0_block_200 : decode cX0_block 200 = .ok (.iload 7, 2) := dk_21 7 (dk_at dksX0_block_8 13 rfl rfl)
theorem dX0_block_202 : decode cX0_block 202 = .ok (.iadd, 1) := dk_96 (dk_at dksX0_block_8 15 rfl rfl)
theorem dX0_block_203 : decode cX0_block 203 = .ok (.iaload, 1) := dk_46 (dk_at dksX0_block_8 16 rfl rfl)
theorem dX0_block_204 : decode cX0_block 204 = .ok (.ixor, 1) := dk_130 (dk_at dksX0_block_8 17 rfl rfl)
theorem dX0_block_205 : decode cX0_block 205 = .ok (.iastore, 1) := dk_79 (dk_at dksX0_block_8 18 rfl rfl)
theorem dX0_block_206 : decode cX0_block 206 = .ok (.iinc 7 1, 3) := dk_132 7 1 (dk_at dksX0_block_8 19 rfl rfl)
theorem dX0_block_209 : decode cX0_block 209 = .ok (.goto (-110), 3) := dk_167 255 146 (dk_at dksX0_block_9 0 rfl rfl)
theorem dX0_block_212 : decode cX0_block 212 = .ok (.iinc 5 1, 3) := dk_132 5 1 (dk_at dksX0_block_9 3 rfl rfl)
theorem dX0_block_215 : decode cX0_block 215 = .ok (.goto (-169), 3) := dk_167 255 87 (dk_at dksX0_block_9 6 rfl rfl)
theorem dX0_block_218 : decode cX0_block 218 = .ok (.aload_n 3, 1) := dk_45 (dk_at dksX0_block_9 9 rfl rfl)
theorem dX0_block_219 : decode cX0_block 219 = .ok (.areturn, 1) := dk_176 (dk_at dksX0_block_9 10 rfl rfl)
abbrev cX0_padded : ByteArray := method_9_code
def yX0_padded : MethodName := ⟨RX0, "padded", "([IIII)[I"⟩
def dkwX0_padded_3 : List UInt8 := [167, 0, 4, 3, 79, 132, 5, 1, 167, 255, 195, 25, 4, 176]
abbrev dktX0_padded_3 : List UInt8 := dkwX0_padded_3 ++ []
def dkwX0_padded_2 : List UInt8 := [25, 4, 190, 28, 100, 167, 0, 21, 29, 4, 160, 0, 15, 21, 5, 28, 160, 0, 9, 17, 0, 128]
abbrev dktX0_padded_2 : List UInt8 := dkwX0_padded_2 ++ dktX0_padded_3
def dkwX0_padded_1 : List UInt8 := [25, 4, 21, 5, 21, 5, 28, 162, 0, 12, 42, 27, 21, 5, 96, 46, 167, 0, 33, 29, 154, 0, 11]
abbrev dktX0_padded_1 : List UInt8 := dkwX0_padded_1 ++ dktX0_padded_2
def dkwX0_padded_0 : List UInt8 := [16, 16, 28, 16, 16, 108, 4, 96, 104, 188, 10, 58, 4, 3, 54, 5, 21, 5, 25, 4, 190, 162, 0, 59]
abbrev dktX0_padded_0 : List UInt8 := dkwX0_padded_0 ++ dktX0_padded_1
theorem dksX0_padded_0 : cX0_padded.data.toList.drop 0 = dktX0_padded_0 := by decide +kernel
theorem dksX0_padded_1 : cX0_padded.data.toList.drop 24 = dktX0_padded_1 := dk_seg dksX0_padded_0 24 rfl rfl
theorem dksX0_padded_2 : cX0_padded.data.toList.drop 47 = dktX0_padded_2 := dk_seg dksX0_padded_1 23 rfl rfl
theorem dksX0_padded_3 : cX0_padded.data.toList.drop 69 = dktX0_padded_3 := dk_seg dksX0_padded_2 22 rfl rfl
theorem dX0_padded_0 : decode cX0_padded 0 = .ok (.bipush 16, 2) := dk_16 16 (dk_at dksX0_padded_0 0 rfl rfl)
theorem dX0_padded_2 : decode cX0_padded 2 = .ok (.iload_n 2, 1) := dk_28 (dk_at dksX0_padded_0 2 rfl rfl)
theorem dX0_padded_3 : decode cX0_padded 3 = .ok (.bipush 16, 2) := dk_16 16 (dk_at dksX0_padded_0 3 rfl rfl)
theorem dX0_padded_5 : decode cX0_padded 5 = .ok (.idiv, 1) := dk_108 (dk_at dksX0_padded_0 5 rfl rfl)
theorem dX0_padded_6 : decode cX0_padded 6 = .ok (.iconst 1, 1) := dk_4 (dk_at dksX0_padded_0 6 rfl rfl)
theorem dX0_padded_7 : decode cX0_padded 7 = .ok (.iadd, 1) := dk_96 (dk_at dksX0_padded_0 7 rfl rfl)
theorem dX0_padded_8 : decode cX0_padded 8 = .ok (.imul, 1) := dk_104 (dk_at dksX0_padded_0 8 rfl rfl)
theorem dX0_padded_9 : decode cX0_padded 9 = .ok (.newarray .int, 2) := dk_188_10 (dk_at dksX0_padded_0 9 rfl rfl)
theorem dX0_padded_11 : decode cX0_padded 11 = .ok (.astore 4, 2) := dk_58 4 (dk_at dksX0_padded_0 11 rfl rfl)
theorem dX0_padded_13 : decode cX0_padded 13 = .ok (.iconst 0, 1) := dk_3 (dk_at dksX0_padded_0 13 rfl rfl)
theorem dX0_padded_14 : decode cX0_padded 14 = .ok (.istore 5, 2) := dk_54 5 (dk_at dksX0_padded_0 14 rfl rfl)
theorem dX0_padded_16 : decode cX0_padded 16 = .ok (.iload 5, 2) := dk_21 5 (dk_at dksX0_padded_0 16 rfl rfl)
theorem dX0_padded_18 : decode cX0_padded 18 = .ok (.aload 4, 2) := dk_25 4 (dk_at dksX0_padded_0 18 rfl rfl)
theorem dX0_padded_20 : decode cX0_padded 20 = .ok (.arraylength, 1) := dk_190 (dk_at dksX0_padded_0 20 rfl rfl)
theorem dX0_padded_21 : decode cX0_padded 21 = .ok (.if_icmp .ge 59, 3) := dk_162 0 59 (dk_at dksX0_padded_0 21 rfl rfl)
theorem dX0_padded_24 : decode cX0_padded 24 = .ok (.aload 4, 2) := dk_25 4 (dk_at dksX0_padded_1 0 rfl rfl)
theorem dX0_padded_26 : decode cX0_padded 26 = .ok (.iload 5, 2) := dk_21 5 (dk_at dksX0_padded_1 2 rfl rfl)
theorem dX0_padded_28 : decode cX0_padded 28 = .ok (.iload 5, 2) := dk_21 5 (dk_at dksX0_padded_1 4 rfl rfl)
theorem dX0_padded_30 : decode cX0_padded 30 = .ok (.iload_n 2, 1) := dk_28 (dk_at dksX0_padded_1 6 rfl rfl)
theorem dX0_padded_31 : decode cX0_padded 31 = .ok (.if_icmp .ge 12, 3) := dk_162 0 12 (dk_at dksX0_padded_1 7 rfl rfl)
theorem dX0_padded_34 : decode cX0_padded 34 = .ok (.aload_n 0, 1) := dk_42 (dk_at dksX0_padded_1 10 rfl rfl)
theorem dX0_padded_35 : decode cX0_padded 35 = .ok (.iload_n 1, 1) := dk_27 (dk_at dksX0_padded_1 11 rfl rfl)
theorem dX0_padded_36 : decode cX0_padded 36 = .ok (.iload 5, 2) := dk_21 5 (dk_at dksX0_padded_1 12 rfl rfl)
theorem dX0_padded_38 : decode cX0_padded 38 = .ok (.iadd, 1) := dk_96 (dk_at dksX0_padded_1 14 rfl rfl)
theorem dX0_padded_39 : decode cX0_padded 39 = .ok (.iaload, 1) := dk_46 (dk_at dksX0_padded_1 15 rfl rfl)
theorem dX0_padded_40 : decode cX0_padded 40 = .ok (.goto 33, 3) := dk_167 0 33 (dk_at dksX0_padded_1 16 rfl rfl)
theorem dX0_padded_43 : decode cX0_padded 43 = .ok (.iload_n 3, 1) := dk_29 (dk_at dksX0_padded_1 19 rfl rfl)
theorem dX0_padded_44 : decode cX0_padded 44 = .ok (.ifCond .ne 11, 3) := dk_154 0 11 (dk_at dksX0_padded_1 20 rfl rfl)
theorem dX0_padded_47 : decode cX0_padded 47 = .ok (.aload 4, 2) := dk_25 4 (dk_at dksX0_padded_2 0 rfl rfl)
theorem dX0_padded_49 : decode cX0_padded 49 = .ok (.arraylength, 1) := dk_190 (dk_at dksX0_padded_2 2 rfl rfl)
theorem dX0_padded_50 : decode cX0_padded 50 = .ok (.iload_n 2, 1) := dk_28 (dk_at dksX0_padded_2 3 rfl rfl)
theorem dX0_padded_51 : decode cX0_padded 51 = .ok (.isub, 1) := dk_100 (dk_at dksX0_padded_2 4 rfl rfl)
theorem dX0_padded_52 : decode cX0_padded 52 = .ok (.goto 21, 3) := dk_167 0 21 (dk_at dksX0_padded_2 5 rfl rfl)
theorem dX0_padded_55 : decode cX0_padded 55 = .ok (.iload_n 3, 1) := dk_29 (dk_at dksX0_padded_2 8 rfl rfl)
theorem dX0_padded_56 : decode cX0_padded 56 = .ok (.iconst 1, 1) := dk_4 (dk_at dksX0_padded_2 9 rfl rfl)
theorem dX0_padded_57 : decode cX0_padded 57 = .ok (.if_icmp .ne 15, 3) := dk_160 0 15 (dk_at dksX0_padded_2 10 rfl rfl)
theorem dX0_padded_60 : decode cX0_padded 60 = .ok (.iload 5, 2) := dk_21 5 (dk_at dksX0_padded_2 13 rfl rfl)
theorem dX0_padded_62 : decode cX0_padded 62 = .ok (.iload_n 2, 1) := dk_28 (dk_at dksX0_padded_2 15 rfl rfl)
theorem dX0_padded_63 : decode cX0_padded 63 = .ok (.if_icmp .ne 9, 3) := dk_160 0 9 (dk_at dksX0_padded_2 16 rfl rfl)
theorem dX0_padded_66 : decode cX0_padded 66 = .ok (.sipush 128, 3) := dk_17 0 128 (dk_at dksX0_padded_2 19 rfl rfl)
theorem dX0_padded_69 : decode cX0_padded 69 = .ok (.goto 4, 3) := dk_167 0 4 (dk_at dksX0_padded_3 0 rfl rfl)
theorem dX0_padded_72 : decode cX0_padded 72 = .ok (.iconst 0, 1) := dk_3 (dk_at dksX0_padded_3 3 rfl rfl)
theorem dX0_padded_73 : decode cX0_padded 73 = .ok (.iastore, 1) := dk_79 (dk_at dksX0_padded_3 4 rfl rfl)
theorem dX0_padded_74 : decode cX0_padded 74 = .ok (.iinc 5 1, 3) := dk_132 5 1 (dk_at dksX0_padded_3 5 rfl rfl)
theorem dX0_padded_77 : decode cX0_padded 77 = .ok (.goto (-61), 3) := dk_167 255 195 (dk_at dksX0_padded_3 8 rfl rfl)
theorem dX0_padded_80 : decode cX0_padded 80 = .ok (.aload 4, 2) := dk_25 4 (dk_at dksX0_padded_3 11 rfl rfl)
theorem dX0_padded_82 : decode cX0_padded 82 = .ok (.areturn, 1) := dk_176 (dk_at dksX0_padded_3 13 rfl rfl)
abbrev cX0_opened : ByteArray := method_11_code
def yX0_opened : MethodName := ⟨RX0, "opened", "(LPaddedDesk;[IIII[I)[I"⟩
def dkwX0_opened_6 : List UInt8 := [167, 0, 5, 25, 7, 176]
abbrev dktX0_opened_6 : List UInt8 := dkwX0_opened_6 ++ []
def dkwX0_opened_5 : List UInt8 := [132, 8, 1, 167, 255, 177, 25, 7, 190, 154, 0, 17, 42, 21, 4, 182, 0, 23, 2, 159, 0, 7, 1]
abbrev dktX0_opened_5 : List UInt8 := dkwX0_opened_5 ++ dktX0_opened_6
def dkwX0_opened_4 : List UInt8 := [108, 29, 159, 0, 14, 21, 9, 43, 21, 8, 46, 159, 0, 5, 1, 176, 25, 7, 21, 8, 21, 9, 79]
abbrev dktX0_opened_4 : List UInt8 := dkwX0_opened_4 ++ dktX0_opened_5
def dkwX0_opened_3 : List UInt8 := [21, 6, 156, 0, 13, 21, 9, 25, 5, 21, 8, 46, 160, 0, 26, 21, 6, 155, 0, 23, 21, 8, 16, 16]
abbrev dktX0_opened_3 : List UInt8 := dkwX0_opened_3 ++ dktX0_opened_4
def dkwX0_opened_2 : List UInt8 := [162, 0, 77, 42, 21, 8, 182, 0, 23, 54, 9, 21, 9, 155, 0, 49, 21, 9, 17, 0, 255, 163, 0, 41]
abbrev dktX0_opened_2 : List UInt8 := dkwX0_opened_2 ++ dktX0_opened_3
def dkwX0_opened_1 : List UInt8 := [156, 0, 8, 25, 5, 167, 0, 7, 21, 6, 188, 10, 58, 7, 3, 54, 8, 21, 8, 25, 7, 190]
abbrev dktX0_opened_1 : List UInt8 := dkwX0_opened_1 ++ dktX0_opened_2
def dkwX0_opened_0 : List UInt8 := [43, 28, 184, 0, 14, 54, 6, 42, 21, 4, 182, 0, 18, 21, 6, 159, 0, 5, 1, 176, 21, 6]
abbrev dktX0_opened_0 : List UInt8 := dkwX0_opened_0 ++ dktX0_opened_1
theorem dksX0_opened_0 : cX0_opened.data.toList.drop 0 = dktX0_opened_0 := by decide +kernel
theorem dksX0_opened_1 : cX0_opened.data.toList.drop 22 = dktX0_opened_1 := dk_seg dksX0_opened_0 22 rfl rfl
theorem dksX0_opened_2 : cX0_opened.data.toList.drop 44 = dktX0_opened_2 := dk_seg dksX0_opened_1 22 rfl rfl
theorem dksX0_opened_3 : cX0_opened.data.toList.drop 68 = dktX0_opened_3 := dk_seg dksX0_opened_2 24 rfl rfl
theorem dksX0_opened_4 : cX0_opened.data.toList.drop 92 = dktX0_opened_4 := dk_seg dksX0_opened_3 24 rfl rfl
theorem dksX0_opened_5 : cX0_opened.data.toList.drop 115 = dktX0_opened_5 := dk_seg dksX0_opened_4 23 rfl rfl
theorem dksX0_opened_6 : cX0_opened.data.toList.drop 138 = dktX0_opened_6 := dk_seg dksX0_opened_5 23 rfl rfl
theorem dX0_opened_0 : decode cX0_opened 0 = .ok (.aload_n 1, 1) := dk_43 (dk_at dksX0_opened_0 0 rfl rfl)
theorem dX0_opened_1 : decode cX0_opened 1 = .ok (.iload_n 2, 1) := dk_28 (dk_at dksX0_opened_0 1 rfl rfl)
theorem dX0_opened_2 : decode cX0_opened 2 = .ok (.invokestatic 14, 3) := dk_184 0 14 (dk_at dksX0_opened_0 2 rfl rfl)
theorem dX0_opened_5 : decode cX0_opened 5 = .ok (.istore 6, 2) := dk_54 6 (dk_at dksX0_opened_0 5 rfl rfl)
theorem dX0_opened_7 : decode cX0_opened 7 = .ok (.aload_n 0, 1) := dk_42 (dk_at dksX0_opened_0 7 rfl rfl)
theorem dX0_opened_8 : decode cX0_opened 8 = .ok (.iload 4, 2) := dk_21 4 (dk_at dksX0_opened_0 8 rfl rfl)
theorem dX0_opened_10 : decode cX0_opened 10 = .ok (.invokevirtual 18, 3) := dk_182 0 18 (dk_at dksX0_opened_0 10 rfl rfl)
theorem dX0_opened_13 : decode cX0_opened 13 = .ok (.iload 6, 2) := dk_21 6 (dk_at dksX0_opened_0 13 rfl rfl)
theorem dX0_opened_15 : decode cX0_opened 15 = .ok (.if_icmp .eq 5, 3) := dk_159 0 5 (dk_at dksX0_opened_0 15 rfl rfl)
theorem dX0_opened_18 : decode cX0_opened 18 = .ok (.aconst_null, 1) := dk_1 (dk_at dksX0_opened_0 18 rfl rfl)
theorem dX0_opened_19 : decode cX0_opened 19 = .ok (.areturn, 1) := dk_176 (dk_at dksX0_opened_0 19 rfl rfl)
theorem dX0_opened_20 : decode cX0_opened 20 = .ok (.iload 6, 2) := dk_21 6 (dk_at dksX0_opened_0 20 rfl rfl)
theorem dX0_opened_22 : decode cX0_opened 22 = .ok (.ifCond .ge 8, 3) := dk_156 0 8 (dk_at dksX0_opened_1 0 rfl rfl)
theorem dX0_opened_25 : decode cX0_opened 25 = .ok (.aload 5, 2) := dk_25 5 (dk_at dksX0_opened_1 3 rfl rfl)
theorem dX0_opened_27 : decode cX0_opened 27 = .ok (.goto 7, 3) := dk_167 0 7 (dk_at dksX0_opened_1 5 rfl rfl)
theorem dX0_opened_30 : decode cX0_opened 30 = .ok (.iload 6, 2) := dk_21 6 (dk_at dksX0_opened_1 8 rfl rfl)
theorem dX0_opened_32 : decode cX0_opened 32 = .ok (.newarray .int, 2) := dk_188_10 (dk_at dksX0_opened_1 10 rfl rfl)
theorem dX0_opened_34 : decode cX0_opened 34 = .ok (.astore 7, 2) := dk_58 7 (dk_at dksX0_opened_1 12 rfl rfl)
theorem dX0_opened_36 : decode cX0_opened 36 = .ok (.iconst 0, 1) := dk_3 (dk_at dksX0_opened_1 14 rfl rfl)
theorem dX0_opened_37 : decode cX0_opened 37 = .ok (.istore 8, 2) := dk_54 8 (dk_at dksX0_opened_1 15 rfl rfl)
theorem dX0_opened_39 : decode cX0_opened 39 = .ok (.iload 8, 2) := dk_21 8 (dk_at dksX0_opened_1 17 rfl rfl)
theorem dX0_opened_41 : decode cX0_opened 41 = .ok (.aload 7, 2) := dk_25 7 (dk_at dksX0_opened_1 19 rfl rfl)
theorem dX0_opened_43 : decode cX0_opened 43 = .ok (.arraylength, 1) := dk_190 (dk_at dksX0_opened_1 21 rfl rfl)
theorem dX0_opened_44 : decode cX0_opened 44 = .ok (.if_icmp .ge 77, 3) := dk_162 0 77 (dk_at dksX0_opened_2 0 rfl rfl)
theorem dX0_opened_47 : decode cX0_opened 47 = .ok (.aload_n 0, 1) := dk_42 (dk_at dksX0_opened_2 3 rfl rfl)
theorem dX0_opened_48 : decode cX0_opened 48 = .ok (.iload 8, 2) := dk_21 8 (dk_at dksX0_opened_2 4 rfl rfl)
theorem dX0_opened_50 : decode cX0_opened 50 = .ok (.invokevirtual 23, 3) := dk_182 0 23 (dk_at dksX0_opened_2 6 rfl rfl)
theorem dX0_opened_53 : decode cX0_opened 53 = .ok (.istore 9, 2) := dk_54 9 (dk_at dksX0_opened_2 9 rfl rfl)
theorem dX0_opened_55 : decode cX0_opened 55 = .ok (.iload 9, 2) := dk_21 9 (dk_at dksX0_opened_2 11 rfl rfl)
theorem dX0_opened_57 : decode cX0_opened 57 = .ok (.ifCond .lt 49, 3) := dk_155 0 49 (dk_at dksX0_opened_2 13 rfl rfl)
theorem dX0_opened_60 : decode cX0_opened 60 = .ok (.iload 9, 2) := dk_21 9 (dk_at dksX0_opened_2 16 rfl rfl)
theorem dX0_opened_62 : decode cX0_opened 62 = .ok (.sipush 255, 3) := dk_17 0 255 (dk_at dksX0_opened_2 18 rfl rfl)
theorem dX0_opened_65 : decode cX0_opened 65 = .ok (.if_icmp .gt 41, 3) := dk_163 0 41 (dk_at dksX0_opened_2 21 rfl rfl)
theorem dX0_opened_68 : decode cX0_opened 68 = .ok (.iload 6, 2) := dk_21 6 (dk_at dksX0_opened_3 0 rfl rfl)
theorem dX0_opened_70 : decode cX0_opened 70 = .ok (.ifCond .ge 13, 3) := dk_156 0 13 (dk_at dksX0_opened_3 2 rfl rfl)
theorem dX0_opened_73 : decode cX0_opened 73 = .ok (.iload 9, 2) := dk_21 9 (dk_at dksX0_opened_3 5 rfl rfl)
theorem dX0_opened_75 : decode cX0_opened 75 = .ok (.aload 5, 2) := dk_25 5 (dk_at dksX0_opened_3 7 rfl rfl)
theorem dX0_opened_77 : decode cX0_opened 77 = .ok (.iload 8, 2) := dk_21 8 (dk_at dksX0_opened_3 9 rfl rfl)
theorem dX0_opened_79 : decode cX0_opened 79 = .ok (.iaload, 1) := dk_46 (dk_at dksX0_opened_3 11 rfl rfl)
theorem dX0_opened_80 : decode cX0_opened 80 = .ok (.if_icmp .ne 26, 3) := dk_160 0 26 (dk_at dksX0_opened_3 12 rfl rfl)
theorem dX0_opened_83 : decode cX0_opened 83 = .ok (.iload 6, 2) := dk_21 6 (dk_at dksX0_opened_3 15 rfl rfl)
theorem dX0_opened_85 : decode cX0_opened 85 = .ok (.ifCond .lt 23, 3) := dk_155 0 23 (dk_at dksX0_opened_3 17 rfl rfl)
theorem dX0_opened_88 : decode cX0_opened 88 = .ok (.iload 8, 2) := dk_21 8 (dk_at dksX0_opened_3 20 rfl rfl)
theorem dX0_opened_90 : decode cX0_opened 90 = .ok (.bipush 16, 2) := dk_16 16 (dk_at dksX0_opened_3 22 rfl rfl)
theorem dX0_opened_92 : decode cX0_opened 92 = .ok (.idiv, 1) := dk_108 (dk_at dksX0_opened_4 0 rfl rfl)
theorem dX0_opened_93 : decode cX0_opened 93 = .ok (.iload_n 3, 1) := dk_29 (dk_at dksX0_opened_4 1 rfl rfl)
theorem dX0_opened_94 : decode cX0_opened 94 = .ok (.if_icmp .eq 14, 3) := dk_159 0 14 (dk_at dksX0_opened_4 2 rfl rfl)
theorem dX0_opened_97 : decode cX0_opened 97 = .ok (.iload 9, 2) := dk_21 9 (dk_at dksX0_opened_4 5 rfl rfl)
theorem dX0_opened_99 : decode cX0_opened 99 = .ok (.aload_n 1, 1) := dk_43 (dk_at dksX0_opened_4 7 rfl rfl)
theorem dX0_opened_100 : decode cX0_opened 100 = .ok (.iload 8, 2) := dk_21 8 (dk_at dksX0_opened_4 8 rfl rfl)
theorem dX0_opened_102 : decode cX0_opened 102 = .ok (.iaload, 1) := dk_46 (dk_at dksX0_opened_4 10 rfl rfl)
theorem dX0_opened_103 : decode cX0_opened 103 = .ok (.if_icmp .eq 5, 3) := dk_159 0 5 (dk_at dksX0_opened_4 11 rfl rfl)
theorem dX0_opened_106 : decode cX0_opened 106 = .ok (.aconst_null, 1) := dk_1 (dk_at dksX0_opened_4 14 rfl rfl)
theorem dX0_opened_107 : decode cX0_opened 107 = .ok (.areturn, 1) := dk_176 (dk_at dksX0_opened_4 15 rfl rfl)
theorem dX0_opened_108 : decode cX0_opened 108 = .ok (.aload 7, 2) := dk_25 7 (dk_at dksX0_opened_4 16 rfl rfl)
theorem dX0_opened_110 : decode cX0_opened 110 = .ok (.iload 8, 2) := dk_21 8 (dk_at dksX0_opened_4 18 rfl rfl)
theorem dX0_opened_112 : decode cX0_opened 112 = .ok (.iload 9, 2) := dk_21 9 (dk_at dksX0_opened_4 20 rfl rfl)
theorem dX0_opened_114 : decode cX0_opened 114 = .ok (.iastore, 1) := dk_79 (dk_at dksX0_opened_4 22 rfl rfl)
theorem dX0_opened_115 : decode cX0_opened 115 = .ok (.iinc 8 1, 3) := dk_132 8 1 (dk_at dksX0_opened_5 0 rfl rfl)
theorem dX0_opened_118 : decode cX0_opened 118 = .ok (.goto (-79), 3) := dk_167 255 177 (dk_at dksX0_opened_5 3 rfl rfl)
theorem dX0_opened_121 : decode cX0_opened 121 = .ok (.aload 7, 2) := dk_25 7 (dk_at dksX0_opened_5 6 rfl rfl)
theorem dX0_opened_123 : decode cX0_opened 123 = .ok (.arraylength, 1) := dk_190 (dk_at dksX0_opened_5 8 rfl rfl)
theorem dX0_opened_124 : decode cX0_opened 124 = .ok (.ifCond .ne 17, 3) := dk_154 0 17 (dk_at dksX0_opened_5 9 rfl rfl)
theorem dX0_opened_127 : decode cX0_opened 127 = .ok (.aload_n 0, 1) := dk_42 (dk_at dksX0_opened_5 12 rfl rfl)
theorem dX0_opened_128 : decode cX0_opened 128 = .ok (.iload 4, 2) := dk_21 4 (dk_at dksX0_opened_5 13 rfl rfl)
theorem dX0_opened_130 : decode cX0_opened 130 = .ok (.invokevirtual 23, 3) := dk_182 0 23 (dk_at dksX0_opened_5 15 rfl rfl)
theorem dX0_opened_133 : decode cX0_opened 133 = .ok (.iconst (-1), 1) := dk_2 (dk_at dksX0_opened_5 18 rfl rfl)
theorem dX0_opened_134 : decode cX0_opened 134 = .ok (.if_icmp .eq 7, 3) := dk_159 0 7 (dk_at dksX0_opened_5 19 rfl rfl)
theorem dX0_opened_137 : decode cX0_opened 137 = .ok (.aconst_null, 1) := dk_1 (dk_at dksX0_opened_5 22 rfl rfl)
theorem dX0_opened_138 : decode cX0_opened 138 = .ok (.goto 5, 3) := dk_167 0 5 (dk_at dksX0_opened_6 0 rfl rfl)
theorem dX0_opened_141 : decode cX0_opened 141 = .ok (.aload 7, 2) := dk_25 7 (dk_at dksX0_opened_6 3 rfl rfl)
theorem dX0_opened_143 : decode cX0_opened 143 = .ok (.areturn, 1) := dk_176 (dk_at dksX0_opened_6 5 rfl rfl)
abbrev cX0_left : ByteArray := method_10_code
def yX0_left : MethodName := ⟨RX0, "left", "([II)I"⟩
def dkwX0_left_5 : List UInt8 := [21, 4, 4, 100, 46, 17, 0, 128, 160, 0, 10, 21, 4, 4, 100, 167, 0, 4, 2, 172]
abbrev dktX0_left_5 : List UInt8 := dkwX0_left_5 ++ []
def dkwX0_left_4 : List UInt8 := [154, 0, 9, 132, 4, 255, 167, 255, 238, 27, 5, 160, 0, 6, 21, 4, 172, 21, 4, 29, 164, 0, 22, 42]
abbrev dktX0_left_4 : List UInt8 := dkwX0_left_4 ++ dktX0_left_5
def dkwX0_left_3 : List UInt8 := [160, 0, 8, 21, 4, 167, 0, 4, 2, 172, 21, 4, 29, 164, 0, 18, 42, 21, 4, 4, 100, 46]
abbrev dktX0_left_3 : List UInt8 := dkwX0_left_3 ++ dktX0_left_4
def dkwX0_left_2 : List UInt8 := [21, 4, 4, 100, 46, 21, 5, 160, 0, 9, 132, 4, 255, 167, 255, 233, 21, 4, 28, 21, 5, 100]
abbrev dktX0_left_2 : List UInt8 := dkwX0_left_2 ++ dktX0_left_3
def dkwX0_left_1 : List UInt8 := [4, 161, 0, 10, 21, 5, 16, 16, 164, 0, 5, 2, 172, 21, 4, 28, 21, 5, 100, 164, 0, 20, 42]
abbrev dktX0_left_1 : List UInt8 := dkwX0_left_1 ++ dktX0_left_2
def dkwX0_left_0 : List UInt8 := [42, 190, 61, 28, 16, 16, 100, 62, 28, 54, 4, 27, 154, 0, 67, 42, 28, 4, 100, 46, 54, 5, 21, 5]
abbrev dktX0_left_0 : List UInt8 := dkwX0_left_0 ++ dktX0_left_1
theorem dksX0_left_0 : cX0_left.data.toList.drop 0 = dktX0_left_0 := by decide +kernel
theorem dksX0_left_1 : cX0_left.data.toList.drop 24 = dktX0_left_1 := dk_seg dksX0_left_0 24 rfl rfl
theorem dksX0_left_2 : cX0_left.data.toList.drop 47 = dktX0_left_2 := dk_seg dksX0_left_1 23 rfl rfl
theorem dksX0_left_3 : cX0_left.data.toList.drop 69 = dktX0_left_3 := dk_seg dksX0_left_2 22 rfl rfl
theorem dksX0_left_4 : cX0_left.data.toList.drop 91 = dktX0_left_4 := dk_seg dksX0_left_3 22 rfl rfl
theorem dksX0_left_5 : cX0_left.data.toList.drop 115 = dktX0_left_5 := dk_seg dksX0_left_4 24 rfl rfl
theorem dX0_left_0 : decode cX0_left 0 = .ok (.aload_n 0, 1) := dk_42 (dk_at dksX0_left_0 0 rfl rfl)
theorem dX0_left_1 : decode cX0_left 1 = .ok (.arraylength, 1) := dk_190 (dk_at dksX0_left_0 1 rfl rfl)
theorem dX0_left_2 : decode cX0_left 2 = .ok (.istore_n 2, 1) := dk_61 (dk_at dksX0_left_0 2 rfl rfl)
theorem dX0_left_3 : decode cX0_left 3 = .ok (.iload_n 2, 1) := dk_28 (dk_at dksX0_left_0 3 rfl rfl)
theorem dX0_left_4 : decode cX0_left 4 = .ok (.bipush 16, 2) := dk_16 16 (dk_at dksX0_left_0 4 rfl rfl)
theorem dX0_left_6 : decode cX0_left 6 = .ok (.isub, 1) := dk_100 (dk_at dksX0_left_0 6 rfl rfl)
theorem dX0_left_7 : decode cX0_left 7 = .ok (.istore_n 3, 1) := dk_62 (dk_at dksX0_left_0 7 rfl rfl)
theorem dX0_left_8 : decode cX0_left 8 = .ok (.iload_n 2, 1) := dk_28 (dk_at dksX0_left_0 8 rfl rfl)
theorem dX0_left_9 : decode cX0_left 9 = .ok (.istore 4, 2) := dk_54 4 (dk_at dksX0_left_0 9 rfl rfl)
theorem dX0_left_11 : decode cX0_left 11 = .ok (.iload_n 1, 1) := dk_27 (dk_at dksX0_left_0 11 rfl rfl)
theorem dX0_left_12 : decode cX0_left 12 = .ok (.ifCond .ne 67, 3) := dk_154 0 67 (dk_at dksX0_left_0 12 rfl rfl)
theorem dX0_left_15 : decode cX0_left 15 = .ok (.aload_n 0, 1) := dk_42 (dk_at dksX0_left_0 15 rfl rfl)
theorem dX0_left_16 : decode cX0_left 16 = .ok (.iload_n 2, 1) := dk_28 (dk_at dksX0_left_0 16 rfl rfl)
theorem dX0_left_17 : decode cX0_left 17 = .ok (.iconst 1, 1) := dk_4 (dk_at dksX0_left_0 17 rfl rfl)
theorem dX0_left_18 : decode cX0_left 18 = .ok (.isub, 1) := dk_100 (dk_at dksX0_left_0 18 rfl rfl)
theorem dX0_left_19 : decode cX0_left 19 = .ok (.iaload, 1) := dk_46 (dk_at dksX0_left_0 19 rfl rfl)
theorem dX0_left_20 : decode cX0_left 20 = .ok (.istore 5, 2) := dk_54 5 (dk_at dksX0_left_0 20 rfl rfl)
theorem dX0_left_22 : decode cX0_left 22 = .ok (.iload 5, 2) := dk_21 5 (dk_at dksX0_left_0 22 rfl rfl)
theorem dX0_left_24 : decode cX0_left 24 = .ok (.iconst 1, 1) := dk_4 (dk_at dksX0_left_1 0 rfl rfl)
theorem dX0_left_25 : decode cX0_left 25 = .ok (.if_icmp .lt 10, 3) := dk_161 0 10 (dk_at dksX0_left_1 1 rfl rfl)
theorem dX0_left_28 : decode cX0_left 28 = .ok (.iload 5, 2) := dk_21 5 (dk_at dksX0_left_1 4 rfl rfl)
theorem dX0_left_30 : decode cX0_left 30 = .ok (.bipush 16, 2) := dk_16 16 (dk_at dksX0_left_1 6 rfl rfl)
theorem dX0_left_32 : decode cX0_left 32 = .ok (.if_icmp .le 5, 3) := dk_164 0 5 (dk_at dksX0_left_1 8 rfl rfl)
theorem dX0_left_35 : decode cX0_left 35 = .ok (.iconst (-1), 1) := dk_2 (dk_at dksX0_left_1 11 rfl rfl)
theorem dX0_left_36 : decode cX0_left 36 = .ok (.ireturn, 1) := dk_172 (dk_at dksX0_left_1 12 rfl rfl)
theorem dX0_left_37 : decode cX0_left 37 = .ok (.iload 4, 2) := dk_21 4 (dk_at dksX0_left_1 13 rfl rfl)
theorem dX0_left_39 : decode cX0_left 39 = .ok (.iload_n 2, 1) := dk_28 (dk_at dksX0_left_1 15 rfl rfl)
theorem dX0_left_40 : decode cX0_left 40 = .ok (.iload 5, 2) := dk_21 5 (dk_at dksX0_left_1 16 rfl rfl)
theorem dX0_left_42 : decode cX0_left 42 = .ok (.isub, 1) := dk_100 (dk_at dksX0_left_1 18 rfl rfl)
theorem dX0_left_43 : decode cX0_left 43 = .ok (.if_icmp .le 20, 3) := dk_164 0 20 (dk_at dksX0_left_1 19 rfl rfl)
theorem dX0_left_46 : decode cX0_left 46 = .ok (.aload_n 0, 1) := dk_42 (dk_at dksX0_left_1 22 rfl rfl)
theorem dX0_left_47 : decode cX0_left 47 = .ok (.iload 4, 2) := dk_21 4 (dk_at dksX0_left_2 0 rfl rfl)
theorem dX0_left_49 : decode cX0_left 49 = .ok (.iconst 1, 1) := dk_4 (dk_at dksX0_left_2 2 rfl rfl)
theorem dX0_left_50 : decode cX0_left 50 = .ok (.isub, 1) := dk_100 (dk_at dksX0_left_2 3 rfl rfl)
theorem dX0_left_51 : decode cX0_left 51 = .ok (.iaload, 1) := dk_46 (dk_at dksX0_left_2 4 rfl rfl)
theorem dX0_left_52 : decode cX0_left 52 = .ok (.iload 5, 2) := dk_21 5 (dk_at dksX0_left_2 5 rfl rfl)
theorem dX0_left_54 : decode cX0_left 54 = .ok (.if_icmp .ne 9, 3) := dk_160 0 9 (dk_at dksX0_left_2 7 rfl rfl)
theorem dX0_left_57 : decode cX0_left 57 = .ok (.iinc 4 (-1), 3) := dk_132 4 255 (dk_at dksX0_left_2 10 rfl rfl)
theorem dX0_left_60 : decode cX0_left 60 = .ok (.goto (-23), 3) := dk_167 255 233 (dk_at dksX0_left_2 13 rfl rfl)
theorem dX0_left_63 : decode cX0_left 63 = .ok (.iload 4, 2) := dk_21 4 (dk_at dksX0_left_2 16 rfl rfl)
theorem dX0_left_65 : decode cX0_left 65 = .ok (.iload_n 2, 1) := dk_28 (dk_at dksX0_left_2 18 rfl rfl)
theorem dX0_left_66 : decode cX0_left 66 = .ok (.iload 5, 2) := dk_21 5 (dk_at dksX0_left_2 19 rfl rfl)
theorem dX0_left_68 : decode cX0_left 68 = .ok (.isub, 1) := dk_100 (dk_at dksX0_left_2 21 rfl rfl)
theorem dX0_left_69 : decode cX0_left 69 = .ok (.if_icmp .ne 8, 3) := dk_160 0 8 (dk_at dksX0_left_3 0 rfl rfl)
theorem dX0_left_72 : decode cX0_left 72 = .ok (.iload 4, 2) := dk_21 4 (dk_at dksX0_left_3 3 rfl rfl)
theorem dX0_left_74 : decode cX0_left 74 = .ok (.goto 4, 3) := dk_167 0 4 (dk_at dksX0_left_3 5 rfl rfl)
theorem dX0_left_77 : decode cX0_left 77 = .ok (.iconst (-1), 1) := dk_2 (dk_at dksX0_left_3 8 rfl rfl)
theorem dX0_left_78 : decode cX0_left 78 = .ok (.ireturn, 1) := dk_172 (dk_at dksX0_left_3 9 rfl rfl)
theorem dX0_left_79 : decode cX0_left 79 = .ok (.iload 4, 2) := dk_21 4 (dk_at dksX0_left_3 10 rfl rfl)
theorem dX0_left_81 : decode cX0_left 81 = .ok (.iload_n 3, 1) := dk_29 (dk_at dksX0_left_3 12 rfl rfl)
theorem dX0_left_82 : decode cX0_left 82 = .ok (.if_icmp .le 18, 3) := dk_164 0 18 (dk_at dksX0_left_3 13 rfl rfl)
theorem dX0_left_85 : decode cX0_left 85 = .ok (.aload_n 0, 1) := dk_42 (dk_at dksX0_left_3 16 rfl rfl)
theorem dX0_left_86 : decode cX0_left 86 = .ok (.iload 4, 2) := dk_21 4 (dk_at dksX0_left_3 17 rfl rfl)
theorem dX0_left_88 : decode cX0_left 88 = .ok (.iconst 1, 1) := dk_4 (dk_at dksX0_left_3 19 rfl rfl)
theorem dX0_left_89 : decode cX0_left 89 = .ok (.isub, 1) := dk_100 (dk_at dksX0_left_3 20 rfl rfl)
theorem dX0_left_90 : decode cX0_left 90 = .ok (.iaload, 1) := dk_46 (dk_at dksX0_left_3 21 rfl rfl)
theorem dX0_left_91 : decode cX0_left 91 = .ok (.ifCond .ne 9, 3) := dk_154 0 9 (dk_at dksX0_left_4 0 rfl rfl)
theorem dX0_left_94 : decode cX0_left 94 = .ok (.iinc 4 (-1), 3) := dk_132 4 255 (dk_at dksX0_left_4 3 rfl rfl)
theorem dX0_left_97 : decode cX0_left 97 = .ok (.goto (-18), 3) := dk_167 255 238 (dk_at dksX0_left_4 6 rfl rfl)
theorem dX0_left_100 : decode cX0_left 100 = .ok (.iload_n 1, 1) := dk_27 (dk_at dksX0_left_4 9 rfl rfl)
theorem dX0_left_101 : decode cX0_left 101 = .ok (.iconst 2, 1) := dk_5 (dk_at dksX0_left_4 10 rfl rfl)
theorem dX0_left_102 : decode cX0_left 102 = .ok (.if_icmp .ne 6, 3) := dk_160 0 6 (dk_at dksX0_left_4 11 rfl rfl)
theorem dX0_left_105 : decode cX0_left 105 = .ok (.iload 4, 2) := dk_21 4 (dk_at dksX0_left_4 14 rfl rfl)
theorem dX0_left_107 : decode cX0_left 107 = .ok (.ireturn, 1) := dk_172 (dk_at dksX0_left_4 16 rfl rfl)
theorem dX0_left_108 : decode cX0_left 108 = .ok (.iload 4, 2) := dk_21 4 (dk_at dksX0_left_4 17 rfl rfl)
theorem dX0_left_110 : decode cX0_left 110 = .ok (.iload_n 3, 1) := dk_29 (dk_at dksX0_left_4 19 rfl rfl)
theorem dX0_left_111 : decode cX0_left 111 = .ok (.if_icmp .le 22, 3) := dk_164 0 22 (dk_at dksX0_left_4 20 rfl rfl)
theorem dX0_left_114 : decode cX0_left 114 = .ok (.aload_n 0, 1) := dk_42 (dk_at dksX0_left_4 23 rfl rfl)
theorem dX0_left_115 : decode cX0_left 115 = .ok (.iload 4, 2) := dk_21 4 (dk_at dksX0_left_5 0 rfl rfl)
theorem dX0_left_117 : decode cX0_left 117 = .ok (.iconst 1, 1) := dk_4 (dk_at dksX0_left_5 2 rfl rfl)
theorem dX0_left_118 : decode cX0_left 118 = .ok (.isub, 1) := dk_100 (dk_at dksX0_left_5 3 rfl rfl)
theorem dX0_left_119 : decode cX0_left 119 = .ok (.iaload, 1) := dk_46 (dk_at dksX0_left_5 4 rfl rfl)
theorem dX0_left_120 : decode cX0_left 120 = .ok (.sipush 128, 3) := dk_17 0 128 (dk_at dksX0_left_5 5 rfl rfl)
theorem dX0_left_123 : decode cX0_left 123 = .ok (.if_icmp .ne 10, 3) := dk_160 0 10 (dk_at dksX0_left_5 8 rfl rfl)
theorem dX0_left_126 : decode cX0_left 126 = .ok (.iload 4, 2) := dk_21 4 (dk_at dksX0_left_5 11 rfl rfl)
theorem dX0_left_128 : decode cX0_left 128 = .ok (.iconst 1, 1) := dk_4 (dk_at dksX0_left_5 13 rfl rfl)
theorem dX0_left_129 : decode cX0_left 129 = .ok (.isub, 1) := dk_100 (dk_at dksX0_left_5 14 rfl rfl)
theorem dX0_left_130 : decode cX0_left 130 = .ok (.goto 4, 3) := dk_167 0 4 (dk_at dksX0_left_5 15 rfl rfl)
theorem dX0_left_133 : decode cX0_left 133 = .ok (.iconst (-1), 1) := dk_2 (dk_at dksX0_left_5 18 rfl rfl)
theorem dX0_left_134 : decode cX0_left 134 = .ok (.ireturn, 1) := dk_172 (dk_at dksX0_left_5 19 rfl rfl)
abbrev cX0_lastHarmed : ByteArray := method_12_code
def yX0_lastHarmed : MethodName := ⟨RX0, "lastHarmed", "(LPaddedDesk;[III)Z"⟩
def dkwX0_lastHarmed_3 : List UInt8 := [182, 0, 23, 43, 21, 5, 46, 159, 0, 5, 3, 172, 132, 5, 1, 167, 255, 228, 4, 172]
abbrev dktX0_lastHarmed_3 : List UInt8 := dkwX0_lastHarmed_3 ++ []
def dkwX0_lastHarmed_2 : List UInt8 := [100, 164, 0, 5, 3, 172, 3, 54, 5, 21, 5, 43, 190, 16, 16, 100, 162, 0, 24, 42, 21, 5]
abbrev dktX0_lastHarmed_2 : List UInt8 := dkwX0_lastHarmed_2 ++ dktX0_lastHarmed_3
def dkwX0_lastHarmed_1 : List UInt8 := [21, 4, 43, 190, 16, 16, 100, 161, 0, 21, 21, 4, 43, 190, 28, 5, 160, 0, 7, 3, 167, 0, 4, 4]
abbrev dktX0_lastHarmed_1 : List UInt8 := dkwX0_lastHarmed_1 ++ dktX0_lastHarmed_2
def dkwX0_lastHarmed_0 : List UInt8 := [42, 29, 182, 0, 18, 54, 4, 21, 4, 2, 160, 0, 14, 28, 5, 159, 0, 7, 4, 167, 0, 4, 3, 172]
abbrev dktX0_lastHarmed_0 : List UInt8 := dkwX0_lastHarmed_0 ++ dktX0_lastHarmed_1
theorem dksX0_lastHarmed_0 : cX0_lastHarmed.data.toList.drop 0 = dktX0_lastHarmed_0 := by decide +kernel
theorem dksX0_lastHarmed_1 : cX0_lastHarmed.data.toList.drop 24 = dktX0_lastHarmed_1 := dk_seg dksX0_lastHarmed_0 24 rfl rfl
theorem dksX0_lastHarmed_2 : cX0_lastHarmed.data.toList.drop 48 = dktX0_lastHarmed_2 := dk_seg dksX0_lastHarmed_1 24 rfl rfl
theorem dksX0_lastHarmed_3 : cX0_lastHarmed.data.toList.drop 70 = dktX0_lastHarmed_3 := dk_seg dksX0_lastHarmed_2 22 rfl rfl
theorem dX0_lastHarmed_0 : decode cX0_lastHarmed 0 = .ok (.aload_n 0, 1) := dk_42 (dk_at dksX0_lastHarmed_0 0 rfl rfl)
theorem dX0_lastHarmed_1 : decode cX0_lastHarmed 1 = .ok (.iload_n 3, 1) := dk_29 (dk_at dksX0_lastHarmed_0 1 rfl rfl)
theorem dX0_lastHarmed_2 : decode cX0_lastHarmed 2 = .ok (.invokevirtual 18, 3) := dk_182 0 18 (dk_at dksX0_lastHarmed_0 2 rfl rfl)
theorem dX0_lastHarmed_5 : decode cX0_lastHarmed 5 = .ok (.istore 4, 2) := dk_54 4 (dk_at dksX0_lastHarmed_0 5 rfl rfl)
theorem dX0_lastHarmed_7 : decode cX0_lastHarmed 7 = .ok (.iload 4, 2) := dk_21 4 (dk_at dksX0_lastHarmed_0 7 rfl rfl)
theorem dX0_lastHarmed_9 : decode cX0_lastHarmed 9 = .ok (.iconst (-1), 1) := dk_2 (dk_at dksX0_lastHarmed_0 9 rfl rfl)
theorem dX0_lastHarmed_10 : decode cX0_lastHarmed 10 = .ok (.if_icmp .ne 14, 3) := dk_160 0 14 (dk_at dksX0_lastHarmed_0 10 rfl rfl)
theorem dX0_lastHarmed_13 : decode cX0_lastHarmed 13 = .ok (.iload_n 2, 1) := dk_28 (dk_at dksX0_lastHarmed_0 13 rfl rfl)
theorem dX0_lastHarmed_14 : decode cX0_lastHarmed 14 = .ok (.iconst 2, 1) := dk_5 (dk_at dksX0_lastHarmed_0 14 rfl rfl)
theorem dX0_lastHarmed_15 : decode cX0_lastHarmed 15 = .ok (.if_icmp .eq 7, 3) := dk_159 0 7 (dk_at dksX0_lastHarmed_0 15 rfl rfl)
theorem dX0_lastHarmed_18 : decode cX0_lastHarmed 18 = .ok (.iconst 1, 1) := dk_4 (dk_at dksX0_lastHarmed_0 18 rfl rfl)
theorem dX0_lastHarmed_19 : decode cX0_lastHarmed 19 = .ok (.goto 4, 3) := dk_167 0 4 (dk_at dksX0_lastHarmed_0 19 rfl rfl)
theorem dX0_lastHarmed_22 : decode cX0_lastHarmed 22 = .ok (.iconst 0, 1) := dk_3 (dk_at dksX0_lastHarmed_0 22 rfl rfl)
theorem dX0_lastHarmed_23 : decode cX0_lastHarmed 23 = .ok (.ireturn, 1) := dk_172 (dk_at dksX0_lastHarmed_0 23 rfl rfl)
theorem dX0_lastHarmed_24 : decode cX0_lastHarmed 24 = .ok (.iload 4, 2) := dk_21 4 (dk_at dksX0_lastHarmed_1 0 rfl rfl)
theorem dX0_lastHarmed_26 : decode cX0_lastHarmed 26 = .ok (.aload_n 1, 1) := dk_43 (dk_at dksX0_lastHarmed_1 2 rfl rfl)
theorem dX0_lastHarmed_27 : decode cX0_lastHarmed 27 = .ok (.arraylength, 1) := dk_190 (dk_at dksX0_lastHarmed_1 3 rfl rfl)
theorem dX0_lastHarmed_28 : decode cX0_lastHarmed 28 = .ok (.bipush 16, 2) := dk_16 16 (dk_at dksX0_lastHarmed_1 4 rfl rfl)
theorem dX0_lastHarmed_30 : decode cX0_lastHarmed 30 = .ok (.isub, 1) := dk_100 (dk_at dksX0_lastHarmed_1 6 rfl rfl)
theorem dX0_lastHarmed_31 : decode cX0_lastHarmed 31 = .ok (.if_icmp .lt 21, 3) := dk_161 0 21 (dk_at dksX0_lastHarmed_1 7 rfl rfl)
theorem dX0_lastHarmed_34 : decode cX0_lastHarmed 34 = .ok (.iload 4, 2) := dk_21 4 (dk_at dksX0_lastHarmed_1 10 rfl rfl)
theorem dX0_lastHarmed_36 : decode cX0_lastHarmed 36 = .ok (.aload_n 1, 1) := dk_43 (dk_at dksX0_lastHarmed_1 12 rfl rfl)
theorem dX0_lastHarmed_37 : decode cX0_lastHarmed 37 = .ok (.arraylength, 1) := dk_190 (dk_at dksX0_lastHarmed_1 13 rfl rfl)
theorem dX0_lastHarmed_38 : decode cX0_lastHarmed 38 = .ok (.iload_n 2, 1) := dk_28 (dk_at dksX0_lastHarmed_1 14 rfl rfl)
theorem dX0_lastHarmed_39 : decode cX0_lastHarmed 39 = .ok (.iconst 2, 1) := dk_5 (dk_at dksX0_lastHarmed_1 15 rfl rfl)
theorem dX0_lastHarmed_40 : decode cX0_lastHarmed 40 = .ok (.if_icmp .ne 7, 3) := dk_160 0 7 (dk_at dksX0_lastHarmed_1 16 rfl rfl)
theorem dX0_lastHarmed_43 : decode cX0_lastHarmed 43 = .ok (.iconst 0, 1) := dk_3 (dk_at dksX0_lastHarmed_1 19 rfl rfl)
theorem dX0_lastHarmed_44 : decode cX0_lastHarmed 44 = .ok (.goto 4, 3) := dk_167 0 4 (dk_at dksX0_lastHarmed_1 20 rfl rfl)
theorem dX0_lastHarmed_47 : decode cX0_lastHarmed 47 = .ok (.iconst 1, 1) := dk_4 (dk_at dksX0_lastHarmed_1 23 rfl rfl)
theorem dX0_lastHarmed_48 : decode cX0_lastHarmed 48 = .ok (.isub, 1) := dk_100 (dk_at dksX0_lastHarmed_2 0 rfl rfl)
theorem dX0_lastHarmed_49 : decode cX0_lastHarmed 49 = .ok (.if_icmp .le 5, 3) := dk_164 0 5 (dk_at dksX0_lastHarmed_2 1 rfl rfl)
theorem dX0_lastHarmed_52 : decode cX0_lastHarmed 52 = .ok (.iconst 0, 1) := dk_3 (dk_at dksX0_lastHarmed_2 4 rfl rfl)
theorem dX0_lastHarmed_53 : decode cX0_lastHarmed 53 = .ok (.ireturn, 1) := dk_172 (dk_at dksX0_lastHarmed_2 5 rfl rfl)
theorem dX0_lastHarmed_54 : decode cX0_lastHarmed 54 = .ok (.iconst 0, 1) := dk_3 (dk_at dksX0_lastHarmed_2 6 rfl rfl)
theorem dX0_lastHarmed_55 : decode cX0_lastHarmed 55 = .ok (.istore 5, 2) := dk_54 5 (dk_at dksX0_lastHarmed_2 7 rfl rfl)
theorem dX0_lastHarmed_57 : decode cX0_lastHarmed 57 = .ok (.iload 5, 2) := dk_21 5 (dk_at dksX0_lastHarmed_2 9 rfl rfl)
theorem dX0_lastHarmed_59 : decode cX0_lastHarmed 59 = .ok (.aload_n 1, 1) := dk_43 (dk_at dksX0_lastHarmed_2 11 rfl rfl)
theorem dX0_lastHarmed_60 : decode cX0_lastHarmed 60 = .ok (.arraylength, 1) := dk_190 (dk_at dksX0_lastHarmed_2 12 rfl rfl)
theorem dX0_lastHarmed_61 : decode cX0_lastHarmed 61 = .ok (.bipush 16, 2) := dk_16 16 (dk_at dksX0_lastHarmed_2 13 rfl rfl)
theorem dX0_lastHarmed_63 : decode cX0_lastHarmed 63 = .ok (.isub, 1) := dk_100 (dk_at dksX0_lastHarmed_2 15 rfl rfl)
theorem dX0_lastHarmed_64 : decode cX0_lastHarmed 64 = .ok (.if_icmp .ge 24, 3) := dk_162 0 24 (dk_at dksX0_lastHarmed_2 16 rfl rfl)
theorem dX0_lastHarmed_67 : decode cX0_lastHarmed 67 = .ok (.aload_n 0, 1) := dk_42 (dk_at dksX0_lastHarmed_2 19 rfl rfl)
theorem dX0_lastHarmed_68 : decode cX0_lastHarmed 68 = .ok (.iload 5, 2) := dk_21 5 (dk_at dksX0_lastHarmed_2 20 rfl rfl)
theorem dX0_lastHarmed_70 : decode cX0_lastHarmed 70 = .ok (.invokevirtual 23, 3) := dk_182 0 23 (dk_at dksX0_lastHarmed_3 0 rfl rfl)
theorem dX0_lastHarmed_73 : decode cX0_lastHarmed 73 = .ok (.aload_n 1, 1) := dk_43 (dk_at dksX0_lastHarmed_3 3 rfl rfl)
theorem dX0_lastHarmed_74 : decode cX0_lastHarmed 74 = .ok (.iload 5, 2) := dk_21 5 (dk_at dksX0_lastHarmed_3 4 rfl rfl)
theorem dX0_lastHarmed_76 : decode cX0_lastHarmed 76 = .ok (.iaload, 1) := dk_46 (dk_at dksX0_lastHarmed_3 6 rfl rfl)
theorem dX0_lastHarmed_77 : decode cX0_lastHarmed 77 = .ok (.if_icmp .eq 5, 3) := dk_159 0 5 (dk_at dksX0_lastHarmed_3 7 rfl rfl)
theorem dX0_lastHarmed_80 : decode cX0_lastHarmed 80 = .ok (.iconst 0, 1) := dk_3 (dk_at dksX0_lastHarmed_3 10 rfl rfl)
theorem dX0_lastHarmed_81 : decode cX0_lastHarmed 81 = .ok (.ireturn, 1) := dk_172 (dk_at dksX0_lastHarmed_3 11 rfl rfl)
theorem dX0_lastHarmed_82 : decode cX0_lastHarmed 82 = .ok (.iinc 5 1, 3) := dk_132 5 1 (dk_at dksX0_lastHarmed_3 12 rfl rfl)
theorem dX0_lastHarmed_85 : decode cX0_lastHarmed 85 = .ok (.goto (-28), 3) := dk_167 255 228 (dk_at dksX0_lastHarmed_3 15 rfl rfl)
theorem dX0_lastHarmed_88 : decode cX0_lastHarmed 88 = .ok (.iconst 1, 1) := dk_4 (dk_at dksX0_lastHarmed_3 18 rfl rfl)
theorem dX0_lastHarmed_89 : decode cX0_lastHarmed 89 = .ok (.ireturn, 1) := dk_172 (dk_at dksX0_lastHarmed_3 19 rfl rfl)
abbrev cX0_with : ByteArray := method_13_code
def yX0_with : MethodName := ⟨RX0, "with", "([III)[I"⟩
def dkwX0_with_1 : List UInt8 := [42, 21, 4, 46, 28, 130, 167, 0, 7, 42, 21, 4, 46, 79, 132, 4, 1, 167, 255, 223, 45, 176]
abbrev dktX0_with_1 : List UInt8 := dkwX0_with_1 ++ []
def dkwX0_with_0 : List UInt8 := [42, 190, 188, 10, 78, 3, 54, 4, 21, 4, 42, 190, 162, 0, 32, 45, 21, 4, 21, 4, 27, 160, 0, 12]
abbrev dktX0_with_0 : List UInt8 := dkwX0_with_0 ++ dktX0_with_1
theorem dksX0_with_0 : cX0_with.data.toList.drop 0 = dktX0_with_0 := by decide +kernel
theorem dksX0_with_1 : cX0_with.data.toList.drop 24 = dktX0_with_1 := dk_seg dksX0_with_0 24 rfl rfl
theorem dX0_with_0 : decode cX0_with 0 = .ok (.aload_n 0, 1) := dk_42 (dk_at dksX0_with_0 0 rfl rfl)
theorem dX0_with_1 : decode cX0_with 1 = .ok (.arraylength, 1) := dk_190 (dk_at dksX0_with_0 1 rfl rfl)
theorem dX0_with_2 : decode cX0_with 2 = .ok (.newarray .int, 2) := dk_188_10 (dk_at dksX0_with_0 2 rfl rfl)
theorem dX0_with_4 : decode cX0_with 4 = .ok (.astore_n 3, 1) := dk_78 (dk_at dksX0_with_0 4 rfl rfl)
theorem dX0_with_5 : decode cX0_with 5 = .ok (.iconst 0, 1) := dk_3 (dk_at dksX0_with_0 5 rfl rfl)
theorem dX0_with_6 : decode cX0_with 6 = .ok (.istore 4, 2) := dk_54 4 (dk_at dksX0_with_0 6 rfl rfl)
theorem dX0_with_8 : decode cX0_with 8 = .ok (.iload 4, 2) := dk_21 4 (dk_at dksX0_with_0 8 rfl rfl)
theorem dX0_with_10 : decode cX0_with 10 = .ok (.aload_n 0, 1) := dk_42 (dk_at dksX0_with_0 10 rfl rfl)
theorem dX0_with_11 : decode cX0_with 11 = .ok (.arraylength, 1) := dk_190 (dk_at dksX0_with_0 11 rfl rfl)
theorem dX0_with_12 : decode cX0_with 12 = .ok (.if_icmp .ge 32, 3) := dk_162 0 32 (dk_at dksX0_with_0 12 rfl rfl)
theorem dX0_with_15 : decode cX0_with 15 = .ok (.aload_n 3, 1) := dk_45 (dk_at dksX0_with_0 15 rfl rfl)
theorem dX0_with_16 : decode cX0_with 16 = .ok (.iload 4, 2) := dk_21 4 (dk_at dksX0_with_0 16 rfl rfl)
theorem dX0_with_18 : decode cX0_with 18 = .ok (.iload 4, 2) := dk_21 4 (dk_at dksX0_with_0 18 rfl rfl)
theorem dX0_with_20 : decode cX0_with 20 = .ok (.iload_n 1, 1) := dk_27 (dk_at dksX0_with_0 20 rfl rfl)
theorem dX0_with_21 : decode cX0_with 21 = .ok (.if_icmp .ne 12, 3) := dk_160 0 12 (dk_at dksX0_with_0 21 rfl rfl)
theorem dX0_with_24 : decode cX0_with 24 = .ok (.aload_n 0, 1) := dk_42 (dk_at dksX0_with_1 0 rfl rfl)
theorem dX0_with_25 : decode cX0_with 25 = .ok (.iload 4, 2) := dk_21 4 (dk_at dksX0_with_1 1 rfl rfl)
theorem dX0_with_27 : decode cX0_with 27 = .ok (.iaload, 1) := dk_46 (dk_at dksX0_with_1 3 rfl rfl)
theorem dX0_with_28 : decode cX0_with 28 = .ok (.iload_n 2, 1) := dk_28 (dk_at dksX0_with_1 4 rfl rfl)
theorem dX0_with_29 : decode cX0_with 29 = .ok (.ixor, 1) := dk_130 (dk_at dksX0_with_1 5 rfl rfl)
theorem dX0_with_30 : decode cX0_with 30 = .ok (.goto 7, 3) := dk_167 0 7 (dk_at dksX0_with_1 6 rfl rfl)
theorem dX0_with_33 : decode cX0_with 33 = .ok (.aload_n 0, 1) := dk_42 (dk_at dksX0_with_1 9 rfl rfl)
theorem dX0_with_34 : decode cX0_with 34 = .ok (.iload 4, 2) := dk_21 4 (dk_at dksX0_with_1 10 rfl rfl)
theorem dX0_with_36 : decode cX0_with 36 = .ok (.iaload, 1) := dk_46 (dk_at dksX0_with_1 12 rfl rfl)
theorem dX0_with_37 : decode cX0_with 37 = .ok (.iastore, 1) := dk_79 (dk_at dksX0_with_1 13 rfl rfl)
theorem dX0_with_38 : decode cX0_with 38 = .ok (.iinc 4 1, 3) := dk_132 4 1 (dk_at dksX0_with_1 14 rfl rfl)
theorem dX0_with_41 : decode cX0_with 41 = .ok (.goto (-33), 3) := dk_167 255 223 (dk_at dksX0_with_1 17 rfl rfl)
theorem dX0_with_44 : decode cX0_with 44 = .ok (.aload_n 3, 1) := dk_45 (dk_at dksX0_with_1 20 rfl rfl)
theorem dX0_with_45 : decode cX0_with 45 = .ok (.areturn, 1) := dk_176 (dk_at dksX0_with_1 21 rfl rfl)
abbrev cX0_isSealed : ByteArray := method_14_code
def yX0_isSealed : MethodName := ⟨RX0, "isSealed", "(LPaddedDesk;[II)Z"⟩
def dkwX0_isSealed_2 : List UInt8 := [3, 172]
abbrev dktX0_isSealed_2 : List UInt8 := dkwX0_isSealed_2 ++ []
def dkwX0_isSealed_1 : List UInt8 := [167, 255, 234, 42, 28, 182, 0, 26, 43, 28, 184, 0, 29, 43, 190, 112, 46, 160, 0, 7, 4, 167, 0, 4]
abbrev dktX0_isSealed_1 : List UInt8 := dkwX0_isSealed_1 ++ dktX0_isSealed_2
def dkwX0_isSealed_0 : List UInt8 := [3, 62, 29, 43, 190, 162, 0, 22, 42, 29, 182, 0, 26, 43, 29, 46, 159, 0, 5, 3, 172, 132, 3, 1]
abbrev dktX0_isSealed_0 : List UInt8 := dkwX0_isSealed_0 ++ dktX0_isSealed_1
theorem dksX0_isSealed_0 : cX0_isSealed.data.toList.drop 0 = dktX0_isSealed_0 := by decide +kernel
theorem dksX0_isSealed_1 : cX0_isSealed.data.toList.drop 24 = dktX0_isSealed_1 := dk_seg dksX0_isSealed_0 24 rfl rfl
theorem dksX0_isSealed_2 : cX0_isSealed.data.toList.drop 48 = dktX0_isSealed_2 := dk_seg dksX0_isSealed_1 24 rfl rfl
theorem dX0_isSealed_0 : decode cX0_isSealed 0 = .ok (.iconst 0, 1) := dk_3 (dk_at dksX0_isSealed_0 0 rfl rfl)
theorem dX0_isSealed_1 : decode cX0_isSealed 1 = .ok (.istore_n 3, 1) := dk_62 (dk_at dksX0_isSealed_0 1 rfl rfl)
theorem dX0_isSealed_2 : decode cX0_isSealed 2 = .ok (.iload_n 3, 1) := dk_29 (dk_at dksX0_isSealed_0 2 rfl rfl)
theorem dX0_isSealed_3 : decode cX0_isSealed 3 = .ok (.aload_n 1, 1) := dk_43 (dk_at dksX0_isSealed_0 3 rfl rfl)
theorem dX0_isSealed_4 : decode cX0_isSealed 4 = .ok (.arraylength, 1) := dk_190 (dk_at dksX0_isSealed_0 4 rfl rfl)
theorem dX0_isSealed_5 : decode cX0_isSealed 5 = .ok (.if_icmp .ge 22, 3) := dk_162 0 22 (dk_at dksX0_isSealed_0 5 rfl rfl)
theorem dX0_isSealed_8 : decode cX0_isSealed 8 = .ok (.aload_n 0, 1) := dk_42 (dk_at dksX0_isSealed_0 8 rfl rfl)
theorem dX0_isSealed_9 : decode cX0_isSealed 9 = .ok (.iload_n 3, 1) := dk_29 (dk_at dksX0_isSealed_0 9 rfl rfl)
theorem dX0_isSealed_10 : decode cX0_isSealed 10 = .ok (.invokevirtual 26, 3) := dk_182 0 26 (dk_at dksX0_isSealed_0 10 rfl rfl)
theorem dX0_isSealed_13 : decode cX0_isSealed 13 = .ok (.aload_n 1, 1) := dk_43 (dk_at dksX0_isSealed_0 13 rfl rfl)
theorem dX0_isSealed_14 : decode cX0_isSealed 14 = .ok (.iload_n 3, 1) := dk_29 (dk_at dksX0_isSealed_0 14 rfl rfl)
theorem dX0_isSealed_15 : decode cX0_isSealed 15 = .ok (.iaload, 1) := dk_46 (dk_at dksX0_isSealed_0 15 rfl rfl)
theorem dX0_isSealed_16 : decode cX0_isSealed 16 = .ok (.if_icmp .eq 5, 3) := dk_159 0 5 (dk_at dksX0_isSealed_0 16 rfl rfl)
theorem dX0_isSealed_19 : decode cX0_isSealed 19 = .ok (.iconst 0, 1) := dk_3 (dk_at dksX0_isSealed_0 19 rfl rfl)
theorem dX0_isSealed_20 : decode cX0_isSealed 20 = .ok (.ireturn, 1) := dk_172 (dk_at dksX0_isSealed_0 20 rfl rfl)
theorem dX0_isSealed_21 : decode cX0_isSealed 21 = .ok (.iinc 3 1, 3) := dk_132 3 1 (dk_at dksX0_isSealed_0 21 rfl rfl)
theorem dX0_isSealed_24 : decode cX0_isSealed 24 = .ok (.goto (-22), 3) := dk_167 255 234 (dk_at dksX0_isSealed_1 0 rfl rfl)
theorem dX0_isSealed_27 : decode cX0_isSealed 27 = .ok (.aload_n 0, 1) := dk_42 (dk_at dksX0_isSealed_1 3 rfl rfl)
theorem dX0_isSealed_28 : decode cX0_isSealed 28 = .ok (.iload_n 2, 1) := dk_28 (dk_at dksX0_isSealed_1 4 rfl rfl)
theorem dX0_isSealed_29 : decode cX0_isSealed 29 = .ok (.invokevirtual 26, 3) := dk_182 0 26 (dk_at dksX0_isSealed_1 5 rfl rfl)
theorem dX0_isSealed_32 : decode cX0_isSealed 32 = .ok (.aload_n 1, 1) := dk_43 (dk_at dksX0_isSealed_1 8 rfl rfl)
theorem dX0_isSealed_33 : decode cX0_isSealed 33 = .ok (.iload_n 2, 1) := dk_28 (dk_at dksX0_isSealed_1 9 rfl rfl)
theorem dX0_isSealed_34 : decode cX0_isSealed 34 = .ok (.invokestatic 29, 3) := dk_184 0 29 (dk_at dksX0_isSealed_1 10 rfl rfl)
theorem dX0_isSealed_37 : decode cX0_isSealed 37 = .ok (.aload_n 1, 1) := dk_43 (dk_at dksX0_isSealed_1 13 rfl rfl)
theorem dX0_isSealed_38 : decode cX0_isSealed 38 = .ok (.arraylength, 1) := dk_190 (dk_at dksX0_isSealed_1 14 rfl rfl)
theorem dX0_isSealed_39 : decode cX0_isSealed 39 = .ok (.irem, 1) := dk_112 (dk_at dksX0_isSealed_1 15 rfl rfl)
theorem dX0_isSealed_40 : decode cX0_isSealed 40 = .ok (.iaload, 1) := dk_46 (dk_at dksX0_isSealed_1 16 rfl rfl)
theorem dX0_isSealed_41 : decode cX0_isSealed 41 = .ok (.if_icmp .ne 7, 3) := dk_160 0 7 (dk_at dksX0_isSealed_1 17 rfl rfl)
theorem dX0_isSealed_44 : decode cX0_isSealed 44 = .ok (.iconst 1, 1) := dk_4 (dk_at dksX0_isSealed_1 20 rfl rfl)
theorem dX0_isSealed_45 : decode cX0_isSealed 45 = .ok (.goto 4, 3) := dk_167 0 4 (dk_at dksX0_isSealed_1 21 rfl rfl)
theorem dX0_isSealed_48 : decode cX0_isSealed 48 = .ok (.iconst 0, 1) := dk_3 (dk_at dksX0_isSealed_2 0 rfl rfl)
theorem dX0_isSealed_49 : decode cX0_isSealed 49 = .ok (.ireturn, 1) := dk_172 (dk_at dksX0_isSealed_2 1 rfl rfl)
abbrev cX0_nonce : ByteArray := method_15_code
def yX0_nonce : MethodName := ⟨RX0, "nonce", "(LPaddedDesk;[III)V"⟩
def dkwX0_nonce_2 : List UInt8 := [184, 0, 32, 43, 29, 6, 96, 184, 0, 32, 130, 182, 0, 35, 177]
abbrev dktX0_nonce_2 : List UInt8 := dkwX0_nonce_2 ++ []
def dkwX0_nonce_1 : List UInt8 := [184, 0, 32, 130, 43, 28, 5, 96, 184, 0, 32, 43, 29, 5, 96, 184, 0, 32, 130, 43, 28, 6, 96]
abbrev dktX0_nonce_1 : List UInt8 := dkwX0_nonce_1 ++ dktX0_nonce_2
def dkwX0_nonce_0 : List UInt8 := [42, 43, 28, 184, 0, 32, 43, 29, 184, 0, 32, 130, 43, 28, 4, 96, 184, 0, 32, 43, 29, 4, 96]
abbrev dktX0_nonce_0 : List UInt8 := dkwX0_nonce_0 ++ dktX0_nonce_1
theorem dksX0_nonce_0 : cX0_nonce.data.toList.drop 0 = dktX0_nonce_0 := by decide +kernel
theorem dksX0_nonce_1 : cX0_nonce.data.toList.drop 23 = dktX0_nonce_1 := dk_seg dksX0_nonce_0 23 rfl rfl
theorem dksX0_nonce_2 : cX0_nonce.data.toList.drop 46 = dktX0_nonce_2 := dk_seg dksX0_nonce_1 23 rfl rfl
theorem dX0_nonce_0 : decode cX0_nonce 0 = .ok (.aload_n 0, 1) := dk_42 (dk_at dksX0_nonce_0 0 rfl rfl)
theorem dX0_nonce_1 : decode cX0_nonce 1 = .ok (.aload_n 1, 1) := dk_43 (dk_at dksX0_nonce_0 1 rfl rfl)
theorem dX0_nonce_2 : decode cX0_nonce 2 = .ok (.iload_n 2, 1) := dk_28 (dk_at dksX0_nonce_0 2 rfl rfl)
theorem dX0_nonce_3 : decode cX0_nonce 3 = .ok (.invokestatic 32, 3) := dk_184 0 32 (dk_at dksX0_nonce_0 3 rfl rfl)
theorem dX0_nonce_6 : decode cX0_nonce 6 = .ok (.aload_n 1, 1) := dk_43 (dk_at dksX0_nonce_0 6 rfl rfl)
theorem dX0_nonce_7 : decode cX0_nonce 7 = .ok (.iload_n 3, 1) := dk_29 (dk_at dksX0_nonce_0 7 rfl rfl)
theorem dX0_nonce_8 : decode cX0_nonce 8 = .ok (.invokestatic 32, 3) := dk_184 0 32 (dk_at dksX0_nonce_0 8 rfl rfl)
theorem dX0_nonce_11 : decode cX0_nonce 11 = .ok (.ixor, 1) := dk_130 (dk_at dksX0_nonce_0 11 rfl rfl)
theorem dX0_nonce_12 : decode cX0_nonce 12 = .ok (.aload_n 1, 1) := dk_43 (dk_at dksX0_nonce_0 12 rfl rfl)
theorem dX0_nonce_13 : decode cX0_nonce 13 = .ok (.iload_n 2, 1) := dk_28 (dk_at dksX0_nonce_0 13 rfl rfl)
theorem dX0_nonce_14 : decode cX0_nonce 14 = .ok (.iconst 1, 1) := dk_4 (dk_at dksX0_nonce_0 14 rfl rfl)
theorem dX0_nonce_15 : decode cX0_nonce 15 = .ok (.iadd, 1) := dk_96 (dk_at dksX0_nonce_0 15 rfl rfl)
theorem dX0_nonce_16 : decode cX0_nonce 16 = .ok (.invokestatic 32, 3) := dk_184 0 32 (dk_at dksX0_nonce_0 16 rfl rfl)
theorem dX0_nonce_19 : decode cX0_nonce 19 = .ok (.aload_n 1, 1) := dk_43 (dk_at dksX0_nonce_0 19 rfl rfl)
theorem dX0_nonce_20 : decode cX0_nonce 20 = .ok (.iload_n 3, 1) := dk_29 (dk_at dksX0_nonce_0 20 rfl rfl)
theorem dX0_nonce_21 : decode cX0_nonce 21 = .ok (.iconst 1, 1) := dk_4 (dk_at dksX0_nonce_0 21 rfl rfl)
theorem dX0_nonce_22 : decode cX0_nonce 22 = .ok (.iadd, 1) := dk_96 (dk_at dksX0_nonce_0 22 rfl rfl)
theorem dX0_nonce_23 : decode cX0_nonce 23 = .ok (.invokestatic 32, 3) := dk_184 0 32 (dk_at dksX0_nonce_1 0 rfl rfl)
theorem dX0_nonce_26 : decode cX0_nonce 26 = .ok (.ixor, 1) := dk_130 (dk_at dksX0_nonce_1 3 rfl rfl)
theorem dX0_nonce_27 : decode cX0_nonce 27 = .ok (.aload_n 1, 1) := dk_43 (dk_at dksX0_nonce_1 4 rfl rfl)
theorem dX0_nonce_28 : decode cX0_nonce 28 = .ok (.iload_n 2, 1) := dk_28 (dk_at dksX0_nonce_1 5 rfl rfl)
theorem dX0_nonce_29 : decode cX0_nonce 29 = .ok (.iconst 2, 1) := dk_5 (dk_at dksX0_nonce_1 6 rfl rfl)
theorem dX0_nonce_30 : decode cX0_nonce 30 = .ok (.iadd, 1) := dk_96 (dk_at dksX0_nonce_1 7 rfl rfl)
theorem dX0_nonce_31 : decode cX0_nonce 31 = .ok (.invokestatic 32, 3) := dk_184 0 32 (dk_at dksX0_nonce_1 8 rfl rfl)
theorem dX0_nonce_34 : decode cX0_nonce 34 = .ok (.aload_n 1, 1) := dk_43 (dk_at dksX0_nonce_1 11 rfl rfl)
theorem dX0_nonce_35 : decode cX0_nonce 35 = .ok (.iload_n 3, 1) := dk_29 (dk_at dksX0_nonce_1 12 rfl rfl)
theorem dX0_nonce_36 : decode cX0_nonce 36 = .ok (.iconst 2, 1) := dk_5 (dk_at dksX0_nonce_1 13 rfl rfl)
theorem dX0_nonce_37 : decode cX0_nonce 37 = .ok (.iadd, 1) := dk_96 (dk_at dksX0_nonce_1 14 rfl rfl)
theorem dX0_nonce_38 : decode cX0_nonce 38 = .ok (.invokestatic 32, 3) := dk_184 0 32 (dk_at dksX0_nonce_1 15 rfl rfl)
theorem dX0_nonce_41 : decode cX0_nonce 41 = .ok (.ixor, 1) := dk_130 (dk_at dksX0_nonce_1 18 rfl rfl)
theorem dX0_nonce_42 : decode cX0_nonce 42 = .ok (.aload_n 1, 1) := dk_43 (dk_at dksX0_nonce_1 19 rfl rfl)
theorem dX0_nonce_43 : decode cX0_nonce 43 = .ok (.iload_n 2, 1) := dk_28 (dk_at dksX0_nonce_1 20 rfl rfl)
theorem dX0_nonce_44 : decode cX0_nonce 44 = .ok (.iconst 3, 1) := dk_6 (dk_at dksX0_nonce_1 21 rfl rfl)
theorem dX0_nonce_45 : decode cX0_nonce 45 = .ok (.iadd, 1) := dk_96 (dk_at dksX0_nonce_1 22 rfl rfl)
theorem dX0_nonce_46 : decode cX0_nonce 46 = .ok (.invokestatic 32, 3) := dk_184 0 32 (dk_at dksX0_nonce_2 0 rfl rfl)
theorem dX0_nonce_49 : decode cX0_nonce 49 = .ok (.aload_n 1, 1) := dk_43 (dk_at dksX0_nonce_2 3 rfl rfl)
theorem dX0_nonce_50 : decode cX0_nonce 50 = .ok (.iload_n 3, 1) := dk_29 (dk_at dksX0_nonce_2 4 rfl rfl)
theorem dX0_nonce_51 : decode cX0_nonce 51 = .ok (.iconst 3, 1) := dk_6 (dk_at dksX0_nonce_2 5 rfl rfl)
theorem dX0_nonce_52 : decode cX0_nonce 52 = .ok (.iadd, 1) := dk_96 (dk_at dksX0_nonce_2 6 rfl rfl)
theorem dX0_nonce_53 : decode cX0_nonce 53 = .ok (.invokestatic 32, 3) := dk_184 0 32 (dk_at dksX0_nonce_2 7 rfl rfl)
theorem dX0_nonce_56 : decode cX0_nonce 56 = .ok (.ixor, 1) := dk_130 (dk_at dksX0_nonce_2 10 rfl rfl)
theorem dX0_nonce_57 : decode cX0_nonce 57 = .ok (.invokevirtual 35, 3) := dk_182 0 35 (dk_at dksX0_nonce_2 11 rfl rfl)
theorem dX0_nonce_60 : decode cX0_nonce 60 = .ok (.return_, 1) := dk_177 (dk_at dksX0_nonce_2 14 rfl rfl)
theorem q9 : (Jvm.Cond.initialized "PaddedDeskLaw") ∈ lw_all := lw_g (lw_at lw_m1 0 rfl) rfl
theorem q37 : (Jvm.Cond.classLink "PaddedDeskLaw" (19 : Nat) "PaddedDesk") ∈ lw_all := lw_g (lw_at lw_m1 28 rfl) rfl
theorem q39 : (Jvm.Cond.methodLink "PaddedDeskLaw" (39 : Nat) ({ cls := "PaddedDesk", name := "<init>", desc := "()V" } : Jvm.MethodName)) ∈ lw_all := lw_g (lw_at lw_m1 30 rfl) rfl
theorem q68 : (Jvm.Cond.methodLink "PaddedDeskLaw" (52 : Nat) ({ cls := "PaddedDesk", name := "put", desc := "(IIII)Z" } : Jvm.MethodName)) ∈ lw_all := lw_g (lw_at lw_m1 59 rfl) rfl
theorem q75 : (Jvm.Cond.methodLink "PaddedDeskLaw" (60 : Nat) ({ cls := "PaddedDesk", name := "trim", desc := "(I)V" } : Jvm.MethodName)) ∈ lw_all := lw_g (lw_at lw_m1 66 rfl) rfl
theorem q84 : (Jvm.Cond.methodLink "PaddedDeskLaw" (44 : Nat) ({ cls := "PaddedDesk", name := "key", desc := "(IIIII)V" } : Jvm.MethodName)) ∈ lw_all := lw_g (lw_at lw_m1 75 rfl) rfl
theorem q88 : (Jvm.Cond.methodLink "PaddedDeskLaw" (56 : Nat) ({ cls := "PaddedDesk", name := "kind", desc := "(I)V" } : Jvm.MethodName)) ∈ lw_all := lw_g (lw_at lw_m1 79 rfl) rfl
theorem q92 : (Jvm.Cond.methodLink "PaddedDeskLaw" (82 : Nat) ({ cls := "PaddedDesk", name := "seal", desc := "(III)I" } : Jvm.MethodName)) ∈ lw_all := lw_g (lw_at lw_m1 83 rfl) rfl
theorem q676 : (Jvm.Cond.methodLink "PaddedDeskLaw" (18 : Nat) ({ cls := "PaddedDesk", name := "open", desc := "(I)I" } : Jvm.MethodName)) ∈ lw_all := lw_g (lw_at lw_m3 187 rfl) rfl
theorem q680 : (Jvm.Cond.methodLink "PaddedDeskLaw" (40 : Nat) ({ cls := "PaddedDesk", name := "spoil", desc := "(II)Z" } : Jvm.MethodName)) ∈ lw_all := lw_g (lw_at lw_m3 191 rfl) rfl
theorem q684 : (Jvm.Cond.methodLink "PaddedDeskLaw" (26 : Nat) ({ cls := "PaddedDesk", name := "sealed", desc := "(I)I" } : Jvm.MethodName)) ∈ lw_all := lw_g (lw_at lw_m3 195 rfl) rfl
theorem q688 : (Jvm.Cond.methodLink "PaddedDeskLaw" (23 : Nat) ({ cls := "PaddedDesk", name := "opened", desc := "(I)I" } : Jvm.MethodName)) ∈ lw_all := lw_g (lw_at lw_m3 199 rfl) rfl
theorem q692 : (Jvm.Cond.methodLink "PaddedDeskLaw" (32 : Nat) ({ cls := "PaddedDeskLaw", name := "cell", desc := "([II)I" } : Jvm.MethodName)) ∈ lw_all := lw_g (lw_at lw_m3 203 rfl) rfl
theorem q693 : (Jvm.Cond.static ({ cls := "PaddedDeskLaw", name := "cell", desc := "([II)I" } : Jvm.MethodName)) ∈ lw_all := lw_g (lw_at lw_m3 204 rfl) rfl
theorem q694 : (Jvm.Cond.code ({ cls := "PaddedDeskLaw", name := "cell", desc := "([II)I" } : Jvm.MethodName) method_2_code (2 : Nat) (Option.some Jvm.ClassFile.FieldType.int)) ∈ lw_all := lw_g (lw_at lw_m3 205 rfl) rfl
theorem q695 : (Jvm.Cond.methodLink "PaddedDeskLaw" (29 : Nat) ({ cls := "PaddedDeskLaw", name := "bare", desc := "(I)I" } : Jvm.MethodName)) ∈ lw_all := lw_g (lw_at lw_m3 206 rfl) rfl
theorem q696 : (Jvm.Cond.static ({ cls := "PaddedDeskLaw", name := "bare", desc := "(I)I" } : Jvm.MethodName)) ∈ lw_all := lw_g (lw_at lw_m3 207 rfl) rfl
theorem q697 : (Jvm.Cond.code ({ cls := "PaddedDeskLaw", name := "bare", desc := "(I)I" } : Jvm.MethodName) method_3_code (1 : Nat) (Option.some Jvm.ClassFile.FieldType.int)) ∈ lw_all := lw_g (lw_at lw_m3 208 rfl) rfl
theorem q698 : (Jvm.Cond.constant "PaddedDeskLaw" (9 : Nat) (2147483647 : Int32)) ∈ lw_all := lw_g (lw_at lw_m3 209 rfl) rfl
theorem q699 : (Jvm.Cond.methodLink "PaddedDeskLaw" (48 : Nat) ({ cls := "PaddedDeskLaw", name := "word", desc := "([III)V" } : Jvm.MethodName)) ∈ lw_all := lw_g (lw_at lw_m3 210 rfl) rfl
theorem q700 : (Jvm.Cond.static ({ cls := "PaddedDeskLaw", name := "word", desc := "([III)V" } : Jvm.MethodName)) ∈ lw_all := lw_g (lw_at lw_m3 211 rfl) rfl
theorem q701 : (Jvm.Cond.code ({ cls := "PaddedDeskLaw", name := "word", desc := "([III)V" } : Jvm.MethodName) method_4_code (4 : Nat) (Option.none : Option Jvm.ClassFile.FieldType)) ∈ lw_all := lw_g (lw_at lw_m3 212 rfl) rfl
theorem q702 : (Jvm.Cond.methodLink "PaddedDeskLaw" (70 : Nat) ({ cls := "PaddedDeskLaw", name := "box", desc := "()[I" } : Jvm.MethodName)) ∈ lw_all := lw_g (lw_at lw_m3 213 rfl) rfl
theorem q703 : (Jvm.Cond.static ({ cls := "PaddedDeskLaw", name := "box", desc := "()[I" } : Jvm.MethodName)) ∈ lw_all := lw_g (lw_at lw_m3 214 rfl) rfl
theorem q704 : (Jvm.Cond.code ({ cls := "PaddedDeskLaw", name := "box", desc := "()[I" } : Jvm.MethodName) method_6_code (7 : Nat) (Option.some (Jvm.ClassFile.FieldType.array Jvm.ClassFile.FieldType.int))) ∈ lw_all := lw_g (lw_at lw_m3 215 rfl) rfl
theorem q705 : (Jvm.Cond.methodLink "PaddedDeskLaw" (10 : Nat) ({ cls := "PaddedDeskLaw", name := "twice", desc := "(I)I" } : Jvm.MethodName)) ∈ lw_all := lw_g (lw_at lw_m3 216 rfl) rfl
theorem q706 : (Jvm.Cond.static ({ cls := "PaddedDeskLaw", name := "twice", desc := "(I)I" } : Jvm.MethodName)) ∈ lw_all := lw_g (lw_at lw_m3 217 rfl) rfl
theorem q707 : (Jvm.Cond.code ({ cls := "PaddedDeskLaw", name := "twice", desc := "(I)I" } : Jvm.MethodName) method_5_code (1 : Nat) (Option.some Jvm.ClassFile.FieldType.int)) ∈ lw_all := lw_g (lw_at lw_m3 218 rfl) rfl
theorem q708 : (Jvm.Cond.methodLink "PaddedDeskLaw" (74 : Nat) ({ cls := "PaddedDeskLaw", name := "rounds", desc := "([II[I)[I" } : Jvm.MethodName)) ∈ lw_all := lw_g (lw_at lw_m3 219 rfl) rfl
theorem q709 : (Jvm.Cond.static ({ cls := "PaddedDeskLaw", name := "rounds", desc := "([II[I)[I" } : Jvm.MethodName)) ∈ lw_all := lw_g (lw_at lw_m3 220 rfl) rfl
theorem q710 : (Jvm.Cond.code ({ cls := "PaddedDeskLaw", name := "rounds", desc := "([II[I)[I" } : Jvm.MethodName) method_7_code (8 : Nat) (Option.some (Jvm.ClassFile.FieldType.array Jvm.ClassFile.FieldType.int))) ∈ lw_all := lw_g (lw_at lw_m3 221 rfl) rfl
theorem q711 : (Jvm.Cond.methodLink "PaddedDeskLaw" (78 : Nat) ({ cls := "PaddedDeskLaw", name := "block", desc := "([I[I[I)[I" } : Jvm.MethodName)) ∈ lw_all := lw_g (lw_at lw_m3 222 rfl) rfl
theorem q712 : (Jvm.Cond.static ({ cls := "PaddedDeskLaw", name := "block", desc := "([I[I[I)[I" } : Jvm.MethodName)) ∈ lw_all := lw_g (lw_at lw_m3 223 rfl) rfl
theorem q713 : (Jvm.Cond.code ({ cls := "PaddedDeskLaw", name := "block", desc := "([I[I[I)[I" } : Jvm.MethodName) method_8_code (12 : Nat) (Option.some (Jvm.ClassFile.FieldType.array Jvm.ClassFile.FieldType.int))) ∈ lw_all := lw_g (lw_at lw_m3 224 rfl) rfl
theorem q714 : (Jvm.Cond.methodLink "PaddedDeskLaw" (66 : Nat) ({ cls := "PaddedDeskLaw", name := "padded", desc := "([IIII)[I" } : Jvm.MethodName)) ∈ lw_all := lw_g (lw_at lw_m3 225 rfl) rfl
theorem q715 : (Jvm.Cond.static ({ cls := "PaddedDeskLaw", name := "padded", desc := "([IIII)[I" } : Jvm.MethodName)) ∈ lw_all := lw_g (lw_at lw_m3 226 rfl) rfl
theorem q716 : (Jvm.Cond.code ({ cls := "PaddedDeskLaw", name := "padded", desc := "([IIII)[I" } : Jvm.MethodName) method_9_code (6 : Nat) (Option.some (Jvm.ClassFile.FieldType.array Jvm.ClassFile.FieldType.int))) ∈ lw_all := lw_g (lw_at lw_m3 227 rfl) rfl
theorem q717 : (Jvm.Cond.methodLink "PaddedDeskLaw" (90 : Nat) ({ cls := "PaddedDeskLaw", name := "opened", desc := "(LPaddedDesk;[IIII[I)[I" } : Jvm.MethodName)) ∈ lw_all := lw_g (lw_at lw_m3 228 rfl) rfl
theorem q718 : (Jvm.Cond.static ({ cls := "PaddedDeskLaw", name := "opened", desc := "(LPaddedDesk;[IIII[I)[I" } : Jvm.MethodName)) ∈ lw_all := lw_g (lw_at lw_m3 229 rfl) rfl
theorem q719 : (Jvm.Cond.code ({ cls := "PaddedDeskLaw", name := "opened", desc := "(LPaddedDesk;[IIII[I)[I" } : Jvm.MethodName) method_11_code (10 : Nat) (Option.some (Jvm.ClassFile.FieldType.array Jvm.ClassFile.FieldType.int))) ∈ lw_all := lw_g (lw_at lw_m3 230 rfl) rfl
theorem q720 : (Jvm.Cond.methodLink "PaddedDeskLaw" (14 : Nat) ({ cls := "PaddedDeskLaw", name := "left", desc := "([II)I" } : Jvm.MethodName)) ∈ lw_all := lw_g (lw_at lw_m3 231 rfl) rfl
theorem q721 : (Jvm.Cond.static ({ cls := "PaddedDeskLaw", name := "left", desc := "([II)I" } : Jvm.MethodName)) ∈ lw_all := lw_g (lw_at lw_m3 232 rfl) rfl
theorem q722 : (Jvm.Cond.code ({ cls := "PaddedDeskLaw", name := "left", desc := "([II)I" } : Jvm.MethodName) method_10_code (6 : Nat) (Option.some Jvm.ClassFile.FieldType.int)) ∈ lw_all := lw_g (lw_at lw_m3 233 rfl) rfl
theorem q723 : (Jvm.Cond.methodLink "PaddedDeskLaw" (97 : Nat) ({ cls := "PaddedDeskLaw", name := "lastHarmed", desc := "(LPaddedDesk;[III)Z" } : Jvm.MethodName)) ∈ lw_all := lw_g (lw_at lw_m3 234 rfl) rfl
theorem q724 : (Jvm.Cond.static ({ cls := "PaddedDeskLaw", name := "lastHarmed", desc := "(LPaddedDesk;[III)Z" } : Jvm.MethodName)) ∈ lw_all := lw_g (lw_at lw_m3 235 rfl) rfl
theorem q725 : (Jvm.Cond.code ({ cls := "PaddedDeskLaw", name := "lastHarmed", desc := "(LPaddedDesk;[III)Z" } : Jvm.MethodName) method_12_code (6 : Nat) (Option.some Jvm.ClassFile.FieldType.boolean)) ∈ lw_all := lw_g (lw_at lw_m3 236 rfl) rfl
theorem q726 : (Jvm.Cond.methodLink "PaddedDeskLaw" (93 : Nat) ({ cls := "PaddedDeskLaw", name := "with", desc := "([III)[I" } : Jvm.MethodName)) ∈ lw_all := lw_g (lw_at lw_m3 237 rfl) rfl
theorem q727 : (Jvm.Cond.static ({ cls := "PaddedDeskLaw", name := "with", desc := "([III)[I" } : Jvm.MethodName)) ∈ lw_all := lw_g (lw_at lw_m3 238 rfl) rfl
theorem q728 : (Jvm.Cond.code ({ cls := "PaddedDeskLaw", name := "with", desc := "([III)[I" } : Jvm.MethodName) method_13_code (5 : Nat) (Option.some (Jvm.ClassFile.FieldType.array Jvm.ClassFile.FieldType.int))) ∈ lw_all := lw_g (lw_at lw_m3 239 rfl) rfl
theorem q729 : (Jvm.Cond.methodLink "PaddedDeskLaw" (86 : Nat) ({ cls := "PaddedDeskLaw", name := "isSealed", desc := "(LPaddedDesk;[II)Z" } : Jvm.MethodName)) ∈ lw_all := lw_g (lw_at lw_m4 0 rfl) rfl
theorem q730 : (Jvm.Cond.static ({ cls := "PaddedDeskLaw", name := "isSealed", desc := "(LPaddedDesk;[II)Z" } : Jvm.MethodName)) ∈ lw_all := lw_g (lw_at lw_m4 1 rfl) rfl
theorem q731 : (Jvm.Cond.code ({ cls := "PaddedDeskLaw", name := "isSealed", desc := "(LPaddedDesk;[II)Z" } : Jvm.MethodName) method_14_code (4 : Nat) (Option.some Jvm.ClassFile.FieldType.boolean)) ∈ lw_all := lw_g (lw_at lw_m4 2 rfl) rfl
theorem q732 : (Jvm.Cond.methodLink "PaddedDeskLaw" (63 : Nat) ({ cls := "PaddedDeskLaw", name := "nonce", desc := "(LPaddedDesk;[III)V" } : Jvm.MethodName)) ∈ lw_all := lw_g (lw_at lw_m4 3 rfl) rfl
theorem q733 : (Jvm.Cond.static ({ cls := "PaddedDeskLaw", name := "nonce", desc := "(LPaddedDesk;[III)V" } : Jvm.MethodName)) ∈ lw_all := lw_g (lw_at lw_m4 4 rfl) rfl
theorem q734 : (Jvm.Cond.code ({ cls := "PaddedDeskLaw", name := "nonce", desc := "(LPaddedDesk;[III)V" } : Jvm.MethodName) method_15_code (4 : Nat) (Option.none : Option Jvm.ClassFile.FieldType)) ∈ lw_all := lw_g (lw_at lw_m4 5 rfl) rfl
theorem q735 : (Jvm.Cond.methodLink "PaddedDeskLaw" (35 : Nat) ({ cls := "PaddedDesk", name := "nonce", desc := "(IIII)V" } : Jvm.MethodName)) ∈ lw_all := lw_g (lw_at lw_m4 6 rfl) rfl
/-! PaddedDesk -/
set_option maxRecDepth 100000
def RX1 : String := "PaddedDesk"
def TX1 : u_T := fun k => match k with
  | 0 => ("PaddedDesk", "text", "[B", true)
  | 1 => ("PaddedDesk", "size", "I", false)
  | 2 => ("PaddedDesk", "key", "[B", true)
  | 3 => ("PaddedDesk", "nonce", "[B", true)
  | 4 => ("PaddedDesk", "kind", "I", false)
  | 5 => ("PaddedDesk", "sealed", "[B", false)
  | _ => ("PaddedDesk", "opened", "[B", false)
def tyX1 : Nat → FieldType := fun k => match k with
  | 0 => .array .byte
  | 1 => .int
  | 2 => .array .byte
  | 3 => .array .byte
  | 4 => .int
  | 5 => .array .byte
  | _ => .array .byte
abbrev wsX10 : List Cond := u_ws RX1 TX1 7
theorem nmX1 : ∀ a, a < 7 → ∀ b, b < 7 → a ≠ b → (TX1 a).2.1 ≠ (TX1 b).2.1 := by decide +kernel
theorem tyX1_ok : ∀ k, k < 7 → parseFieldDescriptor (TX1 k).2.2.1 = some (tyX1 k) := by decide +kernel
abbrev cX1_init : ByteArray := prog_21_method_1_code
def yX1_init : MethodName := ⟨RX1, "<init>", "()V"⟩
def dkwX1_init_1 : List UInt8 := [188, 8, 181, 0, 16, 42, 3, 188, 8, 181, 0, 19, 42, 3, 188, 8, 181, 0, 22, 177]
abbrev dktX1_init_1 : List UInt8 := dkwX1_init_1 ++ []
def dkwX1_init_0 : List UInt8 := [42, 183, 0, 1, 42, 17, 1, 0, 188, 8, 181, 0, 7, 42, 16, 32, 188, 8, 181, 0, 13, 42, 16, 16]
abbrev dktX1_init_0 : List UInt8 := dkwX1_init_0 ++ dktX1_init_1
theorem dksX1_init_0 : cX1_init.data.toList.drop 0 = dktX1_init_0 := by decide +kernel
theorem dksX1_init_1 : cX1_init.data.toList.drop 24 = dktX1_init_1 := dk_seg dksX1_init_0 24 rfl rfl
theorem dX1_init_0 : decode cX1_init 0 = .ok (.aload_n 0, 1) := dk_42 (dk_at dksX1_init_0 0 rfl rfl)
theorem dX1_init_1 : decode cX1_init 1 = .ok (.invokespecial 1, 3) := dk_183 0 1 (dk_at dksX1_init_0 1 rfl rfl)
theorem dX1_init_4 : decode cX1_init 4 = .ok (.aload_n 0, 1) := dk_42 (dk_at dksX1_init_0 4 rfl rfl)
theorem dX1_init_5 : decode cX1_init 5 = .ok (.sipush 256, 3) := dk_17 1 0 (dk_at dksX1_init_0 5 rfl rfl)
theorem dX1_init_8 : decode cX1_init 8 = .ok (.newarray .byte, 2) := dk_188_8 (dk_at dksX1_init_0 8 rfl rfl)
theorem dX1_init_10 : decode cX1_init 10 = .ok (.putfield 7, 3) := dk_181 0 7 (dk_at dksX1_init_0 10 rfl rfl)
theorem dX1_init_13 : decode cX1_init 13 = .ok (.aload_n 0, 1) := dk_42 (dk_at dksX1_init_0 13 rfl rfl)
theorem dX1_init_14 : decode cX1_init 14 = .ok (.bipush 32, 2) := dk_16 32 (dk_at dksX1_init_0 14 rfl rfl)
theorem dX1_init_16 : decode cX1_init 16 = .ok (.newarray .byte, 2) := dk_188_8 (dk_at dksX1_init_0 16 rfl rfl)
theorem dX1_init_18 : decode cX1_init 18 = .ok (.putfield 13, 3) := dk_181 0 13 (dk_at dksX1_init_0 18 rfl rfl)
theorem dX1_init_21 : decode cX1_init 21 = .ok (.aload_n 0, 1) := dk_42 (dk_at dksX1_init_0 21 rfl rfl)
theorem dX1_init_22 : decode cX1_init 22 = .ok (.bipush 16, 2) := dk_16 16 (dk_at dksX1_init_0 22 rfl rfl)
theorem dX1_init_24 : decode cX1_init 24 = .ok (.newarray .byte, 2) := dk_188_8 (dk_at dksX1_init_1 0 rfl rfl)
theorem dX1_init_26 : decode cX1_init 26 = .ok (.putfield 16, 3) := dk_181 0 16 (dk_at dksX1_init_1 2 rfl rfl)
theorem dX1_init_29 : decode cX1_init 29 = .ok (.aload_n 0, 1) := dk_42 (dk_at dksX1_init_1 5 rfl rfl)
theorem dX1_init_30 : decode cX1_init 30 = .ok (.iconst 0, 1) := dk_3 (dk_at dksX1_init_1 6 rfl rfl)
theorem dX1_init_31 : decode cX1_init 31 = .ok (.newarray .byte, 2) := dk_188_8 (dk_at dksX1_init_1 7 rfl rfl)
theorem dX1_init_33 : decode cX1_init 33 = .ok (.putfield 19, 3) := dk_181 0 19 (dk_at dksX1_init_1 9 rfl rfl)
theorem dX1_init_36 : decode cX1_init 36 = .ok (.aload_n 0, 1) := dk_42 (dk_at dksX1_init_1 12 rfl rfl)
theorem dX1_init_37 : decode cX1_init 37 = .ok (.iconst 0, 1) := dk_3 (dk_at dksX1_init_1 13 rfl rfl)
theorem dX1_init_38 : decode cX1_init 38 = .ok (.newarray .byte, 2) := dk_188_8 (dk_at dksX1_init_1 14 rfl rfl)
theorem dX1_init_40 : decode cX1_init 40 = .ok (.putfield 22, 3) := dk_181 0 22 (dk_at dksX1_init_1 16 rfl rfl)
theorem dX1_init_43 : decode cX1_init 43 = .ok (.return_, 1) := dk_177 (dk_at dksX1_init_1 19 rfl rfl)
abbrev cX1_put : ByteArray := prog_21_method_2_code
def yX1_put : MethodName := ⟨RX1, "put", "(IIII)Z"⟩
def dkwX1_put_3 : List UInt8 := [96, 21, 4, 184, 0, 29, 42, 89, 180, 0, 25, 16, 16, 96, 181, 0, 25, 4, 172]
abbrev dktX1_put_3 : List UInt8 := dkwX1_put_3 ++ []
def dkwX1_put_2 : List UInt8 := [180, 0, 7, 42, 180, 0, 25, 16, 8, 96, 29, 184, 0, 29, 42, 180, 0, 7, 42, 180, 0, 25, 16, 12]
abbrev dktX1_put_2 : List UInt8 := dkwX1_put_2 ++ dktX1_put_3
def dkwX1_put_1 : List UInt8 := [180, 0, 25, 27, 184, 0, 29, 42, 180, 0, 7, 42, 180, 0, 25, 7, 96, 28, 184, 0, 29, 42]
abbrev dktX1_put_1 : List UInt8 := dkwX1_put_1 ++ dktX1_put_2
def dkwX1_put_0 : List UInt8 := [42, 180, 0, 25, 42, 180, 0, 7, 190, 16, 16, 100, 164, 0, 5, 3, 172, 42, 180, 0, 7, 42]
abbrev dktX1_put_0 : List UInt8 := dkwX1_put_0 ++ dktX1_put_1
theorem dksX1_put_0 : cX1_put.data.toList.drop 0 = dktX1_put_0 := by decide +kernel
theorem dksX1_put_1 : cX1_put.data.toList.drop 22 = dktX1_put_1 := dk_seg dksX1_put_0 22 rfl rfl
theorem dksX1_put_2 : cX1_put.data.toList.drop 44 = dktX1_put_2 := dk_seg dksX1_put_1 22 rfl rfl
theorem dksX1_put_3 : cX1_put.data.toList.drop 68 = dktX1_put_3 := dk_seg dksX1_put_2 24 rfl rfl
theorem dX1_put_0 : decode cX1_put 0 = .ok (.aload_n 0, 1) := dk_42 (dk_at dksX1_put_0 0 rfl rfl)
theorem dX1_put_1 : decode cX1_put 1 = .ok (.getfield 25, 3) := dk_180 0 25 (dk_at dksX1_put_0 1 rfl rfl)
theorem dX1_put_4 : decode cX1_put 4 = .ok (.aload_n 0, 1) := dk_42 (dk_at dksX1_put_0 4 rfl rfl)
theorem dX1_put_5 : decode cX1_put 5 = .ok (.getfield 7, 3) := dk_180 0 7 (dk_at dksX1_put_0 5 rfl rfl)
theorem dX1_put_8 : decode cX1_put 8 = .ok (.arraylength, 1) := dk_190 (dk_at dksX1_put_0 8 rfl rfl)
theorem dX1_put_9 : decode cX1_put 9 = .ok (.bipush 16, 2) := dk_16 16 (dk_at dksX1_put_0 9 rfl rfl)
theorem dX1_put_11 : decode cX1_put 11 = .ok (.isub, 1) := dk_100 (dk_at dksX1_put_0 11 rfl rfl)
theorem dX1_put_12 : decode cX1_put 12 = .ok (.if_icmp .le 5, 3) := dk_164 0 5 (dk_at dksX1_put_0 12 rfl rfl)
theorem dX1_put_15 : decode cX1_put 15 = .ok (.iconst 0, 1) := dk_3 (dk_at dksX1_put_0 15 rfl rfl)
theorem dX1_put_16 : decode cX1_put 16 = .ok (.ireturn, 1) := dk_172 (dk_at dksX1_put_0 16 rfl rfl)
theorem dX1_put_17 : decode cX1_put 17 = .ok (.aload_n 0, 1) := dk_42 (dk_at dksX1_put_0 17 rfl rfl)
theorem dX1_put_18 : decode cX1_put 18 = .ok (.getfield 7, 3) := dk_180 0 7 (dk_at dksX1_put_0 18 rfl rfl)
theorem dX1_put_21 : decode cX1_put 21 = .ok (.aload_n 0, 1) := dk_42 (dk_at dksX1_put_0 21 rfl rfl)
theorem dX1_put_22 : decode cX1_put 22 = .ok (.getfield 25, 3) := dk_180 0 25 (dk_at dksX1_put_1 0 rfl rfl)
theorem dX1_put_25 : decode cX1_put 25 = .ok (.iload_n 1, 1) := dk_27 (dk_at dksX1_put_1 3 rfl rfl)
theorem dX1_put_26 : decode cX1_put 26 = .ok (.invokestatic 29, 3) := dk_184 0 29 (dk_at dksX1_put_1 4 rfl rfl)
theorem dX1_put_29 : decode cX1_put 29 = .ok (.aload_n 0, 1) := dk_42 (dk_at dksX1_put_1 7 rfl rfl)
theorem dX1_put_30 : decode cX1_put 30 = .ok (.getfield 7, 3) := dk_180 0 7 (dk_at dksX1_put_1 8 rfl rfl)
theorem dX1_put_33 : decode cX1_put 33 = .ok (.aload_n 0, 1) := dk_42 (dk_at dksX1_put_1 11 rfl rfl)
theorem dX1_put_34 : decode cX1_put 34 = .ok (.getfield 25, 3) := dk_180 0 25 (dk_at dksX1_put_1 12 rfl rfl)
theorem dX1_put_37 : decode cX1_put 37 = .ok (.iconst 4, 1) := dk_7 (dk_at dksX1_put_1 15 rfl rfl)
theorem dX1_put_38 : decode cX1_put 38 = .ok (.iadd, 1) := dk_96 (dk_at dksX1_put_1 16 rfl rfl)
theorem dX1_put_39 : decode cX1_put 39 = .ok (.iload_n 2, 1) := dk_28 (dk_at dksX1_put_1 17 rfl rfl)
theorem dX1_put_40 : decode cX1_put 40 = .ok (.invokestatic 29, 3) := dk_184 0 29 (dk_at dksX1_put_1 18 rfl rfl)
theorem dX1_put_43 : decode cX1_put 43 = .ok (.aload_n 0, 1) := dk_42 (dk_at dksX1_put_1 21 rfl rfl)
theorem dX1_put_44 : decode cX1_put 44 = .ok (.getfield 7, 3) := dk_180 0 7 (dk_at dksX1_put_2 0 rfl rfl)
theorem dX1_put_47 : decode cX1_put 47 = .ok (.aload_n 0, 1) := dk_42 (dk_at dksX1_put_2 3 rfl rfl)
theorem dX1_put_48 : decode cX1_put 48 = .ok (.getfield 25, 3) := dk_180 0 25 (dk_at dksX1_put_2 4 rfl rfl)
theorem dX1_put_51 : decode cX1_put 51 = .ok (.bipush 8, 2) := dk_16 8 (dk_at dksX1_put_2 7 rfl rfl)
theorem dX1_put_53 : decode cX1_put 53 = .ok (.iadd, 1) := dk_96 (dk_at dksX1_put_2 9 rfl rfl)
theorem dX1_put_54 : decode cX1_put 54 = .ok (.iload_n 3, 1) := dk_29 (dk_at dksX1_put_2 10 rfl rfl)
theorem dX1_put_55 : decode cX1_put 55 = .ok (.invokestatic 29, 3) := dk_184 0 29 (dk_at dksX1_put_2 11 rfl rfl)
theorem dX1_put_58 : decode cX1_put 58 = .ok (.aload_n 0, 1) := dk_42 (dk_at dksX1_put_2 14 rfl rfl)
theorem dX1_put_59 : decode cX1_put 59 = .ok (.getfield 7, 3) := dk_180 0 7 (dk_at dksX1_put_2 15 rfl rfl)
theorem dX1_put_62 : decode cX1_put 62 = .ok (.aload_n 0, 1) := dk_42 (dk_at dksX1_put_2 18 rfl rfl)
theorem dX1_put_63 : decode cX1_put 63 = .ok (.getfield 25, 3) := dk_180 0 25 (dk_at dksX1_put_2 19 rfl rfl)
theorem dX1_put_66 : decode cX1_put 66 = .ok (.bipush 12, 2) := dk_16 12 (dk_at dksX1_put_2 22 rfl rfl)
theorem dX1_put_68 : decode cX1_put 68 = .ok (.iadd, 1) := dk_96 (dk_at dksX1_put_3 0 rfl rfl)
theorem dX1_put_69 : decode cX1_put 69 = .ok (.iload 4, 2) := dk_21 4 (dk_at dksX1_put_3 1 rfl rfl)
theorem dX1_put_71 : decode cX1_put 71 = .ok (.invokestatic 29, 3) := dk_184 0 29 (dk_at dksX1_put_3 3 rfl rfl)
theorem dX1_put_74 : decode cX1_put 74 = .ok (.aload_n 0, 1) := dk_42 (dk_at dksX1_put_3 6 rfl rfl)
theorem dX1_put_75 : decode cX1_put 75 = .ok (.dup, 1) := dk_89 (dk_at dksX1_put_3 7 rfl rfl)
theorem dX1_put_76 : decode cX1_put 76 = .ok (.getfield 25, 3) := dk_180 0 25 (dk_at dksX1_put_3 8 rfl rfl)
theorem dX1_put_79 : decode cX1_put 79 = .ok (.bipush 16, 2) := dk_16 16 (dk_at dksX1_put_3 11 rfl rfl)
theorem dX1_put_81 : decode cX1_put 81 = .ok (.iadd, 1) := dk_96 (dk_at dksX1_put_3 13 rfl rfl)
theorem dX1_put_82 : decode cX1_put 82 = .ok (.putfield 25, 3) := dk_181 0 25 (dk_at dksX1_put_3 14 rfl rfl)
theorem dX1_put_85 : decode cX1_put 85 = .ok (.iconst 1, 1) := dk_4 (dk_at dksX1_put_3 17 rfl rfl)
theorem dX1_put_86 : decode cX1_put 86 = .ok (.ireturn, 1) := dk_172 (dk_at dksX1_put_3 18 rfl rfl)
abbrev cX1_word : ByteArray := prog_21_method_3_code
def yX1_word : MethodName := ⟨RX1, "word", "([BII)V"⟩
def dkwX1_word_1 : List UInt8 := [16, 8, 122, 145, 84, 42, 27, 6, 96, 28, 145, 84, 177]
abbrev dktX1_word_1 : List UInt8 := dkwX1_word_1 ++ []
def dkwX1_word_0 : List UInt8 := [42, 27, 28, 16, 24, 122, 145, 84, 42, 27, 4, 96, 28, 16, 16, 122, 145, 84, 42, 27, 5, 96, 28]
abbrev dktX1_word_0 : List UInt8 := dkwX1_word_0 ++ dktX1_word_1
theorem dksX1_word_0 : cX1_word.data.toList.drop 0 = dktX1_word_0 := by decide +kernel
theorem dksX1_word_1 : cX1_word.data.toList.drop 23 = dktX1_word_1 := dk_seg dksX1_word_0 23 rfl rfl
theorem dX1_word_0 : decode cX1_word 0 = .ok (.aload_n 0, 1) := dk_42 (dk_at dksX1_word_0 0 rfl rfl)
theorem dX1_word_1 : decode cX1_word 1 = .ok (.iload_n 1, 1) := dk_27 (dk_at dksX1_word_0 1 rfl rfl)
theorem dX1_word_2 : decode cX1_word 2 = .ok (.iload_n 2, 1) := dk_28 (dk_at dksX1_word_0 2 rfl rfl)
theorem dX1_word_3 : decode cX1_word 3 = .ok (.bipush 24, 2) := dk_16 24 (dk_at dksX1_word_0 3 rfl rfl)
theorem dX1_word_5 : decode cX1_word 5 = .ok (.ishr, 1) := dk_122 (dk_at dksX1_word_0 5 rfl rfl)
theorem dX1_word_6 : decode cX1_word 6 = .ok (.i2b, 1) := dk_145 (dk_at dksX1_word_0 6 rfl rfl)
theorem dX1_word_7 : decode cX1_word 7 = .ok (.bastore, 1) := dk_84 (dk_at dksX1_word_0 7 rfl rfl)
theorem dX1_word_8 : decode cX1_word 8 = .ok (.aload_n 0, 1) := dk_42 (dk_at dksX1_word_0 8 rfl rfl)
theorem dX1_word_9 : decode cX1_word 9 = .ok (.iload_n 1, 1) := dk_27 (dk_at dksX1_word_0 9 rfl rfl)
theorem dX1_word_10 : decode cX1_word 10 = .ok (.iconst 1, 1) := dk_4 (dk_at dksX1_word_0 10 rfl rfl)
theorem dX1_word_11 : decode cX1_word 11 = .ok (.iadd, 1) := dk_96 (dk_at dksX1_word_0 11 rfl rfl)
theorem dX1_word_12 : decode cX1_word 12 = .ok (.iload_n 2, 1) := dk_28 (dk_at dksX1_word_0 12 rfl rfl)
theorem dX1_word_13 : decode cX1_word 13 = .ok (.bipush 16, 2) := dk_16 16 (dk_at dksX1_word_0 13 rfl rfl)
theorem dX1_word_15 : decode cX1_word 15 = .ok (.ishr, 1) := dk_122 (dk_at dksX1_word_0 15 rfl rfl)
theorem dX1_word_16 : decode cX1_word 16 = .ok (.i2b, 1) := dk_145 (dk_at dksX1_word_0 16 rfl rfl)
theorem dX1_word_17 : decode cX1_word 17 = .ok (.bastore, 1) := dk_84 (dk_at dksX1_word_0 17 rfl rfl)
theorem dX1_word_18 : decode cX1_word 18 = .ok (.aload_n 0, 1) := dk_42 (dk_at dksX1_word_0 18 rfl rfl)
theorem dX1_word_19 : decode cX1_word 19 = .ok (.iload_n 1, 1) := dk_27 (dk_at dksX1_word_0 19 rfl rfl)
theorem dX1_word_20 : decode cX1_word 20 = .ok (.iconst 2, 1) := dk_5 (dk_at dksX1_word_0 20 rfl rfl)
theorem dX1_word_21 : decode cX1_word 21 = .ok (.iadd, 1) := dk_96 (dk_at dksX1_word_0 21 rfl rfl)
theorem dX1_word_22 : decode cX1_word 22 = .ok (.iload_n 2, 1) := dk_28 (dk_at dksX1_word_0 22 rfl rfl)
theorem dX1_word_23 : decode cX1_word 23 = .ok (.bipush 8, 2) := dk_16 8 (dk_at dksX1_word_1 0 rfl rfl)
theorem dX1_word_25 : decode cX1_word 25 = .ok (.ishr, 1) := dk_122 (dk_at dksX1_word_1 2 rfl rfl)
theorem dX1_word_26 : decode cX1_word 26 = .ok (.i2b, 1) := dk_145 (dk_at dksX1_word_1 3 rfl rfl)
theorem dX1_word_27 : decode cX1_word 27 = .ok (.bastore, 1) := dk_84 (dk_at dksX1_word_1 4 rfl rfl)
theorem dX1_word_28 : decode cX1_word 28 = .ok (.aload_n 0, 1) := dk_42 (dk_at dksX1_word_1 5 rfl rfl)
theorem dX1_word_29 : decode cX1_word 29 = .ok (.iload_n 1, 1) := dk_27 (dk_at dksX1_word_1 6 rfl rfl)
theorem dX1_word_30 : decode cX1_word 30 = .ok (.iconst 3, 1) := dk_6 (dk_at dksX1_word_1 7 rfl rfl)
theorem dX1_word_31 : decode cX1_word 31 = .ok (.iadd, 1) := dk_96 (dk_at dksX1_word_1 8 rfl rfl)
theorem dX1_word_32 : decode cX1_word 32 = .ok (.iload_n 2, 1) := dk_28 (dk_at dksX1_word_1 9 rfl rfl)
theorem dX1_word_33 : decode cX1_word 33 = .ok (.i2b, 1) := dk_145 (dk_at dksX1_word_1 10 rfl rfl)
theorem dX1_word_34 : decode cX1_word 34 = .ok (.bastore, 1) := dk_84 (dk_at dksX1_word_1 11 rfl rfl)
theorem dX1_word_35 : decode cX1_word 35 = .ok (.return_, 1) := dk_177 (dk_at dksX1_word_1 12 rfl rfl)
abbrev cX1_trim : ByteArray := prog_21_method_4_code
def yX1_trim : MethodName := ⟨RX1, "trim", "(I)V"⟩
def dkwX1_trim_0 : List UInt8 := [42, 42, 27, 182, 0, 33, 181, 0, 25, 177]
abbrev dktX1_trim_0 : List UInt8 := dkwX1_trim_0 ++ []
theorem dksX1_trim_0 : cX1_trim.data.toList.drop 0 = dktX1_trim_0 := by decide +kernel
theorem dX1_trim_0 : decode cX1_trim 0 = .ok (.aload_n 0, 1) := dk_42 (dk_at dksX1_trim_0 0 rfl rfl)
theorem dX1_trim_1 : decode cX1_trim 1 = .ok (.aload_n 0, 1) := dk_42 (dk_at dksX1_trim_0 1 rfl rfl)
theorem dX1_trim_2 : decode cX1_trim 2 = .ok (.iload_n 1, 1) := dk_27 (dk_at dksX1_trim_0 2 rfl rfl)
theorem dX1_trim_3 : decode cX1_trim 3 = .ok (.invokevirtual 33, 3) := dk_182 0 33 (dk_at dksX1_trim_0 3 rfl rfl)
theorem dX1_trim_6 : decode cX1_trim 6 = .ok (.putfield 25, 3) := dk_181 0 25 (dk_at dksX1_trim_0 6 rfl rfl)
theorem dX1_trim_9 : decode cX1_trim 9 = .ok (.return_, 1) := dk_177 (dk_at dksX1_trim_0 9 rfl rfl)
abbrev cX1_from : ByteArray := prog_21_method_5_code
def yX1_from : MethodName := ⟨RX1, "from", "(I)I"⟩
def dkwX1_from_0 : List UInt8 := [27, 18, 37, 126, 42, 180, 0, 25, 4, 96, 112, 172]
abbrev dktX1_from_0 : List UInt8 := dkwX1_from_0 ++ []
theorem dksX1_from_0 : cX1_from.data.toList.drop 0 = dktX1_from_0 := by decide +kernel
theorem dX1_from_0 : decode cX1_from 0 = .ok (.iload_n 1, 1) := dk_27 (dk_at dksX1_from_0 0 rfl rfl)
theorem dX1_from_1 : decode cX1_from 1 = .ok (.ldc 37, 2) := dk_18 37 (dk_at dksX1_from_0 1 rfl rfl)
theorem dX1_from_3 : decode cX1_from 3 = .ok (.iand, 1) := dk_126 (dk_at dksX1_from_0 3 rfl rfl)
theorem dX1_from_4 : decode cX1_from 4 = .ok (.aload_n 0, 1) := dk_42 (dk_at dksX1_from_0 4 rfl rfl)
theorem dX1_from_5 : decode cX1_from 5 = .ok (.getfield 25, 3) := dk_180 0 25 (dk_at dksX1_from_0 5 rfl rfl)
theorem dX1_from_8 : decode cX1_from 8 = .ok (.iconst 1, 1) := dk_4 (dk_at dksX1_from_0 8 rfl rfl)
theorem dX1_from_9 : decode cX1_from 9 = .ok (.iadd, 1) := dk_96 (dk_at dksX1_from_0 9 rfl rfl)
theorem dX1_from_10 : decode cX1_from 10 = .ok (.irem, 1) := dk_112 (dk_at dksX1_from_0 10 rfl rfl)
theorem dX1_from_11 : decode cX1_from 11 = .ok (.ireturn, 1) := dk_172 (dk_at dksX1_from_0 11 rfl rfl)
abbrev cX1_key : ByteArray := prog_21_method_8_code
def yX1_key : MethodName := ⟨RX1, "key", "(IIIII)V"⟩
def dkwX1_key_2 : List UInt8 := [21, 6, 16, 12, 96, 21, 5, 184, 0, 29, 177]
abbrev dktX1_key_2 : List UInt8 := dkwX1_key_2 ++ []
def dkwX1_key_1 : List UInt8 := [96, 29, 184, 0, 29, 42, 180, 0, 13, 21, 6, 16, 8, 96, 21, 4, 184, 0, 29, 42, 180, 0, 13]
abbrev dktX1_key_1 : List UInt8 := dkwX1_key_1 ++ dktX1_key_2
def dkwX1_key_0 : List UInt8 := [27, 4, 126, 7, 120, 54, 6, 42, 180, 0, 13, 21, 6, 28, 184, 0, 29, 42, 180, 0, 13, 21, 6, 7]
abbrev dktX1_key_0 : List UInt8 := dkwX1_key_0 ++ dktX1_key_1
theorem dksX1_key_0 : cX1_key.data.toList.drop 0 = dktX1_key_0 := by decide +kernel
theorem dksX1_key_1 : cX1_key.data.toList.drop 24 = dktX1_key_1 := dk_seg dksX1_key_0 24 rfl rfl
theorem dksX1_key_2 : cX1_key.data.toList.drop 47 = dktX1_key_2 := dk_seg dksX1_key_1 23 rfl rfl
theorem dX1_key_0 : decode cX1_key 0 = .ok (.iload_n 1, 1) := dk_27 (dk_at dksX1_key_0 0 rfl rfl)
theorem dX1_key_1 : decode cX1_key 1 = .ok (.iconst 1, 1) := dk_4 (dk_at dksX1_key_0 1 rfl rfl)
theorem dX1_key_2 : decode cX1_key 2 = .ok (.iand, 1) := dk_126 (dk_at dksX1_key_0 2 rfl rfl)
theorem dX1_key_3 : decode cX1_key 3 = .ok (.iconst 4, 1) := dk_7 (dk_at dksX1_key_0 3 rfl rfl)
theorem dX1_key_4 : decode cX1_key 4 = .ok (.ishl, 1) := dk_120 (dk_at dksX1_key_0 4 rfl rfl)
theorem dX1_key_5 : decode cX1_key 5 = .ok (.istore 6, 2) := dk_54 6 (dk_at dksX1_key_0 5 rfl rfl)
theorem dX1_key_7 : decode cX1_key 7 = .ok (.aload_n 0, 1) := dk_42 (dk_at dksX1_key_0 7 rfl rfl)
theorem dX1_key_8 : decode cX1_key 8 = .ok (.getfield 13, 3) := dk_180 0 13 (dk_at dksX1_key_0 8 rfl rfl)
theorem dX1_key_11 : decode cX1_key 11 = .ok (.iload 6, 2) := dk_21 6 (dk_at dksX1_key_0 11 rfl rfl)
theorem dX1_key_13 : decode cX1_key 13 = .ok (.iload_n 2, 1) := dk_28 (dk_at dksX1_key_0 13 rfl rfl)
theorem dX1_key_14 : decode cX1_key 14 = .ok (.invokestatic 29, 3) := dk_184 0 29 (dk_at dksX1_key_0 14 rfl rfl)
theorem dX1_key_17 : decode cX1_key 17 = .ok (.aload_n 0, 1) := dk_42 (dk_at dksX1_key_0 17 rfl rfl)
theorem dX1_key_18 : decode cX1_key 18 = .ok (.getfield 13, 3) := dk_180 0 13 (dk_at dksX1_key_0 18 rfl rfl)
theorem dX1_key_21 : decode cX1_key 21 = .ok (.iload 6, 2) := dk_21 6 (dk_at dksX1_key_0 21 rfl rfl)
theorem dX1_key_23 : decode cX1_key 23 = .ok (.iconst 4, 1) := dk_7 (dk_at dksX1_key_0 23 rfl rfl)
theorem dX1_key_24 : decode cX1_key 24 = .ok (.iadd, 1) := dk_96 (dk_at dksX1_key_1 0 rfl rfl)
theorem dX1_key_25 : decode cX1_key 25 = .ok (.iload_n 3, 1) := dk_29 (dk_at dksX1_key_1 1 rfl rfl)
theorem dX1_key_26 : decode cX1_key 26 = .ok (.invokestatic 29, 3) := dk_184 0 29 (dk_at dksX1_key_1 2 rfl rfl)
theorem dX1_key_29 : decode cX1_key 29 = .ok (.aload_n 0, 1) := dk_42 (dk_at dksX1_key_1 5 rfl rfl)
theorem dX1_key_30 : decode cX1_key 30 = .ok (.getfield 13, 3) := dk_180 0 13 (dk_at dksX1_key_1 6 rfl rfl)
theorem dX1_key_33 : decode cX1_key 33 = .ok (.iload 6, 2) := dk_21 6 (dk_at dksX1_key_1 9 rfl rfl)
theorem dX1_key_35 : decode cX1_key 35 = .ok (.bipush 8, 2) := dk_16 8 (dk_at dksX1_key_1 11 rfl rfl)
theorem dX1_key_37 : decode cX1_key 37 = .ok (.iadd, 1) := dk_96 (dk_at dksX1_key_1 13 rfl rfl)
theorem dX1_key_38 : decode cX1_key 38 = .ok (.iload 4, 2) := dk_21 4 (dk_at dksX1_key_1 14 rfl rfl)
theorem dX1_key_40 : decode cX1_key 40 = .ok (.invokestatic 29, 3) := dk_184 0 29 (dk_at dksX1_key_1 16 rfl rfl)
theorem dX1_key_43 : decode cX1_key 43 = .ok (.aload_n 0, 1) := dk_42 (dk_at dksX1_key_1 19 rfl rfl)
theorem dX1_key_44 : decode cX1_key 44 = .ok (.getfield 13, 3) := dk_180 0 13 (dk_at dksX1_key_1 20 rfl rfl)
theorem dX1_key_47 : decode cX1_key 47 = .ok (.iload 6, 2) := dk_21 6 (dk_at dksX1_key_2 0 rfl rfl)
theorem dX1_key_49 : decode cX1_key 49 = .ok (.bipush 12, 2) := dk_16 12 (dk_at dksX1_key_2 2 rfl rfl)
theorem dX1_key_51 : decode cX1_key 51 = .ok (.iadd, 1) := dk_96 (dk_at dksX1_key_2 4 rfl rfl)
theorem dX1_key_52 : decode cX1_key 52 = .ok (.iload 5, 2) := dk_21 5 (dk_at dksX1_key_2 5 rfl rfl)
theorem dX1_key_54 : decode cX1_key 54 = .ok (.invokestatic 29, 3) := dk_184 0 29 (dk_at dksX1_key_2 7 rfl rfl)
theorem dX1_key_57 : decode cX1_key 57 = .ok (.return_, 1) := dk_177 (dk_at dksX1_key_2 10 rfl rfl)
abbrev cX1_kind : ByteArray := prog_21_method_10_code
def yX1_kind : MethodName := ⟨RX1, "kind", "(I)V"⟩
def dkwX1_kind_0 : List UInt8 := [42, 27, 18, 37, 126, 16, 9, 112, 181, 0, 42, 177]
abbrev dktX1_kind_0 : List UInt8 := dkwX1_kind_0 ++ []
theorem dksX1_kind_0 : cX1_kind.data.toList.drop 0 = dktX1_kind_0 := by decide +kernel
theorem dX1_kind_0 : decode cX1_kind 0 = .ok (.aload_n 0, 1) := dk_42 (dk_at dksX1_kind_0 0 rfl rfl)
theorem dX1_kind_1 : decode cX1_kind 1 = .ok (.iload_n 1, 1) := dk_27 (dk_at dksX1_kind_0 1 rfl rfl)
theorem dX1_kind_2 : decode cX1_kind 2 = .ok (.ldc 37, 2) := dk_18 37 (dk_at dksX1_kind_0 2 rfl rfl)
theorem dX1_kind_4 : decode cX1_kind 4 = .ok (.iand, 1) := dk_126 (dk_at dksX1_kind_0 4 rfl rfl)
theorem dX1_kind_5 : decode cX1_kind 5 = .ok (.bipush 9, 2) := dk_16 9 (dk_at dksX1_kind_0 5 rfl rfl)
theorem dX1_kind_7 : decode cX1_kind 7 = .ok (.irem, 1) := dk_112 (dk_at dksX1_kind_0 7 rfl rfl)
theorem dX1_kind_8 : decode cX1_kind 8 = .ok (.putfield 42, 3) := dk_181 0 42 (dk_at dksX1_kind_0 8 rfl rfl)
theorem dX1_kind_11 : decode cX1_kind 11 = .ok (.return_, 1) := dk_177 (dk_at dksX1_kind_0 11 rfl rfl)
abbrev cX1_seal : ByteArray := prog_21_method_12_code
def yX1_seal : MethodName := ⟨RX1, "seal", "(III)I"⟩
def dkwX1_seal_1 : List UInt8 := [21, 4, 21, 5, 4, 29, 17, 0, 255, 126, 96, 182, 0, 94, 181, 0, 19, 42, 180, 0, 19, 190, 172]
abbrev dktX1_seal_1 : List UInt8 := dkwX1_seal_1 ++ []
def dkwX1_seal_0 : List UInt8 := [42, 27, 182, 0, 33, 54, 4, 42, 21, 4, 28, 182, 0, 38, 54, 5, 42, 42, 4, 42, 180, 0, 7]
abbrev dktX1_seal_0 : List UInt8 := dkwX1_seal_0 ++ dktX1_seal_1
theorem dksX1_seal_0 : cX1_seal.data.toList.drop 0 = dktX1_seal_0 := by decide +kernel
theorem dksX1_seal_1 : cX1_seal.data.toList.drop 23 = dktX1_seal_1 := dk_seg dksX1_seal_0 23 rfl rfl
theorem dX1_seal_0 : decode cX1_seal 0 = .ok (.aload_n 0, 1) := dk_42 (dk_at dksX1_seal_0 0 rfl rfl)
theorem dX1_seal_1 : decode cX1_seal 1 = .ok (.iload_n 1, 1) := dk_27 (dk_at dksX1_seal_0 1 rfl rfl)
theorem dX1_seal_2 : decode cX1_seal 2 = .ok (.invokevirtual 33, 3) := dk_182 0 33 (dk_at dksX1_seal_0 2 rfl rfl)
theorem dX1_seal_5 : decode cX1_seal 5 = .ok (.istore 4, 2) := dk_54 4 (dk_at dksX1_seal_0 5 rfl rfl)
theorem dX1_seal_7 : decode cX1_seal 7 = .ok (.aload_n 0, 1) := dk_42 (dk_at dksX1_seal_0 7 rfl rfl)
theorem dX1_seal_8 : decode cX1_seal 8 = .ok (.iload 4, 2) := dk_21 4 (dk_at dksX1_seal_0 8 rfl rfl)
theorem dX1_seal_10 : decode cX1_seal 10 = .ok (.iload_n 2, 1) := dk_28 (dk_at dksX1_seal_0 10 rfl rfl)
theorem dX1_seal_11 : decode cX1_seal 11 = .ok (.invokevirtual 38, 3) := dk_182 0 38 (dk_at dksX1_seal_0 11 rfl rfl)
theorem dX1_seal_14 : decode cX1_seal 14 = .ok (.istore 5, 2) := dk_54 5 (dk_at dksX1_seal_0 14 rfl rfl)
theorem dX1_seal_16 : decode cX1_seal 16 = .ok (.aload_n 0, 1) := dk_42 (dk_at dksX1_seal_0 16 rfl rfl)
theorem dX1_seal_17 : decode cX1_seal 17 = .ok (.aload_n 0, 1) := dk_42 (dk_at dksX1_seal_0 17 rfl rfl)
theorem dX1_seal_18 : decode cX1_seal 18 = .ok (.iconst 1, 1) := dk_4 (dk_at dksX1_seal_0 18 rfl rfl)
theorem dX1_seal_19 : decode cX1_seal 19 = .ok (.aload_n 0, 1) := dk_42 (dk_at dksX1_seal_0 19 rfl rfl)
theorem dX1_seal_20 : decode cX1_seal 20 = .ok (.getfield 7, 3) := dk_180 0 7 (dk_at dksX1_seal_0 20 rfl rfl)
theorem dX1_seal_23 : decode cX1_seal 23 = .ok (.iload 4, 2) := dk_21 4 (dk_at dksX1_seal_1 0 rfl rfl)
theorem dX1_seal_25 : decode cX1_seal 25 = .ok (.iload 5, 2) := dk_21 5 (dk_at dksX1_seal_1 2 rfl rfl)
theorem dX1_seal_27 : decode cX1_seal 27 = .ok (.iconst 1, 1) := dk_4 (dk_at dksX1_seal_1 4 rfl rfl)
theorem dX1_seal_28 : decode cX1_seal 28 = .ok (.iload_n 3, 1) := dk_29 (dk_at dksX1_seal_1 5 rfl rfl)
theorem dX1_seal_29 : decode cX1_seal 29 = .ok (.sipush 255, 3) := dk_17 0 255 (dk_at dksX1_seal_1 6 rfl rfl)
theorem dX1_seal_32 : decode cX1_seal 32 = .ok (.iand, 1) := dk_126 (dk_at dksX1_seal_1 9 rfl rfl)
theorem dX1_seal_33 : decode cX1_seal 33 = .ok (.iadd, 1) := dk_96 (dk_at dksX1_seal_1 10 rfl rfl)
theorem dX1_seal_34 : decode cX1_seal 34 = .ok (.invokevirtual 94, 3) := dk_182 0 94 (dk_at dksX1_seal_1 11 rfl rfl)
theorem dX1_seal_37 : decode cX1_seal 37 = .ok (.putfield 19, 3) := dk_181 0 19 (dk_at dksX1_seal_1 14 rfl rfl)
theorem dX1_seal_40 : decode cX1_seal 40 = .ok (.aload_n 0, 1) := dk_42 (dk_at dksX1_seal_1 17 rfl rfl)
theorem dX1_seal_41 : decode cX1_seal 41 = .ok (.getfield 19, 3) := dk_180 0 19 (dk_at dksX1_seal_1 18 rfl rfl)
theorem dX1_seal_44 : decode cX1_seal 44 = .ok (.arraylength, 1) := dk_190 (dk_at dksX1_seal_1 21 rfl rfl)
theorem dX1_seal_45 : decode cX1_seal 45 = .ok (.ireturn, 1) := dk_172 (dk_at dksX1_seal_1 22 rfl rfl)
abbrev cX1_count : ByteArray := prog_21_method_6_code
def yX1_count : MethodName := ⟨RX1, "count", "(II)I"⟩
def dkwX1_count_0 : List UInt8 := [28, 18, 37, 126, 42, 180, 0, 25, 27, 100, 4, 96, 112, 172]
abbrev dktX1_count_0 : List UInt8 := dkwX1_count_0 ++ []
theorem dksX1_count_0 : cX1_count.data.toList.drop 0 = dktX1_count_0 := by decide +kernel
theorem dX1_count_0 : decode cX1_count 0 = .ok (.iload_n 2, 1) := dk_28 (dk_at dksX1_count_0 0 rfl rfl)
theorem dX1_count_1 : decode cX1_count 1 = .ok (.ldc 37, 2) := dk_18 37 (dk_at dksX1_count_0 1 rfl rfl)
theorem dX1_count_3 : decode cX1_count 3 = .ok (.iand, 1) := dk_126 (dk_at dksX1_count_0 3 rfl rfl)
theorem dX1_count_4 : decode cX1_count 4 = .ok (.aload_n 0, 1) := dk_42 (dk_at dksX1_count_0 4 rfl rfl)
theorem dX1_count_5 : decode cX1_count 5 = .ok (.getfield 25, 3) := dk_180 0 25 (dk_at dksX1_count_0 5 rfl rfl)
theorem dX1_count_8 : decode cX1_count 8 = .ok (.iload_n 1, 1) := dk_27 (dk_at dksX1_count_0 8 rfl rfl)
theorem dX1_count_9 : decode cX1_count 9 = .ok (.isub, 1) := dk_100 (dk_at dksX1_count_0 9 rfl rfl)
theorem dX1_count_10 : decode cX1_count 10 = .ok (.iconst 1, 1) := dk_4 (dk_at dksX1_count_0 10 rfl rfl)
theorem dX1_count_11 : decode cX1_count 11 = .ok (.iadd, 1) := dk_96 (dk_at dksX1_count_0 11 rfl rfl)
theorem dX1_count_12 : decode cX1_count 12 = .ok (.irem, 1) := dk_112 (dk_at dksX1_count_0 12 rfl rfl)
theorem dX1_count_13 : decode cX1_count 13 = .ok (.ireturn, 1) := dk_172 (dk_at dksX1_count_0 13 rfl rfl)
abbrev cX1_run : ByteArray := prog_21_method_11_code
def yX1_run : MethodName := ⟨RX1, "run", "(Z[BIII)[B"⟩
def dkwX1_run_11 : List UInt8 := [25, 12, 21, 13, 25, 10, 21, 13, 51, 84, 132, 13, 1, 167, 255, 236, 25, 12, 176]
abbrev dktX1_run_11 : List UInt8 := dkwX1_run_11 ++ []
def dkwX1_run_10 : List UInt8 := [167, 0, 7, 58, 12, 1, 176, 21, 11, 188, 8, 58, 12, 3, 54, 13, 21, 13, 21, 11, 162, 0, 19]
abbrev dktX1_run_10 : List UInt8 := dkwX1_run_10 ++ dktX1_run_11
def dkwX1_run_9 : List UInt8 := [21, 12, 21, 5, 96, 54, 12, 167, 255, 203, 21, 11, 25, 9, 25, 10, 21, 11, 182, 0, 88, 96, 54, 11]
abbrev dktX1_run_9 : List UInt8 := dkwX1_run_9 ++ dktX1_run_10
def dkwX1_run_8 : List UInt8 := [162, 0, 11, 21, 4, 21, 12, 100, 167, 0, 5, 21, 5, 25, 10, 21, 11, 182, 0, 84, 96, 54, 11]
abbrev dktX1_run_8 : List UInt8 := dkwX1_run_8 ++ dktX1_run_9
def dkwX1_run_7 : List UInt8 := [21, 12, 21, 4, 162, 0, 52, 21, 11, 25, 9, 44, 29, 21, 12, 96, 21, 4, 21, 12, 100, 21, 5]
abbrev dktX1_run_7 : List UInt8 := dkwX1_run_7 ++ dktX1_run_8
def dkwX1_run_6 : List UInt8 := [183, 0, 74, 182, 0, 77, 25, 9, 21, 4, 182, 0, 81, 188, 8, 58, 10, 3, 54, 11, 3, 54, 12]
abbrev dktX1_run_6 : List UInt8 := dkwX1_run_6 ++ dktX1_run_7
def dkwX1_run_5 : List UInt8 := [58, 9, 25, 9, 27, 187, 0, 67, 89, 187, 0, 69, 89, 25, 6, 183, 0, 71, 42, 180, 0, 16]
abbrev dktX1_run_5 : List UInt8 := dkwX1_run_5 ++ dktX1_run_6
def dkwX1_run_4 : List UInt8 := [187, 0, 54, 89, 187, 0, 56, 89, 187, 0, 58, 89, 183, 0, 60, 183, 0, 61, 25, 8, 183, 0, 64]
abbrev dktX1_run_4 : List UInt8 := dkwX1_run_4 ++ dktX1_run_5
def dkwX1_run_3 : List UInt8 := [4, 160, 0, 13, 187, 0, 48, 89, 183, 0, 50, 167, 0, 10, 187, 0, 51, 89, 183, 0, 53, 58, 8]
abbrev dktX1_run_3 : List UInt8 := dkwX1_run_3 ++ dktX1_run_4
def dkwX1_run_2 : List UInt8 := [180, 0, 42, 6, 108, 54, 7, 21, 7, 154, 0, 13, 187, 0, 45, 89, 183, 0, 47, 167, 0, 26, 21, 7]
abbrev dktX1_run_2 : List UInt8 := dkwX1_run_2 ++ dktX1_run_3
def dkwX1_run_1 : List UInt8 := [162, 0, 21, 25, 6, 21, 7, 42, 180, 0, 13, 21, 7, 51, 84, 132, 7, 1, 167, 255, 233, 42]
abbrev dktX1_run_1 : List UInt8 := dkwX1_run_1 ++ dktX1_run_2
def dkwX1_run_0 : List UInt8 := [16, 16, 16, 8, 42, 180, 0, 42, 6, 112, 104, 96, 188, 8, 58, 6, 3, 54, 7, 21, 7, 25, 6, 190]
abbrev dktX1_run_0 : List UInt8 := dkwX1_run_0 ++ dktX1_run_1
theorem dksX1_run_0 : cX1_run.data.toList.drop 0 = dktX1_run_0 := by decide +kernel
theorem dksX1_run_1 : cX1_run.data.toList.drop 24 = dktX1_run_1 := dk_seg dksX1_run_0 24 rfl rfl
theorem dksX1_run_2 : cX1_run.data.toList.drop 46 = dktX1_run_2 := dk_seg dksX1_run_1 22 rfl rfl
theorem dksX1_run_3 : cX1_run.data.toList.drop 70 = dktX1_run_3 := dk_seg dksX1_run_2 24 rfl rfl
theorem dksX1_run_4 : cX1_run.data.toList.drop 93 = dktX1_run_4 := dk_seg dksX1_run_3 23 rfl rfl
theorem dksX1_run_5 : cX1_run.data.toList.drop 116 = dktX1_run_5 := dk_seg dksX1_run_4 23 rfl rfl
theorem dksX1_run_6 : cX1_run.data.toList.drop 138 = dktX1_run_6 := dk_seg dksX1_run_5 22 rfl rfl
theorem dksX1_run_7 : cX1_run.data.toList.drop 161 = dktX1_run_7 := dk_seg dksX1_run_6 23 rfl rfl
theorem dksX1_run_8 : cX1_run.data.toList.drop 184 = dktX1_run_8 := dk_seg dksX1_run_7 23 rfl rfl
theorem dksX1_run_9 : cX1_run.data.toList.drop 207 = dktX1_run_9 := dk_seg dksX1_run_8 23 rfl rfl
theorem dksX1_run_10 : cX1_run.data.toList.drop 231 = dktX1_run_10 := dk_seg dksX1_run_9 24 rfl rfl
theorem dksX1_run_11 : cX1_run.data.toList.drop 254 = dktX1_run_11 := dk_seg dksX1_run_10 23 rfl rfl
theorem dX1_run_0 : decode cX1_run 0 = .ok (.bipush 16, 2) := dk_16 16 (dk_at dksX1_run_0 0 rfl rfl)
theorem dX1_run_2 : decode cX1_run 2 = .ok (.bipush 8, 2) := dk_16 8 (dk_at dksX1_run_0 2 rfl rfl)
theorem dX1_run_4 : decode cX1_run 4 = .ok (.aload_n 0, 1) := dk_42 (dk_at dksX1_run_0 4 rfl rfl)
theorem dX1_run_5 : decode cX1_run 5 = .ok (.getfield 42, 3) := dk_180 0 42 (dk_at dksX1_run_0 5 rfl rfl)
theorem dX1_run_8 : decode cX1_run 8 = .ok (.iconst 3, 1) := dk_6 (dk_at dksX1_run_0 8 rfl rfl)
theorem dX1_run_9 : decode cX1_run 9 = .ok (.irem, 1) := dk_112 (dk_at dksX1_run_0 9 rfl rfl)
theorem dX1_run_10 : decode cX1_run 10 = .ok (.imul, 1) := dk_104 (dk_at dksX1_run_0 10 rfl rfl)
theorem dX1_run_11 : decode cX1_run 11 = .ok (.iadd, 1) := dk_96 (dk_at dksX1_run_0 11 rfl rfl)
theorem dX1_run_12 : decode cX1_run 12 = .ok (.newarray .byte, 2) := dk_188_8 (dk_at dksX1_run_0 12 rfl rfl)
theorem dX1_run_14 : decode cX1_run 14 = .ok (.astore 6, 2) := dk_58 6 (dk_at dksX1_run_0 14 rfl rfl)
theorem dX1_run_16 : decode cX1_run 16 = .ok (.iconst 0, 1) := dk_3 (dk_at dksX1_run_0 16 rfl rfl)
theorem dX1_run_17 : decode cX1_run 17 = .ok (.istore 7, 2) := dk_54 7 (dk_at dksX1_run_0 17 rfl rfl)
theorem dX1_run_19 : decode cX1_run 19 = .ok (.iload 7, 2) := dk_21 7 (dk_at dksX1_run_0 19 rfl rfl)
theorem dX1_run_21 : decode cX1_run 21 = .ok (.aload 6, 2) := dk_25 6 (dk_at dksX1_run_0 21 rfl rfl)
theorem dX1_run_23 : decode cX1_run 23 = .ok (.arraylength, 1) := dk_190 (dk_at dksX1_run_0 23 rfl rfl)
theorem dX1_run_24 : decode cX1_run 24 = .ok (.if_icmp .ge 21, 3) := dk_162 0 21 (dk_at dksX1_run_1 0 rfl rfl)
theorem dX1_run_27 : decode cX1_run 27 = .ok (.aload 6, 2) := dk_25 6 (dk_at dksX1_run_1 3 rfl rfl)
theorem dX1_run_29 : decode cX1_run 29 = .ok (.iload 7, 2) := dk_21 7 (dk_at dksX1_run_1 5 rfl rfl)
theorem dX1_run_31 : decode cX1_run 31 = .ok (.aload_n 0, 1) := dk_42 (dk_at dksX1_run_1 7 rfl rfl)
theorem dX1_run_32 : decode cX1_run 32 = .ok (.getfield 13, 3) := dk_180 0 13 (dk_at dksX1_run_1 8 rfl rfl)
theorem dX1_run_35 : decode cX1_run 35 = .ok (.iload 7, 2) := dk_21 7 (dk_at dksX1_run_1 11 rfl rfl)
theorem dX1_run_37 : decode cX1_run 37 = .ok (.baload, 1) := dk_51 (dk_at dksX1_run_1 13 rfl rfl)
theorem dX1_run_38 : decode cX1_run 38 = .ok (.bastore, 1) := dk_84 (dk_at dksX1_run_1 14 rfl rfl)
theorem dX1_run_39 : decode cX1_run 39 = .ok (.iinc 7 1, 3) := dk_132 7 1 (dk_at dksX1_run_1 15 rfl rfl)
theorem dX1_run_42 : decode cX1_run 42 = .ok (.goto (-23), 3) := dk_167 255 233 (dk_at dksX1_run_1 18 rfl rfl)
theorem dX1_run_45 : decode cX1_run 45 = .ok (.aload_n 0, 1) := dk_42 (dk_at dksX1_run_1 21 rfl rfl)
theorem dX1_run_46 : decode cX1_run 46 = .ok (.getfield 42, 3) := dk_180 0 42 (dk_at dksX1_run_2 0 rfl rfl)
theorem dX1_run_49 : decode cX1_run 49 = .ok (.iconst 3, 1) := dk_6 (dk_at dksX1_run_2 3 rfl rfl)
theorem dX1_run_50 : decode cX1_run 50 = .ok (.idiv, 1) := dk_108 (dk_at dksX1_run_2 4 rfl rfl)
theorem dX1_run_51 : decode cX1_run 51 = .ok (.istore 7, 2) := dk_54 7 (dk_at dksX1_run_2 5 rfl rfl)
theorem dX1_run_53 : decode cX1_run 53 = .ok (.iload 7, 2) := dk_21 7 (dk_at dksX1_run_2 7 rfl rfl)
theorem dX1_run_55 : decode cX1_run 55 = .ok (.ifCond .ne 13, 3) := dk_154 0 13 (dk_at dksX1_run_2 9 rfl rfl)
theorem dX1_run_58 : decode cX1_run 58 = .ok (.new 45, 3) := dk_187 0 45 (dk_at dksX1_run_2 12 rfl rfl)
theorem dX1_run_61 : decode cX1_run 61 = .ok (.dup, 1) := dk_89 (dk_at dksX1_run_2 15 rfl rfl)
theorem dX1_run_62 : decode cX1_run 62 = .ok (.invokespecial 47, 3) := dk_183 0 47 (dk_at dksX1_run_2 16 rfl rfl)
theorem dX1_run_65 : decode cX1_run 65 = .ok (.goto 26, 3) := dk_167 0 26 (dk_at dksX1_run_2 19 rfl rfl)
theorem dX1_run_68 : decode cX1_run 68 = .ok (.iload 7, 2) := dk_21 7 (dk_at dksX1_run_2 22 rfl rfl)
theorem dX1_run_70 : decode cX1_run 70 = .ok (.iconst 1, 1) := dk_4 (dk_at dksX1_run_3 0 rfl rfl)
theorem dX1_run_71 : decode cX1_run 71 = .ok (.if_icmp .ne 13, 3) := dk_160 0 13 (dk_at dksX1_run_3 1 rfl rfl)
theorem dX1_run_74 : decode cX1_run 74 = .ok (.new 48, 3) := dk_187 0 48 (dk_at dksX1_run_3 4 rfl rfl)
theorem dX1_run_77 : decode cX1_run 77 = .ok (.dup, 1) := dk_89 (dk_at dksX1_run_3 7 rfl rfl)
theorem dX1_run_78 : decode cX1_run 78 = .ok (.invokespecial 50, 3) := dk_183 0 50 (dk_at dksX1_run_3 8 rfl rfl)
theorem dX1_run_81 : decode cX1_run 81 = .ok (.goto 10, 3) := dk_167 0 10 (dk_at dksX1_run_3 11 rfl rfl)
theorem dX1_run_84 : decode cX1_run 84 = .ok (.new 51, 3) := dk_187 0 51 (dk_at dksX1_run_3 14 rfl rfl)
theorem dX1_run_87 : decode cX1_run 87 = .ok (.dup, 1) := dk_89 (dk_at dksX1_run_3 17 rfl rfl)
theorem dX1_run_88 : decode cX1_run 88 = .ok (.invokespecial 53, 3) := dk_183 0 53 (dk_at dksX1_run_3 18 rfl rfl)
theorem dX1_run_91 : decode cX1_run 91 = .ok (.astore 8, 2) := dk_58 8 (dk_at dksX1_run_3 21 rfl rfl)
theorem dX1_run_93 : decode cX1_run 93 = .ok (.new 54, 3) := dk_187 0 54 (dk_at dksX1_run_4 0 rfl rfl)
theorem dX1_run_96 : decode cX1_run 96 = .ok (.dup, 1) := dk_89 (dk_at dksX1_run_4 3 rfl rfl)
theorem dX1_run_97 : decode cX1_run 97 = .ok (.new 56, 3) := dk_187 0 56 (dk_at dksX1_run_4 4 rfl rfl)
theorem dX1_run_100 : decode cX1_run 100 = .ok (.dup, 1) := dk_89 (dk_at dksX1_run_4 7 rfl rfl)
theorem dX1_run_101 : decode cX1_run 101 = .ok (.new 58, 3) := dk_187 0 58 (dk_at dksX1_run_4 8 rfl rfl)
theorem dX1_run_104 : decode cX1_run 104 = .ok (.dup, 1) := dk_89 (dk_at dksX1_run_4 11 rfl rfl)
theorem dX1_run_105 : decode cX1_run 105 = .ok (.invokespecial 60, 3) := dk_183 0 60 (dk_at dksX1_run_4 12 rfl rfl)
theorem dX1_run_108 : decode cX1_run 108 = .ok (.invokespecial 61, 3) := dk_183 0 61 (dk_at dksX1_run_4 15 rfl rfl)
theorem dX1_run_111 : decode cX1_run 111 = .ok (.aload 8, 2) := dk_25 8 (dk_at dksX1_run_4 18 rfl rfl)
theorem dX1_run_113 : decode cX1_run 113 = .ok (.invokespecial 64, 3) := dk_183 0 64 (dk_at dksX1_run_4 20 rfl rfl)
theorem dX1_run_116 : decode cX1_run 116 = .ok (.astore 9, 2) := dk_58 9 (dk_at dksX1_run_5 0 rfl rfl)
theorem dX1_run_118 : decode cX1_run 118 = .ok (.aload 9, 2) := dk_25 9 (dk_at dksX1_run_5 2 rfl rfl)
theorem dX1_run_120 : decode cX1_run 120 = .ok (.iload_n 1, 1) := dk_27 (dk_at dksX1_run_5 4 rfl rfl)
theorem dX1_run_121 : decode cX1_run 121 = .ok (.new 67, 3) := dk_187 0 67 (dk_at dksX1_run_5 5 rfl rfl)
theorem dX1_run_124 : decode cX1_run 124 = .ok (.dup, 1) := dk_89 (dk_at dksX1_run_5 8 rfl rfl)
theorem dX1_run_125 : decode cX1_run 125 = .ok (.new 69, 3) := dk_187 0 69 (dk_at dksX1_run_5 9 rfl rfl)
theorem dX1_run_128 : decode cX1_run 128 = .ok (.dup, 1) := dk_89 (dk_at dksX1_run_5 12 rfl rfl)
theorem dX1_run_129 : decode cX1_run 129 = .ok (.aload 6, 2) := dk_25 6 (dk_at dksX1_run_5 13 rfl rfl)
theorem dX1_run_131 : decode cX1_run 131 = .ok (.invokespecial 71, 3) := dk_183 0 71 (dk_at dksX1_run_5 15 rfl rfl)
theorem dX1_run_134 : decode cX1_run 134 = .ok (.aload_n 0, 1) := dk_42 (dk_at dksX1_run_5 18 rfl rfl)
theorem dX1_run_135 : decode cX1_run 135 = .ok (.getfield 16, 3) := dk_180 0 16 (dk_at dksX1_run_5 19 rfl rfl)
theorem dX1_run_138 : decode cX1_run 138 = .ok (.invokespecial 74, 3) := dk_183 0 74 (dk_at dksX1_run_6 0 rfl rfl)
theorem dX1_run_141 : decode cX1_run 141 = .ok (.invokevirtual 77, 3) := dk_182 0 77 (dk_at dksX1_run_6 3 rfl rfl)
theorem dX1_run_144 : decode cX1_run 144 = .ok (.aload 9, 2) := dk_25 9 (dk_at dksX1_run_6 6 rfl rfl)
theorem dX1_run_146 : decode cX1_run 146 = .ok (.iload 4, 2) := dk_21 4 (dk_at dksX1_run_6 8 rfl rfl)
theorem dX1_run_148 : decode cX1_run 148 = .ok (.invokevirtual 81, 3) := dk_182 0 81 (dk_at dksX1_run_6 10 rfl rfl)
theorem dX1_run_151 : decode cX1_run 151 = .ok (.newarray .byte, 2) := dk_188_8 (dk_at dksX1_run_6 13 rfl rfl)
theorem dX1_run_153 : decode cX1_run 153 = .ok (.astore 10, 2) := dk_58 10 (dk_at dksX1_run_6 15 rfl rfl)
theorem dX1_run_155 : decode cX1_run 155 = .ok (.iconst 0, 1) := dk_3 (dk_at dksX1_run_6 17 rfl rfl)
theorem dX1_run_156 : decode cX1_run 156 = .ok (.istore 11, 2) := dk_54 11 (dk_at dksX1_run_6 18 rfl rfl)
theorem dX1_run_158 : decode cX1_run 158 = .ok (.iconst 0, 1) := dk_3 (dk_at dksX1_run_6 20 rfl rfl)
theorem dX1_run_159 : decode cX1_run 159 = .ok (.istore 12, 2) := dk_54 12 (dk_at dksX1_run_6 21 rfl rfl)
theorem dX1_run_161 : decode cX1_run 161 = .ok (.iload 12, 2) := dk_21 12 (dk_at dksX1_run_7 0 rfl rfl)
theorem dX1_run_163 : decode cX1_run 163 = .ok (.iload 4, 2) := dk_21 4 (dk_at dksX1_run_7 2 rfl rfl)
theorem dX1_run_165 : decode cX1_run 165 = .ok (.if_icmp .ge 52, 3) := dk_162 0 52 (dk_at dksX1_run_7 4 rfl rfl)
theorem dX1_run_168 : decode cX1_run 168 = .ok (.iload 11, 2) := dk_21 11 (dk_at dksX1_run_7 7 rfl rfl)
theorem dX1_run_170 : decode cX1_run 170 = .ok (.aload 9, 2) := dk_25 9 (dk_at dksX1_run_7 9 rfl rfl)
theorem dX1_run_172 : decode cX1_run 172 = .ok (.aload_n 2, 1) := dk_44 (dk_at dksX1_run_7 11 rfl rfl)
theorem dX1_run_173 : decode cX1_run 173 = .ok (.iload_n 3, 1) := dk_29 (dk_at dksX1_run_7 12 rfl rfl)
theorem dX1_run_174 : decode cX1_run 174 = .ok (.iload 12, 2) := dk_21 12 (dk_at dksX1_run_7 13 rfl rfl)
theorem dX1_run_176 : decode cX1_run 176 = .ok (.iadd, 1) := dk_96 (dk_at dksX1_run_7 15 rfl rfl)
theorem dX1_run_177 : decode cX1_run 177 = .ok (.iload 4, 2) := dk_21 4 (dk_at dksX1_run_7 16 rfl rfl)
theorem dX1_run_179 : decode cX1_run 179 = .ok (.iload 12, 2) := dk_21 12 (dk_at dksX1_run_7 18 rfl rfl)
theorem dX1_run_181 : decode cX1_run 181 = .ok (.isub, 1) := dk_100 (dk_at dksX1_run_7 20 rfl rfl)
theorem dX1_run_182 : decode cX1_run 182 = .ok (.iload 5, 2) := dk_21 5 (dk_at dksX1_run_7 21 rfl rfl)
theorem dX1_run_184 : decode cX1_run 184 = .ok (.if_icmp .ge 11, 3) := dk_162 0 11 (dk_at dksX1_run_8 0 rfl rfl)
theorem dX1_run_187 : decode cX1_run 187 = .ok (.iload 4, 2) := dk_21 4 (dk_at dksX1_run_8 3 rfl rfl)
theorem dX1_run_189 : decode cX1_run 189 = .ok (.iload 12, 2) := dk_21 12 (dk_at dksX1_run_8 5 rfl rfl)
theorem dX1_run_191 : decode cX1_run 191 = .ok (.isub, 1) := dk_100 (dk_at dksX1_run_8 7 rfl rfl)
theorem dX1_run_192 : decode cX1_run 192 = .ok (.goto 5, 3) := dk_167 0 5 (dk_at dksX1_run_8 8 rfl rfl)
theorem dX1_run_195 : decode cX1_run 195 = .ok (.iload 5, 2) := dk_21 5 (dk_at dksX1_run_8 11 rfl rfl)
theorem dX1_run_197 : decode cX1_run 197 = .ok (.aload 10, 2) := dk_25 10 (dk_at dksX1_run_8 13 rfl rfl)
theorem dX1_run_199 : decode cX1_run 199 = .ok (.iload 11, 2) := dk_21 11 (dk_at dksX1_run_8 15 rfl rfl)
theorem dX1_run_201 : decode cX1_run 201 = .ok (.invokevirtual 84, 3) := dk_182 0 84 (dk_at dksX1_run_8 17 rfl rfl)
theorem dX1_run_204 : decode cX1_run 204 = .ok (.iadd, 1) := dk_96 (dk_at dksX1_run_8 20 rfl rfl)
theorem dX1_run_205 : decode cX1_run 205 = .ok (.istore 11, 2) := dk_54 11 (dk_at dksX1_run_8 21 rfl rfl)
theorem dX1_run_207 : decode cX1_run 207 = .ok (.iload 12, 2) := dk_21 12 (dk_at dksX1_run_9 0 rfl rfl)
theorem dX1_run_209 : decode cX1_run 209 = .ok (.iload 5, 2) := dk_21 5 (dk_at dksX1_run_9 2 rfl rfl)
theorem dX1_run_211 : decode cX1_run 211 = .ok (.iadd, 1) := dk_96 (dk_at dksX1_run_9 4 rfl rfl)
theorem dX1_run_212 : decode cX1_run 212 = .ok (.istore 12, 2) := dk_54 12 (dk_at dksX1_run_9 5 rfl rfl)
theorem dX1_run_214 : decode cX1_run 214 = .ok (.goto (-53), 3) := dk_167 255 203 (dk_at dksX1_run_9 7 rfl rfl)
theorem dX1_run_217 : decode cX1_run 217 = .ok (.iload 11, 2) := dk_21 11 (dk_at dksX1_run_9 10 rfl rfl)
theorem dX1_run_219 : decode cX1_run 219 = .ok (.aload 9, 2) := dk_25 9 (dk_at dksX1_run_9 12 rfl rfl)
theorem dX1_run_221 : decode cX1_run 221 = .ok (.aload 10, 2) := dk_25 10 (dk_at dksX1_run_9 14 rfl rfl)
theorem dX1_run_223 : decode cX1_run 223 = .ok (.iload 11, 2) := dk_21 11 (dk_at dksX1_run_9 16 rfl rfl)
theorem dX1_run_225 : decode cX1_run 225 = .ok (.invokevirtual 88, 3) := dk_182 0 88 (dk_at dksX1_run_9 18 rfl rfl)
theorem dX1_run_228 : decode cX1_run 228 = .ok (.iadd, 1) := dk_96 (dk_at dksX1_run_9 21 rfl rfl)
theorem dX1_run_229 : decode cX1_run 229 = .ok (.istore 11, 2) := dk_54 11 (dk_at dksX1_run_9 22 rfl rfl)
theorem dX1_run_231 : decode cX1_run 231 = .ok (.goto 7, 3) := dk_167 0 7 (dk_at dksX1_run_10 0 rfl rfl)
theorem dX1_run_234 : decode cX1_run 234 = .ok (.astore 12, 2) := dk_58 12 (dk_at dksX1_run_10 3 rfl rfl)
theorem dX1_run_236 : decode cX1_run 236 = .ok (.aconst_null, 1) := dk_1 (dk_at dksX1_run_10 5 rfl rfl)
theorem dX1_run_237 : decode cX1_run 237 = .ok (.areturn, 1) := dk_176 (dk_at dksX1_run_10 6 rfl rfl)
theorem dX1_run_238 : decode cX1_run 238 = .ok (.iload 11, 2) := dk_21 11 (dk_at dksX1_run_10 7 rfl rfl)
theorem dX1_run_240 : decode cX1_run 240 = .ok (.newarray .byte, 2) := dk_188_8 (dk_at dksX1_run_10 9 rfl rfl)
theorem dX1_run_242 : decode cX1_run 242 = .ok (.astore 12, 2) := dk_58 12 (dk_at dksX1_run_10 11 rfl rfl)
theorem dX1_run_244 : decode cX1_run 244 = .ok (.iconst 0, 1) := dk_3 (dk_at dksX1_run_10 13 rfl rfl)
theorem dX1_run_245 : decode cX1_run 245 = .ok (.istore 13, 2) := dk_54 13 (dk_at dksX1_run_10 14 rfl rfl)
theorem dX1_run_247 : decode cX1_run 247 = .ok (.iload 13, 2) := dk_21 13 (dk_at dksX1_run_10 16 rfl rfl)
theorem dX1_run_249 : decode cX1_run 249 = .ok (.iload 11, 2) := dk_21 11 (dk_at dksX1_run_10 18 rfl rfl)
theorem dX1_run_251 : decode cX1_run 251 = .ok (.if_icmp .ge 19, 3) := dk_162 0 19 (dk_at dksX1_run_10 20 rfl rfl)
theorem dX1_run_254 : decode cX1_run 254 = .ok (.aload 12, 2) := dk_25 12 (dk_at dksX1_run_11 0 rfl rfl)
theorem dX1_run_256 : decode cX1_run 256 = .ok (.iload 13, 2) := dk_21 13 (dk_at dksX1_run_11 2 rfl rfl)
theorem dX1_run_258 : decode cX1_run 258 = .ok (.aload 10, 2) := dk_25 10 (dk_at dksX1_run_11 4 rfl rfl)
theorem dX1_run_260 : decode cX1_run 260 = .ok (.iload 13, 2) := dk_21 13 (dk_at dksX1_run_11 6 rfl rfl)
theorem dX1_run_262 : decode cX1_run 262 = .ok (.baload, 1) := dk_51 (dk_at dksX1_run_11 8 rfl rfl)
theorem dX1_run_263 : decode cX1_run 263 = .ok (.bastore, 1) := dk_84 (dk_at dksX1_run_11 9 rfl rfl)
theorem dX1_run_264 : decode cX1_run 264 = .ok (.iinc 13 1, 3) := dk_132 13 1 (dk_at dksX1_run_11 10 rfl rfl)
theorem dX1_run_267 : decode cX1_run 267 = .ok (.goto (-20), 3) := dk_167 255 236 (dk_at dksX1_run_11 13 rfl rfl)
theorem dX1_run_270 : decode cX1_run 270 = .ok (.aload 12, 2) := dk_25 12 (dk_at dksX1_run_11 16 rfl rfl)
theorem dX1_run_272 : decode cX1_run 272 = .ok (.areturn, 1) := dk_176 (dk_at dksX1_run_11 18 rfl rfl)
abbrev cX1_open : ByteArray := prog_21_method_13_code
def yX1_open : MethodName := ⟨RX1, "open", "(I)I"⟩
def dkwX1_open_1 : List UInt8 := [27, 17, 0, 255, 126, 96, 182, 0, 94, 77, 44, 199, 0, 5, 2, 172, 42, 44, 181, 0, 22, 44, 190, 172]
abbrev dktX1_open_1 : List UInt8 := dkwX1_open_1 ++ []
def dkwX1_open_0 : List UInt8 := [42, 180, 0, 19, 190, 154, 0, 6, 16, 254, 172, 42, 3, 42, 180, 0, 19, 3, 42, 180, 0, 19, 190, 4]
abbrev dktX1_open_0 : List UInt8 := dkwX1_open_0 ++ dktX1_open_1
theorem dksX1_open_0 : cX1_open.data.toList.drop 0 = dktX1_open_0 := by decide +kernel
theorem dksX1_open_1 : cX1_open.data.toList.drop 24 = dktX1_open_1 := dk_seg dksX1_open_0 24 rfl rfl
theorem dX1_open_0 : decode cX1_open 0 = .ok (.aload_n 0, 1) := dk_42 (dk_at dksX1_open_0 0 rfl rfl)
theorem dX1_open_1 : decode cX1_open 1 = .ok (.getfield 19, 3) := dk_180 0 19 (dk_at dksX1_open_0 1 rfl rfl)
theorem dX1_open_4 : decode cX1_open 4 = .ok (.arraylength, 1) := dk_190 (dk_at dksX1_open_0 4 rfl rfl)
theorem dX1_open_5 : decode cX1_open 5 = .ok (.ifCond .ne 6, 3) := dk_154 0 6 (dk_at dksX1_open_0 5 rfl rfl)
theorem dX1_open_8 : decode cX1_open 8 = .ok (.bipush (-2), 2) := dk_16 254 (dk_at dksX1_open_0 8 rfl rfl)
theorem dX1_open_10 : decode cX1_open 10 = .ok (.ireturn, 1) := dk_172 (dk_at dksX1_open_0 10 rfl rfl)
theorem dX1_open_11 : decode cX1_open 11 = .ok (.aload_n 0, 1) := dk_42 (dk_at dksX1_open_0 11 rfl rfl)
theorem dX1_open_12 : decode cX1_open 12 = .ok (.iconst 0, 1) := dk_3 (dk_at dksX1_open_0 12 rfl rfl)
theorem dX1_open_13 : decode cX1_open 13 = .ok (.aload_n 0, 1) := dk_42 (dk_at dksX1_open_0 13 rfl rfl)
theorem dX1_open_14 : decode cX1_open 14 = .ok (.getfield 19, 3) := dk_180 0 19 (dk_at dksX1_open_0 14 rfl rfl)
theorem dX1_open_17 : decode cX1_open 17 = .ok (.iconst 0, 1) := dk_3 (dk_at dksX1_open_0 17 rfl rfl)
theorem dX1_open_18 : decode cX1_open 18 = .ok (.aload_n 0, 1) := dk_42 (dk_at dksX1_open_0 18 rfl rfl)
theorem dX1_open_19 : decode cX1_open 19 = .ok (.getfield 19, 3) := dk_180 0 19 (dk_at dksX1_open_0 19 rfl rfl)
theorem dX1_open_22 : decode cX1_open 22 = .ok (.arraylength, 1) := dk_190 (dk_at dksX1_open_0 22 rfl rfl)
theorem dX1_open_23 : decode cX1_open 23 = .ok (.iconst 1, 1) := dk_4 (dk_at dksX1_open_0 23 rfl rfl)
theorem dX1_open_24 : decode cX1_open 24 = .ok (.iload_n 1, 1) := dk_27 (dk_at dksX1_open_1 0 rfl rfl)
theorem dX1_open_25 : decode cX1_open 25 = .ok (.sipush 255, 3) := dk_17 0 255 (dk_at dksX1_open_1 1 rfl rfl)
theorem dX1_open_28 : decode cX1_open 28 = .ok (.iand, 1) := dk_126 (dk_at dksX1_open_1 4 rfl rfl)
theorem dX1_open_29 : decode cX1_open 29 = .ok (.iadd, 1) := dk_96 (dk_at dksX1_open_1 5 rfl rfl)
theorem dX1_open_30 : decode cX1_open 30 = .ok (.invokevirtual 94, 3) := dk_182 0 94 (dk_at dksX1_open_1 6 rfl rfl)
theorem dX1_open_33 : decode cX1_open 33 = .ok (.astore_n 2, 1) := dk_77 (dk_at dksX1_open_1 9 rfl rfl)
theorem dX1_open_34 : decode cX1_open 34 = .ok (.aload_n 2, 1) := dk_44 (dk_at dksX1_open_1 10 rfl rfl)
theorem dX1_open_35 : decode cX1_open 35 = .ok (.ifnonnull 5, 3) := dk_199 0 5 (dk_at dksX1_open_1 11 rfl rfl)
theorem dX1_open_38 : decode cX1_open 38 = .ok (.iconst (-1), 1) := dk_2 (dk_at dksX1_open_1 14 rfl rfl)
theorem dX1_open_39 : decode cX1_open 39 = .ok (.ireturn, 1) := dk_172 (dk_at dksX1_open_1 15 rfl rfl)
theorem dX1_open_40 : decode cX1_open 40 = .ok (.aload_n 0, 1) := dk_42 (dk_at dksX1_open_1 16 rfl rfl)
theorem dX1_open_41 : decode cX1_open 41 = .ok (.aload_n 2, 1) := dk_44 (dk_at dksX1_open_1 17 rfl rfl)
theorem dX1_open_42 : decode cX1_open 42 = .ok (.putfield 22, 3) := dk_181 0 22 (dk_at dksX1_open_1 18 rfl rfl)
theorem dX1_open_45 : decode cX1_open 45 = .ok (.aload_n 2, 1) := dk_44 (dk_at dksX1_open_1 21 rfl rfl)
theorem dX1_open_46 : decode cX1_open 46 = .ok (.arraylength, 1) := dk_190 (dk_at dksX1_open_1 22 rfl rfl)
theorem dX1_open_47 : decode cX1_open 47 = .ok (.ireturn, 1) := dk_172 (dk_at dksX1_open_1 23 rfl rfl)
abbrev cX1_spoil : ByteArray := prog_21_method_14_code
def yX1_spoil : MethodName := ⟨RX1, "spoil", "(II)Z"⟩
def dkwX1_spoil_1 : List UInt8 := [92, 51, 28, 145, 130, 145, 84, 4, 172]
abbrev dktX1_spoil_1 : List UInt8 := dkwX1_spoil_1 ++ []
def dkwX1_spoil_0 : List UInt8 := [42, 180, 0, 19, 190, 154, 0, 5, 3, 172, 42, 180, 0, 19, 27, 18, 37, 126, 42, 180, 0, 19, 190, 112]
abbrev dktX1_spoil_0 : List UInt8 := dkwX1_spoil_0 ++ dktX1_spoil_1
theorem dksX1_spoil_0 : cX1_spoil.data.toList.drop 0 = dktX1_spoil_0 := by decide +kernel
theorem dksX1_spoil_1 : cX1_spoil.data.toList.drop 24 = dktX1_spoil_1 := dk_seg dksX1_spoil_0 24 rfl rfl
theorem dX1_spoil_0 : decode cX1_spoil 0 = .ok (.aload_n 0, 1) := dk_42 (dk_at dksX1_spoil_0 0 rfl rfl)
theorem dX1_spoil_1 : decode cX1_spoil 1 = .ok (.getfield 19, 3) := dk_180 0 19 (dk_at dksX1_spoil_0 1 rfl rfl)
theorem dX1_spoil_4 : decode cX1_spoil 4 = .ok (.arraylength, 1) := dk_190 (dk_at dksX1_spoil_0 4 rfl rfl)
theorem dX1_spoil_5 : decode cX1_spoil 5 = .ok (.ifCond .ne 5, 3) := dk_154 0 5 (dk_at dksX1_spoil_0 5 rfl rfl)
theorem dX1_spoil_8 : decode cX1_spoil 8 = .ok (.iconst 0, 1) := dk_3 (dk_at dksX1_spoil_0 8 rfl rfl)
theorem dX1_spoil_9 : decode cX1_spoil 9 = .ok (.ireturn, 1) := dk_172 (dk_at dksX1_spoil_0 9 rfl rfl)
theorem dX1_spoil_10 : decode cX1_spoil 10 = .ok (.aload_n 0, 1) := dk_42 (dk_at dksX1_spoil_0 10 rfl rfl)
theorem dX1_spoil_11 : decode cX1_spoil 11 = .ok (.getfield 19, 3) := dk_180 0 19 (dk_at dksX1_spoil_0 11 rfl rfl)
theorem dX1_spoil_14 : decode cX1_spoil 14 = .ok (.iload_n 1, 1) := dk_27 (dk_at dksX1_spoil_0 14 rfl rfl)
theorem dX1_spoil_15 : decode cX1_spoil 15 = .ok (.ldc 37, 2) := dk_18 37 (dk_at dksX1_spoil_0 15 rfl rfl)
theorem dX1_spoil_17 : decode cX1_spoil 17 = .ok (.iand, 1) := dk_126 (dk_at dksX1_spoil_0 17 rfl rfl)
theorem dX1_spoil_18 : decode cX1_spoil 18 = .ok (.aload_n 0, 1) := dk_42 (dk_at dksX1_spoil_0 18 rfl rfl)
theorem dX1_spoil_19 : decode cX1_spoil 19 = .ok (.getfield 19, 3) := dk_180 0 19 (dk_at dksX1_spoil_0 19 rfl rfl)
theorem dX1_spoil_22 : decode cX1_spoil 22 = .ok (.arraylength, 1) := dk_190 (dk_at dksX1_spoil_0 22 rfl rfl)
theorem dX1_spoil_23 : decode cX1_spoil 23 = .ok (.irem, 1) := dk_112 (dk_at dksX1_spoil_0 23 rfl rfl)
theorem dX1_spoil_24 : decode cX1_spoil 24 = .ok (.dup2, 1) := dk_92 (dk_at dksX1_spoil_1 0 rfl rfl)
theorem dX1_spoil_25 : decode cX1_spoil 25 = .ok (.baload, 1) := dk_51 (dk_at dksX1_spoil_1 1 rfl rfl)
theorem dX1_spoil_26 : decode cX1_spoil 26 = .ok (.iload_n 2, 1) := dk_28 (dk_at dksX1_spoil_1 2 rfl rfl)
theorem dX1_spoil_27 : decode cX1_spoil 27 = .ok (.i2b, 1) := dk_145 (dk_at dksX1_spoil_1 3 rfl rfl)
theorem dX1_spoil_28 : decode cX1_spoil 28 = .ok (.ixor, 1) := dk_130 (dk_at dksX1_spoil_1 4 rfl rfl)
theorem dX1_spoil_29 : decode cX1_spoil 29 = .ok (.i2b, 1) := dk_145 (dk_at dksX1_spoil_1 5 rfl rfl)
theorem dX1_spoil_30 : decode cX1_spoil 30 = .ok (.bastore, 1) := dk_84 (dk_at dksX1_spoil_1 6 rfl rfl)
theorem dX1_spoil_31 : decode cX1_spoil 31 = .ok (.iconst 1, 1) := dk_4 (dk_at dksX1_spoil_1 7 rfl rfl)
theorem dX1_spoil_32 : decode cX1_spoil 32 = .ok (.ireturn, 1) := dk_172 (dk_at dksX1_spoil_1 8 rfl rfl)
abbrev cX1_sealed : ByteArray := prog_21_method_15_code
def yX1_sealed : MethodName := ⟨RX1, "sealed", "(I)I"⟩
def dkwX1_sealed_1 : List UInt8 := [190, 112, 51, 17, 0, 255, 126, 172]
abbrev dktX1_sealed_1 : List UInt8 := dkwX1_sealed_1 ++ []
def dkwX1_sealed_0 : List UInt8 := [42, 180, 0, 19, 190, 154, 0, 7, 2, 167, 0, 22, 42, 180, 0, 19, 27, 18, 37, 126, 42, 180, 0, 19]
abbrev dktX1_sealed_0 : List UInt8 := dkwX1_sealed_0 ++ dktX1_sealed_1
theorem dksX1_sealed_0 : cX1_sealed.data.toList.drop 0 = dktX1_sealed_0 := by decide +kernel
theorem dksX1_sealed_1 : cX1_sealed.data.toList.drop 24 = dktX1_sealed_1 := dk_seg dksX1_sealed_0 24 rfl rfl
theorem dX1_sealed_0 : decode cX1_sealed 0 = .ok (.aload_n 0, 1) := dk_42 (dk_at dksX1_sealed_0 0 rfl rfl)
theorem dX1_sealed_1 : decode cX1_sealed 1 = .ok (.getfield 19, 3) := dk_180 0 19 (dk_at dksX1_sealed_0 1 rfl rfl)
theorem dX1_sealed_4 : decode cX1_sealed 4 = .ok (.arraylength, 1) := dk_190 (dk_at dksX1_sealed_0 4 rfl rfl)
theorem dX1_sealed_5 : decode cX1_sealed 5 = .ok (.ifCond .ne 7, 3) := dk_154 0 7 (dk_at dksX1_sealed_0 5 rfl rfl)
theorem dX1_sealed_8 : decode cX1_sealed 8 = .ok (.iconst (-1), 1) := dk_2 (dk_at dksX1_sealed_0 8 rfl rfl)
theorem dX1_sealed_9 : decode cX1_sealed 9 = .ok (.goto 22, 3) := dk_167 0 22 (dk_at dksX1_sealed_0 9 rfl rfl)
theorem dX1_sealed_12 : decode cX1_sealed 12 = .ok (.aload_n 0, 1) := dk_42 (dk_at dksX1_sealed_0 12 rfl rfl)
theorem dX1_sealed_13 : decode cX1_sealed 13 = .ok (.getfield 19, 3) := dk_180 0 19 (dk_at dksX1_sealed_0 13 rfl rfl)
theorem dX1_sealed_16 : decode cX1_sealed 16 = .ok (.iload_n 1, 1) := dk_27 (dk_at dksX1_sealed_0 16 rfl rfl)
theorem dX1_sealed_17 : decode cX1_sealed 17 = .ok (.ldc 37, 2) := dk_18 37 (dk_at dksX1_sealed_0 17 rfl rfl)
theorem dX1_sealed_19 : decode cX1_sealed 19 = .ok (.iand, 1) := dk_126 (dk_at dksX1_sealed_0 19 rfl rfl)
theorem dX1_sealed_20 : decode cX1_sealed 20 = .ok (.aload_n 0, 1) := dk_42 (dk_at dksX1_sealed_0 20 rfl rfl)
theorem dX1_sealed_21 : decode cX1_sealed 21 = .ok (.getfield 19, 3) := dk_180 0 19 (dk_at dksX1_sealed_0 21 rfl rfl)
theorem dX1_sealed_24 : decode cX1_sealed 24 = .ok (.arraylength, 1) := dk_190 (dk_at dksX1_sealed_1 0 rfl rfl)
theorem dX1_sealed_25 : decode cX1_sealed 25 = .ok (.irem, 1) := dk_112 (dk_at dksX1_sealed_1 1 rfl rfl)
theorem dX1_sealed_26 : decode cX1_sealed 26 = .ok (.baload, 1) := dk_51 (dk_at dksX1_sealed_1 2 rfl rfl)
theorem dX1_sealed_27 : decode cX1_sealed 27 = .ok (.sipush 255, 3) := dk_17 0 255 (dk_at dksX1_sealed_1 3 rfl rfl)
theorem dX1_sealed_30 : decode cX1_sealed 30 = .ok (.iand, 1) := dk_126 (dk_at dksX1_sealed_1 6 rfl rfl)
theorem dX1_sealed_31 : decode cX1_sealed 31 = .ok (.ireturn, 1) := dk_172 (dk_at dksX1_sealed_1 7 rfl rfl)
abbrev cX1_opened : ByteArray := prog_21_method_16_code
def yX1_opened : MethodName := ⟨RX1, "opened", "(I)I"⟩
def dkwX1_opened_1 : List UInt8 := [190, 112, 51, 17, 0, 255, 126, 172]
abbrev dktX1_opened_1 : List UInt8 := dkwX1_opened_1 ++ []
def dkwX1_opened_0 : List UInt8 := [42, 180, 0, 22, 190, 154, 0, 7, 2, 167, 0, 22, 42, 180, 0, 22, 27, 18, 37, 126, 42, 180, 0, 22]
abbrev dktX1_opened_0 : List UInt8 := dkwX1_opened_0 ++ dktX1_opened_1
theorem dksX1_opened_0 : cX1_opened.data.toList.drop 0 = dktX1_opened_0 := by decide +kernel
theorem dksX1_opened_1 : cX1_opened.data.toList.drop 24 = dktX1_opened_1 := dk_seg dksX1_opened_0 24 rfl rfl
theorem dX1_opened_0 : decode cX1_opened 0 = .ok (.aload_n 0, 1) := dk_42 (dk_at dksX1_opened_0 0 rfl rfl)
theorem dX1_opened_1 : decode cX1_opened 1 = .ok (.getfield 22, 3) := dk_180 0 22 (dk_at dksX1_opened_0 1 rfl rfl)
theorem dX1_opened_4 : decode cX1_opened 4 = .ok (.arraylength, 1) := dk_190 (dk_at dksX1_opened_0 4 rfl rfl)
theorem dX1_opened_5 : decode cX1_opened 5 = .ok (.ifCond .ne 7, 3) := dk_154 0 7 (dk_at dksX1_opened_0 5 rfl rfl)
theorem dX1_opened_8 : decode cX1_opened 8 = .ok (.iconst (-1), 1) := dk_2 (dk_at dksX1_opened_0 8 rfl rfl)
theorem dX1_opened_9 : decode cX1_opened 9 = .ok (.goto 22, 3) := dk_167 0 22 (dk_at dksX1_opened_0 9 rfl rfl)
theorem dX1_opened_12 : decode cX1_opened 12 = .ok (.aload_n 0, 1) := dk_42 (dk_at dksX1_opened_0 12 rfl rfl)
theorem dX1_opened_13 : decode cX1_opened 13 = .ok (.getfield 22, 3) := dk_180 0 22 (dk_at dksX1_opened_0 13 rfl rfl)
theorem dX1_opened_16 : decode cX1_opened 16 = .ok (.iload_n 1, 1) := dk_27 (dk_at dksX1_opened_0 16 rfl rfl)
theorem dX1_opened_17 : decode cX1_opened 17 = .ok (.ldc 37, 2) := dk_18 37 (dk_at dksX1_opened_0 17 rfl rfl)
theorem dX1_opened_19 : decode cX1_opened 19 = .ok (.iand, 1) := dk_126 (dk_at dksX1_opened_0 19 rfl rfl)
theorem dX1_opened_20 : decode cX1_opened 20 = .ok (.aload_n 0, 1) := dk_42 (dk_at dksX1_opened_0 20 rfl rfl)
theorem dX1_opened_21 : decode cX1_opened 21 = .ok (.getfield 22, 3) := dk_180 0 22 (dk_at dksX1_opened_0 21 rfl rfl)
theorem dX1_opened_24 : decode cX1_opened 24 = .ok (.arraylength, 1) := dk_190 (dk_at dksX1_opened_1 0 rfl rfl)
theorem dX1_opened_25 : decode cX1_opened 25 = .ok (.irem, 1) := dk_112 (dk_at dksX1_opened_1 1 rfl rfl)
theorem dX1_opened_26 : decode cX1_opened 26 = .ok (.baload, 1) := dk_51 (dk_at dksX1_opened_1 2 rfl rfl)
theorem dX1_opened_27 : decode cX1_opened 27 = .ok (.sipush 255, 3) := dk_17 0 255 (dk_at dksX1_opened_1 3 rfl rfl)
theorem dX1_opened_30 : decode cX1_opened 30 = .ok (.iand, 1) := dk_126 (dk_at dksX1_opened_1 6 rfl rfl)
theorem dX1_opened_31 : decode cX1_opened 31 = .ok (.ireturn, 1) := dk_172 (dk_at dksX1_opened_1 7 rfl rfl)
abbrev cX1_nonce : ByteArray := prog_21_method_9_code
def yX1_nonce : MethodName := ⟨RX1, "nonce", "(IIII)V"⟩
def dkwX1_nonce_1 : List UInt8 := [29, 184, 0, 29, 42, 180, 0, 16, 16, 12, 21, 4, 184, 0, 29, 177]
abbrev dktX1_nonce_1 : List UInt8 := dkwX1_nonce_1 ++ []
def dkwX1_nonce_0 : List UInt8 := [42, 180, 0, 16, 3, 27, 184, 0, 29, 42, 180, 0, 16, 7, 28, 184, 0, 29, 42, 180, 0, 16, 16, 8]
abbrev dktX1_nonce_0 : List UInt8 := dkwX1_nonce_0 ++ dktX1_nonce_1
theorem dksX1_nonce_0 : cX1_nonce.data.toList.drop 0 = dktX1_nonce_0 := by decide +kernel
theorem dksX1_nonce_1 : cX1_nonce.data.toList.drop 24 = dktX1_nonce_1 := dk_seg dksX1_nonce_0 24 rfl rfl
theorem dX1_nonce_0 : decode cX1_nonce 0 = .ok (.aload_n 0, 1) := dk_42 (dk_at dksX1_nonce_0 0 rfl rfl)
theorem dX1_nonce_1 : decode cX1_nonce 1 = .ok (.getfield 16, 3) := dk_180 0 16 (dk_at dksX1_nonce_0 1 rfl rfl)
theorem dX1_nonce_4 : decode cX1_nonce 4 = .ok (.iconst 0, 1) := dk_3 (dk_at dksX1_nonce_0 4 rfl rfl)
theorem dX1_nonce_5 : decode cX1_nonce 5 = .ok (.iload_n 1, 1) := dk_27 (dk_at dksX1_nonce_0 5 rfl rfl)
theorem dX1_nonce_6 : decode cX1_nonce 6 = .ok (.invokestatic 29, 3) := dk_184 0 29 (dk_at dksX1_nonce_0 6 rfl rfl)
theorem dX1_nonce_9 : decode cX1_nonce 9 = .ok (.aload_n 0, 1) := dk_42 (dk_at dksX1_nonce_0 9 rfl rfl)
theorem dX1_nonce_10 : decode cX1_nonce 10 = .ok (.getfield 16, 3) := dk_180 0 16 (dk_at dksX1_nonce_0 10 rfl rfl)
theorem dX1_nonce_13 : decode cX1_nonce 13 = .ok (.iconst 4, 1) := dk_7 (dk_at dksX1_nonce_0 13 rfl rfl)
theorem dX1_nonce_14 : decode cX1_nonce 14 = .ok (.iload_n 2, 1) := dk_28 (dk_at dksX1_nonce_0 14 rfl rfl)
theorem dX1_nonce_15 : decode cX1_nonce 15 = .ok (.invokestatic 29, 3) := dk_184 0 29 (dk_at dksX1_nonce_0 15 rfl rfl)
theorem dX1_nonce_18 : decode cX1_nonce 18 = .ok (.aload_n 0, 1) := dk_42 (dk_at dksX1_nonce_0 18 rfl rfl)
theorem dX1_nonce_19 : decode cX1_nonce 19 = .ok (.getfield 16, 3) := dk_180 0 16 (dk_at dksX1_nonce_0 19 rfl rfl)
theorem dX1_nonce_22 : decode cX1_nonce 22 = .ok (.bipush 8, 2) := dk_16 8 (dk_at dksX1_nonce_0 22 rfl rfl)
theorem dX1_nonce_24 : decode cX1_nonce 24 = .ok (.iload_n 3, 1) := dk_29 (dk_at dksX1_nonce_1 0 rfl rfl)
theorem dX1_nonce_25 : decode cX1_nonce 25 = .ok (.invokestatic 29, 3) := dk_184 0 29 (dk_at dksX1_nonce_1 1 rfl rfl)
theorem dX1_nonce_28 : decode cX1_nonce 28 = .ok (.aload_n 0, 1) := dk_42 (dk_at dksX1_nonce_1 4 rfl rfl)
theorem dX1_nonce_29 : decode cX1_nonce 29 = .ok (.getfield 16, 3) := dk_180 0 16 (dk_at dksX1_nonce_1 5 rfl rfl)
theorem dX1_nonce_32 : decode cX1_nonce 32 = .ok (.bipush 12, 2) := dk_16 12 (dk_at dksX1_nonce_1 8 rfl rfl)
theorem dX1_nonce_34 : decode cX1_nonce 34 = .ok (.iload 4, 2) := dk_21 4 (dk_at dksX1_nonce_1 10 rfl rfl)
theorem dX1_nonce_36 : decode cX1_nonce 36 = .ok (.invokestatic 29, 3) := dk_184 0 29 (dk_at dksX1_nonce_1 12 rfl rfl)
theorem dX1_nonce_39 : decode cX1_nonce 39 = .ok (.return_, 1) := dk_177 (dk_at dksX1_nonce_1 15 rfl rfl)
theorem q10 : (Jvm.Cond.initialized "PaddedDesk") ∈ lw_all := lw_g (lw_at lw_m1 1 rfl) rfl
theorem q38 : (Jvm.Cond.instantiable "PaddedDesk" (7 : Nat)) ∈ lw_all := lw_g (lw_at lw_m1 29 rfl) rfl
theorem q40 : (Jvm.Cond.instanceMethod ({ cls := "PaddedDesk", name := "<init>", desc := "()V" } : Jvm.MethodName)) ∈ lw_all := lw_g (lw_at lw_m1 31 rfl) rfl
theorem q41 : (Jvm.Cond.code ({ cls := "PaddedDesk", name := "<init>", desc := "()V" } : Jvm.MethodName) prog_21_method_1_code (1 : Nat) (Option.none : Option Jvm.ClassFile.FieldType)) ∈ lw_all := lw_g (lw_at lw_m1 32 rfl) rfl
theorem q42 : (Jvm.Cond.methodLink "PaddedDesk" (1 : Nat) ({ cls := "java/lang/Object", name := "<init>", desc := "()V" } : Jvm.MethodName)) ∈ lw_all := lw_g (lw_at lw_m1 33 rfl) rfl
theorem q45 : (Jvm.Cond.fieldLink "PaddedDesk" (7 : Nat) "PaddedDesk" "text" "[B") ∈ lw_all := lw_g (lw_at lw_m1 36 rfl) rfl
theorem q46 : (Jvm.Cond.fieldLink "PaddedDesk" (25 : Nat) "PaddedDesk" "size" "I") ∈ lw_all := lw_g (lw_at lw_m1 37 rfl) rfl
theorem q47 : (Jvm.Cond.fieldLink "PaddedDesk" (13 : Nat) "PaddedDesk" "key" "[B") ∈ lw_all := lw_g (lw_at lw_m1 38 rfl) rfl
theorem q48 : (Jvm.Cond.fieldLink "PaddedDesk" (16 : Nat) "PaddedDesk" "nonce" "[B") ∈ lw_all := lw_g (lw_at lw_m1 39 rfl) rfl
theorem q49 : (Jvm.Cond.fieldLink "PaddedDesk" (42 : Nat) "PaddedDesk" "kind" "I") ∈ lw_all := lw_g (lw_at lw_m1 40 rfl) rfl
theorem q50 : (Jvm.Cond.fieldLink "PaddedDesk" (19 : Nat) "PaddedDesk" "sealed" "[B") ∈ lw_all := lw_g (lw_at lw_m1 41 rfl) rfl
theorem q51 : (Jvm.Cond.fieldLink "PaddedDesk" (22 : Nat) "PaddedDesk" "opened" "[B") ∈ lw_all := lw_g (lw_at lw_m1 42 rfl) rfl
theorem q52 : (Jvm.Cond.laysFinal "PaddedDesk" "PaddedDesk" "text" "[B") ∈ lw_all := lw_g (lw_at lw_m1 43 rfl) rfl
theorem q53 : (Jvm.Cond.soleField "PaddedDesk" "text") ∈ lw_all := lw_g (lw_at lw_m1 44 rfl) rfl
theorem q54 : (Jvm.Cond.lays "PaddedDesk" "PaddedDesk" "size" "I") ∈ lw_all := lw_g (lw_at lw_m1 45 rfl) rfl
theorem q55 : (Jvm.Cond.soleField "PaddedDesk" "size") ∈ lw_all := lw_g (lw_at lw_m1 46 rfl) rfl
theorem q56 : (Jvm.Cond.laysFinal "PaddedDesk" "PaddedDesk" "key" "[B") ∈ lw_all := lw_g (lw_at lw_m1 47 rfl) rfl
theorem q57 : (Jvm.Cond.soleField "PaddedDesk" "key") ∈ lw_all := lw_g (lw_at lw_m1 48 rfl) rfl
theorem q58 : (Jvm.Cond.laysFinal "PaddedDesk" "PaddedDesk" "nonce" "[B") ∈ lw_all := lw_g (lw_at lw_m1 49 rfl) rfl
theorem q59 : (Jvm.Cond.soleField "PaddedDesk" "nonce") ∈ lw_all := lw_g (lw_at lw_m1 50 rfl) rfl
theorem q60 : (Jvm.Cond.lays "PaddedDesk" "PaddedDesk" "kind" "I") ∈ lw_all := lw_g (lw_at lw_m1 51 rfl) rfl
theorem q61 : (Jvm.Cond.soleField "PaddedDesk" "kind") ∈ lw_all := lw_g (lw_at lw_m1 52 rfl) rfl
theorem q62 : (Jvm.Cond.lays "PaddedDesk" "PaddedDesk" "sealed" "[B") ∈ lw_all := lw_g (lw_at lw_m1 53 rfl) rfl
theorem q63 : (Jvm.Cond.soleField "PaddedDesk" "sealed") ∈ lw_all := lw_g (lw_at lw_m1 54 rfl) rfl
theorem q64 : (Jvm.Cond.lays "PaddedDesk" "PaddedDesk" "opened" "[B") ∈ lw_all := lw_g (lw_at lw_m1 55 rfl) rfl
theorem q65 : (Jvm.Cond.soleField "PaddedDesk" "opened") ∈ lw_all := lw_g (lw_at lw_m1 56 rfl) rfl
theorem q66 : (Jvm.Cond.superclass "PaddedDesk" "java/lang/Object") ∈ lw_all := lw_g (lw_at lw_m1 57 rfl) rfl
theorem q69 : (Jvm.Cond.instanceMethod ({ cls := "PaddedDesk", name := "put", desc := "(IIII)Z" } : Jvm.MethodName)) ∈ lw_all := lw_g (lw_at lw_m1 60 rfl) rfl
theorem q70 : (Jvm.Cond.selects "PaddedDesk" ({ cls := "PaddedDesk", name := "put", desc := "(IIII)Z" } : Jvm.MethodName) ({ cls := "PaddedDesk", name := "put", desc := "(IIII)Z" } : Jvm.MethodName)) ∈ lw_all := lw_g (lw_at lw_m1 61 rfl) rfl
theorem q71 : (Jvm.Cond.code ({ cls := "PaddedDesk", name := "put", desc := "(IIII)Z" } : Jvm.MethodName) prog_21_method_2_code (5 : Nat) (Option.some Jvm.ClassFile.FieldType.boolean)) ∈ lw_all := lw_g (lw_at lw_m1 62 rfl) rfl
theorem q72 : (Jvm.Cond.methodLink "PaddedDesk" (29 : Nat) ({ cls := "PaddedDesk", name := "word", desc := "([BII)V" } : Jvm.MethodName)) ∈ lw_all := lw_g (lw_at lw_m1 63 rfl) rfl
theorem q73 : (Jvm.Cond.static ({ cls := "PaddedDesk", name := "word", desc := "([BII)V" } : Jvm.MethodName)) ∈ lw_all := lw_g (lw_at lw_m1 64 rfl) rfl
theorem q74 : (Jvm.Cond.code ({ cls := "PaddedDesk", name := "word", desc := "([BII)V" } : Jvm.MethodName) prog_21_method_3_code (3 : Nat) (Option.none : Option Jvm.ClassFile.FieldType)) ∈ lw_all := lw_g (lw_at lw_m1 65 rfl) rfl
theorem q76 : (Jvm.Cond.instanceMethod ({ cls := "PaddedDesk", name := "trim", desc := "(I)V" } : Jvm.MethodName)) ∈ lw_all := lw_g (lw_at lw_m1 67 rfl) rfl
theorem q77 : (Jvm.Cond.selects "PaddedDesk" ({ cls := "PaddedDesk", name := "trim", desc := "(I)V" } : Jvm.MethodName) ({ cls := "PaddedDesk", name := "trim", desc := "(I)V" } : Jvm.MethodName)) ∈ lw_all := lw_g (lw_at lw_m1 68 rfl) rfl
theorem q78 : (Jvm.Cond.code ({ cls := "PaddedDesk", name := "trim", desc := "(I)V" } : Jvm.MethodName) prog_21_method_4_code (2 : Nat) (Option.none : Option Jvm.ClassFile.FieldType)) ∈ lw_all := lw_g (lw_at lw_m1 69 rfl) rfl
theorem q79 : (Jvm.Cond.methodLink "PaddedDesk" (33 : Nat) ({ cls := "PaddedDesk", name := "from", desc := "(I)I" } : Jvm.MethodName)) ∈ lw_all := lw_g (lw_at lw_m1 70 rfl) rfl
theorem q80 : (Jvm.Cond.privateMethod ({ cls := "PaddedDesk", name := "from", desc := "(I)I" } : Jvm.MethodName)) ∈ lw_tbl := lw_at lw_m1 71 rfl
theorem q81 : (Jvm.Cond.instanceMethod ({ cls := "PaddedDesk", name := "from", desc := "(I)I" } : Jvm.MethodName)) ∈ lw_all := lw_g (lw_at lw_m1 72 rfl) rfl
theorem q82 : (Jvm.Cond.code ({ cls := "PaddedDesk", name := "from", desc := "(I)I" } : Jvm.MethodName) prog_21_method_5_code (2 : Nat) (Option.some Jvm.ClassFile.FieldType.int)) ∈ lw_all := lw_g (lw_at lw_m1 73 rfl) rfl
theorem q83 : (Jvm.Cond.constant "PaddedDesk" (37 : Nat) (2147483647 : Int32)) ∈ lw_all := lw_g (lw_at lw_m1 74 rfl) rfl
theorem q85 : (Jvm.Cond.instanceMethod ({ cls := "PaddedDesk", name := "key", desc := "(IIIII)V" } : Jvm.MethodName)) ∈ lw_all := lw_g (lw_at lw_m1 76 rfl) rfl
theorem q86 : (Jvm.Cond.selects "PaddedDesk" ({ cls := "PaddedDesk", name := "key", desc := "(IIIII)V" } : Jvm.MethodName) ({ cls := "PaddedDesk", name := "key", desc := "(IIIII)V" } : Jvm.MethodName)) ∈ lw_all := lw_g (lw_at lw_m1 77 rfl) rfl
theorem q87 : (Jvm.Cond.code ({ cls := "PaddedDesk", name := "key", desc := "(IIIII)V" } : Jvm.MethodName) prog_21_method_8_code (7 : Nat) (Option.none : Option Jvm.ClassFile.FieldType)) ∈ lw_all := lw_g (lw_at lw_m1 78 rfl) rfl
theorem q89 : (Jvm.Cond.instanceMethod ({ cls := "PaddedDesk", name := "kind", desc := "(I)V" } : Jvm.MethodName)) ∈ lw_all := lw_g (lw_at lw_m1 80 rfl) rfl
theorem q90 : (Jvm.Cond.selects "PaddedDesk" ({ cls := "PaddedDesk", name := "kind", desc := "(I)V" } : Jvm.MethodName) ({ cls := "PaddedDesk", name := "kind", desc := "(I)V" } : Jvm.MethodName)) ∈ lw_all := lw_g (lw_at lw_m1 81 rfl) rfl
theorem q91 : (Jvm.Cond.code ({ cls := "PaddedDesk", name := "kind", desc := "(I)V" } : Jvm.MethodName) prog_21_method_10_code (2 : Nat) (Option.none : Option Jvm.ClassFile.FieldType)) ∈ lw_all := lw_g (lw_at lw_m1 82 rfl) rfl
theorem q93 : (Jvm.Cond.instanceMethod ({ cls := "PaddedDesk", name := "seal", desc := "(III)I" } : Jvm.MethodName)) ∈ lw_all := lw_g (lw_at lw_m1 84 rfl) rfl
theorem q94 : (Jvm.Cond.selects "PaddedDesk" ({ cls := "PaddedDesk", name := "seal", desc := "(III)I" } : Jvm.MethodName) ({ cls := "PaddedDesk", name := "seal", desc := "(III)I" } : Jvm.MethodName)) ∈ lw_all := lw_g (lw_at lw_m1 85 rfl) rfl
theorem q95 : (Jvm.Cond.code ({ cls := "PaddedDesk", name := "seal", desc := "(III)I" } : Jvm.MethodName) prog_21_method_12_code (6 : Nat) (Option.some Jvm.ClassFile.FieldType.int)) ∈ lw_all := lw_g (lw_at lw_m1 86 rfl) rfl
theorem q96 : (Jvm.Cond.methodLink "PaddedDesk" (38 : Nat) ({ cls := "PaddedDesk", name := "count", desc := "(II)I" } : Jvm.MethodName)) ∈ lw_all := lw_g (lw_at lw_m1 87 rfl) rfl
theorem q97 : (Jvm.Cond.privateMethod ({ cls := "PaddedDesk", name := "count", desc := "(II)I" } : Jvm.MethodName)) ∈ lw_tbl := lw_at lw_m1 88 rfl
theorem q98 : (Jvm.Cond.instanceMethod ({ cls := "PaddedDesk", name := "count", desc := "(II)I" } : Jvm.MethodName)) ∈ lw_all := lw_g (lw_at lw_m1 89 rfl) rfl
theorem q99 : (Jvm.Cond.code ({ cls := "PaddedDesk", name := "count", desc := "(II)I" } : Jvm.MethodName) prog_21_method_6_code (3 : Nat) (Option.some Jvm.ClassFile.FieldType.int)) ∈ lw_all := lw_g (lw_at lw_m1 90 rfl) rfl
theorem q100 : (Jvm.Cond.methodLink "PaddedDesk" (94 : Nat) ({ cls := "PaddedDesk", name := "run", desc := "(Z[BIII)[B" } : Jvm.MethodName)) ∈ lw_all := lw_g (lw_at lw_m1 91 rfl) rfl
theorem q101 : (Jvm.Cond.privateMethod ({ cls := "PaddedDesk", name := "run", desc := "(Z[BIII)[B" } : Jvm.MethodName)) ∈ lw_tbl := lw_at lw_m1 92 rfl
theorem q102 : (Jvm.Cond.instanceMethod ({ cls := "PaddedDesk", name := "run", desc := "(Z[BIII)[B" } : Jvm.MethodName)) ∈ lw_all := lw_g (lw_at lw_m1 93 rfl) rfl
theorem q103 : (Jvm.Cond.codeWith ({ cls := "PaddedDesk", name := "run", desc := "(Z[BIII)[B" } : Jvm.MethodName) prog_21_method_11_code (14 : Nat) (Option.some (Jvm.ClassFile.FieldType.array Jvm.ClassFile.FieldType.byte)) [((217 : Nat), (231 : Nat), (234 : Nat), (92 : Nat))]) ∈ lw_all := lw_g (lw_at lw_m1 94 rfl) rfl
theorem q104 : (Jvm.Cond.classLink "PaddedDesk" (92 : Nat) "InvalidCipherTextException") ∈ lw_all := lw_g (lw_at lw_m1 95 rfl) rfl
theorem q105 : (Jvm.Cond.classLink "PaddedDesk" (45 : Nat) "PKCS7Padding") ∈ lw_all := lw_g (lw_at lw_m1 96 rfl) rfl
theorem q107 : (Jvm.Cond.methodLink "PaddedDesk" (47 : Nat) ({ cls := "PKCS7Padding", name := "<init>", desc := "()V" } : Jvm.MethodName)) ∈ lw_all := lw_g (lw_at lw_m1 98 rfl) rfl
theorem q112 : (Jvm.Cond.classLink "PaddedDesk" (48 : Nat) "ISO7816d4Padding") ∈ lw_all := lw_g (lw_at lw_m1 103 rfl) rfl
theorem q114 : (Jvm.Cond.methodLink "PaddedDesk" (50 : Nat) ({ cls := "ISO7816d4Padding", name := "<init>", desc := "()V" } : Jvm.MethodName)) ∈ lw_all := lw_g (lw_at lw_m1 105 rfl) rfl
theorem q119 : (Jvm.Cond.classLink "PaddedDesk" (51 : Nat) "ZeroBytePadding") ∈ lw_all := lw_g (lw_at lw_m1 110 rfl) rfl
theorem q121 : (Jvm.Cond.methodLink "PaddedDesk" (53 : Nat) ({ cls := "ZeroBytePadding", name := "<init>", desc := "()V" } : Jvm.MethodName)) ∈ lw_all := lw_g (lw_at lw_m1 112 rfl) rfl
theorem q126 : (Jvm.Cond.classLink "PaddedDesk" (54 : Nat) "PaddedBufferedBlockCipher") ∈ lw_all := lw_g (lw_at lw_m1 117 rfl) rfl
theorem q128 : (Jvm.Cond.classLink "PaddedDesk" (56 : Nat) "CBCBlockCipher") ∈ lw_all := lw_g (lw_at lw_m1 119 rfl) rfl
theorem q130 : (Jvm.Cond.classLink "PaddedDesk" (58 : Nat) "AESEngine") ∈ lw_all := lw_g (lw_at lw_m1 121 rfl) rfl
theorem q132 : (Jvm.Cond.methodLink "PaddedDesk" (60 : Nat) ({ cls := "AESEngine", name := "<init>", desc := "()V" } : Jvm.MethodName)) ∈ lw_all := lw_g (lw_at lw_m1 123 rfl) rfl
theorem q152 : (Jvm.Cond.methodLink "PaddedDesk" (61 : Nat) ({ cls := "CBCBlockCipher", name := "<init>", desc := "(LBlockCipher;)V" } : Jvm.MethodName)) ∈ lw_all := lw_g (lw_at lw_m1 143 rfl) rfl
theorem q191 : (Jvm.Cond.methodLink "PaddedDesk" (64 : Nat) ({ cls := "PaddedBufferedBlockCipher", name := "<init>", desc := "(LBlockCipher;LBlockCipherPadding;)V" } : Jvm.MethodName)) ∈ lw_all := lw_g (lw_at lw_m1 182 rfl) rfl
theorem q226 : (Jvm.Cond.classLink "PaddedDesk" (67 : Nat) "ParametersWithIV") ∈ lw_all := lw_g (lw_at lw_m1 217 rfl) rfl
theorem q228 : (Jvm.Cond.classLink "PaddedDesk" (69 : Nat) "KeyParameter") ∈ lw_all := lw_g (lw_at lw_m1 219 rfl) rfl
theorem q230 : (Jvm.Cond.methodLink "PaddedDesk" (71 : Nat) ({ cls := "KeyParameter", name := "<init>", desc := "([B)V" } : Jvm.MethodName)) ∈ lw_all := lw_g (lw_at lw_m1 221 rfl) rfl
theorem q247 : (Jvm.Cond.methodLink "PaddedDesk" (74 : Nat) ({ cls := "ParametersWithIV", name := "<init>", desc := "(LCipherParameters;[B)V" } : Jvm.MethodName)) ∈ lw_all := lw_g (lw_at lw_m1 238 rfl) rfl
theorem q262 : (Jvm.Cond.methodLink "PaddedDesk" (77 : Nat) ({ cls := "PaddedBufferedBlockCipher", name := "init", desc := "(ZLCipherParameters;)V" } : Jvm.MethodName)) ∈ lw_all := lw_g (lw_at lw_m2 13 rfl) rfl
theorem q494 : (Jvm.Cond.methodLink "PaddedDesk" (81 : Nat) ({ cls := "PaddedBufferedBlockCipher", name := "getOutputSize", desc := "(I)I" } : Jvm.MethodName)) ∈ lw_all := lw_g (lw_at lw_m3 5 rfl) rfl
theorem q498 : (Jvm.Cond.methodLink "PaddedDesk" (84 : Nat) ({ cls := "PaddedBufferedBlockCipher", name := "processBytes", desc := "([BII[BI)I" } : Jvm.MethodName)) ∈ lw_all := lw_g (lw_at lw_m3 9 rfl) rfl
theorem q608 : (Jvm.Cond.methodLink "PaddedDesk" (88 : Nat) ({ cls := "PaddedBufferedBlockCipher", name := "doFinal", desc := "([BI)I" } : Jvm.MethodName)) ∈ lw_all := lw_g (lw_at lw_m3 119 rfl) rfl
theorem q677 : (Jvm.Cond.instanceMethod ({ cls := "PaddedDesk", name := "open", desc := "(I)I" } : Jvm.MethodName)) ∈ lw_all := lw_g (lw_at lw_m3 188 rfl) rfl
theorem q678 : (Jvm.Cond.selects "PaddedDesk" ({ cls := "PaddedDesk", name := "open", desc := "(I)I" } : Jvm.MethodName) ({ cls := "PaddedDesk", name := "open", desc := "(I)I" } : Jvm.MethodName)) ∈ lw_all := lw_g (lw_at lw_m3 189 rfl) rfl
theorem q679 : (Jvm.Cond.code ({ cls := "PaddedDesk", name := "open", desc := "(I)I" } : Jvm.MethodName) prog_21_method_13_code (3 : Nat) (Option.some Jvm.ClassFile.FieldType.int)) ∈ lw_all := lw_g (lw_at lw_m3 190 rfl) rfl
theorem q681 : (Jvm.Cond.instanceMethod ({ cls := "PaddedDesk", name := "spoil", desc := "(II)Z" } : Jvm.MethodName)) ∈ lw_all := lw_g (lw_at lw_m3 192 rfl) rfl
theorem q682 : (Jvm.Cond.selects "PaddedDesk" ({ cls := "PaddedDesk", name := "spoil", desc := "(II)Z" } : Jvm.MethodName) ({ cls := "PaddedDesk", name := "spoil", desc := "(II)Z" } : Jvm.MethodName)) ∈ lw_all := lw_g (lw_at lw_m3 193 rfl) rfl
theorem q683 : (Jvm.Cond.code ({ cls := "PaddedDesk", name := "spoil", desc := "(II)Z" } : Jvm.MethodName) prog_21_method_14_code (3 : Nat) (Option.some Jvm.ClassFile.FieldType.boolean)) ∈ lw_all := lw_g (lw_at lw_m3 194 rfl) rfl
theorem q685 : (Jvm.Cond.instanceMethod ({ cls := "PaddedDesk", name := "sealed", desc := "(I)I" } : Jvm.MethodName)) ∈ lw_all := lw_g (lw_at lw_m3 196 rfl) rfl
theorem q686 : (Jvm.Cond.selects "PaddedDesk" ({ cls := "PaddedDesk", name := "sealed", desc := "(I)I" } : Jvm.MethodName) ({ cls := "PaddedDesk", name := "sealed", desc := "(I)I" } : Jvm.MethodName)) ∈ lw_all := lw_g (lw_at lw_m3 197 rfl) rfl
theorem q687 : (Jvm.Cond.code ({ cls := "PaddedDesk", name := "sealed", desc := "(I)I" } : Jvm.MethodName) prog_21_method_15_code (2 : Nat) (Option.some Jvm.ClassFile.FieldType.int)) ∈ lw_all := lw_g (lw_at lw_m3 198 rfl) rfl
theorem q689 : (Jvm.Cond.instanceMethod ({ cls := "PaddedDesk", name := "opened", desc := "(I)I" } : Jvm.MethodName)) ∈ lw_all := lw_g (lw_at lw_m3 200 rfl) rfl
theorem q690 : (Jvm.Cond.selects "PaddedDesk" ({ cls := "PaddedDesk", name := "opened", desc := "(I)I" } : Jvm.MethodName) ({ cls := "PaddedDesk", name := "opened", desc := "(I)I" } : Jvm.MethodName)) ∈ lw_all := lw_g (lw_at lw_m3 201 rfl) rfl
theorem q691 : (Jvm.Cond.code ({ cls := "PaddedDesk", name := "opened", desc := "(I)I" } : Jvm.MethodName) prog_21_method_16_code (2 : Nat) (Option.some Jvm.ClassFile.FieldType.int)) ∈ lw_all := lw_g (lw_at lw_m3 202 rfl) rfl
theorem q736 : (Jvm.Cond.instanceMethod ({ cls := "PaddedDesk", name := "nonce", desc := "(IIII)V" } : Jvm.MethodName)) ∈ lw_all := lw_g (lw_at lw_m4 7 rfl) rfl
theorem q737 : (Jvm.Cond.selects "PaddedDesk" ({ cls := "PaddedDesk", name := "nonce", desc := "(IIII)V" } : Jvm.MethodName) ({ cls := "PaddedDesk", name := "nonce", desc := "(IIII)V" } : Jvm.MethodName)) ∈ lw_all := lw_g (lw_at lw_m4 8 rfl) rfl
theorem q738 : (Jvm.Cond.code ({ cls := "PaddedDesk", name := "nonce", desc := "(IIII)V" } : Jvm.MethodName) prog_21_method_9_code (5 : Nat) (Option.none : Option Jvm.ClassFile.FieldType)) ∈ lw_all := lw_g (lw_at lw_m4 9 rfl) rfl
theorem in_X1 : ∀ w ∈ wsX10, w ∈ lw_all := lw_in wsX10 [52, 54, 56, 58, 60, 62, 64] (by decide +kernel) (by decide +kernel)
/-! PKCS7Padding -/
set_option maxRecDepth 100000
def RX2 : String := "PKCS7Padding"
abbrev cX2_init : ByteArray := prog_18_method_1_code
def yX2_init : MethodName := ⟨RX2, "<init>", "()V"⟩
theorem dX2_init_0 : decode cX2_init 0 = .ok (.aload_n 0, 1) := by decide +kernel
theorem dX2_init_1 : decode cX2_init 1 = .ok (.invokespecial 1, 3) := by decide +kernel
theorem dX2_init_4 : decode cX2_init 4 = .ok (.return_, 1) := by decide +kernel
abbrev cX2_init_2 : ByteArray := prog_18_method_2_code
def yX2_init_2 : MethodName := ⟨RX2, "init", "(Ljava/security/SecureRandom;)V"⟩
theorem dX2_init_2_0 : decode cX2_init_2 0 = .ok (.return_, 1) := by decide +kernel
abbrev cX2_addPadding : ByteArray := prog_18_method_3_code
def yX2_addPadding : MethodName := ⟨RX2, "addPadding", "([BI)I"⟩
def dkwX2_addPadding_0 : List UInt8 := [43, 190, 28, 100, 145, 62, 28, 43, 190, 162, 0, 13, 43, 28, 29, 84, 132, 2, 1, 167, 255, 243, 29, 172]
abbrev dktX2_addPadding_0 : List UInt8 := dkwX2_addPadding_0 ++ []
theorem dksX2_addPadding_0 : cX2_addPadding.data.toList.drop 0 = dktX2_addPadding_0 := by decide +kernel
theorem dX2_addPadding_0 : decode cX2_addPadding 0 = .ok (.aload_n 1, 1) := dk_43 (dk_at dksX2_addPadding_0 0 rfl rfl)
theorem dX2_addPadding_1 : decode cX2_addPadding 1 = .ok (.arraylength, 1) := dk_190 (dk_at dksX2_addPadding_0 1 rfl rfl)
theorem dX2_addPadding_2 : decode cX2_addPadding 2 = .ok (.iload_n 2, 1) := dk_28 (dk_at dksX2_addPadding_0 2 rfl rfl)
theorem dX2_addPadding_3 : decode cX2_addPadding 3 = .ok (.isub, 1) := dk_100 (dk_at dksX2_addPadding_0 3 rfl rfl)
theorem dX2_addPadding_4 : decode cX2_addPadding 4 = .ok (.i2b, 1) := dk_145 (dk_at dksX2_addPadding_0 4 rfl rfl)
theorem dX2_addPadding_5 : decode cX2_addPadding 5 = .ok (.istore_n 3, 1) := dk_62 (dk_at dksX2_addPadding_0 5 rfl rfl)
theorem dX2_addPadding_6 : decode cX2_addPadding 6 = .ok (.iload_n 2, 1) := dk_28 (dk_at dksX2_addPadding_0 6 rfl rfl)
theorem dX2_addPadding_7 : decode cX2_addPadding 7 = .ok (.aload_n 1, 1) := dk_43 (dk_at dksX2_addPadding_0 7 rfl rfl)
theorem dX2_addPadding_8 : decode cX2_addPadding 8 = .ok (.arraylength, 1) := dk_190 (dk_at dksX2_addPadding_0 8 rfl rfl)
theorem dX2_addPadding_9 : decode cX2_addPadding 9 = .ok (.if_icmp .ge 13, 3) := dk_162 0 13 (dk_at dksX2_addPadding_0 9 rfl rfl)
theorem dX2_addPadding_12 : decode cX2_addPadding 12 = .ok (.aload_n 1, 1) := dk_43 (dk_at dksX2_addPadding_0 12 rfl rfl)
theorem dX2_addPadding_13 : decode cX2_addPadding 13 = .ok (.iload_n 2, 1) := dk_28 (dk_at dksX2_addPadding_0 13 rfl rfl)
theorem dX2_addPadding_14 : decode cX2_addPadding 14 = .ok (.iload_n 3, 1) := dk_29 (dk_at dksX2_addPadding_0 14 rfl rfl)
theorem dX2_addPadding_15 : decode cX2_addPadding 15 = .ok (.bastore, 1) := dk_84 (dk_at dksX2_addPadding_0 15 rfl rfl)
theorem dX2_addPadding_16 : decode cX2_addPadding 16 = .ok (.iinc 2 1, 3) := dk_132 2 1 (dk_at dksX2_addPadding_0 16 rfl rfl)
theorem dX2_addPadding_19 : decode cX2_addPadding 19 = .ok (.goto (-13), 3) := dk_167 255 243 (dk_at dksX2_addPadding_0 19 rfl rfl)
theorem dX2_addPadding_22 : decode cX2_addPadding 22 = .ok (.iload_n 3, 1) := dk_29 (dk_at dksX2_addPadding_0 22 rfl rfl)
theorem dX2_addPadding_23 : decode cX2_addPadding 23 = .ok (.ireturn, 1) := dk_172 (dk_at dksX2_addPadding_0 23 rfl rfl)
abbrev cX2_padCount : ByteArray := prog_18_method_4_code
def yX2_padCount : MethodName := ⟨RX2, "padCount", "([B)I"⟩
def dkwX2_padCount_3 : List UInt8 := [153, 0, 13, 187, 0, 7, 89, 18, 9, 183, 0, 11, 191, 29, 172]
abbrev dktX2_padCount_3 : List UInt8 := dkwX2_padCount_3 ++ []
def dkwX2_padCount_2 : List UInt8 := [21, 6, 21, 4, 100, 16, 31, 122, 2, 130, 126, 128, 54, 5, 132, 6, 1, 167, 255, 224, 21, 5]
abbrev dktX2_padCount_2 : List UInt8 := dkwX2_padCount_2 ++ dktX2_padCount_3
def dkwX2_padCount_1 : List UInt8 := [128, 16, 31, 122, 54, 5, 3, 54, 6, 21, 6, 43, 190, 162, 0, 31, 21, 5, 43, 21, 6, 51, 28, 130]
abbrev dktX2_padCount_1 : List UInt8 := dkwX2_padCount_1 ++ dktX2_padCount_2
def dkwX2_padCount_0 : List UInt8 := [43, 43, 190, 4, 100, 51, 61, 28, 17, 0, 255, 126, 62, 43, 190, 29, 100, 54, 4, 21, 4, 29, 4, 100]
abbrev dktX2_padCount_0 : List UInt8 := dkwX2_padCount_0 ++ dktX2_padCount_1
theorem dksX2_padCount_0 : cX2_padCount.data.toList.drop 0 = dktX2_padCount_0 := by decide +kernel
theorem dksX2_padCount_1 : cX2_padCount.data.toList.drop 24 = dktX2_padCount_1 := dk_seg dksX2_padCount_0 24 rfl rfl
theorem dksX2_padCount_2 : cX2_padCount.data.toList.drop 48 = dktX2_padCount_2 := dk_seg dksX2_padCount_1 24 rfl rfl
theorem dksX2_padCount_3 : cX2_padCount.data.toList.drop 70 = dktX2_padCount_3 := dk_seg dksX2_padCount_2 22 rfl rfl
theorem dX2_padCount_0 : decode cX2_padCount 0 = .ok (.aload_n 1, 1) := dk_43 (dk_at dksX2_padCount_0 0 rfl rfl)
theorem dX2_padCount_1 : decode cX2_padCount 1 = .ok (.aload_n 1, 1) := dk_43 (dk_at dksX2_padCount_0 1 rfl rfl)
theorem dX2_padCount_2 : decode cX2_padCount 2 = .ok (.arraylength, 1) := dk_190 (dk_at dksX2_padCount_0 2 rfl rfl)
theorem dX2_padCount_3 : decode cX2_padCount 3 = .ok (.iconst 1, 1) := dk_4 (dk_at dksX2_padCount_0 3 rfl rfl)
theorem dX2_padCount_4 : decode cX2_padCount 4 = .ok (.isub, 1) := dk_100 (dk_at dksX2_padCount_0 4 rfl rfl)
theorem dX2_padCount_5 : decode cX2_padCount 5 = .ok (.baload, 1) := dk_51 (dk_at dksX2_padCount_0 5 rfl rfl)
theorem dX2_padCount_6 : decode cX2_padCount 6 = .ok (.istore_n 2, 1) := dk_61 (dk_at dksX2_padCount_0 6 rfl rfl)
theorem dX2_padCount_7 : decode cX2_padCount 7 = .ok (.iload_n 2, 1) := dk_28 (dk_at dksX2_padCount_0 7 rfl rfl)
theorem dX2_padCount_8 : decode cX2_padCount 8 = .ok (.sipush 255, 3) := dk_17 0 255 (dk_at dksX2_padCount_0 8 rfl rfl)
theorem dX2_padCount_11 : decode cX2_padCount 11 = .ok (.iand, 1) := dk_126 (dk_at dksX2_padCount_0 11 rfl rfl)
theorem dX2_padCount_12 : decode cX2_padCount 12 = .ok (.istore_n 3, 1) := dk_62 (dk_at dksX2_padCount_0 12 rfl rfl)
theorem dX2_padCount_13 : decode cX2_padCount 13 = .ok (.aload_n 1, 1) := dk_43 (dk_at dksX2_padCount_0 13 rfl rfl)
theorem dX2_padCount_14 : decode cX2_padCount 14 = .ok (.arraylength, 1) := dk_190 (dk_at dksX2_padCount_0 14 rfl rfl)
theorem dX2_padCount_15 : decode cX2_padCount 15 = .ok (.iload_n 3, 1) := dk_29 (dk_at dksX2_padCount_0 15 rfl rfl)
theorem dX2_padCount_16 : decode cX2_padCount 16 = .ok (.isub, 1) := dk_100 (dk_at dksX2_padCount_0 16 rfl rfl)
theorem dX2_padCount_17 : decode cX2_padCount 17 = .ok (.istore 4, 2) := dk_54 4 (dk_at dksX2_padCount_0 17 rfl rfl)
theorem dX2_padCount_19 : decode cX2_padCount 19 = .ok (.iload 4, 2) := dk_21 4 (dk_at dksX2_padCount_0 19 rfl rfl)
theorem dX2_padCount_21 : decode cX2_padCount 21 = .ok (.iload_n 3, 1) := dk_29 (dk_at dksX2_padCount_0 21 rfl rfl)
theorem dX2_padCount_22 : decode cX2_padCount 22 = .ok (.iconst 1, 1) := dk_4 (dk_at dksX2_padCount_0 22 rfl rfl)
theorem dX2_padCount_23 : decode cX2_padCount 23 = .ok (.isub, 1) := dk_100 (dk_at dksX2_padCount_0 23 rfl rfl)
theorem dX2_padCount_24 : decode cX2_padCount 24 = .ok (.ior, 1) := dk_128 (dk_at dksX2_padCount_1 0 rfl rfl)
theorem dX2_padCount_25 : decode cX2_padCount 25 = .ok (.bipush 31, 2) := dk_16 31 (dk_at dksX2_padCount_1 1 rfl rfl)
theorem dX2_padCount_27 : decode cX2_padCount 27 = .ok (.ishr, 1) := dk_122 (dk_at dksX2_padCount_1 3 rfl rfl)
theorem dX2_padCount_28 : decode cX2_padCount 28 = .ok (.istore 5, 2) := dk_54 5 (dk_at dksX2_padCount_1 4 rfl rfl)
theorem dX2_padCount_30 : decode cX2_padCount 30 = .ok (.iconst 0, 1) := dk_3 (dk_at dksX2_padCount_1 6 rfl rfl)
theorem dX2_padCount_31 : decode cX2_padCount 31 = .ok (.istore 6, 2) := dk_54 6 (dk_at dksX2_padCount_1 7 rfl rfl)
theorem dX2_padCount_33 : decode cX2_padCount 33 = .ok (.iload 6, 2) := dk_21 6 (dk_at dksX2_padCount_1 9 rfl rfl)
theorem dX2_padCount_35 : decode cX2_padCount 35 = .ok (.aload_n 1, 1) := dk_43 (dk_at dksX2_padCount_1 11 rfl rfl)
theorem dX2_padCount_36 : decode cX2_padCount 36 = .ok (.arraylength, 1) := dk_190 (dk_at dksX2_padCount_1 12 rfl rfl)
theorem dX2_padCount_37 : decode cX2_padCount 37 = .ok (.if_icmp .ge 31, 3) := dk_162 0 31 (dk_at dksX2_padCount_1 13 rfl rfl)
theorem dX2_padCount_40 : decode cX2_padCount 40 = .ok (.iload 5, 2) := dk_21 5 (dk_at dksX2_padCount_1 16 rfl rfl)
theorem dX2_padCount_42 : decode cX2_padCount 42 = .ok (.aload_n 1, 1) := dk_43 (dk_at dksX2_padCount_1 18 rfl rfl)
theorem dX2_padCount_43 : decode cX2_padCount 43 = .ok (.iload 6, 2) := dk_21 6 (dk_at dksX2_padCount_1 19 rfl rfl)
theorem dX2_padCount_45 : decode cX2_padCount 45 = .ok (.baload, 1) := dk_51 (dk_at dksX2_padCount_1 21 rfl rfl)
theorem dX2_padCount_46 : decode cX2_padCount 46 = .ok (.iload_n 2, 1) := dk_28 (dk_at dksX2_padCount_1 22 rfl rfl)
theorem dX2_padCount_47 : decode cX2_padCount 47 = .ok (.ixor, 1) := dk_130 (dk_at dksX2_padCount_1 23 rfl rfl)
theorem dX2_padCount_48 : decode cX2_padCount 48 = .ok (.iload 6, 2) := dk_21 6 (dk_at dksX2_padCount_2 0 rfl rfl)
theorem dX2_padCount_50 : decode cX2_padCount 50 = .ok (.iload 4, 2) := dk_21 4 (dk_at dksX2_padCount_2 2 rfl rfl)
theorem dX2_padCount_52 : decode cX2_padCount 52 = .ok (.isub, 1) := dk_100 (dk_at dksX2_padCount_2 4 rfl rfl)
theorem dX2_padCount_53 : decode cX2_padCount 53 = .ok (.bipush 31, 2) := dk_16 31 (dk_at dksX2_padCount_2 5 rfl rfl)
theorem dX2_padCount_55 : decode cX2_padCount 55 = .ok (.ishr, 1) := dk_122 (dk_at dksX2_padCount_2 7 rfl rfl)
theorem dX2_padCount_56 : decode cX2_padCount 56 = .ok (.iconst (-1), 1) := dk_2 (dk_at dksX2_padCount_2 8 rfl rfl)
theorem dX2_padCount_57 : decode cX2_padCount 57 = .ok (.ixor, 1) := dk_130 (dk_at dksX2_padCount_2 9 rfl rfl)
theorem dX2_padCount_58 : decode cX2_padCount 58 = .ok (.iand, 1) := dk_126 (dk_at dksX2_padCount_2 10 rfl rfl)
theorem dX2_padCount_59 : decode cX2_padCount 59 = .ok (.ior, 1) := dk_128 (dk_at dksX2_padCount_2 11 rfl rfl)
theorem dX2_padCount_60 : decode cX2_padCount 60 = .ok (.istore 5, 2) := dk_54 5 (dk_at dksX2_padCount_2 12 rfl rfl)
theorem dX2_padCount_62 : decode cX2_padCount 62 = .ok (.iinc 6 1, 3) := dk_132 6 1 (dk_at dksX2_padCount_2 14 rfl rfl)
theorem dX2_padCount_65 : decode cX2_padCount 65 = .ok (.goto (-32), 3) := dk_167 255 224 (dk_at dksX2_padCount_2 17 rfl rfl)
theorem dX2_padCount_68 : decode cX2_padCount 68 = .ok (.iload 5, 2) := dk_21 5 (dk_at dksX2_padCount_2 20 rfl rfl)
theorem dX2_padCount_70 : decode cX2_padCount 70 = .ok (.ifCond .eq 13, 3) := dk_153 0 13 (dk_at dksX2_padCount_3 0 rfl rfl)
theorem dX2_padCount_73 : decode cX2_padCount 73 = .ok (.new 7, 3) := dk_187 0 7 (dk_at dksX2_padCount_3 3 rfl rfl)
theorem dX2_padCount_76 : decode cX2_padCount 76 = .ok (.dup, 1) := dk_89 (dk_at dksX2_padCount_3 6 rfl rfl)
theorem dX2_padCount_77 : decode cX2_padCount 77 = .ok (.ldc 9, 2) := dk_18 9 (dk_at dksX2_padCount_3 7 rfl rfl)
theorem dX2_padCount_79 : decode cX2_padCount 79 = .ok (.invokespecial 11, 3) := dk_183 0 11 (dk_at dksX2_padCount_3 9 rfl rfl)
theorem dX2_padCount_82 : decode cX2_padCount 82 = .ok (.athrow, 1) := dk_191 (dk_at dksX2_padCount_3 12 rfl rfl)
theorem dX2_padCount_83 : decode cX2_padCount 83 = .ok (.iload_n 3, 1) := dk_29 (dk_at dksX2_padCount_3 13 rfl rfl)
theorem dX2_padCount_84 : decode cX2_padCount 84 = .ok (.ireturn, 1) := dk_172 (dk_at dksX2_padCount_3 14 rfl rfl)
theorem q11 : (Jvm.Cond.initialized "PKCS7Padding") ∈ lw_all := lw_g (lw_at lw_m1 2 rfl) rfl
theorem q106 : (Jvm.Cond.instantiable "PKCS7Padding" (0 : Nat)) ∈ lw_all := lw_g (lw_at lw_m1 97 rfl) rfl
theorem q108 : (Jvm.Cond.instanceMethod ({ cls := "PKCS7Padding", name := "<init>", desc := "()V" } : Jvm.MethodName)) ∈ lw_all := lw_g (lw_at lw_m1 99 rfl) rfl
theorem q109 : (Jvm.Cond.code ({ cls := "PKCS7Padding", name := "<init>", desc := "()V" } : Jvm.MethodName) prog_18_method_1_code (1 : Nat) (Option.none : Option Jvm.ClassFile.FieldType)) ∈ lw_all := lw_g (lw_at lw_m1 100 rfl) rfl
theorem q110 : (Jvm.Cond.methodLink "PKCS7Padding" (1 : Nat) ({ cls := "java/lang/Object", name := "<init>", desc := "()V" } : Jvm.MethodName)) ∈ lw_all := lw_g (lw_at lw_m1 101 rfl) rfl
theorem q111 : (Jvm.Cond.superclass "PKCS7Padding" "java/lang/Object") ∈ lw_all := lw_g (lw_at lw_m1 102 rfl) rfl
theorem q379 : (Jvm.Cond.castable "PKCS7Padding" "BlockCipherPadding") ∈ lw_tbl := lw_at lw_m2 130 rfl
theorem q380 : (Jvm.Cond.selects "PKCS7Padding" ({ cls := "BlockCipherPadding", name := "init", desc := "(Ljava/security/SecureRandom;)V" } : Jvm.MethodName) ({ cls := "PKCS7Padding", name := "init", desc := "(Ljava/security/SecureRandom;)V" } : Jvm.MethodName)) ∈ lw_all := lw_g (lw_at lw_m2 131 rfl) rfl
theorem q381 : (Jvm.Cond.unhidden "PKCS7Padding" "init" "(Ljava/security/SecureRandom;)V") ∈ lw_tbl := lw_at lw_m2 132 rfl
theorem q382 : (Jvm.Cond.instanceMethod ({ cls := "PKCS7Padding", name := "init", desc := "(Ljava/security/SecureRandom;)V" } : Jvm.MethodName)) ∈ lw_all := lw_g (lw_at lw_m2 133 rfl) rfl
theorem q383 : (Jvm.Cond.publicMethod ({ cls := "PKCS7Padding", name := "init", desc := "(Ljava/security/SecureRandom;)V" } : Jvm.MethodName)) ∈ lw_tbl := lw_at lw_m2 134 rfl
theorem q384 : (Jvm.Cond.code ({ cls := "PKCS7Padding", name := "init", desc := "(Ljava/security/SecureRandom;)V" } : Jvm.MethodName) prog_18_method_2_code (2 : Nat) (Option.none : Option Jvm.ClassFile.FieldType)) ∈ lw_all := lw_g (lw_at lw_m2 135 rfl) rfl
theorem q621 : (Jvm.Cond.selects "PKCS7Padding" ({ cls := "BlockCipherPadding", name := "addPadding", desc := "([BI)I" } : Jvm.MethodName) ({ cls := "PKCS7Padding", name := "addPadding", desc := "([BI)I" } : Jvm.MethodName)) ∈ lw_all := lw_g (lw_at lw_m3 132 rfl) rfl
theorem q622 : (Jvm.Cond.unhidden "PKCS7Padding" "addPadding" "([BI)I") ∈ lw_tbl := lw_at lw_m3 133 rfl
theorem q623 : (Jvm.Cond.instanceMethod ({ cls := "PKCS7Padding", name := "addPadding", desc := "([BI)I" } : Jvm.MethodName)) ∈ lw_all := lw_g (lw_at lw_m3 134 rfl) rfl
theorem q624 : (Jvm.Cond.publicMethod ({ cls := "PKCS7Padding", name := "addPadding", desc := "([BI)I" } : Jvm.MethodName)) ∈ lw_tbl := lw_at lw_m3 135 rfl
theorem q625 : (Jvm.Cond.code ({ cls := "PKCS7Padding", name := "addPadding", desc := "([BI)I" } : Jvm.MethodName) prog_18_method_3_code (4 : Nat) (Option.some Jvm.ClassFile.FieldType.int)) ∈ lw_all := lw_g (lw_at lw_m3 136 rfl) rfl
theorem q663 : (Jvm.Cond.selects "PKCS7Padding" ({ cls := "BlockCipherPadding", name := "padCount", desc := "([B)I" } : Jvm.MethodName) ({ cls := "PKCS7Padding", name := "padCount", desc := "([B)I" } : Jvm.MethodName)) ∈ lw_all := lw_g (lw_at lw_m3 174 rfl) rfl
theorem q664 : (Jvm.Cond.unhidden "PKCS7Padding" "padCount" "([B)I") ∈ lw_tbl := lw_at lw_m3 175 rfl
theorem q665 : (Jvm.Cond.instanceMethod ({ cls := "PKCS7Padding", name := "padCount", desc := "([B)I" } : Jvm.MethodName)) ∈ lw_all := lw_g (lw_at lw_m3 176 rfl) rfl
theorem q666 : (Jvm.Cond.publicMethod ({ cls := "PKCS7Padding", name := "padCount", desc := "([B)I" } : Jvm.MethodName)) ∈ lw_tbl := lw_at lw_m3 177 rfl
theorem q667 : (Jvm.Cond.code ({ cls := "PKCS7Padding", name := "padCount", desc := "([B)I" } : Jvm.MethodName) prog_18_method_4_code (7 : Nat) (Option.some Jvm.ClassFile.FieldType.int)) ∈ lw_all := lw_g (lw_at lw_m3 178 rfl) rfl
theorem q668 : (Jvm.Cond.classLink "PKCS7Padding" (7 : Nat) "InvalidCipherTextException") ∈ lw_all := lw_g (lw_at lw_m3 179 rfl) rfl
theorem q669 : (Jvm.Cond.stringRef "PKCS7Padding" (9 : Nat) "pad block corrupted") ∈ lw_tbl := lw_at lw_m3 180 rfl
theorem q670 : (Jvm.Cond.methodLink "PKCS7Padding" (11 : Nat) ({ cls := "InvalidCipherTextException", name := "<init>", desc := "(Ljava/lang/String;)V" } : Jvm.MethodName)) ∈ lw_all := lw_g (lw_at lw_m3 181 rfl) rfl
/-! ISO7816d4Padding -/
set_option maxRecDepth 100000
def RX3 : String := "ISO7816d4Padding"
abbrev cX3_init : ByteArray := prog_12_method_1_code
def yX3_init : MethodName := ⟨RX3, "<init>", "()V"⟩
theorem dX3_init_0 : decode cX3_init 0 = .ok (.aload_n 0, 1) := by decide +kernel
theorem dX3_init_1 : decode cX3_init 1 = .ok (.invokespecial 1, 3) := by decide +kernel
theorem dX3_init_4 : decode cX3_init 4 = .ok (.return_, 1) := by decide +kernel
abbrev cX3_init_2 : ByteArray := prog_12_method_2_code
def yX3_init_2 : MethodName := ⟨RX3, "init", "(Ljava/security/SecureRandom;)V"⟩
theorem dX3_init_2_0 : decode cX3_init_2 0 = .ok (.return_, 1) := by decide +kernel
abbrev cX3_addPadding : ByteArray := prog_12_method_3_code
def yX3_addPadding : MethodName := ⟨RX3, "addPadding", "([BI)I"⟩
def dkwX3_addPadding_1 : List UInt8 := [132, 2, 1, 167, 255, 243, 29, 172]
abbrev dktX3_addPadding_1 : List UInt8 := dkwX3_addPadding_1 ++ []
def dkwX3_addPadding_0 : List UInt8 := [43, 190, 28, 100, 62, 43, 28, 16, 128, 84, 132, 2, 1, 28, 43, 190, 162, 0, 13, 43, 28, 3, 84]
abbrev dktX3_addPadding_0 : List UInt8 := dkwX3_addPadding_0 ++ dktX3_addPadding_1
theorem dksX3_addPadding_0 : cX3_addPadding.data.toList.drop 0 = dktX3_addPadding_0 := by decide +kernel
theorem dksX3_addPadding_1 : cX3_addPadding.data.toList.drop 23 = dktX3_addPadding_1 := dk_seg dksX3_addPadding_0 23 rfl rfl
theorem dX3_addPadding_0 : decode cX3_addPadding 0 = .ok (.aload_n 1, 1) := dk_43 (dk_at dksX3_addPadding_0 0 rfl rfl)
theorem dX3_addPadding_1 : decode cX3_addPadding 1 = .ok (.arraylength, 1) := dk_190 (dk_at dksX3_addPadding_0 1 rfl rfl)
theorem dX3_addPadding_2 : decode cX3_addPadding 2 = .ok (.iload_n 2, 1) := dk_28 (dk_at dksX3_addPadding_0 2 rfl rfl)
theorem dX3_addPadding_3 : decode cX3_addPadding 3 = .ok (.isub, 1) := dk_100 (dk_at dksX3_addPadding_0 3 rfl rfl)
theorem dX3_addPadding_4 : decode cX3_addPadding 4 = .ok (.istore_n 3, 1) := dk_62 (dk_at dksX3_addPadding_0 4 rfl rfl)
theorem dX3_addPadding_5 : decode cX3_addPadding 5 = .ok (.aload_n 1, 1) := dk_43 (dk_at dksX3_addPadding_0 5 rfl rfl)
theorem dX3_addPadding_6 : decode cX3_addPadding 6 = .ok (.iload_n 2, 1) := dk_28 (dk_at dksX3_addPadding_0 6 rfl rfl)
theorem dX3_addPadding_7 : decode cX3_addPadding 7 = .ok (.bipush (-128), 2) := dk_16 128 (dk_at dksX3_addPadding_0 7 rfl rfl)
theorem dX3_addPadding_9 : decode cX3_addPadding 9 = .ok (.bastore, 1) := dk_84 (dk_at dksX3_addPadding_0 9 rfl rfl)
theorem dX3_addPadding_10 : decode cX3_addPadding 10 = .ok (.iinc 2 1, 3) := dk_132 2 1 (dk_at dksX3_addPadding_0 10 rfl rfl)
theorem dX3_addPadding_13 : decode cX3_addPadding 13 = .ok (.iload_n 2, 1) := dk_28 (dk_at dksX3_addPadding_0 13 rfl rfl)
theorem dX3_addPadding_14 : decode cX3_addPadding 14 = .ok (.aload_n 1, 1) := dk_43 (dk_at dksX3_addPadding_0 14 rfl rfl)
theorem dX3_addPadding_15 : decode cX3_addPadding 15 = .ok (.arraylength, 1) := dk_190 (dk_at dksX3_addPadding_0 15 rfl rfl)
theorem dX3_addPadding_16 : decode cX3_addPadding 16 = .ok (.if_icmp .ge 13, 3) := dk_162 0 13 (dk_at dksX3_addPadding_0 16 rfl rfl)
theorem dX3_addPadding_19 : decode cX3_addPadding 19 = .ok (.aload_n 1, 1) := dk_43 (dk_at dksX3_addPadding_0 19 rfl rfl)
theorem dX3_addPadding_20 : decode cX3_addPadding 20 = .ok (.iload_n 2, 1) := dk_28 (dk_at dksX3_addPadding_0 20 rfl rfl)
theorem dX3_addPadding_21 : decode cX3_addPadding 21 = .ok (.iconst 0, 1) := dk_3 (dk_at dksX3_addPadding_0 21 rfl rfl)
theorem dX3_addPadding_22 : decode cX3_addPadding 22 = .ok (.bastore, 1) := dk_84 (dk_at dksX3_addPadding_0 22 rfl rfl)
theorem dX3_addPadding_23 : decode cX3_addPadding 23 = .ok (.iinc 2 1, 3) := dk_132 2 1 (dk_at dksX3_addPadding_1 0 rfl rfl)
theorem dX3_addPadding_26 : decode cX3_addPadding 26 = .ok (.goto (-13), 3) := dk_167 255 243 (dk_at dksX3_addPadding_1 3 rfl rfl)
theorem dX3_addPadding_29 : decode cX3_addPadding 29 = .ok (.iload_n 3, 1) := dk_29 (dk_at dksX3_addPadding_1 6 rfl rfl)
theorem dX3_addPadding_30 : decode cX3_addPadding 30 = .ok (.ireturn, 1) := dk_172 (dk_at dksX3_addPadding_1 7 rfl rfl)
abbrev cX3_padCount : ByteArray := prog_12_method_4_code
def yX3_padCount : MethodName := ⟨RX3, "padCount", "([B)I"⟩
def dkwX3_padCount_3 : List UInt8 := [156, 0, 13, 187, 0, 7, 89, 18, 9, 183, 0, 11, 191, 43, 190, 28, 100, 172]
abbrev dktX3_padCount_3 : List UInt8 := dkwX3_padCount_3 ++ []
def dkwX3_padCount_2 : List UInt8 := [54, 7, 28, 21, 4, 28, 130, 29, 21, 7, 126, 126, 130, 61, 29, 21, 6, 126, 62, 167, 255, 197, 28]
abbrev dktX3_padCount_2 : List UInt8 := dkwX3_padCount_2 ++ dktX3_padCount_3
def dkwX3_padCount_1 : List UInt8 := [54, 5, 21, 5, 3, 130, 4, 100, 16, 31, 122, 54, 6, 21, 5, 17, 0, 128, 130, 4, 100, 16, 31, 122]
abbrev dktX3_padCount_1 : List UInt8 := dkwX3_padCount_1 ++ dktX3_padCount_2
def dkwX3_padCount_0 : List UInt8 := [2, 61, 2, 62, 43, 190, 54, 4, 132, 4, 255, 21, 4, 155, 0, 57, 43, 21, 4, 51, 17, 0, 255, 126]
abbrev dktX3_padCount_0 : List UInt8 := dkwX3_padCount_0 ++ dktX3_padCount_1
theorem dksX3_padCount_0 : cX3_padCount.data.toList.drop 0 = dktX3_padCount_0 := by decide +kernel
theorem dksX3_padCount_1 : cX3_padCount.data.toList.drop 24 = dktX3_padCount_1 := dk_seg dksX3_padCount_0 24 rfl rfl
theorem dksX3_padCount_2 : cX3_padCount.data.toList.drop 48 = dktX3_padCount_2 := dk_seg dksX3_padCount_1 24 rfl rfl
theorem dksX3_padCount_3 : cX3_padCount.data.toList.drop 71 = dktX3_padCount_3 := dk_seg dksX3_padCount_2 23 rfl rfl
theorem dX3_padCount_0 : decode cX3_padCount 0 = .ok (.iconst (-1), 1) := dk_2 (dk_at dksX3_padCount_0 0 rfl rfl)
theorem dX3_padCount_1 : decode cX3_padCount 1 = .ok (.istore_n 2, 1) := dk_61 (dk_at dksX3_padCount_0 1 rfl rfl)
theorem dX3_padCount_2 : decode cX3_padCount 2 = .ok (.iconst (-1), 1) := dk_2 (dk_at dksX3_padCount_0 2 rfl rfl)
theorem dX3_padCount_3 : decode cX3_padCount 3 = .ok (.istore_n 3, 1) := dk_62 (dk_at dksX3_padCount_0 3 rfl rfl)
theorem dX3_padCount_4 : decode cX3_padCount 4 = .ok (.aload_n 1, 1) := dk_43 (dk_at dksX3_padCount_0 4 rfl rfl)
theorem dX3_padCount_5 : decode cX3_padCount 5 = .ok (.arraylength, 1) := dk_190 (dk_at dksX3_padCount_0 5 rfl rfl)
theorem dX3_padCount_6 : decode cX3_padCount 6 = .ok (.istore 4, 2) := dk_54 4 (dk_at dksX3_padCount_0 6 rfl rfl)
theorem dX3_padCount_8 : decode cX3_padCount 8 = .ok (.iinc 4 (-1), 3) := dk_132 4 255 (dk_at dksX3_padCount_0 8 rfl rfl)
theorem dX3_padCount_11 : decode cX3_padCount 11 = .ok (.iload 4, 2) := dk_21 4 (dk_at dksX3_padCount_0 11 rfl rfl)
theorem dX3_padCount_13 : decode cX3_padCount 13 = .ok (.ifCond .lt 57, 3) := dk_155 0 57 (dk_at dksX3_padCount_0 13 rfl rfl)
theorem dX3_padCount_16 : decode cX3_padCount 16 = .ok (.aload_n 1, 1) := dk_43 (dk_at dksX3_padCount_0 16 rfl rfl)
theorem dX3_padCount_17 : decode cX3_padCount 17 = .ok (.iload 4, 2) := dk_21 4 (dk_at dksX3_padCount_0 17 rfl rfl)
theorem dX3_padCount_19 : decode cX3_padCount 19 = .ok (.baload, 1) := dk_51 (dk_at dksX3_padCount_0 19 rfl rfl)
theorem dX3_padCount_20 : decode cX3_padCount 20 = .ok (.sipush 255, 3) := dk_17 0 255 (dk_at dksX3_padCount_0 20 rfl rfl)
theorem dX3_padCount_23 : decode cX3_padCount 23 = .ok (.iand, 1) := dk_126 (dk_at dksX3_padCount_0 23 rfl rfl)
theorem dX3_padCount_24 : decode cX3_padCount 24 = .ok (.istore 5, 2) := dk_54 5 (dk_at dksX3_padCount_1 0 rfl rfl)
theorem dX3_padCount_26 : decode cX3_padCount 26 = .ok (.iload 5, 2) := dk_21 5 (dk_at dksX3_padCount_1 2 rfl rfl)
theorem dX3_padCount_28 : decode cX3_padCount 28 = .ok (.iconst 0, 1) := dk_3 (dk_at dksX3_padCount_1 4 rfl rfl)
theorem dX3_padCount_29 : decode cX3_padCount 29 = .ok (.ixor, 1) := dk_130 (dk_at dksX3_padCount_1 5 rfl rfl)
theorem dX3_padCount_30 : decode cX3_padCount 30 = .ok (.iconst 1, 1) := dk_4 (dk_at dksX3_padCount_1 6 rfl rfl)
theorem dX3_padCount_31 : decode cX3_padCount 31 = .ok (.isub, 1) := dk_100 (dk_at dksX3_padCount_1 7 rfl rfl)
theorem dX3_padCount_32 : decode cX3_padCount 32 = .ok (.bipush 31, 2) := dk_16 31 (dk_at dksX3_padCount_1 8 rfl rfl)
theorem dX3_padCount_34 : decode cX3_padCount 34 = .ok (.ishr, 1) := dk_122 (dk_at dksX3_padCount_1 10 rfl rfl)
theorem dX3_padCount_35 : decode cX3_padCount 35 = .ok (.istore 6, 2) := dk_54 6 (dk_at dksX3_padCount_1 11 rfl rfl)
theorem dX3_padCount_37 : decode cX3_padCount 37 = .ok (.iload 5, 2) := dk_21 5 (dk_at dksX3_padCount_1 13 rfl rfl)
theorem dX3_padCount_39 : decode cX3_padCount 39 = .ok (.sipush 128, 3) := dk_17 0 128 (dk_at dksX3_padCount_1 15 rfl rfl)
theorem dX3_padCount_42 : decode cX3_padCount 42 = .ok (.ixor, 1) := dk_130 (dk_at dksX3_padCount_1 18 rfl rfl)
theorem dX3_padCount_43 : decode cX3_padCount 43 = .ok (.iconst 1, 1) := dk_4 (dk_at dksX3_padCount_1 19 rfl rfl)
theorem dX3_padCount_44 : decode cX3_padCount 44 = .ok (.isub, 1) := dk_100 (dk_at dksX3_padCount_1 20 rfl rfl)
theorem dX3_padCount_45 : decode cX3_padCount 45 = .ok (.bipush 31, 2) := dk_16 31 (dk_at dksX3_padCount_1 21 rfl rfl)
theorem dX3_padCount_47 : decode cX3_padCount 47 = .ok (.ishr, 1) := dk_122 (dk_at dksX3_padCount_1 23 rfl rfl)
theorem dX3_padCount_48 : decode cX3_padCount 48 = .ok (.istore 7, 2) := dk_54 7 (dk_at dksX3_padCount_2 0 rfl rfl)
theorem dX3_padCount_50 : decode cX3_padCount 50 = .ok (.iload_n 2, 1) := dk_28 (dk_at dksX3_padCount_2 2 rfl rfl)
theorem dX3_padCount_51 : decode cX3_padCount 51 = .ok (.iload 4, 2) := dk_21 4 (dk_at dksX3_padCount_2 3 rfl rfl)
theorem dX3_padCount_53 : decode cX3_padCount 53 = .ok (.iload_n 2, 1) := dk_28 (dk_at dksX3_padCount_2 5 rfl rfl)
theorem dX3_padCount_54 : decode cX3_padCount 54 = .ok (.ixor, 1) := dk_130 (dk_at dksX3_padCount_2 6 rfl rfl)
theorem dX3_padCount_55 : decode cX3_padCount 55 = .ok (.iload_n 3, 1) := dk_29 (dk_at dksX3_padCount_2 7 rfl rfl)
theorem dX3_padCount_56 : decode cX3_padCount 56 = .ok (.iload 7, 2) := dk_21 7 (dk_at dksX3_padCount_2 8 rfl rfl)
theorem dX3_padCount_58 : decode cX3_padCount 58 = .ok (.iand, 1) := dk_126 (dk_at dksX3_padCount_2 10 rfl rfl)
theorem dX3_padCount_59 : decode cX3_padCount 59 = .ok (.iand, 1) := dk_126 (dk_at dksX3_padCount_2 11 rfl rfl)
theorem dX3_padCount_60 : decode cX3_padCount 60 = .ok (.ixor, 1) := dk_130 (dk_at dksX3_padCount_2 12 rfl rfl)
theorem dX3_padCount_61 : decode cX3_padCount 61 = .ok (.istore_n 2, 1) := dk_61 (dk_at dksX3_padCount_2 13 rfl rfl)
theorem dX3_padCount_62 : decode cX3_padCount 62 = .ok (.iload_n 3, 1) := dk_29 (dk_at dksX3_padCount_2 14 rfl rfl)
theorem dX3_padCount_63 : decode cX3_padCount 63 = .ok (.iload 6, 2) := dk_21 6 (dk_at dksX3_padCount_2 15 rfl rfl)
theorem dX3_padCount_65 : decode cX3_padCount 65 = .ok (.iand, 1) := dk_126 (dk_at dksX3_padCount_2 17 rfl rfl)
theorem dX3_padCount_66 : decode cX3_padCount 66 = .ok (.istore_n 3, 1) := dk_62 (dk_at dksX3_padCount_2 18 rfl rfl)
theorem dX3_padCount_67 : decode cX3_padCount 67 = .ok (.goto (-59), 3) := dk_167 255 197 (dk_at dksX3_padCount_2 19 rfl rfl)
theorem dX3_padCount_70 : decode cX3_padCount 70 = .ok (.iload_n 2, 1) := dk_28 (dk_at dksX3_padCount_2 22 rfl rfl)
theorem dX3_padCount_71 : decode cX3_padCount 71 = .ok (.ifCond .ge 13, 3) := dk_156 0 13 (dk_at dksX3_padCount_3 0 rfl rfl)
theorem dX3_padCount_74 : decode cX3_padCount 74 = .ok (.new 7, 3) := dk_187 0 7 (dk_at dksX3_padCount_3 3 rfl rfl)
theorem dX3_padCount_77 : decode cX3_padCount 77 = .ok (.dup, 1) := dk_89 (dk_at dksX3_padCount_3 6 rfl rfl)
theorem dX3_padCount_78 : decode cX3_padCount 78 = .ok (.ldc 9, 2) := dk_18 9 (dk_at dksX3_padCount_3 7 rfl rfl)
theorem dX3_padCount_80 : decode cX3_padCount 80 = .ok (.invokespecial 11, 3) := dk_183 0 11 (dk_at dksX3_padCount_3 9 rfl rfl)
theorem dX3_padCount_83 : decode cX3_padCount 83 = .ok (.athrow, 1) := dk_191 (dk_at dksX3_padCount_3 12 rfl rfl)
theorem dX3_padCount_84 : decode cX3_padCount 84 = .ok (.aload_n 1, 1) := dk_43 (dk_at dksX3_padCount_3 13 rfl rfl)
theorem dX3_padCount_85 : decode cX3_padCount 85 = .ok (.arraylength, 1) := dk_190 (dk_at dksX3_padCount_3 14 rfl rfl)
theorem dX3_padCount_86 : decode cX3_padCount 86 = .ok (.iload_n 2, 1) := dk_28 (dk_at dksX3_padCount_3 15 rfl rfl)
theorem dX3_padCount_87 : decode cX3_padCount 87 = .ok (.isub, 1) := dk_100 (dk_at dksX3_padCount_3 16 rfl rfl)
theorem dX3_padCount_88 : decode cX3_padCount 88 = .ok (.ireturn, 1) := dk_172 (dk_at dksX3_padCount_3 17 rfl rfl)
theorem q12 : (Jvm.Cond.initialized "ISO7816d4Padding") ∈ lw_all := lw_g (lw_at lw_m1 3 rfl) rfl
theorem q113 : (Jvm.Cond.instantiable "ISO7816d4Padding" (0 : Nat)) ∈ lw_all := lw_g (lw_at lw_m1 104 rfl) rfl
theorem q115 : (Jvm.Cond.instanceMethod ({ cls := "ISO7816d4Padding", name := "<init>", desc := "()V" } : Jvm.MethodName)) ∈ lw_all := lw_g (lw_at lw_m1 106 rfl) rfl
theorem q116 : (Jvm.Cond.code ({ cls := "ISO7816d4Padding", name := "<init>", desc := "()V" } : Jvm.MethodName) prog_12_method_1_code (1 : Nat) (Option.none : Option Jvm.ClassFile.FieldType)) ∈ lw_all := lw_g (lw_at lw_m1 107 rfl) rfl
theorem q117 : (Jvm.Cond.methodLink "ISO7816d4Padding" (1 : Nat) ({ cls := "java/lang/Object", name := "<init>", desc := "()V" } : Jvm.MethodName)) ∈ lw_all := lw_g (lw_at lw_m1 108 rfl) rfl
theorem q118 : (Jvm.Cond.superclass "ISO7816d4Padding" "java/lang/Object") ∈ lw_all := lw_g (lw_at lw_m1 109 rfl) rfl
theorem q373 : (Jvm.Cond.castable "ISO7816d4Padding" "BlockCipherPadding") ∈ lw_tbl := lw_at lw_m2 124 rfl
theorem q374 : (Jvm.Cond.selects "ISO7816d4Padding" ({ cls := "BlockCipherPadding", name := "init", desc := "(Ljava/security/SecureRandom;)V" } : Jvm.MethodName) ({ cls := "ISO7816d4Padding", name := "init", desc := "(Ljava/security/SecureRandom;)V" } : Jvm.MethodName)) ∈ lw_all := lw_g (lw_at lw_m2 125 rfl) rfl
theorem q375 : (Jvm.Cond.unhidden "ISO7816d4Padding" "init" "(Ljava/security/SecureRandom;)V") ∈ lw_tbl := lw_at lw_m2 126 rfl
theorem q376 : (Jvm.Cond.instanceMethod ({ cls := "ISO7816d4Padding", name := "init", desc := "(Ljava/security/SecureRandom;)V" } : Jvm.MethodName)) ∈ lw_all := lw_g (lw_at lw_m2 127 rfl) rfl
theorem q377 : (Jvm.Cond.publicMethod ({ cls := "ISO7816d4Padding", name := "init", desc := "(Ljava/security/SecureRandom;)V" } : Jvm.MethodName)) ∈ lw_tbl := lw_at lw_m2 128 rfl
theorem q378 : (Jvm.Cond.code ({ cls := "ISO7816d4Padding", name := "init", desc := "(Ljava/security/SecureRandom;)V" } : Jvm.MethodName) prog_12_method_2_code (2 : Nat) (Option.none : Option Jvm.ClassFile.FieldType)) ∈ lw_all := lw_g (lw_at lw_m2 129 rfl) rfl
theorem q616 : (Jvm.Cond.selects "ISO7816d4Padding" ({ cls := "BlockCipherPadding", name := "addPadding", desc := "([BI)I" } : Jvm.MethodName) ({ cls := "ISO7816d4Padding", name := "addPadding", desc := "([BI)I" } : Jvm.MethodName)) ∈ lw_all := lw_g (lw_at lw_m3 127 rfl) rfl
theorem q617 : (Jvm.Cond.unhidden "ISO7816d4Padding" "addPadding" "([BI)I") ∈ lw_tbl := lw_at lw_m3 128 rfl
theorem q618 : (Jvm.Cond.instanceMethod ({ cls := "ISO7816d4Padding", name := "addPadding", desc := "([BI)I" } : Jvm.MethodName)) ∈ lw_all := lw_g (lw_at lw_m3 129 rfl) rfl
theorem q619 : (Jvm.Cond.publicMethod ({ cls := "ISO7816d4Padding", name := "addPadding", desc := "([BI)I" } : Jvm.MethodName)) ∈ lw_tbl := lw_at lw_m3 130 rfl
theorem q620 : (Jvm.Cond.code ({ cls := "ISO7816d4Padding", name := "addPadding", desc := "([BI)I" } : Jvm.MethodName) prog_12_method_3_code (4 : Nat) (Option.some Jvm.ClassFile.FieldType.int)) ∈ lw_all := lw_g (lw_at lw_m3 131 rfl) rfl
theorem q638 : (Jvm.Cond.selects "ISO7816d4Padding" ({ cls := "BlockCipherPadding", name := "padCount", desc := "([B)I" } : Jvm.MethodName) ({ cls := "ISO7816d4Padding", name := "padCount", desc := "([B)I" } : Jvm.MethodName)) ∈ lw_all := lw_g (lw_at lw_m3 149 rfl) rfl
theorem q639 : (Jvm.Cond.unhidden "ISO7816d4Padding" "padCount" "([B)I") ∈ lw_tbl := lw_at lw_m3 150 rfl
theorem q640 : (Jvm.Cond.instanceMethod ({ cls := "ISO7816d4Padding", name := "padCount", desc := "([B)I" } : Jvm.MethodName)) ∈ lw_all := lw_g (lw_at lw_m3 151 rfl) rfl
theorem q641 : (Jvm.Cond.publicMethod ({ cls := "ISO7816d4Padding", name := "padCount", desc := "([B)I" } : Jvm.MethodName)) ∈ lw_tbl := lw_at lw_m3 152 rfl
theorem q642 : (Jvm.Cond.code ({ cls := "ISO7816d4Padding", name := "padCount", desc := "([B)I" } : Jvm.MethodName) prog_12_method_4_code (8 : Nat) (Option.some Jvm.ClassFile.FieldType.int)) ∈ lw_all := lw_g (lw_at lw_m3 153 rfl) rfl
theorem q643 : (Jvm.Cond.classLink "ISO7816d4Padding" (7 : Nat) "InvalidCipherTextException") ∈ lw_all := lw_g (lw_at lw_m3 154 rfl) rfl
theorem q653 : (Jvm.Cond.stringRef "ISO7816d4Padding" (9 : Nat) "pad block corrupted") ∈ lw_tbl := lw_at lw_m3 164 rfl
theorem q654 : (Jvm.Cond.methodLink "ISO7816d4Padding" (11 : Nat) ({ cls := "InvalidCipherTextException", name := "<init>", desc := "(Ljava/lang/String;)V" } : Jvm.MethodName)) ∈ lw_all := lw_g (lw_at lw_m3 165 rfl) rfl
/-! ZeroBytePadding -/
set_option maxRecDepth 100000
def RX4 : String := "ZeroBytePadding"
abbrev cX4_init : ByteArray := prog_26_method_1_code
def yX4_init : MethodName := ⟨RX4, "<init>", "()V"⟩
theorem dX4_init_0 : decode cX4_init 0 = .ok (.aload_n 0, 1) := by decide +kernel
theorem dX4_init_1 : decode cX4_init 1 = .ok (.invokespecial 1, 3) := by decide +kernel
theorem dX4_init_4 : decode cX4_init 4 = .ok (.return_, 1) := by decide +kernel
abbrev cX4_init_2 : ByteArray := prog_26_method_2_code
def yX4_init_2 : MethodName := ⟨RX4, "init", "(Ljava/security/SecureRandom;)V"⟩
theorem dX4_init_2_0 : decode cX4_init_2 0 = .ok (.return_, 1) := by decide +kernel
abbrev cX4_addPadding : ByteArray := prog_26_method_3_code
def yX4_addPadding : MethodName := ⟨RX4, "addPadding", "([BI)I"⟩
def dkwX4_addPadding_0 : List UInt8 := [43, 190, 28, 100, 62, 28, 43, 190, 162, 0, 13, 43, 28, 3, 84, 132, 2, 1, 167, 255, 243, 29, 172]
abbrev dktX4_addPadding_0 : List UInt8 := dkwX4_addPadding_0 ++ []
theorem dksX4_addPadding_0 : cX4_addPadding.data.toList.drop 0 = dktX4_addPadding_0 := by decide +kernel
theorem dX4_addPadding_0 : decode cX4_addPadding 0 = .ok (.aload_n 1, 1) := dk_43 (dk_at dksX4_addPadding_0 0 rfl rfl)
theorem dX4_addPadding_1 : decode cX4_addPadding 1 = .ok (.arraylength, 1) := dk_190 (dk_at dksX4_addPadding_0 1 rfl rfl)
theorem dX4_addPadding_2 : decode cX4_addPadding 2 = .ok (.iload_n 2, 1) := dk_28 (dk_at dksX4_addPadding_0 2 rfl rfl)
theorem dX4_addPadding_3 : decode cX4_addPadding 3 = .ok (.isub, 1) := dk_100 (dk_at dksX4_addPadding_0 3 rfl rfl)
theorem dX4_addPadding_4 : decode cX4_addPadding 4 = .ok (.istore_n 3, 1) := dk_62 (dk_at dksX4_addPadding_0 4 rfl rfl)
theorem dX4_addPadding_5 : decode cX4_addPadding 5 = .ok (.iload_n 2, 1) := dk_28 (dk_at dksX4_addPadding_0 5 rfl rfl)
theorem dX4_addPadding_6 : decode cX4_addPadding 6 = .ok (.aload_n 1, 1) := dk_43 (dk_at dksX4_addPadding_0 6 rfl rfl)
theorem dX4_addPadding_7 : decode cX4_addPadding 7 = .ok (.arraylength, 1) := dk_190 (dk_at dksX4_addPadding_0 7 rfl rfl)
theorem dX4_addPadding_8 : decode cX4_addPadding 8 = .ok (.if_icmp .ge 13, 3) := dk_162 0 13 (dk_at dksX4_addPadding_0 8 rfl rfl)
theorem dX4_addPadding_11 : decode cX4_addPadding 11 = .ok (.aload_n 1, 1) := dk_43 (dk_at dksX4_addPadding_0 11 rfl rfl)
theorem dX4_addPadding_12 : decode cX4_addPadding 12 = .ok (.iload_n 2, 1) := dk_28 (dk_at dksX4_addPadding_0 12 rfl rfl)
theorem dX4_addPadding_13 : decode cX4_addPadding 13 = .ok (.iconst 0, 1) := dk_3 (dk_at dksX4_addPadding_0 13 rfl rfl)
theorem dX4_addPadding_14 : decode cX4_addPadding 14 = .ok (.bastore, 1) := dk_84 (dk_at dksX4_addPadding_0 14 rfl rfl)
theorem dX4_addPadding_15 : decode cX4_addPadding 15 = .ok (.iinc 2 1, 3) := dk_132 2 1 (dk_at dksX4_addPadding_0 15 rfl rfl)
theorem dX4_addPadding_18 : decode cX4_addPadding 18 = .ok (.goto (-13), 3) := dk_167 255 243 (dk_at dksX4_addPadding_0 18 rfl rfl)
theorem dX4_addPadding_21 : decode cX4_addPadding 21 = .ok (.iload_n 3, 1) := dk_29 (dk_at dksX4_addPadding_0 21 rfl rfl)
theorem dX4_addPadding_22 : decode cX4_addPadding 22 = .ok (.ireturn, 1) := dk_172 (dk_at dksX4_addPadding_0 22 rfl rfl)
abbrev cX4_padCount : ByteArray := prog_26_method_4_code
def yX4_padCount : MethodName := ⟨RX4, "padCount", "([B)I"⟩
def dkwX4_padCount_2 : List UInt8 := [167, 255, 218, 28, 172]
abbrev dktX4_padCount_2 : List UInt8 := dkwX4_padCount_2 ++ []
def dkwX4_padCount_1 : List UInt8 := [54, 5, 21, 5, 3, 130, 4, 100, 16, 31, 122, 54, 6, 29, 21, 6, 126, 62, 28, 29, 100, 61]
abbrev dktX4_padCount_1 : List UInt8 := dkwX4_padCount_1 ++ dktX4_padCount_2
def dkwX4_padCount_0 : List UInt8 := [3, 61, 2, 62, 43, 190, 54, 4, 132, 4, 255, 21, 4, 155, 0, 36, 43, 21, 4, 51, 17, 0, 255, 126]
abbrev dktX4_padCount_0 : List UInt8 := dkwX4_padCount_0 ++ dktX4_padCount_1
theorem dksX4_padCount_0 : cX4_padCount.data.toList.drop 0 = dktX4_padCount_0 := by decide +kernel
theorem dksX4_padCount_1 : cX4_padCount.data.toList.drop 24 = dktX4_padCount_1 := dk_seg dksX4_padCount_0 24 rfl rfl
theorem dksX4_padCount_2 : cX4_padCount.data.toList.drop 46 = dktX4_padCount_2 := dk_seg dksX4_padCount_1 22 rfl rfl
theorem dX4_padCount_0 : decode cX4_padCount 0 = .ok (.iconst 0, 1) := dk_3 (dk_at dksX4_padCount_0 0 rfl rfl)
theorem dX4_padCount_1 : decode cX4_padCount 1 = .ok (.istore_n 2, 1) := dk_61 (dk_at dksX4_padCount_0 1 rfl rfl)
theorem dX4_padCount_2 : decode cX4_padCount 2 = .ok (.iconst (-1), 1) := dk_2 (dk_at dksX4_padCount_0 2 rfl rfl)
theorem dX4_padCount_3 : decode cX4_padCount 3 = .ok (.istore_n 3, 1) := dk_62 (dk_at dksX4_padCount_0 3 rfl rfl)
theorem dX4_padCount_4 : decode cX4_padCount 4 = .ok (.aload_n 1, 1) := dk_43 (dk_at dksX4_padCount_0 4 rfl rfl)
theorem dX4_padCount_5 : decode cX4_padCount 5 = .ok (.arraylength, 1) := dk_190 (dk_at dksX4_padCount_0 5 rfl rfl)
theorem dX4_padCount_6 : decode cX4_padCount 6 = .ok (.istore 4, 2) := dk_54 4 (dk_at dksX4_padCount_0 6 rfl rfl)
theorem dX4_padCount_8 : decode cX4_padCount 8 = .ok (.iinc 4 (-1), 3) := dk_132 4 255 (dk_at dksX4_padCount_0 8 rfl rfl)
theorem dX4_padCount_11 : decode cX4_padCount 11 = .ok (.iload 4, 2) := dk_21 4 (dk_at dksX4_padCount_0 11 rfl rfl)
theorem dX4_padCount_13 : decode cX4_padCount 13 = .ok (.ifCond .lt 36, 3) := dk_155 0 36 (dk_at dksX4_padCount_0 13 rfl rfl)
theorem dX4_padCount_16 : decode cX4_padCount 16 = .ok (.aload_n 1, 1) := dk_43 (dk_at dksX4_padCount_0 16 rfl rfl)
theorem dX4_padCount_17 : decode cX4_padCount 17 = .ok (.iload 4, 2) := dk_21 4 (dk_at dksX4_padCount_0 17 rfl rfl)
theorem dX4_padCount_19 : decode cX4_padCount 19 = .ok (.baload, 1) := dk_51 (dk_at dksX4_padCount_0 19 rfl rfl)
theorem dX4_padCount_20 : decode cX4_padCount 20 = .ok (.sipush 255, 3) := dk_17 0 255 (dk_at dksX4_padCount_0 20 rfl rfl)
theorem dX4_padCount_23 : decode cX4_padCount 23 = .ok (.iand, 1) := dk_126 (dk_at dksX4_padCount_0 23 rfl rfl)
theorem dX4_padCount_24 : decode cX4_padCount 24 = .ok (.istore 5, 2) := dk_54 5 (dk_at dksX4_padCount_1 0 rfl rfl)
theorem dX4_padCount_26 : decode cX4_padCount 26 = .ok (.iload 5, 2) := dk_21 5 (dk_at dksX4_padCount_1 2 rfl rfl)
theorem dX4_padCount_28 : decode cX4_padCount 28 = .ok (.iconst 0, 1) := dk_3 (dk_at dksX4_padCount_1 4 rfl rfl)
theorem dX4_padCount_29 : decode cX4_padCount 29 = .ok (.ixor, 1) := dk_130 (dk_at dksX4_padCount_1 5 rfl rfl)
theorem dX4_padCount_30 : decode cX4_padCount 30 = .ok (.iconst 1, 1) := dk_4 (dk_at dksX4_padCount_1 6 rfl rfl)
theorem dX4_padCount_31 : decode cX4_padCount 31 = .ok (.isub, 1) := dk_100 (dk_at dksX4_padCount_1 7 rfl rfl)
theorem dX4_padCount_32 : decode cX4_padCount 32 = .ok (.bipush 31, 2) := dk_16 31 (dk_at dksX4_padCount_1 8 rfl rfl)
theorem dX4_padCount_34 : decode cX4_padCount 34 = .ok (.ishr, 1) := dk_122 (dk_at dksX4_padCount_1 10 rfl rfl)
theorem dX4_padCount_35 : decode cX4_padCount 35 = .ok (.istore 6, 2) := dk_54 6 (dk_at dksX4_padCount_1 11 rfl rfl)
theorem dX4_padCount_37 : decode cX4_padCount 37 = .ok (.iload_n 3, 1) := dk_29 (dk_at dksX4_padCount_1 13 rfl rfl)
theorem dX4_padCount_38 : decode cX4_padCount 38 = .ok (.iload 6, 2) := dk_21 6 (dk_at dksX4_padCount_1 14 rfl rfl)
theorem dX4_padCount_40 : decode cX4_padCount 40 = .ok (.iand, 1) := dk_126 (dk_at dksX4_padCount_1 16 rfl rfl)
theorem dX4_padCount_41 : decode cX4_padCount 41 = .ok (.istore_n 3, 1) := dk_62 (dk_at dksX4_padCount_1 17 rfl rfl)
theorem dX4_padCount_42 : decode cX4_padCount 42 = .ok (.iload_n 2, 1) := dk_28 (dk_at dksX4_padCount_1 18 rfl rfl)
theorem dX4_padCount_43 : decode cX4_padCount 43 = .ok (.iload_n 3, 1) := dk_29 (dk_at dksX4_padCount_1 19 rfl rfl)
theorem dX4_padCount_44 : decode cX4_padCount 44 = .ok (.isub, 1) := dk_100 (dk_at dksX4_padCount_1 20 rfl rfl)
theorem dX4_padCount_45 : decode cX4_padCount 45 = .ok (.istore_n 2, 1) := dk_61 (dk_at dksX4_padCount_1 21 rfl rfl)
theorem dX4_padCount_46 : decode cX4_padCount 46 = .ok (.goto (-38), 3) := dk_167 255 218 (dk_at dksX4_padCount_2 0 rfl rfl)
theorem dX4_padCount_49 : decode cX4_padCount 49 = .ok (.iload_n 2, 1) := dk_28 (dk_at dksX4_padCount_2 3 rfl rfl)
theorem dX4_padCount_50 : decode cX4_padCount 50 = .ok (.ireturn, 1) := dk_172 (dk_at dksX4_padCount_2 4 rfl rfl)
theorem q13 : (Jvm.Cond.initialized "ZeroBytePadding") ∈ lw_all := lw_g (lw_at lw_m1 4 rfl) rfl
theorem q120 : (Jvm.Cond.instantiable "ZeroBytePadding" (0 : Nat)) ∈ lw_all := lw_g (lw_at lw_m1 111 rfl) rfl
theorem q122 : (Jvm.Cond.instanceMethod ({ cls := "ZeroBytePadding", name := "<init>", desc := "()V" } : Jvm.MethodName)) ∈ lw_all := lw_g (lw_at lw_m1 113 rfl) rfl
theorem q123 : (Jvm.Cond.code ({ cls := "ZeroBytePadding", name := "<init>", desc := "()V" } : Jvm.MethodName) prog_26_method_1_code (1 : Nat) (Option.none : Option Jvm.ClassFile.FieldType)) ∈ lw_all := lw_g (lw_at lw_m1 114 rfl) rfl
theorem q124 : (Jvm.Cond.methodLink "ZeroBytePadding" (1 : Nat) ({ cls := "java/lang/Object", name := "<init>", desc := "()V" } : Jvm.MethodName)) ∈ lw_all := lw_g (lw_at lw_m1 115 rfl) rfl
theorem q125 : (Jvm.Cond.superclass "ZeroBytePadding" "java/lang/Object") ∈ lw_all := lw_g (lw_at lw_m1 116 rfl) rfl
theorem q385 : (Jvm.Cond.castable "ZeroBytePadding" "BlockCipherPadding") ∈ lw_tbl := lw_at lw_m2 136 rfl
theorem q386 : (Jvm.Cond.selects "ZeroBytePadding" ({ cls := "BlockCipherPadding", name := "init", desc := "(Ljava/security/SecureRandom;)V" } : Jvm.MethodName) ({ cls := "ZeroBytePadding", name := "init", desc := "(Ljava/security/SecureRandom;)V" } : Jvm.MethodName)) ∈ lw_all := lw_g (lw_at lw_m2 137 rfl) rfl
theorem q387 : (Jvm.Cond.unhidden "ZeroBytePadding" "init" "(Ljava/security/SecureRandom;)V") ∈ lw_tbl := lw_at lw_m2 138 rfl
theorem q388 : (Jvm.Cond.instanceMethod ({ cls := "ZeroBytePadding", name := "init", desc := "(Ljava/security/SecureRandom;)V" } : Jvm.MethodName)) ∈ lw_all := lw_g (lw_at lw_m2 139 rfl) rfl
theorem q389 : (Jvm.Cond.publicMethod ({ cls := "ZeroBytePadding", name := "init", desc := "(Ljava/security/SecureRandom;)V" } : Jvm.MethodName)) ∈ lw_tbl := lw_at lw_m2 140 rfl
theorem q390 : (Jvm.Cond.code ({ cls := "ZeroBytePadding", name := "init", desc := "(Ljava/security/SecureRandom;)V" } : Jvm.MethodName) prog_26_method_2_code (2 : Nat) (Option.none : Option Jvm.ClassFile.FieldType)) ∈ lw_all := lw_g (lw_at lw_m2 141 rfl) rfl
theorem q626 : (Jvm.Cond.selects "ZeroBytePadding" ({ cls := "BlockCipherPadding", name := "addPadding", desc := "([BI)I" } : Jvm.MethodName) ({ cls := "ZeroBytePadding", name := "addPadding", desc := "([BI)I" } : Jvm.MethodName)) ∈ lw_all := lw_g (lw_at lw_m3 137 rfl) rfl
theorem q627 : (Jvm.Cond.unhidden "ZeroBytePadding" "addPadding" "([BI)I") ∈ lw_tbl := lw_at lw_m3 138 rfl
theorem q628 : (Jvm.Cond.instanceMethod ({ cls := "ZeroBytePadding", name := "addPadding", desc := "([BI)I" } : Jvm.MethodName)) ∈ lw_all := lw_g (lw_at lw_m3 139 rfl) rfl
theorem q629 : (Jvm.Cond.publicMethod ({ cls := "ZeroBytePadding", name := "addPadding", desc := "([BI)I" } : Jvm.MethodName)) ∈ lw_tbl := lw_at lw_m3 140 rfl
theorem q630 : (Jvm.Cond.code ({ cls := "ZeroBytePadding", name := "addPadding", desc := "([BI)I" } : Jvm.MethodName) prog_26_method_3_code (4 : Nat) (Option.some Jvm.ClassFile.FieldType.int)) ∈ lw_all := lw_g (lw_at lw_m3 141 rfl) rfl
theorem q671 : (Jvm.Cond.selects "ZeroBytePadding" ({ cls := "BlockCipherPadding", name := "padCount", desc := "([B)I" } : Jvm.MethodName) ({ cls := "ZeroBytePadding", name := "padCount", desc := "([B)I" } : Jvm.MethodName)) ∈ lw_all := lw_g (lw_at lw_m3 182 rfl) rfl
theorem q672 : (Jvm.Cond.unhidden "ZeroBytePadding" "padCount" "([B)I") ∈ lw_tbl := lw_at lw_m3 183 rfl
theorem q673 : (Jvm.Cond.instanceMethod ({ cls := "ZeroBytePadding", name := "padCount", desc := "([B)I" } : Jvm.MethodName)) ∈ lw_all := lw_g (lw_at lw_m3 184 rfl) rfl
theorem q674 : (Jvm.Cond.publicMethod ({ cls := "ZeroBytePadding", name := "padCount", desc := "([B)I" } : Jvm.MethodName)) ∈ lw_tbl := lw_at lw_m3 185 rfl
theorem q675 : (Jvm.Cond.code ({ cls := "ZeroBytePadding", name := "padCount", desc := "([B)I" } : Jvm.MethodName) prog_26_method_4_code (7 : Nat) (Option.some Jvm.ClassFile.FieldType.int)) ∈ lw_all := lw_g (lw_at lw_m3 186 rfl) rfl
/-! BufferedBlockCipher -/
set_option maxRecDepth 100000
def RX5 : String := "BufferedBlockCipher"
abbrev cX5_init : ByteArray := prog_4_method_1_code
def yX5_init : MethodName := ⟨RX5, "<init>", "()V"⟩
theorem dX5_init_0 : decode cX5_init 0 = .ok (.aload_n 0, 1) := by decide +kernel
theorem dX5_init_1 : decode cX5_init 1 = .ok (.invokespecial 1, 3) := by decide +kernel
theorem dX5_init_4 : decode cX5_init 4 = .ok (.return_, 1) := by decide +kernel
theorem q14 : (Jvm.Cond.initialized "BufferedBlockCipher") ∈ lw_all := lw_g (lw_at lw_m1 5 rfl) rfl
theorem q198 : (Jvm.Cond.instanceMethod ({ cls := "BufferedBlockCipher", name := "<init>", desc := "()V" } : Jvm.MethodName)) ∈ lw_all := lw_g (lw_at lw_m1 189 rfl) rfl
theorem q199 : (Jvm.Cond.code ({ cls := "BufferedBlockCipher", name := "<init>", desc := "()V" } : Jvm.MethodName) prog_4_method_1_code (1 : Nat) (Option.none : Option Jvm.ClassFile.FieldType)) ∈ lw_all := lw_g (lw_at lw_m1 190 rfl) rfl
theorem q200 : (Jvm.Cond.methodLink "BufferedBlockCipher" (1 : Nat) ({ cls := "java/lang/Object", name := "<init>", desc := "()V" } : Jvm.MethodName)) ∈ lw_all := lw_g (lw_at lw_m1 191 rfl) rfl
/-! DefaultBufferedBlockCipher -/
set_option maxRecDepth 100000
def RX6 : String := "DefaultBufferedBlockCipher"
abbrev cX6_init : ByteArray := prog_10_method_1_code
def yX6_init : MethodName := ⟨RX6, "<init>", "()V"⟩
theorem dX6_init_0 : decode cX6_init 0 = .ok (.aload_n 0, 1) := by decide +kernel
theorem dX6_init_1 : decode cX6_init 1 = .ok (.invokespecial 1, 3) := by decide +kernel
theorem dX6_init_4 : decode cX6_init 4 = .ok (.return_, 1) := by decide +kernel
abbrev cX6_reset : ByteArray := prog_10_method_3_code
def yX6_reset : MethodName := ⟨RX6, "reset", "()V"⟩
def dkwX6_reset_1 : List UInt8 := [42, 3, 181, 0, 23, 42, 180, 0, 7, 185, 0, 27, 1, 0, 177]
abbrev dktX6_reset_1 : List UInt8 := dkwX6_reset_1 ++ []
def dkwX6_reset_0 : List UInt8 := [3, 60, 27, 42, 180, 0, 19, 190, 162, 0, 16, 42, 180, 0, 19, 27, 3, 84, 132, 1, 1, 167, 255, 237]
abbrev dktX6_reset_0 : List UInt8 := dkwX6_reset_0 ++ dktX6_reset_1
theorem dksX6_reset_0 : cX6_reset.data.toList.drop 0 = dktX6_reset_0 := by decide +kernel
theorem dksX6_reset_1 : cX6_reset.data.toList.drop 24 = dktX6_reset_1 := dk_seg dksX6_reset_0 24 rfl rfl
theorem dX6_reset_0 : decode cX6_reset 0 = .ok (.iconst 0, 1) := dk_3 (dk_at dksX6_reset_0 0 rfl rfl)
theorem dX6_reset_1 : decode cX6_reset 1 = .ok (.istore_n 1, 1) := dk_60 (dk_at dksX6_reset_0 1 rfl rfl)
theorem dX6_reset_2 : decode cX6_reset 2 = .ok (.iload_n 1, 1) := dk_27 (dk_at dksX6_reset_0 2 rfl rfl)
theorem dX6_reset_3 : decode cX6_reset 3 = .ok (.aload_n 0, 1) := dk_42 (dk_at dksX6_reset_0 3 rfl rfl)
theorem dX6_reset_4 : decode cX6_reset 4 = .ok (.getfield 19, 3) := dk_180 0 19 (dk_at dksX6_reset_0 4 rfl rfl)
theorem dX6_reset_7 : decode cX6_reset 7 = .ok (.arraylength, 1) := dk_190 (dk_at dksX6_reset_0 7 rfl rfl)
theorem dX6_reset_8 : decode cX6_reset 8 = .ok (.if_icmp .ge 16, 3) := dk_162 0 16 (dk_at dksX6_reset_0 8 rfl rfl)
theorem dX6_reset_11 : decode cX6_reset 11 = .ok (.aload_n 0, 1) := dk_42 (dk_at dksX6_reset_0 11 rfl rfl)
theorem dX6_reset_12 : decode cX6_reset 12 = .ok (.getfield 19, 3) := dk_180 0 19 (dk_at dksX6_reset_0 12 rfl rfl)
theorem dX6_reset_15 : decode cX6_reset 15 = .ok (.iload_n 1, 1) := dk_27 (dk_at dksX6_reset_0 15 rfl rfl)
theorem dX6_reset_16 : decode cX6_reset 16 = .ok (.iconst 0, 1) := dk_3 (dk_at dksX6_reset_0 16 rfl rfl)
theorem dX6_reset_17 : decode cX6_reset 17 = .ok (.bastore, 1) := dk_84 (dk_at dksX6_reset_0 17 rfl rfl)
theorem dX6_reset_18 : decode cX6_reset 18 = .ok (.iinc 1 1, 3) := dk_132 1 1 (dk_at dksX6_reset_0 18 rfl rfl)
theorem dX6_reset_21 : decode cX6_reset 21 = .ok (.goto (-19), 3) := dk_167 255 237 (dk_at dksX6_reset_0 21 rfl rfl)
theorem dX6_reset_24 : decode cX6_reset 24 = .ok (.aload_n 0, 1) := dk_42 (dk_at dksX6_reset_1 0 rfl rfl)
theorem dX6_reset_25 : decode cX6_reset 25 = .ok (.iconst 0, 1) := dk_3 (dk_at dksX6_reset_1 1 rfl rfl)
theorem dX6_reset_26 : decode cX6_reset 26 = .ok (.putfield 23, 3) := dk_181 0 23 (dk_at dksX6_reset_1 2 rfl rfl)
theorem dX6_reset_29 : decode cX6_reset 29 = .ok (.aload_n 0, 1) := dk_42 (dk_at dksX6_reset_1 5 rfl rfl)
theorem dX6_reset_30 : decode cX6_reset 30 = .ok (.getfield 7, 3) := dk_180 0 7 (dk_at dksX6_reset_1 6 rfl rfl)
theorem dX6_reset_33 : decode cX6_reset 33 = .ok (.invokeinterface 27 1, 5) := by decide +kernel
theorem dX6_reset_38 : decode cX6_reset 38 = .ok (.return_, 1) := dk_177 (dk_at dksX6_reset_1 14 rfl rfl)
abbrev cX6_getBlockSize : ByteArray := prog_10_method_2_code
def yX6_getBlockSize : MethodName := ⟨RX6, "getBlockSize", "()I"⟩
def dkwX6_getBlockSize_0 : List UInt8 := [42, 180, 0, 7, 185, 0, 13, 1, 0, 172]
abbrev dktX6_getBlockSize_0 : List UInt8 := dkwX6_getBlockSize_0 ++ []
theorem dksX6_getBlockSize_0 : cX6_getBlockSize.data.toList.drop 0 = dktX6_getBlockSize_0 := by decide +kernel
theorem dX6_getBlockSize_0 : decode cX6_getBlockSize 0 = .ok (.aload_n 0, 1) := dk_42 (dk_at dksX6_getBlockSize_0 0 rfl rfl)
theorem dX6_getBlockSize_1 : decode cX6_getBlockSize 1 = .ok (.getfield 7, 3) := dk_180 0 7 (dk_at dksX6_getBlockSize_0 1 rfl rfl)
theorem dX6_getBlockSize_4 : decode cX6_getBlockSize 4 = .ok (.invokeinterface 13 1, 5) := by decide +kernel
theorem dX6_getBlockSize_9 : decode cX6_getBlockSize 9 = .ok (.ireturn, 1) := dk_172 (dk_at dksX6_getBlockSize_0 9 rfl rfl)
theorem q15 : (Jvm.Cond.initialized "DefaultBufferedBlockCipher") ∈ lw_all := lw_g (lw_at lw_m1 6 rfl) rfl
theorem q195 : (Jvm.Cond.instanceMethod ({ cls := "DefaultBufferedBlockCipher", name := "<init>", desc := "()V" } : Jvm.MethodName)) ∈ lw_all := lw_g (lw_at lw_m1 186 rfl) rfl
theorem q196 : (Jvm.Cond.code ({ cls := "DefaultBufferedBlockCipher", name := "<init>", desc := "()V" } : Jvm.MethodName) prog_10_method_1_code (1 : Nat) (Option.none : Option Jvm.ClassFile.FieldType)) ∈ lw_all := lw_g (lw_at lw_m1 187 rfl) rfl
theorem q197 : (Jvm.Cond.methodLink "DefaultBufferedBlockCipher" (1 : Nat) ({ cls := "BufferedBlockCipher", name := "<init>", desc := "()V" } : Jvm.MethodName)) ∈ lw_all := lw_g (lw_at lw_m1 188 rfl) rfl
theorem q206 : (Jvm.Cond.fieldLink "DefaultBufferedBlockCipher" (19 : Nat) "DefaultBufferedBlockCipher" "buf" "[B") ∈ lw_all := lw_g (lw_at lw_m1 197 rfl) rfl
theorem q209 : (Jvm.Cond.fieldLink "DefaultBufferedBlockCipher" (23 : Nat) "DefaultBufferedBlockCipher" "bufOff" "I") ∈ lw_all := lw_g (lw_at lw_m1 200 rfl) rfl
theorem q214 : (Jvm.Cond.fieldLink "DefaultBufferedBlockCipher" (7 : Nat) "DefaultBufferedBlockCipher" "cipher" "LBlockCipher;") ∈ lw_all := lw_g (lw_at lw_m1 205 rfl) rfl
theorem q218 : (Jvm.Cond.soleField "DefaultBufferedBlockCipher" "buf") ∈ lw_all := lw_g (lw_at lw_m1 209 rfl) rfl
theorem q220 : (Jvm.Cond.soleField "DefaultBufferedBlockCipher" "bufOff") ∈ lw_all := lw_g (lw_at lw_m1 211 rfl) rfl
theorem q222 : (Jvm.Cond.soleField "DefaultBufferedBlockCipher" "forEncryption") ∈ lw_all := lw_g (lw_at lw_m1 213 rfl) rfl
theorem q224 : (Jvm.Cond.soleField "DefaultBufferedBlockCipher" "cipher") ∈ lw_all := lw_g (lw_at lw_m1 215 rfl) rfl
theorem q268 : (Jvm.Cond.declares ({ cls := "DefaultBufferedBlockCipher", name := "reset", desc := "()V" } : Jvm.MethodName)) ∈ lw_tbl := lw_at lw_m2 19 rfl
theorem q270 : (Jvm.Cond.instanceMethod ({ cls := "DefaultBufferedBlockCipher", name := "reset", desc := "()V" } : Jvm.MethodName)) ∈ lw_all := lw_g (lw_at lw_m2 21 rfl) rfl
theorem q271 : (Jvm.Cond.code ({ cls := "DefaultBufferedBlockCipher", name := "reset", desc := "()V" } : Jvm.MethodName) prog_10_method_3_code (2 : Nat) (Option.none : Option Jvm.ClassFile.FieldType)) ∈ lw_all := lw_g (lw_at lw_m2 22 rfl) rfl
theorem q272 : (Jvm.Cond.interfaceEntry "DefaultBufferedBlockCipher" (27 : Nat)) ∈ lw_tbl := lw_at lw_m2 23 rfl
theorem q273 : (Jvm.Cond.methodLink "DefaultBufferedBlockCipher" (27 : Nat) ({ cls := "BlockCipher", name := "reset", desc := "()V" } : Jvm.MethodName)) ∈ lw_all := lw_g (lw_at lw_m2 24 rfl) rfl
theorem q507 : (Jvm.Cond.declares ({ cls := "DefaultBufferedBlockCipher", name := "getBlockSize", desc := "()I" } : Jvm.MethodName)) ∈ lw_tbl := lw_at lw_m3 18 rfl
theorem q509 : (Jvm.Cond.instanceMethod ({ cls := "DefaultBufferedBlockCipher", name := "getBlockSize", desc := "()I" } : Jvm.MethodName)) ∈ lw_all := lw_g (lw_at lw_m3 20 rfl) rfl
theorem q510 : (Jvm.Cond.code ({ cls := "DefaultBufferedBlockCipher", name := "getBlockSize", desc := "()I" } : Jvm.MethodName) prog_10_method_2_code (1 : Nat) (Option.some Jvm.ClassFile.FieldType.int)) ∈ lw_all := lw_g (lw_at lw_m3 21 rfl) rfl
theorem q511 : (Jvm.Cond.interfaceEntry "DefaultBufferedBlockCipher" (13 : Nat)) ∈ lw_tbl := lw_at lw_m3 22 rfl
theorem q512 : (Jvm.Cond.methodLink "DefaultBufferedBlockCipher" (13 : Nat) ({ cls := "BlockCipher", name := "getBlockSize", desc := "()I" } : Jvm.MethodName)) ∈ lw_all := lw_g (lw_at lw_m3 23 rfl) rfl
/-! PaddedBufferedBlockCipher -/
set_option maxRecDepth 100000
def RX7 : String := "PaddedBufferedBlockCipher"
def TX7 : u_T := fun k => match k with
  | 0 => ("DefaultBufferedBlockCipher", "buf", "[B", false)
  | 1 => ("DefaultBufferedBlockCipher", "bufOff", "I", false)
  | 2 => ("DefaultBufferedBlockCipher", "forEncryption", "Z", false)
  | 3 => ("DefaultBufferedBlockCipher", "cipher", "LBlockCipher;", false)
  | _ => ("PaddedBufferedBlockCipher", "padding", "LBlockCipherPadding;", false)
def tyX7 : Nat → FieldType := fun k => match k with
  | 0 => .array .byte
  | 1 => .int
  | 2 => .boolean
  | 3 => .object "BlockCipher"
  | _ => .object "BlockCipherPadding"
abbrev wsX70 : List Cond := u_ws RX7 TX7 5
theorem nmX7 : ∀ a, a < 5 → ∀ b, b < 5 → a ≠ b → (TX7 a).2.1 ≠ (TX7 b).2.1 := by decide +kernel
theorem tyX7_ok : ∀ k, k < 5 → parseFieldDescriptor (TX7 k).2.2.1 = some (tyX7 k) := by decide +kernel
abbrev cX7_init : ByteArray := prog_20_method_1_code
def yX7_init : MethodName := ⟨RX7, "<init>", "(LBlockCipher;LBlockCipherPadding;)V"⟩
def dkwX7_init_1 : List UInt8 := [181, 0, 23, 42, 3, 181, 0, 27, 177]
abbrev dktX7_init_1 : List UInt8 := dkwX7_init_1 ++ []
def dkwX7_init_0 : List UInt8 := [42, 183, 0, 1, 42, 43, 181, 0, 7, 42, 44, 181, 0, 13, 42, 43, 185, 0, 17, 1, 0, 188, 8]
abbrev dktX7_init_0 : List UInt8 := dkwX7_init_0 ++ dktX7_init_1
theorem dksX7_init_0 : cX7_init.data.toList.drop 0 = dktX7_init_0 := by decide +kernel
theorem dksX7_init_1 : cX7_init.data.toList.drop 23 = dktX7_init_1 := dk_seg dksX7_init_0 23 rfl rfl
theorem dX7_init_0 : decode cX7_init 0 = .ok (.aload_n 0, 1) := dk_42 (dk_at dksX7_init_0 0 rfl rfl)
theorem dX7_init_1 : decode cX7_init 1 = .ok (.invokespecial 1, 3) := dk_183 0 1 (dk_at dksX7_init_0 1 rfl rfl)
theorem dX7_init_4 : decode cX7_init 4 = .ok (.aload_n 0, 1) := dk_42 (dk_at dksX7_init_0 4 rfl rfl)
theorem dX7_init_5 : decode cX7_init 5 = .ok (.aload_n 1, 1) := dk_43 (dk_at dksX7_init_0 5 rfl rfl)
theorem dX7_init_6 : decode cX7_init 6 = .ok (.putfield 7, 3) := dk_181 0 7 (dk_at dksX7_init_0 6 rfl rfl)
theorem dX7_init_9 : decode cX7_init 9 = .ok (.aload_n 0, 1) := dk_42 (dk_at dksX7_init_0 9 rfl rfl)
theorem dX7_init_10 : decode cX7_init 10 = .ok (.aload_n 2, 1) := dk_44 (dk_at dksX7_init_0 10 rfl rfl)
theorem dX7_init_11 : decode cX7_init 11 = .ok (.putfield 13, 3) := dk_181 0 13 (dk_at dksX7_init_0 11 rfl rfl)
theorem dX7_init_14 : decode cX7_init 14 = .ok (.aload_n 0, 1) := dk_42 (dk_at dksX7_init_0 14 rfl rfl)
theorem dX7_init_15 : decode cX7_init 15 = .ok (.aload_n 1, 1) := dk_43 (dk_at dksX7_init_0 15 rfl rfl)
theorem dX7_init_16 : decode cX7_init 16 = .ok (.invokeinterface 17 1, 5) := by decide +kernel
theorem dX7_init_21 : decode cX7_init 21 = .ok (.newarray .byte, 2) := dk_188_8 (dk_at dksX7_init_0 21 rfl rfl)
theorem dX7_init_23 : decode cX7_init 23 = .ok (.putfield 23, 3) := dk_181 0 23 (dk_at dksX7_init_1 0 rfl rfl)
theorem dX7_init_26 : decode cX7_init 26 = .ok (.aload_n 0, 1) := dk_42 (dk_at dksX7_init_1 3 rfl rfl)
theorem dX7_init_27 : decode cX7_init 27 = .ok (.iconst 0, 1) := dk_3 (dk_at dksX7_init_1 4 rfl rfl)
theorem dX7_init_28 : decode cX7_init 28 = .ok (.putfield 27, 3) := dk_181 0 27 (dk_at dksX7_init_1 5 rfl rfl)
theorem dX7_init_31 : decode cX7_init 31 = .ok (.return_, 1) := dk_177 (dk_at dksX7_init_1 8 rfl rfl)
abbrev cX7_init_2 : ByteArray := prog_20_method_2_code
def yX7_init_2 : MethodName := ⟨RX7, "init", "(ZLCipherParameters;)V"⟩
def dkwX7_init_2_3 : List UInt8 := [185, 0, 54, 3, 0, 177]
abbrev dktX7_init_2_3 : List UInt8 := dkwX7_init_2_3 ++ []
def dkwX7_init_2_2 : List UInt8 := [185, 0, 54, 3, 0, 167, 0, 24, 42, 180, 0, 13, 1, 185, 0, 44, 2, 0, 42, 180, 0, 7, 27, 44]
abbrev dktX7_init_2_2 : List UInt8 := dkwX7_init_2_2 ++ dktX7_init_2_3
def dkwX7_init_2_1 : List UInt8 := [180, 0, 13, 45, 182, 0, 40, 185, 0, 44, 2, 0, 42, 180, 0, 7, 27, 45, 182, 0, 50]
abbrev dktX7_init_2_1 : List UInt8 := dkwX7_init_2_1 ++ dktX7_init_2_2
def dkwX7_init_2_0 : List UInt8 := [42, 27, 181, 0, 31, 42, 182, 0, 35, 44, 193, 0, 38, 153, 0, 38, 44, 192, 0, 38, 78, 42]
abbrev dktX7_init_2_0 : List UInt8 := dkwX7_init_2_0 ++ dktX7_init_2_1
theorem dksX7_init_2_0 : cX7_init_2.data.toList.drop 0 = dktX7_init_2_0 := by decide +kernel
theorem dksX7_init_2_1 : cX7_init_2.data.toList.drop 22 = dktX7_init_2_1 := dk_seg dksX7_init_2_0 22 rfl rfl
theorem dksX7_init_2_2 : cX7_init_2.data.toList.drop 43 = dktX7_init_2_2 := dk_seg dksX7_init_2_1 21 rfl rfl
theorem dksX7_init_2_3 : cX7_init_2.data.toList.drop 67 = dktX7_init_2_3 := dk_seg dksX7_init_2_2 24 rfl rfl
theorem dX7_init_2_0 : decode cX7_init_2 0 = .ok (.aload_n 0, 1) := dk_42 (dk_at dksX7_init_2_0 0 rfl rfl)
theorem dX7_init_2_1 : decode cX7_init_2 1 = .ok (.iload_n 1, 1) := dk_27 (dk_at dksX7_init_2_0 1 rfl rfl)
theorem dX7_init_2_2 : decode cX7_init_2 2 = .ok (.putfield 31, 3) := dk_181 0 31 (dk_at dksX7_init_2_0 2 rfl rfl)
theorem dX7_init_2_5 : decode cX7_init_2 5 = .ok (.aload_n 0, 1) := dk_42 (dk_at dksX7_init_2_0 5 rfl rfl)
theorem dX7_init_2_6 : decode cX7_init_2 6 = .ok (.invokevirtual 35, 3) := dk_182 0 35 (dk_at dksX7_init_2_0 6 rfl rfl)
theorem dX7_init_2_9 : decode cX7_init_2 9 = .ok (.aload_n 2, 1) := dk_44 (dk_at dksX7_init_2_0 9 rfl rfl)
theorem dX7_init_2_10 : decode cX7_init_2 10 = .ok (.instanceof 38, 3) := dk_193 0 38 (dk_at dksX7_init_2_0 10 rfl rfl)
theorem dX7_init_2_13 : decode cX7_init_2 13 = .ok (.ifCond .eq 38, 3) := dk_153 0 38 (dk_at dksX7_init_2_0 13 rfl rfl)
theorem dX7_init_2_16 : decode cX7_init_2 16 = .ok (.aload_n 2, 1) := dk_44 (dk_at dksX7_init_2_0 16 rfl rfl)
theorem dX7_init_2_17 : decode cX7_init_2 17 = .ok (.checkcast 38, 3) := dk_192 0 38 (dk_at dksX7_init_2_0 17 rfl rfl)
theorem dX7_init_2_20 : decode cX7_init_2 20 = .ok (.astore_n 3, 1) := dk_78 (dk_at dksX7_init_2_0 20 rfl rfl)
theorem dX7_init_2_21 : decode cX7_init_2 21 = .ok (.aload_n 0, 1) := dk_42 (dk_at dksX7_init_2_0 21 rfl rfl)
theorem dX7_init_2_22 : decode cX7_init_2 22 = .ok (.getfield 13, 3) := dk_180 0 13 (dk_at dksX7_init_2_1 0 rfl rfl)
theorem dX7_init_2_25 : decode cX7_init_2 25 = .ok (.aload_n 3, 1) := dk_45 (dk_at dksX7_init_2_1 3 rfl rfl)
theorem dX7_init_2_26 : decode cX7_init_2 26 = .ok (.invokevirtual 40, 3) := dk_182 0 40 (dk_at dksX7_init_2_1 4 rfl rfl)
theorem dX7_init_2_29 : decode cX7_init_2 29 = .ok (.invokeinterface 44 2, 5) := by decide +kernel
theorem dX7_init_2_34 : decode cX7_init_2 34 = .ok (.aload_n 0, 1) := dk_42 (dk_at dksX7_init_2_1 12 rfl rfl)
theorem dX7_init_2_35 : decode cX7_init_2 35 = .ok (.getfield 7, 3) := dk_180 0 7 (dk_at dksX7_init_2_1 13 rfl rfl)
theorem dX7_init_2_38 : decode cX7_init_2 38 = .ok (.iload_n 1, 1) := dk_27 (dk_at dksX7_init_2_1 16 rfl rfl)
theorem dX7_init_2_39 : decode cX7_init_2 39 = .ok (.aload_n 3, 1) := dk_45 (dk_at dksX7_init_2_1 17 rfl rfl)
theorem dX7_init_2_40 : decode cX7_init_2 40 = .ok (.invokevirtual 50, 3) := dk_182 0 50 (dk_at dksX7_init_2_1 18 rfl rfl)
theorem dX7_init_2_43 : decode cX7_init_2 43 = .ok (.invokeinterface 54 3, 5) := by decide +kernel
theorem dX7_init_2_48 : decode cX7_init_2 48 = .ok (.goto 24, 3) := dk_167 0 24 (dk_at dksX7_init_2_2 5 rfl rfl)
theorem dX7_init_2_51 : decode cX7_init_2 51 = .ok (.aload_n 0, 1) := dk_42 (dk_at dksX7_init_2_2 8 rfl rfl)
theorem dX7_init_2_52 : decode cX7_init_2 52 = .ok (.getfield 13, 3) := dk_180 0 13 (dk_at dksX7_init_2_2 9 rfl rfl)
theorem dX7_init_2_55 : decode cX7_init_2 55 = .ok (.aconst_null, 1) := dk_1 (dk_at dksX7_init_2_2 12 rfl rfl)
theorem dX7_init_2_56 : decode cX7_init_2 56 = .ok (.invokeinterface 44 2, 5) := by decide +kernel
theorem dX7_init_2_61 : decode cX7_init_2 61 = .ok (.aload_n 0, 1) := dk_42 (dk_at dksX7_init_2_2 18 rfl rfl)
theorem dX7_init_2_62 : decode cX7_init_2 62 = .ok (.getfield 7, 3) := dk_180 0 7 (dk_at dksX7_init_2_2 19 rfl rfl)
theorem dX7_init_2_65 : decode cX7_init_2 65 = .ok (.iload_n 1, 1) := dk_27 (dk_at dksX7_init_2_2 22 rfl rfl)
theorem dX7_init_2_66 : decode cX7_init_2 66 = .ok (.aload_n 2, 1) := dk_44 (dk_at dksX7_init_2_2 23 rfl rfl)
theorem dX7_init_2_67 : decode cX7_init_2 67 = .ok (.invokeinterface 54 3, 5) := by decide +kernel
theorem dX7_init_2_72 : decode cX7_init_2 72 = .ok (.return_, 1) := dk_177 (dk_at dksX7_init_2_3 5 rfl rfl)
abbrev cX7_getOutputSize : ByteArray := prog_20_method_3_code
def yX7_getOutputSize : MethodName := ⟨RX7, "getOutputSize", "(I)I"⟩
def dkwX7_getOutputSize_1 : List UInt8 := [153, 0, 11, 28, 42, 180, 0, 23, 190, 96, 172, 28, 172, 28, 29, 100, 42, 180, 0, 23, 190, 96, 172]
abbrev dktX7_getOutputSize_1 : List UInt8 := dkwX7_getOutputSize_1 ++ []
def dkwX7_getOutputSize_0 : List UInt8 := [27, 42, 180, 0, 27, 96, 61, 28, 42, 180, 0, 23, 190, 112, 62, 29, 154, 0, 20, 42, 180, 0, 31]
abbrev dktX7_getOutputSize_0 : List UInt8 := dkwX7_getOutputSize_0 ++ dktX7_getOutputSize_1
theorem dksX7_getOutputSize_0 : cX7_getOutputSize.data.toList.drop 0 = dktX7_getOutputSize_0 := by decide +kernel
theorem dksX7_getOutputSize_1 : cX7_getOutputSize.data.toList.drop 23 = dktX7_getOutputSize_1 := dk_seg dksX7_getOutputSize_0 23 rfl rfl
theorem dX7_getOutputSize_0 : decode cX7_getOutputSize 0 = .ok (.iload_n 1, 1) := dk_27 (dk_at dksX7_getOutputSize_0 0 rfl rfl)
theorem dX7_getOutputSize_1 : decode cX7_getOutputSize 1 = .ok (.aload_n 0, 1) := dk_42 (dk_at dksX7_getOutputSize_0 1 rfl rfl)
theorem dX7_getOutputSize_2 : decode cX7_getOutputSize 2 = .ok (.getfield 27, 3) := dk_180 0 27 (dk_at dksX7_getOutputSize_0 2 rfl rfl)
theorem dX7_getOutputSize_5 : decode cX7_getOutputSize 5 = .ok (.iadd, 1) := dk_96 (dk_at dksX7_getOutputSize_0 5 rfl rfl)
theorem dX7_getOutputSize_6 : decode cX7_getOutputSize 6 = .ok (.istore_n 2, 1) := dk_61 (dk_at dksX7_getOutputSize_0 6 rfl rfl)
theorem dX7_getOutputSize_7 : decode cX7_getOutputSize 7 = .ok (.iload_n 2, 1) := dk_28 (dk_at dksX7_getOutputSize_0 7 rfl rfl)
theorem dX7_getOutputSize_8 : decode cX7_getOutputSize 8 = .ok (.aload_n 0, 1) := dk_42 (dk_at dksX7_getOutputSize_0 8 rfl rfl)
theorem dX7_getOutputSize_9 : decode cX7_getOutputSize 9 = .ok (.getfield 23, 3) := dk_180 0 23 (dk_at dksX7_getOutputSize_0 9 rfl rfl)
theorem dX7_getOutputSize_12 : decode cX7_getOutputSize 12 = .ok (.arraylength, 1) := dk_190 (dk_at dksX7_getOutputSize_0 12 rfl rfl)
theorem dX7_getOutputSize_13 : decode cX7_getOutputSize 13 = .ok (.irem, 1) := dk_112 (dk_at dksX7_getOutputSize_0 13 rfl rfl)
theorem dX7_getOutputSize_14 : decode cX7_getOutputSize 14 = .ok (.istore_n 3, 1) := dk_62 (dk_at dksX7_getOutputSize_0 14 rfl rfl)
theorem dX7_getOutputSize_15 : decode cX7_getOutputSize 15 = .ok (.iload_n 3, 1) := dk_29 (dk_at dksX7_getOutputSize_0 15 rfl rfl)
theorem dX7_getOutputSize_16 : decode cX7_getOutputSize 16 = .ok (.ifCond .ne 20, 3) := dk_154 0 20 (dk_at dksX7_getOutputSize_0 16 rfl rfl)
theorem dX7_getOutputSize_19 : decode cX7_getOutputSize 19 = .ok (.aload_n 0, 1) := dk_42 (dk_at dksX7_getOutputSize_0 19 rfl rfl)
theorem dX7_getOutputSize_20 : decode cX7_getOutputSize 20 = .ok (.getfield 31, 3) := dk_180 0 31 (dk_at dksX7_getOutputSize_0 20 rfl rfl)
theorem dX7_getOutputSize_23 : decode cX7_getOutputSize 23 = .ok (.ifCond .eq 11, 3) := dk_153 0 11 (dk_at dksX7_getOutputSize_1 0 rfl rfl)
theorem dX7_getOutputSize_26 : decode cX7_getOutputSize 26 = .ok (.iload_n 2, 1) := dk_28 (dk_at dksX7_getOutputSize_1 3 rfl rfl)
theorem dX7_getOutputSize_27 : decode cX7_getOutputSize 27 = .ok (.aload_n 0, 1) := dk_42 (dk_at dksX7_getOutputSize_1 4 rfl rfl)
theorem dX7_getOutputSize_28 : decode cX7_getOutputSize 28 = .ok (.getfield 23, 3) := dk_180 0 23 (dk_at dksX7_getOutputSize_1 5 rfl rfl)
theorem dX7_getOutputSize_31 : decode cX7_getOutputSize 31 = .ok (.arraylength, 1) := dk_190 (dk_at dksX7_getOutputSize_1 8 rfl rfl)
theorem dX7_getOutputSize_32 : decode cX7_getOutputSize 32 = .ok (.iadd, 1) := dk_96 (dk_at dksX7_getOutputSize_1 9 rfl rfl)
theorem dX7_getOutputSize_33 : decode cX7_getOutputSize 33 = .ok (.ireturn, 1) := dk_172 (dk_at dksX7_getOutputSize_1 10 rfl rfl)
theorem dX7_getOutputSize_34 : decode cX7_getOutputSize 34 = .ok (.iload_n 2, 1) := dk_28 (dk_at dksX7_getOutputSize_1 11 rfl rfl)
theorem dX7_getOutputSize_35 : decode cX7_getOutputSize 35 = .ok (.ireturn, 1) := dk_172 (dk_at dksX7_getOutputSize_1 12 rfl rfl)
theorem dX7_getOutputSize_36 : decode cX7_getOutputSize 36 = .ok (.iload_n 2, 1) := dk_28 (dk_at dksX7_getOutputSize_1 13 rfl rfl)
theorem dX7_getOutputSize_37 : decode cX7_getOutputSize 37 = .ok (.iload_n 3, 1) := dk_29 (dk_at dksX7_getOutputSize_1 14 rfl rfl)
theorem dX7_getOutputSize_38 : decode cX7_getOutputSize 38 = .ok (.isub, 1) := dk_100 (dk_at dksX7_getOutputSize_1 15 rfl rfl)
theorem dX7_getOutputSize_39 : decode cX7_getOutputSize 39 = .ok (.aload_n 0, 1) := dk_42 (dk_at dksX7_getOutputSize_1 16 rfl rfl)
theorem dX7_getOutputSize_40 : decode cX7_getOutputSize 40 = .ok (.getfield 23, 3) := dk_180 0 23 (dk_at dksX7_getOutputSize_1 17 rfl rfl)
theorem dX7_getOutputSize_43 : decode cX7_getOutputSize 43 = .ok (.arraylength, 1) := dk_190 (dk_at dksX7_getOutputSize_1 20 rfl rfl)
theorem dX7_getOutputSize_44 : decode cX7_getOutputSize 44 = .ok (.iadd, 1) := dk_96 (dk_at dksX7_getOutputSize_1 21 rfl rfl)
theorem dX7_getOutputSize_45 : decode cX7_getOutputSize 45 = .ok (.ireturn, 1) := dk_172 (dk_at dksX7_getOutputSize_1 22 rfl rfl)
abbrev cX7_processBytes : ByteArray := prog_20_method_5_code
def yX7_processBytes : MethodName := ⟨RX7, "processBytes", "([BII[BI)I"⟩
def dkwX7_processBytes_9 : List UInt8 := [180, 0, 23, 42, 180, 0, 27, 29, 184, 0, 80, 42, 89, 180, 0, 27, 29, 96, 181, 0, 27, 21, 8, 172]
abbrev dktX7_processBytes_9 : List UInt8 := dkwX7_processBytes_9 ++ []
def dkwX7_processBytes_8 : List UInt8 := [185, 0, 92, 5, 0, 96, 54, 8, 29, 21, 6, 100, 62, 28, 21, 6, 96, 61, 167, 255, 214, 43, 28, 42]
abbrev dktX7_processBytes_8 : List UInt8 := dkwX7_processBytes_8 ++ dktX7_processBytes_9
def dkwX7_processBytes_7 : List UInt8 := [180, 0, 23, 190, 164, 0, 39, 21, 8, 42, 180, 0, 7, 43, 28, 25, 4, 21, 5, 21, 8, 96]
abbrev dktX7_processBytes_7 : List UInt8 := dkwX7_processBytes_7 ++ dktX7_processBytes_8
def dkwX7_processBytes_6 : List UInt8 := [180, 0, 23, 3, 25, 4, 21, 5, 185, 0, 92, 5, 0, 96, 54, 8, 42, 3, 181, 0, 27, 29, 42]
abbrev dktX7_processBytes_6 : List UInt8 := dkwX7_processBytes_6 ++ dktX7_processBytes_7
def dkwX7_processBytes_5 : List UInt8 := [29, 188, 8, 76, 25, 4, 28, 43, 3, 29, 184, 0, 80, 3, 61, 21, 8, 42, 180, 0, 7, 42]
abbrev dktX7_processBytes_5 : List UInt8 := dkwX7_processBytes_5 ++ dktX7_processBytes_6
def dkwX7_processBytes_4 : List UInt8 := [61, 29, 21, 9, 100, 62, 43, 25, 4, 166, 0, 30, 28, 29, 21, 5, 21, 7, 184, 0, 86, 153, 0, 18]
abbrev dktX7_processBytes_4 : List UInt8 := dkwX7_processBytes_4 ++ dktX7_processBytes_5
def dkwX7_processBytes_3 : List UInt8 := [21, 9, 164, 0, 134, 43, 28, 42, 180, 0, 23, 42, 180, 0, 27, 21, 9, 184, 0, 80, 28, 21, 9, 96]
abbrev dktX7_processBytes_3 : List UInt8 := dkwX7_processBytes_3 ++ dktX7_processBytes_4
def dkwX7_processBytes_2 : List UInt8 := [89, 18, 77, 183, 0, 79, 191, 3, 54, 8, 42, 180, 0, 23, 190, 42, 180, 0, 27, 100, 54, 9, 29]
abbrev dktX7_processBytes_2 : List UInt8 := dkwX7_processBytes_2 ++ dktX7_processBytes_3
def dkwX7_processBytes_1 : List UInt8 := [182, 0, 71, 54, 7, 21, 7, 158, 0, 24, 21, 5, 21, 7, 96, 25, 4, 190, 164, 0, 13, 187, 0, 75]
abbrev dktX7_processBytes_1 : List UInt8 := dkwX7_processBytes_1 ++ dktX7_processBytes_2
def dkwX7_processBytes_0 : List UInt8 := [29, 156, 0, 13, 187, 0, 63, 89, 18, 65, 183, 0, 67, 191, 42, 182, 0, 70, 54, 6, 42, 29]
abbrev dktX7_processBytes_0 : List UInt8 := dkwX7_processBytes_0 ++ dktX7_processBytes_1
theorem dksX7_processBytes_0 : cX7_processBytes.data.toList.drop 0 = dktX7_processBytes_0 := by decide +kernel
theorem dksX7_processBytes_1 : cX7_processBytes.data.toList.drop 22 = dktX7_processBytes_1 := dk_seg dksX7_processBytes_0 22 rfl rfl
theorem dksX7_processBytes_2 : cX7_processBytes.data.toList.drop 46 = dktX7_processBytes_2 := dk_seg dksX7_processBytes_1 24 rfl rfl
theorem dksX7_processBytes_3 : cX7_processBytes.data.toList.drop 69 = dktX7_processBytes_3 := dk_seg dksX7_processBytes_2 23 rfl rfl
theorem dksX7_processBytes_4 : cX7_processBytes.data.toList.drop 93 = dktX7_processBytes_4 := dk_seg dksX7_processBytes_3 24 rfl rfl
theorem dksX7_processBytes_5 : cX7_processBytes.data.toList.drop 117 = dktX7_processBytes_5 := dk_seg dksX7_processBytes_4 24 rfl rfl
theorem dksX7_processBytes_6 : cX7_processBytes.data.toList.drop 139 = dktX7_processBytes_6 := dk_seg dksX7_processBytes_5 22 rfl rfl
theorem dksX7_processBytes_7 : cX7_processBytes.data.toList.drop 162 = dktX7_processBytes_7 := dk_seg dksX7_processBytes_6 23 rfl rfl
theorem dksX7_processBytes_8 : cX7_processBytes.data.toList.drop 184 = dktX7_processBytes_8 := dk_seg dksX7_processBytes_7 22 rfl rfl
theorem dksX7_processBytes_9 : cX7_processBytes.data.toList.drop 208 = dktX7_processBytes_9 := dk_seg dksX7_processBytes_8 24 rfl rfl
theorem dX7_processBytes_0 : decode cX7_processBytes 0 = .ok (.iload_n 3, 1) := dk_29 (dk_at dksX7_processBytes_0 0 rfl rfl)
theorem dX7_processBytes_1 : decode cX7_processBytes 1 = .ok (.ifCond .ge 13, 3) := dk_156 0 13 (dk_at dksX7_processBytes_0 1 rfl rfl)
theorem dX7_processBytes_4 : decode cX7_processBytes 4 = .ok (.new 63, 3) := dk_187 0 63 (dk_at dksX7_processBytes_0 4 rfl rfl)
theorem dX7_processBytes_7 : decode cX7_processBytes 7 = .ok (.dup, 1) := dk_89 (dk_at dksX7_processBytes_0 7 rfl rfl)
theorem dX7_processBytes_8 : decode cX7_processBytes 8 = .ok (.ldc 65, 2) := dk_18 65 (dk_at dksX7_processBytes_0 8 rfl rfl)
theorem dX7_processBytes_10 : decode cX7_processBytes 10 = .ok (.invokespecial 67, 3) := dk_183 0 67 (dk_at dksX7_processBytes_0 10 rfl rfl)
theorem dX7_processBytes_13 : decode cX7_processBytes 13 = .ok (.athrow, 1) := dk_191 (dk_at dksX7_processBytes_0 13 rfl rfl)
theorem dX7_processBytes_14 : decode cX7_processBytes 14 = .ok (.aload_n 0, 1) := dk_42 (dk_at dksX7_processBytes_0 14 rfl rfl)
theorem dX7_processBytes_15 : decode cX7_processBytes 15 = .ok (.invokevirtual 70, 3) := dk_182 0 70 (dk_at dksX7_processBytes_0 15 rfl rfl)
theorem dX7_processBytes_18 : decode cX7_processBytes 18 = .ok (.istore 6, 2) := dk_54 6 (dk_at dksX7_processBytes_0 18 rfl rfl)
theorem dX7_processBytes_20 : decode cX7_processBytes 20 = .ok (.aload_n 0, 1) := dk_42 (dk_at dksX7_processBytes_0 20 rfl rfl)
theorem dX7_processBytes_21 : decode cX7_processBytes 21 = .ok (.iload_n 3, 1) := dk_29 (dk_at dksX7_processBytes_0 21 rfl rfl)
theorem dX7_processBytes_22 : decode cX7_processBytes 22 = .ok (.invokevirtual 71, 3) := dk_182 0 71 (dk_at dksX7_processBytes_1 0 rfl rfl)
theorem dX7_processBytes_25 : decode cX7_processBytes 25 = .ok (.istore 7, 2) := dk_54 7 (dk_at dksX7_processBytes_1 3 rfl rfl)
theorem dX7_processBytes_27 : decode cX7_processBytes 27 = .ok (.iload 7, 2) := dk_21 7 (dk_at dksX7_processBytes_1 5 rfl rfl)
theorem dX7_processBytes_29 : decode cX7_processBytes 29 = .ok (.ifCond .le 24, 3) := dk_158 0 24 (dk_at dksX7_processBytes_1 7 rfl rfl)
theorem dX7_processBytes_32 : decode cX7_processBytes 32 = .ok (.iload 5, 2) := dk_21 5 (dk_at dksX7_processBytes_1 10 rfl rfl)
theorem dX7_processBytes_34 : decode cX7_processBytes 34 = .ok (.iload 7, 2) := dk_21 7 (dk_at dksX7_processBytes_1 12 rfl rfl)
theorem dX7_processBytes_36 : decode cX7_processBytes 36 = .ok (.iadd, 1) := dk_96 (dk_at dksX7_processBytes_1 14 rfl rfl)
theorem dX7_processBytes_37 : decode cX7_processBytes 37 = .ok (.aload 4, 2) := dk_25 4 (dk_at dksX7_processBytes_1 15 rfl rfl)
theorem dX7_processBytes_39 : decode cX7_processBytes 39 = .ok (.arraylength, 1) := dk_190 (dk_at dksX7_processBytes_1 17 rfl rfl)
theorem dX7_processBytes_40 : decode cX7_processBytes 40 = .ok (.if_icmp .le 13, 3) := dk_164 0 13 (dk_at dksX7_processBytes_1 18 rfl rfl)
theorem dX7_processBytes_43 : decode cX7_processBytes 43 = .ok (.new 75, 3) := dk_187 0 75 (dk_at dksX7_processBytes_1 21 rfl rfl)
theorem dX7_processBytes_46 : decode cX7_processBytes 46 = .ok (.dup, 1) := dk_89 (dk_at dksX7_processBytes_2 0 rfl rfl)
theorem dX7_processBytes_47 : decode cX7_processBytes 47 = .ok (.ldc 77, 2) := dk_18 77 (dk_at dksX7_processBytes_2 1 rfl rfl)
theorem dX7_processBytes_49 : decode cX7_processBytes 49 = .ok (.invokespecial 79, 3) := dk_183 0 79 (dk_at dksX7_processBytes_2 3 rfl rfl)
theorem dX7_processBytes_52 : decode cX7_processBytes 52 = .ok (.athrow, 1) := dk_191 (dk_at dksX7_processBytes_2 6 rfl rfl)
theorem dX7_processBytes_53 : decode cX7_processBytes 53 = .ok (.iconst 0, 1) := dk_3 (dk_at dksX7_processBytes_2 7 rfl rfl)
theorem dX7_processBytes_54 : decode cX7_processBytes 54 = .ok (.istore 8, 2) := dk_54 8 (dk_at dksX7_processBytes_2 8 rfl rfl)
theorem dX7_processBytes_56 : decode cX7_processBytes 56 = .ok (.aload_n 0, 1) := dk_42 (dk_at dksX7_processBytes_2 10 rfl rfl)
theorem dX7_processBytes_57 : decode cX7_processBytes 57 = .ok (.getfield 23, 3) := dk_180 0 23 (dk_at dksX7_processBytes_2 11 rfl rfl)
theorem dX7_processBytes_60 : decode cX7_processBytes 60 = .ok (.arraylength, 1) := dk_190 (dk_at dksX7_processBytes_2 14 rfl rfl)
theorem dX7_processBytes_61 : decode cX7_processBytes 61 = .ok (.aload_n 0, 1) := dk_42 (dk_at dksX7_processBytes_2 15 rfl rfl)
theorem dX7_processBytes_62 : decode cX7_processBytes 62 = .ok (.getfield 27, 3) := dk_180 0 27 (dk_at dksX7_processBytes_2 16 rfl rfl)
theorem dX7_processBytes_65 : decode cX7_processBytes 65 = .ok (.isub, 1) := dk_100 (dk_at dksX7_processBytes_2 19 rfl rfl)
theorem dX7_processBytes_66 : decode cX7_processBytes 66 = .ok (.istore 9, 2) := dk_54 9 (dk_at dksX7_processBytes_2 20 rfl rfl)
theorem dX7_processBytes_68 : decode cX7_processBytes 68 = .ok (.iload_n 3, 1) := dk_29 (dk_at dksX7_processBytes_2 22 rfl rfl)
theorem dX7_processBytes_69 : decode cX7_processBytes 69 = .ok (.iload 9, 2) := dk_21 9 (dk_at dksX7_processBytes_3 0 rfl rfl)
theorem dX7_processBytes_71 : decode cX7_processBytes 71 = .ok (.if_icmp .le 134, 3) := dk_164 0 134 (dk_at dksX7_processBytes_3 2 rfl rfl)
theorem dX7_processBytes_74 : decode cX7_processBytes 74 = .ok (.aload_n 1, 1) := dk_43 (dk_at dksX7_processBytes_3 5 rfl rfl)
theorem dX7_processBytes_75 : decode cX7_processBytes 75 = .ok (.iload_n 2, 1) := dk_28 (dk_at dksX7_processBytes_3 6 rfl rfl)
theorem dX7_processBytes_76 : decode cX7_processBytes 76 = .ok (.aload_n 0, 1) := dk_42 (dk_at dksX7_processBytes_3 7 rfl rfl)
theorem dX7_processBytes_77 : decode cX7_processBytes 77 = .ok (.getfield 23, 3) := dk_180 0 23 (dk_at dksX7_processBytes_3 8 rfl rfl)
theorem dX7_processBytes_80 : decode cX7_processBytes 80 = .ok (.aload_n 0, 1) := dk_42 (dk_at dksX7_processBytes_3 11 rfl rfl)
theorem dX7_processBytes_81 : decode cX7_processBytes 81 = .ok (.getfield 27, 3) := dk_180 0 27 (dk_at dksX7_processBytes_3 12 rfl rfl)
theorem dX7_processBytes_84 : decode cX7_processBytes 84 = .ok (.iload 9, 2) := dk_21 9 (dk_at dksX7_processBytes_3 15 rfl rfl)
theorem dX7_processBytes_86 : decode cX7_processBytes 86 = .ok (.invokestatic 80, 3) := dk_184 0 80 (dk_at dksX7_processBytes_3 17 rfl rfl)
theorem dX7_processBytes_89 : decode cX7_processBytes 89 = .ok (.iload_n 2, 1) := dk_28 (dk_at dksX7_processBytes_3 20 rfl rfl)
theorem dX7_processBytes_90 : decode cX7_processBytes 90 = .ok (.iload 9, 2) := dk_21 9 (dk_at dksX7_processBytes_3 21 rfl rfl)
theorem dX7_processBytes_92 : decode cX7_processBytes 92 = .ok (.iadd, 1) := dk_96 (dk_at dksX7_processBytes_3 23 rfl rfl)
theorem dX7_processBytes_93 : decode cX7_processBytes 93 = .ok (.istore_n 2, 1) := dk_61 (dk_at dksX7_processBytes_4 0 rfl rfl)
theorem dX7_processBytes_94 : decode cX7_processBytes 94 = .ok (.iload_n 3, 1) := dk_29 (dk_at dksX7_processBytes_4 1 rfl rfl)
theorem dX7_processBytes_95 : decode cX7_processBytes 95 = .ok (.iload 9, 2) := dk_21 9 (dk_at dksX7_processBytes_4 2 rfl rfl)
theorem dX7_processBytes_97 : decode cX7_processBytes 97 = .ok (.isub, 1) := dk_100 (dk_at dksX7_processBytes_4 4 rfl rfl)
theorem dX7_processBytes_98 : decode cX7_processBytes 98 = .ok (.istore_n 3, 1) := dk_62 (dk_at dksX7_processBytes_4 5 rfl rfl)
theorem dX7_processBytes_99 : decode cX7_processBytes 99 = .ok (.aload_n 1, 1) := dk_43 (dk_at dksX7_processBytes_4 6 rfl rfl)
theorem dX7_processBytes_100 : decode cX7_processBytes 100 = .ok (.aload 4, 2) := dk_25 4 (dk_at dksX7_processBytes_4 7 rfl rfl)
theorem dX7_processBytes_102 : decode cX7_processBytes 102 = .ok (.if_acmp .ne 30, 3) := dk_166 0 30 (dk_at dksX7_processBytes_4 9 rfl rfl)
theorem dX7_processBytes_105 : decode cX7_processBytes 105 = .ok (.iload_n 2, 1) := dk_28 (dk_at dksX7_processBytes_4 12 rfl rfl)
theorem dX7_processBytes_106 : decode cX7_processBytes 106 = .ok (.iload_n 3, 1) := dk_29 (dk_at dksX7_processBytes_4 13 rfl rfl)
theorem dX7_processBytes_107 : decode cX7_processBytes 107 = .ok (.iload 5, 2) := dk_21 5 (dk_at dksX7_processBytes_4 14 rfl rfl)
theorem dX7_processBytes_109 : decode cX7_processBytes 109 = .ok (.iload 7, 2) := dk_21 7 (dk_at dksX7_processBytes_4 16 rfl rfl)
theorem dX7_processBytes_111 : decode cX7_processBytes 111 = .ok (.invokestatic 86, 3) := dk_184 0 86 (dk_at dksX7_processBytes_4 18 rfl rfl)
theorem dX7_processBytes_114 : decode cX7_processBytes 114 = .ok (.ifCond .eq 18, 3) := dk_153 0 18 (dk_at dksX7_processBytes_4 21 rfl rfl)
theorem dX7_processBytes_117 : decode cX7_processBytes 117 = .ok (.iload_n 3, 1) := dk_29 (dk_at dksX7_processBytes_5 0 rfl rfl)
theorem dX7_processBytes_118 : decode cX7_processBytes 118 = .ok (.newarray .byte, 2) := dk_188_8 (dk_at dksX7_processBytes_5 1 rfl rfl)
theorem dX7_processBytes_120 : decode cX7_processBytes 120 = .ok (.astore_n 1, 1) := dk_76 (dk_at dksX7_processBytes_5 3 rfl rfl)
theorem dX7_processBytes_121 : decode cX7_processBytes 121 = .ok (.aload 4, 2) := dk_25 4 (dk_at dksX7_processBytes_5 4 rfl rfl)
theorem dX7_processBytes_123 : decode cX7_processBytes 123 = .ok (.iload_n 2, 1) := dk_28 (dk_at dksX7_processBytes_5 6 rfl rfl)
theorem dX7_processBytes_124 : decode cX7_processBytes 124 = .ok (.aload_n 1, 1) := dk_43 (dk_at dksX7_processBytes_5 7 rfl rfl)
theorem dX7_processBytes_125 : decode cX7_processBytes 125 = .ok (.iconst 0, 1) := dk_3 (dk_at dksX7_processBytes_5 8 rfl rfl)
theorem dX7_processBytes_126 : decode cX7_processBytes 126 = .ok (.iload_n 3, 1) := dk_29 (dk_at dksX7_processBytes_5 9 rfl rfl)
theorem dX7_processBytes_127 : decode cX7_processBytes 127 = .ok (.invokestatic 80, 3) := dk_184 0 80 (dk_at dksX7_processBytes_5 10 rfl rfl)
theorem dX7_processBytes_130 : decode cX7_processBytes 130 = .ok (.iconst 0, 1) := dk_3 (dk_at dksX7_processBytes_5 13 rfl rfl)
theorem dX7_processBytes_131 : decode cX7_processBytes 131 = .ok (.istore_n 2, 1) := dk_61 (dk_at dksX7_processBytes_5 14 rfl rfl)
theorem dX7_processBytes_132 : decode cX7_processBytes 132 = .ok (.iload 8, 2) := dk_21 8 (dk_at dksX7_processBytes_5 15 rfl rfl)
theorem dX7_processBytes_134 : decode cX7_processBytes 134 = .ok (.aload_n 0, 1) := dk_42 (dk_at dksX7_processBytes_5 17 rfl rfl)
theorem dX7_processBytes_135 : decode cX7_processBytes 135 = .ok (.getfield 7, 3) := dk_180 0 7 (dk_at dksX7_processBytes_5 18 rfl rfl)
theorem dX7_processBytes_138 : decode cX7_processBytes 138 = .ok (.aload_n 0, 1) := dk_42 (dk_at dksX7_processBytes_5 21 rfl rfl)
theorem dX7_processBytes_139 : decode cX7_processBytes 139 = .ok (.getfield 23, 3) := dk_180 0 23 (dk_at dksX7_processBytes_6 0 rfl rfl)
theorem dX7_processBytes_142 : decode cX7_processBytes 142 = .ok (.iconst 0, 1) := dk_3 (dk_at dksX7_processBytes_6 3 rfl rfl)
theorem dX7_processBytes_143 : decode cX7_processBytes 143 = .ok (.aload 4, 2) := dk_25 4 (dk_at dksX7_processBytes_6 4 rfl rfl)
theorem dX7_processBytes_145 : decode cX7_processBytes 145 = .ok (.iload 5, 2) := dk_21 5 (dk_at dksX7_processBytes_6 6 rfl rfl)
theorem dX7_processBytes_147 : decode cX7_processBytes 147 = .ok (.invokeinterface 92 5, 5) := by decide +kernel
theorem dX7_processBytes_152 : decode cX7_processBytes 152 = .ok (.iadd, 1) := dk_96 (dk_at dksX7_processBytes_6 13 rfl rfl)
theorem dX7_processBytes_153 : decode cX7_processBytes 153 = .ok (.istore 8, 2) := dk_54 8 (dk_at dksX7_processBytes_6 14 rfl rfl)
theorem dX7_processBytes_155 : decode cX7_processBytes 155 = .ok (.aload_n 0, 1) := dk_42 (dk_at dksX7_processBytes_6 16 rfl rfl)
theorem dX7_processBytes_156 : decode cX7_processBytes 156 = .ok (.iconst 0, 1) := dk_3 (dk_at dksX7_processBytes_6 17 rfl rfl)
theorem dX7_processBytes_157 : decode cX7_processBytes 157 = .ok (.putfield 27, 3) := dk_181 0 27 (dk_at dksX7_processBytes_6 18 rfl rfl)
theorem dX7_processBytes_160 : decode cX7_processBytes 160 = .ok (.iload_n 3, 1) := dk_29 (dk_at dksX7_processBytes_6 21 rfl rfl)
theorem dX7_processBytes_161 : decode cX7_processBytes 161 = .ok (.aload_n 0, 1) := dk_42 (dk_at dksX7_processBytes_6 22 rfl rfl)
theorem dX7_processBytes_162 : decode cX7_processBytes 162 = .ok (.getfield 23, 3) := dk_180 0 23 (dk_at dksX7_processBytes_7 0 rfl rfl)
theorem dX7_processBytes_165 : decode cX7_processBytes 165 = .ok (.arraylength, 1) := dk_190 (dk_at dksX7_processBytes_7 3 rfl rfl)
theorem dX7_processBytes_166 : decode cX7_processBytes 166 = .ok (.if_icmp .le 39, 3) := dk_164 0 39 (dk_at dksX7_processBytes_7 4 rfl rfl)
theorem dX7_processBytes_169 : decode cX7_processBytes 169 = .ok (.iload 8, 2) := dk_21 8 (dk_at dksX7_processBytes_7 7 rfl rfl)
theorem dX7_processBytes_171 : decode cX7_processBytes 171 = .ok (.aload_n 0, 1) := dk_42 (dk_at dksX7_processBytes_7 9 rfl rfl)
theorem dX7_processBytes_172 : decode cX7_processBytes 172 = .ok (.getfield 7, 3) := dk_180 0 7 (dk_at dksX7_processBytes_7 10 rfl rfl)
theorem dX7_processBytes_175 : decode cX7_processBytes 175 = .ok (.aload_n 1, 1) := dk_43 (dk_at dksX7_processBytes_7 13 rfl rfl)
theorem dX7_processBytes_176 : decode cX7_processBytes 176 = .ok (.iload_n 2, 1) := dk_28 (dk_at dksX7_processBytes_7 14 rfl rfl)
theorem dX7_processBytes_177 : decode cX7_processBytes 177 = .ok (.aload 4, 2) := dk_25 4 (dk_at dksX7_processBytes_7 15 rfl rfl)
theorem dX7_processBytes_179 : decode cX7_processBytes 179 = .ok (.iload 5, 2) := dk_21 5 (dk_at dksX7_processBytes_7 17 rfl rfl)
theorem dX7_processBytes_181 : decode cX7_processBytes 181 = .ok (.iload 8, 2) := dk_21 8 (dk_at dksX7_processBytes_7 19 rfl rfl)
theorem dX7_processBytes_183 : decode cX7_processBytes 183 = .ok (.iadd, 1) := dk_96 (dk_at dksX7_processBytes_7 21 rfl rfl)
theorem dX7_processBytes_184 : decode cX7_processBytes 184 = .ok (.invokeinterface 92 5, 5) := by decide +kernel
theorem dX7_processBytes_189 : decode cX7_processBytes 189 = .ok (.iadd, 1) := dk_96 (dk_at dksX7_processBytes_8 5 rfl rfl)
theorem dX7_processBytes_190 : decode cX7_processBytes 190 = .ok (.istore 8, 2) := dk_54 8 (dk_at dksX7_processBytes_8 6 rfl rfl)
theorem dX7_processBytes_192 : decode cX7_processBytes 192 = .ok (.iload_n 3, 1) := dk_29 (dk_at dksX7_processBytes_8 8 rfl rfl)
theorem dX7_processBytes_193 : decode cX7_processBytes 193 = .ok (.iload 6, 2) := dk_21 6 (dk_at dksX7_processBytes_8 9 rfl rfl)
theorem dX7_processBytes_195 : decode cX7_processBytes 195 = .ok (.isub, 1) := dk_100 (dk_at dksX7_processBytes_8 11 rfl rfl)
theorem dX7_processBytes_196 : decode cX7_processBytes 196 = .ok (.istore_n 3, 1) := dk_62 (dk_at dksX7_processBytes_8 12 rfl rfl)
theorem dX7_processBytes_197 : decode cX7_processBytes 197 = .ok (.iload_n 2, 1) := dk_28 (dk_at dksX7_processBytes_8 13 rfl rfl)
theorem dX7_processBytes_198 : decode cX7_processBytes 198 = .ok (.iload 6, 2) := dk_21 6 (dk_at dksX7_processBytes_8 14 rfl rfl)
theorem dX7_processBytes_200 : decode cX7_processBytes 200 = .ok (.iadd, 1) := dk_96 (dk_at dksX7_processBytes_8 16 rfl rfl)
theorem dX7_processBytes_201 : decode cX7_processBytes 201 = .ok (.istore_n 2, 1) := dk_61 (dk_at dksX7_processBytes_8 17 rfl rfl)
theorem dX7_processBytes_202 : decode cX7_processBytes 202 = .ok (.goto (-42), 3) := dk_167 255 214 (dk_at dksX7_processBytes_8 18 rfl rfl)
theorem dX7_processBytes_205 : decode cX7_processBytes 205 = .ok (.aload_n 1, 1) := dk_43 (dk_at dksX7_processBytes_8 21 rfl rfl)
theorem dX7_processBytes_206 : decode cX7_processBytes 206 = .ok (.iload_n 2, 1) := dk_28 (dk_at dksX7_processBytes_8 22 rfl rfl)
theorem dX7_processBytes_207 : decode cX7_processBytes 207 = .ok (.aload_n 0, 1) := dk_42 (dk_at dksX7_processBytes_8 23 rfl rfl)
theorem dX7_processBytes_208 : decode cX7_processBytes 208 = .ok (.getfield 23, 3) := dk_180 0 23 (dk_at dksX7_processBytes_9 0 rfl rfl)
theorem dX7_processBytes_211 : decode cX7_processBytes 211 = .ok (.aload_n 0, 1) := dk_42 (dk_at dksX7_processBytes_9 3 rfl rfl)
theorem dX7_processBytes_212 : decode cX7_processBytes 212 = .ok (.getfield 27, 3) := dk_180 0 27 (dk_at dksX7_processBytes_9 4 rfl rfl)
theorem dX7_processBytes_215 : decode cX7_processBytes 215 = .ok (.iload_n 3, 1) := dk_29 (dk_at dksX7_processBytes_9 7 rfl rfl)
theorem dX7_processBytes_216 : decode cX7_processBytes 216 = .ok (.invokestatic 80, 3) := dk_184 0 80 (dk_at dksX7_processBytes_9 8 rfl rfl)
theorem dX7_processBytes_219 : decode cX7_processBytes 219 = .ok (.aload_n 0, 1) := dk_42 (dk_at dksX7_processBytes_9 11 rfl rfl)
theorem dX7_processBytes_220 : decode cX7_processBytes 220 = .ok (.dup, 1) := dk_89 (dk_at dksX7_processBytes_9 12 rfl rfl)
theorem dX7_processBytes_221 : decode cX7_processBytes 221 = .ok (.getfield 27, 3) := dk_180 0 27 (dk_at dksX7_processBytes_9 13 rfl rfl)
theorem dX7_processBytes_224 : decode cX7_processBytes 224 = .ok (.iload_n 3, 1) := dk_29 (dk_at dksX7_processBytes_9 16 rfl rfl)
theorem dX7_processBytes_225 : decode cX7_processBytes 225 = .ok (.iadd, 1) := dk_96 (dk_at dksX7_processBytes_9 17 rfl rfl)
theorem dX7_processBytes_226 : decode cX7_processBytes 226 = .ok (.putfield 27, 3) := dk_181 0 27 (dk_at dksX7_processBytes_9 18 rfl rfl)
theorem dX7_processBytes_229 : decode cX7_processBytes 229 = .ok (.iload 8, 2) := dk_21 8 (dk_at dksX7_processBytes_9 21 rfl rfl)
theorem dX7_processBytes_231 : decode cX7_processBytes 231 = .ok (.ireturn, 1) := dk_172 (dk_at dksX7_processBytes_9 23 rfl rfl)
abbrev cX7_getUpdateOutputSize : ByteArray := prog_20_method_4_code
def yX7_getUpdateOutputSize : MethodName := ⟨RX7, "getUpdateOutputSize", "(I)I"⟩
def dkwX7_getUpdateOutputSize_1 : List UInt8 := [180, 0, 23, 190, 100, 184, 0, 57, 172, 28, 29, 100, 172]
abbrev dktX7_getUpdateOutputSize_1 : List UInt8 := dkwX7_getUpdateOutputSize_1 ++ []
def dkwX7_getUpdateOutputSize_0 : List UInt8 := [27, 42, 180, 0, 27, 96, 61, 28, 42, 180, 0, 23, 190, 112, 62, 29, 154, 0, 15, 3, 28, 42]
abbrev dktX7_getUpdateOutputSize_0 : List UInt8 := dkwX7_getUpdateOutputSize_0 ++ dktX7_getUpdateOutputSize_1
theorem dksX7_getUpdateOutputSize_0 : cX7_getUpdateOutputSize.data.toList.drop 0 = dktX7_getUpdateOutputSize_0 := by decide +kernel
theorem dksX7_getUpdateOutputSize_1 : cX7_getUpdateOutputSize.data.toList.drop 22 = dktX7_getUpdateOutputSize_1 := dk_seg dksX7_getUpdateOutputSize_0 22 rfl rfl
theorem dX7_getUpdateOutputSize_0 : decode cX7_getUpdateOutputSize 0 = .ok (.iload_n 1, 1) := dk_27 (dk_at dksX7_getUpdateOutputSize_0 0 rfl rfl)
theorem dX7_getUpdateOutputSize_1 : decode cX7_getUpdateOutputSize 1 = .ok (.aload_n 0, 1) := dk_42 (dk_at dksX7_getUpdateOutputSize_0 1 rfl rfl)
theorem dX7_getUpdateOutputSize_2 : decode cX7_getUpdateOutputSize 2 = .ok (.getfield 27, 3) := dk_180 0 27 (dk_at dksX7_getUpdateOutputSize_0 2 rfl rfl)
theorem dX7_getUpdateOutputSize_5 : decode cX7_getUpdateOutputSize 5 = .ok (.iadd, 1) := dk_96 (dk_at dksX7_getUpdateOutputSize_0 5 rfl rfl)
theorem dX7_getUpdateOutputSize_6 : decode cX7_getUpdateOutputSize 6 = .ok (.istore_n 2, 1) := dk_61 (dk_at dksX7_getUpdateOutputSize_0 6 rfl rfl)
theorem dX7_getUpdateOutputSize_7 : decode cX7_getUpdateOutputSize 7 = .ok (.iload_n 2, 1) := dk_28 (dk_at dksX7_getUpdateOutputSize_0 7 rfl rfl)
theorem dX7_getUpdateOutputSize_8 : decode cX7_getUpdateOutputSize 8 = .ok (.aload_n 0, 1) := dk_42 (dk_at dksX7_getUpdateOutputSize_0 8 rfl rfl)
theorem dX7_getUpdateOutputSize_9 : decode cX7_getUpdateOutputSize 9 = .ok (.getfield 23, 3) := dk_180 0 23 (dk_at dksX7_getUpdateOutputSize_0 9 rfl rfl)
theorem dX7_getUpdateOutputSize_12 : decode cX7_getUpdateOutputSize 12 = .ok (.arraylength, 1) := dk_190 (dk_at dksX7_getUpdateOutputSize_0 12 rfl rfl)
theorem dX7_getUpdateOutputSize_13 : decode cX7_getUpdateOutputSize 13 = .ok (.irem, 1) := dk_112 (dk_at dksX7_getUpdateOutputSize_0 13 rfl rfl)
theorem dX7_getUpdateOutputSize_14 : decode cX7_getUpdateOutputSize 14 = .ok (.istore_n 3, 1) := dk_62 (dk_at dksX7_getUpdateOutputSize_0 14 rfl rfl)
theorem dX7_getUpdateOutputSize_15 : decode cX7_getUpdateOutputSize 15 = .ok (.iload_n 3, 1) := dk_29 (dk_at dksX7_getUpdateOutputSize_0 15 rfl rfl)
theorem dX7_getUpdateOutputSize_16 : decode cX7_getUpdateOutputSize 16 = .ok (.ifCond .ne 15, 3) := dk_154 0 15 (dk_at dksX7_getUpdateOutputSize_0 16 rfl rfl)
theorem dX7_getUpdateOutputSize_19 : decode cX7_getUpdateOutputSize 19 = .ok (.iconst 0, 1) := dk_3 (dk_at dksX7_getUpdateOutputSize_0 19 rfl rfl)
theorem dX7_getUpdateOutputSize_20 : decode cX7_getUpdateOutputSize 20 = .ok (.iload_n 2, 1) := dk_28 (dk_at dksX7_getUpdateOutputSize_0 20 rfl rfl)
theorem dX7_getUpdateOutputSize_21 : decode cX7_getUpdateOutputSize 21 = .ok (.aload_n 0, 1) := dk_42 (dk_at dksX7_getUpdateOutputSize_0 21 rfl rfl)
theorem dX7_getUpdateOutputSize_22 : decode cX7_getUpdateOutputSize 22 = .ok (.getfield 23, 3) := dk_180 0 23 (dk_at dksX7_getUpdateOutputSize_1 0 rfl rfl)
theorem dX7_getUpdateOutputSize_25 : decode cX7_getUpdateOutputSize 25 = .ok (.arraylength, 1) := dk_190 (dk_at dksX7_getUpdateOutputSize_1 3 rfl rfl)
theorem dX7_getUpdateOutputSize_26 : decode cX7_getUpdateOutputSize 26 = .ok (.isub, 1) := dk_100 (dk_at dksX7_getUpdateOutputSize_1 4 rfl rfl)
theorem dX7_getUpdateOutputSize_27 : decode cX7_getUpdateOutputSize 27 = .ok (.invokestatic 57, 3) := dk_184 0 57 (dk_at dksX7_getUpdateOutputSize_1 5 rfl rfl)
theorem dX7_getUpdateOutputSize_30 : decode cX7_getUpdateOutputSize 30 = .ok (.ireturn, 1) := dk_172 (dk_at dksX7_getUpdateOutputSize_1 8 rfl rfl)
theorem dX7_getUpdateOutputSize_31 : decode cX7_getUpdateOutputSize 31 = .ok (.iload_n 2, 1) := dk_28 (dk_at dksX7_getUpdateOutputSize_1 9 rfl rfl)
theorem dX7_getUpdateOutputSize_32 : decode cX7_getUpdateOutputSize 32 = .ok (.iload_n 3, 1) := dk_29 (dk_at dksX7_getUpdateOutputSize_1 10 rfl rfl)
theorem dX7_getUpdateOutputSize_33 : decode cX7_getUpdateOutputSize 33 = .ok (.isub, 1) := dk_100 (dk_at dksX7_getUpdateOutputSize_1 11 rfl rfl)
theorem dX7_getUpdateOutputSize_34 : decode cX7_getUpdateOutputSize 34 = .ok (.ireturn, 1) := dk_172 (dk_at dksX7_getUpdateOutputSize_1 12 rfl rfl)
abbrev cX7_doFinal : ByteArray := prog_20_method_6_code
def yX7_doFinal : MethodName := ⟨RX7, "doFinal", "([BI)I"⟩
def dkwX7_doFinal_9 : List UInt8 := [167, 0, 12, 58, 5, 42, 182, 0, 35, 25, 5, 191, 21, 4, 172]
abbrev dktX7_doFinal_9 : List UInt8 := dkwX7_doFinal_9 ++ []
def dkwX7_doFinal_8 : List UInt8 := [185, 0, 105, 2, 0, 100, 54, 4, 42, 180, 0, 23, 3, 43, 28, 21, 4, 184, 0, 80, 42, 182, 0, 35]
abbrev dktX7_doFinal_8 : List UInt8 := dkwX7_doFinal_8 ++ dktX7_doFinal_9
def dkwX7_doFinal_7 : List UInt8 := [187, 0, 100, 89, 18, 102, 183, 0, 104, 191, 21, 4, 42, 180, 0, 13, 42, 180, 0, 23]
abbrev dktX7_doFinal_7 : List UInt8 := dkwX7_doFinal_7 ++ dktX7_doFinal_8
def dkwX7_doFinal_6 : List UInt8 := [180, 0, 23, 3, 185, 0, 92, 5, 0, 54, 4, 42, 3, 181, 0, 27, 167, 0, 17, 42, 182, 0, 35]
abbrev dktX7_doFinal_6 : List UInt8 := dkwX7_doFinal_6 ++ dktX7_doFinal_7
def dkwX7_doFinal_5 : List UInt8 := [182, 0, 35, 167, 0, 100, 42, 180, 0, 27, 29, 160, 0, 32, 42, 180, 0, 7, 42, 180, 0, 23, 3, 42]
abbrev dktX7_doFinal_5 : List UInt8 := dkwX7_doFinal_5 ++ dktX7_doFinal_6
def dkwX7_doFinal_4 : List UInt8 := [180, 0, 7, 42, 180, 0, 23, 3, 43, 28, 21, 4, 96, 185, 0, 92, 5, 0, 96, 54, 4, 42]
abbrev dktX7_doFinal_4 : List UInt8 := dkwX7_doFinal_4 ++ dktX7_doFinal_5
def dkwX7_doFinal_3 : List UInt8 := [181, 0, 27, 42, 180, 0, 13, 42, 180, 0, 23, 42, 180, 0, 27, 185, 0, 96, 3, 0, 87, 21, 4, 42]
abbrev dktX7_doFinal_3 : List UInt8 := dkwX7_doFinal_3 ++ dktX7_doFinal_4
def dkwX7_doFinal_2 : List UInt8 := [183, 0, 79, 191, 42, 180, 0, 7, 42, 180, 0, 23, 3, 43, 28, 185, 0, 92, 5, 0, 54, 4, 42, 3]
abbrev dktX7_doFinal_2 : List UInt8 := dkwX7_doFinal_2 ++ dktX7_doFinal_3
def dkwX7_doFinal_1 : List UInt8 := [29, 160, 0, 50, 28, 5, 29, 104, 96, 43, 190, 164, 0, 17, 42, 182, 0, 35, 187, 0, 75, 89, 18, 77]
abbrev dktX7_doFinal_1 : List UInt8 := dkwX7_doFinal_1 ++ dktX7_doFinal_2
def dkwX7_doFinal_0 : List UInt8 := [42, 180, 0, 7, 185, 0, 17, 1, 0, 62, 3, 54, 4, 42, 180, 0, 31, 153, 0, 107, 42, 180, 0, 27]
abbrev dktX7_doFinal_0 : List UInt8 := dkwX7_doFinal_0 ++ dktX7_doFinal_1
theorem dksX7_doFinal_0 : cX7_doFinal.data.toList.drop 0 = dktX7_doFinal_0 := by decide +kernel
theorem dksX7_doFinal_1 : cX7_doFinal.data.toList.drop 24 = dktX7_doFinal_1 := dk_seg dksX7_doFinal_0 24 rfl rfl
theorem dksX7_doFinal_2 : cX7_doFinal.data.toList.drop 48 = dktX7_doFinal_2 := dk_seg dksX7_doFinal_1 24 rfl rfl
theorem dksX7_doFinal_3 : cX7_doFinal.data.toList.drop 72 = dktX7_doFinal_3 := dk_seg dksX7_doFinal_2 24 rfl rfl
theorem dksX7_doFinal_4 : cX7_doFinal.data.toList.drop 96 = dktX7_doFinal_4 := dk_seg dksX7_doFinal_3 24 rfl rfl
theorem dksX7_doFinal_5 : cX7_doFinal.data.toList.drop 118 = dktX7_doFinal_5 := dk_seg dksX7_doFinal_4 22 rfl rfl
theorem dksX7_doFinal_6 : cX7_doFinal.data.toList.drop 142 = dktX7_doFinal_6 := dk_seg dksX7_doFinal_5 24 rfl rfl
theorem dksX7_doFinal_7 : cX7_doFinal.data.toList.drop 165 = dktX7_doFinal_7 := dk_seg dksX7_doFinal_6 23 rfl rfl
theorem dksX7_doFinal_8 : cX7_doFinal.data.toList.drop 185 = dktX7_doFinal_8 := dk_seg dksX7_doFinal_7 20 rfl rfl
theorem dksX7_doFinal_9 : cX7_doFinal.data.toList.drop 209 = dktX7_doFinal_9 := dk_seg dksX7_doFinal_8 24 rfl rfl
theorem dX7_doFinal_0 : decode cX7_doFinal 0 = .ok (.aload_n 0, 1) := dk_42 (dk_at dksX7_doFinal_0 0 rfl rfl)
theorem dX7_doFinal_1 : decode cX7_doFinal 1 = .ok (.getfield 7, 3) := dk_180 0 7 (dk_at dksX7_doFinal_0 1 rfl rfl)
theorem dX7_doFinal_4 : decode cX7_doFinal 4 = .ok (.invokeinterface 17 1, 5) := by decide +kernel
theorem dX7_doFinal_9 : decode cX7_doFinal 9 = .ok (.istore_n 3, 1) := dk_62 (dk_at dksX7_doFinal_0 9 rfl rfl)
theorem dX7_doFinal_10 : decode cX7_doFinal 10 = .ok (.iconst 0, 1) := dk_3 (dk_at dksX7_doFinal_0 10 rfl rfl)
theorem dX7_doFinal_11 : decode cX7_doFinal 11 = .ok (.istore 4, 2) := dk_54 4 (dk_at dksX7_doFinal_0 11 rfl rfl)
theorem dX7_doFinal_13 : decode cX7_doFinal 13 = .ok (.aload_n 0, 1) := dk_42 (dk_at dksX7_doFinal_0 13 rfl rfl)
theorem dX7_doFinal_14 : decode cX7_doFinal 14 = .ok (.getfield 31, 3) := dk_180 0 31 (dk_at dksX7_doFinal_0 14 rfl rfl)
theorem dX7_doFinal_17 : decode cX7_doFinal 17 = .ok (.ifCond .eq 107, 3) := dk_153 0 107 (dk_at dksX7_doFinal_0 17 rfl rfl)
theorem dX7_doFinal_20 : decode cX7_doFinal 20 = .ok (.aload_n 0, 1) := dk_42 (dk_at dksX7_doFinal_0 20 rfl rfl)
theorem dX7_doFinal_21 : decode cX7_doFinal 21 = .ok (.getfield 27, 3) := dk_180 0 27 (dk_at dksX7_doFinal_0 21 rfl rfl)
theorem dX7_doFinal_24 : decode cX7_doFinal 24 = .ok (.iload_n 3, 1) := dk_29 (dk_at dksX7_doFinal_1 0 rfl rfl)
theorem dX7_doFinal_25 : decode cX7_doFinal 25 = .ok (.if_icmp .ne 50, 3) := dk_160 0 50 (dk_at dksX7_doFinal_1 1 rfl rfl)
theorem dX7_doFinal_28 : decode cX7_doFinal 28 = .ok (.iload_n 2, 1) := dk_28 (dk_at dksX7_doFinal_1 4 rfl rfl)
theorem dX7_doFinal_29 : decode cX7_doFinal 29 = .ok (.iconst 2, 1) := dk_5 (dk_at dksX7_doFinal_1 5 rfl rfl)
theorem dX7_doFinal_30 : decode cX7_doFinal 30 = .ok (.iload_n 3, 1) := dk_29 (dk_at dksX7_doFinal_1 6 rfl rfl)
theorem dX7_doFinal_31 : decode cX7_doFinal 31 = .ok (.imul, 1) := dk_104 (dk_at dksX7_doFinal_1 7 rfl rfl)
theorem dX7_doFinal_32 : decode cX7_doFinal 32 = .ok (.iadd, 1) := dk_96 (dk_at dksX7_doFinal_1 8 rfl rfl)
theorem dX7_doFinal_33 : decode cX7_doFinal 33 = .ok (.aload_n 1, 1) := dk_43 (dk_at dksX7_doFinal_1 9 rfl rfl)
theorem dX7_doFinal_34 : decode cX7_doFinal 34 = .ok (.arraylength, 1) := dk_190 (dk_at dksX7_doFinal_1 10 rfl rfl)
theorem dX7_doFinal_35 : decode cX7_doFinal 35 = .ok (.if_icmp .le 17, 3) := dk_164 0 17 (dk_at dksX7_doFinal_1 11 rfl rfl)
theorem dX7_doFinal_38 : decode cX7_doFinal 38 = .ok (.aload_n 0, 1) := dk_42 (dk_at dksX7_doFinal_1 14 rfl rfl)
theorem dX7_doFinal_39 : decode cX7_doFinal 39 = .ok (.invokevirtual 35, 3) := dk_182 0 35 (dk_at dksX7_doFinal_1 15 rfl rfl)
theorem dX7_doFinal_42 : decode cX7_doFinal 42 = .ok (.new 75, 3) := dk_187 0 75 (dk_at dksX7_doFinal_1 18 rfl rfl)
theorem dX7_doFinal_45 : decode cX7_doFinal 45 = .ok (.dup, 1) := dk_89 (dk_at dksX7_doFinal_1 21 rfl rfl)
theorem dX7_doFinal_46 : decode cX7_doFinal 46 = .ok (.ldc 77, 2) := dk_18 77 (dk_at dksX7_doFinal_1 22 rfl rfl)
theorem dX7_doFinal_48 : decode cX7_doFinal 48 = .ok (.invokespecial 79, 3) := dk_183 0 79 (dk_at dksX7_doFinal_2 0 rfl rfl)
theorem dX7_doFinal_51 : decode cX7_doFinal 51 = .ok (.athrow, 1) := dk_191 (dk_at dksX7_doFinal_2 3 rfl rfl)
theorem dX7_doFinal_52 : decode cX7_doFinal 52 = .ok (.aload_n 0, 1) := dk_42 (dk_at dksX7_doFinal_2 4 rfl rfl)
theorem dX7_doFinal_53 : decode cX7_doFinal 53 = .ok (.getfield 7, 3) := dk_180 0 7 (dk_at dksX7_doFinal_2 5 rfl rfl)
theorem dX7_doFinal_56 : decode cX7_doFinal 56 = .ok (.aload_n 0, 1) := dk_42 (dk_at dksX7_doFinal_2 8 rfl rfl)
theorem dX7_doFinal_57 : decode cX7_doFinal 57 = .ok (.getfield 23, 3) := dk_180 0 23 (dk_at dksX7_doFinal_2 9 rfl rfl)
theorem dX7_doFinal_60 : decode cX7_doFinal 60 = .ok (.iconst 0, 1) := dk_3 (dk_at dksX7_doFinal_2 12 rfl rfl)
theorem dX7_doFinal_61 : decode cX7_doFinal 61 = .ok (.aload_n 1, 1) := dk_43 (dk_at dksX7_doFinal_2 13 rfl rfl)
theorem dX7_doFinal_62 : decode cX7_doFinal 62 = .ok (.iload_n 2, 1) := dk_28 (dk_at dksX7_doFinal_2 14 rfl rfl)
theorem dX7_doFinal_63 : decode cX7_doFinal 63 = .ok (.invokeinterface 92 5, 5) := by decide +kernel
theorem dX7_doFinal_68 : decode cX7_doFinal 68 = .ok (.istore 4, 2) := dk_54 4 (dk_at dksX7_doFinal_2 20 rfl rfl)
theorem dX7_doFinal_70 : decode cX7_doFinal 70 = .ok (.aload_n 0, 1) := dk_42 (dk_at dksX7_doFinal_2 22 rfl rfl)
theorem dX7_doFinal_71 : decode cX7_doFinal 71 = .ok (.iconst 0, 1) := dk_3 (dk_at dksX7_doFinal_2 23 rfl rfl)
theorem dX7_doFinal_72 : decode cX7_doFinal 72 = .ok (.putfield 27, 3) := dk_181 0 27 (dk_at dksX7_doFinal_3 0 rfl rfl)
theorem dX7_doFinal_75 : decode cX7_doFinal 75 = .ok (.aload_n 0, 1) := dk_42 (dk_at dksX7_doFinal_3 3 rfl rfl)
theorem dX7_doFinal_76 : decode cX7_doFinal 76 = .ok (.getfield 13, 3) := dk_180 0 13 (dk_at dksX7_doFinal_3 4 rfl rfl)
theorem dX7_doFinal_79 : decode cX7_doFinal 79 = .ok (.aload_n 0, 1) := dk_42 (dk_at dksX7_doFinal_3 7 rfl rfl)
theorem dX7_doFinal_80 : decode cX7_doFinal 80 = .ok (.getfield 23, 3) := dk_180 0 23 (dk_at dksX7_doFinal_3 8 rfl rfl)
theorem dX7_doFinal_83 : decode cX7_doFinal 83 = .ok (.aload_n 0, 1) := dk_42 (dk_at dksX7_doFinal_3 11 rfl rfl)
theorem dX7_doFinal_84 : decode cX7_doFinal 84 = .ok (.getfield 27, 3) := dk_180 0 27 (dk_at dksX7_doFinal_3 12 rfl rfl)
theorem dX7_doFinal_87 : decode cX7_doFinal 87 = .ok (.invokeinterface 96 3, 5) := by decide +kernel
theorem dX7_doFinal_92 : decode cX7_doFinal 92 = .ok (.pop, 1) := dk_87 (dk_at dksX7_doFinal_3 20 rfl rfl)
theorem dX7_doFinal_93 : decode cX7_doFinal 93 = .ok (.iload 4, 2) := dk_21 4 (dk_at dksX7_doFinal_3 21 rfl rfl)
theorem dX7_doFinal_95 : decode cX7_doFinal 95 = .ok (.aload_n 0, 1) := dk_42 (dk_at dksX7_doFinal_3 23 rfl rfl)
theorem dX7_doFinal_96 : decode cX7_doFinal 96 = .ok (.getfield 7, 3) := dk_180 0 7 (dk_at dksX7_doFinal_4 0 rfl rfl)
theorem dX7_doFinal_99 : decode cX7_doFinal 99 = .ok (.aload_n 0, 1) := dk_42 (dk_at dksX7_doFinal_4 3 rfl rfl)
theorem dX7_doFinal_100 : decode cX7_doFinal 100 = .ok (.getfield 23, 3) := dk_180 0 23 (dk_at dksX7_doFinal_4 4 rfl rfl)
theorem dX7_doFinal_103 : decode cX7_doFinal 103 = .ok (.iconst 0, 1) := dk_3 (dk_at dksX7_doFinal_4 7 rfl rfl)
theorem dX7_doFinal_104 : decode cX7_doFinal 104 = .ok (.aload_n 1, 1) := dk_43 (dk_at dksX7_doFinal_4 8 rfl rfl)
theorem dX7_doFinal_105 : decode cX7_doFinal 105 = .ok (.iload_n 2, 1) := dk_28 (dk_at dksX7_doFinal_4 9 rfl rfl)
theorem dX7_doFinal_106 : decode cX7_doFinal 106 = .ok (.iload 4, 2) := dk_21 4 (dk_at dksX7_doFinal_4 10 rfl rfl)
theorem dX7_doFinal_108 : decode cX7_doFinal 108 = .ok (.iadd, 1) := dk_96 (dk_at dksX7_doFinal_4 12 rfl rfl)
theorem dX7_doFinal_109 : decode cX7_doFinal 109 = .ok (.invokeinterface 92 5, 5) := by decide +kernel
theorem dX7_doFinal_114 : decode cX7_doFinal 114 = .ok (.iadd, 1) := dk_96 (dk_at dksX7_doFinal_4 18 rfl rfl)
theorem dX7_doFinal_115 : decode cX7_doFinal 115 = .ok (.istore 4, 2) := dk_54 4 (dk_at dksX7_doFinal_4 19 rfl rfl)
theorem dX7_doFinal_117 : decode cX7_doFinal 117 = .ok (.aload_n 0, 1) := dk_42 (dk_at dksX7_doFinal_4 21 rfl rfl)
theorem dX7_doFinal_118 : decode cX7_doFinal 118 = .ok (.invokevirtual 35, 3) := dk_182 0 35 (dk_at dksX7_doFinal_5 0 rfl rfl)
theorem dX7_doFinal_121 : decode cX7_doFinal 121 = .ok (.goto 100, 3) := dk_167 0 100 (dk_at dksX7_doFinal_5 3 rfl rfl)
theorem dX7_doFinal_124 : decode cX7_doFinal 124 = .ok (.aload_n 0, 1) := dk_42 (dk_at dksX7_doFinal_5 6 rfl rfl)
theorem dX7_doFinal_125 : decode cX7_doFinal 125 = .ok (.getfield 27, 3) := dk_180 0 27 (dk_at dksX7_doFinal_5 7 rfl rfl)
theorem dX7_doFinal_128 : decode cX7_doFinal 128 = .ok (.iload_n 3, 1) := dk_29 (dk_at dksX7_doFinal_5 10 rfl rfl)
theorem dX7_doFinal_129 : decode cX7_doFinal 129 = .ok (.if_icmp .ne 32, 3) := dk_160 0 32 (dk_at dksX7_doFinal_5 11 rfl rfl)
theorem dX7_doFinal_132 : decode cX7_doFinal 132 = .ok (.aload_n 0, 1) := dk_42 (dk_at dksX7_doFinal_5 14 rfl rfl)
theorem dX7_doFinal_133 : decode cX7_doFinal 133 = .ok (.getfield 7, 3) := dk_180 0 7 (dk_at dksX7_doFinal_5 15 rfl rfl)
theorem dX7_doFinal_136 : decode cX7_doFinal 136 = .ok (.aload_n 0, 1) := dk_42 (dk_at dksX7_doFinal_5 18 rfl rfl)
theorem dX7_doFinal_137 : decode cX7_doFinal 137 = .ok (.getfield 23, 3) := dk_180 0 23 (dk_at dksX7_doFinal_5 19 rfl rfl)
theorem dX7_doFinal_140 : decode cX7_doFinal 140 = .ok (.iconst 0, 1) := dk_3 (dk_at dksX7_doFinal_5 22 rfl rfl)
theorem dX7_doFinal_141 : decode cX7_doFinal 141 = .ok (.aload_n 0, 1) := dk_42 (dk_at dksX7_doFinal_5 23 rfl rfl)
theorem dX7_doFinal_142 : decode cX7_doFinal 142 = .ok (.getfield 23, 3) := dk_180 0 23 (dk_at dksX7_doFinal_6 0 rfl rfl)
theorem dX7_doFinal_145 : decode cX7_doFinal 145 = .ok (.iconst 0, 1) := dk_3 (dk_at dksX7_doFinal_6 3 rfl rfl)
theorem dX7_doFinal_146 : decode cX7_doFinal 146 = .ok (.invokeinterface 92 5, 5) := by decide +kernel
theorem dX7_doFinal_151 : decode cX7_doFinal 151 = .ok (.istore 4, 2) := dk_54 4 (dk_at dksX7_doFinal_6 9 rfl rfl)
theorem dX7_doFinal_153 : decode cX7_doFinal 153 = .ok (.aload_n 0, 1) := dk_42 (dk_at dksX7_doFinal_6 11 rfl rfl)
theorem dX7_doFinal_154 : decode cX7_doFinal 154 = .ok (.iconst 0, 1) := dk_3 (dk_at dksX7_doFinal_6 12 rfl rfl)
theorem dX7_doFinal_155 : decode cX7_doFinal 155 = .ok (.putfield 27, 3) := dk_181 0 27 (dk_at dksX7_doFinal_6 13 rfl rfl)
theorem dX7_doFinal_158 : decode cX7_doFinal 158 = .ok (.goto 17, 3) := dk_167 0 17 (dk_at dksX7_doFinal_6 16 rfl rfl)
theorem dX7_doFinal_161 : decode cX7_doFinal 161 = .ok (.aload_n 0, 1) := dk_42 (dk_at dksX7_doFinal_6 19 rfl rfl)
theorem dX7_doFinal_162 : decode cX7_doFinal 162 = .ok (.invokevirtual 35, 3) := dk_182 0 35 (dk_at dksX7_doFinal_6 20 rfl rfl)
theorem dX7_doFinal_165 : decode cX7_doFinal 165 = .ok (.new 100, 3) := dk_187 0 100 (dk_at dksX7_doFinal_7 0 rfl rfl)
theorem dX7_doFinal_168 : decode cX7_doFinal 168 = .ok (.dup, 1) := dk_89 (dk_at dksX7_doFinal_7 3 rfl rfl)
theorem dX7_doFinal_169 : decode cX7_doFinal 169 = .ok (.ldc 102, 2) := dk_18 102 (dk_at dksX7_doFinal_7 4 rfl rfl)
theorem dX7_doFinal_171 : decode cX7_doFinal 171 = .ok (.invokespecial 104, 3) := dk_183 0 104 (dk_at dksX7_doFinal_7 6 rfl rfl)
theorem dX7_doFinal_174 : decode cX7_doFinal 174 = .ok (.athrow, 1) := dk_191 (dk_at dksX7_doFinal_7 9 rfl rfl)
theorem dX7_doFinal_175 : decode cX7_doFinal 175 = .ok (.iload 4, 2) := dk_21 4 (dk_at dksX7_doFinal_7 10 rfl rfl)
theorem dX7_doFinal_177 : decode cX7_doFinal 177 = .ok (.aload_n 0, 1) := dk_42 (dk_at dksX7_doFinal_7 12 rfl rfl)
theorem dX7_doFinal_178 : decode cX7_doFinal 178 = .ok (.getfield 13, 3) := dk_180 0 13 (dk_at dksX7_doFinal_7 13 rfl rfl)
theorem dX7_doFinal_181 : decode cX7_doFinal 181 = .ok (.aload_n 0, 1) := dk_42 (dk_at dksX7_doFinal_7 16 rfl rfl)
theorem dX7_doFinal_182 : decode cX7_doFinal 182 = .ok (.getfield 23, 3) := dk_180 0 23 (dk_at dksX7_doFinal_7 17 rfl rfl)
theorem dX7_doFinal_185 : decode cX7_doFinal 185 = .ok (.invokeinterface 105 2, 5) := by decide +kernel
theorem dX7_doFinal_190 : decode cX7_doFinal 190 = .ok (.isub, 1) := dk_100 (dk_at dksX7_doFinal_8 5 rfl rfl)
theorem dX7_doFinal_191 : decode cX7_doFinal 191 = .ok (.istore 4, 2) := dk_54 4 (dk_at dksX7_doFinal_8 6 rfl rfl)
theorem dX7_doFinal_193 : decode cX7_doFinal 193 = .ok (.aload_n 0, 1) := dk_42 (dk_at dksX7_doFinal_8 8 rfl rfl)
theorem dX7_doFinal_194 : decode cX7_doFinal 194 = .ok (.getfield 23, 3) := dk_180 0 23 (dk_at dksX7_doFinal_8 9 rfl rfl)
theorem dX7_doFinal_197 : decode cX7_doFinal 197 = .ok (.iconst 0, 1) := dk_3 (dk_at dksX7_doFinal_8 12 rfl rfl)
theorem dX7_doFinal_198 : decode cX7_doFinal 198 = .ok (.aload_n 1, 1) := dk_43 (dk_at dksX7_doFinal_8 13 rfl rfl)
theorem dX7_doFinal_199 : decode cX7_doFinal 199 = .ok (.iload_n 2, 1) := dk_28 (dk_at dksX7_doFinal_8 14 rfl rfl)
theorem dX7_doFinal_200 : decode cX7_doFinal 200 = .ok (.iload 4, 2) := dk_21 4 (dk_at dksX7_doFinal_8 15 rfl rfl)
theorem dX7_doFinal_202 : decode cX7_doFinal 202 = .ok (.invokestatic 80, 3) := dk_184 0 80 (dk_at dksX7_doFinal_8 17 rfl rfl)
theorem dX7_doFinal_205 : decode cX7_doFinal 205 = .ok (.aload_n 0, 1) := dk_42 (dk_at dksX7_doFinal_8 20 rfl rfl)
theorem dX7_doFinal_206 : decode cX7_doFinal 206 = .ok (.invokevirtual 35, 3) := dk_182 0 35 (dk_at dksX7_doFinal_8 21 rfl rfl)
theorem dX7_doFinal_209 : decode cX7_doFinal 209 = .ok (.goto 12, 3) := dk_167 0 12 (dk_at dksX7_doFinal_9 0 rfl rfl)
theorem dX7_doFinal_212 : decode cX7_doFinal 212 = .ok (.astore 5, 2) := dk_58 5 (dk_at dksX7_doFinal_9 3 rfl rfl)
theorem dX7_doFinal_214 : decode cX7_doFinal 214 = .ok (.aload_n 0, 1) := dk_42 (dk_at dksX7_doFinal_9 5 rfl rfl)
theorem dX7_doFinal_215 : decode cX7_doFinal 215 = .ok (.invokevirtual 35, 3) := dk_182 0 35 (dk_at dksX7_doFinal_9 6 rfl rfl)
theorem dX7_doFinal_218 : decode cX7_doFinal 218 = .ok (.aload 5, 2) := dk_25 5 (dk_at dksX7_doFinal_9 9 rfl rfl)
theorem dX7_doFinal_220 : decode cX7_doFinal 220 = .ok (.athrow, 1) := dk_191 (dk_at dksX7_doFinal_9 11 rfl rfl)
theorem dX7_doFinal_221 : decode cX7_doFinal 221 = .ok (.iload 4, 2) := dk_21 4 (dk_at dksX7_doFinal_9 12 rfl rfl)
theorem dX7_doFinal_223 : decode cX7_doFinal 223 = .ok (.ireturn, 1) := dk_172 (dk_at dksX7_doFinal_9 14 rfl rfl)
theorem q16 : (Jvm.Cond.initialized "PaddedBufferedBlockCipher") ∈ lw_all := lw_g (lw_at lw_m1 7 rfl) rfl
theorem q127 : (Jvm.Cond.instantiable "PaddedBufferedBlockCipher" (5 : Nat)) ∈ lw_all := lw_g (lw_at lw_m1 118 rfl) rfl
theorem q192 : (Jvm.Cond.instanceMethod ({ cls := "PaddedBufferedBlockCipher", name := "<init>", desc := "(LBlockCipher;LBlockCipherPadding;)V" } : Jvm.MethodName)) ∈ lw_all := lw_g (lw_at lw_m1 183 rfl) rfl
theorem q193 : (Jvm.Cond.code ({ cls := "PaddedBufferedBlockCipher", name := "<init>", desc := "(LBlockCipher;LBlockCipherPadding;)V" } : Jvm.MethodName) prog_20_method_1_code (3 : Nat) (Option.none : Option Jvm.ClassFile.FieldType)) ∈ lw_all := lw_g (lw_at lw_m1 184 rfl) rfl
theorem q194 : (Jvm.Cond.methodLink "PaddedBufferedBlockCipher" (1 : Nat) ({ cls := "DefaultBufferedBlockCipher", name := "<init>", desc := "()V" } : Jvm.MethodName)) ∈ lw_all := lw_g (lw_at lw_m1 185 rfl) rfl
theorem q201 : (Jvm.Cond.interfaceEntry "PaddedBufferedBlockCipher" (17 : Nat)) ∈ lw_tbl := lw_at lw_m1 192 rfl
theorem q202 : (Jvm.Cond.methodLink "PaddedBufferedBlockCipher" (17 : Nat) ({ cls := "BlockCipher", name := "getBlockSize", desc := "()I" } : Jvm.MethodName)) ∈ lw_all := lw_g (lw_at lw_m1 193 rfl) rfl
theorem q203 : (Jvm.Cond.fieldLink "PaddedBufferedBlockCipher" (13 : Nat) "PaddedBufferedBlockCipher" "padding" "LBlockCipherPadding;") ∈ lw_all := lw_g (lw_at lw_m1 194 rfl) rfl
theorem q204 : (Jvm.Cond.fieldLink "PaddedBufferedBlockCipher" (23 : Nat) "PaddedBufferedBlockCipher" "buf" "[B") ∈ lw_all := lw_g (lw_at lw_m1 195 rfl) rfl
theorem q205 : (Jvm.Cond.sameField "PaddedBufferedBlockCipher" "DefaultBufferedBlockCipher" "buf" "[B") ∈ lw_all := lw_g (lw_at lw_m1 196 rfl) rfl
theorem q207 : (Jvm.Cond.fieldLink "PaddedBufferedBlockCipher" (27 : Nat) "PaddedBufferedBlockCipher" "bufOff" "I") ∈ lw_all := lw_g (lw_at lw_m1 198 rfl) rfl
theorem q208 : (Jvm.Cond.sameField "PaddedBufferedBlockCipher" "DefaultBufferedBlockCipher" "bufOff" "I") ∈ lw_all := lw_g (lw_at lw_m1 199 rfl) rfl
theorem q210 : (Jvm.Cond.fieldLink "PaddedBufferedBlockCipher" (31 : Nat) "PaddedBufferedBlockCipher" "forEncryption" "Z") ∈ lw_all := lw_g (lw_at lw_m1 201 rfl) rfl
theorem q211 : (Jvm.Cond.sameField "PaddedBufferedBlockCipher" "DefaultBufferedBlockCipher" "forEncryption" "Z") ∈ lw_all := lw_g (lw_at lw_m1 202 rfl) rfl
theorem q212 : (Jvm.Cond.fieldLink "PaddedBufferedBlockCipher" (7 : Nat) "PaddedBufferedBlockCipher" "cipher" "LBlockCipher;") ∈ lw_all := lw_g (lw_at lw_m1 203 rfl) rfl
theorem q213 : (Jvm.Cond.sameField "PaddedBufferedBlockCipher" "DefaultBufferedBlockCipher" "cipher" "LBlockCipher;") ∈ lw_all := lw_g (lw_at lw_m1 204 rfl) rfl
theorem q215 : (Jvm.Cond.lays "PaddedBufferedBlockCipher" "PaddedBufferedBlockCipher" "padding" "LBlockCipherPadding;") ∈ lw_all := lw_g (lw_at lw_m1 206 rfl) rfl
theorem q216 : (Jvm.Cond.soleField "PaddedBufferedBlockCipher" "padding") ∈ lw_all := lw_g (lw_at lw_m1 207 rfl) rfl
theorem q217 : (Jvm.Cond.lays "PaddedBufferedBlockCipher" "DefaultBufferedBlockCipher" "buf" "[B") ∈ lw_all := lw_g (lw_at lw_m1 208 rfl) rfl
theorem q219 : (Jvm.Cond.lays "PaddedBufferedBlockCipher" "DefaultBufferedBlockCipher" "bufOff" "I") ∈ lw_all := lw_g (lw_at lw_m1 210 rfl) rfl
theorem q221 : (Jvm.Cond.lays "PaddedBufferedBlockCipher" "DefaultBufferedBlockCipher" "forEncryption" "Z") ∈ lw_all := lw_g (lw_at lw_m1 212 rfl) rfl
theorem q223 : (Jvm.Cond.lays "PaddedBufferedBlockCipher" "DefaultBufferedBlockCipher" "cipher" "LBlockCipher;") ∈ lw_all := lw_g (lw_at lw_m1 214 rfl) rfl
theorem q225 : (Jvm.Cond.superclass "PaddedBufferedBlockCipher" "DefaultBufferedBlockCipher") ∈ lw_all := lw_g (lw_at lw_m1 216 rfl) rfl
theorem q263 : (Jvm.Cond.instanceMethod ({ cls := "PaddedBufferedBlockCipher", name := "init", desc := "(ZLCipherParameters;)V" } : Jvm.MethodName)) ∈ lw_all := lw_g (lw_at lw_m2 14 rfl) rfl
theorem q264 : (Jvm.Cond.selects "PaddedBufferedBlockCipher" ({ cls := "PaddedBufferedBlockCipher", name := "init", desc := "(ZLCipherParameters;)V" } : Jvm.MethodName) ({ cls := "PaddedBufferedBlockCipher", name := "init", desc := "(ZLCipherParameters;)V" } : Jvm.MethodName)) ∈ lw_all := lw_g (lw_at lw_m2 15 rfl) rfl
theorem q265 : (Jvm.Cond.code ({ cls := "PaddedBufferedBlockCipher", name := "init", desc := "(ZLCipherParameters;)V" } : Jvm.MethodName) prog_20_method_2_code (4 : Nat) (Option.none : Option Jvm.ClassFile.FieldType)) ∈ lw_all := lw_g (lw_at lw_m2 16 rfl) rfl
theorem q266 : (Jvm.Cond.methodLink "PaddedBufferedBlockCipher" (35 : Nat) ({ cls := "PaddedBufferedBlockCipher", name := "reset", desc := "()V" } : Jvm.MethodName)) ∈ lw_all := lw_g (lw_at lw_m2 17 rfl) rfl
theorem q267 : (Jvm.Cond.sameMethod "PaddedBufferedBlockCipher" "DefaultBufferedBlockCipher" "reset" "()V") ∈ lw_all := lw_g (lw_at lw_m2 18 rfl) rfl
theorem q269 : (Jvm.Cond.selects "PaddedBufferedBlockCipher" ({ cls := "PaddedBufferedBlockCipher", name := "reset", desc := "()V" } : Jvm.MethodName) ({ cls := "DefaultBufferedBlockCipher", name := "reset", desc := "()V" } : Jvm.MethodName)) ∈ lw_all := lw_g (lw_at lw_m2 20 rfl) rfl
theorem q295 : (Jvm.Cond.classLink "PaddedBufferedBlockCipher" (38 : Nat) "ParametersWithRandom") ∈ lw_all := lw_g (lw_at lw_m2 46 rfl) rfl
theorem q296 : (Jvm.Cond.methodLink "PaddedBufferedBlockCipher" (40 : Nat) ({ cls := "ParametersWithRandom", name := "getRandom", desc := "()Ljava/security/SecureRandom;" } : Jvm.MethodName)) ∈ lw_all := lw_g (lw_at lw_m2 47 rfl) rfl
theorem q369 : (Jvm.Cond.interfaceEntry "PaddedBufferedBlockCipher" (44 : Nat)) ∈ lw_tbl := lw_at lw_m2 120 rfl
theorem q370 : (Jvm.Cond.methodLink "PaddedBufferedBlockCipher" (44 : Nat) ({ cls := "BlockCipherPadding", name := "init", desc := "(Ljava/security/SecureRandom;)V" } : Jvm.MethodName)) ∈ lw_all := lw_g (lw_at lw_m2 121 rfl) rfl
theorem q391 : (Jvm.Cond.methodLink "PaddedBufferedBlockCipher" (50 : Nat) ({ cls := "ParametersWithRandom", name := "getParameters", desc := "()LCipherParameters;" } : Jvm.MethodName)) ∈ lw_all := lw_g (lw_at lw_m2 142 rfl) rfl
theorem q395 : (Jvm.Cond.interfaceEntry "PaddedBufferedBlockCipher" (54 : Nat)) ∈ lw_tbl := lw_at lw_m2 146 rfl
theorem q396 : (Jvm.Cond.methodLink "PaddedBufferedBlockCipher" (54 : Nat) ({ cls := "BlockCipher", name := "init", desc := "(ZLCipherParameters;)V" } : Jvm.MethodName)) ∈ lw_all := lw_g (lw_at lw_m2 147 rfl) rfl
theorem q495 : (Jvm.Cond.instanceMethod ({ cls := "PaddedBufferedBlockCipher", name := "getOutputSize", desc := "(I)I" } : Jvm.MethodName)) ∈ lw_all := lw_g (lw_at lw_m3 6 rfl) rfl
theorem q496 : (Jvm.Cond.selects "PaddedBufferedBlockCipher" ({ cls := "PaddedBufferedBlockCipher", name := "getOutputSize", desc := "(I)I" } : Jvm.MethodName) ({ cls := "PaddedBufferedBlockCipher", name := "getOutputSize", desc := "(I)I" } : Jvm.MethodName)) ∈ lw_all := lw_g (lw_at lw_m3 7 rfl) rfl
theorem q497 : (Jvm.Cond.code ({ cls := "PaddedBufferedBlockCipher", name := "getOutputSize", desc := "(I)I" } : Jvm.MethodName) prog_20_method_3_code (4 : Nat) (Option.some Jvm.ClassFile.FieldType.int)) ∈ lw_all := lw_g (lw_at lw_m3 8 rfl) rfl
theorem q499 : (Jvm.Cond.instanceMethod ({ cls := "PaddedBufferedBlockCipher", name := "processBytes", desc := "([BII[BI)I" } : Jvm.MethodName)) ∈ lw_all := lw_g (lw_at lw_m3 10 rfl) rfl
theorem q500 : (Jvm.Cond.selects "PaddedBufferedBlockCipher" ({ cls := "PaddedBufferedBlockCipher", name := "processBytes", desc := "([BII[BI)I" } : Jvm.MethodName) ({ cls := "PaddedBufferedBlockCipher", name := "processBytes", desc := "([BII[BI)I" } : Jvm.MethodName)) ∈ lw_all := lw_g (lw_at lw_m3 11 rfl) rfl
theorem q501 : (Jvm.Cond.code ({ cls := "PaddedBufferedBlockCipher", name := "processBytes", desc := "([BII[BI)I" } : Jvm.MethodName) prog_20_method_5_code (10 : Nat) (Option.some Jvm.ClassFile.FieldType.int)) ∈ lw_all := lw_g (lw_at lw_m3 12 rfl) rfl
theorem q502 : (Jvm.Cond.classLink "PaddedBufferedBlockCipher" (63 : Nat) "java/lang/IllegalArgumentException") ∈ lw_all := lw_g (lw_at lw_m3 13 rfl) rfl
theorem q503 : (Jvm.Cond.stringRef "PaddedBufferedBlockCipher" (65 : Nat) "Can't have a negative input length\x21") ∈ lw_tbl := lw_at lw_m3 14 rfl
theorem q504 : (Jvm.Cond.methodLink "PaddedBufferedBlockCipher" (67 : Nat) ({ cls := "java/lang/IllegalArgumentException", name := "<init>", desc := "(Ljava/lang/String;)V" } : Jvm.MethodName)) ∈ lw_all := lw_g (lw_at lw_m3 15 rfl) rfl
theorem q505 : (Jvm.Cond.methodLink "PaddedBufferedBlockCipher" (70 : Nat) ({ cls := "PaddedBufferedBlockCipher", name := "getBlockSize", desc := "()I" } : Jvm.MethodName)) ∈ lw_all := lw_g (lw_at lw_m3 16 rfl) rfl
theorem q506 : (Jvm.Cond.sameMethod "PaddedBufferedBlockCipher" "DefaultBufferedBlockCipher" "getBlockSize" "()I") ∈ lw_all := lw_g (lw_at lw_m3 17 rfl) rfl
theorem q508 : (Jvm.Cond.selects "PaddedBufferedBlockCipher" ({ cls := "PaddedBufferedBlockCipher", name := "getBlockSize", desc := "()I" } : Jvm.MethodName) ({ cls := "DefaultBufferedBlockCipher", name := "getBlockSize", desc := "()I" } : Jvm.MethodName)) ∈ lw_all := lw_g (lw_at lw_m3 19 rfl) rfl
theorem q513 : (Jvm.Cond.methodLink "PaddedBufferedBlockCipher" (71 : Nat) ({ cls := "PaddedBufferedBlockCipher", name := "getUpdateOutputSize", desc := "(I)I" } : Jvm.MethodName)) ∈ lw_all := lw_g (lw_at lw_m3 24 rfl) rfl
theorem q514 : (Jvm.Cond.instanceMethod ({ cls := "PaddedBufferedBlockCipher", name := "getUpdateOutputSize", desc := "(I)I" } : Jvm.MethodName)) ∈ lw_all := lw_g (lw_at lw_m3 25 rfl) rfl
theorem q515 : (Jvm.Cond.selects "PaddedBufferedBlockCipher" ({ cls := "PaddedBufferedBlockCipher", name := "getUpdateOutputSize", desc := "(I)I" } : Jvm.MethodName) ({ cls := "PaddedBufferedBlockCipher", name := "getUpdateOutputSize", desc := "(I)I" } : Jvm.MethodName)) ∈ lw_all := lw_g (lw_at lw_m3 26 rfl) rfl
theorem q516 : (Jvm.Cond.code ({ cls := "PaddedBufferedBlockCipher", name := "getUpdateOutputSize", desc := "(I)I" } : Jvm.MethodName) prog_20_method_4_code (4 : Nat) (Option.some Jvm.ClassFile.FieldType.int)) ∈ lw_all := lw_g (lw_at lw_m3 27 rfl) rfl
theorem q517 : (Jvm.Cond.methodLink "PaddedBufferedBlockCipher" (57 : Nat) ({ cls := "java/lang/Math", name := "max", desc := "(II)I" } : Jvm.MethodName)) ∈ lw_all := lw_g (lw_at lw_m3 28 rfl) rfl
theorem q520 : (Jvm.Cond.classLink "PaddedBufferedBlockCipher" (75 : Nat) "OutputLengthException") ∈ lw_all := lw_g (lw_at lw_m3 31 rfl) rfl
theorem q531 : (Jvm.Cond.stringRef "PaddedBufferedBlockCipher" (77 : Nat) "output buffer too short") ∈ lw_tbl := lw_at lw_m3 42 rfl
theorem q532 : (Jvm.Cond.methodLink "PaddedBufferedBlockCipher" (79 : Nat) ({ cls := "OutputLengthException", name := "<init>", desc := "(Ljava/lang/String;)V" } : Jvm.MethodName)) ∈ lw_all := lw_g (lw_at lw_m3 43 rfl) rfl
theorem q545 : (Jvm.Cond.methodLink "PaddedBufferedBlockCipher" (80 : Nat) ({ cls := "java/lang/System", name := "arraycopy", desc := "(Ljava/lang/Object;ILjava/lang/Object;II)V" } : Jvm.MethodName)) ∈ lw_all := lw_g (lw_at lw_m3 56 rfl) rfl
theorem q546 : (Jvm.Cond.methodLink "PaddedBufferedBlockCipher" (86 : Nat) ({ cls := "OwnArrays", name := "segmentsOverlap", desc := "(IIII)Z" } : Jvm.MethodName)) ∈ lw_all := lw_g (lw_at lw_m3 57 rfl) rfl
theorem q549 : (Jvm.Cond.interfaceEntry "PaddedBufferedBlockCipher" (92 : Nat)) ∈ lw_tbl := lw_at lw_m3 60 rfl
theorem q550 : (Jvm.Cond.methodLink "PaddedBufferedBlockCipher" (92 : Nat) ({ cls := "BlockCipher", name := "processBlock", desc := "([BI[BI)I" } : Jvm.MethodName)) ∈ lw_all := lw_g (lw_at lw_m3 61 rfl) rfl
theorem q609 : (Jvm.Cond.instanceMethod ({ cls := "PaddedBufferedBlockCipher", name := "doFinal", desc := "([BI)I" } : Jvm.MethodName)) ∈ lw_all := lw_g (lw_at lw_m3 120 rfl) rfl
theorem q610 : (Jvm.Cond.selects "PaddedBufferedBlockCipher" ({ cls := "PaddedBufferedBlockCipher", name := "doFinal", desc := "([BI)I" } : Jvm.MethodName) ({ cls := "PaddedBufferedBlockCipher", name := "doFinal", desc := "([BI)I" } : Jvm.MethodName)) ∈ lw_all := lw_g (lw_at lw_m3 121 rfl) rfl
theorem q611 : (Jvm.Cond.codeWith ({ cls := "PaddedBufferedBlockCipher", name := "doFinal", desc := "([BI)I" } : Jvm.MethodName) prog_20_method_6_code (6 : Nat) (Option.some Jvm.ClassFile.FieldType.int) [((175 : Nat), (205 : Nat), (212 : Nat), (0 : Nat)), ((212 : Nat), (214 : Nat), (212 : Nat), (0 : Nat))]) ∈ lw_all := lw_g (lw_at lw_m3 122 rfl) rfl
theorem q612 : (Jvm.Cond.interfaceEntry "PaddedBufferedBlockCipher" (96 : Nat)) ∈ lw_tbl := lw_at lw_m3 123 rfl
theorem q613 : (Jvm.Cond.methodLink "PaddedBufferedBlockCipher" (96 : Nat) ({ cls := "BlockCipherPadding", name := "addPadding", desc := "([BI)I" } : Jvm.MethodName)) ∈ lw_all := lw_g (lw_at lw_m3 124 rfl) rfl
theorem q631 : (Jvm.Cond.classLink "PaddedBufferedBlockCipher" (100 : Nat) "DataLengthException") ∈ lw_all := lw_g (lw_at lw_m3 142 rfl) rfl
theorem q632 : (Jvm.Cond.stringRef "PaddedBufferedBlockCipher" (102 : Nat) "last block incomplete in decryption") ∈ lw_tbl := lw_at lw_m3 143 rfl
theorem q633 : (Jvm.Cond.methodLink "PaddedBufferedBlockCipher" (104 : Nat) ({ cls := "DataLengthException", name := "<init>", desc := "(Ljava/lang/String;)V" } : Jvm.MethodName)) ∈ lw_all := lw_g (lw_at lw_m3 144 rfl) rfl
theorem q634 : (Jvm.Cond.interfaceEntry "PaddedBufferedBlockCipher" (105 : Nat)) ∈ lw_tbl := lw_at lw_m3 145 rfl
theorem q635 : (Jvm.Cond.methodLink "PaddedBufferedBlockCipher" (105 : Nat) ({ cls := "BlockCipherPadding", name := "padCount", desc := "([B)I" } : Jvm.MethodName)) ∈ lw_all := lw_g (lw_at lw_m3 146 rfl) rfl
theorem in_X7 : ∀ w ∈ wsX70, w ∈ lw_all := lw_in wsX70 [217, 219, 221, 223, 215] (by decide +kernel) (by decide +kernel)
/-! DefaultMultiBlockCipher -/
set_option maxRecDepth 100000
def RX8 : String := "DefaultMultiBlockCipher"
abbrev cX8_init : ByteArray := prog_11_method_1_code
def yX8_init : MethodName := ⟨RX8, "<init>", "()V"⟩
theorem dX8_init_0 : decode cX8_init 0 = .ok (.aload_n 0, 1) := by decide +kernel
theorem dX8_init_1 : decode cX8_init 1 = .ok (.invokespecial 1, 3) := by decide +kernel
theorem dX8_init_4 : decode cX8_init 4 = .ok (.return_, 1) := by decide +kernel
theorem q17 : (Jvm.Cond.initialized "DefaultMultiBlockCipher") ∈ lw_all := lw_g (lw_at lw_m1 8 rfl) rfl
theorem q136 : (Jvm.Cond.instanceMethod ({ cls := "DefaultMultiBlockCipher", name := "<init>", desc := "()V" } : Jvm.MethodName)) ∈ lw_all := lw_g (lw_at lw_m1 127 rfl) rfl
theorem q137 : (Jvm.Cond.code ({ cls := "DefaultMultiBlockCipher", name := "<init>", desc := "()V" } : Jvm.MethodName) prog_11_method_1_code (1 : Nat) (Option.none : Option Jvm.ClassFile.FieldType)) ∈ lw_all := lw_g (lw_at lw_m1 128 rfl) rfl
theorem q138 : (Jvm.Cond.methodLink "DefaultMultiBlockCipher" (1 : Nat) ({ cls := "java/lang/Object", name := "<init>", desc := "()V" } : Jvm.MethodName)) ∈ lw_all := lw_g (lw_at lw_m1 129 rfl) rfl
/-! CBCBlockCipher -/
set_option maxRecDepth 100000
def RX9 : String := "CBCBlockCipher"
def TX9 : u_T := fun k => match k with
  | 0 => ("CBCBlockCipher", "IV", "[B", false)
  | 1 => ("CBCBlockCipher", "cbcV", "[B", false)
  | 2 => ("CBCBlockCipher", "cbcNextV", "[B", false)
  | 3 => ("CBCBlockCipher", "blockSize", "I", false)
  | 4 => ("CBCBlockCipher", "cipher", "LBlockCipher;", false)
  | _ => ("CBCBlockCipher", "encrypting", "Z", false)
def tyX9 : Nat → FieldType := fun k => match k with
  | 0 => .array .byte
  | 1 => .array .byte
  | 2 => .array .byte
  | 3 => .int
  | 4 => .object "BlockCipher"
  | _ => .boolean
abbrev wsX90 : List Cond := u_ws RX9 TX9 6
theorem nmX9 : ∀ a, a < 6 → ∀ b, b < 6 → a ≠ b → (TX9 a).2.1 ≠ (TX9 b).2.1 := by decide +kernel
theorem tyX9_ok : ∀ k, k < 6 → parseFieldDescriptor (TX9 k).2.2.1 = some (tyX9 k) := by decide +kernel
abbrev cX9_init : ByteArray := prog_5_method_1_code
def yX9_init : MethodName := ⟨RX9, "<init>", "(LBlockCipher;)V"⟩
def dkwX9_init_2 : List UInt8 := [180, 0, 19, 188, 8, 181, 0, 30, 177]
abbrev dktX9_init_2 : List UInt8 := dkwX9_init_2 ++ []
def dkwX9_init_1 : List UInt8 := [42, 42, 180, 0, 19, 188, 8, 181, 0, 23, 42, 42, 180, 0, 19, 188, 8, 181, 0, 27, 42, 42]
abbrev dktX9_init_1 : List UInt8 := dkwX9_init_1 ++ dktX9_init_2
def dkwX9_init_0 : List UInt8 := [42, 183, 0, 1, 42, 1, 181, 0, 7, 42, 43, 181, 0, 7, 42, 43, 185, 0, 13, 1, 0, 181, 0, 19]
abbrev dktX9_init_0 : List UInt8 := dkwX9_init_0 ++ dktX9_init_1
theorem dksX9_init_0 : cX9_init.data.toList.drop 0 = dktX9_init_0 := by decide +kernel
theorem dksX9_init_1 : cX9_init.data.toList.drop 24 = dktX9_init_1 := dk_seg dksX9_init_0 24 rfl rfl
theorem dksX9_init_2 : cX9_init.data.toList.drop 46 = dktX9_init_2 := dk_seg dksX9_init_1 22 rfl rfl
theorem dX9_init_0 : decode cX9_init 0 = .ok (.aload_n 0, 1) := dk_42 (dk_at dksX9_init_0 0 rfl rfl)
theorem dX9_init_1 : decode cX9_init 1 = .ok (.invokespecial 1, 3) := dk_183 0 1 (dk_at dksX9_init_0 1 rfl rfl)
theorem dX9_init_4 : decode cX9_init 4 = .ok (.aload_n 0, 1) := dk_42 (dk_at dksX9_init_0 4 rfl rfl)
theorem dX9_init_5 : decode cX9_init 5 = .ok (.aconst_null, 1) := dk_1 (dk_at dksX9_init_0 5 rfl rfl)
theorem dX9_init_6 : decode cX9_init 6 = .ok (.putfield 7, 3) := dk_181 0 7 (dk_at dksX9_init_0 6 rfl rfl)
theorem dX9_init_9 : decode cX9_init 9 = .ok (.aload_n 0, 1) := dk_42 (dk_at dksX9_init_0 9 rfl rfl)
theorem dX9_init_10 : decode cX9_init 10 = .ok (.aload_n 1, 1) := dk_43 (dk_at dksX9_init_0 10 rfl rfl)
theorem dX9_init_11 : decode cX9_init 11 = .ok (.putfield 7, 3) := dk_181 0 7 (dk_at dksX9_init_0 11 rfl rfl)
theorem dX9_init_14 : decode cX9_init 14 = .ok (.aload_n 0, 1) := dk_42 (dk_at dksX9_init_0 14 rfl rfl)
theorem dX9_init_15 : decode cX9_init 15 = .ok (.aload_n 1, 1) := dk_43 (dk_at dksX9_init_0 15 rfl rfl)
theorem dX9_init_16 : decode cX9_init 16 = .ok (.invokeinterface 13 1, 5) := by decide +kernel
theorem dX9_init_21 : decode cX9_init 21 = .ok (.putfield 19, 3) := dk_181 0 19 (dk_at dksX9_init_0 21 rfl rfl)
theorem dX9_init_24 : decode cX9_init 24 = .ok (.aload_n 0, 1) := dk_42 (dk_at dksX9_init_1 0 rfl rfl)
theorem dX9_init_25 : decode cX9_init 25 = .ok (.aload_n 0, 1) := dk_42 (dk_at dksX9_init_1 1 rfl rfl)
theorem dX9_init_26 : decode cX9_init 26 = .ok (.getfield 19, 3) := dk_180 0 19 (dk_at dksX9_init_1 2 rfl rfl)
theorem dX9_init_29 : decode cX9_init 29 = .ok (.newarray .byte, 2) := dk_188_8 (dk_at dksX9_init_1 5 rfl rfl)
theorem dX9_init_31 : decode cX9_init 31 = .ok (.putfield 23, 3) := dk_181 0 23 (dk_at dksX9_init_1 7 rfl rfl)
theorem dX9_init_34 : decode cX9_init 34 = .ok (.aload_n 0, 1) := dk_42 (dk_at dksX9_init_1 10 rfl rfl)
theorem dX9_init_35 : decode cX9_init 35 = .ok (.aload_n 0, 1) := dk_42 (dk_at dksX9_init_1 11 rfl rfl)
theorem dX9_init_36 : decode cX9_init 36 = .ok (.getfield 19, 3) := dk_180 0 19 (dk_at dksX9_init_1 12 rfl rfl)
theorem dX9_init_39 : decode cX9_init 39 = .ok (.newarray .byte, 2) := dk_188_8 (dk_at dksX9_init_1 15 rfl rfl)
theorem dX9_init_41 : decode cX9_init 41 = .ok (.putfield 27, 3) := dk_181 0 27 (dk_at dksX9_init_1 17 rfl rfl)
theorem dX9_init_44 : decode cX9_init 44 = .ok (.aload_n 0, 1) := dk_42 (dk_at dksX9_init_1 20 rfl rfl)
theorem dX9_init_45 : decode cX9_init 45 = .ok (.aload_n 0, 1) := dk_42 (dk_at dksX9_init_1 21 rfl rfl)
theorem dX9_init_46 : decode cX9_init 46 = .ok (.getfield 19, 3) := dk_180 0 19 (dk_at dksX9_init_2 0 rfl rfl)
theorem dX9_init_49 : decode cX9_init 49 = .ok (.newarray .byte, 2) := dk_188_8 (dk_at dksX9_init_2 3 rfl rfl)
theorem dX9_init_51 : decode cX9_init 51 = .ok (.putfield 30, 3) := dk_181 0 30 (dk_at dksX9_init_2 5 rfl rfl)
theorem dX9_init_54 : decode cX9_init 54 = .ok (.return_, 1) := dk_177 (dk_at dksX9_init_2 8 rfl rfl)
abbrev cX9_getBlockSize : ByteArray := prog_5_method_3_code
def yX9_getBlockSize : MethodName := ⟨RX9, "getBlockSize", "()I"⟩
def dkwX9_getBlockSize_0 : List UInt8 := [42, 180, 0, 7, 185, 0, 13, 1, 0, 172]
abbrev dktX9_getBlockSize_0 : List UInt8 := dkwX9_getBlockSize_0 ++ []
theorem dksX9_getBlockSize_0 : cX9_getBlockSize.data.toList.drop 0 = dktX9_getBlockSize_0 := by decide +kernel
theorem dX9_getBlockSize_0 : decode cX9_getBlockSize 0 = .ok (.aload_n 0, 1) := dk_42 (dk_at dksX9_getBlockSize_0 0 rfl rfl)
theorem dX9_getBlockSize_1 : decode cX9_getBlockSize 1 = .ok (.getfield 7, 3) := dk_180 0 7 (dk_at dksX9_getBlockSize_0 1 rfl rfl)
theorem dX9_getBlockSize_4 : decode cX9_getBlockSize 4 = .ok (.invokeinterface 13 1, 5) := by decide +kernel
theorem dX9_getBlockSize_9 : decode cX9_getBlockSize 9 = .ok (.ireturn, 1) := dk_172 (dk_at dksX9_getBlockSize_0 9 rfl rfl)
abbrev cX9_reset : ByteArray := prog_5_method_5_code
def yX9_reset : MethodName := ⟨RX9, "reset", "()V"⟩
def dkwX9_reset_1 : List UInt8 := [184, 0, 60, 42, 180, 0, 7, 185, 0, 82, 1, 0, 177]
abbrev dktX9_reset_1 : List UInt8 := dkwX9_reset_1 ++ []
def dkwX9_reset_0 : List UInt8 := [42, 180, 0, 23, 3, 42, 180, 0, 27, 3, 42, 180, 0, 23, 190, 184, 0, 50, 42, 180, 0, 30, 3]
abbrev dktX9_reset_0 : List UInt8 := dkwX9_reset_0 ++ dktX9_reset_1
theorem dksX9_reset_0 : cX9_reset.data.toList.drop 0 = dktX9_reset_0 := by decide +kernel
theorem dksX9_reset_1 : cX9_reset.data.toList.drop 23 = dktX9_reset_1 := dk_seg dksX9_reset_0 23 rfl rfl
theorem dX9_reset_0 : decode cX9_reset 0 = .ok (.aload_n 0, 1) := dk_42 (dk_at dksX9_reset_0 0 rfl rfl)
theorem dX9_reset_1 : decode cX9_reset 1 = .ok (.getfield 23, 3) := dk_180 0 23 (dk_at dksX9_reset_0 1 rfl rfl)
theorem dX9_reset_4 : decode cX9_reset 4 = .ok (.iconst 0, 1) := dk_3 (dk_at dksX9_reset_0 4 rfl rfl)
theorem dX9_reset_5 : decode cX9_reset 5 = .ok (.aload_n 0, 1) := dk_42 (dk_at dksX9_reset_0 5 rfl rfl)
theorem dX9_reset_6 : decode cX9_reset 6 = .ok (.getfield 27, 3) := dk_180 0 27 (dk_at dksX9_reset_0 6 rfl rfl)
theorem dX9_reset_9 : decode cX9_reset 9 = .ok (.iconst 0, 1) := dk_3 (dk_at dksX9_reset_0 9 rfl rfl)
theorem dX9_reset_10 : decode cX9_reset 10 = .ok (.aload_n 0, 1) := dk_42 (dk_at dksX9_reset_0 10 rfl rfl)
theorem dX9_reset_11 : decode cX9_reset 11 = .ok (.getfield 23, 3) := dk_180 0 23 (dk_at dksX9_reset_0 11 rfl rfl)
theorem dX9_reset_14 : decode cX9_reset 14 = .ok (.arraylength, 1) := dk_190 (dk_at dksX9_reset_0 14 rfl rfl)
theorem dX9_reset_15 : decode cX9_reset 15 = .ok (.invokestatic 50, 3) := dk_184 0 50 (dk_at dksX9_reset_0 15 rfl rfl)
theorem dX9_reset_18 : decode cX9_reset 18 = .ok (.aload_n 0, 1) := dk_42 (dk_at dksX9_reset_0 18 rfl rfl)
theorem dX9_reset_19 : decode cX9_reset 19 = .ok (.getfield 30, 3) := dk_180 0 30 (dk_at dksX9_reset_0 19 rfl rfl)
theorem dX9_reset_22 : decode cX9_reset 22 = .ok (.iconst 0, 1) := dk_3 (dk_at dksX9_reset_0 22 rfl rfl)
theorem dX9_reset_23 : decode cX9_reset 23 = .ok (.invokestatic 60, 3) := dk_184 0 60 (dk_at dksX9_reset_1 0 rfl rfl)
theorem dX9_reset_26 : decode cX9_reset 26 = .ok (.aload_n 0, 1) := dk_42 (dk_at dksX9_reset_1 3 rfl rfl)
theorem dX9_reset_27 : decode cX9_reset 27 = .ok (.getfield 7, 3) := dk_180 0 7 (dk_at dksX9_reset_1 4 rfl rfl)
theorem dX9_reset_30 : decode cX9_reset 30 = .ok (.invokeinterface 82 1, 5) := by decide +kernel
theorem dX9_reset_35 : decode cX9_reset 35 = .ok (.return_, 1) := dk_177 (dk_at dksX9_reset_1 12 rfl rfl)
abbrev cX9_init_2 : ByteArray := prog_5_method_2_code
def yX9_init_2 : MethodName := ⟨RX9, "init", "(ZLCipherParameters;)V"⟩
def dkwX9_init_2_5 : List UInt8 := [177]
abbrev dktX9_init_2_5 : List UInt8 := dkwX9_init_2_5 ++ []
def dkwX9_init_2_4 : List UInt8 := [44, 185, 0, 69, 3, 0, 167, 0, 18, 29, 27, 159, 0, 13, 187, 0, 43, 89, 18, 73, 183, 0, 47, 191]
abbrev dktX9_init_2_4 : List UInt8 := dkwX9_init_2_4 ++ dktX9_init_2_5
def dkwX9_init_2_3 : List UInt8 := [167, 0, 11, 42, 180, 0, 23, 3, 184, 0, 60, 42, 182, 0, 66, 44, 198, 0, 17, 42, 180, 0, 7, 27]
abbrev dktX9_init_2_3 : List UInt8 := dkwX9_init_2_3 ++ dktX9_init_2_4
def dkwX9_init_2_2 : List UInt8 := [183, 0, 47, 191, 25, 5, 3, 42, 180, 0, 23, 3, 25, 5, 190, 184, 0, 50, 25, 4, 182, 0, 56, 77]
abbrev dktX9_init_2_2 : List UInt8 := dkwX9_init_2_2 ++ dktX9_init_2_3
def dkwX9_init_2_1 : List UInt8 := [25, 4, 182, 0, 39, 58, 5, 25, 5, 190, 42, 180, 0, 19, 159, 0, 13, 187, 0, 43, 89, 18, 45]
abbrev dktX9_init_2_1 : List UInt8 := dkwX9_init_2_1 ++ dktX9_init_2_2
def dkwX9_init_2_0 : List UInt8 := [42, 180, 0, 33, 62, 42, 27, 181, 0, 33, 44, 193, 0, 37, 153, 0, 59, 44, 192, 0, 37, 58, 4]
abbrev dktX9_init_2_0 : List UInt8 := dkwX9_init_2_0 ++ dktX9_init_2_1
theorem dksX9_init_2_0 : cX9_init_2.data.toList.drop 0 = dktX9_init_2_0 := by decide +kernel
theorem dksX9_init_2_1 : cX9_init_2.data.toList.drop 23 = dktX9_init_2_1 := dk_seg dksX9_init_2_0 23 rfl rfl
theorem dksX9_init_2_2 : cX9_init_2.data.toList.drop 46 = dktX9_init_2_2 := dk_seg dksX9_init_2_1 23 rfl rfl
theorem dksX9_init_2_3 : cX9_init_2.data.toList.drop 70 = dktX9_init_2_3 := dk_seg dksX9_init_2_2 24 rfl rfl
theorem dksX9_init_2_4 : cX9_init_2.data.toList.drop 94 = dktX9_init_2_4 := dk_seg dksX9_init_2_3 24 rfl rfl
theorem dksX9_init_2_5 : cX9_init_2.data.toList.drop 118 = dktX9_init_2_5 := dk_seg dksX9_init_2_4 24 rfl rfl
theorem dX9_init_2_0 : decode cX9_init_2 0 = .ok (.aload_n 0, 1) := dk_42 (dk_at dksX9_init_2_0 0 rfl rfl)
theorem dX9_init_2_1 : decode cX9_init_2 1 = .ok (.getfield 33, 3) := dk_180 0 33 (dk_at dksX9_init_2_0 1 rfl rfl)
theorem dX9_init_2_4 : decode cX9_init_2 4 = .ok (.istore_n 3, 1) := dk_62 (dk_at dksX9_init_2_0 4 rfl rfl)
theorem dX9_init_2_5 : decode cX9_init_2 5 = .ok (.aload_n 0, 1) := dk_42 (dk_at dksX9_init_2_0 5 rfl rfl)
theorem dX9_init_2_6 : decode cX9_init_2 6 = .ok (.iload_n 1, 1) := dk_27 (dk_at dksX9_init_2_0 6 rfl rfl)
theorem dX9_init_2_7 : decode cX9_init_2 7 = .ok (.putfield 33, 3) := dk_181 0 33 (dk_at dksX9_init_2_0 7 rfl rfl)
theorem dX9_init_2_10 : decode cX9_init_2 10 = .ok (.aload_n 2, 1) := dk_44 (dk_at dksX9_init_2_0 10 rfl rfl)
theorem dX9_init_2_11 : decode cX9_init_2 11 = .ok (.instanceof 37, 3) := dk_193 0 37 (dk_at dksX9_init_2_0 11 rfl rfl)
theorem dX9_init_2_14 : decode cX9_init_2 14 = .ok (.ifCond .eq 59, 3) := dk_153 0 59 (dk_at dksX9_init_2_0 14 rfl rfl)
theorem dX9_init_2_17 : decode cX9_init_2 17 = .ok (.aload_n 2, 1) := dk_44 (dk_at dksX9_init_2_0 17 rfl rfl)
theorem dX9_init_2_18 : decode cX9_init_2 18 = .ok (.checkcast 37, 3) := dk_192 0 37 (dk_at dksX9_init_2_0 18 rfl rfl)
theorem dX9_init_2_21 : decode cX9_init_2 21 = .ok (.astore 4, 2) := dk_58 4 (dk_at dksX9_init_2_0 21 rfl rfl)
theorem dX9_init_2_23 : decode cX9_init_2 23 = .ok (.aload 4, 2) := dk_25 4 (dk_at dksX9_init_2_1 0 rfl rfl)
theorem dX9_init_2_25 : decode cX9_init_2 25 = .ok (.invokevirtual 39, 3) := dk_182 0 39 (dk_at dksX9_init_2_1 2 rfl rfl)
theorem dX9_init_2_28 : decode cX9_init_2 28 = .ok (.astore 5, 2) := dk_58 5 (dk_at dksX9_init_2_1 5 rfl rfl)
theorem dX9_init_2_30 : decode cX9_init_2 30 = .ok (.aload 5, 2) := dk_25 5 (dk_at dksX9_init_2_1 7 rfl rfl)
theorem dX9_init_2_32 : decode cX9_init_2 32 = .ok (.arraylength, 1) := dk_190 (dk_at dksX9_init_2_1 9 rfl rfl)
theorem dX9_init_2_33 : decode cX9_init_2 33 = .ok (.aload_n 0, 1) := dk_42 (dk_at dksX9_init_2_1 10 rfl rfl)
theorem dX9_init_2_34 : decode cX9_init_2 34 = .ok (.getfield 19, 3) := dk_180 0 19 (dk_at dksX9_init_2_1 11 rfl rfl)
theorem dX9_init_2_37 : decode cX9_init_2 37 = .ok (.if_icmp .eq 13, 3) := dk_159 0 13 (dk_at dksX9_init_2_1 14 rfl rfl)
theorem dX9_init_2_40 : decode cX9_init_2 40 = .ok (.new 43, 3) := dk_187 0 43 (dk_at dksX9_init_2_1 17 rfl rfl)
theorem dX9_init_2_43 : decode cX9_init_2 43 = .ok (.dup, 1) := dk_89 (dk_at dksX9_init_2_1 20 rfl rfl)
theorem dX9_init_2_44 : decode cX9_init_2 44 = .ok (.ldc 45, 2) := dk_18 45 (dk_at dksX9_init_2_1 21 rfl rfl)
theorem dX9_init_2_46 : decode cX9_init_2 46 = .ok (.invokespecial 47, 3) := dk_183 0 47 (dk_at dksX9_init_2_2 0 rfl rfl)
theorem dX9_init_2_49 : decode cX9_init_2 49 = .ok (.athrow, 1) := dk_191 (dk_at dksX9_init_2_2 3 rfl rfl)
theorem dX9_init_2_50 : decode cX9_init_2 50 = .ok (.aload 5, 2) := dk_25 5 (dk_at dksX9_init_2_2 4 rfl rfl)
theorem dX9_init_2_52 : decode cX9_init_2 52 = .ok (.iconst 0, 1) := dk_3 (dk_at dksX9_init_2_2 6 rfl rfl)
theorem dX9_init_2_53 : decode cX9_init_2 53 = .ok (.aload_n 0, 1) := dk_42 (dk_at dksX9_init_2_2 7 rfl rfl)
theorem dX9_init_2_54 : decode cX9_init_2 54 = .ok (.getfield 23, 3) := dk_180 0 23 (dk_at dksX9_init_2_2 8 rfl rfl)
theorem dX9_init_2_57 : decode cX9_init_2 57 = .ok (.iconst 0, 1) := dk_3 (dk_at dksX9_init_2_2 11 rfl rfl)
theorem dX9_init_2_58 : decode cX9_init_2 58 = .ok (.aload 5, 2) := dk_25 5 (dk_at dksX9_init_2_2 12 rfl rfl)
theorem dX9_init_2_60 : decode cX9_init_2 60 = .ok (.arraylength, 1) := dk_190 (dk_at dksX9_init_2_2 14 rfl rfl)
theorem dX9_init_2_61 : decode cX9_init_2 61 = .ok (.invokestatic 50, 3) := dk_184 0 50 (dk_at dksX9_init_2_2 15 rfl rfl)
theorem dX9_init_2_64 : decode cX9_init_2 64 = .ok (.aload 4, 2) := dk_25 4 (dk_at dksX9_init_2_2 18 rfl rfl)
theorem dX9_init_2_66 : decode cX9_init_2 66 = .ok (.invokevirtual 56, 3) := dk_182 0 56 (dk_at dksX9_init_2_2 20 rfl rfl)
theorem dX9_init_2_69 : decode cX9_init_2 69 = .ok (.astore_n 2, 1) := dk_77 (dk_at dksX9_init_2_2 23 rfl rfl)
theorem dX9_init_2_70 : decode cX9_init_2 70 = .ok (.goto 11, 3) := dk_167 0 11 (dk_at dksX9_init_2_3 0 rfl rfl)
theorem dX9_init_2_73 : decode cX9_init_2 73 = .ok (.aload_n 0, 1) := dk_42 (dk_at dksX9_init_2_3 3 rfl rfl)
theorem dX9_init_2_74 : decode cX9_init_2 74 = .ok (.getfield 23, 3) := dk_180 0 23 (dk_at dksX9_init_2_3 4 rfl rfl)
theorem dX9_init_2_77 : decode cX9_init_2 77 = .ok (.iconst 0, 1) := dk_3 (dk_at dksX9_init_2_3 7 rfl rfl)
theorem dX9_init_2_78 : decode cX9_init_2 78 = .ok (.invokestatic 60, 3) := dk_184 0 60 (dk_at dksX9_init_2_3 8 rfl rfl)
theorem dX9_init_2_81 : decode cX9_init_2 81 = .ok (.aload_n 0, 1) := dk_42 (dk_at dksX9_init_2_3 11 rfl rfl)
theorem dX9_init_2_82 : decode cX9_init_2 82 = .ok (.invokevirtual 66, 3) := dk_182 0 66 (dk_at dksX9_init_2_3 12 rfl rfl)
theorem dX9_init_2_85 : decode cX9_init_2 85 = .ok (.aload_n 2, 1) := dk_44 (dk_at dksX9_init_2_3 15 rfl rfl)
theorem dX9_init_2_86 : decode cX9_init_2 86 = .ok (.ifnull 17, 3) := dk_198 0 17 (dk_at dksX9_init_2_3 16 rfl rfl)
theorem dX9_init_2_89 : decode cX9_init_2 89 = .ok (.aload_n 0, 1) := dk_42 (dk_at dksX9_init_2_3 19 rfl rfl)
theorem dX9_init_2_90 : decode cX9_init_2 90 = .ok (.getfield 7, 3) := dk_180 0 7 (dk_at dksX9_init_2_3 20 rfl rfl)
theorem dX9_init_2_93 : decode cX9_init_2 93 = .ok (.iload_n 1, 1) := dk_27 (dk_at dksX9_init_2_3 23 rfl rfl)
theorem dX9_init_2_94 : decode cX9_init_2 94 = .ok (.aload_n 2, 1) := dk_44 (dk_at dksX9_init_2_4 0 rfl rfl)
theorem dX9_init_2_95 : decode cX9_init_2 95 = .ok (.invokeinterface 69 3, 5) := by decide +kernel
theorem dX9_init_2_100 : decode cX9_init_2 100 = .ok (.goto 18, 3) := dk_167 0 18 (dk_at dksX9_init_2_4 6 rfl rfl)
theorem dX9_init_2_103 : decode cX9_init_2 103 = .ok (.iload_n 3, 1) := dk_29 (dk_at dksX9_init_2_4 9 rfl rfl)
theorem dX9_init_2_104 : decode cX9_init_2 104 = .ok (.iload_n 1, 1) := dk_27 (dk_at dksX9_init_2_4 10 rfl rfl)
theorem dX9_init_2_105 : decode cX9_init_2 105 = .ok (.if_icmp .eq 13, 3) := dk_159 0 13 (dk_at dksX9_init_2_4 11 rfl rfl)
theorem dX9_init_2_108 : decode cX9_init_2 108 = .ok (.new 43, 3) := dk_187 0 43 (dk_at dksX9_init_2_4 14 rfl rfl)
theorem dX9_init_2_111 : decode cX9_init_2 111 = .ok (.dup, 1) := dk_89 (dk_at dksX9_init_2_4 17 rfl rfl)
theorem dX9_init_2_112 : decode cX9_init_2 112 = .ok (.ldc 73, 2) := dk_18 73 (dk_at dksX9_init_2_4 18 rfl rfl)
theorem dX9_init_2_114 : decode cX9_init_2 114 = .ok (.invokespecial 47, 3) := dk_183 0 47 (dk_at dksX9_init_2_4 20 rfl rfl)
theorem dX9_init_2_117 : decode cX9_init_2 117 = .ok (.athrow, 1) := dk_191 (dk_at dksX9_init_2_4 23 rfl rfl)
theorem dX9_init_2_118 : decode cX9_init_2 118 = .ok (.return_, 1) := dk_177 (dk_at dksX9_init_2_5 0 rfl rfl)
abbrev cX9_processBlock : ByteArray := prog_5_method_4_code
def yX9_processBlock : MethodName := ⟨RX9, "processBlock", "([BI[BI)I"⟩
def dkwX9_processBlock_1 : List UInt8 := [21, 4, 182, 0, 79, 172]
abbrev dktX9_processBlock_1 : List UInt8 := dkwX9_processBlock_1 ++ []
def dkwX9_processBlock_0 : List UInt8 := [42, 180, 0, 33, 153, 0, 15, 42, 43, 28, 45, 21, 4, 182, 0, 75, 167, 0, 12, 42, 43, 28, 45]
abbrev dktX9_processBlock_0 : List UInt8 := dkwX9_processBlock_0 ++ dktX9_processBlock_1
theorem dksX9_processBlock_0 : cX9_processBlock.data.toList.drop 0 = dktX9_processBlock_0 := by decide +kernel
theorem dksX9_processBlock_1 : cX9_processBlock.data.toList.drop 23 = dktX9_processBlock_1 := dk_seg dksX9_processBlock_0 23 rfl rfl
theorem dX9_processBlock_0 : decode cX9_processBlock 0 = .ok (.aload_n 0, 1) := dk_42 (dk_at dksX9_processBlock_0 0 rfl rfl)
theorem dX9_processBlock_1 : decode cX9_processBlock 1 = .ok (.getfield 33, 3) := dk_180 0 33 (dk_at dksX9_processBlock_0 1 rfl rfl)
theorem dX9_processBlock_4 : decode cX9_processBlock 4 = .ok (.ifCond .eq 15, 3) := dk_153 0 15 (dk_at dksX9_processBlock_0 4 rfl rfl)
theorem dX9_processBlock_7 : decode cX9_processBlock 7 = .ok (.aload_n 0, 1) := dk_42 (dk_at dksX9_processBlock_0 7 rfl rfl)
theorem dX9_processBlock_8 : decode cX9_processBlock 8 = .ok (.aload_n 1, 1) := dk_43 (dk_at dksX9_processBlock_0 8 rfl rfl)
theorem dX9_processBlock_9 : decode cX9_processBlock 9 = .ok (.iload_n 2, 1) := dk_28 (dk_at dksX9_processBlock_0 9 rfl rfl)
theorem dX9_processBlock_10 : decode cX9_processBlock 10 = .ok (.aload_n 3, 1) := dk_45 (dk_at dksX9_processBlock_0 10 rfl rfl)
theorem dX9_processBlock_11 : decode cX9_processBlock 11 = .ok (.iload 4, 2) := dk_21 4 (dk_at dksX9_processBlock_0 11 rfl rfl)
theorem dX9_processBlock_13 : decode cX9_processBlock 13 = .ok (.invokevirtual 75, 3) := dk_182 0 75 (dk_at dksX9_processBlock_0 13 rfl rfl)
theorem dX9_processBlock_16 : decode cX9_processBlock 16 = .ok (.goto 12, 3) := dk_167 0 12 (dk_at dksX9_processBlock_0 16 rfl rfl)
theorem dX9_processBlock_19 : decode cX9_processBlock 19 = .ok (.aload_n 0, 1) := dk_42 (dk_at dksX9_processBlock_0 19 rfl rfl)
theorem dX9_processBlock_20 : decode cX9_processBlock 20 = .ok (.aload_n 1, 1) := dk_43 (dk_at dksX9_processBlock_0 20 rfl rfl)
theorem dX9_processBlock_21 : decode cX9_processBlock 21 = .ok (.iload_n 2, 1) := dk_28 (dk_at dksX9_processBlock_0 21 rfl rfl)
theorem dX9_processBlock_22 : decode cX9_processBlock 22 = .ok (.aload_n 3, 1) := dk_45 (dk_at dksX9_processBlock_0 22 rfl rfl)
theorem dX9_processBlock_23 : decode cX9_processBlock 23 = .ok (.iload 4, 2) := dk_21 4 (dk_at dksX9_processBlock_1 0 rfl rfl)
theorem dX9_processBlock_25 : decode cX9_processBlock 25 = .ok (.invokevirtual 79, 3) := dk_182 0 79 (dk_at dksX9_processBlock_1 2 rfl rfl)
theorem dX9_processBlock_28 : decode cX9_processBlock 28 = .ok (.ireturn, 1) := dk_172 (dk_at dksX9_processBlock_1 5 rfl rfl)
abbrev cX9_encryptBlock : ByteArray := prog_5_method_6_code
def yX9_encryptBlock : MethodName := ⟨RX9, "encryptBlock", "([BI[BI)I"⟩
def dkwX9_encryptBlock_4 : List UInt8 := [21, 5, 172]
abbrev dktX9_encryptBlock_4 : List UInt8 := dkwX9_encryptBlock_4 ++ []
def dkwX9_encryptBlock_3 : List UInt8 := [185, 0, 88, 5, 0, 54, 5, 45, 21, 4, 42, 180, 0, 27, 3, 42, 180, 0, 27, 190, 184, 0, 50]
abbrev dktX9_encryptBlock_3 : List UInt8 := dkwX9_encryptBlock_3 ++ dktX9_encryptBlock_4
def dkwX9_encryptBlock_2 : List UInt8 := [145, 84, 132, 5, 1, 167, 255, 227, 42, 180, 0, 7, 42, 180, 0, 27, 3, 45, 21, 4]
abbrev dktX9_encryptBlock_2 : List UInt8 := dkwX9_encryptBlock_2 ++ dktX9_encryptBlock_3
def dkwX9_encryptBlock_1 : List UInt8 := [21, 5, 42, 180, 0, 19, 162, 0, 26, 42, 180, 0, 27, 21, 5, 92, 51, 43, 28, 21, 5, 96, 51, 130]
abbrev dktX9_encryptBlock_1 : List UInt8 := dkwX9_encryptBlock_1 ++ dktX9_encryptBlock_2
def dkwX9_encryptBlock_0 : List UInt8 := [28, 42, 180, 0, 19, 96, 43, 190, 164, 0, 13, 187, 0, 83, 89, 18, 85, 183, 0, 87, 191, 3, 54, 5]
abbrev dktX9_encryptBlock_0 : List UInt8 := dkwX9_encryptBlock_0 ++ dktX9_encryptBlock_1
theorem dksX9_encryptBlock_0 : cX9_encryptBlock.data.toList.drop 0 = dktX9_encryptBlock_0 := by decide +kernel
theorem dksX9_encryptBlock_1 : cX9_encryptBlock.data.toList.drop 24 = dktX9_encryptBlock_1 := dk_seg dksX9_encryptBlock_0 24 rfl rfl
theorem dksX9_encryptBlock_2 : cX9_encryptBlock.data.toList.drop 48 = dktX9_encryptBlock_2 := dk_seg dksX9_encryptBlock_1 24 rfl rfl
theorem dksX9_encryptBlock_3 : cX9_encryptBlock.data.toList.drop 68 = dktX9_encryptBlock_3 := dk_seg dksX9_encryptBlock_2 20 rfl rfl
theorem dksX9_encryptBlock_4 : cX9_encryptBlock.data.toList.drop 91 = dktX9_encryptBlock_4 := dk_seg dksX9_encryptBlock_3 23 rfl rfl
theorem dX9_encryptBlock_0 : decode cX9_encryptBlock 0 = .ok (.iload_n 2, 1) := dk_28 (dk_at dksX9_encryptBlock_0 0 rfl rfl)
theorem dX9_encryptBlock_1 : decode cX9_encryptBlock 1 = .ok (.aload_n 0, 1) := dk_42 (dk_at dksX9_encryptBlock_0 1 rfl rfl)
theorem dX9_encryptBlock_2 : decode cX9_encryptBlock 2 = .ok (.getfield 19, 3) := dk_180 0 19 (dk_at dksX9_encryptBlock_0 2 rfl rfl)
theorem dX9_encryptBlock_5 : decode cX9_encryptBlock 5 = .ok (.iadd, 1) := dk_96 (dk_at dksX9_encryptBlock_0 5 rfl rfl)
theorem dX9_encryptBlock_6 : decode cX9_encryptBlock 6 = .ok (.aload_n 1, 1) := dk_43 (dk_at dksX9_encryptBlock_0 6 rfl rfl)
theorem dX9_encryptBlock_7 : decode cX9_encryptBlock 7 = .ok (.arraylength, 1) := dk_190 (dk_at dksX9_encryptBlock_0 7 rfl rfl)
theorem dX9_encryptBlock_8 : decode cX9_encryptBlock 8 = .ok (.if_icmp .le 13, 3) := dk_164 0 13 (dk_at dksX9_encryptBlock_0 8 rfl rfl)
theorem dX9_encryptBlock_11 : decode cX9_encryptBlock 11 = .ok (.new 83, 3) := dk_187 0 83 (dk_at dksX9_encryptBlock_0 11 rfl rfl)
theorem dX9_encryptBlock_14 : decode cX9_encryptBlock 14 = .ok (.dup, 1) := dk_89 (dk_at dksX9_encryptBlock_0 14 rfl rfl)
theorem dX9_encryptBlock_15 : decode cX9_encryptBlock 15 = .ok (.ldc 85, 2) := dk_18 85 (dk_at dksX9_encryptBlock_0 15 rfl rfl)
theorem dX9_encryptBlock_17 : decode cX9_encryptBlock 17 = .ok (.invokespecial 87, 3) := dk_183 0 87 (dk_at dksX9_encryptBlock_0 17 rfl rfl)
theorem dX9_encryptBlock_20 : decode cX9_encryptBlock 20 = .ok (.athrow, 1) := dk_191 (dk_at dksX9_encryptBlock_0 20 rfl rfl)
theorem dX9_encryptBlock_21 : decode cX9_encryptBlock 21 = .ok (.iconst 0, 1) := dk_3 (dk_at dksX9_encryptBlock_0 21 rfl rfl)
theorem dX9_encryptBlock_22 : decode cX9_encryptBlock 22 = .ok (.istore 5, 2) := dk_54 5 (dk_at dksX9_encryptBlock_0 22 rfl rfl)
theorem dX9_encryptBlock_24 : decode cX9_encryptBlock 24 = .ok (.iload 5, 2) := dk_21 5 (dk_at dksX9_encryptBlock_1 0 rfl rfl)
theorem dX9_encryptBlock_26 : decode cX9_encryptBlock 26 = .ok (.aload_n 0, 1) := dk_42 (dk_at dksX9_encryptBlock_1 2 rfl rfl)
theorem dX9_encryptBlock_27 : decode cX9_encryptBlock 27 = .ok (.getfield 19, 3) := dk_180 0 19 (dk_at dksX9_encryptBlock_1 3 rfl rfl)
theorem dX9_encryptBlock_30 : decode cX9_encryptBlock 30 = .ok (.if_icmp .ge 26, 3) := dk_162 0 26 (dk_at dksX9_encryptBlock_1 6 rfl rfl)
theorem dX9_encryptBlock_33 : decode cX9_encryptBlock 33 = .ok (.aload_n 0, 1) := dk_42 (dk_at dksX9_encryptBlock_1 9 rfl rfl)
theorem dX9_encryptBlock_34 : decode cX9_encryptBlock 34 = .ok (.getfield 27, 3) := dk_180 0 27 (dk_at dksX9_encryptBlock_1 10 rfl rfl)
theorem dX9_encryptBlock_37 : decode cX9_encryptBlock 37 = .ok (.iload 5, 2) := dk_21 5 (dk_at dksX9_encryptBlock_1 13 rfl rfl)
theorem dX9_encryptBlock_39 : decode cX9_encryptBlock 39 = .ok (.dup2, 1) := dk_92 (dk_at dksX9_encryptBlock_1 15 rfl rfl)
theorem dX9_encryptBlock_40 : decode cX9_encryptBlock 40 = .ok (.baload, 1) := dk_51 (dk_at dksX9_encryptBlock_1 16 rfl rfl)
theorem dX9_encryptBlock_41 : decode cX9_encryptBlock 41 = .ok (.aload_n 1, 1) := dk_43 (dk_at dksX9_encryptBlock_1 17 rfl rfl)
theorem dX9_encryptBlock_42 : decode cX9_encryptBlock 42 = .ok (.iload_n 2, 1) := dk_28 (dk_at dksX9_encryptBlock_1 18 rfl rfl)
theorem dX9_encryptBlock_43 : decode cX9_encryptBlock 43 = .ok (.iload 5, 2) := dk_21 5 (dk_at dksX9_encryptBlock_1 19 rfl rfl)
theorem dX9_encryptBlock_45 : decode cX9_encryptBlock 45 = .ok (.iadd, 1) := dk_96 (dk_at dksX9_encryptBlock_1 21 rfl rfl)
theorem dX9_encryptBlock_46 : decode cX9_encryptBlock 46 = .ok (.baload, 1) := dk_51 (dk_at dksX9_encryptBlock_1 22 rfl rfl)
theorem dX9_encryptBlock_47 : decode cX9_encryptBlock 47 = .ok (.ixor, 1) := dk_130 (dk_at dksX9_encryptBlock_1 23 rfl rfl)
theorem dX9_encryptBlock_48 : decode cX9_encryptBlock 48 = .ok (.i2b, 1) := dk_145 (dk_at dksX9_encryptBlock_2 0 rfl rfl)
theorem dX9_encryptBlock_49 : decode cX9_encryptBlock 49 = .ok (.bastore, 1) := dk_84 (dk_at dksX9_encryptBlock_2 1 rfl rfl)
theorem dX9_encryptBlock_50 : decode cX9_encryptBlock 50 = .ok (.iinc 5 1, 3) := dk_132 5 1 (dk_at dksX9_encryptBlock_2 2 rfl rfl)
theorem dX9_encryptBlock_53 : decode cX9_encryptBlock 53 = .ok (.goto (-29), 3) := dk_167 255 227 (dk_at dksX9_encryptBlock_2 5 rfl rfl)
theorem dX9_encryptBlock_56 : decode cX9_encryptBlock 56 = .ok (.aload_n 0, 1) := dk_42 (dk_at dksX9_encryptBlock_2 8 rfl rfl)
theorem dX9_encryptBlock_57 : decode cX9_encryptBlock 57 = .ok (.getfield 7, 3) := dk_180 0 7 (dk_at dksX9_encryptBlock_2 9 rfl rfl)
theorem dX9_encryptBlock_60 : decode cX9_encryptBlock 60 = .ok (.aload_n 0, 1) := dk_42 (dk_at dksX9_encryptBlock_2 12 rfl rfl)
theorem dX9_encryptBlock_61 : decode cX9_encryptBlock 61 = .ok (.getfield 27, 3) := dk_180 0 27 (dk_at dksX9_encryptBlock_2 13 rfl rfl)
theorem dX9_encryptBlock_64 : decode cX9_encryptBlock 64 = .ok (.iconst 0, 1) := dk_3 (dk_at dksX9_encryptBlock_2 16 rfl rfl)
theorem dX9_encryptBlock_65 : decode cX9_encryptBlock 65 = .ok (.aload_n 3, 1) := dk_45 (dk_at dksX9_encryptBlock_2 17 rfl rfl)
theorem dX9_encryptBlock_66 : decode cX9_encryptBlock 66 = .ok (.iload 4, 2) := dk_21 4 (dk_at dksX9_encryptBlock_2 18 rfl rfl)
theorem dX9_encryptBlock_68 : decode cX9_encryptBlock 68 = .ok (.invokeinterface 88 5, 5) := by decide +kernel
theorem dX9_encryptBlock_73 : decode cX9_encryptBlock 73 = .ok (.istore 5, 2) := dk_54 5 (dk_at dksX9_encryptBlock_3 5 rfl rfl)
theorem dX9_encryptBlock_75 : decode cX9_encryptBlock 75 = .ok (.aload_n 3, 1) := dk_45 (dk_at dksX9_encryptBlock_3 7 rfl rfl)
theorem dX9_encryptBlock_76 : decode cX9_encryptBlock 76 = .ok (.iload 4, 2) := dk_21 4 (dk_at dksX9_encryptBlock_3 8 rfl rfl)
theorem dX9_encryptBlock_78 : decode cX9_encryptBlock 78 = .ok (.aload_n 0, 1) := dk_42 (dk_at dksX9_encryptBlock_3 10 rfl rfl)
theorem dX9_encryptBlock_79 : decode cX9_encryptBlock 79 = .ok (.getfield 27, 3) := dk_180 0 27 (dk_at dksX9_encryptBlock_3 11 rfl rfl)
theorem dX9_encryptBlock_82 : decode cX9_encryptBlock 82 = .ok (.iconst 0, 1) := dk_3 (dk_at dksX9_encryptBlock_3 14 rfl rfl)
theorem dX9_encryptBlock_83 : decode cX9_encryptBlock 83 = .ok (.aload_n 0, 1) := dk_42 (dk_at dksX9_encryptBlock_3 15 rfl rfl)
theorem dX9_encryptBlock_84 : decode cX9_encryptBlock 84 = .ok (.getfield 27, 3) := dk_180 0 27 (dk_at dksX9_encryptBlock_3 16 rfl rfl)
theorem dX9_encryptBlock_87 : decode cX9_encryptBlock 87 = .ok (.arraylength, 1) := dk_190 (dk_at dksX9_encryptBlock_3 19 rfl rfl)
theorem dX9_encryptBlock_88 : decode cX9_encryptBlock 88 = .ok (.invokestatic 50, 3) := dk_184 0 50 (dk_at dksX9_encryptBlock_3 20 rfl rfl)
theorem dX9_encryptBlock_91 : decode cX9_encryptBlock 91 = .ok (.iload 5, 2) := dk_21 5 (dk_at dksX9_encryptBlock_4 0 rfl rfl)
theorem dX9_encryptBlock_93 : decode cX9_encryptBlock 93 = .ok (.ireturn, 1) := dk_172 (dk_at dksX9_encryptBlock_4 2 rfl rfl)
abbrev cX9_decryptBlock : ByteArray := prog_5_method_7_code
def yX9_decryptBlock : MethodName := ⟨RX9, "decryptBlock", "([BI[BI)I"⟩
def dkwX9_decryptBlock_4 : List UInt8 := [58, 6, 42, 42, 180, 0, 30, 181, 0, 27, 42, 25, 6, 181, 0, 30, 21, 5, 172]
abbrev dktX9_decryptBlock_4 : List UInt8 := dkwX9_decryptBlock_4 ++ []
def dkwX9_decryptBlock_3 : List UInt8 := [96, 92, 51, 42, 180, 0, 27, 21, 6, 51, 130, 145, 84, 132, 6, 1, 167, 255, 226, 42, 180, 0, 27]
abbrev dktX9_decryptBlock_3 : List UInt8 := dkwX9_decryptBlock_3 ++ dktX9_decryptBlock_4
def dkwX9_decryptBlock_2 : List UInt8 := [185, 0, 88, 5, 0, 54, 5, 3, 54, 6, 21, 6, 42, 180, 0, 19, 162, 0, 27, 45, 21, 4, 21, 6]
abbrev dktX9_decryptBlock_2 : List UInt8 := dkwX9_decryptBlock_2 ++ dktX9_decryptBlock_3
def dkwX9_decryptBlock_1 : List UInt8 := [180, 0, 30, 3, 42, 180, 0, 19, 184, 0, 50, 42, 180, 0, 7, 43, 28, 45, 21, 4]
abbrev dktX9_decryptBlock_1 : List UInt8 := dkwX9_decryptBlock_1 ++ dktX9_decryptBlock_2
def dkwX9_decryptBlock_0 : List UInt8 := [28, 42, 180, 0, 19, 96, 43, 190, 164, 0, 13, 187, 0, 83, 89, 18, 85, 183, 0, 87, 191, 43, 28, 42]
abbrev dktX9_decryptBlock_0 : List UInt8 := dkwX9_decryptBlock_0 ++ dktX9_decryptBlock_1
theorem dksX9_decryptBlock_0 : cX9_decryptBlock.data.toList.drop 0 = dktX9_decryptBlock_0 := by decide +kernel
theorem dksX9_decryptBlock_1 : cX9_decryptBlock.data.toList.drop 24 = dktX9_decryptBlock_1 := dk_seg dksX9_decryptBlock_0 24 rfl rfl
theorem dksX9_decryptBlock_2 : cX9_decryptBlock.data.toList.drop 44 = dktX9_decryptBlock_2 := dk_seg dksX9_decryptBlock_1 20 rfl rfl
theorem dksX9_decryptBlock_3 : cX9_decryptBlock.data.toList.drop 68 = dktX9_decryptBlock_3 := dk_seg dksX9_decryptBlock_2 24 rfl rfl
theorem dksX9_decryptBlock_4 : cX9_decryptBlock.data.toList.drop 91 = dktX9_decryptBlock_4 := dk_seg dksX9_decryptBlock_3 23 rfl rfl
theorem dX9_decryptBlock_0 : decode cX9_decryptBlock 0 = .ok (.iload_n 2, 1) := dk_28 (dk_at dksX9_decryptBlock_0 0 rfl rfl)
theorem dX9_decryptBlock_1 : decode cX9_decryptBlock 1 = .ok (.aload_n 0, 1) := dk_42 (dk_at dksX9_decryptBlock_0 1 rfl rfl)
theorem dX9_decryptBlock_2 : decode cX9_decryptBlock 2 = .ok (.getfield 19, 3) := dk_180 0 19 (dk_at dksX9_decryptBlock_0 2 rfl rfl)
theorem dX9_decryptBlock_5 : decode cX9_decryptBlock 5 = .ok (.iadd, 1) := dk_96 (dk_at dksX9_decryptBlock_0 5 rfl rfl)
theorem dX9_decryptBlock_6 : decode cX9_decryptBlock 6 = .ok (.aload_n 1, 1) := dk_43 (dk_at dksX9_decryptBlock_0 6 rfl rfl)
theorem dX9_decryptBlock_7 : decode cX9_decryptBlock 7 = .ok (.arraylength, 1) := dk_190 (dk_at dksX9_decryptBlock_0 7 rfl rfl)
theorem dX9_decryptBlock_8 : decode cX9_decryptBlock 8 = .ok (.if_icmp .le 13, 3) := dk_164 0 13 (dk_at dksX9_decryptBlock_0 8 rfl rfl)
theorem dX9_decryptBlock_11 : decode cX9_decryptBlock 11 = .ok (.new 83, 3) := dk_187 0 83 (dk_at dksX9_decryptBlock_0 11 rfl rfl)
theorem dX9_decryptBlock_14 : decode cX9_decryptBlock 14 = .ok (.dup, 1) := dk_89 (dk_at dksX9_decryptBlock_0 14 rfl rfl)
theorem dX9_decryptBlock_15 : decode cX9_decryptBlock 15 = .ok (.ldc 85, 2) := dk_18 85 (dk_at dksX9_decryptBlock_0 15 rfl rfl)
theorem dX9_decryptBlock_17 : decode cX9_decryptBlock 17 = .ok (.invokespecial 87, 3) := dk_183 0 87 (dk_at dksX9_decryptBlock_0 17 rfl rfl)
theorem dX9_decryptBlock_20 : decode cX9_decryptBlock 20 = .ok (.athrow, 1) := dk_191 (dk_at dksX9_decryptBlock_0 20 rfl rfl)
theorem dX9_decryptBlock_21 : decode cX9_decryptBlock 21 = .ok (.aload_n 1, 1) := dk_43 (dk_at dksX9_decryptBlock_0 21 rfl rfl)
theorem dX9_decryptBlock_22 : decode cX9_decryptBlock 22 = .ok (.iload_n 2, 1) := dk_28 (dk_at dksX9_decryptBlock_0 22 rfl rfl)
theorem dX9_decryptBlock_23 : decode cX9_decryptBlock 23 = .ok (.aload_n 0, 1) := dk_42 (dk_at dksX9_decryptBlock_0 23 rfl rfl)
theorem dX9_decryptBlock_24 : decode cX9_decryptBlock 24 = .ok (.getfield 30, 3) := dk_180 0 30 (dk_at dksX9_decryptBlock_1 0 rfl rfl)
theorem dX9_decryptBlock_27 : decode cX9_decryptBlock 27 = .ok (.iconst 0, 1) := dk_3 (dk_at dksX9_decryptBlock_1 3 rfl rfl)
theorem dX9_decryptBlock_28 : decode cX9_decryptBlock 28 = .ok (.aload_n 0, 1) := dk_42 (dk_at dksX9_decryptBlock_1 4 rfl rfl)
theorem dX9_decryptBlock_29 : decode cX9_decryptBlock 29 = .ok (.getfield 19, 3) := dk_180 0 19 (dk_at dksX9_decryptBlock_1 5 rfl rfl)
theorem dX9_decryptBlock_32 : decode cX9_decryptBlock 32 = .ok (.invokestatic 50, 3) := dk_184 0 50 (dk_at dksX9_decryptBlock_1 8 rfl rfl)
theorem dX9_decryptBlock_35 : decode cX9_decryptBlock 35 = .ok (.aload_n 0, 1) := dk_42 (dk_at dksX9_decryptBlock_1 11 rfl rfl)
theorem dX9_decryptBlock_36 : decode cX9_decryptBlock 36 = .ok (.getfield 7, 3) := dk_180 0 7 (dk_at dksX9_decryptBlock_1 12 rfl rfl)
theorem dX9_decryptBlock_39 : decode cX9_decryptBlock 39 = .ok (.aload_n 1, 1) := dk_43 (dk_at dksX9_decryptBlock_1 15 rfl rfl)
theorem dX9_decryptBlock_40 : decode cX9_decryptBlock 40 = .ok (.iload_n 2, 1) := dk_28 (dk_at dksX9_decryptBlock_1 16 rfl rfl)
theorem dX9_decryptBlock_41 : decode cX9_decryptBlock 41 = .ok (.aload_n 3, 1) := dk_45 (dk_at dksX9_decryptBlock_1 17 rfl rfl)
theorem dX9_decryptBlock_42 : decode cX9_decryptBlock 42 = .ok (.iload 4, 2) := dk_21 4 (dk_at dksX9_decryptBlock_1 18 rfl rfl)
theorem dX9_decryptBlock_44 : decode cX9_decryptBlock 44 = .ok (.invokeinterface 88 5, 5) := by decide +kernel
theorem dX9_decryptBlock_49 : decode cX9_decryptBlock 49 = .ok (.istore 5, 2) := dk_54 5 (dk_at dksX9_decryptBlock_2 5 rfl rfl)
theorem dX9_decryptBlock_51 : decode cX9_decryptBlock 51 = .ok (.iconst 0, 1) := dk_3 (dk_at dksX9_decryptBlock_2 7 rfl rfl)
theorem dX9_decryptBlock_52 : decode cX9_decryptBlock 52 = .ok (.istore 6, 2) := dk_54 6 (dk_at dksX9_decryptBlock_2 8 rfl rfl)
theorem dX9_decryptBlock_54 : decode cX9_decryptBlock 54 = .ok (.iload 6, 2) := dk_21 6 (dk_at dksX9_decryptBlock_2 10 rfl rfl)
theorem dX9_decryptBlock_56 : decode cX9_decryptBlock 56 = .ok (.aload_n 0, 1) := dk_42 (dk_at dksX9_decryptBlock_2 12 rfl rfl)
theorem dX9_decryptBlock_57 : decode cX9_decryptBlock 57 = .ok (.getfield 19, 3) := dk_180 0 19 (dk_at dksX9_decryptBlock_2 13 rfl rfl)
theorem dX9_decryptBlock_60 : decode cX9_decryptBlock 60 = .ok (.if_icmp .ge 27, 3) := dk_162 0 27 (dk_at dksX9_decryptBlock_2 16 rfl rfl)
theorem dX9_decryptBlock_63 : decode cX9_decryptBlock 63 = .ok (.aload_n 3, 1) := dk_45 (dk_at dksX9_decryptBlock_2 19 rfl rfl)
theorem dX9_decryptBlock_64 : decode cX9_decryptBlock 64 = .ok (.iload 4, 2) := dk_21 4 (dk_at dksX9_decryptBlock_2 20 rfl rfl)
theorem dX9_decryptBlock_66 : decode cX9_decryptBlock 66 = .ok (.iload 6, 2) := dk_21 6 (dk_at dksX9_decryptBlock_2 22 rfl rfl)
theorem dX9_decryptBlock_68 : decode cX9_decryptBlock 68 = .ok (.iadd, 1) := dk_96 (dk_at dksX9_decryptBlock_3 0 rfl rfl)
theorem dX9_decryptBlock_69 : decode cX9_decryptBlock 69 = .ok (.dup2, 1) := dk_92 (dk_at dksX9_decryptBlock_3 1 rfl rfl)
theorem dX9_decryptBlock_70 : decode cX9_decryptBlock 70 = .ok (.baload, 1) := dk_51 (dk_at dksX9_decryptBlock_3 2 rfl rfl)
theorem dX9_decryptBlock_71 : decode cX9_decryptBlock 71 = .ok (.aload_n 0, 1) := dk_42 (dk_at dksX9_decryptBlock_3 3 rfl rfl)
theorem dX9_decryptBlock_72 : decode cX9_decryptBlock 72 = .ok (.getfield 27, 3) := dk_180 0 27 (dk_at dksX9_decryptBlock_3 4 rfl rfl)
theorem dX9_decryptBlock_75 : decode cX9_decryptBlock 75 = .ok (.iload 6, 2) := dk_21 6 (dk_at dksX9_decryptBlock_3 7 rfl rfl)
theorem dX9_decryptBlock_77 : decode cX9_decryptBlock 77 = .ok (.baload, 1) := dk_51 (dk_at dksX9_decryptBlock_3 9 rfl rfl)
theorem dX9_decryptBlock_78 : decode cX9_decryptBlock 78 = .ok (.ixor, 1) := dk_130 (dk_at dksX9_decryptBlock_3 10 rfl rfl)
theorem dX9_decryptBlock_79 : decode cX9_decryptBlock 79 = .ok (.i2b, 1) := dk_145 (dk_at dksX9_decryptBlock_3 11 rfl rfl)
theorem dX9_decryptBlock_80 : decode cX9_decryptBlock 80 = .ok (.bastore, 1) := dk_84 (dk_at dksX9_decryptBlock_3 12 rfl rfl)
theorem dX9_decryptBlock_81 : decode cX9_decryptBlock 81 = .ok (.iinc 6 1, 3) := dk_132 6 1 (dk_at dksX9_decryptBlock_3 13 rfl rfl)
theorem dX9_decryptBlock_84 : decode cX9_decryptBlock 84 = .ok (.goto (-30), 3) := dk_167 255 226 (dk_at dksX9_decryptBlock_3 16 rfl rfl)
theorem dX9_decryptBlock_87 : decode cX9_decryptBlock 87 = .ok (.aload_n 0, 1) := dk_42 (dk_at dksX9_decryptBlock_3 19 rfl rfl)
theorem dX9_decryptBlock_88 : decode cX9_decryptBlock 88 = .ok (.getfield 27, 3) := dk_180 0 27 (dk_at dksX9_decryptBlock_3 20 rfl rfl)
theorem dX9_decryptBlock_91 : decode cX9_decryptBlock 91 = .ok (.astore 6, 2) := dk_58 6 (dk_at dksX9_decryptBlock_4 0 rfl rfl)
theorem dX9_decryptBlock_93 : decode cX9_decryptBlock 93 = .ok (.aload_n 0, 1) := dk_42 (dk_at dksX9_decryptBlock_4 2 rfl rfl)
theorem dX9_decryptBlock_94 : decode cX9_decryptBlock 94 = .ok (.aload_n 0, 1) := dk_42 (dk_at dksX9_decryptBlock_4 3 rfl rfl)
theorem dX9_decryptBlock_95 : decode cX9_decryptBlock 95 = .ok (.getfield 30, 3) := dk_180 0 30 (dk_at dksX9_decryptBlock_4 4 rfl rfl)
theorem dX9_decryptBlock_98 : decode cX9_decryptBlock 98 = .ok (.putfield 27, 3) := dk_181 0 27 (dk_at dksX9_decryptBlock_4 7 rfl rfl)
theorem dX9_decryptBlock_101 : decode cX9_decryptBlock 101 = .ok (.aload_n 0, 1) := dk_42 (dk_at dksX9_decryptBlock_4 10 rfl rfl)
theorem dX9_decryptBlock_102 : decode cX9_decryptBlock 102 = .ok (.aload 6, 2) := dk_25 6 (dk_at dksX9_decryptBlock_4 11 rfl rfl)
theorem dX9_decryptBlock_104 : decode cX9_decryptBlock 104 = .ok (.putfield 30, 3) := dk_181 0 30 (dk_at dksX9_decryptBlock_4 13 rfl rfl)
theorem dX9_decryptBlock_107 : decode cX9_decryptBlock 107 = .ok (.iload 5, 2) := dk_21 5 (dk_at dksX9_decryptBlock_4 16 rfl rfl)
theorem dX9_decryptBlock_109 : decode cX9_decryptBlock 109 = .ok (.ireturn, 1) := dk_172 (dk_at dksX9_decryptBlock_4 18 rfl rfl)
theorem q18 : (Jvm.Cond.initialized "CBCBlockCipher") ∈ lw_all := lw_g (lw_at lw_m1 9 rfl) rfl
theorem q129 : (Jvm.Cond.instantiable "CBCBlockCipher" (6 : Nat)) ∈ lw_all := lw_g (lw_at lw_m1 120 rfl) rfl
theorem q153 : (Jvm.Cond.instanceMethod ({ cls := "CBCBlockCipher", name := "<init>", desc := "(LBlockCipher;)V" } : Jvm.MethodName)) ∈ lw_all := lw_g (lw_at lw_m1 144 rfl) rfl
theorem q154 : (Jvm.Cond.code ({ cls := "CBCBlockCipher", name := "<init>", desc := "(LBlockCipher;)V" } : Jvm.MethodName) prog_5_method_1_code (2 : Nat) (Option.none : Option Jvm.ClassFile.FieldType)) ∈ lw_all := lw_g (lw_at lw_m1 145 rfl) rfl
theorem q155 : (Jvm.Cond.methodLink "CBCBlockCipher" (1 : Nat) ({ cls := "DefaultMultiBlockCipher", name := "<init>", desc := "()V" } : Jvm.MethodName)) ∈ lw_all := lw_g (lw_at lw_m1 146 rfl) rfl
theorem q156 : (Jvm.Cond.interfaceEntry "CBCBlockCipher" (13 : Nat)) ∈ lw_tbl := lw_at lw_m1 147 rfl
theorem q157 : (Jvm.Cond.methodLink "CBCBlockCipher" (13 : Nat) ({ cls := "BlockCipher", name := "getBlockSize", desc := "()I" } : Jvm.MethodName)) ∈ lw_all := lw_g (lw_at lw_m1 148 rfl) rfl
theorem q166 : (Jvm.Cond.castable "CBCBlockCipher" "BlockCipher") ∈ lw_tbl := lw_at lw_m1 157 rfl
theorem q167 : (Jvm.Cond.selects "CBCBlockCipher" ({ cls := "BlockCipher", name := "getBlockSize", desc := "()I" } : Jvm.MethodName) ({ cls := "CBCBlockCipher", name := "getBlockSize", desc := "()I" } : Jvm.MethodName)) ∈ lw_all := lw_g (lw_at lw_m1 158 rfl) rfl
theorem q168 : (Jvm.Cond.unhidden "CBCBlockCipher" "getBlockSize" "()I") ∈ lw_tbl := lw_at lw_m1 159 rfl
theorem q169 : (Jvm.Cond.instanceMethod ({ cls := "CBCBlockCipher", name := "getBlockSize", desc := "()I" } : Jvm.MethodName)) ∈ lw_all := lw_g (lw_at lw_m1 160 rfl) rfl
theorem q170 : (Jvm.Cond.publicMethod ({ cls := "CBCBlockCipher", name := "getBlockSize", desc := "()I" } : Jvm.MethodName)) ∈ lw_tbl := lw_at lw_m1 161 rfl
theorem q171 : (Jvm.Cond.code ({ cls := "CBCBlockCipher", name := "getBlockSize", desc := "()I" } : Jvm.MethodName) prog_5_method_3_code (1 : Nat) (Option.some Jvm.ClassFile.FieldType.int)) ∈ lw_all := lw_g (lw_at lw_m1 162 rfl) rfl
theorem q172 : (Jvm.Cond.fieldLink "CBCBlockCipher" (23 : Nat) "CBCBlockCipher" "IV" "[B") ∈ lw_all := lw_g (lw_at lw_m1 163 rfl) rfl
theorem q173 : (Jvm.Cond.fieldLink "CBCBlockCipher" (27 : Nat) "CBCBlockCipher" "cbcV" "[B") ∈ lw_all := lw_g (lw_at lw_m1 164 rfl) rfl
theorem q174 : (Jvm.Cond.fieldLink "CBCBlockCipher" (30 : Nat) "CBCBlockCipher" "cbcNextV" "[B") ∈ lw_all := lw_g (lw_at lw_m1 165 rfl) rfl
theorem q175 : (Jvm.Cond.fieldLink "CBCBlockCipher" (19 : Nat) "CBCBlockCipher" "blockSize" "I") ∈ lw_all := lw_g (lw_at lw_m1 166 rfl) rfl
theorem q176 : (Jvm.Cond.fieldLink "CBCBlockCipher" (7 : Nat) "CBCBlockCipher" "cipher" "LBlockCipher;") ∈ lw_all := lw_g (lw_at lw_m1 167 rfl) rfl
theorem q177 : (Jvm.Cond.fieldLink "CBCBlockCipher" (33 : Nat) "CBCBlockCipher" "encrypting" "Z") ∈ lw_all := lw_g (lw_at lw_m1 168 rfl) rfl
theorem q178 : (Jvm.Cond.lays "CBCBlockCipher" "CBCBlockCipher" "IV" "[B") ∈ lw_all := lw_g (lw_at lw_m1 169 rfl) rfl
theorem q179 : (Jvm.Cond.soleField "CBCBlockCipher" "IV") ∈ lw_all := lw_g (lw_at lw_m1 170 rfl) rfl
theorem q180 : (Jvm.Cond.lays "CBCBlockCipher" "CBCBlockCipher" "cbcV" "[B") ∈ lw_all := lw_g (lw_at lw_m1 171 rfl) rfl
theorem q181 : (Jvm.Cond.soleField "CBCBlockCipher" "cbcV") ∈ lw_all := lw_g (lw_at lw_m1 172 rfl) rfl
theorem q182 : (Jvm.Cond.lays "CBCBlockCipher" "CBCBlockCipher" "cbcNextV" "[B") ∈ lw_all := lw_g (lw_at lw_m1 173 rfl) rfl
theorem q183 : (Jvm.Cond.soleField "CBCBlockCipher" "cbcNextV") ∈ lw_all := lw_g (lw_at lw_m1 174 rfl) rfl
theorem q184 : (Jvm.Cond.lays "CBCBlockCipher" "CBCBlockCipher" "blockSize" "I") ∈ lw_all := lw_g (lw_at lw_m1 175 rfl) rfl
theorem q185 : (Jvm.Cond.soleField "CBCBlockCipher" "blockSize") ∈ lw_all := lw_g (lw_at lw_m1 176 rfl) rfl
theorem q186 : (Jvm.Cond.lays "CBCBlockCipher" "CBCBlockCipher" "cipher" "LBlockCipher;") ∈ lw_all := lw_g (lw_at lw_m1 177 rfl) rfl
theorem q187 : (Jvm.Cond.soleField "CBCBlockCipher" "cipher") ∈ lw_all := lw_g (lw_at lw_m1 178 rfl) rfl
theorem q188 : (Jvm.Cond.lays "CBCBlockCipher" "CBCBlockCipher" "encrypting" "Z") ∈ lw_all := lw_g (lw_at lw_m1 179 rfl) rfl
theorem q189 : (Jvm.Cond.soleField "CBCBlockCipher" "encrypting") ∈ lw_all := lw_g (lw_at lw_m1 180 rfl) rfl
theorem q190 : (Jvm.Cond.superclass "CBCBlockCipher" "DefaultMultiBlockCipher") ∈ lw_all := lw_g (lw_at lw_m1 181 rfl) rfl
theorem q281 : (Jvm.Cond.selects "CBCBlockCipher" ({ cls := "BlockCipher", name := "reset", desc := "()V" } : Jvm.MethodName) ({ cls := "CBCBlockCipher", name := "reset", desc := "()V" } : Jvm.MethodName)) ∈ lw_all := lw_g (lw_at lw_m2 32 rfl) rfl
theorem q282 : (Jvm.Cond.unhidden "CBCBlockCipher" "reset" "()V") ∈ lw_tbl := lw_at lw_m2 33 rfl
theorem q283 : (Jvm.Cond.instanceMethod ({ cls := "CBCBlockCipher", name := "reset", desc := "()V" } : Jvm.MethodName)) ∈ lw_all := lw_g (lw_at lw_m2 34 rfl) rfl
theorem q284 : (Jvm.Cond.publicMethod ({ cls := "CBCBlockCipher", name := "reset", desc := "()V" } : Jvm.MethodName)) ∈ lw_tbl := lw_at lw_m2 35 rfl
theorem q285 : (Jvm.Cond.code ({ cls := "CBCBlockCipher", name := "reset", desc := "()V" } : Jvm.MethodName) prog_5_method_5_code (1 : Nat) (Option.none : Option Jvm.ClassFile.FieldType)) ∈ lw_all := lw_g (lw_at lw_m2 36 rfl) rfl
theorem q286 : (Jvm.Cond.methodLink "CBCBlockCipher" (50 : Nat) ({ cls := "java/lang/System", name := "arraycopy", desc := "(Ljava/lang/Object;ILjava/lang/Object;II)V" } : Jvm.MethodName)) ∈ lw_all := lw_g (lw_at lw_m2 37 rfl) rfl
theorem q287 : (Jvm.Cond.methodLink "CBCBlockCipher" (60 : Nat) ({ cls := "OwnArrays", name := "fill", desc := "([BB)V" } : Jvm.MethodName)) ∈ lw_all := lw_g (lw_at lw_m2 38 rfl) rfl
theorem q293 : (Jvm.Cond.interfaceEntry "CBCBlockCipher" (82 : Nat)) ∈ lw_tbl := lw_at lw_m2 44 rfl
theorem q294 : (Jvm.Cond.methodLink "CBCBlockCipher" (82 : Nat) ({ cls := "BlockCipher", name := "reset", desc := "()V" } : Jvm.MethodName)) ∈ lw_all := lw_g (lw_at lw_m2 45 rfl) rfl
theorem q473 : (Jvm.Cond.selects "CBCBlockCipher" ({ cls := "BlockCipher", name := "init", desc := "(ZLCipherParameters;)V" } : Jvm.MethodName) ({ cls := "CBCBlockCipher", name := "init", desc := "(ZLCipherParameters;)V" } : Jvm.MethodName)) ∈ lw_all := lw_g (lw_at lw_m2 224 rfl) rfl
theorem q474 : (Jvm.Cond.unhidden "CBCBlockCipher" "init" "(ZLCipherParameters;)V") ∈ lw_tbl := lw_at lw_m2 225 rfl
theorem q475 : (Jvm.Cond.instanceMethod ({ cls := "CBCBlockCipher", name := "init", desc := "(ZLCipherParameters;)V" } : Jvm.MethodName)) ∈ lw_all := lw_g (lw_at lw_m2 226 rfl) rfl
theorem q476 : (Jvm.Cond.publicMethod ({ cls := "CBCBlockCipher", name := "init", desc := "(ZLCipherParameters;)V" } : Jvm.MethodName)) ∈ lw_tbl := lw_at lw_m2 227 rfl
theorem q477 : (Jvm.Cond.code ({ cls := "CBCBlockCipher", name := "init", desc := "(ZLCipherParameters;)V" } : Jvm.MethodName) prog_5_method_2_code (6 : Nat) (Option.none : Option Jvm.ClassFile.FieldType)) ∈ lw_all := lw_g (lw_at lw_m2 228 rfl) rfl
theorem q478 : (Jvm.Cond.classLink "CBCBlockCipher" (37 : Nat) "ParametersWithIV") ∈ lw_all := lw_g (lw_at lw_m2 229 rfl) rfl
theorem q479 : (Jvm.Cond.methodLink "CBCBlockCipher" (39 : Nat) ({ cls := "ParametersWithIV", name := "getIV", desc := "()[B" } : Jvm.MethodName)) ∈ lw_all := lw_g (lw_at lw_m2 230 rfl) rfl
theorem q483 : (Jvm.Cond.classLink "CBCBlockCipher" (43 : Nat) "java/lang/IllegalArgumentException") ∈ lw_all := lw_g (lw_at lw_m2 234 rfl) rfl
theorem q484 : (Jvm.Cond.stringRef "CBCBlockCipher" (45 : Nat) "initialisation vector must be the same length as block size") ∈ lw_tbl := lw_at lw_m2 235 rfl
theorem q485 : (Jvm.Cond.methodLink "CBCBlockCipher" (47 : Nat) ({ cls := "java/lang/IllegalArgumentException", name := "<init>", desc := "(Ljava/lang/String;)V" } : Jvm.MethodName)) ∈ lw_all := lw_g (lw_at lw_m2 236 rfl) rfl
theorem q486 : (Jvm.Cond.methodLink "CBCBlockCipher" (56 : Nat) ({ cls := "ParametersWithIV", name := "getParameters", desc := "()LCipherParameters;" } : Jvm.MethodName)) ∈ lw_all := lw_g (lw_at lw_m2 237 rfl) rfl
theorem q490 : (Jvm.Cond.methodLink "CBCBlockCipher" (66 : Nat) ({ cls := "CBCBlockCipher", name := "reset", desc := "()V" } : Jvm.MethodName)) ∈ lw_all := lw_g (lw_at lw_m3 1 rfl) rfl
theorem q491 : (Jvm.Cond.interfaceEntry "CBCBlockCipher" (69 : Nat)) ∈ lw_tbl := lw_at lw_m3 2 rfl
theorem q492 : (Jvm.Cond.methodLink "CBCBlockCipher" (69 : Nat) ({ cls := "BlockCipher", name := "init", desc := "(ZLCipherParameters;)V" } : Jvm.MethodName)) ∈ lw_all := lw_g (lw_at lw_m3 3 rfl) rfl
theorem q493 : (Jvm.Cond.stringRef "CBCBlockCipher" (73 : Nat) "cannot change encrypting state without providing key.") ∈ lw_tbl := lw_at lw_m3 4 rfl
theorem q590 : (Jvm.Cond.selects "CBCBlockCipher" ({ cls := "BlockCipher", name := "processBlock", desc := "([BI[BI)I" } : Jvm.MethodName) ({ cls := "CBCBlockCipher", name := "processBlock", desc := "([BI[BI)I" } : Jvm.MethodName)) ∈ lw_all := lw_g (lw_at lw_m3 101 rfl) rfl
theorem q591 : (Jvm.Cond.unhidden "CBCBlockCipher" "processBlock" "([BI[BI)I") ∈ lw_tbl := lw_at lw_m3 102 rfl
theorem q592 : (Jvm.Cond.instanceMethod ({ cls := "CBCBlockCipher", name := "processBlock", desc := "([BI[BI)I" } : Jvm.MethodName)) ∈ lw_all := lw_g (lw_at lw_m3 103 rfl) rfl
theorem q593 : (Jvm.Cond.publicMethod ({ cls := "CBCBlockCipher", name := "processBlock", desc := "([BI[BI)I" } : Jvm.MethodName)) ∈ lw_tbl := lw_at lw_m3 104 rfl
theorem q594 : (Jvm.Cond.code ({ cls := "CBCBlockCipher", name := "processBlock", desc := "([BI[BI)I" } : Jvm.MethodName) prog_5_method_4_code (5 : Nat) (Option.some Jvm.ClassFile.FieldType.int)) ∈ lw_all := lw_g (lw_at lw_m3 105 rfl) rfl
theorem q595 : (Jvm.Cond.methodLink "CBCBlockCipher" (75 : Nat) ({ cls := "CBCBlockCipher", name := "encryptBlock", desc := "([BI[BI)I" } : Jvm.MethodName)) ∈ lw_all := lw_g (lw_at lw_m3 106 rfl) rfl
theorem q596 : (Jvm.Cond.privateMethod ({ cls := "CBCBlockCipher", name := "encryptBlock", desc := "([BI[BI)I" } : Jvm.MethodName)) ∈ lw_tbl := lw_at lw_m3 107 rfl
theorem q597 : (Jvm.Cond.instanceMethod ({ cls := "CBCBlockCipher", name := "encryptBlock", desc := "([BI[BI)I" } : Jvm.MethodName)) ∈ lw_all := lw_g (lw_at lw_m3 108 rfl) rfl
theorem q598 : (Jvm.Cond.code ({ cls := "CBCBlockCipher", name := "encryptBlock", desc := "([BI[BI)I" } : Jvm.MethodName) prog_5_method_6_code (6 : Nat) (Option.some Jvm.ClassFile.FieldType.int)) ∈ lw_all := lw_g (lw_at lw_m3 109 rfl) rfl
theorem q599 : (Jvm.Cond.classLink "CBCBlockCipher" (83 : Nat) "DataLengthException") ∈ lw_all := lw_g (lw_at lw_m3 110 rfl) rfl
theorem q600 : (Jvm.Cond.stringRef "CBCBlockCipher" (85 : Nat) "input buffer too short") ∈ lw_tbl := lw_at lw_m3 111 rfl
theorem q601 : (Jvm.Cond.methodLink "CBCBlockCipher" (87 : Nat) ({ cls := "DataLengthException", name := "<init>", desc := "(Ljava/lang/String;)V" } : Jvm.MethodName)) ∈ lw_all := lw_g (lw_at lw_m3 112 rfl) rfl
theorem q602 : (Jvm.Cond.interfaceEntry "CBCBlockCipher" (88 : Nat)) ∈ lw_tbl := lw_at lw_m3 113 rfl
theorem q603 : (Jvm.Cond.methodLink "CBCBlockCipher" (88 : Nat) ({ cls := "BlockCipher", name := "processBlock", desc := "([BI[BI)I" } : Jvm.MethodName)) ∈ lw_all := lw_g (lw_at lw_m3 114 rfl) rfl
theorem q604 : (Jvm.Cond.methodLink "CBCBlockCipher" (79 : Nat) ({ cls := "CBCBlockCipher", name := "decryptBlock", desc := "([BI[BI)I" } : Jvm.MethodName)) ∈ lw_all := lw_g (lw_at lw_m3 115 rfl) rfl
theorem q605 : (Jvm.Cond.privateMethod ({ cls := "CBCBlockCipher", name := "decryptBlock", desc := "([BI[BI)I" } : Jvm.MethodName)) ∈ lw_tbl := lw_at lw_m3 116 rfl
theorem q606 : (Jvm.Cond.instanceMethod ({ cls := "CBCBlockCipher", name := "decryptBlock", desc := "([BI[BI)I" } : Jvm.MethodName)) ∈ lw_all := lw_g (lw_at lw_m3 117 rfl) rfl
theorem q607 : (Jvm.Cond.code ({ cls := "CBCBlockCipher", name := "decryptBlock", desc := "([BI[BI)I" } : Jvm.MethodName) prog_5_method_7_code (7 : Nat) (Option.some Jvm.ClassFile.FieldType.int)) ∈ lw_all := lw_g (lw_at lw_m3 118 rfl) rfl
theorem q740 : (Jvm.Cond.selects "CBCBlockCipher" ({ cls := "CBCBlockCipher", name := "reset", desc := "()V" } : Jvm.MethodName) ({ cls := "CBCBlockCipher", name := "reset", desc := "()V" } : Jvm.MethodName)) ∈ lw_all := lw_g (lw_at lw_m4 11 rfl) rfl
theorem in_X9 : ∀ w ∈ wsX90, w ∈ lw_all := lw_in wsX90 [178, 180, 182, 184, 186, 188] (by decide +kernel) (by decide +kernel)
/-! ParametersWithIV -/
set_option maxRecDepth 100000
def RX11 : String := "ParametersWithIV"
def TX11 : u_T := fun k => match k with
  | 0 => ("ParametersWithIV", "iv", "[B", false)
  | _ => ("ParametersWithIV", "parameters", "LCipherParameters;", false)
def tyX11 : Nat → FieldType := fun k => match k with
  | 0 => .array .byte
  | _ => .object "CipherParameters"
abbrev wsX110 : List Cond := u_ws RX11 TX11 2
theorem nmX11 : ∀ a, a < 2 → ∀ b, b < 2 → a ≠ b → (TX11 a).2.1 ≠ (TX11 b).2.1 := by decide +kernel
theorem tyX11_ok : ∀ k, k < 2 → parseFieldDescriptor (TX11 k).2.2.1 = some (tyX11 k) := by decide +kernel
abbrev cX11_init : ByteArray := prog_23_method_1_code
def yX11_init : MethodName := ⟨RX11, "<init>", "(LCipherParameters;[B)V"⟩
def dkwX11_init_0 : List UInt8 := [42, 43, 44, 3, 44, 190, 183, 0, 1, 177]
abbrev dktX11_init_0 : List UInt8 := dkwX11_init_0 ++ []
theorem dksX11_init_0 : cX11_init.data.toList.drop 0 = dktX11_init_0 := by decide +kernel
theorem dX11_init_0 : decode cX11_init 0 = .ok (.aload_n 0, 1) := dk_42 (dk_at dksX11_init_0 0 rfl rfl)
theorem dX11_init_1 : decode cX11_init 1 = .ok (.aload_n 1, 1) := dk_43 (dk_at dksX11_init_0 1 rfl rfl)
theorem dX11_init_2 : decode cX11_init 2 = .ok (.aload_n 2, 1) := dk_44 (dk_at dksX11_init_0 2 rfl rfl)
theorem dX11_init_3 : decode cX11_init 3 = .ok (.iconst 0, 1) := dk_3 (dk_at dksX11_init_0 3 rfl rfl)
theorem dX11_init_4 : decode cX11_init 4 = .ok (.aload_n 2, 1) := dk_44 (dk_at dksX11_init_0 4 rfl rfl)
theorem dX11_init_5 : decode cX11_init 5 = .ok (.arraylength, 1) := dk_190 (dk_at dksX11_init_0 5 rfl rfl)
theorem dX11_init_6 : decode cX11_init 6 = .ok (.invokespecial 1, 3) := dk_183 0 1 (dk_at dksX11_init_0 6 rfl rfl)
theorem dX11_init_9 : decode cX11_init 9 = .ok (.return_, 1) := dk_177 (dk_at dksX11_init_0 9 rfl rfl)
abbrev cX11_init_2 : ByteArray := prog_23_method_2_code
def yX11_init_2 : MethodName := ⟨RX11, "<init>", "(LCipherParameters;[BII)V"⟩
def dkwX11_init_2_1 : List UInt8 := [21, 4, 184, 0, 20, 177]
abbrev dktX11_init_2_1 : List UInt8 := dkwX11_init_2_1 ++ []
def dkwX11_init_2_0 : List UInt8 := [42, 183, 0, 7, 42, 21, 4, 188, 8, 181, 0, 12, 42, 43, 181, 0, 16, 44, 29, 42, 180, 0, 12, 3]
abbrev dktX11_init_2_0 : List UInt8 := dkwX11_init_2_0 ++ dktX11_init_2_1
theorem dksX11_init_2_0 : cX11_init_2.data.toList.drop 0 = dktX11_init_2_0 := by decide +kernel
theorem dksX11_init_2_1 : cX11_init_2.data.toList.drop 24 = dktX11_init_2_1 := dk_seg dksX11_init_2_0 24 rfl rfl
theorem dX11_init_2_0 : decode cX11_init_2 0 = .ok (.aload_n 0, 1) := dk_42 (dk_at dksX11_init_2_0 0 rfl rfl)
theorem dX11_init_2_1 : decode cX11_init_2 1 = .ok (.invokespecial 7, 3) := dk_183 0 7 (dk_at dksX11_init_2_0 1 rfl rfl)
theorem dX11_init_2_4 : decode cX11_init_2 4 = .ok (.aload_n 0, 1) := dk_42 (dk_at dksX11_init_2_0 4 rfl rfl)
theorem dX11_init_2_5 : decode cX11_init_2 5 = .ok (.iload 4, 2) := dk_21 4 (dk_at dksX11_init_2_0 5 rfl rfl)
theorem dX11_init_2_7 : decode cX11_init_2 7 = .ok (.newarray .byte, 2) := dk_188_8 (dk_at dksX11_init_2_0 7 rfl rfl)
theorem dX11_init_2_9 : decode cX11_init_2 9 = .ok (.putfield 12, 3) := dk_181 0 12 (dk_at dksX11_init_2_0 9 rfl rfl)
theorem dX11_init_2_12 : decode cX11_init_2 12 = .ok (.aload_n 0, 1) := dk_42 (dk_at dksX11_init_2_0 12 rfl rfl)
theorem dX11_init_2_13 : decode cX11_init_2 13 = .ok (.aload_n 1, 1) := dk_43 (dk_at dksX11_init_2_0 13 rfl rfl)
theorem dX11_init_2_14 : decode cX11_init_2 14 = .ok (.putfield 16, 3) := dk_181 0 16 (dk_at dksX11_init_2_0 14 rfl rfl)
theorem dX11_init_2_17 : decode cX11_init_2 17 = .ok (.aload_n 2, 1) := dk_44 (dk_at dksX11_init_2_0 17 rfl rfl)
theorem dX11_init_2_18 : decode cX11_init_2 18 = .ok (.iload_n 3, 1) := dk_29 (dk_at dksX11_init_2_0 18 rfl rfl)
theorem dX11_init_2_19 : decode cX11_init_2 19 = .ok (.aload_n 0, 1) := dk_42 (dk_at dksX11_init_2_0 19 rfl rfl)
theorem dX11_init_2_20 : decode cX11_init_2 20 = .ok (.getfield 12, 3) := dk_180 0 12 (dk_at dksX11_init_2_0 20 rfl rfl)
theorem dX11_init_2_23 : decode cX11_init_2 23 = .ok (.iconst 0, 1) := dk_3 (dk_at dksX11_init_2_0 23 rfl rfl)
theorem dX11_init_2_24 : decode cX11_init_2 24 = .ok (.iload 4, 2) := dk_21 4 (dk_at dksX11_init_2_1 0 rfl rfl)
theorem dX11_init_2_26 : decode cX11_init_2 26 = .ok (.invokestatic 20, 3) := dk_184 0 20 (dk_at dksX11_init_2_1 2 rfl rfl)
theorem dX11_init_2_29 : decode cX11_init_2 29 = .ok (.return_, 1) := dk_177 (dk_at dksX11_init_2_1 5 rfl rfl)
abbrev cX11_getIV : ByteArray := prog_23_method_3_code
def yX11_getIV : MethodName := ⟨RX11, "getIV", "()[B"⟩
theorem dX11_getIV_0 : decode cX11_getIV 0 = .ok (.aload_n 0, 1) := by decide +kernel
theorem dX11_getIV_1 : decode cX11_getIV 1 = .ok (.getfield 12, 3) := by decide +kernel
theorem dX11_getIV_4 : decode cX11_getIV 4 = .ok (.areturn, 1) := by decide +kernel
abbrev cX11_getParameters : ByteArray := prog_23_method_4_code
def yX11_getParameters : MethodName := ⟨RX11, "getParameters", "()LCipherParameters;"⟩
theorem dX11_getParameters_0 : decode cX11_getParameters 0 = .ok (.aload_n 0, 1) := by decide +kernel
theorem dX11_getParameters_1 : decode cX11_getParameters 1 = .ok (.getfield 16, 3) := by decide +kernel
theorem dX11_getParameters_4 : decode cX11_getParameters 4 = .ok (.areturn, 1) := by decide +kernel
theorem q20 : (Jvm.Cond.initialized "ParametersWithIV") ∈ lw_all := lw_g (lw_at lw_m1 11 rfl) rfl
theorem q227 : (Jvm.Cond.instantiable "ParametersWithIV" (2 : Nat)) ∈ lw_all := lw_g (lw_at lw_m1 218 rfl) rfl
theorem q248 : (Jvm.Cond.instanceMethod ({ cls := "ParametersWithIV", name := "<init>", desc := "(LCipherParameters;[B)V" } : Jvm.MethodName)) ∈ lw_all := lw_g (lw_at lw_m1 239 rfl) rfl
theorem q249 : (Jvm.Cond.code ({ cls := "ParametersWithIV", name := "<init>", desc := "(LCipherParameters;[B)V" } : Jvm.MethodName) prog_23_method_1_code (3 : Nat) (Option.none : Option Jvm.ClassFile.FieldType)) ∈ lw_all := lw_g (lw_at lw_m2 0 rfl) rfl
theorem q250 : (Jvm.Cond.methodLink "ParametersWithIV" (1 : Nat) ({ cls := "ParametersWithIV", name := "<init>", desc := "(LCipherParameters;[BII)V" } : Jvm.MethodName)) ∈ lw_all := lw_g (lw_at lw_m2 1 rfl) rfl
theorem q251 : (Jvm.Cond.instanceMethod ({ cls := "ParametersWithIV", name := "<init>", desc := "(LCipherParameters;[BII)V" } : Jvm.MethodName)) ∈ lw_all := lw_g (lw_at lw_m2 2 rfl) rfl
theorem q252 : (Jvm.Cond.code ({ cls := "ParametersWithIV", name := "<init>", desc := "(LCipherParameters;[BII)V" } : Jvm.MethodName) prog_23_method_2_code (5 : Nat) (Option.none : Option Jvm.ClassFile.FieldType)) ∈ lw_all := lw_g (lw_at lw_m2 3 rfl) rfl
theorem q253 : (Jvm.Cond.methodLink "ParametersWithIV" (7 : Nat) ({ cls := "java/lang/Object", name := "<init>", desc := "()V" } : Jvm.MethodName)) ∈ lw_all := lw_g (lw_at lw_m2 4 rfl) rfl
theorem q254 : (Jvm.Cond.methodLink "ParametersWithIV" (20 : Nat) ({ cls := "java/lang/System", name := "arraycopy", desc := "(Ljava/lang/Object;ILjava/lang/Object;II)V" } : Jvm.MethodName)) ∈ lw_all := lw_g (lw_at lw_m2 5 rfl) rfl
theorem q255 : (Jvm.Cond.fieldLink "ParametersWithIV" (12 : Nat) "ParametersWithIV" "iv" "[B") ∈ lw_all := lw_g (lw_at lw_m2 6 rfl) rfl
theorem q256 : (Jvm.Cond.fieldLink "ParametersWithIV" (16 : Nat) "ParametersWithIV" "parameters" "LCipherParameters;") ∈ lw_all := lw_g (lw_at lw_m2 7 rfl) rfl
theorem q257 : (Jvm.Cond.lays "ParametersWithIV" "ParametersWithIV" "iv" "[B") ∈ lw_all := lw_g (lw_at lw_m2 8 rfl) rfl
theorem q258 : (Jvm.Cond.soleField "ParametersWithIV" "iv") ∈ lw_all := lw_g (lw_at lw_m2 9 rfl) rfl
theorem q259 : (Jvm.Cond.lays "ParametersWithIV" "ParametersWithIV" "parameters" "LCipherParameters;") ∈ lw_all := lw_g (lw_at lw_m2 10 rfl) rfl
theorem q260 : (Jvm.Cond.soleField "ParametersWithIV" "parameters") ∈ lw_all := lw_g (lw_at lw_m2 11 rfl) rfl
theorem q261 : (Jvm.Cond.superclass "ParametersWithIV" "java/lang/Object") ∈ lw_all := lw_g (lw_at lw_m2 12 rfl) rfl
theorem q480 : (Jvm.Cond.instanceMethod ({ cls := "ParametersWithIV", name := "getIV", desc := "()[B" } : Jvm.MethodName)) ∈ lw_all := lw_g (lw_at lw_m2 231 rfl) rfl
theorem q481 : (Jvm.Cond.selects "ParametersWithIV" ({ cls := "ParametersWithIV", name := "getIV", desc := "()[B" } : Jvm.MethodName) ({ cls := "ParametersWithIV", name := "getIV", desc := "()[B" } : Jvm.MethodName)) ∈ lw_all := lw_g (lw_at lw_m2 232 rfl) rfl
theorem q482 : (Jvm.Cond.code ({ cls := "ParametersWithIV", name := "getIV", desc := "()[B" } : Jvm.MethodName) prog_23_method_3_code (1 : Nat) (Option.some (Jvm.ClassFile.FieldType.array Jvm.ClassFile.FieldType.byte))) ∈ lw_all := lw_g (lw_at lw_m2 233 rfl) rfl
theorem q487 : (Jvm.Cond.instanceMethod ({ cls := "ParametersWithIV", name := "getParameters", desc := "()LCipherParameters;" } : Jvm.MethodName)) ∈ lw_all := lw_g (lw_at lw_m2 238 rfl) rfl
theorem q488 : (Jvm.Cond.selects "ParametersWithIV" ({ cls := "ParametersWithIV", name := "getParameters", desc := "()LCipherParameters;" } : Jvm.MethodName) ({ cls := "ParametersWithIV", name := "getParameters", desc := "()LCipherParameters;" } : Jvm.MethodName)) ∈ lw_all := lw_g (lw_at lw_m2 239 rfl) rfl
theorem q489 : (Jvm.Cond.code ({ cls := "ParametersWithIV", name := "getParameters", desc := "()LCipherParameters;" } : Jvm.MethodName) prog_23_method_4_code (1 : Nat) (Option.some (Jvm.ClassFile.FieldType.object "CipherParameters"))) ∈ lw_all := lw_g (lw_at lw_m3 0 rfl) rfl
theorem in_X11 : ∀ w ∈ wsX110, w ∈ lw_all := lw_in wsX110 [257, 259] (by decide +kernel) (by decide +kernel)
/-! KeyParameter -/
set_option maxRecDepth 100000
def RX12 : String := "KeyParameter"
def TX12 : u_T := fun k => match k with
  | _ => ("KeyParameter", "key", "[B", false)
def tyX12 : Nat → FieldType := fun k => match k with
  | _ => .array .byte
abbrev wsX120 : List Cond := u_ws RX12 TX12 1
theorem nmX12 : ∀ a, a < 1 → ∀ b, b < 1 → a ≠ b → (TX12 a).2.1 ≠ (TX12 b).2.1 := by decide +kernel
theorem tyX12_ok : ∀ k, k < 1 → parseFieldDescriptor (TX12 k).2.2.1 = some (tyX12 k) := by decide +kernel
abbrev cX12_init : ByteArray := prog_14_method_1_code
def yX12_init : MethodName := ⟨RX12, "<init>", "([B)V"⟩
def dkwX12_init_0 : List UInt8 := [42, 43, 3, 43, 190, 183, 0, 1, 177]
abbrev dktX12_init_0 : List UInt8 := dkwX12_init_0 ++ []
theorem dksX12_init_0 : cX12_init.data.toList.drop 0 = dktX12_init_0 := by decide +kernel
theorem dX12_init_0 : decode cX12_init 0 = .ok (.aload_n 0, 1) := dk_42 (dk_at dksX12_init_0 0 rfl rfl)
theorem dX12_init_1 : decode cX12_init 1 = .ok (.aload_n 1, 1) := dk_43 (dk_at dksX12_init_0 1 rfl rfl)
theorem dX12_init_2 : decode cX12_init 2 = .ok (.iconst 0, 1) := dk_3 (dk_at dksX12_init_0 2 rfl rfl)
theorem dX12_init_3 : decode cX12_init 3 = .ok (.aload_n 1, 1) := dk_43 (dk_at dksX12_init_0 3 rfl rfl)
theorem dX12_init_4 : decode cX12_init 4 = .ok (.arraylength, 1) := dk_190 (dk_at dksX12_init_0 4 rfl rfl)
theorem dX12_init_5 : decode cX12_init 5 = .ok (.invokespecial 1, 3) := dk_183 0 1 (dk_at dksX12_init_0 5 rfl rfl)
theorem dX12_init_8 : decode cX12_init 8 = .ok (.return_, 1) := dk_177 (dk_at dksX12_init_0 8 rfl rfl)
abbrev cX12_init_2 : ByteArray := prog_14_method_2_code
def yX12_init_2 : MethodName := ⟨RX12, "<init>", "([BII)V"⟩
def dkwX12_init_2_0 : List UInt8 := [42, 29, 183, 0, 7, 43, 28, 42, 180, 0, 10, 3, 29, 184, 0, 14, 177]
abbrev dktX12_init_2_0 : List UInt8 := dkwX12_init_2_0 ++ []
theorem dksX12_init_2_0 : cX12_init_2.data.toList.drop 0 = dktX12_init_2_0 := by decide +kernel
theorem dX12_init_2_0 : decode cX12_init_2 0 = .ok (.aload_n 0, 1) := dk_42 (dk_at dksX12_init_2_0 0 rfl rfl)
theorem dX12_init_2_1 : decode cX12_init_2 1 = .ok (.iload_n 3, 1) := dk_29 (dk_at dksX12_init_2_0 1 rfl rfl)
theorem dX12_init_2_2 : decode cX12_init_2 2 = .ok (.invokespecial 7, 3) := dk_183 0 7 (dk_at dksX12_init_2_0 2 rfl rfl)
theorem dX12_init_2_5 : decode cX12_init_2 5 = .ok (.aload_n 1, 1) := dk_43 (dk_at dksX12_init_2_0 5 rfl rfl)
theorem dX12_init_2_6 : decode cX12_init_2 6 = .ok (.iload_n 2, 1) := dk_28 (dk_at dksX12_init_2_0 6 rfl rfl)
theorem dX12_init_2_7 : decode cX12_init_2 7 = .ok (.aload_n 0, 1) := dk_42 (dk_at dksX12_init_2_0 7 rfl rfl)
theorem dX12_init_2_8 : decode cX12_init_2 8 = .ok (.getfield 10, 3) := dk_180 0 10 (dk_at dksX12_init_2_0 8 rfl rfl)
theorem dX12_init_2_11 : decode cX12_init_2 11 = .ok (.iconst 0, 1) := dk_3 (dk_at dksX12_init_2_0 11 rfl rfl)
theorem dX12_init_2_12 : decode cX12_init_2 12 = .ok (.iload_n 3, 1) := dk_29 (dk_at dksX12_init_2_0 12 rfl rfl)
theorem dX12_init_2_13 : decode cX12_init_2 13 = .ok (.invokestatic 14, 3) := dk_184 0 14 (dk_at dksX12_init_2_0 13 rfl rfl)
theorem dX12_init_2_16 : decode cX12_init_2 16 = .ok (.return_, 1) := dk_177 (dk_at dksX12_init_2_0 16 rfl rfl)
abbrev cX12_init_3 : ByteArray := prog_14_method_3_code
def yX12_init_3 : MethodName := ⟨RX12, "<init>", "(I)V"⟩
def dkwX12_init_3_0 : List UInt8 := [42, 183, 0, 20, 42, 27, 188, 8, 181, 0, 10, 177]
abbrev dktX12_init_3_0 : List UInt8 := dkwX12_init_3_0 ++ []
theorem dksX12_init_3_0 : cX12_init_3.data.toList.drop 0 = dktX12_init_3_0 := by decide +kernel
theorem dX12_init_3_0 : decode cX12_init_3 0 = .ok (.aload_n 0, 1) := dk_42 (dk_at dksX12_init_3_0 0 rfl rfl)
theorem dX12_init_3_1 : decode cX12_init_3 1 = .ok (.invokespecial 20, 3) := dk_183 0 20 (dk_at dksX12_init_3_0 1 rfl rfl)
theorem dX12_init_3_4 : decode cX12_init_3 4 = .ok (.aload_n 0, 1) := dk_42 (dk_at dksX12_init_3_0 4 rfl rfl)
theorem dX12_init_3_5 : decode cX12_init_3 5 = .ok (.iload_n 1, 1) := dk_27 (dk_at dksX12_init_3_0 5 rfl rfl)
theorem dX12_init_3_6 : decode cX12_init_3 6 = .ok (.newarray .byte, 2) := dk_188_8 (dk_at dksX12_init_3_0 6 rfl rfl)
theorem dX12_init_3_8 : decode cX12_init_3 8 = .ok (.putfield 10, 3) := dk_181 0 10 (dk_at dksX12_init_3_0 8 rfl rfl)
theorem dX12_init_3_11 : decode cX12_init_3 11 = .ok (.return_, 1) := dk_177 (dk_at dksX12_init_3_0 11 rfl rfl)
abbrev cX12_getKey : ByteArray := prog_14_method_4_code
def yX12_getKey : MethodName := ⟨RX12, "getKey", "()[B"⟩
theorem dX12_getKey_0 : decode cX12_getKey 0 = .ok (.aload_n 0, 1) := by decide +kernel
theorem dX12_getKey_1 : decode cX12_getKey 1 = .ok (.getfield 10, 3) := by decide +kernel
theorem dX12_getKey_4 : decode cX12_getKey 4 = .ok (.areturn, 1) := by decide +kernel
theorem q21 : (Jvm.Cond.initialized "KeyParameter") ∈ lw_all := lw_g (lw_at lw_m1 12 rfl) rfl
theorem q229 : (Jvm.Cond.instantiable "KeyParameter" (1 : Nat)) ∈ lw_all := lw_g (lw_at lw_m1 220 rfl) rfl
theorem q231 : (Jvm.Cond.instanceMethod ({ cls := "KeyParameter", name := "<init>", desc := "([B)V" } : Jvm.MethodName)) ∈ lw_all := lw_g (lw_at lw_m1 222 rfl) rfl
theorem q232 : (Jvm.Cond.code ({ cls := "KeyParameter", name := "<init>", desc := "([B)V" } : Jvm.MethodName) prog_14_method_1_code (2 : Nat) (Option.none : Option Jvm.ClassFile.FieldType)) ∈ lw_all := lw_g (lw_at lw_m1 223 rfl) rfl
theorem q233 : (Jvm.Cond.methodLink "KeyParameter" (1 : Nat) ({ cls := "KeyParameter", name := "<init>", desc := "([BII)V" } : Jvm.MethodName)) ∈ lw_all := lw_g (lw_at lw_m1 224 rfl) rfl
theorem q234 : (Jvm.Cond.instanceMethod ({ cls := "KeyParameter", name := "<init>", desc := "([BII)V" } : Jvm.MethodName)) ∈ lw_all := lw_g (lw_at lw_m1 225 rfl) rfl
theorem q235 : (Jvm.Cond.code ({ cls := "KeyParameter", name := "<init>", desc := "([BII)V" } : Jvm.MethodName) prog_14_method_2_code (4 : Nat) (Option.none : Option Jvm.ClassFile.FieldType)) ∈ lw_all := lw_g (lw_at lw_m1 226 rfl) rfl
theorem q236 : (Jvm.Cond.methodLink "KeyParameter" (7 : Nat) ({ cls := "KeyParameter", name := "<init>", desc := "(I)V" } : Jvm.MethodName)) ∈ lw_all := lw_g (lw_at lw_m1 227 rfl) rfl
theorem q237 : (Jvm.Cond.instanceMethod ({ cls := "KeyParameter", name := "<init>", desc := "(I)V" } : Jvm.MethodName)) ∈ lw_all := lw_g (lw_at lw_m1 228 rfl) rfl
theorem q238 : (Jvm.Cond.code ({ cls := "KeyParameter", name := "<init>", desc := "(I)V" } : Jvm.MethodName) prog_14_method_3_code (2 : Nat) (Option.none : Option Jvm.ClassFile.FieldType)) ∈ lw_all := lw_g (lw_at lw_m1 229 rfl) rfl
theorem q239 : (Jvm.Cond.methodLink "KeyParameter" (20 : Nat) ({ cls := "java/lang/Object", name := "<init>", desc := "()V" } : Jvm.MethodName)) ∈ lw_all := lw_g (lw_at lw_m1 230 rfl) rfl
theorem q240 : (Jvm.Cond.fieldLink "KeyParameter" (10 : Nat) "KeyParameter" "key" "[B") ∈ lw_all := lw_g (lw_at lw_m1 231 rfl) rfl
theorem q241 : (Jvm.Cond.lays "KeyParameter" "KeyParameter" "key" "[B") ∈ lw_all := lw_g (lw_at lw_m1 232 rfl) rfl
theorem q242 : (Jvm.Cond.soleField "KeyParameter" "key") ∈ lw_all := lw_g (lw_at lw_m1 233 rfl) rfl
theorem q243 : (Jvm.Cond.superclass "KeyParameter" "java/lang/Object") ∈ lw_all := lw_g (lw_at lw_m1 234 rfl) rfl
theorem q244 : (Jvm.Cond.methodLink "KeyParameter" (14 : Nat) ({ cls := "java/lang/System", name := "arraycopy", desc := "(Ljava/lang/Object;ILjava/lang/Object;II)V" } : Jvm.MethodName)) ∈ lw_all := lw_g (lw_at lw_m1 235 rfl) rfl
theorem q406 : (Jvm.Cond.instanceMethod ({ cls := "KeyParameter", name := "getKey", desc := "()[B" } : Jvm.MethodName)) ∈ lw_all := lw_g (lw_at lw_m2 157 rfl) rfl
theorem q407 : (Jvm.Cond.selects "KeyParameter" ({ cls := "KeyParameter", name := "getKey", desc := "()[B" } : Jvm.MethodName) ({ cls := "KeyParameter", name := "getKey", desc := "()[B" } : Jvm.MethodName)) ∈ lw_all := lw_g (lw_at lw_m2 158 rfl) rfl
theorem q408 : (Jvm.Cond.code ({ cls := "KeyParameter", name := "getKey", desc := "()[B" } : Jvm.MethodName) prog_14_method_4_code (1 : Nat) (Option.some (Jvm.ClassFile.FieldType.array Jvm.ClassFile.FieldType.byte))) ∈ lw_all := lw_g (lw_at lw_m2 159 rfl) rfl
theorem in_X12 : ∀ w ∈ wsX120, w ∈ lw_all := lw_in wsX120 [241] (by decide +kernel) (by decide +kernel)
/-! OwnArrays -/
set_option maxRecDepth 100000
def RX13 : String := "OwnArrays"
abbrev cX13_fill : ByteArray := prog_17_method_1_code
def yX13_fill : MethodName := ⟨RX13, "fill", "([BB)V"⟩
def dkwX13_fill_0 : List UInt8 := [42, 27, 184, 0, 1, 177]
abbrev dktX13_fill_0 : List UInt8 := dkwX13_fill_0 ++ []
theorem dksX13_fill_0 : cX13_fill.data.toList.drop 0 = dktX13_fill_0 := by decide +kernel
theorem dX13_fill_0 : decode cX13_fill 0 = .ok (.aload_n 0, 1) := dk_42 (dk_at dksX13_fill_0 0 rfl rfl)
theorem dX13_fill_1 : decode cX13_fill 1 = .ok (.iload_n 1, 1) := dk_27 (dk_at dksX13_fill_0 1 rfl rfl)
theorem dX13_fill_2 : decode cX13_fill 2 = .ok (.invokestatic 1, 3) := dk_184 0 1 (dk_at dksX13_fill_0 2 rfl rfl)
theorem dX13_fill_5 : decode cX13_fill 5 = .ok (.return_, 1) := dk_177 (dk_at dksX13_fill_0 5 rfl rfl)
abbrev cX13_clone : ByteArray := prog_17_method_2_code
def yX13_clone : MethodName := ⟨RX13, "clone", "([B)[B"⟩
def dkwX13_clone_0 : List UInt8 := [1, 42, 166, 0, 7, 1, 167, 0, 10, 42, 182, 0, 7, 192, 0, 8, 176]
abbrev dktX13_clone_0 : List UInt8 := dkwX13_clone_0 ++ []
theorem dksX13_clone_0 : cX13_clone.data.toList.drop 0 = dktX13_clone_0 := by decide +kernel
theorem dX13_clone_0 : decode cX13_clone 0 = .ok (.aconst_null, 1) := dk_1 (dk_at dksX13_clone_0 0 rfl rfl)
theorem dX13_clone_1 : decode cX13_clone 1 = .ok (.aload_n 0, 1) := dk_42 (dk_at dksX13_clone_0 1 rfl rfl)
theorem dX13_clone_2 : decode cX13_clone 2 = .ok (.if_acmp .ne 7, 3) := dk_166 0 7 (dk_at dksX13_clone_0 2 rfl rfl)
theorem dX13_clone_5 : decode cX13_clone 5 = .ok (.aconst_null, 1) := dk_1 (dk_at dksX13_clone_0 5 rfl rfl)
theorem dX13_clone_6 : decode cX13_clone 6 = .ok (.goto 10, 3) := dk_167 0 10 (dk_at dksX13_clone_0 6 rfl rfl)
theorem dX13_clone_9 : decode cX13_clone 9 = .ok (.aload_n 0, 1) := dk_42 (dk_at dksX13_clone_0 9 rfl rfl)
theorem dX13_clone_10 : decode cX13_clone 10 = .ok (.invokevirtual 7, 3) := dk_182 0 7 (dk_at dksX13_clone_0 10 rfl rfl)
theorem dX13_clone_13 : decode cX13_clone 13 = .ok (.checkcast 8, 3) := dk_192 0 8 (dk_at dksX13_clone_0 13 rfl rfl)
theorem dX13_clone_16 : decode cX13_clone 16 = .ok (.areturn, 1) := dk_176 (dk_at dksX13_clone_0 16 rfl rfl)
abbrev cX13_segmentsOverlap : ByteArray := prog_17_method_3_code
def yX13_segmentsOverlap : MethodName := ⟨RX13, "segmentsOverlap", "(IIII)Z"⟩
def dkwX13_segmentsOverlap_1 : List UInt8 := [167, 0, 4, 3, 172]
abbrev dktX13_segmentsOverlap_1 : List UInt8 := dkwX13_segmentsOverlap_1 ++ []
def dkwX13_segmentsOverlap_0 : List UInt8 := [27, 158, 0, 25, 29, 158, 0, 21, 26, 28, 100, 29, 162, 0, 14, 28, 26, 100, 27, 162, 0, 7, 4]
abbrev dktX13_segmentsOverlap_0 : List UInt8 := dkwX13_segmentsOverlap_0 ++ dktX13_segmentsOverlap_1
theorem dksX13_segmentsOverlap_0 : cX13_segmentsOverlap.data.toList.drop 0 = dktX13_segmentsOverlap_0 := by decide +kernel
theorem dksX13_segmentsOverlap_1 : cX13_segmentsOverlap.data.toList.drop 23 = dktX13_segmentsOverlap_1 := dk_seg dksX13_segmentsOverlap_0 23 rfl rfl
theorem dX13_segmentsOverlap_0 : decode cX13_segmentsOverlap 0 = .ok (.iload_n 1, 1) := dk_27 (dk_at dksX13_segmentsOverlap_0 0 rfl rfl)
theorem dX13_segmentsOverlap_1 : decode cX13_segmentsOverlap 1 = .ok (.ifCond .le 25, 3) := dk_158 0 25 (dk_at dksX13_segmentsOverlap_0 1 rfl rfl)
theorem dX13_segmentsOverlap_4 : decode cX13_segmentsOverlap 4 = .ok (.iload_n 3, 1) := dk_29 (dk_at dksX13_segmentsOverlap_0 4 rfl rfl)
theorem dX13_segmentsOverlap_5 : decode cX13_segmentsOverlap 5 = .ok (.ifCond .le 21, 3) := dk_158 0 21 (dk_at dksX13_segmentsOverlap_0 5 rfl rfl)
theorem dX13_segmentsOverlap_8 : decode cX13_segmentsOverlap 8 = .ok (.iload_n 0, 1) := dk_26 (dk_at dksX13_segmentsOverlap_0 8 rfl rfl)
theorem dX13_segmentsOverlap_9 : decode cX13_segmentsOverlap 9 = .ok (.iload_n 2, 1) := dk_28 (dk_at dksX13_segmentsOverlap_0 9 rfl rfl)
theorem dX13_segmentsOverlap_10 : decode cX13_segmentsOverlap 10 = .ok (.isub, 1) := dk_100 (dk_at dksX13_segmentsOverlap_0 10 rfl rfl)
theorem dX13_segmentsOverlap_11 : decode cX13_segmentsOverlap 11 = .ok (.iload_n 3, 1) := dk_29 (dk_at dksX13_segmentsOverlap_0 11 rfl rfl)
theorem dX13_segmentsOverlap_12 : decode cX13_segmentsOverlap 12 = .ok (.if_icmp .ge 14, 3) := dk_162 0 14 (dk_at dksX13_segmentsOverlap_0 12 rfl rfl)
theorem dX13_segmentsOverlap_15 : decode cX13_segmentsOverlap 15 = .ok (.iload_n 2, 1) := dk_28 (dk_at dksX13_segmentsOverlap_0 15 rfl rfl)
theorem dX13_segmentsOverlap_16 : decode cX13_segmentsOverlap 16 = .ok (.iload_n 0, 1) := dk_26 (dk_at dksX13_segmentsOverlap_0 16 rfl rfl)
theorem dX13_segmentsOverlap_17 : decode cX13_segmentsOverlap 17 = .ok (.isub, 1) := dk_100 (dk_at dksX13_segmentsOverlap_0 17 rfl rfl)
theorem dX13_segmentsOverlap_18 : decode cX13_segmentsOverlap 18 = .ok (.iload_n 1, 1) := dk_27 (dk_at dksX13_segmentsOverlap_0 18 rfl rfl)
theorem dX13_segmentsOverlap_19 : decode cX13_segmentsOverlap 19 = .ok (.if_icmp .ge 7, 3) := dk_162 0 7 (dk_at dksX13_segmentsOverlap_0 19 rfl rfl)
theorem dX13_segmentsOverlap_22 : decode cX13_segmentsOverlap 22 = .ok (.iconst 1, 1) := dk_4 (dk_at dksX13_segmentsOverlap_0 22 rfl rfl)
theorem dX13_segmentsOverlap_23 : decode cX13_segmentsOverlap 23 = .ok (.goto 4, 3) := dk_167 0 4 (dk_at dksX13_segmentsOverlap_1 0 rfl rfl)
theorem dX13_segmentsOverlap_26 : decode cX13_segmentsOverlap 26 = .ok (.iconst 0, 1) := dk_3 (dk_at dksX13_segmentsOverlap_1 3 rfl rfl)
theorem dX13_segmentsOverlap_27 : decode cX13_segmentsOverlap 27 = .ok (.ireturn, 1) := dk_172 (dk_at dksX13_segmentsOverlap_1 4 rfl rfl)
theorem q23 : (Jvm.Cond.initialized "OwnArrays") ∈ lw_all := lw_g (lw_at lw_m1 14 rfl) rfl
theorem q288 : (Jvm.Cond.static ({ cls := "OwnArrays", name := "fill", desc := "([BB)V" } : Jvm.MethodName)) ∈ lw_all := lw_g (lw_at lw_m2 39 rfl) rfl
theorem q289 : (Jvm.Cond.code ({ cls := "OwnArrays", name := "fill", desc := "([BB)V" } : Jvm.MethodName) prog_17_method_1_code (2 : Nat) (Option.none : Option Jvm.ClassFile.FieldType)) ∈ lw_all := lw_g (lw_at lw_m2 40 rfl) rfl
theorem q290 : (Jvm.Cond.methodLink "OwnArrays" (1 : Nat) ({ cls := "java/util/Arrays", name := "fill", desc := "([BB)V" } : Jvm.MethodName)) ∈ lw_all := lw_g (lw_at lw_m2 41 rfl) rfl
theorem q461 : (Jvm.Cond.static ({ cls := "OwnArrays", name := "clone", desc := "([B)[B" } : Jvm.MethodName)) ∈ lw_all := lw_g (lw_at lw_m2 212 rfl) rfl
theorem q462 : (Jvm.Cond.code ({ cls := "OwnArrays", name := "clone", desc := "([B)[B" } : Jvm.MethodName) prog_17_method_2_code (1 : Nat) (Option.some (Jvm.ClassFile.FieldType.array Jvm.ClassFile.FieldType.byte))) ∈ lw_all := lw_g (lw_at lw_m2 213 rfl) rfl
theorem q463 : (Jvm.Cond.methodLink "OwnArrays" (7 : Nat) ({ cls := "[B", name := "clone", desc := "()Ljava/lang/Object;" } : Jvm.MethodName)) ∈ lw_all := lw_g (lw_at lw_m2 214 rfl) rfl
theorem q469 : (Jvm.Cond.classLink "OwnArrays" (8 : Nat) "[B") ∈ lw_all := lw_g (lw_at lw_m2 220 rfl) rfl
theorem q547 : (Jvm.Cond.static ({ cls := "OwnArrays", name := "segmentsOverlap", desc := "(IIII)Z" } : Jvm.MethodName)) ∈ lw_all := lw_g (lw_at lw_m3 58 rfl) rfl
theorem q548 : (Jvm.Cond.code ({ cls := "OwnArrays", name := "segmentsOverlap", desc := "(IIII)Z" } : Jvm.MethodName) prog_17_method_3_code (4 : Nat) (Option.some Jvm.ClassFile.FieldType.boolean)) ∈ lw_all := lw_g (lw_at lw_m3 59 rfl) rfl
/-! Pack -/
set_option maxRecDepth 100000
def RX14 : String := "Pack"
abbrev cX14_littleEndianToInt : ByteArray := prog_19_method_2_code
def yX14_littleEndianToInt : MethodName := ⟨RX14, "littleEndianToInt", "([BI)I"⟩
def dkwX14_littleEndianToInt_2 : List UInt8 := [16, 24, 120, 128, 61, 28, 172]
abbrev dktX14_littleEndianToInt_2 : List UInt8 := dkwX14_littleEndianToInt_2 ++ []
def dkwX14_littleEndianToInt_1 : List UInt8 := [28, 42, 132, 1, 1, 27, 51, 17, 0, 255, 126, 16, 16, 120, 128, 61, 28, 42, 132, 1, 1, 27, 51]
abbrev dktX14_littleEndianToInt_1 : List UInt8 := dkwX14_littleEndianToInt_1 ++ dktX14_littleEndianToInt_2
def dkwX14_littleEndianToInt_0 : List UInt8 := [42, 27, 51, 17, 0, 255, 126, 61, 28, 42, 132, 1, 1, 27, 51, 17, 0, 255, 126, 16, 8, 120, 128, 61]
abbrev dktX14_littleEndianToInt_0 : List UInt8 := dkwX14_littleEndianToInt_0 ++ dktX14_littleEndianToInt_1
theorem dksX14_littleEndianToInt_0 : cX14_littleEndianToInt.data.toList.drop 0 = dktX14_littleEndianToInt_0 := by decide +kernel
theorem dksX14_littleEndianToInt_1 : cX14_littleEndianToInt.data.toList.drop 24 = dktX14_littleEndianToInt_1 := dk_seg dksX14_littleEndianToInt_0 24 rfl rfl
theorem dksX14_littleEndianToInt_2 : cX14_littleEndianToInt.data.toList.drop 47 = dktX14_littleEndianToInt_2 := dk_seg dksX14_littleEndianToInt_1 23 rfl rfl
theorem dX14_littleEndianToInt_0 : decode cX14_littleEndianToInt 0 = .ok (.aload_n 0, 1) := dk_42 (dk_at dksX14_littleEndianToInt_0 0 rfl rfl)
theorem dX14_littleEndianToInt_1 : decode cX14_littleEndianToInt 1 = .ok (.iload_n 1, 1) := dk_27 (dk_at dksX14_littleEndianToInt_0 1 rfl rfl)
theorem dX14_littleEndianToInt_2 : decode cX14_littleEndianToInt 2 = .ok (.baload, 1) := dk_51 (dk_at dksX14_littleEndianToInt_0 2 rfl rfl)
theorem dX14_littleEndianToInt_3 : decode cX14_littleEndianToInt 3 = .ok (.sipush 255, 3) := dk_17 0 255 (dk_at dksX14_littleEndianToInt_0 3 rfl rfl)
theorem dX14_littleEndianToInt_6 : decode cX14_littleEndianToInt 6 = .ok (.iand, 1) := dk_126 (dk_at dksX14_littleEndianToInt_0 6 rfl rfl)
theorem dX14_littleEndianToInt_7 : decode cX14_littleEndianToInt 7 = .ok (.istore_n 2, 1) := dk_61 (dk_at dksX14_littleEndianToInt_0 7 rfl rfl)
theorem dX14_littleEndianToInt_8 : decode cX14_littleEndianToInt 8 = .ok (.iload_n 2, 1) := dk_28 (dk_at dksX14_littleEndianToInt_0 8 rfl rfl)
theorem dX14_littleEndianToInt_9 : decode cX14_littleEndianToInt 9 = .ok (.aload_n 0, 1) := dk_42 (dk_at dksX14_littleEndianToInt_0 9 rfl rfl)
theorem dX14_littleEndianToInt_10 : decode cX14_littleEndianToInt 10 = .ok (.iinc 1 1, 3) := dk_132 1 1 (dk_at dksX14_littleEndianToInt_0 10 rfl rfl)
theorem dX14_littleEndianToInt_13 : decode cX14_littleEndianToInt 13 = .ok (.iload_n 1, 1) := dk_27 (dk_at dksX14_littleEndianToInt_0 13 rfl rfl)
theorem dX14_littleEndianToInt_14 : decode cX14_littleEndianToInt 14 = .ok (.baload, 1) := dk_51 (dk_at dksX14_littleEndianToInt_0 14 rfl rfl)
theorem dX14_littleEndianToInt_15 : decode cX14_littleEndianToInt 15 = .ok (.sipush 255, 3) := dk_17 0 255 (dk_at dksX14_littleEndianToInt_0 15 rfl rfl)
theorem dX14_littleEndianToInt_18 : decode cX14_littleEndianToInt 18 = .ok (.iand, 1) := dk_126 (dk_at dksX14_littleEndianToInt_0 18 rfl rfl)
theorem dX14_littleEndianToInt_19 : decode cX14_littleEndianToInt 19 = .ok (.bipush 8, 2) := dk_16 8 (dk_at dksX14_littleEndianToInt_0 19 rfl rfl)
theorem dX14_littleEndianToInt_21 : decode cX14_littleEndianToInt 21 = .ok (.ishl, 1) := dk_120 (dk_at dksX14_littleEndianToInt_0 21 rfl rfl)
theorem dX14_littleEndianToInt_22 : decode cX14_littleEndianToInt 22 = .ok (.ior, 1) := dk_128 (dk_at dksX14_littleEndianToInt_0 22 rfl rfl)
theorem dX14_littleEndianToInt_23 : decode cX14_littleEndianToInt 23 = .ok (.istore_n 2, 1) := dk_61 (dk_at dksX14_littleEndianToInt_0 23 rfl rfl)
theorem dX14_littleEndianToInt_24 : decode cX14_littleEndianToInt 24 = .ok (.iload_n 2, 1) := dk_28 (dk_at dksX14_littleEndianToInt_1 0 rfl rfl)
theorem dX14_littleEndianToInt_25 : decode cX14_littleEndianToInt 25 = .ok (.aload_n 0, 1) := dk_42 (dk_at dksX14_littleEndianToInt_1 1 rfl rfl)
theorem dX14_littleEndianToInt_26 : decode cX14_littleEndianToInt 26 = .ok (.iinc 1 1, 3) := dk_132 1 1 (dk_at dksX14_littleEndianToInt_1 2 rfl rfl)
theorem dX14_littleEndianToInt_29 : decode cX14_littleEndianToInt 29 = .ok (.iload_n 1, 1) := dk_27 (dk_at dksX14_littleEndianToInt_1 5 rfl rfl)
theorem dX14_littleEndianToInt_30 : decode cX14_littleEndianToInt 30 = .ok (.baload, 1) := dk_51 (dk_at dksX14_littleEndianToInt_1 6 rfl rfl)
theorem dX14_littleEndianToInt_31 : decode cX14_littleEndianToInt 31 = .ok (.sipush 255, 3) := dk_17 0 255 (dk_at dksX14_littleEndianToInt_1 7 rfl rfl)
theorem dX14_littleEndianToInt_34 : decode cX14_littleEndianToInt 34 = .ok (.iand, 1) := dk_126 (dk_at dksX14_littleEndianToInt_1 10 rfl rfl)
theorem dX14_littleEndianToInt_35 : decode cX14_littleEndianToInt 35 = .ok (.bipush 16, 2) := dk_16 16 (dk_at dksX14_littleEndianToInt_1 11 rfl rfl)
theorem dX14_littleEndianToInt_37 : decode cX14_littleEndianToInt 37 = .ok (.ishl, 1) := dk_120 (dk_at dksX14_littleEndianToInt_1 13 rfl rfl)
theorem dX14_littleEndianToInt_38 : decode cX14_littleEndianToInt 38 = .ok (.ior, 1) := dk_128 (dk_at dksX14_littleEndianToInt_1 14 rfl rfl)
theorem dX14_littleEndianToInt_39 : decode cX14_littleEndianToInt 39 = .ok (.istore_n 2, 1) := dk_61 (dk_at dksX14_littleEndianToInt_1 15 rfl rfl)
theorem dX14_littleEndianToInt_40 : decode cX14_littleEndianToInt 40 = .ok (.iload_n 2, 1) := dk_28 (dk_at dksX14_littleEndianToInt_1 16 rfl rfl)
theorem dX14_littleEndianToInt_41 : decode cX14_littleEndianToInt 41 = .ok (.aload_n 0, 1) := dk_42 (dk_at dksX14_littleEndianToInt_1 17 rfl rfl)
theorem dX14_littleEndianToInt_42 : decode cX14_littleEndianToInt 42 = .ok (.iinc 1 1, 3) := dk_132 1 1 (dk_at dksX14_littleEndianToInt_1 18 rfl rfl)
theorem dX14_littleEndianToInt_45 : decode cX14_littleEndianToInt 45 = .ok (.iload_n 1, 1) := dk_27 (dk_at dksX14_littleEndianToInt_1 21 rfl rfl)
theorem dX14_littleEndianToInt_46 : decode cX14_littleEndianToInt 46 = .ok (.baload, 1) := dk_51 (dk_at dksX14_littleEndianToInt_1 22 rfl rfl)
theorem dX14_littleEndianToInt_47 : decode cX14_littleEndianToInt 47 = .ok (.bipush 24, 2) := dk_16 24 (dk_at dksX14_littleEndianToInt_2 0 rfl rfl)
theorem dX14_littleEndianToInt_49 : decode cX14_littleEndianToInt 49 = .ok (.ishl, 1) := dk_120 (dk_at dksX14_littleEndianToInt_2 2 rfl rfl)
theorem dX14_littleEndianToInt_50 : decode cX14_littleEndianToInt 50 = .ok (.ior, 1) := dk_128 (dk_at dksX14_littleEndianToInt_2 3 rfl rfl)
theorem dX14_littleEndianToInt_51 : decode cX14_littleEndianToInt 51 = .ok (.istore_n 2, 1) := dk_61 (dk_at dksX14_littleEndianToInt_2 4 rfl rfl)
theorem dX14_littleEndianToInt_52 : decode cX14_littleEndianToInt 52 = .ok (.iload_n 2, 1) := dk_28 (dk_at dksX14_littleEndianToInt_2 5 rfl rfl)
theorem dX14_littleEndianToInt_53 : decode cX14_littleEndianToInt 53 = .ok (.ireturn, 1) := dk_172 (dk_at dksX14_littleEndianToInt_2 6 rfl rfl)
abbrev cX14_intToLittleEndian : ByteArray := prog_19_method_3_code
def yX14_intToLittleEndian : MethodName := ⟨RX14, "intToLittleEndian", "(I[BI)V"⟩
def dkwX14_intToLittleEndian_1 : List UInt8 := [124, 145, 84, 43, 132, 2, 1, 28, 26, 16, 24, 124, 145, 84, 177]
abbrev dktX14_intToLittleEndian_1 : List UInt8 := dkwX14_intToLittleEndian_1 ++ []
def dkwX14_intToLittleEndian_0 : List UInt8 := [43, 28, 26, 145, 84, 43, 132, 2, 1, 28, 26, 16, 8, 124, 145, 84, 43, 132, 2, 1, 28, 26, 16, 16]
abbrev dktX14_intToLittleEndian_0 : List UInt8 := dkwX14_intToLittleEndian_0 ++ dktX14_intToLittleEndian_1
theorem dksX14_intToLittleEndian_0 : cX14_intToLittleEndian.data.toList.drop 0 = dktX14_intToLittleEndian_0 := by decide +kernel
theorem dksX14_intToLittleEndian_1 : cX14_intToLittleEndian.data.toList.drop 24 = dktX14_intToLittleEndian_1 := dk_seg dksX14_intToLittleEndian_0 24 rfl rfl
theorem dX14_intToLittleEndian_0 : decode cX14_intToLittleEndian 0 = .ok (.aload_n 1, 1) := dk_43 (dk_at dksX14_intToLittleEndian_0 0 rfl rfl)
theorem dX14_intToLittleEndian_1 : decode cX14_intToLittleEndian 1 = .ok (.iload_n 2, 1) := dk_28 (dk_at dksX14_intToLittleEndian_0 1 rfl rfl)
theorem dX14_intToLittleEndian_2 : decode cX14_intToLittleEndian 2 = .ok (.iload_n 0, 1) := dk_26 (dk_at dksX14_intToLittleEndian_0 2 rfl rfl)
theorem dX14_intToLittleEndian_3 : decode cX14_intToLittleEndian 3 = .ok (.i2b, 1) := dk_145 (dk_at dksX14_intToLittleEndian_0 3 rfl rfl)
theorem dX14_intToLittleEndian_4 : decode cX14_intToLittleEndian 4 = .ok (.bastore, 1) := dk_84 (dk_at dksX14_intToLittleEndian_0 4 rfl rfl)
theorem dX14_intToLittleEndian_5 : decode cX14_intToLittleEndian 5 = .ok (.aload_n 1, 1) := dk_43 (dk_at dksX14_intToLittleEndian_0 5 rfl rfl)
theorem dX14_intToLittleEndian_6 : decode cX14_intToLittleEndian 6 = .ok (.iinc 2 1, 3) := dk_132 2 1 (dk_at dksX14_intToLittleEndian_0 6 rfl rfl)
theorem dX14_intToLittleEndian_9 : decode cX14_intToLittleEndian 9 = .ok (.iload_n 2, 1) := dk_28 (dk_at dksX14_intToLittleEndian_0 9 rfl rfl)
theorem dX14_intToLittleEndian_10 : decode cX14_intToLittleEndian 10 = .ok (.iload_n 0, 1) := dk_26 (dk_at dksX14_intToLittleEndian_0 10 rfl rfl)
theorem dX14_intToLittleEndian_11 : decode cX14_intToLittleEndian 11 = .ok (.bipush 8, 2) := dk_16 8 (dk_at dksX14_intToLittleEndian_0 11 rfl rfl)
theorem dX14_intToLittleEndian_13 : decode cX14_intToLittleEndian 13 = .ok (.iushr, 1) := dk_124 (dk_at dksX14_intToLittleEndian_0 13 rfl rfl)
theorem dX14_intToLittleEndian_14 : decode cX14_intToLittleEndian 14 = .ok (.i2b, 1) := dk_145 (dk_at dksX14_intToLittleEndian_0 14 rfl rfl)
theorem dX14_intToLittleEndian_15 : decode cX14_intToLittleEndian 15 = .ok (.bastore, 1) := dk_84 (dk_at dksX14_intToLittleEndian_0 15 rfl rfl)
theorem dX14_intToLittleEndian_16 : decode cX14_intToLittleEndian 16 = .ok (.aload_n 1, 1) := dk_43 (dk_at dksX14_intToLittleEndian_0 16 rfl rfl)
theorem dX14_intToLittleEndian_17 : decode cX14_intToLittleEndian 17 = .ok (.iinc 2 1, 3) := dk_132 2 1 (dk_at dksX14_intToLittleEndian_0 17 rfl rfl)
theorem dX14_intToLittleEndian_20 : decode cX14_intToLittleEndian 20 = .ok (.iload_n 2, 1) := dk_28 (dk_at dksX14_intToLittleEndian_0 20 rfl rfl)
theorem dX14_intToLittleEndian_21 : decode cX14_intToLittleEndian 21 = .ok (.iload_n 0, 1) := dk_26 (dk_at dksX14_intToLittleEndian_0 21 rfl rfl)
theorem dX14_intToLittleEndian_22 : decode cX14_intToLittleEndian 22 = .ok (.bipush 16, 2) := dk_16 16 (dk_at dksX14_intToLittleEndian_0 22 rfl rfl)
theorem dX14_intToLittleEndian_24 : decode cX14_intToLittleEndian 24 = .ok (.iushr, 1) := dk_124 (dk_at dksX14_intToLittleEndian_1 0 rfl rfl)
theorem dX14_intToLittleEndian_25 : decode cX14_intToLittleEndian 25 = .ok (.i2b, 1) := dk_145 (dk_at dksX14_intToLittleEndian_1 1 rfl rfl)
theorem dX14_intToLittleEndian_26 : decode cX14_intToLittleEndian 26 = .ok (.bastore, 1) := dk_84 (dk_at dksX14_intToLittleEndian_1 2 rfl rfl)
theorem dX14_intToLittleEndian_27 : decode cX14_intToLittleEndian 27 = .ok (.aload_n 1, 1) := dk_43 (dk_at dksX14_intToLittleEndian_1 3 rfl rfl)
theorem dX14_intToLittleEndian_28 : decode cX14_intToLittleEndian 28 = .ok (.iinc 2 1, 3) := dk_132 2 1 (dk_at dksX14_intToLittleEndian_1 4 rfl rfl)
theorem dX14_intToLittleEndian_31 : decode cX14_intToLittleEndian 31 = .ok (.iload_n 2, 1) := dk_28 (dk_at dksX14_intToLittleEndian_1 7 rfl rfl)
theorem dX14_intToLittleEndian_32 : decode cX14_intToLittleEndian 32 = .ok (.iload_n 0, 1) := dk_26 (dk_at dksX14_intToLittleEndian_1 8 rfl rfl)
theorem dX14_intToLittleEndian_33 : decode cX14_intToLittleEndian 33 = .ok (.bipush 24, 2) := dk_16 24 (dk_at dksX14_intToLittleEndian_1 9 rfl rfl)
theorem dX14_intToLittleEndian_35 : decode cX14_intToLittleEndian 35 = .ok (.iushr, 1) := dk_124 (dk_at dksX14_intToLittleEndian_1 11 rfl rfl)
theorem dX14_intToLittleEndian_36 : decode cX14_intToLittleEndian 36 = .ok (.i2b, 1) := dk_145 (dk_at dksX14_intToLittleEndian_1 12 rfl rfl)
theorem dX14_intToLittleEndian_37 : decode cX14_intToLittleEndian 37 = .ok (.bastore, 1) := dk_84 (dk_at dksX14_intToLittleEndian_1 13 rfl rfl)
theorem dX14_intToLittleEndian_38 : decode cX14_intToLittleEndian 38 = .ok (.return_, 1) := dk_177 (dk_at dksX14_intToLittleEndian_1 14 rfl rfl)
theorem q30 : (Jvm.Cond.initialized "Pack") ∈ lw_all := lw_g (lw_at lw_m1 21 rfl) rfl
theorem q432 : (Jvm.Cond.static ({ cls := "Pack", name := "littleEndianToInt", desc := "([BI)I" } : Jvm.MethodName)) ∈ lw_all := lw_g (lw_at lw_m2 183 rfl) rfl
theorem q433 : (Jvm.Cond.code ({ cls := "Pack", name := "littleEndianToInt", desc := "([BI)I" } : Jvm.MethodName) prog_19_method_2_code (3 : Nat) (Option.some Jvm.ClassFile.FieldType.int)) ∈ lw_all := lw_g (lw_at lw_m2 184 rfl) rfl
theorem q582 : (Jvm.Cond.static ({ cls := "Pack", name := "intToLittleEndian", desc := "(I[BI)V" } : Jvm.MethodName)) ∈ lw_all := lw_g (lw_at lw_m3 93 rfl) rfl
theorem q583 : (Jvm.Cond.code ({ cls := "Pack", name := "intToLittleEndian", desc := "(I[BI)V" } : Jvm.MethodName) prog_19_method_3_code (3 : Nat) (Option.none : Option Jvm.ClassFile.FieldType)) ∈ lw_all := lw_g (lw_at lw_m3 94 rfl) rfl
/-! InvalidCipherTextException -/
set_option maxRecDepth 100000
def RX19 : String := "InvalidCipherTextException"
def TX19 : u_T := fun k => match k with
  | 0 => ("java/lang/Throwable", "cause", "Ljava/lang/Throwable;", false)
  | 1 => ("java/lang/Throwable", "stackTrace", "[Ljava/lang/StackTraceElement;", false)
  | 2 => ("java/lang/Throwable", "suppressedExceptions", "Ljava/util/List;", false)
  | 3 => ("java/lang/Throwable", "detailMessage", "Ljava/lang/String;", false)
  | 4 => ("java/lang/Throwable", "backtrace", "Ljava/lang/Object;", false)
  | _ => ("java/lang/Throwable", "depth", "I", false)
def tyX19 : Nat → FieldType := fun k => match k with
  | 0 => .object "java/lang/Throwable"
  | 1 => .array (.object "java/lang/StackTraceElement")
  | 2 => .object "java/util/List"
  | 3 => .object "java/lang/String"
  | 4 => .object "java/lang/Object"
  | _ => .int
abbrev wsX190 : List Cond := u_ws RX19 TX19 6
theorem nmX19 : ∀ a, a < 6 → ∀ b, b < 6 → a ≠ b → (TX19 a).2.1 ≠ (TX19 b).2.1 := by decide +kernel
theorem tyX19_ok : ∀ k, k < 6 → parseFieldDescriptor (TX19 k).2.2.1 = some (tyX19 k) := by decide +kernel
abbrev cX19_init : ByteArray := prog_13_method_1_code
def yX19_init : MethodName := ⟨RX19, "<init>", "(Ljava/lang/String;)V"⟩
def dkwX19_init_0 : List UInt8 := [42, 43, 183, 0, 1, 177]
abbrev dktX19_init_0 : List UInt8 := dkwX19_init_0 ++ []
theorem dksX19_init_0 : cX19_init.data.toList.drop 0 = dktX19_init_0 := by decide +kernel
theorem dX19_init_0 : decode cX19_init 0 = .ok (.aload_n 0, 1) := dk_42 (dk_at dksX19_init_0 0 rfl rfl)
theorem dX19_init_1 : decode cX19_init 1 = .ok (.aload_n 1, 1) := dk_43 (dk_at dksX19_init_0 1 rfl rfl)
theorem dX19_init_2 : decode cX19_init 2 = .ok (.invokespecial 1, 3) := dk_183 0 1 (dk_at dksX19_init_0 2 rfl rfl)
theorem dX19_init_5 : decode cX19_init 5 = .ok (.return_, 1) := dk_177 (dk_at dksX19_init_0 5 rfl rfl)
theorem q36 : (Jvm.Cond.initialized "InvalidCipherTextException") ∈ lw_all := lw_g (lw_at lw_m1 27 rfl) rfl
theorem q334 : (Jvm.Cond.selects "InvalidCipherTextException" ({ cls := "java/lang/Throwable", name := "fillInStackTrace", desc := "()Ljava/lang/Throwable;" } : Jvm.MethodName) ({ cls := "java/lang/Throwable", name := "fillInStackTrace", desc := "()Ljava/lang/Throwable;" } : Jvm.MethodName)) ∈ lw_all := lw_g (lw_at lw_m2 85 rfl) rfl
theorem q644 : (Jvm.Cond.instantiable "InvalidCipherTextException" (6 : Nat)) ∈ lw_all := lw_g (lw_at lw_m3 155 rfl) rfl
theorem q645 : (Jvm.Cond.castable "InvalidCipherTextException" "InvalidCipherTextException") ∈ lw_tbl := lw_at lw_m3 156 rfl
theorem q647 : (Jvm.Cond.selects "InvalidCipherTextException" ({ cls := "java/lang/Throwable", name := "fillInStackTrace", desc := "(I)Ljava/lang/Throwable;" } : Jvm.MethodName) ({ cls := "java/lang/Throwable", name := "fillInStackTrace", desc := "(I)Ljava/lang/Throwable;" } : Jvm.MethodName)) ∈ lw_all := lw_g (lw_at lw_m3 158 rfl) rfl
theorem q648 : (Jvm.Cond.lays "InvalidCipherTextException" "java/lang/Throwable" "cause" "Ljava/lang/Throwable;") ∈ lw_all := lw_g (lw_at lw_m3 159 rfl) rfl
theorem q649 : (Jvm.Cond.lays "InvalidCipherTextException" "java/lang/Throwable" "stackTrace" "[Ljava/lang/StackTraceElement;") ∈ lw_all := lw_g (lw_at lw_m3 160 rfl) rfl
theorem q650 : (Jvm.Cond.lays "InvalidCipherTextException" "java/lang/Throwable" "suppressedExceptions" "Ljava/util/List;") ∈ lw_all := lw_g (lw_at lw_m3 161 rfl) rfl
theorem q651 : (Jvm.Cond.lays "InvalidCipherTextException" "java/lang/Throwable" "detailMessage" "Ljava/lang/String;") ∈ lw_all := lw_g (lw_at lw_m3 162 rfl) rfl
theorem q652 : (Jvm.Cond.lays "InvalidCipherTextException" "java/lang/Throwable" "backtrace" "Ljava/lang/Object;") ∈ lw_all := lw_g (lw_at lw_m3 163 rfl) rfl
theorem q655 : (Jvm.Cond.instanceMethod ({ cls := "InvalidCipherTextException", name := "<init>", desc := "(Ljava/lang/String;)V" } : Jvm.MethodName)) ∈ lw_all := lw_g (lw_at lw_m3 166 rfl) rfl
theorem q656 : (Jvm.Cond.code ({ cls := "InvalidCipherTextException", name := "<init>", desc := "(Ljava/lang/String;)V" } : Jvm.MethodName) prog_13_method_1_code (2 : Nat) (Option.none : Option Jvm.ClassFile.FieldType)) ∈ lw_all := lw_g (lw_at lw_m3 167 rfl) rfl
theorem q657 : (Jvm.Cond.methodLink "InvalidCipherTextException" (1 : Nat) ({ cls := "CryptoException", name := "<init>", desc := "(Ljava/lang/String;)V" } : Jvm.MethodName)) ∈ lw_all := lw_g (lw_at lw_m3 168 rfl) rfl
theorem q661 : (Jvm.Cond.lays "InvalidCipherTextException" "java/lang/Throwable" "depth" "I") ∈ lw_all := lw_g (lw_at lw_m3 172 rfl) rfl
theorem q662 : (Jvm.Cond.superclass "InvalidCipherTextException" "CryptoException") ∈ lw_all := lw_g (lw_at lw_m3 173 rfl) rfl
theorem in_X19 : ∀ w ∈ wsX190, w ∈ lw_all := lw_in wsX190 [648, 649, 650, 651, 652, 661] (by decide +kernel) (by decide +kernel)
/-! java/util/Arrays -/
set_option maxRecDepth 100000
def RJ0 : String := "java/util/Arrays"
abbrev cJ0_fill : ByteArray := prog_36_method_109_code
def yJ0_fill : MethodName := ⟨RJ0, "fill", "([BB)V"⟩
def dkwJ0_fill_0 : List UInt8 := [3, 61, 42, 190, 62, 28, 29, 162, 0, 13, 42, 28, 27, 84, 132, 2, 1, 167, 255, 244, 177]
abbrev dktJ0_fill_0 : List UInt8 := dkwJ0_fill_0 ++ []
theorem dksJ0_fill_0 : cJ0_fill.data.toList.drop 0 = dktJ0_fill_0 := by decide +kernel
theorem dJ0_fill_0 : decode cJ0_fill 0 = .ok (.iconst 0, 1) := dk_3 (dk_at dksJ0_fill_0 0 rfl rfl)
theorem dJ0_fill_1 : decode cJ0_fill 1 = .ok (.istore_n 2, 1) := dk_61 (dk_at dksJ0_fill_0 1 rfl rfl)
theorem dJ0_fill_2 : decode cJ0_fill 2 = .ok (.aload_n 0, 1) := dk_42 (dk_at dksJ0_fill_0 2 rfl rfl)
theorem dJ0_fill_3 : decode cJ0_fill 3 = .ok (.arraylength, 1) := dk_190 (dk_at dksJ0_fill_0 3 rfl rfl)
theorem dJ0_fill_4 : decode cJ0_fill 4 = .ok (.istore_n 3, 1) := dk_62 (dk_at dksJ0_fill_0 4 rfl rfl)
theorem dJ0_fill_5 : decode cJ0_fill 5 = .ok (.iload_n 2, 1) := dk_28 (dk_at dksJ0_fill_0 5 rfl rfl)
theorem dJ0_fill_6 : decode cJ0_fill 6 = .ok (.iload_n 3, 1) := dk_29 (dk_at dksJ0_fill_0 6 rfl rfl)
theorem dJ0_fill_7 : decode cJ0_fill 7 = .ok (.if_icmp .ge 13, 3) := dk_162 0 13 (dk_at dksJ0_fill_0 7 rfl rfl)
theorem dJ0_fill_10 : decode cJ0_fill 10 = .ok (.aload_n 0, 1) := dk_42 (dk_at dksJ0_fill_0 10 rfl rfl)
theorem dJ0_fill_11 : decode cJ0_fill 11 = .ok (.iload_n 2, 1) := dk_28 (dk_at dksJ0_fill_0 11 rfl rfl)
theorem dJ0_fill_12 : decode cJ0_fill 12 = .ok (.iload_n 1, 1) := dk_27 (dk_at dksJ0_fill_0 12 rfl rfl)
theorem dJ0_fill_13 : decode cJ0_fill 13 = .ok (.bastore, 1) := dk_84 (dk_at dksJ0_fill_0 13 rfl rfl)
theorem dJ0_fill_14 : decode cJ0_fill 14 = .ok (.iinc 2 1, 3) := dk_132 2 1 (dk_at dksJ0_fill_0 14 rfl rfl)
theorem dJ0_fill_17 : decode cJ0_fill 17 = .ok (.goto (-12), 3) := dk_167 255 244 (dk_at dksJ0_fill_0 17 rfl rfl)
theorem dJ0_fill_20 : decode cJ0_fill 20 = .ok (.return_, 1) := dk_177 (dk_at dksJ0_fill_0 20 rfl rfl)
theorem q24 : (Jvm.Cond.initialized "java/util/Arrays") ∈ lw_all := lw_g (lw_at lw_m1 15 rfl) rfl
theorem q291 : (Jvm.Cond.static ({ cls := "java/util/Arrays", name := "fill", desc := "([BB)V" } : Jvm.MethodName)) ∈ lw_all := lw_g (lw_at lw_m2 42 rfl) rfl
theorem q292 : (Jvm.Cond.code ({ cls := "java/util/Arrays", name := "fill", desc := "([BB)V" } : Jvm.MethodName) prog_36_method_109_code (4 : Nat) (Option.none : Option Jvm.ClassFile.FieldType)) ∈ lw_all := lw_g (lw_at lw_m2 43 rfl) rfl
/-! java/lang/Throwable -/
set_option maxRecDepth 100000
def RJ1 : String := "java/lang/Throwable"
def TJ1 : u_T := fun k => match k with
  | 0 => ("java/lang/Throwable", "cause", "Ljava/lang/Throwable;", false)
  | 1 => ("java/lang/Throwable", "stackTrace", "[Ljava/lang/StackTraceElement;", false)
  | 2 => ("java/lang/Throwable", "suppressedExceptions", "Ljava/util/List;", false)
  | 3 => ("java/lang/Throwable", "detailMessage", "Ljava/lang/String;", false)
  | _ => ("java/lang/Throwable", "backtrace", "Ljava/lang/Object;", false)
def tyJ1 : Nat → FieldType := fun k => match k with
  | 0 => .object "java/lang/Throwable"
  | 1 => .array (.object "java/lang/StackTraceElement")
  | 2 => .object "java/util/List"
  | 3 => .object "java/lang/String"
  | _ => .object "java/lang/Object"
abbrev wsJ10 : List Cond := u_ws RJ1 TJ1 5
theorem nmJ1 : ∀ a, a < 5 → ∀ b, b < 5 → a ≠ b → (TJ1 a).2.1 ≠ (TJ1 b).2.1 := by decide +kernel
theorem tyJ1_ok : ∀ k, k < 5 → parseFieldDescriptor (TJ1 k).2.2.1 = some (tyJ1 k) := by decide +kernel
abbrev cJ1_init : ByteArray := prog_35_method_1_code
def yJ1_init : MethodName := ⟨RJ1, "<init>", "()V"⟩
def dkwJ1_init_1 : List UInt8 := [182, 0, 27, 87, 177]
abbrev dktJ1_init_1 : List UInt8 := dkwJ1_init_1 ++ []
def dkwJ1_init_0 : List UInt8 := [42, 183, 0, 1, 42, 42, 181, 0, 7, 42, 178, 0, 13, 181, 0, 17, 42, 178, 0, 20, 181, 0, 24, 42]
abbrev dktJ1_init_0 : List UInt8 := dkwJ1_init_0 ++ dktJ1_init_1
theorem dksJ1_init_0 : cJ1_init.data.toList.drop 0 = dktJ1_init_0 := by decide +kernel
theorem dksJ1_init_1 : cJ1_init.data.toList.drop 24 = dktJ1_init_1 := dk_seg dksJ1_init_0 24 rfl rfl
theorem dJ1_init_0 : decode cJ1_init 0 = .ok (.aload_n 0, 1) := dk_42 (dk_at dksJ1_init_0 0 rfl rfl)
theorem dJ1_init_1 : decode cJ1_init 1 = .ok (.invokespecial 1, 3) := dk_183 0 1 (dk_at dksJ1_init_0 1 rfl rfl)
theorem dJ1_init_4 : decode cJ1_init 4 = .ok (.aload_n 0, 1) := dk_42 (dk_at dksJ1_init_0 4 rfl rfl)
theorem dJ1_init_5 : decode cJ1_init 5 = .ok (.aload_n 0, 1) := dk_42 (dk_at dksJ1_init_0 5 rfl rfl)
theorem dJ1_init_6 : decode cJ1_init 6 = .ok (.putfield 7, 3) := dk_181 0 7 (dk_at dksJ1_init_0 6 rfl rfl)
theorem dJ1_init_9 : decode cJ1_init 9 = .ok (.aload_n 0, 1) := dk_42 (dk_at dksJ1_init_0 9 rfl rfl)
theorem dJ1_init_10 : decode cJ1_init 10 = .ok (.getstatic 13, 3) := dk_178 0 13 (dk_at dksJ1_init_0 10 rfl rfl)
theorem dJ1_init_13 : decode cJ1_init 13 = .ok (.putfield 17, 3) := dk_181 0 17 (dk_at dksJ1_init_0 13 rfl rfl)
theorem dJ1_init_16 : decode cJ1_init 16 = .ok (.aload_n 0, 1) := dk_42 (dk_at dksJ1_init_0 16 rfl rfl)
theorem dJ1_init_17 : decode cJ1_init 17 = .ok (.getstatic 20, 3) := dk_178 0 20 (dk_at dksJ1_init_0 17 rfl rfl)
theorem dJ1_init_20 : decode cJ1_init 20 = .ok (.putfield 24, 3) := dk_181 0 24 (dk_at dksJ1_init_0 20 rfl rfl)
theorem dJ1_init_23 : decode cJ1_init 23 = .ok (.aload_n 0, 1) := dk_42 (dk_at dksJ1_init_0 23 rfl rfl)
theorem dJ1_init_24 : decode cJ1_init 24 = .ok (.invokevirtual 27, 3) := dk_182 0 27 (dk_at dksJ1_init_1 0 rfl rfl)
theorem dJ1_init_27 : decode cJ1_init 27 = .ok (.pop, 1) := dk_87 (dk_at dksJ1_init_1 3 rfl rfl)
theorem dJ1_init_28 : decode cJ1_init 28 = .ok (.return_, 1) := dk_177 (dk_at dksJ1_init_1 4 rfl rfl)
abbrev cJ1_init_2 : ByteArray := prog_35_method_2_code
def yJ1_init_2 : MethodName := ⟨RJ1, "<init>", "(Ljava/lang/String;)V"⟩
def dkwJ1_init_2_1 : List UInt8 := [182, 0, 27, 87, 42, 43, 181, 0, 31, 177]
abbrev dktJ1_init_2_1 : List UInt8 := dkwJ1_init_2_1 ++ []
def dkwJ1_init_2_0 : List UInt8 := [42, 183, 0, 1, 42, 42, 181, 0, 7, 42, 178, 0, 13, 181, 0, 17, 42, 178, 0, 20, 181, 0, 24, 42]
abbrev dktJ1_init_2_0 : List UInt8 := dkwJ1_init_2_0 ++ dktJ1_init_2_1
theorem dksJ1_init_2_0 : cJ1_init_2.data.toList.drop 0 = dktJ1_init_2_0 := by decide +kernel
theorem dksJ1_init_2_1 : cJ1_init_2.data.toList.drop 24 = dktJ1_init_2_1 := dk_seg dksJ1_init_2_0 24 rfl rfl
theorem dJ1_init_2_0 : decode cJ1_init_2 0 = .ok (.aload_n 0, 1) := dk_42 (dk_at dksJ1_init_2_0 0 rfl rfl)
theorem dJ1_init_2_1 : decode cJ1_init_2 1 = .ok (.invokespecial 1, 3) := dk_183 0 1 (dk_at dksJ1_init_2_0 1 rfl rfl)
theorem dJ1_init_2_4 : decode cJ1_init_2 4 = .ok (.aload_n 0, 1) := dk_42 (dk_at dksJ1_init_2_0 4 rfl rfl)
theorem dJ1_init_2_5 : decode cJ1_init_2 5 = .ok (.aload_n 0, 1) := dk_42 (dk_at dksJ1_init_2_0 5 rfl rfl)
theorem dJ1_init_2_6 : decode cJ1_init_2 6 = .ok (.putfield 7, 3) := dk_181 0 7 (dk_at dksJ1_init_2_0 6 rfl rfl)
theorem dJ1_init_2_9 : decode cJ1_init_2 9 = .ok (.aload_n 0, 1) := dk_42 (dk_at dksJ1_init_2_0 9 rfl rfl)
theorem dJ1_init_2_10 : decode cJ1_init_2 10 = .ok (.getstatic 13, 3) := dk_178 0 13 (dk_at dksJ1_init_2_0 10 rfl rfl)
theorem dJ1_init_2_13 : decode cJ1_init_2 13 = .ok (.putfield 17, 3) := dk_181 0 17 (dk_at dksJ1_init_2_0 13 rfl rfl)
theorem dJ1_init_2_16 : decode cJ1_init_2 16 = .ok (.aload_n 0, 1) := dk_42 (dk_at dksJ1_init_2_0 16 rfl rfl)
theorem dJ1_init_2_17 : decode cJ1_init_2 17 = .ok (.getstatic 20, 3) := dk_178 0 20 (dk_at dksJ1_init_2_0 17 rfl rfl)
theorem dJ1_init_2_20 : decode cJ1_init_2 20 = .ok (.putfield 24, 3) := dk_181 0 24 (dk_at dksJ1_init_2_0 20 rfl rfl)
theorem dJ1_init_2_23 : decode cJ1_init_2 23 = .ok (.aload_n 0, 1) := dk_42 (dk_at dksJ1_init_2_0 23 rfl rfl)
theorem dJ1_init_2_24 : decode cJ1_init_2 24 = .ok (.invokevirtual 27, 3) := dk_182 0 27 (dk_at dksJ1_init_2_1 0 rfl rfl)
theorem dJ1_init_2_27 : decode cJ1_init_2 27 = .ok (.pop, 1) := dk_87 (dk_at dksJ1_init_2_1 3 rfl rfl)
theorem dJ1_init_2_28 : decode cJ1_init_2 28 = .ok (.aload_n 0, 1) := dk_42 (dk_at dksJ1_init_2_1 4 rfl rfl)
theorem dJ1_init_2_29 : decode cJ1_init_2 29 = .ok (.aload_n 1, 1) := dk_43 (dk_at dksJ1_init_2_1 5 rfl rfl)
theorem dJ1_init_2_30 : decode cJ1_init_2 30 = .ok (.putfield 31, 3) := dk_181 0 31 (dk_at dksJ1_init_2_1 6 rfl rfl)
theorem dJ1_init_2_33 : decode cJ1_init_2 33 = .ok (.return_, 1) := dk_177 (dk_at dksJ1_init_2_1 9 rfl rfl)
theorem q25 : (Jvm.Cond.initialized "java/lang/Throwable") ∈ lw_all := lw_g (lw_at lw_m1 16 rfl) rfl
theorem q307 : (Jvm.Cond.declares ({ cls := "java/lang/Throwable", name := "<init>", desc := "()V" } : Jvm.MethodName)) ∈ lw_tbl := lw_at lw_m2 58 rfl
theorem q308 : (Jvm.Cond.declares ({ cls := "java/lang/Throwable", name := "<init>", desc := "(Ljava/lang/String;)V" } : Jvm.MethodName)) ∈ lw_tbl := lw_at lw_m2 59 rfl
theorem q312 : (Jvm.Cond.lays "java/lang/Throwable" "java/lang/Throwable" "cause" "Ljava/lang/Throwable;") ∈ lw_all := lw_g (lw_at lw_m2 63 rfl) rfl
theorem q314 : (Jvm.Cond.lays "java/lang/Throwable" "java/lang/Throwable" "stackTrace" "[Ljava/lang/StackTraceElement;") ∈ lw_all := lw_g (lw_at lw_m2 65 rfl) rfl
theorem q316 : (Jvm.Cond.lays "java/lang/Throwable" "java/lang/Throwable" "suppressedExceptions" "Ljava/util/List;") ∈ lw_all := lw_g (lw_at lw_m2 67 rfl) rfl
theorem q318 : (Jvm.Cond.lays "java/lang/Throwable" "java/lang/Throwable" "detailMessage" "Ljava/lang/String;") ∈ lw_all := lw_g (lw_at lw_m2 69 rfl) rfl
theorem q320 : (Jvm.Cond.lays "java/lang/Throwable" "java/lang/Throwable" "backtrace" "Ljava/lang/Object;") ∈ lw_all := lw_g (lw_at lw_m2 71 rfl) rfl
theorem q321 : (Jvm.Cond.fieldLink "java/lang/Throwable" (198 : Nat) "java/lang/Throwable" "backtrace" "Ljava/lang/Object;") ∈ lw_all := lw_g (lw_at lw_m2 72 rfl) rfl
theorem q322 : (Jvm.Cond.superclass "java/lang/Throwable" "java/lang/Object") ∈ lw_all := lw_g (lw_at lw_m2 73 rfl) rfl
theorem q323 : (Jvm.Cond.instanceMethod ({ cls := "java/lang/Throwable", name := "<init>", desc := "()V" } : Jvm.MethodName)) ∈ lw_all := lw_g (lw_at lw_m2 74 rfl) rfl
theorem q324 : (Jvm.Cond.code ({ cls := "java/lang/Throwable", name := "<init>", desc := "()V" } : Jvm.MethodName) prog_35_method_1_code (1 : Nat) (Option.none : Option Jvm.ClassFile.FieldType)) ∈ lw_all := lw_g (lw_at lw_m2 75 rfl) rfl
theorem q325 : (Jvm.Cond.methodLink "java/lang/Throwable" (1 : Nat) ({ cls := "java/lang/Object", name := "<init>", desc := "()V" } : Jvm.MethodName)) ∈ lw_all := lw_g (lw_at lw_m2 76 rfl) rfl
theorem q326 : (Jvm.Cond.fieldLink "java/lang/Throwable" (13 : Nat) "java/lang/Throwable" "UNASSIGNED_STACK" "[Ljava/lang/StackTraceElement;") ∈ lw_all := lw_g (lw_at lw_m2 77 rfl) rfl
theorem q327 : (Jvm.Cond.laysStatic "java/lang/Throwable" "UNASSIGNED_STACK" "[Ljava/lang/StackTraceElement;") ∈ lw_tbl := lw_at lw_m2 78 rfl
theorem q328 : (Jvm.Cond.fieldLink "java/lang/Throwable" (20 : Nat) "java/lang/Throwable" "SUPPRESSED_SENTINEL" "Ljava/util/List;") ∈ lw_all := lw_g (lw_at lw_m2 79 rfl) rfl
theorem q329 : (Jvm.Cond.laysStatic "java/lang/Throwable" "SUPPRESSED_SENTINEL" "Ljava/util/List;") ∈ lw_tbl := lw_at lw_m2 80 rfl
theorem q330 : (Jvm.Cond.methodLink "java/lang/Throwable" (27 : Nat) ({ cls := "java/lang/Throwable", name := "fillInStackTrace", desc := "()Ljava/lang/Throwable;" } : Jvm.MethodName)) ∈ lw_all := lw_g (lw_at lw_m2 81 rfl) rfl
theorem q331 : (Jvm.Cond.instanceMethod ({ cls := "java/lang/Throwable", name := "fillInStackTrace", desc := "()Ljava/lang/Throwable;" } : Jvm.MethodName)) ∈ lw_all := lw_g (lw_at lw_m2 82 rfl) rfl
theorem q332 : (Jvm.Cond.sameMethod "java/lang/Throwable" "java/lang/Throwable" "fillInStackTrace" "()Ljava/lang/Throwable;") ∈ lw_all := lw_g (lw_at lw_m2 83 rfl) rfl
theorem q337 : (Jvm.Cond.codeSync ({ cls := "java/lang/Throwable", name := "fillInStackTrace", desc := "()Ljava/lang/Throwable;" } : Jvm.MethodName) prog_35_method_18_code (1 : Nat) (Option.some (Jvm.ClassFile.FieldType.object "java/lang/Throwable"))) ∈ lw_all := lw_g (lw_at lw_m2 88 rfl) rfl
theorem q338 : (Jvm.Cond.methodLink "java/lang/Throwable" (202 : Nat) ({ cls := "java/lang/Throwable", name := "fillInStackTrace", desc := "(I)Ljava/lang/Throwable;" } : Jvm.MethodName)) ∈ lw_all := lw_g (lw_at lw_m2 89 rfl) rfl
theorem q339 : (Jvm.Cond.privateMethod ({ cls := "java/lang/Throwable", name := "fillInStackTrace", desc := "(I)Ljava/lang/Throwable;" } : Jvm.MethodName)) ∈ lw_tbl := lw_at lw_m2 90 rfl
theorem q340 : (Jvm.Cond.instanceMethod ({ cls := "java/lang/Throwable", name := "fillInStackTrace", desc := "(I)Ljava/lang/Throwable;" } : Jvm.MethodName)) ∈ lw_all := lw_g (lw_at lw_m2 91 rfl) rfl
theorem q341 : (Jvm.Cond.instantiable "java/lang/Throwable" (6 : Nat)) ∈ lw_all := lw_g (lw_at lw_m2 92 rfl) rfl
theorem q342 : (Jvm.Cond.native ({ cls := "java/lang/Throwable", name := "fillInStackTrace", desc := "(I)Ljava/lang/Throwable;" } : Jvm.MethodName)) ∈ lw_all := lw_g (lw_at lw_m2 93 rfl) rfl
theorem q354 : (Jvm.Cond.instanceMethod ({ cls := "java/lang/Throwable", name := "<init>", desc := "(Ljava/lang/String;)V" } : Jvm.MethodName)) ∈ lw_all := lw_g (lw_at lw_m2 105 rfl) rfl
theorem q355 : (Jvm.Cond.code ({ cls := "java/lang/Throwable", name := "<init>", desc := "(Ljava/lang/String;)V" } : Jvm.MethodName) prog_35_method_2_code (2 : Nat) (Option.none : Option Jvm.ClassFile.FieldType)) ∈ lw_all := lw_g (lw_at lw_m2 106 rfl) rfl
theorem q356 : (Jvm.Cond.fieldLink "java/lang/Throwable" (198 : Nat) "java/lang/Throwable" "backtrace" "Ljava/lang/Object;") ∈ lw_all := lw_g (lw_at lw_m2 107 rfl) rfl
theorem q357 : (Jvm.Cond.fieldLink "java/lang/Throwable" (31 : Nat) "java/lang/Throwable" "detailMessage" "Ljava/lang/String;") ∈ lw_all := lw_g (lw_at lw_m2 108 rfl) rfl
theorem q358 : (Jvm.Cond.fieldLink "java/lang/Throwable" (7 : Nat) "java/lang/Throwable" "cause" "Ljava/lang/Throwable;") ∈ lw_all := lw_g (lw_at lw_m2 109 rfl) rfl
theorem q359 : (Jvm.Cond.fieldLink "java/lang/Throwable" (17 : Nat) "java/lang/Throwable" "stackTrace" "[Ljava/lang/StackTraceElement;") ∈ lw_all := lw_g (lw_at lw_m2 110 rfl) rfl
theorem q360 : (Jvm.Cond.fieldLink "java/lang/Throwable" (24 : Nat) "java/lang/Throwable" "suppressedExceptions" "Ljava/util/List;") ∈ lw_all := lw_g (lw_at lw_m2 111 rfl) rfl
theorem q361 : (Jvm.Cond.soleField "java/lang/Throwable" "backtrace") ∈ lw_all := lw_g (lw_at lw_m2 112 rfl) rfl
theorem q362 : (Jvm.Cond.soleField "java/lang/Throwable" "detailMessage") ∈ lw_all := lw_g (lw_at lw_m2 113 rfl) rfl
theorem q363 : (Jvm.Cond.soleField "java/lang/Throwable" "cause") ∈ lw_all := lw_g (lw_at lw_m2 114 rfl) rfl
theorem q364 : (Jvm.Cond.soleField "java/lang/Throwable" "stackTrace") ∈ lw_all := lw_g (lw_at lw_m2 115 rfl) rfl
theorem q366 : (Jvm.Cond.soleField "java/lang/Throwable" "depth") ∈ lw_all := lw_g (lw_at lw_m2 117 rfl) rfl
theorem q367 : (Jvm.Cond.soleField "java/lang/Throwable" "suppressedExceptions") ∈ lw_all := lw_g (lw_at lw_m2 118 rfl) rfl
theorem q739 : (Jvm.Cond.sameMethod "java/lang/Throwable" "java/lang/Throwable" "fillInStackTrace" "(I)Ljava/lang/Throwable;") ∈ lw_all := lw_g (lw_at lw_m4 10 rfl) rfl
theorem in_J1 : ∀ w ∈ wsJ10, w ∈ lw_all := lw_in wsJ10 [312, 314, 316, 318, 320] (by decide +kernel) (by decide +kernel)
/-! java/lang/Math -/
set_option maxRecDepth 100000
def RJ6 : String := "java/lang/Math"
abbrev cJ6_max : ByteArray := prog_31_method_65_code
def yJ6_max : MethodName := ⟨RJ6, "max", "(II)I"⟩
def dkwJ6_max_0 : List UInt8 := [26, 27, 161, 0, 7, 26, 167, 0, 4, 27, 172]
abbrev dktJ6_max_0 : List UInt8 := dkwJ6_max_0 ++ []
theorem dksJ6_max_0 : cJ6_max.data.toList.drop 0 = dktJ6_max_0 := by decide +kernel
theorem dJ6_max_0 : decode cJ6_max 0 = .ok (.iload_n 0, 1) := dk_26 (dk_at dksJ6_max_0 0 rfl rfl)
theorem dJ6_max_1 : decode cJ6_max 1 = .ok (.iload_n 1, 1) := dk_27 (dk_at dksJ6_max_0 1 rfl rfl)
theorem dJ6_max_2 : decode cJ6_max 2 = .ok (.if_icmp .lt 7, 3) := dk_161 0 7 (dk_at dksJ6_max_0 2 rfl rfl)
theorem dJ6_max_5 : decode cJ6_max 5 = .ok (.iload_n 0, 1) := dk_26 (dk_at dksJ6_max_0 5 rfl rfl)
theorem dJ6_max_6 : decode cJ6_max 6 = .ok (.goto 4, 3) := dk_167 0 4 (dk_at dksJ6_max_0 6 rfl rfl)
theorem dJ6_max_9 : decode cJ6_max 9 = .ok (.iload_n 1, 1) := dk_27 (dk_at dksJ6_max_0 9 rfl rfl)
theorem dJ6_max_10 : decode cJ6_max 10 = .ok (.ireturn, 1) := dk_172 (dk_at dksJ6_max_0 10 rfl rfl)
theorem q31 : (Jvm.Cond.initialized "java/lang/Math") ∈ lw_all := lw_g (lw_at lw_m1 22 rfl) rfl
theorem q518 : (Jvm.Cond.static ({ cls := "java/lang/Math", name := "max", desc := "(II)I" } : Jvm.MethodName)) ∈ lw_all := lw_g (lw_at lw_m3 29 rfl) rfl
theorem q519 : (Jvm.Cond.code ({ cls := "java/lang/Math", name := "max", desc := "(II)I" } : Jvm.MethodName) prog_31_method_65_code (2 : Nat) (Option.some Jvm.ClassFile.FieldType.int)) ∈ lw_all := lw_g (lw_at lw_m3 30 rfl) rfl
/-! java/lang/Object -/
set_option maxRecDepth 100000
def RJ7 : String := "java/lang/Object"
abbrev cJ7_init : ByteArray := object_method_1_code
def yJ7_init : MethodName := ⟨RJ7, "<init>", "()V"⟩
theorem dJ7_init_0 : decode cJ7_init 0 = .ok (.return_, 1) := by decide +kernel
theorem q43 : (Jvm.Cond.instanceMethod ({ cls := "java/lang/Object", name := "<init>", desc := "()V" } : Jvm.MethodName)) ∈ lw_all := lw_g (lw_at lw_m1 34 rfl) rfl
theorem q44 : (Jvm.Cond.code ({ cls := "java/lang/Object", name := "<init>", desc := "()V" } : Jvm.MethodName) object_method_1_code (1 : Nat) (Option.none : Option Jvm.ClassFile.FieldType)) ∈ lw_all := lw_g (lw_at lw_m1 35 rfl) rfl
theorem q465 : (Jvm.Cond.native ({ cls := "java/lang/Object", name := "clone", desc := "()Ljava/lang/Object;" } : Jvm.MethodName)) ∈ lw_all := lw_g (lw_at lw_m2 216 rfl) rfl
theorem q466 : (Jvm.Cond.instanceMethod ({ cls := "java/lang/Object", name := "clone", desc := "()Ljava/lang/Object;" } : Jvm.MethodName)) ∈ lw_all := lw_g (lw_at lw_m2 217 rfl) rfl
theorem q741 : (Jvm.Cond.initialized "java/lang/Object") ∈ lw_all := lw_g (lw_at lw_m4 12 rfl) rfl
