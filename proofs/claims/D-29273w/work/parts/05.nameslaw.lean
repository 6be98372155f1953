/-! the law's own entry -/
set_option maxRecDepth 100000
abbrev cL_law : ByteArray := code
def dkwL_law_44 : List UInt8 := [198, 0, 7, 4, 167, 0, 4, 3, 172]
abbrev dktL_law_44 : List UInt8 := dkwL_law_44 ++ []
def dkwL_law_43 : List UInt8 := [16, 78, 184, 0, 63, 43, 25, 11, 21, 7, 2, 42, 16, 77, 184, 0, 32, 25, 15, 184, 0, 90]
abbrev dktL_law_43 : List UInt8 := dkwL_law_43 ++ dktL_law_44
def dkwL_law_42 : List UInt8 := [16, 76, 184, 0, 32, 25, 15, 184, 0, 90, 58, 15, 25, 15, 199, 0, 5, 3, 172, 43, 42, 16, 8]
abbrev dktL_law_42 : List UInt8 := dkwL_law_42 ++ dktL_law_43
def dkwL_law_41 : List UInt8 := [25, 5, 21, 20, 46, 184, 0, 93, 58, 19, 132, 20, 1, 167, 255, 232, 43, 25, 19, 21, 7, 2, 42]
abbrev dktL_law_41 : List UInt8 := dkwL_law_41 ++ dktL_law_42
def dkwL_law_40 : List UInt8 := [16, 68, 184, 0, 63, 25, 11, 58, 19, 3, 54, 20, 21, 20, 16, 16, 162, 0, 23, 25, 19, 21, 20]
abbrev dktL_law_40 : List UInt8 := dkwL_law_40 ++ dktL_law_41
def dkwL_law_39 : List UInt8 := [16, 75, 184, 0, 32, 25, 15, 184, 0, 90, 58, 15, 25, 15, 199, 0, 5, 3, 172, 43, 42, 16, 8]
abbrev dktL_law_39 : List UInt8 := dkwL_law_39 ++ dktL_law_40
def dkwL_law_38 : List UInt8 := [154, 0, 5, 3, 172, 21, 17, 153, 0, 29, 21, 16, 21, 18, 161, 0, 22, 43, 25, 11, 21, 7, 2, 42]
abbrev dktL_law_38 : List UInt8 := dkwL_law_38 ++ dktL_law_39
def dkwL_law_37 : List UInt8 := [21, 16, 21, 17, 182, 0, 40, 153, 0, 18, 43, 25, 12, 42, 16, 75, 184, 0, 32, 184, 0, 86]
abbrev dktL_law_37 : List UInt8 := dkwL_law_37 ++ dktL_law_38
def dkwL_law_36 : List UInt8 := [16, 74, 184, 0, 32, 184, 0, 97, 154, 0, 5, 3, 172, 3, 188, 10, 58, 15, 25, 15, 198, 0, 29, 43]
abbrev dktL_law_36 : List UInt8 := dkwL_law_36 ++ dktL_law_37
def dkwL_law_35 : List UInt8 := [108, 42, 16, 74, 184, 0, 32, 25, 15, 184, 0, 90, 58, 15, 167, 0, 27, 43, 25, 11, 21, 7, 42]
abbrev dktL_law_35 : List UInt8 := dkwL_law_35 ++ dktL_law_36
def dkwL_law_34 : List UInt8 := [21, 18, 162, 0, 39, 43, 25, 11, 21, 16, 16, 16, 96, 21, 17, 184, 0, 93, 21, 7, 21, 16, 16, 16]
abbrev dktL_law_34 : List UInt8 := dkwL_law_34 ++ dktL_law_35
def dkwL_law_33 : List UInt8 := [43, 25, 11, 21, 7, 2, 42, 16, 74, 184, 0, 32, 25, 15, 184, 0, 90, 58, 15, 167, 0, 70, 21, 16]
abbrev dktL_law_33 : List UInt8 := dkwL_law_33 ++ dktL_law_34
def dkwL_law_32 : List UInt8 := [184, 0, 32, 184, 0, 86, 154, 0, 5, 3, 172, 25, 12, 190, 16, 16, 100, 54, 18, 21, 17, 154, 0, 25]
abbrev dktL_law_32 : List UInt8 := dkwL_law_32 ++ dktL_law_33
def dkwL_law_31 : List UInt8 := [184, 0, 32, 182, 0, 40, 153, 0, 25, 43, 25, 12, 21, 16, 21, 17, 184, 0, 93, 42, 16, 74]
abbrev dktL_law_31 : List UInt8 := dkwL_law_31 ++ dktL_law_32
def dkwL_law_30 : List UInt8 := [54, 16, 42, 16, 67, 184, 0, 32, 17, 0, 255, 126, 54, 17, 43, 42, 16, 66, 184, 0, 32, 42, 16, 67]
abbrev dktL_law_30 : List UInt8 := dkwL_law_30 ++ dktL_law_31
def dkwL_law_29 : List UInt8 := [184, 0, 32, 184, 0, 86, 154, 0, 5, 3, 172, 42, 16, 66, 184, 0, 32, 184, 0, 29, 25, 12, 190, 112]
abbrev dktL_law_29 : List UInt8 := dkwL_law_29 ++ dktL_law_30
def dkwL_law_28 : List UInt8 := [16, 73, 184, 0, 32, 3, 188, 10, 184, 0, 90, 58, 15, 25, 15, 198, 0, 18, 43, 25, 12, 42, 16, 66]
abbrev dktL_law_28 : List UInt8 := dkwL_law_28 ++ dktL_law_29
def dkwL_law_27 : List UInt8 := [184, 0, 32, 184, 0, 86, 154, 0, 5, 3, 172, 132, 15, 1, 167, 255, 201, 43, 25, 11, 21, 7, 2, 42]
abbrev dktL_law_27 : List UInt8 := dkwL_law_27 ++ dktL_law_28
def dkwL_law_26 : List UInt8 := [184, 0, 32, 42, 21, 15, 184, 0, 32, 182, 0, 82, 25, 12, 190, 160, 0, 18, 43, 25, 12, 42, 16, 72]
abbrev dktL_law_26 : List UInt8 := dkwL_law_26 ++ dktL_law_27
def dkwL_law_25 : List UInt8 := [167, 255, 145, 16, 64, 54, 15, 21, 15, 16, 66, 162, 0, 54, 43, 42, 16, 62, 184, 0, 32, 42, 16, 63]
abbrev dktL_law_25 : List UInt8 := dkwL_law_25 ++ dktL_law_26
def dkwL_law_24 : List UInt8 := [25, 12, 21, 15, 21, 18, 96, 25, 17, 21, 18, 46, 79, 132, 18, 1, 167, 255, 233, 132, 15, 16]
abbrev dktL_law_24 : List UInt8 := dkwL_law_24 ++ dktL_law_25
def dkwL_law_23 : List UInt8 := [167, 255, 208, 25, 16, 25, 14, 25, 13, 184, 0, 78, 58, 17, 3, 54, 18, 21, 18, 16, 16, 162, 0, 22]
abbrev dktL_law_23 : List UInt8 := dkwL_law_23 ++ dktL_law_24
def dkwL_law_22 : List UInt8 := [21, 17, 46, 167, 0, 14, 25, 12, 21, 15, 16, 16, 100, 21, 17, 96, 46, 130, 79, 132, 17, 1]
abbrev dktL_law_22 : List UInt8 := dkwL_law_22 ++ dktL_law_23
def dkwL_law_21 : List UInt8 := [16, 16, 162, 0, 47, 25, 16, 21, 17, 25, 11, 21, 15, 21, 17, 96, 46, 21, 15, 154, 0, 11, 25, 4]
abbrev dktL_law_21 : List UInt8 := dkwL_law_21 ++ dktL_law_22
def dkwL_law_20 : List UInt8 := [58, 14, 3, 54, 15, 21, 15, 25, 11, 190, 162, 0, 109, 16, 16, 188, 10, 58, 16, 3, 54, 17, 21, 17]
abbrev dktL_law_20 : List UInt8 := dkwL_law_20 ++ dktL_law_21
def dkwL_law_19 : List UInt8 := [58, 12, 184, 0, 70, 58, 13, 44, 16, 16, 16, 8, 21, 6, 6, 112, 104, 96, 25, 13, 184, 0, 74]
abbrev dktL_law_19 : List UInt8 := dkwL_law_19 ++ dktL_law_20
def dkwL_law_18 : List UInt8 := [16, 8, 16, 78, 184, 0, 63, 45, 21, 9, 21, 10, 21, 7, 184, 0, 66, 58, 11, 25, 11, 190, 188, 10]
abbrev dktL_law_18 : List UInt8 := dkwL_law_18 ++ dktL_law_19
def dkwL_law_17 : List UInt8 := [54, 10, 43, 42, 16, 60, 184, 0, 32, 182, 0, 56, 43, 42, 16, 61, 184, 0, 32, 182, 0, 60, 43, 42]
abbrev dktL_law_17 : List UInt8 := dkwL_law_17 ++ dktL_law_18
def dkwL_law_16 : List UInt8 := [21, 8, 4, 96, 112, 54, 9, 42, 16, 63, 184, 0, 32, 184, 0, 29, 21, 8, 21, 9, 100, 4, 96, 112]
abbrev dktL_law_16 : List UInt8 := dkwL_law_16 ++ dktL_law_17
def dkwL_law_15 : List UInt8 := [16, 61, 184, 0, 32, 184, 0, 29, 17, 0, 193, 112, 54, 8, 42, 16, 62, 184, 0, 32, 184, 0, 29]
abbrev dktL_law_15 : List UInt8 := dkwL_law_15 ++ dktL_law_16
def dkwL_law_14 : List UInt8 := [167, 255, 169, 42, 16, 60, 184, 0, 32, 184, 0, 29, 16, 9, 112, 54, 6, 21, 6, 6, 108, 54, 7, 42]
abbrev dktL_law_14 : List UInt8 := dkwL_law_14 ++ dktL_law_15
def dkwL_law_13 : List UInt8 := [104, 42, 21, 6, 21, 7, 96, 184, 0, 32, 184, 0, 48, 132, 7, 1, 167, 255, 224, 132, 6, 4]
abbrev dktL_law_13 : List UInt8 := dkwL_law_13 ++ dktL_law_14
def dkwL_law_12 : List UInt8 := [154, 0, 5, 3, 172, 3, 54, 7, 21, 7, 7, 162, 0, 32, 45, 7, 21, 6, 16, 12, 100, 21, 7, 96]
abbrev dktL_law_12 : List UInt8 := dkwL_law_12 ++ dktL_law_13
def dkwL_law_11 : List UInt8 := [184, 0, 32, 42, 21, 6, 5, 96, 184, 0, 32, 42, 21, 6, 6, 96, 184, 0, 32, 182, 0, 52]
abbrev dktL_law_11 : List UInt8 := dkwL_law_11 ++ dktL_law_12
def dkwL_law_10 : List UInt8 := [16, 12, 54, 6, 21, 6, 16, 60, 162, 0, 86, 43, 42, 21, 6, 184, 0, 32, 42, 21, 6, 4, 96]
abbrev dktL_law_10 : List UInt8 := dkwL_law_10 ++ dktL_law_11
def dkwL_law_9 : List UInt8 := [25, 5, 7, 21, 6, 104, 42, 16, 68, 21, 6, 96, 184, 0, 32, 184, 0, 48, 132, 6, 1, 167, 255, 211]
abbrev dktL_law_9 : List UInt8 := dkwL_law_9 ++ dktL_law_10
def dkwL_law_8 : List UInt8 := [21, 6, 7, 162, 0, 45, 25, 4, 7, 21, 6, 104, 42, 16, 8, 21, 6, 96, 184, 0, 32, 184, 0, 48]
abbrev dktL_law_8 : List UInt8 := dkwL_law_8 ++ dktL_law_9
def dkwL_law_7 : List UInt8 := [21, 7, 96, 184, 0, 32, 184, 0, 48, 132, 7, 1, 167, 255, 227, 132, 6, 4, 167, 255, 173, 3, 54, 6]
abbrev dktL_law_7 : List UInt8 := dkwL_law_7 ++ dktL_law_8
def dkwL_law_6 : List UInt8 := [182, 0, 44, 3, 54, 7, 21, 7, 7, 162, 0, 29, 44, 7, 21, 6, 21, 7, 96, 104, 42, 21, 6]
abbrev dktL_law_6 : List UInt8 := dkwL_law_6 ++ dktL_law_7
def dkwL_law_5 : List UInt8 := [21, 6, 4, 96, 184, 0, 32, 42, 21, 6, 5, 96, 184, 0, 32, 42, 21, 6, 6, 96, 184, 0, 32]
abbrev dktL_law_5 : List UInt8 := dkwL_law_5 ++ dktL_law_6
def dkwL_law_4 : List UInt8 := [3, 172, 3, 54, 6, 21, 6, 16, 8, 162, 0, 82, 43, 21, 6, 7, 108, 42, 21, 6, 184, 0, 32, 42]
abbrev dktL_law_4 : List UInt8 := dkwL_law_4 ++ dktL_law_5
def dkwL_law_3 : List UInt8 := [184, 0, 32, 182, 0, 26, 2, 160, 0, 17, 43, 42, 16, 66, 184, 0, 32, 182, 0, 23, 2, 159, 0, 5]
abbrev dktL_law_3 : List UInt8 := dkwL_law_3 ++ dktL_law_4
def dkwL_law_2 : List UInt8 := [42, 16, 66, 184, 0, 32, 42, 16, 67, 184, 0, 32, 182, 0, 40, 154, 0, 31, 43, 42, 16, 66]
abbrev dktL_law_2 : List UInt8 := dkwL_law_2 ++ dktL_law_3
def dkwL_law_1 : List UInt8 := [58, 4, 16, 16, 188, 10, 58, 5, 43, 42, 16, 64, 184, 0, 32, 182, 0, 18, 16, 254, 160, 0, 50, 43]
abbrev dktL_law_1 : List UInt8 := dkwL_law_1 ++ dktL_law_2
def dkwL_law_0 : List UInt8 := [187, 0, 19, 89, 183, 0, 39, 76, 16, 32, 188, 10, 77, 17, 1, 0, 188, 10, 78, 16, 16, 188, 10]
abbrev dktL_law_0 : List UInt8 := dkwL_law_0 ++ dktL_law_1
theorem dksL_law_0 : cL_law.data.toList.drop 0 = dktL_law_0 := by decide +kernel
theorem dksL_law_1 : cL_law.data.toList.drop 23 = dktL_law_1 := dk_seg dksL_law_0 23 rfl rfl
theorem dksL_law_2 : cL_law.data.toList.drop 47 = dktL_law_2 := dk_seg dksL_law_1 24 rfl rfl
theorem dksL_law_3 : cL_law.data.toList.drop 69 = dktL_law_3 := dk_seg dksL_law_2 22 rfl rfl
theorem dksL_law_4 : cL_law.data.toList.drop 93 = dktL_law_4 := dk_seg dksL_law_3 24 rfl rfl
theorem dksL_law_5 : cL_law.data.toList.drop 117 = dktL_law_5 := dk_seg dksL_law_4 24 rfl rfl
theorem dksL_law_6 : cL_law.data.toList.drop 140 = dktL_law_6 := dk_seg dksL_law_5 23 rfl rfl
theorem dksL_law_7 : cL_law.data.toList.drop 163 = dktL_law_7 := dk_seg dksL_law_6 23 rfl rfl
theorem dksL_law_8 : cL_law.data.toList.drop 187 = dktL_law_8 := dk_seg dksL_law_7 24 rfl rfl
theorem dksL_law_9 : cL_law.data.toList.drop 211 = dktL_law_9 := dk_seg dksL_law_8 24 rfl rfl
theorem dksL_law_10 : cL_law.data.toList.drop 235 = dktL_law_10 := dk_seg dksL_law_9 24 rfl rfl
theorem dksL_law_11 : cL_law.data.toList.drop 258 = dktL_law_11 := dk_seg dksL_law_10 23 rfl rfl
theorem dksL_law_12 : cL_law.data.toList.drop 280 = dktL_law_12 := dk_seg dksL_law_11 22 rfl rfl
theorem dksL_law_13 : cL_law.data.toList.drop 304 = dktL_law_13 := dk_seg dksL_law_12 24 rfl rfl
theorem dksL_law_14 : cL_law.data.toList.drop 326 = dktL_law_14 := dk_seg dksL_law_13 22 rfl rfl
theorem dksL_law_15 : cL_law.data.toList.drop 350 = dktL_law_15 := dk_seg dksL_law_14 24 rfl rfl
theorem dksL_law_16 : cL_law.data.toList.drop 373 = dktL_law_16 := dk_seg dksL_law_15 23 rfl rfl
theorem dksL_law_17 : cL_law.data.toList.drop 397 = dktL_law_17 := dk_seg dksL_law_16 24 rfl rfl
theorem dksL_law_18 : cL_law.data.toList.drop 421 = dktL_law_18 := dk_seg dksL_law_17 24 rfl rfl
theorem dksL_law_19 : cL_law.data.toList.drop 445 = dktL_law_19 := dk_seg dksL_law_18 24 rfl rfl
theorem dksL_law_20 : cL_law.data.toList.drop 468 = dktL_law_20 := dk_seg dksL_law_19 23 rfl rfl
theorem dksL_law_21 : cL_law.data.toList.drop 492 = dktL_law_21 := dk_seg dksL_law_20 24 rfl rfl
theorem dksL_law_22 : cL_law.data.toList.drop 516 = dktL_law_22 := dk_seg dksL_law_21 24 rfl rfl
theorem dksL_law_23 : cL_law.data.toList.drop 538 = dktL_law_23 := dk_seg dksL_law_22 22 rfl rfl
theorem dksL_law_24 : cL_law.data.toList.drop 562 = dktL_law_24 := dk_seg dksL_law_23 24 rfl rfl
theorem dksL_law_25 : cL_law.data.toList.drop 584 = dktL_law_25 := dk_seg dksL_law_24 22 rfl rfl
theorem dksL_law_26 : cL_law.data.toList.drop 608 = dktL_law_26 := dk_seg dksL_law_25 24 rfl rfl
theorem dksL_law_27 : cL_law.data.toList.drop 632 = dktL_law_27 := dk_seg dksL_law_26 24 rfl rfl
theorem dksL_law_28 : cL_law.data.toList.drop 656 = dktL_law_28 := dk_seg dksL_law_27 24 rfl rfl
theorem dksL_law_29 : cL_law.data.toList.drop 680 = dktL_law_29 := dk_seg dksL_law_28 24 rfl rfl
theorem dksL_law_30 : cL_law.data.toList.drop 704 = dktL_law_30 := dk_seg dksL_law_29 24 rfl rfl
theorem dksL_law_31 : cL_law.data.toList.drop 728 = dktL_law_31 := dk_seg dksL_law_30 24 rfl rfl
theorem dksL_law_32 : cL_law.data.toList.drop 750 = dktL_law_32 := dk_seg dksL_law_31 22 rfl rfl
theorem dksL_law_33 : cL_law.data.toList.drop 774 = dktL_law_33 := dk_seg dksL_law_32 24 rfl rfl
theorem dksL_law_34 : cL_law.data.toList.drop 798 = dktL_law_34 := dk_seg dksL_law_33 24 rfl rfl
theorem dksL_law_35 : cL_law.data.toList.drop 822 = dktL_law_35 := dk_seg dksL_law_34 24 rfl rfl
theorem dksL_law_36 : cL_law.data.toList.drop 845 = dktL_law_36 := dk_seg dksL_law_35 23 rfl rfl
theorem dksL_law_37 : cL_law.data.toList.drop 869 = dktL_law_37 := dk_seg dksL_law_36 24 rfl rfl
theorem dksL_law_38 : cL_law.data.toList.drop 891 = dktL_law_38 := dk_seg dksL_law_37 22 rfl rfl
theorem dksL_law_39 : cL_law.data.toList.drop 915 = dktL_law_39 := dk_seg dksL_law_38 24 rfl rfl
theorem dksL_law_40 : cL_law.data.toList.drop 938 = dktL_law_40 := dk_seg dksL_law_39 23 rfl rfl
theorem dksL_law_41 : cL_law.data.toList.drop 961 = dktL_law_41 := dk_seg dksL_law_40 23 rfl rfl
theorem dksL_law_42 : cL_law.data.toList.drop 984 = dktL_law_42 := dk_seg dksL_law_41 23 rfl rfl
theorem dksL_law_43 : cL_law.data.toList.drop 1007 = dktL_law_43 := dk_seg dksL_law_42 23 rfl rfl
theorem dksL_law_44 : cL_law.data.toList.drop 1029 = dktL_law_44 := dk_seg dksL_law_43 22 rfl rfl
theorem dL_law_0 : decode cL_law 0 = .ok (.new 19, 3) := dk_187 0 19 (dk_at dksL_law_0 0 rfl rfl)
theorem dL_law_3 : decode cL_law 3 = .ok (.dup, 1) := dk_89 (dk_at dksL_law_0 3 rfl rfl)
theorem dL_law_4 : decode cL_law 4 = .ok (.invokespecial 39, 3) := dk_183 0 39 (dk_at dksL_law_0 4 rfl rfl)
theorem dL_law_7 : decode cL_law 7 = .ok (.astore_n 1, 1) := dk_76 (dk_at dksL_law_0 7 rfl rfl)
theorem dL_law_8 : decode cL_law 8 = .ok (.bipush 32, 2) := dk_16 32 (dk_at dksL_law_0 8 rfl rfl)
theorem dL_law_10 : decode cL_law 10 = .ok (.newarray .int, 2) := dk_188_10 (dk_at dksL_law_0 10 rfl rfl)
theorem dL_law_12 : decode cL_law 12 = .ok (.astore_n 2, 1) := dk_77 (dk_at dksL_law_0 12 rfl rfl)
theorem dL_law_13 : decode cL_law 13 = .ok (.sipush 256, 3) := dk_17 1 0 (dk_at dksL_law_0 13 rfl rfl)
theorem dL_law_16 : decode cL_law 16 = .ok (.newarray .int, 2) := dk_188_10 (dk_at dksL_law_0 16 rfl rfl)
theorem dL_law_18 : decode cL_law 18 = .ok (.astore_n 3, 1) := dk_78 (dk_at dksL_law_0 18 rfl rfl)
theorem dL_law_19 : decode cL_law 19 = .ok (.bipush 16, 2) := dk_16 16 (dk_at dksL_law_0 19 rfl rfl)
theorem dL_law_21 : decode cL_law 21 = .ok (.newarray .int, 2) := dk_188_10 (dk_at dksL_law_0 21 rfl rfl)
theorem dL_law_23 : decode cL_law 23 = .ok (.astore 4, 2) := dk_58 4 (dk_at dksL_law_1 0 rfl rfl)
theorem dL_law_25 : decode cL_law 25 = .ok (.bipush 16, 2) := dk_16 16 (dk_at dksL_law_1 2 rfl rfl)
theorem dL_law_27 : decode cL_law 27 = .ok (.newarray .int, 2) := dk_188_10 (dk_at dksL_law_1 4 rfl rfl)
theorem dL_law_29 : decode cL_law 29 = .ok (.astore 5, 2) := dk_58 5 (dk_at dksL_law_1 6 rfl rfl)
theorem dL_law_31 : decode cL_law 31 = .ok (.aload_n 1, 1) := dk_43 (dk_at dksL_law_1 8 rfl rfl)
theorem dL_law_32 : decode cL_law 32 = .ok (.aload_n 0, 1) := dk_42 (dk_at dksL_law_1 9 rfl rfl)
theorem dL_law_33 : decode cL_law 33 = .ok (.bipush 64, 2) := dk_16 64 (dk_at dksL_law_1 10 rfl rfl)
theorem dL_law_35 : decode cL_law 35 = .ok (.invokestatic 32, 3) := dk_184 0 32 (dk_at dksL_law_1 12 rfl rfl)
theorem dL_law_38 : decode cL_law 38 = .ok (.invokevirtual 18, 3) := dk_182 0 18 (dk_at dksL_law_1 15 rfl rfl)
theorem dL_law_41 : decode cL_law 41 = .ok (.bipush (-2), 2) := dk_16 254 (dk_at dksL_law_1 18 rfl rfl)
theorem dL_law_43 : decode cL_law 43 = .ok (.if_icmp .ne 50, 3) := dk_160 0 50 (dk_at dksL_law_1 20 rfl rfl)
theorem dL_law_46 : decode cL_law 46 = .ok (.aload_n 1, 1) := dk_43 (dk_at dksL_law_1 23 rfl rfl)
theorem dL_law_47 : decode cL_law 47 = .ok (.aload_n 0, 1) := dk_42 (dk_at dksL_law_2 0 rfl rfl)
theorem dL_law_48 : decode cL_law 48 = .ok (.bipush 66, 2) := dk_16 66 (dk_at dksL_law_2 1 rfl rfl)
theorem dL_law_50 : decode cL_law 50 = .ok (.invokestatic 32, 3) := dk_184 0 32 (dk_at dksL_law_2 3 rfl rfl)
theorem dL_law_53 : decode cL_law 53 = .ok (.aload_n 0, 1) := dk_42 (dk_at dksL_law_2 6 rfl rfl)
theorem dL_law_54 : decode cL_law 54 = .ok (.bipush 67, 2) := dk_16 67 (dk_at dksL_law_2 7 rfl rfl)
theorem dL_law_56 : decode cL_law 56 = .ok (.invokestatic 32, 3) := dk_184 0 32 (dk_at dksL_law_2 9 rfl rfl)
theorem dL_law_59 : decode cL_law 59 = .ok (.invokevirtual 40, 3) := dk_182 0 40 (dk_at dksL_law_2 12 rfl rfl)
theorem dL_law_62 : decode cL_law 62 = .ok (.ifCond .ne 31, 3) := dk_154 0 31 (dk_at dksL_law_2 15 rfl rfl)
theorem dL_law_65 : decode cL_law 65 = .ok (.aload_n 1, 1) := dk_43 (dk_at dksL_law_2 18 rfl rfl)
theorem dL_law_66 : decode cL_law 66 = .ok (.aload_n 0, 1) := dk_42 (dk_at dksL_law_2 19 rfl rfl)
theorem dL_law_67 : decode cL_law 67 = .ok (.bipush 66, 2) := dk_16 66 (dk_at dksL_law_2 20 rfl rfl)
theorem dL_law_69 : decode cL_law 69 = .ok (.invokestatic 32, 3) := dk_184 0 32 (dk_at dksL_law_3 0 rfl rfl)
theorem dL_law_72 : decode cL_law 72 = .ok (.invokevirtual 26, 3) := dk_182 0 26 (dk_at dksL_law_3 3 rfl rfl)
theorem dL_law_75 : decode cL_law 75 = .ok (.iconst (-1), 1) := dk_2 (dk_at dksL_law_3 6 rfl rfl)
theorem dL_law_76 : decode cL_law 76 = .ok (.if_icmp .ne 17, 3) := dk_160 0 17 (dk_at dksL_law_3 7 rfl rfl)
theorem dL_law_79 : decode cL_law 79 = .ok (.aload_n 1, 1) := dk_43 (dk_at dksL_law_3 10 rfl rfl)
theorem dL_law_80 : decode cL_law 80 = .ok (.aload_n 0, 1) := dk_42 (dk_at dksL_law_3 11 rfl rfl)
theorem dL_law_81 : decode cL_law 81 = .ok (.bipush 66, 2) := dk_16 66 (dk_at dksL_law_3 12 rfl rfl)
theorem dL_law_83 : decode cL_law 83 = .ok (.invokestatic 32, 3) := dk_184 0 32 (dk_at dksL_law_3 14 rfl rfl)
theorem dL_law_86 : decode cL_law 86 = .ok (.invokevirtual 23, 3) := dk_182 0 23 (dk_at dksL_law_3 17 rfl rfl)
theorem dL_law_89 : decode cL_law 89 = .ok (.iconst (-1), 1) := dk_2 (dk_at dksL_law_3 20 rfl rfl)
theorem dL_law_90 : decode cL_law 90 = .ok (.if_icmp .eq 5, 3) := dk_159 0 5 (dk_at dksL_law_3 21 rfl rfl)
theorem dL_law_93 : decode cL_law 93 = .ok (.iconst 0, 1) := dk_3 (dk_at dksL_law_4 0 rfl rfl)
theorem dL_law_94 : decode cL_law 94 = .ok (.ireturn, 1) := dk_172 (dk_at dksL_law_4 1 rfl rfl)
theorem dL_law_95 : decode cL_law 95 = .ok (.iconst 0, 1) := dk_3 (dk_at dksL_law_4 2 rfl rfl)
theorem dL_law_96 : decode cL_law 96 = .ok (.istore 6, 2) := dk_54 6 (dk_at dksL_law_4 3 rfl rfl)
theorem dL_law_98 : decode cL_law 98 = .ok (.iload 6, 2) := dk_21 6 (dk_at dksL_law_4 5 rfl rfl)
theorem dL_law_100 : decode cL_law 100 = .ok (.bipush 8, 2) := dk_16 8 (dk_at dksL_law_4 7 rfl rfl)
theorem dL_law_102 : decode cL_law 102 = .ok (.if_icmp .ge 82, 3) := dk_162 0 82 (dk_at dksL_law_4 9 rfl rfl)
theorem dL_law_105 : decode cL_law 105 = .ok (.aload_n 1, 1) := dk_43 (dk_at dksL_law_4 12 rfl rfl)
theorem dL_law_106 : decode cL_law 106 = .ok (.iload 6, 2) := dk_21 6 (dk_at dksL_law_4 13 rfl rfl)
theorem dL_law_108 : decode cL_law 108 = .ok (.iconst 4, 1) := dk_7 (dk_at dksL_law_4 15 rfl rfl)
theorem dL_law_109 : decode cL_law 109 = .ok (.idiv, 1) := dk_108 (dk_at dksL_law_4 16 rfl rfl)
theorem dL_law_110 : decode cL_law 110 = .ok (.aload_n 0, 1) := dk_42 (dk_at dksL_law_4 17 rfl rfl)
theorem dL_law_111 : decode cL_law 111 = .ok (.iload 6, 2) := dk_21 6 (dk_at dksL_law_4 18 rfl rfl)
theorem dL_law_113 : decode cL_law 113 = .ok (.invokestatic 32, 3) := dk_184 0 32 (dk_at dksL_law_4 20 rfl rfl)
theorem dL_law_116 : decode cL_law 116 = .ok (.aload_n 0, 1) := dk_42 (dk_at dksL_law_4 23 rfl rfl)
theorem dL_law_117 : decode cL_law 117 = .ok (.iload 6, 2) := dk_21 6 (dk_at dksL_law_5 0 rfl rfl)
theorem dL_law_119 : decode cL_law 119 = .ok (.iconst 1, 1) := dk_4 (dk_at dksL_law_5 2 rfl rfl)
theorem dL_law_120 : decode cL_law 120 = .ok (.iadd, 1) := dk_96 (dk_at dksL_law_5 3 rfl rfl)
theorem dL_law_121 : decode cL_law 121 = .ok (.invokestatic 32, 3) := dk_184 0 32 (dk_at dksL_law_5 4 rfl rfl)
theorem dL_law_124 : decode cL_law 124 = .ok (.aload_n 0, 1) := dk_42 (dk_at dksL_law_5 7 rfl rfl)
theorem dL_law_125 : decode cL_law 125 = .ok (.iload 6, 2) := dk_21 6 (dk_at dksL_law_5 8 rfl rfl)
theorem dL_law_127 : decode cL_law 127 = .ok (.iconst 2, 1) := dk_5 (dk_at dksL_law_5 10 rfl rfl)
theorem dL_law_128 : decode cL_law 128 = .ok (.iadd, 1) := dk_96 (dk_at dksL_law_5 11 rfl rfl)
theorem dL_law_129 : decode cL_law 129 = .ok (.invokestatic 32, 3) := dk_184 0 32 (dk_at dksL_law_5 12 rfl rfl)
theorem dL_law_132 : decode cL_law 132 = .ok (.aload_n 0, 1) := dk_42 (dk_at dksL_law_5 15 rfl rfl)
theorem dL_law_133 : decode cL_law 133 = .ok (.iload 6, 2) := dk_21 6 (dk_at dksL_law_5 16 rfl rfl)
theorem dL_law_135 : decode cL_law 135 = .ok (.iconst 3, 1) := dk_6 (dk_at dksL_law_5 18 rfl rfl)
theorem dL_law_136 : decode cL_law 136 = .ok (.iadd, 1) := dk_96 (dk_at dksL_law_5 19 rfl rfl)
theorem dL_law_137 : decode cL_law 137 = .ok (.invokestatic 32, 3) := dk_184 0 32 (dk_at dksL_law_5 20 rfl rfl)
theorem dL_law_140 : decode cL_law 140 = .ok (.invokevirtual 44, 3) := dk_182 0 44 (dk_at dksL_law_6 0 rfl rfl)
theorem dL_law_143 : decode cL_law 143 = .ok (.iconst 0, 1) := dk_3 (dk_at dksL_law_6 3 rfl rfl)
theorem dL_law_144 : decode cL_law 144 = .ok (.istore 7, 2) := dk_54 7 (dk_at dksL_law_6 4 rfl rfl)
theorem dL_law_146 : decode cL_law 146 = .ok (.iload 7, 2) := dk_21 7 (dk_at dksL_law_6 6 rfl rfl)
theorem dL_law_148 : decode cL_law 148 = .ok (.iconst 4, 1) := dk_7 (dk_at dksL_law_6 8 rfl rfl)
theorem dL_law_149 : decode cL_law 149 = .ok (.if_icmp .ge 29, 3) := dk_162 0 29 (dk_at dksL_law_6 9 rfl rfl)
theorem dL_law_152 : decode cL_law 152 = .ok (.aload_n 2, 1) := dk_44 (dk_at dksL_law_6 12 rfl rfl)
theorem dL_law_153 : decode cL_law 153 = .ok (.iconst 4, 1) := dk_7 (dk_at dksL_law_6 13 rfl rfl)
theorem dL_law_154 : decode cL_law 154 = .ok (.iload 6, 2) := dk_21 6 (dk_at dksL_law_6 14 rfl rfl)
theorem dL_law_156 : decode cL_law 156 = .ok (.iload 7, 2) := dk_21 7 (dk_at dksL_law_6 16 rfl rfl)
theorem dL_law_158 : decode cL_law 158 = .ok (.iadd, 1) := dk_96 (dk_at dksL_law_6 18 rfl rfl)
theorem dL_law_159 : decode cL_law 159 = .ok (.imul, 1) := dk_104 (dk_at dksL_law_6 19 rfl rfl)
theorem dL_law_160 : decode cL_law 160 = .ok (.aload_n 0, 1) := dk_42 (dk_at dksL_law_6 20 rfl rfl)
theorem dL_law_161 : decode cL_law 161 = .ok (.iload 6, 2) := dk_21 6 (dk_at dksL_law_6 21 rfl rfl)
theorem dL_law_163 : decode cL_law 163 = .ok (.iload 7, 2) := dk_21 7 (dk_at dksL_law_7 0 rfl rfl)
theorem dL_law_165 : decode cL_law 165 = .ok (.iadd, 1) := dk_96 (dk_at dksL_law_7 2 rfl rfl)
theorem dL_law_166 : decode cL_law 166 = .ok (.invokestatic 32, 3) := dk_184 0 32 (dk_at dksL_law_7 3 rfl rfl)
theorem dL_law_169 : decode cL_law 169 = .ok (.invokestatic 48, 3) := dk_184 0 48 (dk_at dksL_law_7 6 rfl rfl)
theorem dL_law_172 : decode cL_law 172 = .ok (.iinc 7 1, 3) := dk_132 7 1 (dk_at dksL_law_7 9 rfl rfl)
theorem dL_law_175 : decode cL_law 175 = .ok (.goto (-29), 3) := dk_167 255 227 (dk_at dksL_law_7 12 rfl rfl)
theorem dL_law_178 : decode cL_law 178 = .ok (.iinc 6 4, 3) := dk_132 6 4 (dk_at dksL_law_7 15 rfl rfl)
theorem dL_law_181 : decode cL_law 181 = .ok (.goto (-83), 3) := dk_167 255 173 (dk_at dksL_law_7 18 rfl rfl)
theorem dL_law_184 : decode cL_law 184 = .ok (.iconst 0, 1) := dk_3 (dk_at dksL_law_7 21 rfl rfl)
theorem dL_law_185 : decode cL_law 185 = .ok (.istore 6, 2) := dk_54 6 (dk_at dksL_law_7 22 rfl rfl)
theorem dL_law_187 : decode cL_law 187 = .ok (.iload 6, 2) := dk_21 6 (dk_at dksL_law_8 0 rfl rfl)
theorem dL_law_189 : decode cL_law 189 = .ok (.iconst 4, 1) := dk_7 (dk_at dksL_law_8 2 rfl rfl)
theorem dL_law_190 : decode cL_law 190 = .ok (.if_icmp .ge 45, 3) := dk_162 0 45 (dk_at dksL_law_8 3 rfl rfl)
theorem dL_law_193 : decode cL_law 193 = .ok (.aload 4, 2) := dk_25 4 (dk_at dksL_law_8 6 rfl rfl)
theorem dL_law_195 : decode cL_law 195 = .ok (.iconst 4, 1) := dk_7 (dk_at dksL_law_8 8 rfl rfl)
theorem dL_law_196 : decode cL_law 196 = .ok (.iload 6, 2) := dk_21 6 (dk_at dksL_law_8 9 rfl rfl)
theorem dL_law_198 : decode cL_law 198 = .ok (.imul, 1) := dk_104 (dk_at dksL_law_8 11 rfl rfl)
theorem dL_law_199 : decode cL_law 199 = .ok (.aload_n 0, 1) := dk_42 (dk_at dksL_law_8 12 rfl rfl)
theorem dL_law_200 : decode cL_law 200 = .ok (.bipush 8, 2) := dk_16 8 (dk_at dksL_law_8 13 rfl rfl)
theorem dL_law_202 : decode cL_law 202 = .ok (.iload 6, 2) := dk_21 6 (dk_at dksL_law_8 15 rfl rfl)
theorem dL_law_204 : decode cL_law 204 = .ok (.iadd, 1) := dk_96 (dk_at dksL_law_8 17 rfl rfl)
theorem dL_law_205 : decode cL_law 205 = .ok (.invokestatic 32, 3) := dk_184 0 32 (dk_at dksL_law_8 18 rfl rfl)
theorem dL_law_208 : decode cL_law 208 = .ok (.invokestatic 48, 3) := dk_184 0 48 (dk_at dksL_law_8 21 rfl rfl)
theorem dL_law_211 : decode cL_law 211 = .ok (.aload 5, 2) := dk_25 5 (dk_at dksL_law_9 0 rfl rfl)
theorem dL_law_213 : decode cL_law 213 = .ok (.iconst 4, 1) := dk_7 (dk_at dksL_law_9 2 rfl rfl)
theorem dL_law_214 : decode cL_law 214 = .ok (.iload 6, 2) := dk_21 6 (dk_at dksL_law_9 3 rfl rfl)
theorem dL_law_216 : decode cL_law 216 = .ok (.imul, 1) := dk_104 (dk_at dksL_law_9 5 rfl rfl)
theorem dL_law_217 : decode cL_law 217 = .ok (.aload_n 0, 1) := dk_42 (dk_at dksL_law_9 6 rfl rfl)
theorem dL_law_218 : decode cL_law 218 = .ok (.bipush 68, 2) := dk_16 68 (dk_at dksL_law_9 7 rfl rfl)
theorem dL_law_220 : decode cL_law 220 = .ok (.iload 6, 2) := dk_21 6 (dk_at dksL_law_9 9 rfl rfl)
theorem dL_law_222 : decode cL_law 222 = .ok (.iadd, 1) := dk_96 (dk_at dksL_law_9 11 rfl rfl)
theorem dL_law_223 : decode cL_law 223 = .ok (.invokestatic 32, 3) := dk_184 0 32 (dk_at dksL_law_9 12 rfl rfl)
theorem dL_law_226 : decode cL_law 226 = .ok (.invokestatic 48, 3) := dk_184 0 48 (dk_at dksL_law_9 15 rfl rfl)
theorem dL_law_229 : decode cL_law 229 = .ok (.iinc 6 1, 3) := dk_132 6 1 (dk_at dksL_law_9 18 rfl rfl)
theorem dL_law_232 : decode cL_law 232 = .ok (.goto (-45), 3) := dk_167 255 211 (dk_at dksL_law_9 21 rfl rfl)
theorem dL_law_235 : decode cL_law 235 = .ok (.bipush 12, 2) := dk_16 12 (dk_at dksL_law_10 0 rfl rfl)
theorem dL_law_237 : decode cL_law 237 = .ok (.istore 6, 2) := dk_54 6 (dk_at dksL_law_10 2 rfl rfl)
theorem dL_law_239 : decode cL_law 239 = .ok (.iload 6, 2) := dk_21 6 (dk_at dksL_law_10 4 rfl rfl)
theorem dL_law_241 : decode cL_law 241 = .ok (.bipush 60, 2) := dk_16 60 (dk_at dksL_law_10 6 rfl rfl)
theorem dL_law_243 : decode cL_law 243 = .ok (.if_icmp .ge 86, 3) := dk_162 0 86 (dk_at dksL_law_10 8 rfl rfl)
theorem dL_law_246 : decode cL_law 246 = .ok (.aload_n 1, 1) := dk_43 (dk_at dksL_law_10 11 rfl rfl)
theorem dL_law_247 : decode cL_law 247 = .ok (.aload_n 0, 1) := dk_42 (dk_at dksL_law_10 12 rfl rfl)
theorem dL_law_248 : decode cL_law 248 = .ok (.iload 6, 2) := dk_21 6 (dk_at dksL_law_10 13 rfl rfl)
theorem dL_law_250 : decode cL_law 250 = .ok (.invokestatic 32, 3) := dk_184 0 32 (dk_at dksL_law_10 15 rfl rfl)
theorem dL_law_253 : decode cL_law 253 = .ok (.aload_n 0, 1) := dk_42 (dk_at dksL_law_10 18 rfl rfl)
theorem dL_law_254 : decode cL_law 254 = .ok (.iload 6, 2) := dk_21 6 (dk_at dksL_law_10 19 rfl rfl)
theorem dL_law_256 : decode cL_law 256 = .ok (.iconst 1, 1) := dk_4 (dk_at dksL_law_10 21 rfl rfl)
theorem dL_law_257 : decode cL_law 257 = .ok (.iadd, 1) := dk_96 (dk_at dksL_law_10 22 rfl rfl)
theorem dL_law_258 : decode cL_law 258 = .ok (.invokestatic 32, 3) := dk_184 0 32 (dk_at dksL_law_11 0 rfl rfl)
theorem dL_law_261 : decode cL_law 261 = .ok (.aload_n 0, 1) := dk_42 (dk_at dksL_law_11 3 rfl rfl)
theorem dL_law_262 : decode cL_law 262 = .ok (.iload 6, 2) := dk_21 6 (dk_at dksL_law_11 4 rfl rfl)
theorem dL_law_264 : decode cL_law 264 = .ok (.iconst 2, 1) := dk_5 (dk_at dksL_law_11 6 rfl rfl)
theorem dL_law_265 : decode cL_law 265 = .ok (.iadd, 1) := dk_96 (dk_at dksL_law_11 7 rfl rfl)
theorem dL_law_266 : decode cL_law 266 = .ok (.invokestatic 32, 3) := dk_184 0 32 (dk_at dksL_law_11 8 rfl rfl)
theorem dL_law_269 : decode cL_law 269 = .ok (.aload_n 0, 1) := dk_42 (dk_at dksL_law_11 11 rfl rfl)
theorem dL_law_270 : decode cL_law 270 = .ok (.iload 6, 2) := dk_21 6 (dk_at dksL_law_11 12 rfl rfl)
theorem dL_law_272 : decode cL_law 272 = .ok (.iconst 3, 1) := dk_6 (dk_at dksL_law_11 14 rfl rfl)
theorem dL_law_273 : decode cL_law 273 = .ok (.iadd, 1) := dk_96 (dk_at dksL_law_11 15 rfl rfl)
theorem dL_law_274 : decode cL_law 274 = .ok (.invokestatic 32, 3) := dk_184 0 32 (dk_at dksL_law_11 16 rfl rfl)
theorem dL_law_277 : decode cL_law 277 = .ok (.invokevirtual 52, 3) := dk_182 0 52 (dk_at dksL_law_11 19 rfl rfl)
theorem dL_law_280 : decode cL_law 280 = .ok (.ifCond .ne 5, 3) := dk_154 0 5 (dk_at dksL_law_12 0 rfl rfl)
theorem dL_law_283 : decode cL_law 283 = .ok (.iconst 0, 1) := dk_3 (dk_at dksL_law_12 3 rfl rfl)
theorem dL_law_284 : decode cL_law 284 = .ok (.ireturn, 1) := dk_172 (dk_at dksL_law_12 4 rfl rfl)
theorem dL_law_285 : decode cL_law 285 = .ok (.iconst 0, 1) := dk_3 (dk_at dksL_law_12 5 rfl rfl)
theorem dL_law_286 : decode cL_law 286 = .ok (.istore 7, 2) := dk_54 7 (dk_at dksL_law_12 6 rfl rfl)
theorem dL_law_288 : decode cL_law 288 = .ok (.iload 7, 2) := dk_21 7 (dk_at dksL_law_12 8 rfl rfl)
theorem dL_law_290 : decode cL_law 290 = .ok (.iconst 4, 1) := dk_7 (dk_at dksL_law_12 10 rfl rfl)
theorem dL_law_291 : decode cL_law 291 = .ok (.if_icmp .ge 32, 3) := dk_162 0 32 (dk_at dksL_law_12 11 rfl rfl)
theorem dL_law_294 : decode cL_law 294 = .ok (.aload_n 3, 1) := dk_45 (dk_at dksL_law_12 14 rfl rfl)
theorem dL_law_295 : decode cL_law 295 = .ok (.iconst 4, 1) := dk_7 (dk_at dksL_law_12 15 rfl rfl)
theorem dL_law_296 : decode cL_law 296 = .ok (.iload 6, 2) := dk_21 6 (dk_at dksL_law_12 16 rfl rfl)
theorem dL_law_298 : decode cL_law 298 = .ok (.bipush 12, 2) := dk_16 12 (dk_at dksL_law_12 18 rfl rfl)
theorem dL_law_300 : decode cL_law 300 = .ok (.isub, 1) := dk_100 (dk_at dksL_law_12 20 rfl rfl)
theorem dL_law_301 : decode cL_law 301 = .ok (.iload 7, 2) := dk_21 7 (dk_at dksL_law_12 21 rfl rfl)
theorem dL_law_303 : decode cL_law 303 = .ok (.iadd, 1) := dk_96 (dk_at dksL_law_12 23 rfl rfl)
theorem dL_law_304 : decode cL_law 304 = .ok (.imul, 1) := dk_104 (dk_at dksL_law_13 0 rfl rfl)
theorem dL_law_305 : decode cL_law 305 = .ok (.aload_n 0, 1) := dk_42 (dk_at dksL_law_13 1 rfl rfl)
theorem dL_law_306 : decode cL_law 306 = .ok (.iload 6, 2) := dk_21 6 (dk_at dksL_law_13 2 rfl rfl)
theorem dL_law_308 : decode cL_law 308 = .ok (.iload 7, 2) := dk_21 7 (dk_at dksL_law_13 4 rfl rfl)
theorem dL_law_310 : decode cL_law 310 = .ok (.iadd, 1) := dk_96 (dk_at dksL_law_13 6 rfl rfl)
theorem dL_law_311 : decode cL_law 311 = .ok (.invokestatic 32, 3) := dk_184 0 32 (dk_at dksL_law_13 7 rfl rfl)
theorem dL_law_314 : decode cL_law 314 = .ok (.invokestatic 48, 3) := dk_184 0 48 (dk_at dksL_law_13 10 rfl rfl)
theorem dL_law_317 : decode cL_law 317 = .ok (.iinc 7 1, 3) := dk_132 7 1 (dk_at dksL_law_13 13 rfl rfl)
theorem dL_law_320 : decode cL_law 320 = .ok (.goto (-32), 3) := dk_167 255 224 (dk_at dksL_law_13 16 rfl rfl)
theorem dL_law_323 : decode cL_law 323 = .ok (.iinc 6 4, 3) := dk_132 6 4 (dk_at dksL_law_13 19 rfl rfl)
theorem dL_law_326 : decode cL_law 326 = .ok (.goto (-87), 3) := dk_167 255 169 (dk_at dksL_law_14 0 rfl rfl)
theorem dL_law_329 : decode cL_law 329 = .ok (.aload_n 0, 1) := dk_42 (dk_at dksL_law_14 3 rfl rfl)
theorem dL_law_330 : decode cL_law 330 = .ok (.bipush 60, 2) := dk_16 60 (dk_at dksL_law_14 4 rfl rfl)
theorem dL_law_332 : decode cL_law 332 = .ok (.invokestatic 32, 3) := dk_184 0 32 (dk_at dksL_law_14 6 rfl rfl)
theorem dL_law_335 : decode cL_law 335 = .ok (.invokestatic 29, 3) := dk_184 0 29 (dk_at dksL_law_14 9 rfl rfl)
theorem dL_law_338 : decode cL_law 338 = .ok (.bipush 9, 2) := dk_16 9 (dk_at dksL_law_14 12 rfl rfl)
theorem dL_law_340 : decode cL_law 340 = .ok (.irem, 1) := dk_112 (dk_at dksL_law_14 14 rfl rfl)
theorem dL_law_341 : decode cL_law 341 = .ok (.istore 6, 2) := dk_54 6 (dk_at dksL_law_14 15 rfl rfl)
theorem dL_law_343 : decode cL_law 343 = .ok (.iload 6, 2) := dk_21 6 (dk_at dksL_law_14 17 rfl rfl)
theorem dL_law_345 : decode cL_law 345 = .ok (.iconst 3, 1) := dk_6 (dk_at dksL_law_14 19 rfl rfl)
theorem dL_law_346 : decode cL_law 346 = .ok (.idiv, 1) := dk_108 (dk_at dksL_law_14 20 rfl rfl)
theorem dL_law_347 : decode cL_law 347 = .ok (.istore 7, 2) := dk_54 7 (dk_at dksL_law_14 21 rfl rfl)
theorem dL_law_349 : decode cL_law 349 = .ok (.aload_n 0, 1) := dk_42 (dk_at dksL_law_14 23 rfl rfl)
theorem dL_law_350 : decode cL_law 350 = .ok (.bipush 61, 2) := dk_16 61 (dk_at dksL_law_15 0 rfl rfl)
theorem dL_law_352 : decode cL_law 352 = .ok (.invokestatic 32, 3) := dk_184 0 32 (dk_at dksL_law_15 2 rfl rfl)
theorem dL_law_355 : decode cL_law 355 = .ok (.invokestatic 29, 3) := dk_184 0 29 (dk_at dksL_law_15 5 rfl rfl)
theorem dL_law_358 : decode cL_law 358 = .ok (.sipush 193, 3) := dk_17 0 193 (dk_at dksL_law_15 8 rfl rfl)
theorem dL_law_361 : decode cL_law 361 = .ok (.irem, 1) := dk_112 (dk_at dksL_law_15 11 rfl rfl)
theorem dL_law_362 : decode cL_law 362 = .ok (.istore 8, 2) := dk_54 8 (dk_at dksL_law_15 12 rfl rfl)
theorem dL_law_364 : decode cL_law 364 = .ok (.aload_n 0, 1) := dk_42 (dk_at dksL_law_15 14 rfl rfl)
theorem dL_law_365 : decode cL_law 365 = .ok (.bipush 62, 2) := dk_16 62 (dk_at dksL_law_15 15 rfl rfl)
theorem dL_law_367 : decode cL_law 367 = .ok (.invokestatic 32, 3) := dk_184 0 32 (dk_at dksL_law_15 17 rfl rfl)
theorem dL_law_370 : decode cL_law 370 = .ok (.invokestatic 29, 3) := dk_184 0 29 (dk_at dksL_law_15 20 rfl rfl)
theorem dL_law_373 : decode cL_law 373 = .ok (.iload 8, 2) := dk_21 8 (dk_at dksL_law_16 0 rfl rfl)
theorem dL_law_375 : decode cL_law 375 = .ok (.iconst 1, 1) := dk_4 (dk_at dksL_law_16 2 rfl rfl)
theorem dL_law_376 : decode cL_law 376 = .ok (.iadd, 1) := dk_96 (dk_at dksL_law_16 3 rfl rfl)
theorem dL_law_377 : decode cL_law 377 = .ok (.irem, 1) := dk_112 (dk_at dksL_law_16 4 rfl rfl)
theorem dL_law_378 : decode cL_law 378 = .ok (.istore 9, 2) := dk_54 9 (dk_at dksL_law_16 5 rfl rfl)
theorem dL_law_380 : decode cL_law 380 = .ok (.aload_n 0, 1) := dk_42 (dk_at dksL_law_16 7 rfl rfl)
theorem dL_law_381 : decode cL_law 381 = .ok (.bipush 63, 2) := dk_16 63 (dk_at dksL_law_16 8 rfl rfl)
theorem dL_law_383 : decode cL_law 383 = .ok (.invokestatic 32, 3) := dk_184 0 32 (dk_at dksL_law_16 10 rfl rfl)
theorem dL_law_386 : decode cL_law 386 = .ok (.invokestatic 29, 3) := dk_184 0 29 (dk_at dksL_law_16 13 rfl rfl)
theorem dL_law_389 : decode cL_law 389 = .ok (.iload 8, 2) := dk_21 8 (dk_at dksL_law_16 16 rfl rfl)
theorem dL_law_391 : decode cL_law 391 = .ok (.iload 9, 2) := dk_21 9 (dk_at dksL_law_16 18 rfl rfl)
theorem dL_law_393 : decode cL_law 393 = .ok (.isub, 1) := dk_100 (dk_at dksL_law_16 20 rfl rfl)
theorem dL_law_394 : decode cL_law 394 = .ok (.iconst 1, 1) := dk_4 (dk_at dksL_law_16 21 rfl rfl)
theorem dL_law_395 : decode cL_law 395 = .ok (.iadd, 1) := dk_96 (dk_at dksL_law_16 22 rfl rfl)
theorem dL_law_396 : decode cL_law 396 = .ok (.irem, 1) := dk_112 (dk_at dksL_law_16 23 rfl rfl)
theorem dL_law_397 : decode cL_law 397 = .ok (.istore 10, 2) := dk_54 10 (dk_at dksL_law_17 0 rfl rfl)
theorem dL_law_399 : decode cL_law 399 = .ok (.aload_n 1, 1) := dk_43 (dk_at dksL_law_17 2 rfl rfl)
theorem dL_law_400 : decode cL_law 400 = .ok (.aload_n 0, 1) := dk_42 (dk_at dksL_law_17 3 rfl rfl)
theorem dL_law_401 : decode cL_law 401 = .ok (.bipush 60, 2) := dk_16 60 (dk_at dksL_law_17 4 rfl rfl)
theorem dL_law_403 : decode cL_law 403 = .ok (.invokestatic 32, 3) := dk_184 0 32 (dk_at dksL_law_17 6 rfl rfl)
theorem dL_law_406 : decode cL_law 406 = .ok (.invokevirtual 56, 3) := dk_182 0 56 (dk_at dksL_law_17 9 rfl rfl)
theorem dL_law_409 : decode cL_law 409 = .ok (.aload_n 1, 1) := dk_43 (dk_at dksL_law_17 12 rfl rfl)
theorem dL_law_410 : decode cL_law 410 = .ok (.aload_n 0, 1) := dk_42 (dk_at dksL_law_17 13 rfl rfl)
theorem dL_law_411 : decode cL_law 411 = .ok (.bipush 61, 2) := dk_16 61 (dk_at dksL_law_17 14 rfl rfl)
theorem dL_law_413 : decode cL_law 413 = .ok (.invokestatic 32, 3) := dk_184 0 32 (dk_at dksL_law_17 16 rfl rfl)
theorem dL_law_416 : decode cL_law 416 = .ok (.invokevirtual 60, 3) := dk_182 0 60 (dk_at dksL_law_17 19 rfl rfl)
theorem dL_law_419 : decode cL_law 419 = .ok (.aload_n 1, 1) := dk_43 (dk_at dksL_law_17 22 rfl rfl)
theorem dL_law_420 : decode cL_law 420 = .ok (.aload_n 0, 1) := dk_42 (dk_at dksL_law_17 23 rfl rfl)
theorem dL_law_421 : decode cL_law 421 = .ok (.bipush 8, 2) := dk_16 8 (dk_at dksL_law_18 0 rfl rfl)
theorem dL_law_423 : decode cL_law 423 = .ok (.bipush 78, 2) := dk_16 78 (dk_at dksL_law_18 2 rfl rfl)
theorem dL_law_425 : decode cL_law 425 = .ok (.invokestatic 63, 3) := dk_184 0 63 (dk_at dksL_law_18 4 rfl rfl)
theorem dL_law_428 : decode cL_law 428 = .ok (.aload_n 3, 1) := dk_45 (dk_at dksL_law_18 7 rfl rfl)
theorem dL_law_429 : decode cL_law 429 = .ok (.iload 9, 2) := dk_21 9 (dk_at dksL_law_18 8 rfl rfl)
theorem dL_law_431 : decode cL_law 431 = .ok (.iload 10, 2) := dk_21 10 (dk_at dksL_law_18 10 rfl rfl)
theorem dL_law_433 : decode cL_law 433 = .ok (.iload 7, 2) := dk_21 7 (dk_at dksL_law_18 12 rfl rfl)
theorem dL_law_435 : decode cL_law 435 = .ok (.invokestatic 66, 3) := dk_184 0 66 (dk_at dksL_law_18 14 rfl rfl)
theorem dL_law_438 : decode cL_law 438 = .ok (.astore 11, 2) := dk_58 11 (dk_at dksL_law_18 17 rfl rfl)
theorem dL_law_440 : decode cL_law 440 = .ok (.aload 11, 2) := dk_25 11 (dk_at dksL_law_18 19 rfl rfl)
theorem dL_law_442 : decode cL_law 442 = .ok (.arraylength, 1) := dk_190 (dk_at dksL_law_18 21 rfl rfl)
theorem dL_law_443 : decode cL_law 443 = .ok (.newarray .int, 2) := dk_188_10 (dk_at dksL_law_18 22 rfl rfl)
theorem dL_law_445 : decode cL_law 445 = .ok (.astore 12, 2) := dk_58 12 (dk_at dksL_law_19 0 rfl rfl)
theorem dL_law_447 : decode cL_law 447 = .ok (.invokestatic 70, 3) := dk_184 0 70 (dk_at dksL_law_19 2 rfl rfl)
theorem dL_law_450 : decode cL_law 450 = .ok (.astore 13, 2) := dk_58 13 (dk_at dksL_law_19 5 rfl rfl)
theorem dL_law_452 : decode cL_law 452 = .ok (.aload_n 2, 1) := dk_44 (dk_at dksL_law_19 7 rfl rfl)
theorem dL_law_453 : decode cL_law 453 = .ok (.bipush 16, 2) := dk_16 16 (dk_at dksL_law_19 8 rfl rfl)
theorem dL_law_455 : decode cL_law 455 = .ok (.bipush 8, 2) := dk_16 8 (dk_at dksL_law_19 10 rfl rfl)
theorem dL_law_457 : decode cL_law 457 = .ok (.iload 6, 2) := dk_21 6 (dk_at dksL_law_19 12 rfl rfl)
theorem dL_law_459 : decode cL_law 459 = .ok (.iconst 3, 1) := dk_6 (dk_at dksL_law_19 14 rfl rfl)
theorem dL_law_460 : decode cL_law 460 = .ok (.irem, 1) := dk_112 (dk_at dksL_law_19 15 rfl rfl)
theorem dL_law_461 : decode cL_law 461 = .ok (.imul, 1) := dk_104 (dk_at dksL_law_19 16 rfl rfl)
theorem dL_law_462 : decode cL_law 462 = .ok (.iadd, 1) := dk_96 (dk_at dksL_law_19 17 rfl rfl)
theorem dL_law_463 : decode cL_law 463 = .ok (.aload 13, 2) := dk_25 13 (dk_at dksL_law_19 18 rfl rfl)
theorem dL_law_465 : decode cL_law 465 = .ok (.invokestatic 74, 3) := dk_184 0 74 (dk_at dksL_law_19 20 rfl rfl)
theorem dL_law_468 : decode cL_law 468 = .ok (.astore 14, 2) := dk_58 14 (dk_at dksL_law_20 0 rfl rfl)
theorem dL_law_470 : decode cL_law 470 = .ok (.iconst 0, 1) := dk_3 (dk_at dksL_law_20 2 rfl rfl)
theorem dL_law_471 : decode cL_law 471 = .ok (.istore 15, 2) := dk_54 15 (dk_at dksL_law_20 3 rfl rfl)
theorem dL_law_473 : decode cL_law 473 = .ok (.iload 15, 2) := dk_21 15 (dk_at dksL_law_20 5 rfl rfl)
theorem dL_law_475 : decode cL_law 475 = .ok (.aload 11, 2) := dk_25 11 (dk_at dksL_law_20 7 rfl rfl)
theorem dL_law_477 : decode cL_law 477 = .ok (.arraylength, 1) := dk_190 (dk_at dksL_law_20 9 rfl rfl)
theorem dL_law_478 : decode cL_law 478 = .ok (.if_icmp .ge 109, 3) := dk_162 0 109 (dk_at dksL_law_20 10 rfl rfl)
theorem dL_law_481 : decode cL_law 481 = .ok (.bipush 16, 2) := dk_16 16 (dk_at dksL_law_20 13 rfl rfl)
theorem dL_law_483 : decode cL_law 483 = .ok (.newarray .int, 2) := dk_188_10 (dk_at dksL_law_20 15 rfl rfl)
theorem dL_law_485 : decode cL_law 485 = .ok (.astore 16, 2) := dk_58 16 (dk_at dksL_law_20 17 rfl rfl)
theorem dL_law_487 : decode cL_law 487 = .ok (.iconst 0, 1) := dk_3 (dk_at dksL_law_20 19 rfl rfl)
theorem dL_law_488 : decode cL_law 488 = .ok (.istore 17, 2) := dk_54 17 (dk_at dksL_law_20 20 rfl rfl)
theorem dL_law_490 : decode cL_law 490 = .ok (.iload 17, 2) := dk_21 17 (dk_at dksL_law_20 22 rfl rfl)
theorem dL_law_492 : decode cL_law 492 = .ok (.bipush 16, 2) := dk_16 16 (dk_at dksL_law_21 0 rfl rfl)
theorem dL_law_494 : decode cL_law 494 = .ok (.if_icmp .ge 47, 3) := dk_162 0 47 (dk_at dksL_law_21 2 rfl rfl)
theorem dL_law_497 : decode cL_law 497 = .ok (.aload 16, 2) := dk_25 16 (dk_at dksL_law_21 5 rfl rfl)
theorem dL_law_499 : decode cL_law 499 = .ok (.iload 17, 2) := dk_21 17 (dk_at dksL_law_21 7 rfl rfl)
theorem dL_law_501 : decode cL_law 501 = .ok (.aload 11, 2) := dk_25 11 (dk_at dksL_law_21 9 rfl rfl)
theorem dL_law_503 : decode cL_law 503 = .ok (.iload 15, 2) := dk_21 15 (dk_at dksL_law_21 11 rfl rfl)
theorem dL_law_505 : decode cL_law 505 = .ok (.iload 17, 2) := dk_21 17 (dk_at dksL_law_21 13 rfl rfl)
theorem dL_law_507 : decode cL_law 507 = .ok (.iadd, 1) := dk_96 (dk_at dksL_law_21 15 rfl rfl)
theorem dL_law_508 : decode cL_law 508 = .ok (.iaload, 1) := dk_46 (dk_at dksL_law_21 16 rfl rfl)
theorem dL_law_509 : decode cL_law 509 = .ok (.iload 15, 2) := dk_21 15 (dk_at dksL_law_21 17 rfl rfl)
theorem dL_law_511 : decode cL_law 511 = .ok (.ifCond .ne 11, 3) := dk_154 0 11 (dk_at dksL_law_21 19 rfl rfl)
theorem dL_law_514 : decode cL_law 514 = .ok (.aload 4, 2) := dk_25 4 (dk_at dksL_law_21 22 rfl rfl)
theorem dL_law_516 : decode cL_law 516 = .ok (.iload 17, 2) := dk_21 17 (dk_at dksL_law_22 0 rfl rfl)
theorem dL_law_518 : decode cL_law 518 = .ok (.iaload, 1) := dk_46 (dk_at dksL_law_22 2 rfl rfl)
theorem dL_law_519 : decode cL_law 519 = .ok (.goto 14, 3) := dk_167 0 14 (dk_at dksL_law_22 3 rfl rfl)
theorem dL_law_522 : decode cL_law 522 = .ok (.aload 12, 2) := dk_25 12 (dk_at dksL_law_22 6 rfl rfl)
theorem dL_law_524 : decode cL_law 524 = .ok (.iload 15, 2) := dk_21 15 (dk_at dksL_law_22 8 rfl rfl)
theorem dL_law_526 : decode cL_law 526 = .ok (.bipush 16, 2) := dk_16 16 (dk_at dksL_law_22 10 rfl rfl)
theorem dL_law_528 : decode cL_law 528 = .ok (.isub, 1) := dk_100 (dk_at dksL_law_22 12 rfl rfl)
theorem dL_law_529 : decode cL_law 529 = .ok (.iload 17, 2) := dk_21 17 (dk_at dksL_law_22 13 rfl rfl)
theorem dL_law_531 : decode cL_law 531 = .ok (.iadd, 1) := dk_96 (dk_at dksL_law_22 15 rfl rfl)
theorem dL_law_532 : decode cL_law 532 = .ok (.iaload, 1) := dk_46 (dk_at dksL_law_22 16 rfl rfl)
theorem dL_law_533 : decode cL_law 533 = .ok (.ixor, 1) := dk_130 (dk_at dksL_law_22 17 rfl rfl)
theorem dL_law_534 : decode cL_law 534 = .ok (.iastore, 1) := dk_79 (dk_at dksL_law_22 18 rfl rfl)
theorem dL_law_535 : decode cL_law 535 = .ok (.iinc 17 1, 3) := dk_132 17 1 (dk_at dksL_law_22 19 rfl rfl)
theorem dL_law_538 : decode cL_law 538 = .ok (.goto (-48), 3) := dk_167 255 208 (dk_at dksL_law_23 0 rfl rfl)
theorem dL_law_541 : decode cL_law 541 = .ok (.aload 16, 2) := dk_25 16 (dk_at dksL_law_23 3 rfl rfl)
theorem dL_law_543 : decode cL_law 543 = .ok (.aload 14, 2) := dk_25 14 (dk_at dksL_law_23 5 rfl rfl)
theorem dL_law_545 : decode cL_law 545 = .ok (.aload 13, 2) := dk_25 13 (dk_at dksL_law_23 7 rfl rfl)
theorem dL_law_547 : decode cL_law 547 = .ok (.invokestatic 78, 3) := dk_184 0 78 (dk_at dksL_law_23 9 rfl rfl)
theorem dL_law_550 : decode cL_law 550 = .ok (.astore 17, 2) := dk_58 17 (dk_at dksL_law_23 12 rfl rfl)
theorem dL_law_552 : decode cL_law 552 = .ok (.iconst 0, 1) := dk_3 (dk_at dksL_law_23 14 rfl rfl)
theorem dL_law_553 : decode cL_law 553 = .ok (.istore 18, 2) := dk_54 18 (dk_at dksL_law_23 15 rfl rfl)
theorem dL_law_555 : decode cL_law 555 = .ok (.iload 18, 2) := dk_21 18 (dk_at dksL_law_23 17 rfl rfl)
theorem dL_law_557 : decode cL_law 557 = .ok (.bipush 16, 2) := dk_16 16 (dk_at dksL_law_23 19 rfl rfl)
theorem dL_law_559 : decode cL_law 559 = .ok (.if_icmp .ge 22, 3) := dk_162 0 22 (dk_at dksL_law_23 21 rfl rfl)
theorem dL_law_562 : decode cL_law 562 = .ok (.aload 12, 2) := dk_25 12 (dk_at dksL_law_24 0 rfl rfl)
theorem dL_law_564 : decode cL_law 564 = .ok (.iload 15, 2) := dk_21 15 (dk_at dksL_law_24 2 rfl rfl)
theorem dL_law_566 : decode cL_law 566 = .ok (.iload 18, 2) := dk_21 18 (dk_at dksL_law_24 4 rfl rfl)
theorem dL_law_568 : decode cL_law 568 = .ok (.iadd, 1) := dk_96 (dk_at dksL_law_24 6 rfl rfl)
theorem dL_law_569 : decode cL_law 569 = .ok (.aload 17, 2) := dk_25 17 (dk_at dksL_law_24 7 rfl rfl)
theorem dL_law_571 : decode cL_law 571 = .ok (.iload 18, 2) := dk_21 18 (dk_at dksL_law_24 9 rfl rfl)
theorem dL_law_573 : decode cL_law 573 = .ok (.iaload, 1) := dk_46 (dk_at dksL_law_24 11 rfl rfl)
theorem dL_law_574 : decode cL_law 574 = .ok (.iastore, 1) := dk_79 (dk_at dksL_law_24 12 rfl rfl)
theorem dL_law_575 : decode cL_law 575 = .ok (.iinc 18 1, 3) := dk_132 18 1 (dk_at dksL_law_24 13 rfl rfl)
theorem dL_law_578 : decode cL_law 578 = .ok (.goto (-23), 3) := dk_167 255 233 (dk_at dksL_law_24 16 rfl rfl)
theorem dL_law_581 : decode cL_law 581 = .ok (.iinc 15 16, 3) := dk_132 15 16 (dk_at dksL_law_24 19 rfl rfl)
theorem dL_law_584 : decode cL_law 584 = .ok (.goto (-111), 3) := dk_167 255 145 (dk_at dksL_law_25 0 rfl rfl)
theorem dL_law_587 : decode cL_law 587 = .ok (.bipush 64, 2) := dk_16 64 (dk_at dksL_law_25 3 rfl rfl)
theorem dL_law_589 : decode cL_law 589 = .ok (.istore 15, 2) := dk_54 15 (dk_at dksL_law_25 5 rfl rfl)
theorem dL_law_591 : decode cL_law 591 = .ok (.iload 15, 2) := dk_21 15 (dk_at dksL_law_25 7 rfl rfl)
theorem dL_law_593 : decode cL_law 593 = .ok (.bipush 66, 2) := dk_16 66 (dk_at dksL_law_25 9 rfl rfl)
theorem dL_law_595 : decode cL_law 595 = .ok (.if_icmp .ge 54, 3) := dk_162 0 54 (dk_at dksL_law_25 11 rfl rfl)
theorem dL_law_598 : decode cL_law 598 = .ok (.aload_n 1, 1) := dk_43 (dk_at dksL_law_25 14 rfl rfl)
theorem dL_law_599 : decode cL_law 599 = .ok (.aload_n 0, 1) := dk_42 (dk_at dksL_law_25 15 rfl rfl)
theorem dL_law_600 : decode cL_law 600 = .ok (.bipush 62, 2) := dk_16 62 (dk_at dksL_law_25 16 rfl rfl)
theorem dL_law_602 : decode cL_law 602 = .ok (.invokestatic 32, 3) := dk_184 0 32 (dk_at dksL_law_25 18 rfl rfl)
theorem dL_law_605 : decode cL_law 605 = .ok (.aload_n 0, 1) := dk_42 (dk_at dksL_law_25 21 rfl rfl)
theorem dL_law_606 : decode cL_law 606 = .ok (.bipush 63, 2) := dk_16 63 (dk_at dksL_law_25 22 rfl rfl)
theorem dL_law_608 : decode cL_law 608 = .ok (.invokestatic 32, 3) := dk_184 0 32 (dk_at dksL_law_26 0 rfl rfl)
theorem dL_law_611 : decode cL_law 611 = .ok (.aload_n 0, 1) := dk_42 (dk_at dksL_law_26 3 rfl rfl)
theorem dL_law_612 : decode cL_law 612 = .ok (.iload 15, 2) := dk_21 15 (dk_at dksL_law_26 4 rfl rfl)
theorem dL_law_614 : decode cL_law 614 = .ok (.invokestatic 32, 3) := dk_184 0 32 (dk_at dksL_law_26 6 rfl rfl)
theorem dL_law_617 : decode cL_law 617 = .ok (.invokevirtual 82, 3) := dk_182 0 82 (dk_at dksL_law_26 9 rfl rfl)
theorem dL_law_620 : decode cL_law 620 = .ok (.aload 12, 2) := dk_25 12 (dk_at dksL_law_26 12 rfl rfl)
theorem dL_law_622 : decode cL_law 622 = .ok (.arraylength, 1) := dk_190 (dk_at dksL_law_26 14 rfl rfl)
theorem dL_law_623 : decode cL_law 623 = .ok (.if_icmp .ne 18, 3) := dk_160 0 18 (dk_at dksL_law_26 15 rfl rfl)
theorem dL_law_626 : decode cL_law 626 = .ok (.aload_n 1, 1) := dk_43 (dk_at dksL_law_26 18 rfl rfl)
theorem dL_law_627 : decode cL_law 627 = .ok (.aload 12, 2) := dk_25 12 (dk_at dksL_law_26 19 rfl rfl)
theorem dL_law_629 : decode cL_law 629 = .ok (.aload_n 0, 1) := dk_42 (dk_at dksL_law_26 21 rfl rfl)
theorem dL_law_630 : decode cL_law 630 = .ok (.bipush 72, 2) := dk_16 72 (dk_at dksL_law_26 22 rfl rfl)
theorem dL_law_632 : decode cL_law 632 = .ok (.invokestatic 32, 3) := dk_184 0 32 (dk_at dksL_law_27 0 rfl rfl)
theorem dL_law_635 : decode cL_law 635 = .ok (.invokestatic 86, 3) := dk_184 0 86 (dk_at dksL_law_27 3 rfl rfl)
theorem dL_law_638 : decode cL_law 638 = .ok (.ifCond .ne 5, 3) := dk_154 0 5 (dk_at dksL_law_27 6 rfl rfl)
theorem dL_law_641 : decode cL_law 641 = .ok (.iconst 0, 1) := dk_3 (dk_at dksL_law_27 9 rfl rfl)
theorem dL_law_642 : decode cL_law 642 = .ok (.ireturn, 1) := dk_172 (dk_at dksL_law_27 10 rfl rfl)
theorem dL_law_643 : decode cL_law 643 = .ok (.iinc 15 1, 3) := dk_132 15 1 (dk_at dksL_law_27 11 rfl rfl)
theorem dL_law_646 : decode cL_law 646 = .ok (.goto (-55), 3) := dk_167 255 201 (dk_at dksL_law_27 14 rfl rfl)
theorem dL_law_649 : decode cL_law 649 = .ok (.aload_n 1, 1) := dk_43 (dk_at dksL_law_27 17 rfl rfl)
theorem dL_law_650 : decode cL_law 650 = .ok (.aload 11, 2) := dk_25 11 (dk_at dksL_law_27 18 rfl rfl)
theorem dL_law_652 : decode cL_law 652 = .ok (.iload 7, 2) := dk_21 7 (dk_at dksL_law_27 20 rfl rfl)
theorem dL_law_654 : decode cL_law 654 = .ok (.iconst (-1), 1) := dk_2 (dk_at dksL_law_27 22 rfl rfl)
theorem dL_law_655 : decode cL_law 655 = .ok (.aload_n 0, 1) := dk_42 (dk_at dksL_law_27 23 rfl rfl)
theorem dL_law_656 : decode cL_law 656 = .ok (.bipush 73, 2) := dk_16 73 (dk_at dksL_law_28 0 rfl rfl)
theorem dL_law_658 : decode cL_law 658 = .ok (.invokestatic 32, 3) := dk_184 0 32 (dk_at dksL_law_28 2 rfl rfl)
theorem dL_law_661 : decode cL_law 661 = .ok (.iconst 0, 1) := dk_3 (dk_at dksL_law_28 5 rfl rfl)
theorem dL_law_662 : decode cL_law 662 = .ok (.newarray .int, 2) := dk_188_10 (dk_at dksL_law_28 6 rfl rfl)
theorem dL_law_664 : decode cL_law 664 = .ok (.invokestatic 90, 3) := dk_184 0 90 (dk_at dksL_law_28 8 rfl rfl)
theorem dL_law_667 : decode cL_law 667 = .ok (.astore 15, 2) := dk_58 15 (dk_at dksL_law_28 11 rfl rfl)
theorem dL_law_669 : decode cL_law 669 = .ok (.aload 15, 2) := dk_25 15 (dk_at dksL_law_28 13 rfl rfl)
theorem dL_law_671 : decode cL_law 671 = .ok (.ifnull 18, 3) := dk_198 0 18 (dk_at dksL_law_28 15 rfl rfl)
theorem dL_law_674 : decode cL_law 674 = .ok (.aload_n 1, 1) := dk_43 (dk_at dksL_law_28 18 rfl rfl)
theorem dL_law_675 : decode cL_law 675 = .ok (.aload 12, 2) := dk_25 12 (dk_at dksL_law_28 19 rfl rfl)
theorem dL_law_677 : decode cL_law 677 = .ok (.aload_n 0, 1) := dk_42 (dk_at dksL_law_28 21 rfl rfl)
theorem dL_law_678 : decode cL_law 678 = .ok (.bipush 66, 2) := dk_16 66 (dk_at dksL_law_28 22 rfl rfl)
theorem dL_law_680 : decode cL_law 680 = .ok (.invokestatic 32, 3) := dk_184 0 32 (dk_at dksL_law_29 0 rfl rfl)
theorem dL_law_683 : decode cL_law 683 = .ok (.invokestatic 86, 3) := dk_184 0 86 (dk_at dksL_law_29 3 rfl rfl)
theorem dL_law_686 : decode cL_law 686 = .ok (.ifCond .ne 5, 3) := dk_154 0 5 (dk_at dksL_law_29 6 rfl rfl)
theorem dL_law_689 : decode cL_law 689 = .ok (.iconst 0, 1) := dk_3 (dk_at dksL_law_29 9 rfl rfl)
theorem dL_law_690 : decode cL_law 690 = .ok (.ireturn, 1) := dk_172 (dk_at dksL_law_29 10 rfl rfl)
theorem dL_law_691 : decode cL_law 691 = .ok (.aload_n 0, 1) := dk_42 (dk_at dksL_law_29 11 rfl rfl)
theorem dL_law_692 : decode cL_law 692 = .ok (.bipush 66, 2) := dk_16 66 (dk_at dksL_law_29 12 rfl rfl)
theorem dL_law_694 : decode cL_law 694 = .ok (.invokestatic 32, 3) := dk_184 0 32 (dk_at dksL_law_29 14 rfl rfl)
theorem dL_law_697 : decode cL_law 697 = .ok (.invokestatic 29, 3) := dk_184 0 29 (dk_at dksL_law_29 17 rfl rfl)
theorem dL_law_700 : decode cL_law 700 = .ok (.aload 12, 2) := dk_25 12 (dk_at dksL_law_29 20 rfl rfl)
theorem dL_law_702 : decode cL_law 702 = .ok (.arraylength, 1) := dk_190 (dk_at dksL_law_29 22 rfl rfl)
theorem dL_law_703 : decode cL_law 703 = .ok (.irem, 1) := dk_112 (dk_at dksL_law_29 23 rfl rfl)
theorem dL_law_704 : decode cL_law 704 = .ok (.istore 16, 2) := dk_54 16 (dk_at dksL_law_30 0 rfl rfl)
theorem dL_law_706 : decode cL_law 706 = .ok (.aload_n 0, 1) := dk_42 (dk_at dksL_law_30 2 rfl rfl)
theorem dL_law_707 : decode cL_law 707 = .ok (.bipush 67, 2) := dk_16 67 (dk_at dksL_law_30 3 rfl rfl)
theorem dL_law_709 : decode cL_law 709 = .ok (.invokestatic 32, 3) := dk_184 0 32 (dk_at dksL_law_30 5 rfl rfl)
theorem dL_law_712 : decode cL_law 712 = .ok (.sipush 255, 3) := dk_17 0 255 (dk_at dksL_law_30 8 rfl rfl)
theorem dL_law_715 : decode cL_law 715 = .ok (.iand, 1) := dk_126 (dk_at dksL_law_30 11 rfl rfl)
theorem dL_law_716 : decode cL_law 716 = .ok (.istore 17, 2) := dk_54 17 (dk_at dksL_law_30 12 rfl rfl)
theorem dL_law_718 : decode cL_law 718 = .ok (.aload_n 1, 1) := dk_43 (dk_at dksL_law_30 14 rfl rfl)
theorem dL_law_719 : decode cL_law 719 = .ok (.aload_n 0, 1) := dk_42 (dk_at dksL_law_30 15 rfl rfl)
theorem dL_law_720 : decode cL_law 720 = .ok (.bipush 66, 2) := dk_16 66 (dk_at dksL_law_30 16 rfl rfl)
theorem dL_law_722 : decode cL_law 722 = .ok (.invokestatic 32, 3) := dk_184 0 32 (dk_at dksL_law_30 18 rfl rfl)
theorem dL_law_725 : decode cL_law 725 = .ok (.aload_n 0, 1) := dk_42 (dk_at dksL_law_30 21 rfl rfl)
theorem dL_law_726 : decode cL_law 726 = .ok (.bipush 67, 2) := dk_16 67 (dk_at dksL_law_30 22 rfl rfl)
theorem dL_law_728 : decode cL_law 728 = .ok (.invokestatic 32, 3) := dk_184 0 32 (dk_at dksL_law_31 0 rfl rfl)
theorem dL_law_731 : decode cL_law 731 = .ok (.invokevirtual 40, 3) := dk_182 0 40 (dk_at dksL_law_31 3 rfl rfl)
theorem dL_law_734 : decode cL_law 734 = .ok (.ifCond .eq 25, 3) := dk_153 0 25 (dk_at dksL_law_31 6 rfl rfl)
theorem dL_law_737 : decode cL_law 737 = .ok (.aload_n 1, 1) := dk_43 (dk_at dksL_law_31 9 rfl rfl)
theorem dL_law_738 : decode cL_law 738 = .ok (.aload 12, 2) := dk_25 12 (dk_at dksL_law_31 10 rfl rfl)
theorem dL_law_740 : decode cL_law 740 = .ok (.iload 16, 2) := dk_21 16 (dk_at dksL_law_31 12 rfl rfl)
theorem dL_law_742 : decode cL_law 742 = .ok (.iload 17, 2) := dk_21 17 (dk_at dksL_law_31 14 rfl rfl)
theorem dL_law_744 : decode cL_law 744 = .ok (.invokestatic 93, 3) := dk_184 0 93 (dk_at dksL_law_31 16 rfl rfl)
theorem dL_law_747 : decode cL_law 747 = .ok (.aload_n 0, 1) := dk_42 (dk_at dksL_law_31 19 rfl rfl)
theorem dL_law_748 : decode cL_law 748 = .ok (.bipush 74, 2) := dk_16 74 (dk_at dksL_law_31 20 rfl rfl)
theorem dL_law_750 : decode cL_law 750 = .ok (.invokestatic 32, 3) := dk_184 0 32 (dk_at dksL_law_32 0 rfl rfl)
theorem dL_law_753 : decode cL_law 753 = .ok (.invokestatic 86, 3) := dk_184 0 86 (dk_at dksL_law_32 3 rfl rfl)
theorem dL_law_756 : decode cL_law 756 = .ok (.ifCond .ne 5, 3) := dk_154 0 5 (dk_at dksL_law_32 6 rfl rfl)
theorem dL_law_759 : decode cL_law 759 = .ok (.iconst 0, 1) := dk_3 (dk_at dksL_law_32 9 rfl rfl)
theorem dL_law_760 : decode cL_law 760 = .ok (.ireturn, 1) := dk_172 (dk_at dksL_law_32 10 rfl rfl)
theorem dL_law_761 : decode cL_law 761 = .ok (.aload 12, 2) := dk_25 12 (dk_at dksL_law_32 11 rfl rfl)
theorem dL_law_763 : decode cL_law 763 = .ok (.arraylength, 1) := dk_190 (dk_at dksL_law_32 13 rfl rfl)
theorem dL_law_764 : decode cL_law 764 = .ok (.bipush 16, 2) := dk_16 16 (dk_at dksL_law_32 14 rfl rfl)
theorem dL_law_766 : decode cL_law 766 = .ok (.isub, 1) := dk_100 (dk_at dksL_law_32 16 rfl rfl)
theorem dL_law_767 : decode cL_law 767 = .ok (.istore 18, 2) := dk_54 18 (dk_at dksL_law_32 17 rfl rfl)
theorem dL_law_769 : decode cL_law 769 = .ok (.iload 17, 2) := dk_21 17 (dk_at dksL_law_32 19 rfl rfl)
theorem dL_law_771 : decode cL_law 771 = .ok (.ifCond .ne 25, 3) := dk_154 0 25 (dk_at dksL_law_32 21 rfl rfl)
theorem dL_law_774 : decode cL_law 774 = .ok (.aload_n 1, 1) := dk_43 (dk_at dksL_law_33 0 rfl rfl)
theorem dL_law_775 : decode cL_law 775 = .ok (.aload 11, 2) := dk_25 11 (dk_at dksL_law_33 1 rfl rfl)
theorem dL_law_777 : decode cL_law 777 = .ok (.iload 7, 2) := dk_21 7 (dk_at dksL_law_33 3 rfl rfl)
theorem dL_law_779 : decode cL_law 779 = .ok (.iconst (-1), 1) := dk_2 (dk_at dksL_law_33 5 rfl rfl)
theorem dL_law_780 : decode cL_law 780 = .ok (.aload_n 0, 1) := dk_42 (dk_at dksL_law_33 6 rfl rfl)
theorem dL_law_781 : decode cL_law 781 = .ok (.bipush 74, 2) := dk_16 74 (dk_at dksL_law_33 7 rfl rfl)
theorem dL_law_783 : decode cL_law 783 = .ok (.invokestatic 32, 3) := dk_184 0 32 (dk_at dksL_law_33 9 rfl rfl)
theorem dL_law_786 : decode cL_law 786 = .ok (.aload 15, 2) := dk_25 15 (dk_at dksL_law_33 12 rfl rfl)
theorem dL_law_788 : decode cL_law 788 = .ok (.invokestatic 90, 3) := dk_184 0 90 (dk_at dksL_law_33 14 rfl rfl)
theorem dL_law_791 : decode cL_law 791 = .ok (.astore 15, 2) := dk_58 15 (dk_at dksL_law_33 17 rfl rfl)
theorem dL_law_793 : decode cL_law 793 = .ok (.goto 70, 3) := dk_167 0 70 (dk_at dksL_law_33 19 rfl rfl)
theorem dL_law_796 : decode cL_law 796 = .ok (.iload 16, 2) := dk_21 16 (dk_at dksL_law_33 22 rfl rfl)
theorem dL_law_798 : decode cL_law 798 = .ok (.iload 18, 2) := dk_21 18 (dk_at dksL_law_34 0 rfl rfl)
theorem dL_law_800 : decode cL_law 800 = .ok (.if_icmp .ge 39, 3) := dk_162 0 39 (dk_at dksL_law_34 2 rfl rfl)
theorem dL_law_803 : decode cL_law 803 = .ok (.aload_n 1, 1) := dk_43 (dk_at dksL_law_34 5 rfl rfl)
theorem dL_law_804 : decode cL_law 804 = .ok (.aload 11, 2) := dk_25 11 (dk_at dksL_law_34 6 rfl rfl)
theorem dL_law_806 : decode cL_law 806 = .ok (.iload 16, 2) := dk_21 16 (dk_at dksL_law_34 8 rfl rfl)
theorem dL_law_808 : decode cL_law 808 = .ok (.bipush 16, 2) := dk_16 16 (dk_at dksL_law_34 10 rfl rfl)
theorem dL_law_810 : decode cL_law 810 = .ok (.iadd, 1) := dk_96 (dk_at dksL_law_34 12 rfl rfl)
theorem dL_law_811 : decode cL_law 811 = .ok (.iload 17, 2) := dk_21 17 (dk_at dksL_law_34 13 rfl rfl)
theorem dL_law_813 : decode cL_law 813 = .ok (.invokestatic 93, 3) := dk_184 0 93 (dk_at dksL_law_34 15 rfl rfl)
theorem dL_law_816 : decode cL_law 816 = .ok (.iload 7, 2) := dk_21 7 (dk_at dksL_law_34 18 rfl rfl)
theorem dL_law_818 : decode cL_law 818 = .ok (.iload 16, 2) := dk_21 16 (dk_at dksL_law_34 20 rfl rfl)
theorem dL_law_820 : decode cL_law 820 = .ok (.bipush 16, 2) := dk_16 16 (dk_at dksL_law_34 22 rfl rfl)
theorem dL_law_822 : decode cL_law 822 = .ok (.idiv, 1) := dk_108 (dk_at dksL_law_35 0 rfl rfl)
theorem dL_law_823 : decode cL_law 823 = .ok (.aload_n 0, 1) := dk_42 (dk_at dksL_law_35 1 rfl rfl)
theorem dL_law_824 : decode cL_law 824 = .ok (.bipush 74, 2) := dk_16 74 (dk_at dksL_law_35 2 rfl rfl)
theorem dL_law_826 : decode cL_law 826 = .ok (.invokestatic 32, 3) := dk_184 0 32 (dk_at dksL_law_35 4 rfl rfl)
theorem dL_law_829 : decode cL_law 829 = .ok (.aload 15, 2) := dk_25 15 (dk_at dksL_law_35 7 rfl rfl)
theorem dL_law_831 : decode cL_law 831 = .ok (.invokestatic 90, 3) := dk_184 0 90 (dk_at dksL_law_35 9 rfl rfl)
theorem dL_law_834 : decode cL_law 834 = .ok (.astore 15, 2) := dk_58 15 (dk_at dksL_law_35 12 rfl rfl)
theorem dL_law_836 : decode cL_law 836 = .ok (.goto 27, 3) := dk_167 0 27 (dk_at dksL_law_35 14 rfl rfl)
theorem dL_law_839 : decode cL_law 839 = .ok (.aload_n 1, 1) := dk_43 (dk_at dksL_law_35 17 rfl rfl)
theorem dL_law_840 : decode cL_law 840 = .ok (.aload 11, 2) := dk_25 11 (dk_at dksL_law_35 18 rfl rfl)
theorem dL_law_842 : decode cL_law 842 = .ok (.iload 7, 2) := dk_21 7 (dk_at dksL_law_35 20 rfl rfl)
theorem dL_law_844 : decode cL_law 844 = .ok (.aload_n 0, 1) := dk_42 (dk_at dksL_law_35 22 rfl rfl)
theorem dL_law_845 : decode cL_law 845 = .ok (.bipush 74, 2) := dk_16 74 (dk_at dksL_law_36 0 rfl rfl)
theorem dL_law_847 : decode cL_law 847 = .ok (.invokestatic 32, 3) := dk_184 0 32 (dk_at dksL_law_36 2 rfl rfl)
theorem dL_law_850 : decode cL_law 850 = .ok (.invokestatic 97, 3) := dk_184 0 97 (dk_at dksL_law_36 5 rfl rfl)
theorem dL_law_853 : decode cL_law 853 = .ok (.ifCond .ne 5, 3) := dk_154 0 5 (dk_at dksL_law_36 8 rfl rfl)
theorem dL_law_856 : decode cL_law 856 = .ok (.iconst 0, 1) := dk_3 (dk_at dksL_law_36 11 rfl rfl)
theorem dL_law_857 : decode cL_law 857 = .ok (.ireturn, 1) := dk_172 (dk_at dksL_law_36 12 rfl rfl)
theorem dL_law_858 : decode cL_law 858 = .ok (.iconst 0, 1) := dk_3 (dk_at dksL_law_36 13 rfl rfl)
theorem dL_law_859 : decode cL_law 859 = .ok (.newarray .int, 2) := dk_188_10 (dk_at dksL_law_36 14 rfl rfl)
theorem dL_law_861 : decode cL_law 861 = .ok (.astore 15, 2) := dk_58 15 (dk_at dksL_law_36 16 rfl rfl)
theorem dL_law_863 : decode cL_law 863 = .ok (.aload 15, 2) := dk_25 15 (dk_at dksL_law_36 18 rfl rfl)
theorem dL_law_865 : decode cL_law 865 = .ok (.ifnull 29, 3) := dk_198 0 29 (dk_at dksL_law_36 20 rfl rfl)
theorem dL_law_868 : decode cL_law 868 = .ok (.aload_n 1, 1) := dk_43 (dk_at dksL_law_36 23 rfl rfl)
theorem dL_law_869 : decode cL_law 869 = .ok (.iload 16, 2) := dk_21 16 (dk_at dksL_law_37 0 rfl rfl)
theorem dL_law_871 : decode cL_law 871 = .ok (.iload 17, 2) := dk_21 17 (dk_at dksL_law_37 2 rfl rfl)
theorem dL_law_873 : decode cL_law 873 = .ok (.invokevirtual 40, 3) := dk_182 0 40 (dk_at dksL_law_37 4 rfl rfl)
theorem dL_law_876 : decode cL_law 876 = .ok (.ifCond .eq 18, 3) := dk_153 0 18 (dk_at dksL_law_37 7 rfl rfl)
theorem dL_law_879 : decode cL_law 879 = .ok (.aload_n 1, 1) := dk_43 (dk_at dksL_law_37 10 rfl rfl)
theorem dL_law_880 : decode cL_law 880 = .ok (.aload 12, 2) := dk_25 12 (dk_at dksL_law_37 11 rfl rfl)
theorem dL_law_882 : decode cL_law 882 = .ok (.aload_n 0, 1) := dk_42 (dk_at dksL_law_37 13 rfl rfl)
theorem dL_law_883 : decode cL_law 883 = .ok (.bipush 75, 2) := dk_16 75 (dk_at dksL_law_37 14 rfl rfl)
theorem dL_law_885 : decode cL_law 885 = .ok (.invokestatic 32, 3) := dk_184 0 32 (dk_at dksL_law_37 16 rfl rfl)
theorem dL_law_888 : decode cL_law 888 = .ok (.invokestatic 86, 3) := dk_184 0 86 (dk_at dksL_law_37 19 rfl rfl)
theorem dL_law_891 : decode cL_law 891 = .ok (.ifCond .ne 5, 3) := dk_154 0 5 (dk_at dksL_law_38 0 rfl rfl)
theorem dL_law_894 : decode cL_law 894 = .ok (.iconst 0, 1) := dk_3 (dk_at dksL_law_38 3 rfl rfl)
theorem dL_law_895 : decode cL_law 895 = .ok (.ireturn, 1) := dk_172 (dk_at dksL_law_38 4 rfl rfl)
theorem dL_law_896 : decode cL_law 896 = .ok (.iload 17, 2) := dk_21 17 (dk_at dksL_law_38 5 rfl rfl)
theorem dL_law_898 : decode cL_law 898 = .ok (.ifCond .eq 29, 3) := dk_153 0 29 (dk_at dksL_law_38 7 rfl rfl)
theorem dL_law_901 : decode cL_law 901 = .ok (.iload 16, 2) := dk_21 16 (dk_at dksL_law_38 10 rfl rfl)
theorem dL_law_903 : decode cL_law 903 = .ok (.iload 18, 2) := dk_21 18 (dk_at dksL_law_38 12 rfl rfl)
theorem dL_law_905 : decode cL_law 905 = .ok (.if_icmp .lt 22, 3) := dk_161 0 22 (dk_at dksL_law_38 14 rfl rfl)
theorem dL_law_908 : decode cL_law 908 = .ok (.aload_n 1, 1) := dk_43 (dk_at dksL_law_38 17 rfl rfl)
theorem dL_law_909 : decode cL_law 909 = .ok (.aload 11, 2) := dk_25 11 (dk_at dksL_law_38 18 rfl rfl)
theorem dL_law_911 : decode cL_law 911 = .ok (.iload 7, 2) := dk_21 7 (dk_at dksL_law_38 20 rfl rfl)
theorem dL_law_913 : decode cL_law 913 = .ok (.iconst (-1), 1) := dk_2 (dk_at dksL_law_38 22 rfl rfl)
theorem dL_law_914 : decode cL_law 914 = .ok (.aload_n 0, 1) := dk_42 (dk_at dksL_law_38 23 rfl rfl)
theorem dL_law_915 : decode cL_law 915 = .ok (.bipush 75, 2) := dk_16 75 (dk_at dksL_law_39 0 rfl rfl)
theorem dL_law_917 : decode cL_law 917 = .ok (.invokestatic 32, 3) := dk_184 0 32 (dk_at dksL_law_39 2 rfl rfl)
theorem dL_law_920 : decode cL_law 920 = .ok (.aload 15, 2) := dk_25 15 (dk_at dksL_law_39 5 rfl rfl)
theorem dL_law_922 : decode cL_law 922 = .ok (.invokestatic 90, 3) := dk_184 0 90 (dk_at dksL_law_39 7 rfl rfl)
theorem dL_law_925 : decode cL_law 925 = .ok (.astore 15, 2) := dk_58 15 (dk_at dksL_law_39 10 rfl rfl)
theorem dL_law_927 : decode cL_law 927 = .ok (.aload 15, 2) := dk_25 15 (dk_at dksL_law_39 12 rfl rfl)
theorem dL_law_929 : decode cL_law 929 = .ok (.ifnonnull 5, 3) := dk_199 0 5 (dk_at dksL_law_39 14 rfl rfl)
theorem dL_law_932 : decode cL_law 932 = .ok (.iconst 0, 1) := dk_3 (dk_at dksL_law_39 17 rfl rfl)
theorem dL_law_933 : decode cL_law 933 = .ok (.ireturn, 1) := dk_172 (dk_at dksL_law_39 18 rfl rfl)
theorem dL_law_934 : decode cL_law 934 = .ok (.aload_n 1, 1) := dk_43 (dk_at dksL_law_39 19 rfl rfl)
theorem dL_law_935 : decode cL_law 935 = .ok (.aload_n 0, 1) := dk_42 (dk_at dksL_law_39 20 rfl rfl)
theorem dL_law_936 : decode cL_law 936 = .ok (.bipush 8, 2) := dk_16 8 (dk_at dksL_law_39 21 rfl rfl)
theorem dL_law_938 : decode cL_law 938 = .ok (.bipush 68, 2) := dk_16 68 (dk_at dksL_law_40 0 rfl rfl)
theorem dL_law_940 : decode cL_law 940 = .ok (.invokestatic 63, 3) := dk_184 0 63 (dk_at dksL_law_40 2 rfl rfl)
theorem dL_law_943 : decode cL_law 943 = .ok (.aload 11, 2) := dk_25 11 (dk_at dksL_law_40 5 rfl rfl)
theorem dL_law_945 : decode cL_law 945 = .ok (.astore 19, 2) := dk_58 19 (dk_at dksL_law_40 7 rfl rfl)
theorem dL_law_947 : decode cL_law 947 = .ok (.iconst 0, 1) := dk_3 (dk_at dksL_law_40 9 rfl rfl)
theorem dL_law_948 : decode cL_law 948 = .ok (.istore 20, 2) := dk_54 20 (dk_at dksL_law_40 10 rfl rfl)
theorem dL_law_950 : decode cL_law 950 = .ok (.iload 20, 2) := dk_21 20 (dk_at dksL_law_40 12 rfl rfl)
theorem dL_law_952 : decode cL_law 952 = .ok (.bipush 16, 2) := dk_16 16 (dk_at dksL_law_40 14 rfl rfl)
theorem dL_law_954 : decode cL_law 954 = .ok (.if_icmp .ge 23, 3) := dk_162 0 23 (dk_at dksL_law_40 16 rfl rfl)
theorem dL_law_957 : decode cL_law 957 = .ok (.aload 19, 2) := dk_25 19 (dk_at dksL_law_40 19 rfl rfl)
theorem dL_law_959 : decode cL_law 959 = .ok (.iload 20, 2) := dk_21 20 (dk_at dksL_law_40 21 rfl rfl)
theorem dL_law_961 : decode cL_law 961 = .ok (.aload 5, 2) := dk_25 5 (dk_at dksL_law_41 0 rfl rfl)
theorem dL_law_963 : decode cL_law 963 = .ok (.iload 20, 2) := dk_21 20 (dk_at dksL_law_41 2 rfl rfl)
theorem dL_law_965 : decode cL_law 965 = .ok (.iaload, 1) := dk_46 (dk_at dksL_law_41 4 rfl rfl)
theorem dL_law_966 : decode cL_law 966 = .ok (.invokestatic 93, 3) := dk_184 0 93 (dk_at dksL_law_41 5 rfl rfl)
theorem dL_law_969 : decode cL_law 969 = .ok (.astore 19, 2) := dk_58 19 (dk_at dksL_law_41 8 rfl rfl)
theorem dL_law_971 : decode cL_law 971 = .ok (.iinc 20 1, 3) := dk_132 20 1 (dk_at dksL_law_41 10 rfl rfl)
theorem dL_law_974 : decode cL_law 974 = .ok (.goto (-24), 3) := dk_167 255 232 (dk_at dksL_law_41 13 rfl rfl)
theorem dL_law_977 : decode cL_law 977 = .ok (.aload_n 1, 1) := dk_43 (dk_at dksL_law_41 16 rfl rfl)
theorem dL_law_978 : decode cL_law 978 = .ok (.aload 19, 2) := dk_25 19 (dk_at dksL_law_41 17 rfl rfl)
theorem dL_law_980 : decode cL_law 980 = .ok (.iload 7, 2) := dk_21 7 (dk_at dksL_law_41 19 rfl rfl)
theorem dL_law_982 : decode cL_law 982 = .ok (.iconst (-1), 1) := dk_2 (dk_at dksL_law_41 21 rfl rfl)
theorem dL_law_983 : decode cL_law 983 = .ok (.aload_n 0, 1) := dk_42 (dk_at dksL_law_41 22 rfl rfl)
theorem dL_law_984 : decode cL_law 984 = .ok (.bipush 76, 2) := dk_16 76 (dk_at dksL_law_42 0 rfl rfl)
theorem dL_law_986 : decode cL_law 986 = .ok (.invokestatic 32, 3) := dk_184 0 32 (dk_at dksL_law_42 2 rfl rfl)
theorem dL_law_989 : decode cL_law 989 = .ok (.aload 15, 2) := dk_25 15 (dk_at dksL_law_42 5 rfl rfl)
theorem dL_law_991 : decode cL_law 991 = .ok (.invokestatic 90, 3) := dk_184 0 90 (dk_at dksL_law_42 7 rfl rfl)
theorem dL_law_994 : decode cL_law 994 = .ok (.astore 15, 2) := dk_58 15 (dk_at dksL_law_42 10 rfl rfl)
theorem dL_law_996 : decode cL_law 996 = .ok (.aload 15, 2) := dk_25 15 (dk_at dksL_law_42 12 rfl rfl)
theorem dL_law_998 : decode cL_law 998 = .ok (.ifnonnull 5, 3) := dk_199 0 5 (dk_at dksL_law_42 14 rfl rfl)
theorem dL_law_1001 : decode cL_law 1001 = .ok (.iconst 0, 1) := dk_3 (dk_at dksL_law_42 17 rfl rfl)
theorem dL_law_1002 : decode cL_law 1002 = .ok (.ireturn, 1) := dk_172 (dk_at dksL_law_42 18 rfl rfl)
theorem dL_law_1003 : decode cL_law 1003 = .ok (.aload_n 1, 1) := dk_43 (dk_at dksL_law_42 19 rfl rfl)
theorem dL_law_1004 : decode cL_law 1004 = .ok (.aload_n 0, 1) := dk_42 (dk_at dksL_law_42 20 rfl rfl)
theorem dL_law_1005 : decode cL_law 1005 = .ok (.bipush 8, 2) := dk_16 8 (dk_at dksL_law_42 21 rfl rfl)
theorem dL_law_1007 : decode cL_law 1007 = .ok (.bipush 78, 2) := dk_16 78 (dk_at dksL_law_43 0 rfl rfl)
theorem dL_law_1009 : decode cL_law 1009 = .ok (.invokestatic 63, 3) := dk_184 0 63 (dk_at dksL_law_43 2 rfl rfl)
theorem dL_law_1012 : decode cL_law 1012 = .ok (.aload_n 1, 1) := dk_43 (dk_at dksL_law_43 5 rfl rfl)
theorem dL_law_1013 : decode cL_law 1013 = .ok (.aload 11, 2) := dk_25 11 (dk_at dksL_law_43 6 rfl rfl)
theorem dL_law_1015 : decode cL_law 1015 = .ok (.iload 7, 2) := dk_21 7 (dk_at dksL_law_43 8 rfl rfl)
theorem dL_law_1017 : decode cL_law 1017 = .ok (.iconst (-1), 1) := dk_2 (dk_at dksL_law_43 10 rfl rfl)
theorem dL_law_1018 : decode cL_law 1018 = .ok (.aload_n 0, 1) := dk_42 (dk_at dksL_law_43 11 rfl rfl)
theorem dL_law_1019 : decode cL_law 1019 = .ok (.bipush 77, 2) := dk_16 77 (dk_at dksL_law_43 12 rfl rfl)
theorem dL_law_1021 : decode cL_law 1021 = .ok (.invokestatic 32, 3) := dk_184 0 32 (dk_at dksL_law_43 14 rfl rfl)
theorem dL_law_1024 : decode cL_law 1024 = .ok (.aload 15, 2) := dk_25 15 (dk_at dksL_law_43 17 rfl rfl)
theorem dL_law_1026 : decode cL_law 1026 = .ok (.invokestatic 90, 3) := dk_184 0 90 (dk_at dksL_law_43 19 rfl rfl)
theorem dL_law_1029 : decode cL_law 1029 = .ok (.ifnull 7, 3) := dk_198 0 7 (dk_at dksL_law_44 0 rfl rfl)
theorem dL_law_1032 : decode cL_law 1032 = .ok (.iconst 1, 1) := dk_4 (dk_at dksL_law_44 3 rfl rfl)
theorem dL_law_1033 : decode cL_law 1033 = .ok (.goto 4, 3) := dk_167 0 4 (dk_at dksL_law_44 4 rfl rfl)
theorem dL_law_1036 : decode cL_law 1036 = .ok (.iconst 0, 1) := dk_3 (dk_at dksL_law_44 7 rfl rfl)
theorem dL_law_1037 : decode cL_law 1037 = .ok (.ireturn, 1) := dk_172 (dk_at dksL_law_44 8 rfl rfl)
