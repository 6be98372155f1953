/-! AES 2: encryptBlock, decryptBlock; printed by tools/aes2.py -/
set_option maxHeartbeats 4000000 in
set_option maxRecDepth 100000 in
theorem met_X10_encryptBlock (l : Launch) (G : GG) (sz : Nat) (h : Nat) (hi : Nat) (io : Nat) (ho : Nat) (oo : Nat) (wa : Nat) (KC : Nat) (z : Int32) (hs : Nat) (ni : Nat) (bi : Nat → BitVec 8) (no : Nat) (bo : Nat → BitVec 8) (ad : Nat → Nat) (kw : Nat → Nat → Int32) (hKC : KC % 2 = 0 ∧ 4 ≤ KC ∧ KC ≤ 8) (hio : io + 16 ≤ ni) (hni : ni < 2 ^ 31) (hoo : oo + 16 ≤ no) (hno : no < 2 ^ 31) : Met l yX10_encryptBlock (ws_ yX10_encryptBlock cX10_encryptBlock 18 none) ({ frames := 1, cells := 0, slots := 0, locals := 40 } : Room) (va_Pc [.ref h, .ref hi, .int (nI io), .ref ho, .int (nI oo), .ref wa] (PP G [(ho, xB G no bo)] sz (fun U : State => va_P G.1 vwCl [(h, xO 6 [.int (nI (KC + 6)), .ref wa, .int z, .ref hs]), (hs, xB G 256 sbF), (hi, xB G ni bi)] U.heap ∧ KW G wa (KC + 7) ad kw U.heap))) (CQ G [(ho, xB G no bo)] sz (fun u : Unit => [(ho, xB G no (va_cpy (wby (eO KC kw (xw0 bi io kw 0))) bo 0 oo 16))]) (fun (u : Unit) (v : Option Value) (H : Heap) => v = none)) 0 0 (va_A [(ho, xB G no bo)] sz) := by
  refine xr_met (own := RX10) (by decide) rfl (Nat.le_of_ble_eq_true rfl) ?_
  intro p e s m args below meth c ls Q A C hlk hr hnm hsz hAe w hRD hQ hl
  have hx := C.1
  have hb := C.2.1
  have w : Wd G A [(ho, xB G no bo)] s s.heap s.heap [] := w
  have hl : lv_has ls 18 [(0, .ref h), (1, .ref hi), (2, .int (nI io)), (3, .ref ho), (4, .int (nI oo)), (5, .ref wa)] := hl
  obtain ⟨hRd, hKW⟩ := hRD
  have hR0 : va_P G.1 vwCl [(h, xO 6 [.int (nI (KC + 6)), .ref wa, .int z, .ref hs])] s.heap := va_P.sub hRd [0] rfl
  have hR1 : va_P G.1 vwCl [(hs, xB G 256 sbF)] s.heap := va_P.sub hRd [1] rfl
  have hR2 : va_P G.1 vwCl [(hi, xB G ni bi)] s.heap := va_P.sub hRd [2] rfl
  have hKC0 := hKC.1
  obtain ⟨t_T0, hz_T0, ha_T0⟩ := (w.2.2.2.2.1.2.2.2.1).T
  obtain ⟨t_S, hz_S, ha_S⟩ := (w.2.2.2.2.1.1).T
  refine lv_aload_n hx hb dX10_encryptBlock_0 rfl (lv_at hl 1 rfl) ?_
  refine lv_iload_n hx hb dX10_encryptBlock_1 rfl (lv_at hl 2 rfl) ?_
  refine lv_iconst (v := nI 0) hx hb dX10_encryptBlock_2 (by decide) ?_
  refine lv_iadd hx hb dX10_encryptBlock_3 ?_
  refine lv_eqi (nI_add io 0) ?_
  refine xr_callS0 (n := 2) (rest := []) C w (met_X14_littleEndianToInt l G s.heap.size hi ni bi (io + 0) (by omega) (by omega)) q431 q432 q30 q433 (by decide +kernel) ⟨rfl, rfl, by decide, by decide⟩ (fun _ _ _ _ h => h) (fun U hU hW => by rw [hU]; exact (xp_cons hR2 xp_nil)) rfl hl.1 rfl (Nat.le_of_ble_eq_true rfl) dX10_encryptBlock_4 ⟨by decide, by decide⟩ (fun v hp => ?_)
  subst hp
  refine lv_eqi (y := (inw bi io 0)) (rfl) ?_
  refine lv_istore (lv' := [(6, .int (inw bi io 0)), (0, .ref h), (1, .ref hi), (2, .int (nI io)), (3, .ref ho), (4, .int (nI oo)), (5, .ref wa)]) hx hb dX10_encryptBlock_7 hl (by decide) rfl (fun ls hl => ?_)
  refine lv_aload_n hx hb dX10_encryptBlock_9 rfl (lv_at hl 2 rfl) ?_
  refine lv_iload_n hx hb dX10_encryptBlock_10 rfl (lv_at hl 3 rfl) ?_
  refine lv_iconst (v := nI 4) hx hb dX10_encryptBlock_11 (by decide) ?_
  refine lv_iadd hx hb dX10_encryptBlock_12 ?_
  refine lv_eqi (nI_add io 4) ?_
  refine xr_callS0 (n := 2) (rest := []) C w (met_X14_littleEndianToInt l G s.heap.size hi ni bi (io + 4) (by omega) (by omega)) q431 q432 q30 q433 (by decide +kernel) ⟨rfl, rfl, by decide, by decide⟩ (fun _ _ _ _ h => h) (fun U hU hW => by rw [hU]; exact (xp_cons hR2 xp_nil)) rfl hl.1 rfl (Nat.le_of_ble_eq_true rfl) dX10_encryptBlock_13 ⟨by decide, by decide⟩ (fun v hp => ?_)
  subst hp
  refine lv_eqi (y := (inw bi io 1)) (rfl) ?_
  refine lv_istore (lv' := [(7, .int (inw bi io 1)), (6, .int (inw bi io 0)), (0, .ref h), (1, .ref hi), (2, .int (nI io)), (3, .ref ho), (4, .int (nI oo)), (5, .ref wa)]) hx hb dX10_encryptBlock_16 hl (by decide) rfl (fun ls hl => ?_)
  refine lv_aload_n hx hb dX10_encryptBlock_18 rfl (lv_at hl 3 rfl) ?_
  refine lv_iload_n hx hb dX10_encryptBlock_19 rfl (lv_at hl 4 rfl) ?_
  refine lv_bipush (v := nI 8) hx hb dX10_encryptBlock_20 (by decide) ?_
  refine lv_iadd hx hb dX10_encryptBlock_22 ?_
  refine lv_eqi (nI_add io 8) ?_
  refine xr_callS0 (n := 2) (rest := []) C w (met_X14_littleEndianToInt l G s.heap.size hi ni bi (io + 8) (by omega) (by omega)) q431 q432 q30 q433 (by decide +kernel) ⟨rfl, rfl, by decide, by decide⟩ (fun _ _ _ _ h => h) (fun U hU hW => by rw [hU]; exact (xp_cons hR2 xp_nil)) rfl hl.1 rfl (Nat.le_of_ble_eq_true rfl) dX10_encryptBlock_23 ⟨by decide, by decide⟩ (fun v hp => ?_)
  subst hp
  refine lv_eqi (y := (inw bi io 2)) (rfl) ?_
  refine lv_istore (lv' := [(8, .int (inw bi io 2)), (7, .int (inw bi io 1)), (6, .int (inw bi io 0)), (0, .ref h), (1, .ref hi), (2, .int (nI io)), (3, .ref ho), (4, .int (nI oo)), (5, .ref wa)]) hx hb dX10_encryptBlock_26 hl (by decide) rfl (fun ls hl => ?_)
  refine lv_aload_n hx hb dX10_encryptBlock_28 rfl (lv_at hl 4 rfl) ?_
  refine lv_iload_n hx hb dX10_encryptBlock_29 rfl (lv_at hl 5 rfl) ?_
  refine lv_bipush (v := nI 12) hx hb dX10_encryptBlock_30 (by decide) ?_
  refine lv_iadd hx hb dX10_encryptBlock_32 ?_
  refine lv_eqi (nI_add io 12) ?_
  refine xr_callS0 (n := 2) (rest := []) C w (met_X14_littleEndianToInt l G s.heap.size hi ni bi (io + 12) (by omega) (by omega)) q431 q432 q30 q433 (by decide +kernel) ⟨rfl, rfl, by decide, by decide⟩ (fun _ _ _ _ h => h) (fun U hU hW => by rw [hU]; exact (xp_cons hR2 xp_nil)) rfl hl.1 rfl (Nat.le_of_ble_eq_true rfl) dX10_encryptBlock_33 ⟨by decide, by decide⟩ (fun v hp => ?_)
  subst hp
  refine lv_eqi (y := (inw bi io 3)) (rfl) ?_
  refine lv_istore (lv' := [(9, .int (inw bi io 3)), (8, .int (inw bi io 2)), (7, .int (inw bi io 1)), (6, .int (inw bi io 0)), (0, .ref h), (1, .ref hi), (2, .int (nI io)), (3, .ref ho), (4, .int (nI oo)), (5, .ref wa)]) hx hb dX10_encryptBlock_36 hl (by decide) rfl (fun ls hl => ?_)
  refine lv_iload hx hb dX10_encryptBlock_38 (lv_at hl 3 rfl) ?_
  refine lv_aload hx hb dX10_encryptBlock_40 (lv_at hl 9 rfl) ?_
  refine lv_iconst (v := nI 0) hx hb dX10_encryptBlock_42 (by decide) ?_
  refine xr_aald C (i := 0) hKW.1 (by omega) (by omega) dX10_encryptBlock_43 ?_
  refine lv_eqr (v' := .ref (ad 0)) rfl ?_
  refine lv_iconst (v := nI 0) hx hb dX10_encryptBlock_44 (by decide) ?_
  refine xr_iald C (i := 0) (hKW.2 (0) (by omega)) (by omega) (by omega) dX10_encryptBlock_45 ?_
  refine lv_ixor hx hb dX10_encryptBlock_46 ?_
  refine lv_eqi (y := (eS kw (xw0 bi io kw 0) (2 * 0) 0)) (rfl) ?_
  refine lv_istore (lv' := [(10, .int (eS kw (xw0 bi io kw 0) (2 * 0) 0)), (9, .int (inw bi io 3)), (8, .int (inw bi io 2)), (7, .int (inw bi io 1)), (6, .int (inw bi io 0)), (0, .ref h), (1, .ref hi), (2, .int (nI io)), (3, .ref ho), (4, .int (nI oo)), (5, .ref wa)]) hx hb dX10_encryptBlock_47 hl (by decide) rfl (fun ls hl => ?_)
  refine lv_iload hx hb dX10_encryptBlock_49 (lv_at hl 3 rfl) ?_
  refine lv_aload hx hb dX10_encryptBlock_51 (lv_at hl 10 rfl) ?_
  refine lv_iconst (v := nI 0) hx hb dX10_encryptBlock_53 (by decide) ?_
  refine xr_aald C (i := 0) hKW.1 (by omega) (by omega) dX10_encryptBlock_54 ?_
  refine lv_eqr (v' := .ref (ad 0)) rfl ?_
  refine lv_iconst (v := nI 1) hx hb dX10_encryptBlock_55 (by decide) ?_
  refine xr_iald C (i := 1) (hKW.2 (0) (by omega)) (by omega) (by omega) dX10_encryptBlock_56 ?_
  refine lv_ixor hx hb dX10_encryptBlock_57 ?_
  refine lv_eqi (y := (eS kw (xw0 bi io kw 0) (2 * 0) 1)) (rfl) ?_
  refine lv_istore (lv' := [(11, .int (eS kw (xw0 bi io kw 0) (2 * 0) 1)), (10, .int (eS kw (xw0 bi io kw 0) (2 * 0) 0)), (9, .int (inw bi io 3)), (8, .int (inw bi io 2)), (7, .int (inw bi io 1)), (6, .int (inw bi io 0)), (0, .ref h), (1, .ref hi), (2, .int (nI io)), (3, .ref ho), (4, .int (nI oo)), (5, .ref wa)]) hx hb dX10_encryptBlock_58 hl (by decide) rfl (fun ls hl => ?_)
  refine lv_iload hx hb dX10_encryptBlock_60 (lv_at hl 3 rfl) ?_
  refine lv_aload hx hb dX10_encryptBlock_62 (lv_at hl 11 rfl) ?_
  refine lv_iconst (v := nI 0) hx hb dX10_encryptBlock_64 (by decide) ?_
  refine xr_aald C (i := 0) hKW.1 (by omega) (by omega) dX10_encryptBlock_65 ?_
  refine lv_eqr (v' := .ref (ad 0)) rfl ?_
  refine lv_iconst (v := nI 2) hx hb dX10_encryptBlock_66 (by decide) ?_
  refine xr_iald C (i := 2) (hKW.2 (0) (by omega)) (by omega) (by omega) dX10_encryptBlock_67 ?_
  refine lv_ixor hx hb dX10_encryptBlock_68 ?_
  refine lv_eqi (y := (eS kw (xw0 bi io kw 0) (2 * 0) 2)) (rfl) ?_
  refine lv_istore (lv' := [(12, .int (eS kw (xw0 bi io kw 0) (2 * 0) 2)), (11, .int (eS kw (xw0 bi io kw 0) (2 * 0) 1)), (10, .int (eS kw (xw0 bi io kw 0) (2 * 0) 0)), (9, .int (inw bi io 3)), (8, .int (inw bi io 2)), (7, .int (inw bi io 1)), (6, .int (inw bi io 0)), (0, .ref h), (1, .ref hi), (2, .int (nI io)), (3, .ref ho), (4, .int (nI oo)), (5, .ref wa)]) hx hb dX10_encryptBlock_69 hl (by decide) rfl (fun ls hl => ?_)
  refine lv_iconst (v := nI 1) hx hb dX10_encryptBlock_71 (by decide) ?_
  refine lv_istore (lv' := [(13, .int (nI 1)), (12, .int (eS kw (xw0 bi io kw 0) (2 * 0) 2)), (11, .int (eS kw (xw0 bi io kw 0) (2 * 0) 1)), (10, .int (eS kw (xw0 bi io kw 0) (2 * 0) 0)), (9, .int (inw bi io 3)), (8, .int (inw bi io 2)), (7, .int (inw bi io 1)), (6, .int (inw bi io 0)), (0, .ref h), (1, .ref hi), (2, .int (nI io)), (3, .ref ho), (4, .int (nI oo)), (5, .ref wa)]) hx hb dX10_encryptBlock_72 hl (by decide) rfl (fun ls hl => ?_)
  refine lv_iload hx hb dX10_encryptBlock_74 (lv_at hl 4 rfl) ?_
  refine lv_aload hx hb dX10_encryptBlock_76 (lv_at hl 13 rfl) ?_
  refine lv_iconst (v := nI 0) hx hb dX10_encryptBlock_78 (by decide) ?_
  refine xr_aald C (i := 0) hKW.1 (by omega) (by omega) dX10_encryptBlock_79 ?_
  refine lv_eqr (v' := .ref (ad 0)) rfl ?_
  refine lv_iconst (v := nI 3) hx hb dX10_encryptBlock_80 (by decide) ?_
  refine xr_iald C (i := 3) (hKW.2 (0) (by omega)) (by omega) (by omega) dX10_encryptBlock_81 ?_
  refine lv_ixor hx hb dX10_encryptBlock_82 ?_
  refine lv_eqi (y := (eS kw (xw0 bi io kw 0) (2 * 0) 3)) (rfl) ?_
  refine lv_istore (lv' := [(17, .int (eS kw (xw0 bi io kw 0) (2 * 0) 3)), (13, .int (nI 1)), (12, .int (eS kw (xw0 bi io kw 0) (2 * 0) 2)), (11, .int (eS kw (xw0 bi io kw 0) (2 * 0) 1)), (10, .int (eS kw (xw0 bi io kw 0) (2 * 0) 0)), (9, .int (inw bi io 3)), (8, .int (inw bi io 2)), (7, .int (inw bi io 1)), (6, .int (inw bi io 0)), (0, .ref h), (1, .ref hi), (2, .int (nI io)), (3, .ref ho), (4, .int (nI oo)), (5, .ref wa)]) hx hb dX10_encryptBlock_83 hl (by decide) rfl (fun ls hl => ?_)
  have loop_85 : ∀ (nn : Nat) (j : Nat), KC + 5 - 2 * j < nn → (hj : 2 * j ≤ KC + 4) → ∀ (ls : Array Slot), lv_has ls 18 [(0, .ref h), (3, .ref ho), (4, .int (nI oo)), (5, .ref wa), (10, .int (eS kw (xw0 bi io kw 0) (2 * j) 0)), (11, .int (eS kw (xw0 bi io kw 0) (2 * j) 1)), (12, .int (eS kw (xw0 bi io kw 0) (2 * j) 2)), (17, .int (eS kw (xw0 bi io kw 0) (2 * j) 3)), (13, .int (nI (2 * j + 1)))] → W p l e ({ frames := 1, cells := 0, slots := 0, locals := 40 } : Room) s m args below meth c s.heap [] 0 0 Q (F0 m 85 ls []) := by
    intro nn
    induction nn with
    | zero => intro j hmm; exact absurd hmm (Nat.not_lt_zero _)
    | succ nn ih_85 =>
      intro j hmm hj ls hl
      refine lv_iload hx hb dX10_encryptBlock_85 (lv_at hl 8 rfl) ?_
      refine lv_aload_n hx hb dX10_encryptBlock_87 rfl (lv_at hl 0 rfl) ?_
      refine xr_get (ci := 6) (v := .int (nI (KC + 6))) (Cn := RX10) (T := TX10) (N := 4) C hR0 in_X10 rfl 0 (by decide) q139 (fun _ h => h) rfl dX10_encryptBlock_88 ?_
      refine lv_iconst (v := nI 1) hx hb dX10_encryptBlock_91 (by decide) ?_
      refine lv_isub hx hb dX10_encryptBlock_92 ?_
      refine lv_eqi (pk_sub (a := KC + 6) (b := 1) (by omega)) ?_
      refine xr_icmp_ge (a := 2 * j + 1) (b := (KC + 6) - 1) (tgt := 721) hx hb dX10_encryptBlock_93 (by decide) (by omega) (by omega) (fun c_93 => ?_) (fun c_93 => ?_)
      · have hj2 : 2 * j = KC + 4 := by omega
        refine xr_gets C w hz_T0 q579 dX10_encryptBlock_721 ?_
        refine lv_iload hx hb dX10_encryptBlock_724 (lv_at hl 4 rfl) ?_
        refine lv_sipush (v := nI 255) hx hb dX10_encryptBlock_726 (by decide) ?_
        refine lv_iand hx hb dX10_encryptBlock_729 ?_
        refine lv_eqi (y := nI (byI (eS kw (xw0 bi io kw 0) (2 * j) 0) 0).toNat) (ix_and (eS kw (xw0 bi io kw 0) (2 * j) 0)) ?_
        refine xr_tiald C w ha_T0 (i := (byI (eS kw (xw0 bi io kw 0) (2 * j) 0) 0).toNat) (by omega) (by omega) dX10_encryptBlock_730 ?_
        refine lv_eqi (y := (T0w (sbx (byI (eS kw (xw0 bi io kw 0) (2 * j) 0) 0)))) (tT0_at _) ?_
        refine xr_gets C w hz_T0 q579 dX10_encryptBlock_731 ?_
        refine lv_iload hx hb dX10_encryptBlock_734 (lv_at hl 5 rfl) ?_
        refine lv_bipush (v := nI 8) hx hb dX10_encryptBlock_736 (by decide) ?_
        refine lv_ishr hx hb dX10_encryptBlock_738 ?_
        refine lv_sipush (v := nI 255) hx hb dX10_encryptBlock_739 (by decide) ?_
        refine lv_iand hx hb dX10_encryptBlock_742 ?_
        refine lv_eqi (y := nI (byI (eS kw (xw0 bi io kw 0) (2 * j) 1) 1).toNat) (ix_sh (eS kw (xw0 bi io kw 0) (2 * j) 1) 1 (by decide)) ?_
        refine xr_tiald C w ha_T0 (i := (byI (eS kw (xw0 bi io kw 0) (2 * j) 1) 1).toNat) (by omega) (by omega) dX10_encryptBlock_743 ?_
        refine lv_eqi (y := (T0w (sbx (byI (eS kw (xw0 bi io kw 0) (2 * j) 1) 1)))) (tT0_at _) ?_
        refine lv_bipush (v := nI 24) hx hb dX10_encryptBlock_744 (by decide) ?_
        refine xr_callS0 (n := 2) (rest := [.int (T0w (sbx (byI (eS kw (xw0 bi io kw 0) (2 * j) 0) 0)))]) C w (met_X10_shift l G s.heap.size (T0w (sbx (byI (eS kw (xw0 bi io kw 0) (2 * j) 1) 1))) (nI 24) ) q434 q435 q19 q436 (by decide +kernel) ⟨rfl, rfl, by decide, by decide⟩ (fun _ _ _ _ h => h) (fun U hU hW => trivial) rfl hl.1 rfl (Nat.le_of_ble_eq_true rfl) dX10_encryptBlock_746 ⟨by decide, by decide⟩ (fun v hp => ?_)
        subst hp
        refine lv_ixor hx hb dX10_encryptBlock_749 ?_
        refine xr_gets C w hz_T0 q579 dX10_encryptBlock_750 ?_
        refine lv_iload hx hb dX10_encryptBlock_753 (lv_at hl 6 rfl) ?_
        refine lv_bipush (v := nI 16) hx hb dX10_encryptBlock_755 (by decide) ?_
        refine lv_ishr hx hb dX10_encryptBlock_757 ?_
        refine lv_sipush (v := nI 255) hx hb dX10_encryptBlock_758 (by decide) ?_
        refine lv_iand hx hb dX10_encryptBlock_761 ?_
        refine lv_eqi (y := nI (byI (eS kw (xw0 bi io kw 0) (2 * j) 2) 2).toNat) (ix_sh (eS kw (xw0 bi io kw 0) (2 * j) 2) 2 (by decide)) ?_
        refine xr_tiald C w ha_T0 (i := (byI (eS kw (xw0 bi io kw 0) (2 * j) 2) 2).toNat) (by omega) (by omega) dX10_encryptBlock_762 ?_
        refine lv_eqi (y := (T0w (sbx (byI (eS kw (xw0 bi io kw 0) (2 * j) 2) 2)))) (tT0_at _) ?_
        refine lv_bipush (v := nI 16) hx hb dX10_encryptBlock_763 (by decide) ?_
        refine xr_callS0 (n := 2) (rest := [.int ((T0w (sbx (byI (eS kw (xw0 bi io kw 0) (2 * j) 0) 0))) ^^^ (shf (T0w (sbx (byI (eS kw (xw0 bi io kw 0) (2 * j) 1) 1))) (nI 24)))]) C w (met_X10_shift l G s.heap.size (T0w (sbx (byI (eS kw (xw0 bi io kw 0) (2 * j) 2) 2))) (nI 16) ) q434 q435 q19 q436 (by decide +kernel) ⟨rfl, rfl, by decide, by decide⟩ (fun _ _ _ _ h => h) (fun U hU hW => trivial) rfl hl.1 rfl (Nat.le_of_ble_eq_true rfl) dX10_encryptBlock_765 ⟨by decide, by decide⟩ (fun v hp => ?_)
        subst hp
        refine lv_ixor hx hb dX10_encryptBlock_768 ?_
        refine xr_gets C w hz_T0 q579 dX10_encryptBlock_769 ?_
        refine lv_iload hx hb dX10_encryptBlock_772 (lv_at hl 7 rfl) ?_
        refine lv_bipush (v := nI 24) hx hb dX10_encryptBlock_774 (by decide) ?_
        refine lv_ishr hx hb dX10_encryptBlock_776 ?_
        refine lv_sipush (v := nI 255) hx hb dX10_encryptBlock_777 (by decide) ?_
        refine lv_iand hx hb dX10_encryptBlock_780 ?_
        refine lv_eqi (y := nI (byI (eS kw (xw0 bi io kw 0) (2 * j) 3) 3).toNat) (ix_sh (eS kw (xw0 bi io kw 0) (2 * j) 3) 3 (by decide)) ?_
        refine xr_tiald C w ha_T0 (i := (byI (eS kw (xw0 bi io kw 0) (2 * j) 3) 3).toNat) (by omega) (by omega) dX10_encryptBlock_781 ?_
        refine lv_eqi (y := (T0w (sbx (byI (eS kw (xw0 bi io kw 0) (2 * j) 3) 3)))) (tT0_at _) ?_
        refine lv_bipush (v := nI 8) hx hb dX10_encryptBlock_782 (by decide) ?_
        refine xr_callS0 (n := 2) (rest := [.int (((T0w (sbx (byI (eS kw (xw0 bi io kw 0) (2 * j) 0) 0))) ^^^ (shf (T0w (sbx (byI (eS kw (xw0 bi io kw 0) (2 * j) 1) 1))) (nI 24))) ^^^ (shf (T0w (sbx (byI (eS kw (xw0 bi io kw 0) (2 * j) 2) 2))) (nI 16)))]) C w (met_X10_shift l G s.heap.size (T0w (sbx (byI (eS kw (xw0 bi io kw 0) (2 * j) 3) 3))) (nI 8) ) q434 q435 q19 q436 (by decide +kernel) ⟨rfl, rfl, by decide, by decide⟩ (fun _ _ _ _ h => h) (fun U hU hW => trivial) rfl hl.1 rfl (Nat.le_of_ble_eq_true rfl) dX10_encryptBlock_784 ⟨by decide, by decide⟩ (fun v hp => ?_)
        subst hp
        refine lv_ixor hx hb dX10_encryptBlock_787 ?_
        refine lv_aload hx hb dX10_encryptBlock_788 (lv_at hl 3 rfl) ?_
        refine lv_iload hx hb dX10_encryptBlock_790 (lv_at hl 8 rfl) ?_
        refine xr_aald C (i := 2 * j + 1) hKW.1 (by omega) (by omega) dX10_encryptBlock_792 ?_
        refine lv_eqr (v' := .ref (ad (2 * j + 1))) rfl ?_
        refine lv_iconst (v := nI 0) hx hb dX10_encryptBlock_793 (by decide) ?_
        refine xr_iald C (i := 0) (hKW.2 (2 * j + 1) (by omega)) (by omega) (by omega) dX10_encryptBlock_794 ?_
        refine lv_ixor hx hb dX10_encryptBlock_795 ?_
        refine lv_eqi (y := (eS kw (xw0 bi io kw 0) (KC + 5) 0)) (eS_f0 (r := 2 * j) (by omega) (by omega)) ?_
        refine lv_istore (lv' := [(14, .int (eS kw (xw0 bi io kw 0) (KC + 5) 0)), (0, .ref h), (3, .ref ho), (4, .int (nI oo)), (5, .ref wa), (10, .int (eS kw (xw0 bi io kw 0) (2 * j) 0)), (11, .int (eS kw (xw0 bi io kw 0) (2 * j) 1)), (12, .int (eS kw (xw0 bi io kw 0) (2 * j) 2)), (17, .int (eS kw (xw0 bi io kw 0) (2 * j) 3)), (13, .int (nI (2 * j + 1)))]) hx hb dX10_encryptBlock_796 hl (by decide) rfl (fun ls hl => ?_)
        refine xr_gets C w hz_T0 q579 dX10_encryptBlock_798 ?_
        refine lv_iload hx hb dX10_encryptBlock_801 (lv_at hl 6 rfl) ?_
        refine lv_sipush (v := nI 255) hx hb dX10_encryptBlock_803 (by decide) ?_
        refine lv_iand hx hb dX10_encryptBlock_806 ?_
        refine lv_eqi (y := nI (byI (eS kw (xw0 bi io kw 0) (2 * j) 1) 0).toNat) (ix_and (eS kw (xw0 bi io kw 0) (2 * j) 1)) ?_
        refine xr_tiald C w ha_T0 (i := (byI (eS kw (xw0 bi io kw 0) (2 * j) 1) 0).toNat) (by omega) (by omega) dX10_encryptBlock_807 ?_
        refine lv_eqi (y := (T0w (sbx (byI (eS kw (xw0 bi io kw 0) (2 * j) 1) 0)))) (tT0_at _) ?_
        refine xr_gets C w hz_T0 q579 dX10_encryptBlock_808 ?_
        refine lv_iload hx hb dX10_encryptBlock_811 (lv_at hl 7 rfl) ?_
        refine lv_bipush (v := nI 8) hx hb dX10_encryptBlock_813 (by decide) ?_
        refine lv_ishr hx hb dX10_encryptBlock_815 ?_
        refine lv_sipush (v := nI 255) hx hb dX10_encryptBlock_816 (by decide) ?_
        refine lv_iand hx hb dX10_encryptBlock_819 ?_
        refine lv_eqi (y := nI (byI (eS kw (xw0 bi io kw 0) (2 * j) 2) 1).toNat) (ix_sh (eS kw (xw0 bi io kw 0) (2 * j) 2) 1 (by decide)) ?_
        refine xr_tiald C w ha_T0 (i := (byI (eS kw (xw0 bi io kw 0) (2 * j) 2) 1).toNat) (by omega) (by omega) dX10_encryptBlock_820 ?_
        refine lv_eqi (y := (T0w (sbx (byI (eS kw (xw0 bi io kw 0) (2 * j) 2) 1)))) (tT0_at _) ?_
        refine lv_bipush (v := nI 24) hx hb dX10_encryptBlock_821 (by decide) ?_
        refine xr_callS0 (n := 2) (rest := [.int (T0w (sbx (byI (eS kw (xw0 bi io kw 0) (2 * j) 1) 0)))]) C w (met_X10_shift l G s.heap.size (T0w (sbx (byI (eS kw (xw0 bi io kw 0) (2 * j) 2) 1))) (nI 24) ) q434 q435 q19 q436 (by decide +kernel) ⟨rfl, rfl, by decide, by decide⟩ (fun _ _ _ _ h => h) (fun U hU hW => trivial) rfl hl.1 rfl (Nat.le_of_ble_eq_true rfl) dX10_encryptBlock_823 ⟨by decide, by decide⟩ (fun v hp => ?_)
        subst hp
        refine lv_ixor hx hb dX10_encryptBlock_826 ?_
        refine xr_gets C w hz_T0 q579 dX10_encryptBlock_827 ?_
        refine lv_iload hx hb dX10_encryptBlock_830 (lv_at hl 8 rfl) ?_
        refine lv_bipush (v := nI 16) hx hb dX10_encryptBlock_832 (by decide) ?_
        refine lv_ishr hx hb dX10_encryptBlock_834 ?_
        refine lv_sipush (v := nI 255) hx hb dX10_encryptBlock_835 (by decide) ?_
        refine lv_iand hx hb dX10_encryptBlock_838 ?_
        refine lv_eqi (y := nI (byI (eS kw (xw0 bi io kw 0) (2 * j) 3) 2).toNat) (ix_sh (eS kw (xw0 bi io kw 0) (2 * j) 3) 2 (by decide)) ?_
        refine xr_tiald C w ha_T0 (i := (byI (eS kw (xw0 bi io kw 0) (2 * j) 3) 2).toNat) (by omega) (by omega) dX10_encryptBlock_839 ?_
        refine lv_eqi (y := (T0w (sbx (byI (eS kw (xw0 bi io kw 0) (2 * j) 3) 2)))) (tT0_at _) ?_
        refine lv_bipush (v := nI 16) hx hb dX10_encryptBlock_840 (by decide) ?_
        refine xr_callS0 (n := 2) (rest := [.int ((T0w (sbx (byI (eS kw (xw0 bi io kw 0) (2 * j) 1) 0))) ^^^ (shf (T0w (sbx (byI (eS kw (xw0 bi io kw 0) (2 * j) 2) 1))) (nI 24)))]) C w (met_X10_shift l G s.heap.size (T0w (sbx (byI (eS kw (xw0 bi io kw 0) (2 * j) 3) 2))) (nI 16) ) q434 q435 q19 q436 (by decide +kernel) ⟨rfl, rfl, by decide, by decide⟩ (fun _ _ _ _ h => h) (fun U hU hW => trivial) rfl hl.1 rfl (Nat.le_of_ble_eq_true rfl) dX10_encryptBlock_842 ⟨by decide, by decide⟩ (fun v hp => ?_)
        subst hp
        refine lv_ixor hx hb dX10_encryptBlock_845 ?_
        refine xr_gets C w hz_T0 q579 dX10_encryptBlock_846 ?_
        refine lv_iload hx hb dX10_encryptBlock_849 (lv_at hl 5 rfl) ?_
        refine lv_bipush (v := nI 24) hx hb dX10_encryptBlock_851 (by decide) ?_
        refine lv_ishr hx hb dX10_encryptBlock_853 ?_
        refine lv_sipush (v := nI 255) hx hb dX10_encryptBlock_854 (by decide) ?_
        refine lv_iand hx hb dX10_encryptBlock_857 ?_
        refine lv_eqi (y := nI (byI (eS kw (xw0 bi io kw 0) (2 * j) 0) 3).toNat) (ix_sh (eS kw (xw0 bi io kw 0) (2 * j) 0) 3 (by decide)) ?_
        refine xr_tiald C w ha_T0 (i := (byI (eS kw (xw0 bi io kw 0) (2 * j) 0) 3).toNat) (by omega) (by omega) dX10_encryptBlock_858 ?_
        refine lv_eqi (y := (T0w (sbx (byI (eS kw (xw0 bi io kw 0) (2 * j) 0) 3)))) (tT0_at _) ?_
        refine lv_bipush (v := nI 8) hx hb dX10_encryptBlock_859 (by decide) ?_
        refine xr_callS0 (n := 2) (rest := [.int (((T0w (sbx (byI (eS kw (xw0 bi io kw 0) (2 * j) 1) 0))) ^^^ (shf (T0w (sbx (byI (eS kw (xw0 bi io kw 0) (2 * j) 2) 1))) (nI 24))) ^^^ (shf (T0w (sbx (byI (eS kw (xw0 bi io kw 0) (2 * j) 3) 2))) (nI 16)))]) C w (met_X10_shift l G s.heap.size (T0w (sbx (byI (eS kw (xw0 bi io kw 0) (2 * j) 0) 3))) (nI 8) ) q434 q435 q19 q436 (by decide +kernel) ⟨rfl, rfl, by decide, by decide⟩ (fun _ _ _ _ h => h) (fun U hU hW => trivial) rfl hl.1 rfl (Nat.le_of_ble_eq_true rfl) dX10_encryptBlock_861 ⟨by decide, by decide⟩ (fun v hp => ?_)
        subst hp
        refine lv_ixor hx hb dX10_encryptBlock_864 ?_
        refine lv_aload hx hb dX10_encryptBlock_865 (lv_at hl 4 rfl) ?_
        refine lv_iload hx hb dX10_encryptBlock_867 (lv_at hl 9 rfl) ?_
        refine xr_aald C (i := 2 * j + 1) hKW.1 (by omega) (by omega) dX10_encryptBlock_869 ?_
        refine lv_eqr (v' := .ref (ad (2 * j + 1))) rfl ?_
        refine lv_iconst (v := nI 1) hx hb dX10_encryptBlock_870 (by decide) ?_
        refine xr_iald C (i := 1) (hKW.2 (2 * j + 1) (by omega)) (by omega) (by omega) dX10_encryptBlock_871 ?_
        refine lv_ixor hx hb dX10_encryptBlock_872 ?_
        refine lv_eqi (y := (eS kw (xw0 bi io kw 0) (KC + 5) 1)) (eS_f1 (r := 2 * j) (by omega) (by omega)) ?_
        refine lv_istore (lv' := [(15, .int (eS kw (xw0 bi io kw 0) (KC + 5) 1)), (14, .int (eS kw (xw0 bi io kw 0) (KC + 5) 0)), (0, .ref h), (3, .ref ho), (4, .int (nI oo)), (5, .ref wa), (10, .int (eS kw (xw0 bi io kw 0) (2 * j) 0)), (11, .int (eS kw (xw0 bi io kw 0) (2 * j) 1)), (12, .int (eS kw (xw0 bi io kw 0) (2 * j) 2)), (17, .int (eS kw (xw0 bi io kw 0) (2 * j) 3)), (13, .int (nI (2 * j + 1)))]) hx hb dX10_encryptBlock_873 hl (by decide) rfl (fun ls hl => ?_)
        refine xr_gets C w hz_T0 q579 dX10_encryptBlock_875 ?_
        refine lv_iload hx hb dX10_encryptBlock_878 (lv_at hl 8 rfl) ?_
        refine lv_sipush (v := nI 255) hx hb dX10_encryptBlock_880 (by decide) ?_
        refine lv_iand hx hb dX10_encryptBlock_883 ?_
        refine lv_eqi (y := nI (byI (eS kw (xw0 bi io kw 0) (2 * j) 2) 0).toNat) (ix_and (eS kw (xw0 bi io kw 0) (2 * j) 2)) ?_
        refine xr_tiald C w ha_T0 (i := (byI (eS kw (xw0 bi io kw 0) (2 * j) 2) 0).toNat) (by omega) (by omega) dX10_encryptBlock_884 ?_
        refine lv_eqi (y := (T0w (sbx (byI (eS kw (xw0 bi io kw 0) (2 * j) 2) 0)))) (tT0_at _) ?_
        refine xr_gets C w hz_T0 q579 dX10_encryptBlock_885 ?_
        refine lv_iload hx hb dX10_encryptBlock_888 (lv_at hl 9 rfl) ?_
        refine lv_bipush (v := nI 8) hx hb dX10_encryptBlock_890 (by decide) ?_
        refine lv_ishr hx hb dX10_encryptBlock_892 ?_
        refine lv_sipush (v := nI 255) hx hb dX10_encryptBlock_893 (by decide) ?_
        refine lv_iand hx hb dX10_encryptBlock_896 ?_
        refine lv_eqi (y := nI (byI (eS kw (xw0 bi io kw 0) (2 * j) 3) 1).toNat) (ix_sh (eS kw (xw0 bi io kw 0) (2 * j) 3) 1 (by decide)) ?_
        refine xr_tiald C w ha_T0 (i := (byI (eS kw (xw0 bi io kw 0) (2 * j) 3) 1).toNat) (by omega) (by omega) dX10_encryptBlock_897 ?_
        refine lv_eqi (y := (T0w (sbx (byI (eS kw (xw0 bi io kw 0) (2 * j) 3) 1)))) (tT0_at _) ?_
        refine lv_bipush (v := nI 24) hx hb dX10_encryptBlock_898 (by decide) ?_
        refine xr_callS0 (n := 2) (rest := [.int (T0w (sbx (byI (eS kw (xw0 bi io kw 0) (2 * j) 2) 0)))]) C w (met_X10_shift l G s.heap.size (T0w (sbx (byI (eS kw (xw0 bi io kw 0) (2 * j) 3) 1))) (nI 24) ) q434 q435 q19 q436 (by decide +kernel) ⟨rfl, rfl, by decide, by decide⟩ (fun _ _ _ _ h => h) (fun U hU hW => trivial) rfl hl.1 rfl (Nat.le_of_ble_eq_true rfl) dX10_encryptBlock_900 ⟨by decide, by decide⟩ (fun v hp => ?_)
        subst hp
        refine lv_ixor hx hb dX10_encryptBlock_903 ?_
        refine xr_gets C w hz_T0 q579 dX10_encryptBlock_904 ?_
        refine lv_iload hx hb dX10_encryptBlock_907 (lv_at hl 6 rfl) ?_
        refine lv_bipush (v := nI 16) hx hb dX10_encryptBlock_909 (by decide) ?_
        refine lv_ishr hx hb dX10_encryptBlock_911 ?_
        refine lv_sipush (v := nI 255) hx hb dX10_encryptBlock_912 (by decide) ?_
        refine lv_iand hx hb dX10_encryptBlock_915 ?_
        refine lv_eqi (y := nI (byI (eS kw (xw0 bi io kw 0) (2 * j) 0) 2).toNat) (ix_sh (eS kw (xw0 bi io kw 0) (2 * j) 0) 2 (by decide)) ?_
        refine xr_tiald C w ha_T0 (i := (byI (eS kw (xw0 bi io kw 0) (2 * j) 0) 2).toNat) (by omega) (by omega) dX10_encryptBlock_916 ?_
        refine lv_eqi (y := (T0w (sbx (byI (eS kw (xw0 bi io kw 0) (2 * j) 0) 2)))) (tT0_at _) ?_
        refine lv_bipush (v := nI 16) hx hb dX10_encryptBlock_917 (by decide) ?_
        refine xr_callS0 (n := 2) (rest := [.int ((T0w (sbx (byI (eS kw (xw0 bi io kw 0) (2 * j) 2) 0))) ^^^ (shf (T0w (sbx (byI (eS kw (xw0 bi io kw 0) (2 * j) 3) 1))) (nI 24)))]) C w (met_X10_shift l G s.heap.size (T0w (sbx (byI (eS kw (xw0 bi io kw 0) (2 * j) 0) 2))) (nI 16) ) q434 q435 q19 q436 (by decide +kernel) ⟨rfl, rfl, by decide, by decide⟩ (fun _ _ _ _ h => h) (fun U hU hW => trivial) rfl hl.1 rfl (Nat.le_of_ble_eq_true rfl) dX10_encryptBlock_919 ⟨by decide, by decide⟩ (fun v hp => ?_)
        subst hp
        refine lv_ixor hx hb dX10_encryptBlock_922 ?_
        refine xr_gets C w hz_T0 q579 dX10_encryptBlock_923 ?_
        refine lv_iload hx hb dX10_encryptBlock_926 (lv_at hl 7 rfl) ?_
        refine lv_bipush (v := nI 24) hx hb dX10_encryptBlock_928 (by decide) ?_
        refine lv_ishr hx hb dX10_encryptBlock_930 ?_
        refine lv_sipush (v := nI 255) hx hb dX10_encryptBlock_931 (by decide) ?_
        refine lv_iand hx hb dX10_encryptBlock_934 ?_
        refine lv_eqi (y := nI (byI (eS kw (xw0 bi io kw 0) (2 * j) 1) 3).toNat) (ix_sh (eS kw (xw0 bi io kw 0) (2 * j) 1) 3 (by decide)) ?_
        refine xr_tiald C w ha_T0 (i := (byI (eS kw (xw0 bi io kw 0) (2 * j) 1) 3).toNat) (by omega) (by omega) dX10_encryptBlock_935 ?_
        refine lv_eqi (y := (T0w (sbx (byI (eS kw (xw0 bi io kw 0) (2 * j) 1) 3)))) (tT0_at _) ?_
        refine lv_bipush (v := nI 8) hx hb dX10_encryptBlock_936 (by decide) ?_
        refine xr_callS0 (n := 2) (rest := [.int (((T0w (sbx (byI (eS kw (xw0 bi io kw 0) (2 * j) 2) 0))) ^^^ (shf (T0w (sbx (byI (eS kw (xw0 bi io kw 0) (2 * j) 3) 1))) (nI 24))) ^^^ (shf (T0w (sbx (byI (eS kw (xw0 bi io kw 0) (2 * j) 0) 2))) (nI 16)))]) C w (met_X10_shift l G s.heap.size (T0w (sbx (byI (eS kw (xw0 bi io kw 0) (2 * j) 1) 3))) (nI 8) ) q434 q435 q19 q436 (by decide +kernel) ⟨rfl, rfl, by decide, by decide⟩ (fun _ _ _ _ h => h) (fun U hU hW => trivial) rfl hl.1 rfl (Nat.le_of_ble_eq_true rfl) dX10_encryptBlock_938 ⟨by decide, by decide⟩ (fun v hp => ?_)
        subst hp
        refine lv_ixor hx hb dX10_encryptBlock_941 ?_
        refine lv_aload hx hb dX10_encryptBlock_942 (lv_at hl 5 rfl) ?_
        refine lv_iload hx hb dX10_encryptBlock_944 (lv_at hl 10 rfl) ?_
        refine xr_aald C (i := 2 * j + 1) hKW.1 (by omega) (by omega) dX10_encryptBlock_946 ?_
        refine lv_eqr (v' := .ref (ad (2 * j + 1))) rfl ?_
        refine lv_iconst (v := nI 2) hx hb dX10_encryptBlock_947 (by decide) ?_
        refine xr_iald C (i := 2) (hKW.2 (2 * j + 1) (by omega)) (by omega) (by omega) dX10_encryptBlock_948 ?_
        refine lv_ixor hx hb dX10_encryptBlock_949 ?_
        refine lv_eqi (y := (eS kw (xw0 bi io kw 0) (KC + 5) 2)) (eS_f2 (r := 2 * j) (by omega) (by omega)) ?_
        refine lv_istore (lv' := [(16, .int (eS kw (xw0 bi io kw 0) (KC + 5) 2)), (15, .int (eS kw (xw0 bi io kw 0) (KC + 5) 1)), (14, .int (eS kw (xw0 bi io kw 0) (KC + 5) 0)), (0, .ref h), (3, .ref ho), (4, .int (nI oo)), (5, .ref wa), (10, .int (eS kw (xw0 bi io kw 0) (2 * j) 0)), (11, .int (eS kw (xw0 bi io kw 0) (2 * j) 1)), (12, .int (eS kw (xw0 bi io kw 0) (2 * j) 2)), (17, .int (eS kw (xw0 bi io kw 0) (2 * j) 3)), (13, .int (nI (2 * j + 1)))]) hx hb dX10_encryptBlock_950 hl (by decide) rfl (fun ls hl => ?_)
        refine xr_gets C w hz_T0 q579 dX10_encryptBlock_952 ?_
        refine lv_iload hx hb dX10_encryptBlock_955 (lv_at hl 10 rfl) ?_
        refine lv_sipush (v := nI 255) hx hb dX10_encryptBlock_957 (by decide) ?_
        refine lv_iand hx hb dX10_encryptBlock_960 ?_
        refine lv_eqi (y := nI (byI (eS kw (xw0 bi io kw 0) (2 * j) 3) 0).toNat) (ix_and (eS kw (xw0 bi io kw 0) (2 * j) 3)) ?_
        refine xr_tiald C w ha_T0 (i := (byI (eS kw (xw0 bi io kw 0) (2 * j) 3) 0).toNat) (by omega) (by omega) dX10_encryptBlock_961 ?_
        refine lv_eqi (y := (T0w (sbx (byI (eS kw (xw0 bi io kw 0) (2 * j) 3) 0)))) (tT0_at _) ?_
        refine xr_gets C w hz_T0 q579 dX10_encryptBlock_962 ?_
        refine lv_iload hx hb dX10_encryptBlock_965 (lv_at hl 7 rfl) ?_
        refine lv_bipush (v := nI 8) hx hb dX10_encryptBlock_967 (by decide) ?_
        refine lv_ishr hx hb dX10_encryptBlock_969 ?_
        refine lv_sipush (v := nI 255) hx hb dX10_encryptBlock_970 (by decide) ?_
        refine lv_iand hx hb dX10_encryptBlock_973 ?_
        refine lv_eqi (y := nI (byI (eS kw (xw0 bi io kw 0) (2 * j) 0) 1).toNat) (ix_sh (eS kw (xw0 bi io kw 0) (2 * j) 0) 1 (by decide)) ?_
        refine xr_tiald C w ha_T0 (i := (byI (eS kw (xw0 bi io kw 0) (2 * j) 0) 1).toNat) (by omega) (by omega) dX10_encryptBlock_974 ?_
        refine lv_eqi (y := (T0w (sbx (byI (eS kw (xw0 bi io kw 0) (2 * j) 0) 1)))) (tT0_at _) ?_
        refine lv_bipush (v := nI 24) hx hb dX10_encryptBlock_975 (by decide) ?_
        refine xr_callS0 (n := 2) (rest := [.int (T0w (sbx (byI (eS kw (xw0 bi io kw 0) (2 * j) 3) 0)))]) C w (met_X10_shift l G s.heap.size (T0w (sbx (byI (eS kw (xw0 bi io kw 0) (2 * j) 0) 1))) (nI 24) ) q434 q435 q19 q436 (by decide +kernel) ⟨rfl, rfl, by decide, by decide⟩ (fun _ _ _ _ h => h) (fun U hU hW => trivial) rfl hl.1 rfl (Nat.le_of_ble_eq_true rfl) dX10_encryptBlock_977 ⟨by decide, by decide⟩ (fun v hp => ?_)
        subst hp
        refine lv_ixor hx hb dX10_encryptBlock_980 ?_
        refine xr_gets C w hz_T0 q579 dX10_encryptBlock_981 ?_
        refine lv_iload hx hb dX10_encryptBlock_984 (lv_at hl 8 rfl) ?_
        refine lv_bipush (v := nI 16) hx hb dX10_encryptBlock_986 (by decide) ?_
        refine lv_ishr hx hb dX10_encryptBlock_988 ?_
        refine lv_sipush (v := nI 255) hx hb dX10_encryptBlock_989 (by decide) ?_
        refine lv_iand hx hb dX10_encryptBlock_992 ?_
        refine lv_eqi (y := nI (byI (eS kw (xw0 bi io kw 0) (2 * j) 1) 2).toNat) (ix_sh (eS kw (xw0 bi io kw 0) (2 * j) 1) 2 (by decide)) ?_
        refine xr_tiald C w ha_T0 (i := (byI (eS kw (xw0 bi io kw 0) (2 * j) 1) 2).toNat) (by omega) (by omega) dX10_encryptBlock_993 ?_
        refine lv_eqi (y := (T0w (sbx (byI (eS kw (xw0 bi io kw 0) (2 * j) 1) 2)))) (tT0_at _) ?_
        refine lv_bipush (v := nI 16) hx hb dX10_encryptBlock_994 (by decide) ?_
        refine xr_callS0 (n := 2) (rest := [.int ((T0w (sbx (byI (eS kw (xw0 bi io kw 0) (2 * j) 3) 0))) ^^^ (shf (T0w (sbx (byI (eS kw (xw0 bi io kw 0) (2 * j) 0) 1))) (nI 24)))]) C w (met_X10_shift l G s.heap.size (T0w (sbx (byI (eS kw (xw0 bi io kw 0) (2 * j) 1) 2))) (nI 16) ) q434 q435 q19 q436 (by decide +kernel) ⟨rfl, rfl, by decide, by decide⟩ (fun _ _ _ _ h => h) (fun U hU hW => trivial) rfl hl.1 rfl (Nat.le_of_ble_eq_true rfl) dX10_encryptBlock_996 ⟨by decide, by decide⟩ (fun v hp => ?_)
        subst hp
        refine lv_ixor hx hb dX10_encryptBlock_999 ?_
        refine xr_gets C w hz_T0 q579 dX10_encryptBlock_1000 ?_
        refine lv_iload hx hb dX10_encryptBlock_1003 (lv_at hl 9 rfl) ?_
        refine lv_bipush (v := nI 24) hx hb dX10_encryptBlock_1005 (by decide) ?_
        refine lv_ishr hx hb dX10_encryptBlock_1007 ?_
        refine lv_sipush (v := nI 255) hx hb dX10_encryptBlock_1008 (by decide) ?_
        refine lv_iand hx hb dX10_encryptBlock_1011 ?_
        refine lv_eqi (y := nI (byI (eS kw (xw0 bi io kw 0) (2 * j) 2) 3).toNat) (ix_sh (eS kw (xw0 bi io kw 0) (2 * j) 2) 3 (by decide)) ?_
        refine xr_tiald C w ha_T0 (i := (byI (eS kw (xw0 bi io kw 0) (2 * j) 2) 3).toNat) (by omega) (by omega) dX10_encryptBlock_1012 ?_
        refine lv_eqi (y := (T0w (sbx (byI (eS kw (xw0 bi io kw 0) (2 * j) 2) 3)))) (tT0_at _) ?_
        refine lv_bipush (v := nI 8) hx hb dX10_encryptBlock_1013 (by decide) ?_
        refine xr_callS0 (n := 2) (rest := [.int (((T0w (sbx (byI (eS kw (xw0 bi io kw 0) (2 * j) 3) 0))) ^^^ (shf (T0w (sbx (byI (eS kw (xw0 bi io kw 0) (2 * j) 0) 1))) (nI 24))) ^^^ (shf (T0w (sbx (byI (eS kw (xw0 bi io kw 0) (2 * j) 1) 2))) (nI 16)))]) C w (met_X10_shift l G s.heap.size (T0w (sbx (byI (eS kw (xw0 bi io kw 0) (2 * j) 2) 3))) (nI 8) ) q434 q435 q19 q436 (by decide +kernel) ⟨rfl, rfl, by decide, by decide⟩ (fun _ _ _ _ h => h) (fun U hU hW => trivial) rfl hl.1 rfl (Nat.le_of_ble_eq_true rfl) dX10_encryptBlock_1015 ⟨by decide, by decide⟩ (fun v hp => ?_)
        subst hp
        refine lv_ixor hx hb dX10_encryptBlock_1018 ?_
        refine lv_aload hx hb dX10_encryptBlock_1019 (lv_at hl 6 rfl) ?_
        refine lv_iload hx hb dX10_encryptBlock_1021 (lv_at hl 11 rfl) ?_
        refine lv_iinc (v := nI (KC + 6)) (lv' := [(13, .int (nI (KC + 6))), (16, .int (eS kw (xw0 bi io kw 0) (KC + 5) 2)), (15, .int (eS kw (xw0 bi io kw 0) (KC + 5) 1)), (14, .int (eS kw (xw0 bi io kw 0) (KC + 5) 0)), (0, .ref h), (3, .ref ho), (4, .int (nI oo)), (5, .ref wa), (10, .int (eS kw (xw0 bi io kw 0) (2 * j) 0)), (11, .int (eS kw (xw0 bi io kw 0) (2 * j) 1)), (12, .int (eS kw (xw0 bi io kw 0) (2 * j) 2)), (17, .int (eS kw (xw0 bi io kw 0) (2 * j) 3))]) hx hb dX10_encryptBlock_1023 hl (k := 11) rfl ((nI_add (2 * j + 1) 1).trans (by rw [show 2 * j + 1 + 1 = KC + 6 by omega])) (by decide) rfl (fun ls hl => ?_)
        refine xr_aald C (i := 2 * j + 1) hKW.1 (by omega) (by omega) dX10_encryptBlock_1026 ?_
        refine lv_eqr (v' := .ref (ad (2 * j + 1))) rfl ?_
        refine lv_iconst (v := nI 3) hx hb dX10_encryptBlock_1027 (by decide) ?_
        refine xr_iald C (i := 3) (hKW.2 (2 * j + 1) (by omega)) (by omega) (by omega) dX10_encryptBlock_1028 ?_
        refine lv_ixor hx hb dX10_encryptBlock_1029 ?_
        refine lv_eqi (y := (eS kw (xw0 bi io kw 0) (KC + 5) 3)) (eS_f3 (r := 2 * j) (by omega) (by omega)) ?_
        refine lv_istore (lv' := [(17, .int (eS kw (xw0 bi io kw 0) (KC + 5) 3)), (13, .int (nI (KC + 6))), (16, .int (eS kw (xw0 bi io kw 0) (KC + 5) 2)), (15, .int (eS kw (xw0 bi io kw 0) (KC + 5) 1)), (14, .int (eS kw (xw0 bi io kw 0) (KC + 5) 0)), (0, .ref h), (3, .ref ho), (4, .int (nI oo)), (5, .ref wa), (10, .int (eS kw (xw0 bi io kw 0) (2 * j) 0)), (11, .int (eS kw (xw0 bi io kw 0) (2 * j) 1)), (12, .int (eS kw (xw0 bi io kw 0) (2 * j) 2))]) hx hb dX10_encryptBlock_1030 hl (by decide) rfl (fun ls hl => ?_)
        refine xr_gets C w hz_S q440 dX10_encryptBlock_1032 ?_
        refine lv_iload hx hb dX10_encryptBlock_1035 (lv_at hl 4 rfl) ?_
        refine lv_sipush (v := nI 255) hx hb dX10_encryptBlock_1037 (by decide) ?_
        refine lv_iand hx hb dX10_encryptBlock_1040 ?_
        refine lv_eqi (y := nI (byI (eS kw (xw0 bi io kw 0) (KC + 5) 0) 0).toNat) (ix_and (eS kw (xw0 bi io kw 0) (KC + 5) 0)) ?_
        refine xr_tbald C w ha_S (i := (byI (eS kw (xw0 bi io kw 0) (KC + 5) 0) 0).toNat) (by omega) (by omega) dX10_encryptBlock_1041 ?_
        refine lv_eqi (y := (sB (sbx (byI (eS kw (xw0 bi io kw 0) (KC + 5) 0) 0)))) (tS_at _) ?_
        refine lv_sipush (v := nI 255) hx hb dX10_encryptBlock_1042 (by decide) ?_
        refine lv_iand hx hb dX10_encryptBlock_1045 ?_
        refine lv_eqi (y := uB (sbx (byI (eS kw (xw0 bi io kw 0) (KC + 5) 0) 0))) (sB_and _) ?_
        refine xr_gets C w hz_S q440 dX10_encryptBlock_1046 ?_
        refine lv_iload hx hb dX10_encryptBlock_1049 (lv_at hl 3 rfl) ?_
        refine lv_bipush (v := nI 8) hx hb dX10_encryptBlock_1051 (by decide) ?_
        refine lv_ishr hx hb dX10_encryptBlock_1053 ?_
        refine lv_sipush (v := nI 255) hx hb dX10_encryptBlock_1054 (by decide) ?_
        refine lv_iand hx hb dX10_encryptBlock_1057 ?_
        refine lv_eqi (y := nI (byI (eS kw (xw0 bi io kw 0) (KC + 5) 1) 1).toNat) (ix_sh (eS kw (xw0 bi io kw 0) (KC + 5) 1) 1 (by decide)) ?_
        refine xr_tbald C w ha_S (i := (byI (eS kw (xw0 bi io kw 0) (KC + 5) 1) 1).toNat) (by omega) (by omega) dX10_encryptBlock_1058 ?_
        refine lv_eqi (y := (sB (sbx (byI (eS kw (xw0 bi io kw 0) (KC + 5) 1) 1)))) (tS_at _) ?_
        refine lv_sipush (v := nI 255) hx hb dX10_encryptBlock_1059 (by decide) ?_
        refine lv_iand hx hb dX10_encryptBlock_1062 ?_
        refine lv_eqi (y := uB (sbx (byI (eS kw (xw0 bi io kw 0) (KC + 5) 1) 1))) (sB_and _) ?_
        refine lv_bipush (v := nI 8) hx hb dX10_encryptBlock_1063 (by decide) ?_
        refine lv_ishl hx hb dX10_encryptBlock_1065 ?_
        refine lv_ixor hx hb dX10_encryptBlock_1066 ?_
        refine lv_aload_n hx hb dX10_encryptBlock_1067 rfl (lv_at hl 5 rfl) ?_
        refine xr_get (ci := 6) (v := .ref hs) (Cn := RX10) (T := TX10) (N := 4) C hR0 in_X10 rfl 3 (by decide) q142 (fun _ h => h) rfl dX10_encryptBlock_1068 ?_
        refine lv_iload hx hb dX10_encryptBlock_1071 (lv_at hl 2 rfl) ?_
        refine lv_bipush (v := nI 16) hx hb dX10_encryptBlock_1073 (by decide) ?_
        refine lv_ishr hx hb dX10_encryptBlock_1075 ?_
        refine lv_sipush (v := nI 255) hx hb dX10_encryptBlock_1076 (by decide) ?_
        refine lv_iand hx hb dX10_encryptBlock_1079 ?_
        refine lv_eqi (y := nI (byI (eS kw (xw0 bi io kw 0) (KC + 5) 2) 2).toNat) (ix_sh (eS kw (xw0 bi io kw 0) (KC + 5) 2) 2 (by decide)) ?_
        refine xr_bald C (i := (byI (eS kw (xw0 bi io kw 0) (KC + 5) 2) 2).toNat) hR1 (by omega) (by omega) dX10_encryptBlock_1080 ?_
        refine lv_eqi (y := (sB (sbx (byI (eS kw (xw0 bi io kw 0) (KC + 5) 2) 2)))) (sbF_at _) ?_
        refine lv_sipush (v := nI 255) hx hb dX10_encryptBlock_1081 (by decide) ?_
        refine lv_iand hx hb dX10_encryptBlock_1084 ?_
        refine lv_eqi (y := uB (sbx (byI (eS kw (xw0 bi io kw 0) (KC + 5) 2) 2))) (sB_and _) ?_
        refine lv_bipush (v := nI 16) hx hb dX10_encryptBlock_1085 (by decide) ?_
        refine lv_ishl hx hb dX10_encryptBlock_1087 ?_
        refine lv_ixor hx hb dX10_encryptBlock_1088 ?_
        refine lv_aload_n hx hb dX10_encryptBlock_1089 rfl (lv_at hl 5 rfl) ?_
        refine xr_get (ci := 6) (v := .ref hs) (Cn := RX10) (T := TX10) (N := 4) C hR0 in_X10 rfl 3 (by decide) q142 (fun _ h => h) rfl dX10_encryptBlock_1090 ?_
        refine lv_iload hx hb dX10_encryptBlock_1093 (lv_at hl 0 rfl) ?_
        refine lv_bipush (v := nI 24) hx hb dX10_encryptBlock_1095 (by decide) ?_
        refine lv_ishr hx hb dX10_encryptBlock_1097 ?_
        refine lv_sipush (v := nI 255) hx hb dX10_encryptBlock_1098 (by decide) ?_
        refine lv_iand hx hb dX10_encryptBlock_1101 ?_
        refine lv_eqi (y := nI (byI (eS kw (xw0 bi io kw 0) (KC + 5) 3) 3).toNat) (ix_sh (eS kw (xw0 bi io kw 0) (KC + 5) 3) 3 (by decide)) ?_
        refine xr_bald C (i := (byI (eS kw (xw0 bi io kw 0) (KC + 5) 3) 3).toNat) hR1 (by omega) (by omega) dX10_encryptBlock_1102 ?_
        refine lv_eqi (y := (sB (sbx (byI (eS kw (xw0 bi io kw 0) (KC + 5) 3) 3)))) (sbF_at _) ?_
        refine lv_bipush (v := nI 24) hx hb dX10_encryptBlock_1103 (by decide) ?_
        refine lv_ishl hx hb dX10_encryptBlock_1105 ?_
        refine lv_ixor hx hb dX10_encryptBlock_1106 ?_
        refine lv_eqi (y := (wI (sbx (byI (eS kw (xw0 bi io kw 0) (KC + 5) 0) 0)) (sbx (byI (eS kw (xw0 bi io kw 0) (KC + 5) 1) 1)) (sbx (byI (eS kw (xw0 bi io kw 0) (KC + 5) 2) 2)) (sbx (byI (eS kw (xw0 bi io kw 0) (KC + 5) 3) 3)))) (mk_xor _ _ _ _) ?_
        refine lv_aload hx hb dX10_encryptBlock_1107 (lv_at hl 8 rfl) ?_
        refine lv_iload hx hb dX10_encryptBlock_1109 (lv_at hl 1 rfl) ?_
        refine xr_aald C (i := KC + 6) hKW.1 (by omega) (by omega) dX10_encryptBlock_1111 ?_
        refine lv_eqr (v' := .ref (ad (KC + 6))) rfl ?_
        refine lv_iconst (v := nI 0) hx hb dX10_encryptBlock_1112 (by decide) ?_
        refine xr_iald C (i := 0) (hKW.2 (KC + 6) (by omega)) (by omega) (by omega) dX10_encryptBlock_1113 ?_
        refine lv_ixor hx hb dX10_encryptBlock_1114 ?_
        refine lv_eqi (y := (eO KC kw (xw0 bi io kw 0) 0)) (rfl) ?_
        refine lv_istore (lv' := [(6, .int (eO KC kw (xw0 bi io kw 0) 0)), (17, .int (eS kw (xw0 bi io kw 0) (KC + 5) 3)), (13, .int (nI (KC + 6))), (16, .int (eS kw (xw0 bi io kw 0) (KC + 5) 2)), (15, .int (eS kw (xw0 bi io kw 0) (KC + 5) 1)), (14, .int (eS kw (xw0 bi io kw 0) (KC + 5) 0)), (0, .ref h), (3, .ref ho), (4, .int (nI oo)), (5, .ref wa), (10, .int (eS kw (xw0 bi io kw 0) (2 * j) 0)), (11, .int (eS kw (xw0 bi io kw 0) (2 * j) 1)), (12, .int (eS kw (xw0 bi io kw 0) (2 * j) 2))]) hx hb dX10_encryptBlock_1115 hl (by decide) rfl (fun ls hl => ?_)
        refine lv_aload_n hx hb dX10_encryptBlock_1117 rfl (lv_at hl 6 rfl) ?_
        refine xr_get (ci := 6) (v := .ref hs) (Cn := RX10) (T := TX10) (N := 4) C hR0 in_X10 rfl 3 (by decide) q142 (fun _ h => h) rfl dX10_encryptBlock_1118 ?_
        refine lv_iload hx hb dX10_encryptBlock_1121 (lv_at hl 4 rfl) ?_
        refine lv_sipush (v := nI 255) hx hb dX10_encryptBlock_1123 (by decide) ?_
        refine lv_iand hx hb dX10_encryptBlock_1126 ?_
        refine lv_eqi (y := nI (byI (eS kw (xw0 bi io kw 0) (KC + 5) 1) 0).toNat) (ix_and (eS kw (xw0 bi io kw 0) (KC + 5) 1)) ?_
        refine xr_bald C (i := (byI (eS kw (xw0 bi io kw 0) (KC + 5) 1) 0).toNat) hR1 (by omega) (by omega) dX10_encryptBlock_1127 ?_
        refine lv_eqi (y := (sB (sbx (byI (eS kw (xw0 bi io kw 0) (KC + 5) 1) 0)))) (sbF_at _) ?_
        refine lv_sipush (v := nI 255) hx hb dX10_encryptBlock_1128 (by decide) ?_
        refine lv_iand hx hb dX10_encryptBlock_1131 ?_
        refine lv_eqi (y := uB (sbx (byI (eS kw (xw0 bi io kw 0) (KC + 5) 1) 0))) (sB_and _) ?_
        refine xr_gets C w hz_S q440 dX10_encryptBlock_1132 ?_
        refine lv_iload hx hb dX10_encryptBlock_1135 (lv_at hl 3 rfl) ?_
        refine lv_bipush (v := nI 8) hx hb dX10_encryptBlock_1137 (by decide) ?_
        refine lv_ishr hx hb dX10_encryptBlock_1139 ?_
        refine lv_sipush (v := nI 255) hx hb dX10_encryptBlock_1140 (by decide) ?_
        refine lv_iand hx hb dX10_encryptBlock_1143 ?_
        refine lv_eqi (y := nI (byI (eS kw (xw0 bi io kw 0) (KC + 5) 2) 1).toNat) (ix_sh (eS kw (xw0 bi io kw 0) (KC + 5) 2) 1 (by decide)) ?_
        refine xr_tbald C w ha_S (i := (byI (eS kw (xw0 bi io kw 0) (KC + 5) 2) 1).toNat) (by omega) (by omega) dX10_encryptBlock_1144 ?_
        refine lv_eqi (y := (sB (sbx (byI (eS kw (xw0 bi io kw 0) (KC + 5) 2) 1)))) (tS_at _) ?_
        refine lv_sipush (v := nI 255) hx hb dX10_encryptBlock_1145 (by decide) ?_
        refine lv_iand hx hb dX10_encryptBlock_1148 ?_
        refine lv_eqi (y := uB (sbx (byI (eS kw (xw0 bi io kw 0) (KC + 5) 2) 1))) (sB_and _) ?_
        refine lv_bipush (v := nI 8) hx hb dX10_encryptBlock_1149 (by decide) ?_
        refine lv_ishl hx hb dX10_encryptBlock_1151 ?_
        refine lv_ixor hx hb dX10_encryptBlock_1152 ?_
        refine xr_gets C w hz_S q440 dX10_encryptBlock_1153 ?_
        refine lv_iload hx hb dX10_encryptBlock_1156 (lv_at hl 1 rfl) ?_
        refine lv_bipush (v := nI 16) hx hb dX10_encryptBlock_1158 (by decide) ?_
        refine lv_ishr hx hb dX10_encryptBlock_1160 ?_
        refine lv_sipush (v := nI 255) hx hb dX10_encryptBlock_1161 (by decide) ?_
        refine lv_iand hx hb dX10_encryptBlock_1164 ?_
        refine lv_eqi (y := nI (byI (eS kw (xw0 bi io kw 0) (KC + 5) 3) 2).toNat) (ix_sh (eS kw (xw0 bi io kw 0) (KC + 5) 3) 2 (by decide)) ?_
        refine xr_tbald C w ha_S (i := (byI (eS kw (xw0 bi io kw 0) (KC + 5) 3) 2).toNat) (by omega) (by omega) dX10_encryptBlock_1165 ?_
        refine lv_eqi (y := (sB (sbx (byI (eS kw (xw0 bi io kw 0) (KC + 5) 3) 2)))) (tS_at _) ?_
        refine lv_sipush (v := nI 255) hx hb dX10_encryptBlock_1166 (by decide) ?_
        refine lv_iand hx hb dX10_encryptBlock_1169 ?_
        refine lv_eqi (y := uB (sbx (byI (eS kw (xw0 bi io kw 0) (KC + 5) 3) 2))) (sB_and _) ?_
        refine lv_bipush (v := nI 16) hx hb dX10_encryptBlock_1170 (by decide) ?_
        refine lv_ishl hx hb dX10_encryptBlock_1172 ?_
        refine lv_ixor hx hb dX10_encryptBlock_1173 ?_
        refine lv_aload_n hx hb dX10_encryptBlock_1174 rfl (lv_at hl 6 rfl) ?_
        refine xr_get (ci := 6) (v := .ref hs) (Cn := RX10) (T := TX10) (N := 4) C hR0 in_X10 rfl 3 (by decide) q142 (fun _ h => h) rfl dX10_encryptBlock_1175 ?_
        refine lv_iload hx hb dX10_encryptBlock_1178 (lv_at hl 5 rfl) ?_
        refine lv_bipush (v := nI 24) hx hb dX10_encryptBlock_1180 (by decide) ?_
        refine lv_ishr hx hb dX10_encryptBlock_1182 ?_
        refine lv_sipush (v := nI 255) hx hb dX10_encryptBlock_1183 (by decide) ?_
        refine lv_iand hx hb dX10_encryptBlock_1186 ?_
        refine lv_eqi (y := nI (byI (eS kw (xw0 bi io kw 0) (KC + 5) 0) 3).toNat) (ix_sh (eS kw (xw0 bi io kw 0) (KC + 5) 0) 3 (by decide)) ?_
        refine xr_bald C (i := (byI (eS kw (xw0 bi io kw 0) (KC + 5) 0) 3).toNat) hR1 (by omega) (by omega) dX10_encryptBlock_1187 ?_
        refine lv_eqi (y := (sB (sbx (byI (eS kw (xw0 bi io kw 0) (KC + 5) 0) 3)))) (sbF_at _) ?_
        refine lv_bipush (v := nI 24) hx hb dX10_encryptBlock_1188 (by decide) ?_
        refine lv_ishl hx hb dX10_encryptBlock_1190 ?_
        refine lv_ixor hx hb dX10_encryptBlock_1191 ?_
        refine lv_eqi (y := (wI (sbx (byI (eS kw (xw0 bi io kw 0) (KC + 5) 1) 0)) (sbx (byI (eS kw (xw0 bi io kw 0) (KC + 5) 2) 1)) (sbx (byI (eS kw (xw0 bi io kw 0) (KC + 5) 3) 2)) (sbx (byI (eS kw (xw0 bi io kw 0) (KC + 5) 0) 3)))) (mk_xor _ _ _ _) ?_
        refine lv_aload hx hb dX10_encryptBlock_1192 (lv_at hl 9 rfl) ?_
        refine lv_iload hx hb dX10_encryptBlock_1194 (lv_at hl 2 rfl) ?_
        refine xr_aald C (i := KC + 6) hKW.1 (by omega) (by omega) dX10_encryptBlock_1196 ?_
        refine lv_eqr (v' := .ref (ad (KC + 6))) rfl ?_
        refine lv_iconst (v := nI 1) hx hb dX10_encryptBlock_1197 (by decide) ?_
        refine xr_iald C (i := 1) (hKW.2 (KC + 6) (by omega)) (by omega) (by omega) dX10_encryptBlock_1198 ?_
        refine lv_ixor hx hb dX10_encryptBlock_1199 ?_
        refine lv_eqi (y := (eO KC kw (xw0 bi io kw 0) 1)) (rfl) ?_
        refine lv_istore (lv' := [(7, .int (eO KC kw (xw0 bi io kw 0) 1)), (6, .int (eO KC kw (xw0 bi io kw 0) 0)), (17, .int (eS kw (xw0 bi io kw 0) (KC + 5) 3)), (13, .int (nI (KC + 6))), (16, .int (eS kw (xw0 bi io kw 0) (KC + 5) 2)), (15, .int (eS kw (xw0 bi io kw 0) (KC + 5) 1)), (14, .int (eS kw (xw0 bi io kw 0) (KC + 5) 0)), (0, .ref h), (3, .ref ho), (4, .int (nI oo)), (5, .ref wa), (10, .int (eS kw (xw0 bi io kw 0) (2 * j) 0)), (11, .int (eS kw (xw0 bi io kw 0) (2 * j) 1)), (12, .int (eS kw (xw0 bi io kw 0) (2 * j) 2))]) hx hb dX10_encryptBlock_1200 hl (by decide) rfl (fun ls hl => ?_)
        refine lv_aload_n hx hb dX10_encryptBlock_1202 rfl (lv_at hl 7 rfl) ?_
        refine xr_get (ci := 6) (v := .ref hs) (Cn := RX10) (T := TX10) (N := 4) C hR0 in_X10 rfl 3 (by decide) q142 (fun _ h => h) rfl dX10_encryptBlock_1203 ?_
        refine lv_iload hx hb dX10_encryptBlock_1206 (lv_at hl 4 rfl) ?_
        refine lv_sipush (v := nI 255) hx hb dX10_encryptBlock_1208 (by decide) ?_
        refine lv_iand hx hb dX10_encryptBlock_1211 ?_
        refine lv_eqi (y := nI (byI (eS kw (xw0 bi io kw 0) (KC + 5) 2) 0).toNat) (ix_and (eS kw (xw0 bi io kw 0) (KC + 5) 2)) ?_
        refine xr_bald C (i := (byI (eS kw (xw0 bi io kw 0) (KC + 5) 2) 0).toNat) hR1 (by omega) (by omega) dX10_encryptBlock_1212 ?_
        refine lv_eqi (y := (sB (sbx (byI (eS kw (xw0 bi io kw 0) (KC + 5) 2) 0)))) (sbF_at _) ?_
        refine lv_sipush (v := nI 255) hx hb dX10_encryptBlock_1213 (by decide) ?_
        refine lv_iand hx hb dX10_encryptBlock_1216 ?_
        refine lv_eqi (y := uB (sbx (byI (eS kw (xw0 bi io kw 0) (KC + 5) 2) 0))) (sB_and _) ?_
        refine xr_gets C w hz_S q440 dX10_encryptBlock_1217 ?_
        refine lv_iload hx hb dX10_encryptBlock_1220 (lv_at hl 2 rfl) ?_
        refine lv_bipush (v := nI 8) hx hb dX10_encryptBlock_1222 (by decide) ?_
        refine lv_ishr hx hb dX10_encryptBlock_1224 ?_
        refine lv_sipush (v := nI 255) hx hb dX10_encryptBlock_1225 (by decide) ?_
        refine lv_iand hx hb dX10_encryptBlock_1228 ?_
        refine lv_eqi (y := nI (byI (eS kw (xw0 bi io kw 0) (KC + 5) 3) 1).toNat) (ix_sh (eS kw (xw0 bi io kw 0) (KC + 5) 3) 1 (by decide)) ?_
        refine xr_tbald C w ha_S (i := (byI (eS kw (xw0 bi io kw 0) (KC + 5) 3) 1).toNat) (by omega) (by omega) dX10_encryptBlock_1229 ?_
        refine lv_eqi (y := (sB (sbx (byI (eS kw (xw0 bi io kw 0) (KC + 5) 3) 1)))) (tS_at _) ?_
        refine lv_sipush (v := nI 255) hx hb dX10_encryptBlock_1230 (by decide) ?_
        refine lv_iand hx hb dX10_encryptBlock_1233 ?_
        refine lv_eqi (y := uB (sbx (byI (eS kw (xw0 bi io kw 0) (KC + 5) 3) 1))) (sB_and _) ?_
        refine lv_bipush (v := nI 8) hx hb dX10_encryptBlock_1234 (by decide) ?_
        refine lv_ishl hx hb dX10_encryptBlock_1236 ?_
        refine lv_ixor hx hb dX10_encryptBlock_1237 ?_
        refine xr_gets C w hz_S q440 dX10_encryptBlock_1238 ?_
        refine lv_iload hx hb dX10_encryptBlock_1241 (lv_at hl 6 rfl) ?_
        refine lv_bipush (v := nI 16) hx hb dX10_encryptBlock_1243 (by decide) ?_
        refine lv_ishr hx hb dX10_encryptBlock_1245 ?_
        refine lv_sipush (v := nI 255) hx hb dX10_encryptBlock_1246 (by decide) ?_
        refine lv_iand hx hb dX10_encryptBlock_1249 ?_
        refine lv_eqi (y := nI (byI (eS kw (xw0 bi io kw 0) (KC + 5) 0) 2).toNat) (ix_sh (eS kw (xw0 bi io kw 0) (KC + 5) 0) 2 (by decide)) ?_
        refine xr_tbald C w ha_S (i := (byI (eS kw (xw0 bi io kw 0) (KC + 5) 0) 2).toNat) (by omega) (by omega) dX10_encryptBlock_1250 ?_
        refine lv_eqi (y := (sB (sbx (byI (eS kw (xw0 bi io kw 0) (KC + 5) 0) 2)))) (tS_at _) ?_
        refine lv_sipush (v := nI 255) hx hb dX10_encryptBlock_1251 (by decide) ?_
        refine lv_iand hx hb dX10_encryptBlock_1254 ?_
        refine lv_eqi (y := uB (sbx (byI (eS kw (xw0 bi io kw 0) (KC + 5) 0) 2))) (sB_and _) ?_
        refine lv_bipush (v := nI 16) hx hb dX10_encryptBlock_1255 (by decide) ?_
        refine lv_ishl hx hb dX10_encryptBlock_1257 ?_
        refine lv_ixor hx hb dX10_encryptBlock_1258 ?_
        refine xr_gets C w hz_S q440 dX10_encryptBlock_1259 ?_
        refine lv_iload hx hb dX10_encryptBlock_1262 (lv_at hl 5 rfl) ?_
        refine lv_bipush (v := nI 24) hx hb dX10_encryptBlock_1264 (by decide) ?_
        refine lv_ishr hx hb dX10_encryptBlock_1266 ?_
        refine lv_sipush (v := nI 255) hx hb dX10_encryptBlock_1267 (by decide) ?_
        refine lv_iand hx hb dX10_encryptBlock_1270 ?_
        refine lv_eqi (y := nI (byI (eS kw (xw0 bi io kw 0) (KC + 5) 1) 3).toNat) (ix_sh (eS kw (xw0 bi io kw 0) (KC + 5) 1) 3 (by decide)) ?_
        refine xr_tbald C w ha_S (i := (byI (eS kw (xw0 bi io kw 0) (KC + 5) 1) 3).toNat) (by omega) (by omega) dX10_encryptBlock_1271 ?_
        refine lv_eqi (y := (sB (sbx (byI (eS kw (xw0 bi io kw 0) (KC + 5) 1) 3)))) (tS_at _) ?_
        refine lv_bipush (v := nI 24) hx hb dX10_encryptBlock_1272 (by decide) ?_
        refine lv_ishl hx hb dX10_encryptBlock_1274 ?_
        refine lv_ixor hx hb dX10_encryptBlock_1275 ?_
        refine lv_eqi (y := (wI (sbx (byI (eS kw (xw0 bi io kw 0) (KC + 5) 2) 0)) (sbx (byI (eS kw (xw0 bi io kw 0) (KC + 5) 3) 1)) (sbx (byI (eS kw (xw0 bi io kw 0) (KC + 5) 0) 2)) (sbx (byI (eS kw (xw0 bi io kw 0) (KC + 5) 1) 3)))) (mk_xor _ _ _ _) ?_
        refine lv_aload hx hb dX10_encryptBlock_1276 (lv_at hl 10 rfl) ?_
        refine lv_iload hx hb dX10_encryptBlock_1278 (lv_at hl 3 rfl) ?_
        refine xr_aald C (i := KC + 6) hKW.1 (by omega) (by omega) dX10_encryptBlock_1280 ?_
        refine lv_eqr (v' := .ref (ad (KC + 6))) rfl ?_
        refine lv_iconst (v := nI 2) hx hb dX10_encryptBlock_1281 (by decide) ?_
        refine xr_iald C (i := 2) (hKW.2 (KC + 6) (by omega)) (by omega) (by omega) dX10_encryptBlock_1282 ?_
        refine lv_ixor hx hb dX10_encryptBlock_1283 ?_
        refine lv_eqi (y := (eO KC kw (xw0 bi io kw 0) 2)) (rfl) ?_
        refine lv_istore (lv' := [(8, .int (eO KC kw (xw0 bi io kw 0) 2)), (7, .int (eO KC kw (xw0 bi io kw 0) 1)), (6, .int (eO KC kw (xw0 bi io kw 0) 0)), (17, .int (eS kw (xw0 bi io kw 0) (KC + 5) 3)), (13, .int (nI (KC + 6))), (16, .int (eS kw (xw0 bi io kw 0) (KC + 5) 2)), (15, .int (eS kw (xw0 bi io kw 0) (KC + 5) 1)), (14, .int (eS kw (xw0 bi io kw 0) (KC + 5) 0)), (0, .ref h), (3, .ref ho), (4, .int (nI oo)), (5, .ref wa), (10, .int (eS kw (xw0 bi io kw 0) (2 * j) 0)), (11, .int (eS kw (xw0 bi io kw 0) (2 * j) 1)), (12, .int (eS kw (xw0 bi io kw 0) (2 * j) 2))]) hx hb dX10_encryptBlock_1284 hl (by decide) rfl (fun ls hl => ?_)
        refine lv_aload_n hx hb dX10_encryptBlock_1286 rfl (lv_at hl 8 rfl) ?_
        refine xr_get (ci := 6) (v := .ref hs) (Cn := RX10) (T := TX10) (N := 4) C hR0 in_X10 rfl 3 (by decide) q142 (fun _ h => h) rfl dX10_encryptBlock_1287 ?_
        refine lv_iload hx hb dX10_encryptBlock_1290 (lv_at hl 3 rfl) ?_
        refine lv_sipush (v := nI 255) hx hb dX10_encryptBlock_1292 (by decide) ?_
        refine lv_iand hx hb dX10_encryptBlock_1295 ?_
        refine lv_eqi (y := nI (byI (eS kw (xw0 bi io kw 0) (KC + 5) 3) 0).toNat) (ix_and (eS kw (xw0 bi io kw 0) (KC + 5) 3)) ?_
        refine xr_bald C (i := (byI (eS kw (xw0 bi io kw 0) (KC + 5) 3) 0).toNat) hR1 (by omega) (by omega) dX10_encryptBlock_1296 ?_
        refine lv_eqi (y := (sB (sbx (byI (eS kw (xw0 bi io kw 0) (KC + 5) 3) 0)))) (sbF_at _) ?_
        refine lv_sipush (v := nI 255) hx hb dX10_encryptBlock_1297 (by decide) ?_
        refine lv_iand hx hb dX10_encryptBlock_1300 ?_
        refine lv_eqi (y := uB (sbx (byI (eS kw (xw0 bi io kw 0) (KC + 5) 3) 0))) (sB_and _) ?_
        refine lv_aload_n hx hb dX10_encryptBlock_1301 rfl (lv_at hl 8 rfl) ?_
        refine xr_get (ci := 6) (v := .ref hs) (Cn := RX10) (T := TX10) (N := 4) C hR0 in_X10 rfl 3 (by decide) q142 (fun _ h => h) rfl dX10_encryptBlock_1302 ?_
        refine lv_iload hx hb dX10_encryptBlock_1305 (lv_at hl 7 rfl) ?_
        refine lv_bipush (v := nI 8) hx hb dX10_encryptBlock_1307 (by decide) ?_
        refine lv_ishr hx hb dX10_encryptBlock_1309 ?_
        refine lv_sipush (v := nI 255) hx hb dX10_encryptBlock_1310 (by decide) ?_
        refine lv_iand hx hb dX10_encryptBlock_1313 ?_
        refine lv_eqi (y := nI (byI (eS kw (xw0 bi io kw 0) (KC + 5) 0) 1).toNat) (ix_sh (eS kw (xw0 bi io kw 0) (KC + 5) 0) 1 (by decide)) ?_
        refine xr_bald C (i := (byI (eS kw (xw0 bi io kw 0) (KC + 5) 0) 1).toNat) hR1 (by omega) (by omega) dX10_encryptBlock_1314 ?_
        refine lv_eqi (y := (sB (sbx (byI (eS kw (xw0 bi io kw 0) (KC + 5) 0) 1)))) (sbF_at _) ?_
        refine lv_sipush (v := nI 255) hx hb dX10_encryptBlock_1315 (by decide) ?_
        refine lv_iand hx hb dX10_encryptBlock_1318 ?_
        refine lv_eqi (y := uB (sbx (byI (eS kw (xw0 bi io kw 0) (KC + 5) 0) 1))) (sB_and _) ?_
        refine lv_bipush (v := nI 8) hx hb dX10_encryptBlock_1319 (by decide) ?_
        refine lv_ishl hx hb dX10_encryptBlock_1321 ?_
        refine lv_ixor hx hb dX10_encryptBlock_1322 ?_
        refine lv_aload_n hx hb dX10_encryptBlock_1323 rfl (lv_at hl 8 rfl) ?_
        refine xr_get (ci := 6) (v := .ref hs) (Cn := RX10) (T := TX10) (N := 4) C hR0 in_X10 rfl 3 (by decide) q142 (fun _ h => h) rfl dX10_encryptBlock_1324 ?_
        refine lv_iload hx hb dX10_encryptBlock_1327 (lv_at hl 6 rfl) ?_
        refine lv_bipush (v := nI 16) hx hb dX10_encryptBlock_1329 (by decide) ?_
        refine lv_ishr hx hb dX10_encryptBlock_1331 ?_
        refine lv_sipush (v := nI 255) hx hb dX10_encryptBlock_1332 (by decide) ?_
        refine lv_iand hx hb dX10_encryptBlock_1335 ?_
        refine lv_eqi (y := nI (byI (eS kw (xw0 bi io kw 0) (KC + 5) 1) 2).toNat) (ix_sh (eS kw (xw0 bi io kw 0) (KC + 5) 1) 2 (by decide)) ?_
        refine xr_bald C (i := (byI (eS kw (xw0 bi io kw 0) (KC + 5) 1) 2).toNat) hR1 (by omega) (by omega) dX10_encryptBlock_1336 ?_
        refine lv_eqi (y := (sB (sbx (byI (eS kw (xw0 bi io kw 0) (KC + 5) 1) 2)))) (sbF_at _) ?_
        refine lv_sipush (v := nI 255) hx hb dX10_encryptBlock_1337 (by decide) ?_
        refine lv_iand hx hb dX10_encryptBlock_1340 ?_
        refine lv_eqi (y := uB (sbx (byI (eS kw (xw0 bi io kw 0) (KC + 5) 1) 2))) (sB_and _) ?_
        refine lv_bipush (v := nI 16) hx hb dX10_encryptBlock_1341 (by decide) ?_
        refine lv_ishl hx hb dX10_encryptBlock_1343 ?_
        refine lv_ixor hx hb dX10_encryptBlock_1344 ?_
        refine xr_gets C w hz_S q440 dX10_encryptBlock_1345 ?_
        refine lv_iload hx hb dX10_encryptBlock_1348 (lv_at hl 5 rfl) ?_
        refine lv_bipush (v := nI 24) hx hb dX10_encryptBlock_1350 (by decide) ?_
        refine lv_ishr hx hb dX10_encryptBlock_1352 ?_
        refine lv_sipush (v := nI 255) hx hb dX10_encryptBlock_1353 (by decide) ?_
        refine lv_iand hx hb dX10_encryptBlock_1356 ?_
        refine lv_eqi (y := nI (byI (eS kw (xw0 bi io kw 0) (KC + 5) 2) 3).toNat) (ix_sh (eS kw (xw0 bi io kw 0) (KC + 5) 2) 3 (by decide)) ?_
        refine xr_tbald C w ha_S (i := (byI (eS kw (xw0 bi io kw 0) (KC + 5) 2) 3).toNat) (by omega) (by omega) dX10_encryptBlock_1357 ?_
        refine lv_eqi (y := (sB (sbx (byI (eS kw (xw0 bi io kw 0) (KC + 5) 2) 3)))) (tS_at _) ?_
        refine lv_bipush (v := nI 24) hx hb dX10_encryptBlock_1358 (by decide) ?_
        refine lv_ishl hx hb dX10_encryptBlock_1360 ?_
        refine lv_ixor hx hb dX10_encryptBlock_1361 ?_
        refine lv_eqi (y := (wI (sbx (byI (eS kw (xw0 bi io kw 0) (KC + 5) 3) 0)) (sbx (byI (eS kw (xw0 bi io kw 0) (KC + 5) 0) 1)) (sbx (byI (eS kw (xw0 bi io kw 0) (KC + 5) 1) 2)) (sbx (byI (eS kw (xw0 bi io kw 0) (KC + 5) 2) 3)))) (mk_xor _ _ _ _) ?_
        refine lv_aload hx hb dX10_encryptBlock_1362 (lv_at hl 11 rfl) ?_
        refine lv_iload hx hb dX10_encryptBlock_1364 (lv_at hl 4 rfl) ?_
        refine xr_aald C (i := KC + 6) hKW.1 (by omega) (by omega) dX10_encryptBlock_1366 ?_
        refine lv_eqr (v' := .ref (ad (KC + 6))) rfl ?_
        refine lv_iconst (v := nI 3) hx hb dX10_encryptBlock_1367 (by decide) ?_
        refine xr_iald C (i := 3) (hKW.2 (KC + 6) (by omega)) (by omega) (by omega) dX10_encryptBlock_1368 ?_
        refine lv_ixor hx hb dX10_encryptBlock_1369 ?_
        refine lv_eqi (y := (eO KC kw (xw0 bi io kw 0) 3)) (rfl) ?_
        refine lv_istore (lv' := [(9, .int (eO KC kw (xw0 bi io kw 0) 3)), (8, .int (eO KC kw (xw0 bi io kw 0) 2)), (7, .int (eO KC kw (xw0 bi io kw 0) 1)), (6, .int (eO KC kw (xw0 bi io kw 0) 0)), (17, .int (eS kw (xw0 bi io kw 0) (KC + 5) 3)), (13, .int (nI (KC + 6))), (16, .int (eS kw (xw0 bi io kw 0) (KC + 5) 2)), (15, .int (eS kw (xw0 bi io kw 0) (KC + 5) 1)), (14, .int (eS kw (xw0 bi io kw 0) (KC + 5) 0)), (0, .ref h), (3, .ref ho), (4, .int (nI oo)), (5, .ref wa), (10, .int (eS kw (xw0 bi io kw 0) (2 * j) 0)), (11, .int (eS kw (xw0 bi io kw 0) (2 * j) 1)), (12, .int (eS kw (xw0 bi io kw 0) (2 * j) 2))]) hx hb dX10_encryptBlock_1370 hl (by decide) rfl (fun ls hl => ?_)
        refine lv_iload hx hb dX10_encryptBlock_1372 (lv_at hl 3 rfl) ?_
        refine lv_aload_n hx hb dX10_encryptBlock_1374 rfl (lv_at hl 10 rfl) ?_
        refine lv_iload hx hb dX10_encryptBlock_1375 (lv_at hl 11 rfl) ?_
        refine lv_iconst (v := nI 0) hx hb dX10_encryptBlock_1377 (by decide) ?_
        refine lv_iadd hx hb dX10_encryptBlock_1378 ?_
        refine lv_eqi (nI_add oo 0) ?_
        refine xr_callS (n := 3) (rest := []) (wr := []) C w (met_X14_intToLittleEndian l G s.heap.size (eO KC kw (xw0 bi io kw 0) 0) ho no bo (oo + 0) (by omega) (by omega)) q581 q582 q30 q583 (by decide +kernel) ⟨rfl, rfl, by decide, by decide⟩ (fun _ _ _ _ h => h) (fun U hU hW => trivial) [0] [] rfl rfl rfl rfl (by decide) rfl hl.1 rfl (Nat.le_of_ble_eq_true rfl) dX10_encryptBlock_1379 ⟨by decide, by decide⟩ (fun u v H1 locs hp hz_1379 hk_1379 w => ?_)
        generalize H1 = H at hp w ⊢
        subst hp
        have w : Wd G A [(ho, xB G no (put4 bo (oo + 0) (eO KC kw (xw0 bi io kw 0) 0)))] s s.heap H locs := w
        refine lv_iload hx hb dX10_encryptBlock_1382 (lv_at hl 2 rfl) ?_
        refine lv_aload_n hx hb dX10_encryptBlock_1384 rfl (lv_at hl 10 rfl) ?_
        refine lv_iload hx hb dX10_encryptBlock_1385 (lv_at hl 11 rfl) ?_
        refine lv_iconst (v := nI 4) hx hb dX10_encryptBlock_1387 (by decide) ?_
        refine lv_iadd hx hb dX10_encryptBlock_1388 ?_
        refine lv_eqi (nI_add oo 4) ?_
        refine xr_callS (n := 3) (rest := []) (wr := []) C w (met_X14_intToLittleEndian l G H.size (eO KC kw (xw0 bi io kw 0) 1) ho no (put4 bo (oo + 0) (eO KC kw (xw0 bi io kw 0) 0)) (oo + 4) (by omega) (by omega)) q581 q582 q30 q583 (by decide +kernel) ⟨rfl, rfl, by decide, by decide⟩ (fun _ _ _ _ h => h) (fun U hU hW => trivial) [0] [] rfl rfl rfl rfl (by decide) rfl hl.1 rfl (Nat.le_of_ble_eq_true rfl) dX10_encryptBlock_1389 ⟨by decide, by decide⟩ (fun u v H1 locs hp hz_1389 hk_1389 w => ?_)
        generalize H1 = H at hp w ⊢
        subst hp
        have w : Wd G A [(ho, xB G no (put4 (put4 bo (oo + 0) (eO KC kw (xw0 bi io kw 0) 0)) (oo + 4) (eO KC kw (xw0 bi io kw 0) 1)))] s s.heap H locs := w
        refine lv_iload hx hb dX10_encryptBlock_1392 (lv_at hl 1 rfl) ?_
        refine lv_aload_n hx hb dX10_encryptBlock_1394 rfl (lv_at hl 10 rfl) ?_
        refine lv_iload hx hb dX10_encryptBlock_1395 (lv_at hl 11 rfl) ?_
        refine lv_bipush (v := nI 8) hx hb dX10_encryptBlock_1397 (by decide) ?_
        refine lv_iadd hx hb dX10_encryptBlock_1399 ?_
        refine lv_eqi (nI_add oo 8) ?_
        refine xr_callS (n := 3) (rest := []) (wr := []) C w (met_X14_intToLittleEndian l G H.size (eO KC kw (xw0 bi io kw 0) 2) ho no (put4 (put4 bo (oo + 0) (eO KC kw (xw0 bi io kw 0) 0)) (oo + 4) (eO KC kw (xw0 bi io kw 0) 1)) (oo + 8) (by omega) (by omega)) q581 q582 q30 q583 (by decide +kernel) ⟨rfl, rfl, by decide, by decide⟩ (fun _ _ _ _ h => h) (fun U hU hW => trivial) [0] [] rfl rfl rfl rfl (by decide) rfl hl.1 rfl (Nat.le_of_ble_eq_true rfl) dX10_encryptBlock_1400 ⟨by decide, by decide⟩ (fun u v H1 locs hp hz_1400 hk_1400 w => ?_)
        generalize H1 = H at hp w ⊢
        subst hp
        have w : Wd G A [(ho, xB G no (put4 (put4 (put4 bo (oo + 0) (eO KC kw (xw0 bi io kw 0) 0)) (oo + 4) (eO KC kw (xw0 bi io kw 0) 1)) (oo + 8) (eO KC kw (xw0 bi io kw 0) 2)))] s s.heap H locs := w
        refine lv_iload hx hb dX10_encryptBlock_1403 (lv_at hl 0 rfl) ?_
        refine lv_aload_n hx hb dX10_encryptBlock_1405 rfl (lv_at hl 10 rfl) ?_
        refine lv_iload hx hb dX10_encryptBlock_1406 (lv_at hl 11 rfl) ?_
        refine lv_bipush (v := nI 12) hx hb dX10_encryptBlock_1408 (by decide) ?_
        refine lv_iadd hx hb dX10_encryptBlock_1410 ?_
        refine lv_eqi (nI_add oo 12) ?_
        refine xr_callS (n := 3) (rest := []) (wr := []) C w (met_X14_intToLittleEndian l G H.size (eO KC kw (xw0 bi io kw 0) 3) ho no (put4 (put4 (put4 bo (oo + 0) (eO KC kw (xw0 bi io kw 0) 0)) (oo + 4) (eO KC kw (xw0 bi io kw 0) 1)) (oo + 8) (eO KC kw (xw0 bi io kw 0) 2)) (oo + 12) (by omega) (by omega)) q581 q582 q30 q583 (by decide +kernel) ⟨rfl, rfl, by decide, by decide⟩ (fun _ _ _ _ h => h) (fun U hU hW => trivial) [0] [] rfl rfl rfl rfl (by decide) rfl hl.1 rfl (Nat.le_of_ble_eq_true rfl) dX10_encryptBlock_1411 ⟨by decide, by decide⟩ (fun u v H1 locs hp hz_1411 hk_1411 w => ?_)
        generalize H1 = H at hp w ⊢
        subst hp
        have w : Wd G A [(ho, xB G no (put4 (put4 (put4 (put4 bo (oo + 0) (eO KC kw (xw0 bi io kw 0) 0)) (oo + 4) (eO KC kw (xw0 bi io kw 0) 1)) (oo + 8) (eO KC kw (xw0 bi io kw 0) 2)) (oo + 12) (eO KC kw (xw0 bi io kw 0) 3)))] s s.heap H locs := w
        have w := w.bx 0 rfl (b' := va_cpy (wby (eO KC kw (xw0 bi io kw 0))) bo 0 oo 16) (fun j _ => put16 bo oo (eO KC kw (xw0 bi io kw 0)) j)
        exact xr_vret C hlk hr w hAe hQ (by decide) (by decide) () rfl (rfl) dX10_encryptBlock_1414
      · refine xr_gets C w hz_T0 q579 dX10_encryptBlock_96 ?_
        refine lv_iload hx hb dX10_encryptBlock_99 (lv_at hl 4 rfl) ?_
        refine lv_sipush (v := nI 255) hx hb dX10_encryptBlock_101 (by decide) ?_
        refine lv_iand hx hb dX10_encryptBlock_104 ?_
        refine lv_eqi (y := nI (byI (eS kw (xw0 bi io kw 0) (2 * j) 0) 0).toNat) (ix_and (eS kw (xw0 bi io kw 0) (2 * j) 0)) ?_
        refine xr_tiald C w ha_T0 (i := (byI (eS kw (xw0 bi io kw 0) (2 * j) 0) 0).toNat) (by omega) (by omega) dX10_encryptBlock_105 ?_
        refine lv_eqi (y := (T0w (sbx (byI (eS kw (xw0 bi io kw 0) (2 * j) 0) 0)))) (tT0_at _) ?_
        refine xr_gets C w hz_T0 q579 dX10_encryptBlock_106 ?_
        refine lv_iload hx hb dX10_encryptBlock_109 (lv_at hl 5 rfl) ?_
        refine lv_bipush (v := nI 8) hx hb dX10_encryptBlock_111 (by decide) ?_
        refine lv_ishr hx hb dX10_encryptBlock_113 ?_
        refine lv_sipush (v := nI 255) hx hb dX10_encryptBlock_114 (by decide) ?_
        refine lv_iand hx hb dX10_encryptBlock_117 ?_
        refine lv_eqi (y := nI (byI (eS kw (xw0 bi io kw 0) (2 * j) 1) 1).toNat) (ix_sh (eS kw (xw0 bi io kw 0) (2 * j) 1) 1 (by decide)) ?_
        refine xr_tiald C w ha_T0 (i := (byI (eS kw (xw0 bi io kw 0) (2 * j) 1) 1).toNat) (by omega) (by omega) dX10_encryptBlock_118 ?_
        refine lv_eqi (y := (T0w (sbx (byI (eS kw (xw0 bi io kw 0) (2 * j) 1) 1)))) (tT0_at _) ?_
        refine lv_bipush (v := nI 24) hx hb dX10_encryptBlock_119 (by decide) ?_
        refine xr_callS0 (n := 2) (rest := [.int (T0w (sbx (byI (eS kw (xw0 bi io kw 0) (2 * j) 0) 0)))]) C w (met_X10_shift l G s.heap.size (T0w (sbx (byI (eS kw (xw0 bi io kw 0) (2 * j) 1) 1))) (nI 24) ) q434 q435 q19 q436 (by decide +kernel) ⟨rfl, rfl, by decide, by decide⟩ (fun _ _ _ _ h => h) (fun U hU hW => trivial) rfl hl.1 rfl (Nat.le_of_ble_eq_true rfl) dX10_encryptBlock_121 ⟨by decide, by decide⟩ (fun v hp => ?_)
        subst hp
        refine lv_ixor hx hb dX10_encryptBlock_124 ?_
        refine xr_gets C w hz_T0 q579 dX10_encryptBlock_125 ?_
        refine lv_iload hx hb dX10_encryptBlock_128 (lv_at hl 6 rfl) ?_
        refine lv_bipush (v := nI 16) hx hb dX10_encryptBlock_130 (by decide) ?_
        refine lv_ishr hx hb dX10_encryptBlock_132 ?_
        refine lv_sipush (v := nI 255) hx hb dX10_encryptBlock_133 (by decide) ?_
        refine lv_iand hx hb dX10_encryptBlock_136 ?_
        refine lv_eqi (y := nI (byI (eS kw (xw0 bi io kw 0) (2 * j) 2) 2).toNat) (ix_sh (eS kw (xw0 bi io kw 0) (2 * j) 2) 2 (by decide)) ?_
        refine xr_tiald C w ha_T0 (i := (byI (eS kw (xw0 bi io kw 0) (2 * j) 2) 2).toNat) (by omega) (by omega) dX10_encryptBlock_137 ?_
        refine lv_eqi (y := (T0w (sbx (byI (eS kw (xw0 bi io kw 0) (2 * j) 2) 2)))) (tT0_at _) ?_
        refine lv_bipush (v := nI 16) hx hb dX10_encryptBlock_138 (by decide) ?_
        refine xr_callS0 (n := 2) (rest := [.int ((T0w (sbx (byI (eS kw (xw0 bi io kw 0) (2 * j) 0) 0))) ^^^ (shf (T0w (sbx (byI (eS kw (xw0 bi io kw 0) (2 * j) 1) 1))) (nI 24)))]) C w (met_X10_shift l G s.heap.size (T0w (sbx (byI (eS kw (xw0 bi io kw 0) (2 * j) 2) 2))) (nI 16) ) q434 q435 q19 q436 (by decide +kernel) ⟨rfl, rfl, by decide, by decide⟩ (fun _ _ _ _ h => h) (fun U hU hW => trivial) rfl hl.1 rfl (Nat.le_of_ble_eq_true rfl) dX10_encryptBlock_140 ⟨by decide, by decide⟩ (fun v hp => ?_)
        subst hp
        refine lv_ixor hx hb dX10_encryptBlock_143 ?_
        refine xr_gets C w hz_T0 q579 dX10_encryptBlock_144 ?_
        refine lv_iload hx hb dX10_encryptBlock_147 (lv_at hl 7 rfl) ?_
        refine lv_bipush (v := nI 24) hx hb dX10_encryptBlock_149 (by decide) ?_
        refine lv_ishr hx hb dX10_encryptBlock_151 ?_
        refine lv_sipush (v := nI 255) hx hb dX10_encryptBlock_152 (by decide) ?_
        refine lv_iand hx hb dX10_encryptBlock_155 ?_
        refine lv_eqi (y := nI (byI (eS kw (xw0 bi io kw 0) (2 * j) 3) 3).toNat) (ix_sh (eS kw (xw0 bi io kw 0) (2 * j) 3) 3 (by decide)) ?_
        refine xr_tiald C w ha_T0 (i := (byI (eS kw (xw0 bi io kw 0) (2 * j) 3) 3).toNat) (by omega) (by omega) dX10_encryptBlock_156 ?_
        refine lv_eqi (y := (T0w (sbx (byI (eS kw (xw0 bi io kw 0) (2 * j) 3) 3)))) (tT0_at _) ?_
        refine lv_bipush (v := nI 8) hx hb dX10_encryptBlock_157 (by decide) ?_
        refine xr_callS0 (n := 2) (rest := [.int (((T0w (sbx (byI (eS kw (xw0 bi io kw 0) (2 * j) 0) 0))) ^^^ (shf (T0w (sbx (byI (eS kw (xw0 bi io kw 0) (2 * j) 1) 1))) (nI 24))) ^^^ (shf (T0w (sbx (byI (eS kw (xw0 bi io kw 0) (2 * j) 2) 2))) (nI 16)))]) C w (met_X10_shift l G s.heap.size (T0w (sbx (byI (eS kw (xw0 bi io kw 0) (2 * j) 3) 3))) (nI 8) ) q434 q435 q19 q436 (by decide +kernel) ⟨rfl, rfl, by decide, by decide⟩ (fun _ _ _ _ h => h) (fun U hU hW => trivial) rfl hl.1 rfl (Nat.le_of_ble_eq_true rfl) dX10_encryptBlock_159 ⟨by decide, by decide⟩ (fun v hp => ?_)
        subst hp
        refine lv_ixor hx hb dX10_encryptBlock_162 ?_
        refine lv_aload hx hb dX10_encryptBlock_163 (lv_at hl 3 rfl) ?_
        refine lv_iload hx hb dX10_encryptBlock_165 (lv_at hl 8 rfl) ?_
        refine xr_aald C (i := 2 * j + 1) hKW.1 (by omega) (by omega) dX10_encryptBlock_167 ?_
        refine lv_eqr (v' := .ref (ad (2 * j + 1))) rfl ?_
        refine lv_iconst (v := nI 0) hx hb dX10_encryptBlock_168 (by decide) ?_
        refine xr_iald C (i := 0) (hKW.2 (2 * j + 1) (by omega)) (by omega) (by omega) dX10_encryptBlock_169 ?_
        refine lv_ixor hx hb dX10_encryptBlock_170 ?_
        refine lv_eqi (y := (eS kw (xw0 bi io kw 0) (2 * j + 1) 0)) (eS_f0 (r := 2 * j) (by omega) (by omega)) ?_
        refine lv_istore (lv' := [(14, .int (eS kw (xw0 bi io kw 0) (2 * j + 1) 0)), (0, .ref h), (3, .ref ho), (4, .int (nI oo)), (5, .ref wa), (10, .int (eS kw (xw0 bi io kw 0) (2 * j) 0)), (11, .int (eS kw (xw0 bi io kw 0) (2 * j) 1)), (12, .int (eS kw (xw0 bi io kw 0) (2 * j) 2)), (17, .int (eS kw (xw0 bi io kw 0) (2 * j) 3)), (13, .int (nI (2 * j + 1)))]) hx hb dX10_encryptBlock_171 hl (by decide) rfl (fun ls hl => ?_)
        refine xr_gets C w hz_T0 q579 dX10_encryptBlock_173 ?_
        refine lv_iload hx hb dX10_encryptBlock_176 (lv_at hl 6 rfl) ?_
        refine lv_sipush (v := nI 255) hx hb dX10_encryptBlock_178 (by decide) ?_
        refine lv_iand hx hb dX10_encryptBlock_181 ?_
        refine lv_eqi (y := nI (byI (eS kw (xw0 bi io kw 0) (2 * j) 1) 0).toNat) (ix_and (eS kw (xw0 bi io kw 0) (2 * j) 1)) ?_
        refine xr_tiald C w ha_T0 (i := (byI (eS kw (xw0 bi io kw 0) (2 * j) 1) 0).toNat) (by omega) (by omega) dX10_encryptBlock_182 ?_
        refine lv_eqi (y := (T0w (sbx (byI (eS kw (xw0 bi io kw 0) (2 * j) 1) 0)))) (tT0_at _) ?_
        refine xr_gets C w hz_T0 q579 dX10_encryptBlock_183 ?_
        refine lv_iload hx hb dX10_encryptBlock_186 (lv_at hl 7 rfl) ?_
        refine lv_bipush (v := nI 8) hx hb dX10_encryptBlock_188 (by decide) ?_
        refine lv_ishr hx hb dX10_encryptBlock_190 ?_
        refine lv_sipush (v := nI 255) hx hb dX10_encryptBlock_191 (by decide) ?_
        refine lv_iand hx hb dX10_encryptBlock_194 ?_
        refine lv_eqi (y := nI (byI (eS kw (xw0 bi io kw 0) (2 * j) 2) 1).toNat) (ix_sh (eS kw (xw0 bi io kw 0) (2 * j) 2) 1 (by decide)) ?_
        refine xr_tiald C w ha_T0 (i := (byI (eS kw (xw0 bi io kw 0) (2 * j) 2) 1).toNat) (by omega) (by omega) dX10_encryptBlock_195 ?_
        refine lv_eqi (y := (T0w (sbx (byI (eS kw (xw0 bi io kw 0) (2 * j) 2) 1)))) (tT0_at _) ?_
        refine lv_bipush (v := nI 24) hx hb dX10_encryptBlock_196 (by decide) ?_
        refine xr_callS0 (n := 2) (rest := [.int (T0w (sbx (byI (eS kw (xw0 bi io kw 0) (2 * j) 1) 0)))]) C w (met_X10_shift l G s.heap.size (T0w (sbx (byI (eS kw (xw0 bi io kw 0) (2 * j) 2) 1))) (nI 24) ) q434 q435 q19 q436 (by decide +kernel) ⟨rfl, rfl, by decide, by decide⟩ (fun _ _ _ _ h => h) (fun U hU hW => trivial) rfl hl.1 rfl (Nat.le_of_ble_eq_true rfl) dX10_encryptBlock_198 ⟨by decide, by decide⟩ (fun v hp => ?_)
        subst hp
        refine lv_ixor hx hb dX10_encryptBlock_201 ?_
        refine xr_gets C w hz_T0 q579 dX10_encryptBlock_202 ?_
        refine lv_iload hx hb dX10_encryptBlock_205 (lv_at hl 8 rfl) ?_
        refine lv_bipush (v := nI 16) hx hb dX10_encryptBlock_207 (by decide) ?_
        refine lv_ishr hx hb dX10_encryptBlock_209 ?_
        refine lv_sipush (v := nI 255) hx hb dX10_encryptBlock_210 (by decide) ?_
        refine lv_iand hx hb dX10_encryptBlock_213 ?_
        refine lv_eqi (y := nI (byI (eS kw (xw0 bi io kw 0) (2 * j) 3) 2).toNat) (ix_sh (eS kw (xw0 bi io kw 0) (2 * j) 3) 2 (by decide)) ?_
        refine xr_tiald C w ha_T0 (i := (byI (eS kw (xw0 bi io kw 0) (2 * j) 3) 2).toNat) (by omega) (by omega) dX10_encryptBlock_214 ?_
        refine lv_eqi (y := (T0w (sbx (byI (eS kw (xw0 bi io kw 0) (2 * j) 3) 2)))) (tT0_at _) ?_
        refine lv_bipush (v := nI 16) hx hb dX10_encryptBlock_215 (by decide) ?_
        refine xr_callS0 (n := 2) (rest := [.int ((T0w (sbx (byI (eS kw (xw0 bi io kw 0) (2 * j) 1) 0))) ^^^ (shf (T0w (sbx (byI (eS kw (xw0 bi io kw 0) (2 * j) 2) 1))) (nI 24)))]) C w (met_X10_shift l G s.heap.size (T0w (sbx (byI (eS kw (xw0 bi io kw 0) (2 * j) 3) 2))) (nI 16) ) q434 q435 q19 q436 (by decide +kernel) ⟨rfl, rfl, by decide, by decide⟩ (fun _ _ _ _ h => h) (fun U hU hW => trivial) rfl hl.1 rfl (Nat.le_of_ble_eq_true rfl) dX10_encryptBlock_217 ⟨by decide, by decide⟩ (fun v hp => ?_)
        subst hp
        refine lv_ixor hx hb dX10_encryptBlock_220 ?_
        refine xr_gets C w hz_T0 q579 dX10_encryptBlock_221 ?_
        refine lv_iload hx hb dX10_encryptBlock_224 (lv_at hl 5 rfl) ?_
        refine lv_bipush (v := nI 24) hx hb dX10_encryptBlock_226 (by decide) ?_
        refine lv_ishr hx hb dX10_encryptBlock_228 ?_
        refine lv_sipush (v := nI 255) hx hb dX10_encryptBlock_229 (by decide) ?_
        refine lv_iand hx hb dX10_encryptBlock_232 ?_
        refine lv_eqi (y := nI (byI (eS kw (xw0 bi io kw 0) (2 * j) 0) 3).toNat) (ix_sh (eS kw (xw0 bi io kw 0) (2 * j) 0) 3 (by decide)) ?_
        refine xr_tiald C w ha_T0 (i := (byI (eS kw (xw0 bi io kw 0) (2 * j) 0) 3).toNat) (by omega) (by omega) dX10_encryptBlock_233 ?_
        refine lv_eqi (y := (T0w (sbx (byI (eS kw (xw0 bi io kw 0) (2 * j) 0) 3)))) (tT0_at _) ?_
        refine lv_bipush (v := nI 8) hx hb dX10_encryptBlock_234 (by decide) ?_
        refine xr_callS0 (n := 2) (rest := [.int (((T0w (sbx (byI (eS kw (xw0 bi io kw 0) (2 * j) 1) 0))) ^^^ (shf (T0w (sbx (byI (eS kw (xw0 bi io kw 0) (2 * j) 2) 1))) (nI 24))) ^^^ (shf (T0w (sbx (byI (eS kw (xw0 bi io kw 0) (2 * j) 3) 2))) (nI 16)))]) C w (met_X10_shift l G s.heap.size (T0w (sbx (byI (eS kw (xw0 bi io kw 0) (2 * j) 0) 3))) (nI 8) ) q434 q435 q19 q436 (by decide +kernel) ⟨rfl, rfl, by decide, by decide⟩ (fun _ _ _ _ h => h) (fun U hU hW => trivial) rfl hl.1 rfl (Nat.le_of_ble_eq_true rfl) dX10_encryptBlock_236 ⟨by decide, by decide⟩ (fun v hp => ?_)
        subst hp
        refine lv_ixor hx hb dX10_encryptBlock_239 ?_
        refine lv_aload hx hb dX10_encryptBlock_240 (lv_at hl 4 rfl) ?_
        refine lv_iload hx hb dX10_encryptBlock_242 (lv_at hl 9 rfl) ?_
        refine xr_aald C (i := 2 * j + 1) hKW.1 (by omega) (by omega) dX10_encryptBlock_244 ?_
        refine lv_eqr (v' := .ref (ad (2 * j + 1))) rfl ?_
        refine lv_iconst (v := nI 1) hx hb dX10_encryptBlock_245 (by decide) ?_
        refine xr_iald C (i := 1) (hKW.2 (2 * j + 1) (by omega)) (by omega) (by omega) dX10_encryptBlock_246 ?_
        refine lv_ixor hx hb dX10_encryptBlock_247 ?_
        refine lv_eqi (y := (eS kw (xw0 bi io kw 0) (2 * j + 1) 1)) (eS_f1 (r := 2 * j) (by omega) (by omega)) ?_
        refine lv_istore (lv' := [(15, .int (eS kw (xw0 bi io kw 0) (2 * j + 1) 1)), (14, .int (eS kw (xw0 bi io kw 0) (2 * j + 1) 0)), (0, .ref h), (3, .ref ho), (4, .int (nI oo)), (5, .ref wa), (10, .int (eS kw (xw0 bi io kw 0) (2 * j) 0)), (11, .int (eS kw (xw0 bi io kw 0) (2 * j) 1)), (12, .int (eS kw (xw0 bi io kw 0) (2 * j) 2)), (17, .int (eS kw (xw0 bi io kw 0) (2 * j) 3)), (13, .int (nI (2 * j + 1)))]) hx hb dX10_encryptBlock_248 hl (by decide) rfl (fun ls hl => ?_)
        refine xr_gets C w hz_T0 q579 dX10_encryptBlock_250 ?_
        refine lv_iload hx hb dX10_encryptBlock_253 (lv_at hl 8 rfl) ?_
        refine lv_sipush (v := nI 255) hx hb dX10_encryptBlock_255 (by decide) ?_
        refine lv_iand hx hb dX10_encryptBlock_258 ?_
        refine lv_eqi (y := nI (byI (eS kw (xw0 bi io kw 0) (2 * j) 2) 0).toNat) (ix_and (eS kw (xw0 bi io kw 0) (2 * j) 2)) ?_
        refine xr_tiald C w ha_T0 (i := (byI (eS kw (xw0 bi io kw 0) (2 * j) 2) 0).toNat) (by omega) (by omega) dX10_encryptBlock_259 ?_
        refine lv_eqi (y := (T0w (sbx (byI (eS kw (xw0 bi io kw 0) (2 * j) 2) 0)))) (tT0_at _) ?_
        refine xr_gets C w hz_T0 q579 dX10_encryptBlock_260 ?_
        refine lv_iload hx hb dX10_encryptBlock_263 (lv_at hl 9 rfl) ?_
        refine lv_bipush (v := nI 8) hx hb dX10_encryptBlock_265 (by decide) ?_
        refine lv_ishr hx hb dX10_encryptBlock_267 ?_
        refine lv_sipush (v := nI 255) hx hb dX10_encryptBlock_268 (by decide) ?_
        refine lv_iand hx hb dX10_encryptBlock_271 ?_
        refine lv_eqi (y := nI (byI (eS kw (xw0 bi io kw 0) (2 * j) 3) 1).toNat) (ix_sh (eS kw (xw0 bi io kw 0) (2 * j) 3) 1 (by decide)) ?_
        refine xr_tiald C w ha_T0 (i := (byI (eS kw (xw0 bi io kw 0) (2 * j) 3) 1).toNat) (by omega) (by omega) dX10_encryptBlock_272 ?_
        refine lv_eqi (y := (T0w (sbx (byI (eS kw (xw0 bi io kw 0) (2 * j) 3) 1)))) (tT0_at _) ?_
        refine lv_bipush (v := nI 24) hx hb dX10_encryptBlock_273 (by decide) ?_
        refine xr_callS0 (n := 2) (rest := [.int (T0w (sbx (byI (eS kw (xw0 bi io kw 0) (2 * j) 2) 0)))]) C w (met_X10_shift l G s.heap.size (T0w (sbx (byI (eS kw (xw0 bi io kw 0) (2 * j) 3) 1))) (nI 24) ) q434 q435 q19 q436 (by decide +kernel) ⟨rfl, rfl, by decide, by decide⟩ (fun _ _ _ _ h => h) (fun U hU hW => trivial) rfl hl.1 rfl (Nat.le_of_ble_eq_true rfl) dX10_encryptBlock_275 ⟨by decide, by decide⟩ (fun v hp => ?_)
        subst hp
        refine lv_ixor hx hb dX10_encryptBlock_278 ?_
        refine xr_gets C w hz_T0 q579 dX10_encryptBlock_279 ?_
        refine lv_iload hx hb dX10_encryptBlock_282 (lv_at hl 6 rfl) ?_
        refine lv_bipush (v := nI 16) hx hb dX10_encryptBlock_284 (by decide) ?_
        refine lv_ishr hx hb dX10_encryptBlock_286 ?_
        refine lv_sipush (v := nI 255) hx hb dX10_encryptBlock_287 (by decide) ?_
        refine lv_iand hx hb dX10_encryptBlock_290 ?_
        refine lv_eqi (y := nI (byI (eS kw (xw0 bi io kw 0) (2 * j) 0) 2).toNat) (ix_sh (eS kw (xw0 bi io kw 0) (2 * j) 0) 2 (by decide)) ?_
        refine xr_tiald C w ha_T0 (i := (byI (eS kw (xw0 bi io kw 0) (2 * j) 0) 2).toNat) (by omega) (by omega) dX10_encryptBlock_291 ?_
        refine lv_eqi (y := (T0w (sbx (byI (eS kw (xw0 bi io kw 0) (2 * j) 0) 2)))) (tT0_at _) ?_
        refine lv_bipush (v := nI 16) hx hb dX10_encryptBlock_292 (by decide) ?_
        refine xr_callS0 (n := 2) (rest := [.int ((T0w (sbx (byI (eS kw (xw0 bi io kw 0) (2 * j) 2) 0))) ^^^ (shf (T0w (sbx (byI (eS kw (xw0 bi io kw 0) (2 * j) 3) 1))) (nI 24)))]) C w (met_X10_shift l G s.heap.size (T0w (sbx (byI (eS kw (xw0 bi io kw 0) (2 * j) 0) 2))) (nI 16) ) q434 q435 q19 q436 (by decide +kernel) ⟨rfl, rfl, by decide, by decide⟩ (fun _ _ _ _ h => h) (fun U hU hW => trivial) rfl hl.1 rfl (Nat.le_of_ble_eq_true rfl) dX10_encryptBlock_294 ⟨by decide, by decide⟩ (fun v hp => ?_)
        subst hp
        refine lv_ixor hx hb dX10_encryptBlock_297 ?_
        refine xr_gets C w hz_T0 q579 dX10_encryptBlock_298 ?_
        refine lv_iload hx hb dX10_encryptBlock_301 (lv_at hl 7 rfl) ?_
        refine lv_bipush (v := nI 24) hx hb dX10_encryptBlock_303 (by decide) ?_
        refine lv_ishr hx hb dX10_encryptBlock_305 ?_
        refine lv_sipush (v := nI 255) hx hb dX10_encryptBlock_306 (by decide) ?_
        refine lv_iand hx hb dX10_encryptBlock_309 ?_
        refine lv_eqi (y := nI (byI (eS kw (xw0 bi io kw 0) (2 * j) 1) 3).toNat) (ix_sh (eS kw (xw0 bi io kw 0) (2 * j) 1) 3 (by decide)) ?_
        refine xr_tiald C w ha_T0 (i := (byI (eS kw (xw0 bi io kw 0) (2 * j) 1) 3).toNat) (by omega) (by omega) dX10_encryptBlock_310 ?_
        refine lv_eqi (y := (T0w (sbx (byI (eS kw (xw0 bi io kw 0) (2 * j) 1) 3)))) (tT0_at _) ?_
        refine lv_bipush (v := nI 8) hx hb dX10_encryptBlock_311 (by decide) ?_
        refine xr_callS0 (n := 2) (rest := [.int (((T0w (sbx (byI (eS kw (xw0 bi io kw 0) (2 * j) 2) 0))) ^^^ (shf (T0w (sbx (byI (eS kw (xw0 bi io kw 0) (2 * j) 3) 1))) (nI 24))) ^^^ (shf (T0w (sbx (byI (eS kw (xw0 bi io kw 0) (2 * j) 0) 2))) (nI 16)))]) C w (met_X10_shift l G s.heap.size (T0w (sbx (byI (eS kw (xw0 bi io kw 0) (2 * j) 1) 3))) (nI 8) ) q434 q435 q19 q436 (by decide +kernel) ⟨rfl, rfl, by decide, by decide⟩ (fun _ _ _ _ h => h) (fun U hU hW => trivial) rfl hl.1 rfl (Nat.le_of_ble_eq_true rfl) dX10_encryptBlock_313 ⟨by decide, by decide⟩ (fun v hp => ?_)
        subst hp
        refine lv_ixor hx hb dX10_encryptBlock_316 ?_
        refine lv_aload hx hb dX10_encryptBlock_317 (lv_at hl 5 rfl) ?_
        refine lv_iload hx hb dX10_encryptBlock_319 (lv_at hl 10 rfl) ?_
        refine xr_aald C (i := 2 * j + 1) hKW.1 (by omega) (by omega) dX10_encryptBlock_321 ?_
        refine lv_eqr (v' := .ref (ad (2 * j + 1))) rfl ?_
        refine lv_iconst (v := nI 2) hx hb dX10_encryptBlock_322 (by decide) ?_
        refine xr_iald C (i := 2) (hKW.2 (2 * j + 1) (by omega)) (by omega) (by omega) dX10_encryptBlock_323 ?_
        refine lv_ixor hx hb dX10_encryptBlock_324 ?_
        refine lv_eqi (y := (eS kw (xw0 bi io kw 0) (2 * j + 1) 2)) (eS_f2 (r := 2 * j) (by omega) (by omega)) ?_
        refine lv_istore (lv' := [(16, .int (eS kw (xw0 bi io kw 0) (2 * j + 1) 2)), (15, .int (eS kw (xw0 bi io kw 0) (2 * j + 1) 1)), (14, .int (eS kw (xw0 bi io kw 0) (2 * j + 1) 0)), (0, .ref h), (3, .ref ho), (4, .int (nI oo)), (5, .ref wa), (10, .int (eS kw (xw0 bi io kw 0) (2 * j) 0)), (11, .int (eS kw (xw0 bi io kw 0) (2 * j) 1)), (12, .int (eS kw (xw0 bi io kw 0) (2 * j) 2)), (17, .int (eS kw (xw0 bi io kw 0) (2 * j) 3)), (13, .int (nI (2 * j + 1)))]) hx hb dX10_encryptBlock_325 hl (by decide) rfl (fun ls hl => ?_)
        refine xr_gets C w hz_T0 q579 dX10_encryptBlock_327 ?_
        refine lv_iload hx hb dX10_encryptBlock_330 (lv_at hl 10 rfl) ?_
        refine lv_sipush (v := nI 255) hx hb dX10_encryptBlock_332 (by decide) ?_
        refine lv_iand hx hb dX10_encryptBlock_335 ?_
        refine lv_eqi (y := nI (byI (eS kw (xw0 bi io kw 0) (2 * j) 3) 0).toNat) (ix_and (eS kw (xw0 bi io kw 0) (2 * j) 3)) ?_
        refine xr_tiald C w ha_T0 (i := (byI (eS kw (xw0 bi io kw 0) (2 * j) 3) 0).toNat) (by omega) (by omega) dX10_encryptBlock_336 ?_
        refine lv_eqi (y := (T0w (sbx (byI (eS kw (xw0 bi io kw 0) (2 * j) 3) 0)))) (tT0_at _) ?_
        refine xr_gets C w hz_T0 q579 dX10_encryptBlock_337 ?_
        refine lv_iload hx hb dX10_encryptBlock_340 (lv_at hl 7 rfl) ?_
        refine lv_bipush (v := nI 8) hx hb dX10_encryptBlock_342 (by decide) ?_
        refine lv_ishr hx hb dX10_encryptBlock_344 ?_
        refine lv_sipush (v := nI 255) hx hb dX10_encryptBlock_345 (by decide) ?_
        refine lv_iand hx hb dX10_encryptBlock_348 ?_
        refine lv_eqi (y := nI (byI (eS kw (xw0 bi io kw 0) (2 * j) 0) 1).toNat) (ix_sh (eS kw (xw0 bi io kw 0) (2 * j) 0) 1 (by decide)) ?_
        refine xr_tiald C w ha_T0 (i := (byI (eS kw (xw0 bi io kw 0) (2 * j) 0) 1).toNat) (by omega) (by omega) dX10_encryptBlock_349 ?_
        refine lv_eqi (y := (T0w (sbx (byI (eS kw (xw0 bi io kw 0) (2 * j) 0) 1)))) (tT0_at _) ?_
        refine lv_bipush (v := nI 24) hx hb dX10_encryptBlock_350 (by decide) ?_
        refine xr_callS0 (n := 2) (rest := [.int (T0w (sbx (byI (eS kw (xw0 bi io kw 0) (2 * j) 3) 0)))]) C w (met_X10_shift l G s.heap.size (T0w (sbx (byI (eS kw (xw0 bi io kw 0) (2 * j) 0) 1))) (nI 24) ) q434 q435 q19 q436 (by decide +kernel) ⟨rfl, rfl, by decide, by decide⟩ (fun _ _ _ _ h => h) (fun U hU hW => trivial) rfl hl.1 rfl (Nat.le_of_ble_eq_true rfl) dX10_encryptBlock_352 ⟨by decide, by decide⟩ (fun v hp => ?_)
        subst hp
        refine lv_ixor hx hb dX10_encryptBlock_355 ?_
        refine xr_gets C w hz_T0 q579 dX10_encryptBlock_356 ?_
        refine lv_iload hx hb dX10_encryptBlock_359 (lv_at hl 8 rfl) ?_
        refine lv_bipush (v := nI 16) hx hb dX10_encryptBlock_361 (by decide) ?_
        refine lv_ishr hx hb dX10_encryptBlock_363 ?_
        refine lv_sipush (v := nI 255) hx hb dX10_encryptBlock_364 (by decide) ?_
        refine lv_iand hx hb dX10_encryptBlock_367 ?_
        refine lv_eqi (y := nI (byI (eS kw (xw0 bi io kw 0) (2 * j) 1) 2).toNat) (ix_sh (eS kw (xw0 bi io kw 0) (2 * j) 1) 2 (by decide)) ?_
        refine xr_tiald C w ha_T0 (i := (byI (eS kw (xw0 bi io kw 0) (2 * j) 1) 2).toNat) (by omega) (by omega) dX10_encryptBlock_368 ?_
        refine lv_eqi (y := (T0w (sbx (byI (eS kw (xw0 bi io kw 0) (2 * j) 1) 2)))) (tT0_at _) ?_
        refine lv_bipush (v := nI 16) hx hb dX10_encryptBlock_369 (by decide) ?_
        refine xr_callS0 (n := 2) (rest := [.int ((T0w (sbx (byI (eS kw (xw0 bi io kw 0) (2 * j) 3) 0))) ^^^ (shf (T0w (sbx (byI (eS kw (xw0 bi io kw 0) (2 * j) 0) 1))) (nI 24)))]) C w (met_X10_shift l G s.heap.size (T0w (sbx (byI (eS kw (xw0 bi io kw 0) (2 * j) 1) 2))) (nI 16) ) q434 q435 q19 q436 (by decide +kernel) ⟨rfl, rfl, by decide, by decide⟩ (fun _ _ _ _ h => h) (fun U hU hW => trivial) rfl hl.1 rfl (Nat.le_of_ble_eq_true rfl) dX10_encryptBlock_371 ⟨by decide, by decide⟩ (fun v hp => ?_)
        subst hp
        refine lv_ixor hx hb dX10_encryptBlock_374 ?_
        refine xr_gets C w hz_T0 q579 dX10_encryptBlock_375 ?_
        refine lv_iload hx hb dX10_encryptBlock_378 (lv_at hl 9 rfl) ?_
        refine lv_bipush (v := nI 24) hx hb dX10_encryptBlock_380 (by decide) ?_
        refine lv_ishr hx hb dX10_encryptBlock_382 ?_
        refine lv_sipush (v := nI 255) hx hb dX10_encryptBlock_383 (by decide) ?_
        refine lv_iand hx hb dX10_encryptBlock_386 ?_
        refine lv_eqi (y := nI (byI (eS kw (xw0 bi io kw 0) (2 * j) 2) 3).toNat) (ix_sh (eS kw (xw0 bi io kw 0) (2 * j) 2) 3 (by decide)) ?_
        refine xr_tiald C w ha_T0 (i := (byI (eS kw (xw0 bi io kw 0) (2 * j) 2) 3).toNat) (by omega) (by omega) dX10_encryptBlock_387 ?_
        refine lv_eqi (y := (T0w (sbx (byI (eS kw (xw0 bi io kw 0) (2 * j) 2) 3)))) (tT0_at _) ?_
        refine lv_bipush (v := nI 8) hx hb dX10_encryptBlock_388 (by decide) ?_
        refine xr_callS0 (n := 2) (rest := [.int (((T0w (sbx (byI (eS kw (xw0 bi io kw 0) (2 * j) 3) 0))) ^^^ (shf (T0w (sbx (byI (eS kw (xw0 bi io kw 0) (2 * j) 0) 1))) (nI 24))) ^^^ (shf (T0w (sbx (byI (eS kw (xw0 bi io kw 0) (2 * j) 1) 2))) (nI 16)))]) C w (met_X10_shift l G s.heap.size (T0w (sbx (byI (eS kw (xw0 bi io kw 0) (2 * j) 2) 3))) (nI 8) ) q434 q435 q19 q436 (by decide +kernel) ⟨rfl, rfl, by decide, by decide⟩ (fun _ _ _ _ h => h) (fun U hU hW => trivial) rfl hl.1 rfl (Nat.le_of_ble_eq_true rfl) dX10_encryptBlock_390 ⟨by decide, by decide⟩ (fun v hp => ?_)
        subst hp
        refine lv_ixor hx hb dX10_encryptBlock_393 ?_
        refine lv_aload hx hb dX10_encryptBlock_394 (lv_at hl 6 rfl) ?_
        refine lv_iload hx hb dX10_encryptBlock_396 (lv_at hl 11 rfl) ?_
        refine lv_iinc (v := nI (2 * j + 2)) (lv' := [(13, .int (nI (2 * j + 2))), (16, .int (eS kw (xw0 bi io kw 0) (2 * j + 1) 2)), (15, .int (eS kw (xw0 bi io kw 0) (2 * j + 1) 1)), (14, .int (eS kw (xw0 bi io kw 0) (2 * j + 1) 0)), (0, .ref h), (3, .ref ho), (4, .int (nI oo)), (5, .ref wa), (10, .int (eS kw (xw0 bi io kw 0) (2 * j) 0)), (11, .int (eS kw (xw0 bi io kw 0) (2 * j) 1)), (12, .int (eS kw (xw0 bi io kw 0) (2 * j) 2)), (17, .int (eS kw (xw0 bi io kw 0) (2 * j) 3))]) hx hb dX10_encryptBlock_398 hl (k := 11) rfl (nI_add (2 * j + 1) 1) (by decide) rfl (fun ls hl => ?_)
        refine xr_aald C (i := 2 * j + 1) hKW.1 (by omega) (by omega) dX10_encryptBlock_401 ?_
        refine lv_eqr (v' := .ref (ad (2 * j + 1))) rfl ?_
        refine lv_iconst (v := nI 3) hx hb dX10_encryptBlock_402 (by decide) ?_
        refine xr_iald C (i := 3) (hKW.2 (2 * j + 1) (by omega)) (by omega) (by omega) dX10_encryptBlock_403 ?_
        refine lv_ixor hx hb dX10_encryptBlock_404 ?_
        refine lv_eqi (y := (eS kw (xw0 bi io kw 0) (2 * j + 1) 3)) (eS_f3 (r := 2 * j) (by omega) (by omega)) ?_
        refine lv_istore (lv' := [(17, .int (eS kw (xw0 bi io kw 0) (2 * j + 1) 3)), (13, .int (nI (2 * j + 2))), (16, .int (eS kw (xw0 bi io kw 0) (2 * j + 1) 2)), (15, .int (eS kw (xw0 bi io kw 0) (2 * j + 1) 1)), (14, .int (eS kw (xw0 bi io kw 0) (2 * j + 1) 0)), (0, .ref h), (3, .ref ho), (4, .int (nI oo)), (5, .ref wa), (10, .int (eS kw (xw0 bi io kw 0) (2 * j) 0)), (11, .int (eS kw (xw0 bi io kw 0) (2 * j) 1)), (12, .int (eS kw (xw0 bi io kw 0) (2 * j) 2))]) hx hb dX10_encryptBlock_405 hl (by decide) rfl (fun ls hl => ?_)
        refine xr_gets C w hz_T0 q579 dX10_encryptBlock_407 ?_
        refine lv_iload hx hb dX10_encryptBlock_410 (lv_at hl 4 rfl) ?_
        refine lv_sipush (v := nI 255) hx hb dX10_encryptBlock_412 (by decide) ?_
        refine lv_iand hx hb dX10_encryptBlock_415 ?_
        refine lv_eqi (y := nI (byI (eS kw (xw0 bi io kw 0) (2 * j + 1) 0) 0).toNat) (ix_and (eS kw (xw0 bi io kw 0) (2 * j + 1) 0)) ?_
        refine xr_tiald C w ha_T0 (i := (byI (eS kw (xw0 bi io kw 0) (2 * j + 1) 0) 0).toNat) (by omega) (by omega) dX10_encryptBlock_416 ?_
        refine lv_eqi (y := (T0w (sbx (byI (eS kw (xw0 bi io kw 0) (2 * j + 1) 0) 0)))) (tT0_at _) ?_
        refine xr_gets C w hz_T0 q579 dX10_encryptBlock_417 ?_
        refine lv_iload hx hb dX10_encryptBlock_420 (lv_at hl 3 rfl) ?_
        refine lv_bipush (v := nI 8) hx hb dX10_encryptBlock_422 (by decide) ?_
        refine lv_ishr hx hb dX10_encryptBlock_424 ?_
        refine lv_sipush (v := nI 255) hx hb dX10_encryptBlock_425 (by decide) ?_
        refine lv_iand hx hb dX10_encryptBlock_428 ?_
        refine lv_eqi (y := nI (byI (eS kw (xw0 bi io kw 0) (2 * j + 1) 1) 1).toNat) (ix_sh (eS kw (xw0 bi io kw 0) (2 * j + 1) 1) 1 (by decide)) ?_
        refine xr_tiald C w ha_T0 (i := (byI (eS kw (xw0 bi io kw 0) (2 * j + 1) 1) 1).toNat) (by omega) (by omega) dX10_encryptBlock_429 ?_
        refine lv_eqi (y := (T0w (sbx (byI (eS kw (xw0 bi io kw 0) (2 * j + 1) 1) 1)))) (tT0_at _) ?_
        refine lv_bipush (v := nI 24) hx hb dX10_encryptBlock_430 (by decide) ?_
        refine xr_callS0 (n := 2) (rest := [.int (T0w (sbx (byI (eS kw (xw0 bi io kw 0) (2 * j + 1) 0) 0)))]) C w (met_X10_shift l G s.heap.size (T0w (sbx (byI (eS kw (xw0 bi io kw 0) (2 * j + 1) 1) 1))) (nI 24) ) q434 q435 q19 q436 (by decide +kernel) ⟨rfl, rfl, by decide, by decide⟩ (fun _ _ _ _ h => h) (fun U hU hW => trivial) rfl hl.1 rfl (Nat.le_of_ble_eq_true rfl) dX10_encryptBlock_432 ⟨by decide, by decide⟩ (fun v hp => ?_)
        subst hp
        refine lv_ixor hx hb dX10_encryptBlock_435 ?_
        refine xr_gets C w hz_T0 q579 dX10_encryptBlock_436 ?_
        refine lv_iload hx hb dX10_encryptBlock_439 (lv_at hl 2 rfl) ?_
        refine lv_bipush (v := nI 16) hx hb dX10_encryptBlock_441 (by decide) ?_
        refine lv_ishr hx hb dX10_encryptBlock_443 ?_
        refine lv_sipush (v := nI 255) hx hb dX10_encryptBlock_444 (by decide) ?_
        refine lv_iand hx hb dX10_encryptBlock_447 ?_
        refine lv_eqi (y := nI (byI (eS kw (xw0 bi io kw 0) (2 * j + 1) 2) 2).toNat) (ix_sh (eS kw (xw0 bi io kw 0) (2 * j + 1) 2) 2 (by decide)) ?_
        refine xr_tiald C w ha_T0 (i := (byI (eS kw (xw0 bi io kw 0) (2 * j + 1) 2) 2).toNat) (by omega) (by omega) dX10_encryptBlock_448 ?_
        refine lv_eqi (y := (T0w (sbx (byI (eS kw (xw0 bi io kw 0) (2 * j + 1) 2) 2)))) (tT0_at _) ?_
        refine lv_bipush (v := nI 16) hx hb dX10_encryptBlock_449 (by decide) ?_
        refine xr_callS0 (n := 2) (rest := [.int ((T0w (sbx (byI (eS kw (xw0 bi io kw 0) (2 * j + 1) 0) 0))) ^^^ (shf (T0w (sbx (byI (eS kw (xw0 bi io kw 0) (2 * j + 1) 1) 1))) (nI 24)))]) C w (met_X10_shift l G s.heap.size (T0w (sbx (byI (eS kw (xw0 bi io kw 0) (2 * j + 1) 2) 2))) (nI 16) ) q434 q435 q19 q436 (by decide +kernel) ⟨rfl, rfl, by decide, by decide⟩ (fun _ _ _ _ h => h) (fun U hU hW => trivial) rfl hl.1 rfl (Nat.le_of_ble_eq_true rfl) dX10_encryptBlock_451 ⟨by decide, by decide⟩ (fun v hp => ?_)
        subst hp
        refine lv_ixor hx hb dX10_encryptBlock_454 ?_
        refine xr_gets C w hz_T0 q579 dX10_encryptBlock_455 ?_
        refine lv_iload hx hb dX10_encryptBlock_458 (lv_at hl 0 rfl) ?_
        refine lv_bipush (v := nI 24) hx hb dX10_encryptBlock_460 (by decide) ?_
        refine lv_ishr hx hb dX10_encryptBlock_462 ?_
        refine lv_sipush (v := nI 255) hx hb dX10_encryptBlock_463 (by decide) ?_
        refine lv_iand hx hb dX10_encryptBlock_466 ?_
        refine lv_eqi (y := nI (byI (eS kw (xw0 bi io kw 0) (2 * j + 1) 3) 3).toNat) (ix_sh (eS kw (xw0 bi io kw 0) (2 * j + 1) 3) 3 (by decide)) ?_
        refine xr_tiald C w ha_T0 (i := (byI (eS kw (xw0 bi io kw 0) (2 * j + 1) 3) 3).toNat) (by omega) (by omega) dX10_encryptBlock_467 ?_
        refine lv_eqi (y := (T0w (sbx (byI (eS kw (xw0 bi io kw 0) (2 * j + 1) 3) 3)))) (tT0_at _) ?_
        refine lv_bipush (v := nI 8) hx hb dX10_encryptBlock_468 (by decide) ?_
        refine xr_callS0 (n := 2) (rest := [.int (((T0w (sbx (byI (eS kw (xw0 bi io kw 0) (2 * j + 1) 0) 0))) ^^^ (shf (T0w (sbx (byI (eS kw (xw0 bi io kw 0) (2 * j + 1) 1) 1))) (nI 24))) ^^^ (shf (T0w (sbx (byI (eS kw (xw0 bi io kw 0) (2 * j + 1) 2) 2))) (nI 16)))]) C w (met_X10_shift l G s.heap.size (T0w (sbx (byI (eS kw (xw0 bi io kw 0) (2 * j + 1) 3) 3))) (nI 8) ) q434 q435 q19 q436 (by decide +kernel) ⟨rfl, rfl, by decide, by decide⟩ (fun _ _ _ _ h => h) (fun U hU hW => trivial) rfl hl.1 rfl (Nat.le_of_ble_eq_true rfl) dX10_encryptBlock_470 ⟨by decide, by decide⟩ (fun v hp => ?_)
        subst hp
        refine lv_ixor hx hb dX10_encryptBlock_473 ?_
        refine lv_aload hx hb dX10_encryptBlock_474 (lv_at hl 8 rfl) ?_
        refine lv_iload hx hb dX10_encryptBlock_476 (lv_at hl 1 rfl) ?_
        refine xr_aald C (i := 2 * j + 2) hKW.1 (by omega) (by omega) dX10_encryptBlock_478 ?_
        refine lv_eqr (v' := .ref (ad (2 * j + 2))) rfl ?_
        refine lv_iconst (v := nI 0) hx hb dX10_encryptBlock_479 (by decide) ?_
        refine xr_iald C (i := 0) (hKW.2 (2 * j + 2) (by omega)) (by omega) (by omega) dX10_encryptBlock_480 ?_
        refine lv_ixor hx hb dX10_encryptBlock_481 ?_
        refine lv_eqi (y := (eS kw (xw0 bi io kw 0) (2 * (j + 1)) 0)) (eS_f0 (r := 2 * j + 1) (by omega) (by omega)) ?_
        refine lv_istore (lv' := [(10, .int (eS kw (xw0 bi io kw 0) (2 * (j + 1)) 0)), (17, .int (eS kw (xw0 bi io kw 0) (2 * j + 1) 3)), (13, .int (nI (2 * j + 2))), (16, .int (eS kw (xw0 bi io kw 0) (2 * j + 1) 2)), (15, .int (eS kw (xw0 bi io kw 0) (2 * j + 1) 1)), (14, .int (eS kw (xw0 bi io kw 0) (2 * j + 1) 0)), (0, .ref h), (3, .ref ho), (4, .int (nI oo)), (5, .ref wa), (11, .int (eS kw (xw0 bi io kw 0) (2 * j) 1)), (12, .int (eS kw (xw0 bi io kw 0) (2 * j) 2))]) hx hb dX10_encryptBlock_482 hl (by decide) rfl (fun ls hl => ?_)
        refine xr_gets C w hz_T0 q579 dX10_encryptBlock_484 ?_
        refine lv_iload hx hb dX10_encryptBlock_487 (lv_at hl 4 rfl) ?_
        refine lv_sipush (v := nI 255) hx hb dX10_encryptBlock_489 (by decide) ?_
        refine lv_iand hx hb dX10_encryptBlock_492 ?_
        refine lv_eqi (y := nI (byI (eS kw (xw0 bi io kw 0) (2 * j + 1) 1) 0).toNat) (ix_and (eS kw (xw0 bi io kw 0) (2 * j + 1) 1)) ?_
        refine xr_tiald C w ha_T0 (i := (byI (eS kw (xw0 bi io kw 0) (2 * j + 1) 1) 0).toNat) (by omega) (by omega) dX10_encryptBlock_493 ?_
        refine lv_eqi (y := (T0w (sbx (byI (eS kw (xw0 bi io kw 0) (2 * j + 1) 1) 0)))) (tT0_at _) ?_
        refine xr_gets C w hz_T0 q579 dX10_encryptBlock_494 ?_
        refine lv_iload hx hb dX10_encryptBlock_497 (lv_at hl 3 rfl) ?_
        refine lv_bipush (v := nI 8) hx hb dX10_encryptBlock_499 (by decide) ?_
        refine lv_ishr hx hb dX10_encryptBlock_501 ?_
        refine lv_sipush (v := nI 255) hx hb dX10_encryptBlock_502 (by decide) ?_
        refine lv_iand hx hb dX10_encryptBlock_505 ?_
        refine lv_eqi (y := nI (byI (eS kw (xw0 bi io kw 0) (2 * j + 1) 2) 1).toNat) (ix_sh (eS kw (xw0 bi io kw 0) (2 * j + 1) 2) 1 (by decide)) ?_
        refine xr_tiald C w ha_T0 (i := (byI (eS kw (xw0 bi io kw 0) (2 * j + 1) 2) 1).toNat) (by omega) (by omega) dX10_encryptBlock_506 ?_
        refine lv_eqi (y := (T0w (sbx (byI (eS kw (xw0 bi io kw 0) (2 * j + 1) 2) 1)))) (tT0_at _) ?_
        refine lv_bipush (v := nI 24) hx hb dX10_encryptBlock_507 (by decide) ?_
        refine xr_callS0 (n := 2) (rest := [.int (T0w (sbx (byI (eS kw (xw0 bi io kw 0) (2 * j + 1) 1) 0)))]) C w (met_X10_shift l G s.heap.size (T0w (sbx (byI (eS kw (xw0 bi io kw 0) (2 * j + 1) 2) 1))) (nI 24) ) q434 q435 q19 q436 (by decide +kernel) ⟨rfl, rfl, by decide, by decide⟩ (fun _ _ _ _ h => h) (fun U hU hW => trivial) rfl hl.1 rfl (Nat.le_of_ble_eq_true rfl) dX10_encryptBlock_509 ⟨by decide, by decide⟩ (fun v hp => ?_)
        subst hp
        refine lv_ixor hx hb dX10_encryptBlock_512 ?_
        refine xr_gets C w hz_T0 q579 dX10_encryptBlock_513 ?_
        refine lv_iload hx hb dX10_encryptBlock_516 (lv_at hl 1 rfl) ?_
        refine lv_bipush (v := nI 16) hx hb dX10_encryptBlock_518 (by decide) ?_
        refine lv_ishr hx hb dX10_encryptBlock_520 ?_
        refine lv_sipush (v := nI 255) hx hb dX10_encryptBlock_521 (by decide) ?_
        refine lv_iand hx hb dX10_encryptBlock_524 ?_
        refine lv_eqi (y := nI (byI (eS kw (xw0 bi io kw 0) (2 * j + 1) 3) 2).toNat) (ix_sh (eS kw (xw0 bi io kw 0) (2 * j + 1) 3) 2 (by decide)) ?_
        refine xr_tiald C w ha_T0 (i := (byI (eS kw (xw0 bi io kw 0) (2 * j + 1) 3) 2).toNat) (by omega) (by omega) dX10_encryptBlock_525 ?_
        refine lv_eqi (y := (T0w (sbx (byI (eS kw (xw0 bi io kw 0) (2 * j + 1) 3) 2)))) (tT0_at _) ?_
        refine lv_bipush (v := nI 16) hx hb dX10_encryptBlock_526 (by decide) ?_
        refine xr_callS0 (n := 2) (rest := [.int ((T0w (sbx (byI (eS kw (xw0 bi io kw 0) (2 * j + 1) 1) 0))) ^^^ (shf (T0w (sbx (byI (eS kw (xw0 bi io kw 0) (2 * j + 1) 2) 1))) (nI 24)))]) C w (met_X10_shift l G s.heap.size (T0w (sbx (byI (eS kw (xw0 bi io kw 0) (2 * j + 1) 3) 2))) (nI 16) ) q434 q435 q19 q436 (by decide +kernel) ⟨rfl, rfl, by decide, by decide⟩ (fun _ _ _ _ h => h) (fun U hU hW => trivial) rfl hl.1 rfl (Nat.le_of_ble_eq_true rfl) dX10_encryptBlock_528 ⟨by decide, by decide⟩ (fun v hp => ?_)
        subst hp
        refine lv_ixor hx hb dX10_encryptBlock_531 ?_
        refine xr_gets C w hz_T0 q579 dX10_encryptBlock_532 ?_
        refine lv_iload hx hb dX10_encryptBlock_535 (lv_at hl 5 rfl) ?_
        refine lv_bipush (v := nI 24) hx hb dX10_encryptBlock_537 (by decide) ?_
        refine lv_ishr hx hb dX10_encryptBlock_539 ?_
        refine lv_sipush (v := nI 255) hx hb dX10_encryptBlock_540 (by decide) ?_
        refine lv_iand hx hb dX10_encryptBlock_543 ?_
        refine lv_eqi (y := nI (byI (eS kw (xw0 bi io kw 0) (2 * j + 1) 0) 3).toNat) (ix_sh (eS kw (xw0 bi io kw 0) (2 * j + 1) 0) 3 (by decide)) ?_
        refine xr_tiald C w ha_T0 (i := (byI (eS kw (xw0 bi io kw 0) (2 * j + 1) 0) 3).toNat) (by omega) (by omega) dX10_encryptBlock_544 ?_
        refine lv_eqi (y := (T0w (sbx (byI (eS kw (xw0 bi io kw 0) (2 * j + 1) 0) 3)))) (tT0_at _) ?_
        refine lv_bipush (v := nI 8) hx hb dX10_encryptBlock_545 (by decide) ?_
        refine xr_callS0 (n := 2) (rest := [.int (((T0w (sbx (byI (eS kw (xw0 bi io kw 0) (2 * j + 1) 1) 0))) ^^^ (shf (T0w (sbx (byI (eS kw (xw0 bi io kw 0) (2 * j + 1) 2) 1))) (nI 24))) ^^^ (shf (T0w (sbx (byI (eS kw (xw0 bi io kw 0) (2 * j + 1) 3) 2))) (nI 16)))]) C w (met_X10_shift l G s.heap.size (T0w (sbx (byI (eS kw (xw0 bi io kw 0) (2 * j + 1) 0) 3))) (nI 8) ) q434 q435 q19 q436 (by decide +kernel) ⟨rfl, rfl, by decide, by decide⟩ (fun _ _ _ _ h => h) (fun U hU hW => trivial) rfl hl.1 rfl (Nat.le_of_ble_eq_true rfl) dX10_encryptBlock_547 ⟨by decide, by decide⟩ (fun v hp => ?_)
        subst hp
        refine lv_ixor hx hb dX10_encryptBlock_550 ?_
        refine lv_aload hx hb dX10_encryptBlock_551 (lv_at hl 9 rfl) ?_
        refine lv_iload hx hb dX10_encryptBlock_553 (lv_at hl 2 rfl) ?_
        refine xr_aald C (i := 2 * j + 2) hKW.1 (by omega) (by omega) dX10_encryptBlock_555 ?_
        refine lv_eqr (v' := .ref (ad (2 * j + 2))) rfl ?_
        refine lv_iconst (v := nI 1) hx hb dX10_encryptBlock_556 (by decide) ?_
        refine xr_iald C (i := 1) (hKW.2 (2 * j + 2) (by omega)) (by omega) (by omega) dX10_encryptBlock_557 ?_
        refine lv_ixor hx hb dX10_encryptBlock_558 ?_
        refine lv_eqi (y := (eS kw (xw0 bi io kw 0) (2 * (j + 1)) 1)) (eS_f1 (r := 2 * j + 1) (by omega) (by omega)) ?_
        refine lv_istore (lv' := [(11, .int (eS kw (xw0 bi io kw 0) (2 * (j + 1)) 1)), (10, .int (eS kw (xw0 bi io kw 0) (2 * (j + 1)) 0)), (17, .int (eS kw (xw0 bi io kw 0) (2 * j + 1) 3)), (13, .int (nI (2 * j + 2))), (16, .int (eS kw (xw0 bi io kw 0) (2 * j + 1) 2)), (15, .int (eS kw (xw0 bi io kw 0) (2 * j + 1) 1)), (14, .int (eS kw (xw0 bi io kw 0) (2 * j + 1) 0)), (0, .ref h), (3, .ref ho), (4, .int (nI oo)), (5, .ref wa), (12, .int (eS kw (xw0 bi io kw 0) (2 * j) 2))]) hx hb dX10_encryptBlock_559 hl (by decide) rfl (fun ls hl => ?_)
        refine xr_gets C w hz_T0 q579 dX10_encryptBlock_561 ?_
        refine lv_iload hx hb dX10_encryptBlock_564 (lv_at hl 4 rfl) ?_
        refine lv_sipush (v := nI 255) hx hb dX10_encryptBlock_566 (by decide) ?_
        refine lv_iand hx hb dX10_encryptBlock_569 ?_
        refine lv_eqi (y := nI (byI (eS kw (xw0 bi io kw 0) (2 * j + 1) 2) 0).toNat) (ix_and (eS kw (xw0 bi io kw 0) (2 * j + 1) 2)) ?_
        refine xr_tiald C w ha_T0 (i := (byI (eS kw (xw0 bi io kw 0) (2 * j + 1) 2) 0).toNat) (by omega) (by omega) dX10_encryptBlock_570 ?_
        refine lv_eqi (y := (T0w (sbx (byI (eS kw (xw0 bi io kw 0) (2 * j + 1) 2) 0)))) (tT0_at _) ?_
        refine xr_gets C w hz_T0 q579 dX10_encryptBlock_571 ?_
        refine lv_iload hx hb dX10_encryptBlock_574 (lv_at hl 2 rfl) ?_
        refine lv_bipush (v := nI 8) hx hb dX10_encryptBlock_576 (by decide) ?_
        refine lv_ishr hx hb dX10_encryptBlock_578 ?_
        refine lv_sipush (v := nI 255) hx hb dX10_encryptBlock_579 (by decide) ?_
        refine lv_iand hx hb dX10_encryptBlock_582 ?_
        refine lv_eqi (y := nI (byI (eS kw (xw0 bi io kw 0) (2 * j + 1) 3) 1).toNat) (ix_sh (eS kw (xw0 bi io kw 0) (2 * j + 1) 3) 1 (by decide)) ?_
        refine xr_tiald C w ha_T0 (i := (byI (eS kw (xw0 bi io kw 0) (2 * j + 1) 3) 1).toNat) (by omega) (by omega) dX10_encryptBlock_583 ?_
        refine lv_eqi (y := (T0w (sbx (byI (eS kw (xw0 bi io kw 0) (2 * j + 1) 3) 1)))) (tT0_at _) ?_
        refine lv_bipush (v := nI 24) hx hb dX10_encryptBlock_584 (by decide) ?_
        refine xr_callS0 (n := 2) (rest := [.int (T0w (sbx (byI (eS kw (xw0 bi io kw 0) (2 * j + 1) 2) 0)))]) C w (met_X10_shift l G s.heap.size (T0w (sbx (byI (eS kw (xw0 bi io kw 0) (2 * j + 1) 3) 1))) (nI 24) ) q434 q435 q19 q436 (by decide +kernel) ⟨rfl, rfl, by decide, by decide⟩ (fun _ _ _ _ h => h) (fun U hU hW => trivial) rfl hl.1 rfl (Nat.le_of_ble_eq_true rfl) dX10_encryptBlock_586 ⟨by decide, by decide⟩ (fun v hp => ?_)
        subst hp
        refine lv_ixor hx hb dX10_encryptBlock_589 ?_
        refine xr_gets C w hz_T0 q579 dX10_encryptBlock_590 ?_
        refine lv_iload hx hb dX10_encryptBlock_593 (lv_at hl 6 rfl) ?_
        refine lv_bipush (v := nI 16) hx hb dX10_encryptBlock_595 (by decide) ?_
        refine lv_ishr hx hb dX10_encryptBlock_597 ?_
        refine lv_sipush (v := nI 255) hx hb dX10_encryptBlock_598 (by decide) ?_
        refine lv_iand hx hb dX10_encryptBlock_601 ?_
        refine lv_eqi (y := nI (byI (eS kw (xw0 bi io kw 0) (2 * j + 1) 0) 2).toNat) (ix_sh (eS kw (xw0 bi io kw 0) (2 * j + 1) 0) 2 (by decide)) ?_
        refine xr_tiald C w ha_T0 (i := (byI (eS kw (xw0 bi io kw 0) (2 * j + 1) 0) 2).toNat) (by omega) (by omega) dX10_encryptBlock_602 ?_
        refine lv_eqi (y := (T0w (sbx (byI (eS kw (xw0 bi io kw 0) (2 * j + 1) 0) 2)))) (tT0_at _) ?_
        refine lv_bipush (v := nI 16) hx hb dX10_encryptBlock_603 (by decide) ?_
        refine xr_callS0 (n := 2) (rest := [.int ((T0w (sbx (byI (eS kw (xw0 bi io kw 0) (2 * j + 1) 2) 0))) ^^^ (shf (T0w (sbx (byI (eS kw (xw0 bi io kw 0) (2 * j + 1) 3) 1))) (nI 24)))]) C w (met_X10_shift l G s.heap.size (T0w (sbx (byI (eS kw (xw0 bi io kw 0) (2 * j + 1) 0) 2))) (nI 16) ) q434 q435 q19 q436 (by decide +kernel) ⟨rfl, rfl, by decide, by decide⟩ (fun _ _ _ _ h => h) (fun U hU hW => trivial) rfl hl.1 rfl (Nat.le_of_ble_eq_true rfl) dX10_encryptBlock_605 ⟨by decide, by decide⟩ (fun v hp => ?_)
        subst hp
        refine lv_ixor hx hb dX10_encryptBlock_608 ?_
        refine xr_gets C w hz_T0 q579 dX10_encryptBlock_609 ?_
        refine lv_iload hx hb dX10_encryptBlock_612 (lv_at hl 5 rfl) ?_
        refine lv_bipush (v := nI 24) hx hb dX10_encryptBlock_614 (by decide) ?_
        refine lv_ishr hx hb dX10_encryptBlock_616 ?_
        refine lv_sipush (v := nI 255) hx hb dX10_encryptBlock_617 (by decide) ?_
        refine lv_iand hx hb dX10_encryptBlock_620 ?_
        refine lv_eqi (y := nI (byI (eS kw (xw0 bi io kw 0) (2 * j + 1) 1) 3).toNat) (ix_sh (eS kw (xw0 bi io kw 0) (2 * j + 1) 1) 3 (by decide)) ?_
        refine xr_tiald C w ha_T0 (i := (byI (eS kw (xw0 bi io kw 0) (2 * j + 1) 1) 3).toNat) (by omega) (by omega) dX10_encryptBlock_621 ?_
        refine lv_eqi (y := (T0w (sbx (byI (eS kw (xw0 bi io kw 0) (2 * j + 1) 1) 3)))) (tT0_at _) ?_
        refine lv_bipush (v := nI 8) hx hb dX10_encryptBlock_622 (by decide) ?_
        refine xr_callS0 (n := 2) (rest := [.int (((T0w (sbx (byI (eS kw (xw0 bi io kw 0) (2 * j + 1) 2) 0))) ^^^ (shf (T0w (sbx (byI (eS kw (xw0 bi io kw 0) (2 * j + 1) 3) 1))) (nI 24))) ^^^ (shf (T0w (sbx (byI (eS kw (xw0 bi io kw 0) (2 * j + 1) 0) 2))) (nI 16)))]) C w (met_X10_shift l G s.heap.size (T0w (sbx (byI (eS kw (xw0 bi io kw 0) (2 * j + 1) 1) 3))) (nI 8) ) q434 q435 q19 q436 (by decide +kernel) ⟨rfl, rfl, by decide, by decide⟩ (fun _ _ _ _ h => h) (fun U hU hW => trivial) rfl hl.1 rfl (Nat.le_of_ble_eq_true rfl) dX10_encryptBlock_624 ⟨by decide, by decide⟩ (fun v hp => ?_)
        subst hp
        refine lv_ixor hx hb dX10_encryptBlock_627 ?_
        refine lv_aload hx hb dX10_encryptBlock_628 (lv_at hl 10 rfl) ?_
        refine lv_iload hx hb dX10_encryptBlock_630 (lv_at hl 3 rfl) ?_
        refine xr_aald C (i := 2 * j + 2) hKW.1 (by omega) (by omega) dX10_encryptBlock_632 ?_
        refine lv_eqr (v' := .ref (ad (2 * j + 2))) rfl ?_
        refine lv_iconst (v := nI 2) hx hb dX10_encryptBlock_633 (by decide) ?_
        refine xr_iald C (i := 2) (hKW.2 (2 * j + 2) (by omega)) (by omega) (by omega) dX10_encryptBlock_634 ?_
        refine lv_ixor hx hb dX10_encryptBlock_635 ?_
        refine lv_eqi (y := (eS kw (xw0 bi io kw 0) (2 * (j + 1)) 2)) (eS_f2 (r := 2 * j + 1) (by omega) (by omega)) ?_
        refine lv_istore (lv' := [(12, .int (eS kw (xw0 bi io kw 0) (2 * (j + 1)) 2)), (11, .int (eS kw (xw0 bi io kw 0) (2 * (j + 1)) 1)), (10, .int (eS kw (xw0 bi io kw 0) (2 * (j + 1)) 0)), (17, .int (eS kw (xw0 bi io kw 0) (2 * j + 1) 3)), (13, .int (nI (2 * j + 2))), (16, .int (eS kw (xw0 bi io kw 0) (2 * j + 1) 2)), (15, .int (eS kw (xw0 bi io kw 0) (2 * j + 1) 1)), (14, .int (eS kw (xw0 bi io kw 0) (2 * j + 1) 0)), (0, .ref h), (3, .ref ho), (4, .int (nI oo)), (5, .ref wa)]) hx hb dX10_encryptBlock_636 hl (by decide) rfl (fun ls hl => ?_)
        refine xr_gets C w hz_T0 q579 dX10_encryptBlock_638 ?_
        refine lv_iload hx hb dX10_encryptBlock_641 (lv_at hl 3 rfl) ?_
        refine lv_sipush (v := nI 255) hx hb dX10_encryptBlock_643 (by decide) ?_
        refine lv_iand hx hb dX10_encryptBlock_646 ?_
        refine lv_eqi (y := nI (byI (eS kw (xw0 bi io kw 0) (2 * j + 1) 3) 0).toNat) (ix_and (eS kw (xw0 bi io kw 0) (2 * j + 1) 3)) ?_
        refine xr_tiald C w ha_T0 (i := (byI (eS kw (xw0 bi io kw 0) (2 * j + 1) 3) 0).toNat) (by omega) (by omega) dX10_encryptBlock_647 ?_
        refine lv_eqi (y := (T0w (sbx (byI (eS kw (xw0 bi io kw 0) (2 * j + 1) 3) 0)))) (tT0_at _) ?_
        refine xr_gets C w hz_T0 q579 dX10_encryptBlock_648 ?_
        refine lv_iload hx hb dX10_encryptBlock_651 (lv_at hl 7 rfl) ?_
        refine lv_bipush (v := nI 8) hx hb dX10_encryptBlock_653 (by decide) ?_
        refine lv_ishr hx hb dX10_encryptBlock_655 ?_
        refine lv_sipush (v := nI 255) hx hb dX10_encryptBlock_656 (by decide) ?_
        refine lv_iand hx hb dX10_encryptBlock_659 ?_
        refine lv_eqi (y := nI (byI (eS kw (xw0 bi io kw 0) (2 * j + 1) 0) 1).toNat) (ix_sh (eS kw (xw0 bi io kw 0) (2 * j + 1) 0) 1 (by decide)) ?_
        refine xr_tiald C w ha_T0 (i := (byI (eS kw (xw0 bi io kw 0) (2 * j + 1) 0) 1).toNat) (by omega) (by omega) dX10_encryptBlock_660 ?_
        refine lv_eqi (y := (T0w (sbx (byI (eS kw (xw0 bi io kw 0) (2 * j + 1) 0) 1)))) (tT0_at _) ?_
        refine lv_bipush (v := nI 24) hx hb dX10_encryptBlock_661 (by decide) ?_
        refine xr_callS0 (n := 2) (rest := [.int (T0w (sbx (byI (eS kw (xw0 bi io kw 0) (2 * j + 1) 3) 0)))]) C w (met_X10_shift l G s.heap.size (T0w (sbx (byI (eS kw (xw0 bi io kw 0) (2 * j + 1) 0) 1))) (nI 24) ) q434 q435 q19 q436 (by decide +kernel) ⟨rfl, rfl, by decide, by decide⟩ (fun _ _ _ _ h => h) (fun U hU hW => trivial) rfl hl.1 rfl (Nat.le_of_ble_eq_true rfl) dX10_encryptBlock_663 ⟨by decide, by decide⟩ (fun v hp => ?_)
        subst hp
        refine lv_ixor hx hb dX10_encryptBlock_666 ?_
        refine xr_gets C w hz_T0 q579 dX10_encryptBlock_667 ?_
        refine lv_iload hx hb dX10_encryptBlock_670 (lv_at hl 6 rfl) ?_
        refine lv_bipush (v := nI 16) hx hb dX10_encryptBlock_672 (by decide) ?_
        refine lv_ishr hx hb dX10_encryptBlock_674 ?_
        refine lv_sipush (v := nI 255) hx hb dX10_encryptBlock_675 (by decide) ?_
        refine lv_iand hx hb dX10_encryptBlock_678 ?_
        refine lv_eqi (y := nI (byI (eS kw (xw0 bi io kw 0) (2 * j + 1) 1) 2).toNat) (ix_sh (eS kw (xw0 bi io kw 0) (2 * j + 1) 1) 2 (by decide)) ?_
        refine xr_tiald C w ha_T0 (i := (byI (eS kw (xw0 bi io kw 0) (2 * j + 1) 1) 2).toNat) (by omega) (by omega) dX10_encryptBlock_679 ?_
        refine lv_eqi (y := (T0w (sbx (byI (eS kw (xw0 bi io kw 0) (2 * j + 1) 1) 2)))) (tT0_at _) ?_
        refine lv_bipush (v := nI 16) hx hb dX10_encryptBlock_680 (by decide) ?_
        refine xr_callS0 (n := 2) (rest := [.int ((T0w (sbx (byI (eS kw (xw0 bi io kw 0) (2 * j + 1) 3) 0))) ^^^ (shf (T0w (sbx (byI (eS kw (xw0 bi io kw 0) (2 * j + 1) 0) 1))) (nI 24)))]) C w (met_X10_shift l G s.heap.size (T0w (sbx (byI (eS kw (xw0 bi io kw 0) (2 * j + 1) 1) 2))) (nI 16) ) q434 q435 q19 q436 (by decide +kernel) ⟨rfl, rfl, by decide, by decide⟩ (fun _ _ _ _ h => h) (fun U hU hW => trivial) rfl hl.1 rfl (Nat.le_of_ble_eq_true rfl) dX10_encryptBlock_682 ⟨by decide, by decide⟩ (fun v hp => ?_)
        subst hp
        refine lv_ixor hx hb dX10_encryptBlock_685 ?_
        refine xr_gets C w hz_T0 q579 dX10_encryptBlock_686 ?_
        refine lv_iload hx hb dX10_encryptBlock_689 (lv_at hl 5 rfl) ?_
        refine lv_bipush (v := nI 24) hx hb dX10_encryptBlock_691 (by decide) ?_
        refine lv_ishr hx hb dX10_encryptBlock_693 ?_
        refine lv_sipush (v := nI 255) hx hb dX10_encryptBlock_694 (by decide) ?_
        refine lv_iand hx hb dX10_encryptBlock_697 ?_
        refine lv_eqi (y := nI (byI (eS kw (xw0 bi io kw 0) (2 * j + 1) 2) 3).toNat) (ix_sh (eS kw (xw0 bi io kw 0) (2 * j + 1) 2) 3 (by decide)) ?_
        refine xr_tiald C w ha_T0 (i := (byI (eS kw (xw0 bi io kw 0) (2 * j + 1) 2) 3).toNat) (by omega) (by omega) dX10_encryptBlock_698 ?_
        refine lv_eqi (y := (T0w (sbx (byI (eS kw (xw0 bi io kw 0) (2 * j + 1) 2) 3)))) (tT0_at _) ?_
        refine lv_bipush (v := nI 8) hx hb dX10_encryptBlock_699 (by decide) ?_
        refine xr_callS0 (n := 2) (rest := [.int (((T0w (sbx (byI (eS kw (xw0 bi io kw 0) (2 * j + 1) 3) 0))) ^^^ (shf (T0w (sbx (byI (eS kw (xw0 bi io kw 0) (2 * j + 1) 0) 1))) (nI 24))) ^^^ (shf (T0w (sbx (byI (eS kw (xw0 bi io kw 0) (2 * j + 1) 1) 2))) (nI 16)))]) C w (met_X10_shift l G s.heap.size (T0w (sbx (byI (eS kw (xw0 bi io kw 0) (2 * j + 1) 2) 3))) (nI 8) ) q434 q435 q19 q436 (by decide +kernel) ⟨rfl, rfl, by decide, by decide⟩ (fun _ _ _ _ h => h) (fun U hU hW => trivial) rfl hl.1 rfl (Nat.le_of_ble_eq_true rfl) dX10_encryptBlock_701 ⟨by decide, by decide⟩ (fun v hp => ?_)
        subst hp
        refine lv_ixor hx hb dX10_encryptBlock_704 ?_
        refine lv_aload hx hb dX10_encryptBlock_705 (lv_at hl 11 rfl) ?_
        refine lv_iload hx hb dX10_encryptBlock_707 (lv_at hl 4 rfl) ?_
        refine lv_iinc (v := nI (2 * (j + 1) + 1)) (lv' := [(13, .int (nI (2 * (j + 1) + 1))), (12, .int (eS kw (xw0 bi io kw 0) (2 * (j + 1)) 2)), (11, .int (eS kw (xw0 bi io kw 0) (2 * (j + 1)) 1)), (10, .int (eS kw (xw0 bi io kw 0) (2 * (j + 1)) 0)), (17, .int (eS kw (xw0 bi io kw 0) (2 * j + 1) 3)), (16, .int (eS kw (xw0 bi io kw 0) (2 * j + 1) 2)), (15, .int (eS kw (xw0 bi io kw 0) (2 * j + 1) 1)), (14, .int (eS kw (xw0 bi io kw 0) (2 * j + 1) 0)), (0, .ref h), (3, .ref ho), (4, .int (nI oo)), (5, .ref wa)]) hx hb dX10_encryptBlock_709 hl (k := 4) rfl ((nI_add (2 * j + 2) 1).trans (by rw [show 2 * j + 2 + 1 = 2 * (j + 1) + 1 by omega])) (by decide) rfl (fun ls hl => ?_)
        refine xr_aald C (i := 2 * j + 2) hKW.1 (by omega) (by omega) dX10_encryptBlock_712 ?_
        refine lv_eqr (v' := .ref (ad (2 * j + 2))) rfl ?_
        refine lv_iconst (v := nI 3) hx hb dX10_encryptBlock_713 (by decide) ?_
        refine xr_iald C (i := 3) (hKW.2 (2 * j + 2) (by omega)) (by omega) (by omega) dX10_encryptBlock_714 ?_
        refine lv_ixor hx hb dX10_encryptBlock_715 ?_
        refine lv_eqi (y := (eS kw (xw0 bi io kw 0) (2 * (j + 1)) 3)) (eS_f3 (r := 2 * j + 1) (by omega) (by omega)) ?_
        refine lv_istore (lv' := [(17, .int (eS kw (xw0 bi io kw 0) (2 * (j + 1)) 3)), (13, .int (nI (2 * (j + 1) + 1))), (12, .int (eS kw (xw0 bi io kw 0) (2 * (j + 1)) 2)), (11, .int (eS kw (xw0 bi io kw 0) (2 * (j + 1)) 1)), (10, .int (eS kw (xw0 bi io kw 0) (2 * (j + 1)) 0)), (16, .int (eS kw (xw0 bi io kw 0) (2 * j + 1) 2)), (15, .int (eS kw (xw0 bi io kw 0) (2 * j + 1) 1)), (14, .int (eS kw (xw0 bi io kw 0) (2 * j + 1) 0)), (0, .ref h), (3, .ref ho), (4, .int (nI oo)), (5, .ref wa)]) hx hb dX10_encryptBlock_716 hl (by decide) rfl (fun ls hl => ?_)
        refine lv_goto (tgt := 85) hx hb dX10_encryptBlock_718 (by decide) ?_
        exact ih_85 (j + 1) (by omega) (by omega) _ (lv_sub hl [8, 9, 10, 11, 4, 3, 2, 0, 1] rfl)
  exact loop_85 ((KC + 5 - 2 * 0) + 1) 0 (by omega) (by omega) _ (lv_sub hl [9, 12, 13, 14, 4, 3, 2, 0, 1] rfl)

set_option maxHeartbeats 4000000 in
set_option maxRecDepth 100000 in
theorem met_X10_decryptBlock (l : Launch) (G : GG) (sz : Nat) (h : Nat) (hi : Nat) (io : Nat) (ho : Nat) (oo : Nat) (wa : Nat) (KC : Nat) (z : Int32) (hs : Nat) (ni : Nat) (bi : Nat → BitVec 8) (no : Nat) (bo : Nat → BitVec 8) (ad : Nat → Nat) (kw : Nat → Nat → Int32) (hKC : KC % 2 = 0 ∧ 4 ≤ KC ∧ KC ≤ 8) (hio : io + 16 ≤ ni) (hni : ni < 2 ^ 31) (hoo : oo + 16 ≤ no) (hno : no < 2 ^ 31) : Met l yX10_decryptBlock (ws_ yX10_decryptBlock cX10_decryptBlock 18 none) ({ frames := 1, cells := 0, slots := 0, locals := 40 } : Room) (va_Pc [.ref h, .ref hi, .int (nI io), .ref ho, .int (nI oo), .ref wa] (PP G [(ho, xB G no bo)] sz (fun U : State => va_P G.1 vwCl [(h, xO 6 [.int (nI (KC + 6)), .ref wa, .int z, .ref hs]), (hs, xB G 256 siF), (hi, xB G ni bi)] U.heap ∧ KW G wa (KC + 7) ad kw U.heap))) (CQ G [(ho, xB G no bo)] sz (fun u : Unit => [(ho, xB G no (va_cpy (wby (dO KC kw (xw0 bi io kw (KC + 6)))) bo 0 oo 16))]) (fun (u : Unit) (v : Option Value) (H : Heap) => v = none)) 0 0 (va_A [(ho, xB G no bo)] sz) := by
  refine xr_met (own := RX10) (by decide) rfl (Nat.le_of_ble_eq_true rfl) ?_
  intro p e s m args below meth c ls Q A C hlk hr hnm hsz hAe w hRD hQ hl
  have hx := C.1
  have hb := C.2.1
  have w : Wd G A [(ho, xB G no bo)] s s.heap s.heap [] := w
  have hl : lv_has ls 18 [(0, .ref h), (1, .ref hi), (2, .int (nI io)), (3, .ref ho), (4, .int (nI oo)), (5, .ref wa)] := hl
  obtain ⟨hRd, hKW⟩ := hRD
  have hR0 : va_P G.1 vwCl [(h, xO 6 [.int (nI (KC + 6)), .ref wa, .int z, .ref hs])] s.heap := va_P.sub hRd [0] rfl
  have hR1 : va_P G.1 vwCl [(hs, xB G 256 siF)] s.heap := va_P.sub hRd [1] rfl
  have hR2 : va_P G.1 vwCl [(hi, xB G ni bi)] s.heap := va_P.sub hRd [2] rfl
  have hKC0 := hKC.1
  obtain ⟨t_Tinv0, hz_Tinv0, ha_Tinv0⟩ := (w.2.2.2.2.1.2.2.2.2).T
  obtain ⟨t_Si, hz_Si, ha_Si⟩ := (w.2.2.2.2.1.2.1).T
  refine lv_aload_n hx hb dX10_decryptBlock_0 rfl (lv_at hl 1 rfl) ?_
  refine lv_iload_n hx hb dX10_decryptBlock_1 rfl (lv_at hl 2 rfl) ?_
  refine lv_iconst (v := nI 0) hx hb dX10_decryptBlock_2 (by decide) ?_
  refine lv_iadd hx hb dX10_decryptBlock_3 ?_
  refine lv_eqi (nI_add io 0) ?_
  refine xr_callS0 (n := 2) (rest := []) C w (met_X14_littleEndianToInt l G s.heap.size hi ni bi (io + 0) (by omega) (by omega)) q431 q432 q30 q433 (by decide +kernel) ⟨rfl, rfl, by decide, by decide⟩ (fun _ _ _ _ h => h) (fun U hU hW => by rw [hU]; exact (xp_cons hR2 xp_nil)) rfl hl.1 rfl (Nat.le_of_ble_eq_true rfl) dX10_decryptBlock_4 ⟨by decide, by decide⟩ (fun v hp => ?_)
  subst hp
  refine lv_eqi (y := (inw bi io 0)) (rfl) ?_
  refine lv_istore (lv' := [(6, .int (inw bi io 0)), (0, .ref h), (1, .ref hi), (2, .int (nI io)), (3, .ref ho), (4, .int (nI oo)), (5, .ref wa)]) hx hb dX10_decryptBlock_7 hl (by decide) rfl (fun ls hl => ?_)
  refine lv_aload_n hx hb dX10_decryptBlock_9 rfl (lv_at hl 2 rfl) ?_
  refine lv_iload_n hx hb dX10_decryptBlock_10 rfl (lv_at hl 3 rfl) ?_
  refine lv_iconst (v := nI 4) hx hb dX10_decryptBlock_11 (by decide) ?_
  refine lv_iadd hx hb dX10_decryptBlock_12 ?_
  refine lv_eqi (nI_add io 4) ?_
  refine xr_callS0 (n := 2) (rest := []) C w (met_X14_littleEndianToInt l G s.heap.size hi ni bi (io + 4) (by omega) (by omega)) q431 q432 q30 q433 (by decide +kernel) ⟨rfl, rfl, by decide, by decide⟩ (fun _ _ _ _ h => h) (fun U hU hW => by rw [hU]; exact (xp_cons hR2 xp_nil)) rfl hl.1 rfl (Nat.le_of_ble_eq_true rfl) dX10_decryptBlock_13 ⟨by decide, by decide⟩ (fun v hp => ?_)
  subst hp
  refine lv_eqi (y := (inw bi io 1)) (rfl) ?_
  refine lv_istore (lv' := [(7, .int (inw bi io 1)), (6, .int (inw bi io 0)), (0, .ref h), (1, .ref hi), (2, .int (nI io)), (3, .ref ho), (4, .int (nI oo)), (5, .ref wa)]) hx hb dX10_decryptBlock_16 hl (by decide) rfl (fun ls hl => ?_)
  refine lv_aload_n hx hb dX10_decryptBlock_18 rfl (lv_at hl 3 rfl) ?_
  refine lv_iload_n hx hb dX10_decryptBlock_19 rfl (lv_at hl 4 rfl) ?_
  refine lv_bipush (v := nI 8) hx hb dX10_decryptBlock_20 (by decide) ?_
  refine lv_iadd hx hb dX10_decryptBlock_22 ?_
  refine lv_eqi (nI_add io 8) ?_
  refine xr_callS0 (n := 2) (rest := []) C w (met_X14_littleEndianToInt l G s.heap.size hi ni bi (io + 8) (by omega) (by omega)) q431 q432 q30 q433 (by decide +kernel) ⟨rfl, rfl, by decide, by decide⟩ (fun _ _ _ _ h => h) (fun U hU hW => by rw [hU]; exact (xp_cons hR2 xp_nil)) rfl hl.1 rfl (Nat.le_of_ble_eq_true rfl) dX10_decryptBlock_23 ⟨by decide, by decide⟩ (fun v hp => ?_)
  subst hp
  refine lv_eqi (y := (inw bi io 2)) (rfl) ?_
  refine lv_istore (lv' := [(8, .int (inw bi io 2)), (7, .int (inw bi io 1)), (6, .int (inw bi io 0)), (0, .ref h), (1, .ref hi), (2, .int (nI io)), (3, .ref ho), (4, .int (nI oo)), (5, .ref wa)]) hx hb dX10_decryptBlock_26 hl (by decide) rfl (fun ls hl => ?_)
  refine lv_aload_n hx hb dX10_decryptBlock_28 rfl (lv_at hl 4 rfl) ?_
  refine lv_iload_n hx hb dX10_decryptBlock_29 rfl (lv_at hl 5 rfl) ?_
  refine lv_bipush (v := nI 12) hx hb dX10_decryptBlock_30 (by decide) ?_
  refine lv_iadd hx hb dX10_decryptBlock_32 ?_
  refine lv_eqi (nI_add io 12) ?_
  refine xr_callS0 (n := 2) (rest := []) C w (met_X14_littleEndianToInt l G s.heap.size hi ni bi (io + 12) (by omega) (by omega)) q431 q432 q30 q433 (by decide +kernel) ⟨rfl, rfl, by decide, by decide⟩ (fun _ _ _ _ h => h) (fun U hU hW => by rw [hU]; exact (xp_cons hR2 xp_nil)) rfl hl.1 rfl (Nat.le_of_ble_eq_true rfl) dX10_decryptBlock_33 ⟨by decide, by decide⟩ (fun v hp => ?_)
  subst hp
  refine lv_eqi (y := (inw bi io 3)) (rfl) ?_
  refine lv_istore (lv' := [(9, .int (inw bi io 3)), (8, .int (inw bi io 2)), (7, .int (inw bi io 1)), (6, .int (inw bi io 0)), (0, .ref h), (1, .ref hi), (2, .int (nI io)), (3, .ref ho), (4, .int (nI oo)), (5, .ref wa)]) hx hb dX10_decryptBlock_36 hl (by decide) rfl (fun ls hl => ?_)
  refine lv_iload hx hb dX10_decryptBlock_38 (lv_at hl 3 rfl) ?_
  refine lv_aload hx hb dX10_decryptBlock_40 (lv_at hl 9 rfl) ?_
  refine lv_aload_n hx hb dX10_decryptBlock_42 rfl (lv_at hl 4 rfl) ?_
  refine xr_get (ci := 6) (v := .int (nI (KC + 6))) (Cn := RX10) (T := TX10) (N := 4) C hR0 in_X10 rfl 0 (by decide) q139 (fun _ h => h) rfl dX10_decryptBlock_43 ?_
  refine xr_aald C (i := KC + 6) hKW.1 (by omega) (by omega) dX10_decryptBlock_46 ?_
  refine lv_eqr (v' := .ref (ad (KC + 6))) rfl ?_
  refine lv_iconst (v := nI 0) hx hb dX10_decryptBlock_47 (by decide) ?_
  refine xr_iald C (i := 0) (hKW.2 (KC + 6) (by omega)) (by omega) (by omega) dX10_decryptBlock_48 ?_
  refine lv_ixor hx hb dX10_decryptBlock_49 ?_
  refine lv_eqi (y := (dS KC kw (xw0 bi io kw (KC + 6)) (2 * 0) 0)) (rfl) ?_
  refine lv_istore (lv' := [(10, .int (dS KC kw (xw0 bi io kw (KC + 6)) (2 * 0) 0)), (9, .int (inw bi io 3)), (8, .int (inw bi io 2)), (7, .int (inw bi io 1)), (6, .int (inw bi io 0)), (0, .ref h), (1, .ref hi), (2, .int (nI io)), (3, .ref ho), (4, .int (nI oo)), (5, .ref wa)]) hx hb dX10_decryptBlock_50 hl (by decide) rfl (fun ls hl => ?_)
  refine lv_iload hx hb dX10_decryptBlock_52 (lv_at hl 3 rfl) ?_
  refine lv_aload hx hb dX10_decryptBlock_54 (lv_at hl 10 rfl) ?_
  refine lv_aload_n hx hb dX10_decryptBlock_56 rfl (lv_at hl 5 rfl) ?_
  refine xr_get (ci := 6) (v := .int (nI (KC + 6))) (Cn := RX10) (T := TX10) (N := 4) C hR0 in_X10 rfl 0 (by decide) q139 (fun _ h => h) rfl dX10_decryptBlock_57 ?_
  refine xr_aald C (i := KC + 6) hKW.1 (by omega) (by omega) dX10_decryptBlock_60 ?_
  refine lv_eqr (v' := .ref (ad (KC + 6))) rfl ?_
  refine lv_iconst (v := nI 1) hx hb dX10_decryptBlock_61 (by decide) ?_
  refine xr_iald C (i := 1) (hKW.2 (KC + 6) (by omega)) (by omega) (by omega) dX10_decryptBlock_62 ?_
  refine lv_ixor hx hb dX10_decryptBlock_63 ?_
  refine lv_eqi (y := (dS KC kw (xw0 bi io kw (KC + 6)) (2 * 0) 1)) (rfl) ?_
  refine lv_istore (lv' := [(11, .int (dS KC kw (xw0 bi io kw (KC + 6)) (2 * 0) 1)), (10, .int (dS KC kw (xw0 bi io kw (KC + 6)) (2 * 0) 0)), (9, .int (inw bi io 3)), (8, .int (inw bi io 2)), (7, .int (inw bi io 1)), (6, .int (inw bi io 0)), (0, .ref h), (1, .ref hi), (2, .int (nI io)), (3, .ref ho), (4, .int (nI oo)), (5, .ref wa)]) hx hb dX10_decryptBlock_64 hl (by decide) rfl (fun ls hl => ?_)
  refine lv_iload hx hb dX10_decryptBlock_66 (lv_at hl 3 rfl) ?_
  refine lv_aload hx hb dX10_decryptBlock_68 (lv_at hl 11 rfl) ?_
  refine lv_aload_n hx hb dX10_decryptBlock_70 rfl (lv_at hl 6 rfl) ?_
  refine xr_get (ci := 6) (v := .int (nI (KC + 6))) (Cn := RX10) (T := TX10) (N := 4) C hR0 in_X10 rfl 0 (by decide) q139 (fun _ h => h) rfl dX10_decryptBlock_71 ?_
  refine xr_aald C (i := KC + 6) hKW.1 (by omega) (by omega) dX10_decryptBlock_74 ?_
  refine lv_eqr (v' := .ref (ad (KC + 6))) rfl ?_
  refine lv_iconst (v := nI 2) hx hb dX10_decryptBlock_75 (by decide) ?_
  refine xr_iald C (i := 2) (hKW.2 (KC + 6) (by omega)) (by omega) (by omega) dX10_decryptBlock_76 ?_
  refine lv_ixor hx hb dX10_decryptBlock_77 ?_
  refine lv_eqi (y := (dS KC kw (xw0 bi io kw (KC + 6)) (2 * 0) 2)) (rfl) ?_
  refine lv_istore (lv' := [(12, .int (dS KC kw (xw0 bi io kw (KC + 6)) (2 * 0) 2)), (11, .int (dS KC kw (xw0 bi io kw (KC + 6)) (2 * 0) 1)), (10, .int (dS KC kw (xw0 bi io kw (KC + 6)) (2 * 0) 0)), (9, .int (inw bi io 3)), (8, .int (inw bi io 2)), (7, .int (inw bi io 1)), (6, .int (inw bi io 0)), (0, .ref h), (1, .ref hi), (2, .int (nI io)), (3, .ref ho), (4, .int (nI oo)), (5, .ref wa)]) hx hb dX10_decryptBlock_78 hl (by decide) rfl (fun ls hl => ?_)
  refine lv_aload_n hx hb dX10_decryptBlock_80 rfl (lv_at hl 7 rfl) ?_
  refine xr_get (ci := 6) (v := .int (nI (KC + 6))) (Cn := RX10) (T := TX10) (N := 4) C hR0 in_X10 rfl 0 (by decide) q139 (fun _ h => h) rfl dX10_decryptBlock_81 ?_
  refine lv_iconst (v := nI 1) hx hb dX10_decryptBlock_84 (by decide) ?_
  refine lv_isub hx hb dX10_decryptBlock_85 ?_
  refine lv_eqi (y := nI (KC + 5 - 2 * 0)) ((pk_sub (a := KC + 6) (b := 1) (by omega)).trans (by rw [show KC + 6 - 1 = KC + 5 - 2 * 0 by omega])) ?_
  refine lv_istore (lv' := [(13, .int (nI (KC + 5 - 2 * 0))), (12, .int (dS KC kw (xw0 bi io kw (KC + 6)) (2 * 0) 2)), (11, .int (dS KC kw (xw0 bi io kw (KC + 6)) (2 * 0) 1)), (10, .int (dS KC kw (xw0 bi io kw (KC + 6)) (2 * 0) 0)), (9, .int (inw bi io 3)), (8, .int (inw bi io 2)), (7, .int (inw bi io 1)), (6, .int (inw bi io 0)), (0, .ref h), (1, .ref hi), (2, .int (nI io)), (3, .ref ho), (4, .int (nI oo)), (5, .ref wa)]) hx hb dX10_decryptBlock_86 hl (by decide) rfl (fun ls hl => ?_)
  refine lv_iload hx hb dX10_decryptBlock_88 (lv_at hl 4 rfl) ?_
  refine lv_aload hx hb dX10_decryptBlock_90 (lv_at hl 13 rfl) ?_
  refine lv_aload_n hx hb dX10_decryptBlock_92 rfl (lv_at hl 8 rfl) ?_
  refine xr_get (ci := 6) (v := .int (nI (KC + 6))) (Cn := RX10) (T := TX10) (N := 4) C hR0 in_X10 rfl 0 (by decide) q139 (fun _ h => h) rfl dX10_decryptBlock_93 ?_
  refine xr_aald C (i := KC + 6) hKW.1 (by omega) (by omega) dX10_decryptBlock_96 ?_
  refine lv_eqr (v' := .ref (ad (KC + 6))) rfl ?_
  refine lv_iconst (v := nI 3) hx hb dX10_decryptBlock_97 (by decide) ?_
  refine xr_iald C (i := 3) (hKW.2 (KC + 6) (by omega)) (by omega) (by omega) dX10_decryptBlock_98 ?_
  refine lv_ixor hx hb dX10_decryptBlock_99 ?_
  refine lv_eqi (y := (dS KC kw (xw0 bi io kw (KC + 6)) (2 * 0) 3)) (rfl) ?_
  refine lv_istore (lv' := [(17, .int (dS KC kw (xw0 bi io kw (KC + 6)) (2 * 0) 3)), (13, .int (nI (KC + 5 - 2 * 0))), (12, .int (dS KC kw (xw0 bi io kw (KC + 6)) (2 * 0) 2)), (11, .int (dS KC kw (xw0 bi io kw (KC + 6)) (2 * 0) 1)), (10, .int (dS KC kw (xw0 bi io kw (KC + 6)) (2 * 0) 0)), (9, .int (inw bi io 3)), (8, .int (inw bi io 2)), (7, .int (inw bi io 1)), (6, .int (inw bi io 0)), (0, .ref h), (1, .ref hi), (2, .int (nI io)), (3, .ref ho), (4, .int (nI oo)), (5, .ref wa)]) hx hb dX10_decryptBlock_100 hl (by decide) rfl (fun ls hl => ?_)
  have loop_102 : ∀ (nn : Nat) (j : Nat), KC + 5 - 2 * j < nn → (hj : 2 * j ≤ KC + 4) → ∀ (ls : Array Slot), lv_has ls 18 [(0, .ref h), (3, .ref ho), (4, .int (nI oo)), (5, .ref wa), (10, .int (dS KC kw (xw0 bi io kw (KC + 6)) (2 * j) 0)), (11, .int (dS KC kw (xw0 bi io kw (KC + 6)) (2 * j) 1)), (12, .int (dS KC kw (xw0 bi io kw (KC + 6)) (2 * j) 2)), (17, .int (dS KC kw (xw0 bi io kw (KC + 6)) (2 * j) 3)), (13, .int (nI (KC + 5 - 2 * j)))] → W p l e ({ frames := 1, cells := 0, slots := 0, locals := 40 } : Room) s m args below meth c s.heap [] 0 0 Q (F0 m 102 ls []) := by
    intro nn
    induction nn with
    | zero => intro j hmm; exact absurd hmm (Nat.not_lt_zero _)
    | succ nn ih_102 =>
      intro j hmm hj ls hl
      refine lv_iload hx hb dX10_decryptBlock_102 (lv_at hl 8 rfl) ?_
      refine lv_iconst (v := nI 1) hx hb dX10_decryptBlock_104 (by decide) ?_
      refine xr_icmp_le (a := KC + 5 - 2 * j) (b := 1) (tgt := 733) hx hb dX10_decryptBlock_105 (by decide) (by omega) (by omega) (fun c_105 => ?_) (fun c_105 => ?_)
      · have hj2 : 2 * j = KC + 4 := by omega
        refine xr_gets C w hz_Tinv0 q588 dX10_decryptBlock_733 ?_
        refine lv_iload hx hb dX10_decryptBlock_736 (lv_at hl 4 rfl) ?_
        refine lv_sipush (v := nI 255) hx hb dX10_decryptBlock_738 (by decide) ?_
        refine lv_iand hx hb dX10_decryptBlock_741 ?_
        refine lv_eqi (y := nI (byI (dS KC kw (xw0 bi io kw (KC + 6)) (2 * j) 0) 0).toNat) (ix_and (dS KC kw (xw0 bi io kw (KC + 6)) (2 * j) 0)) ?_
        refine xr_tiald C w ha_Tinv0 (i := (byI (dS KC kw (xw0 bi io kw (KC + 6)) (2 * j) 0) 0).toNat) (by omega) (by omega) dX10_decryptBlock_742 ?_
        refine lv_eqi (y := (Tiw (six (byI (dS KC kw (xw0 bi io kw (KC + 6)) (2 * j) 0) 0)))) (tTi_at _) ?_
        refine xr_gets C w hz_Tinv0 q588 dX10_decryptBlock_743 ?_
        refine lv_iload hx hb dX10_decryptBlock_746 (lv_at hl 7 rfl) ?_
        refine lv_bipush (v := nI 8) hx hb dX10_decryptBlock_748 (by decide) ?_
        refine lv_ishr hx hb dX10_decryptBlock_750 ?_
        refine lv_sipush (v := nI 255) hx hb dX10_decryptBlock_751 (by decide) ?_
        refine lv_iand hx hb dX10_decryptBlock_754 ?_
        refine lv_eqi (y := nI (byI (dS KC kw (xw0 bi io kw (KC + 6)) (2 * j) 3) 1).toNat) (ix_sh (dS KC kw (xw0 bi io kw (KC + 6)) (2 * j) 3) 1 (by decide)) ?_
        refine xr_tiald C w ha_Tinv0 (i := (byI (dS KC kw (xw0 bi io kw (KC + 6)) (2 * j) 3) 1).toNat) (by omega) (by omega) dX10_decryptBlock_755 ?_
        refine lv_eqi (y := (Tiw (six (byI (dS KC kw (xw0 bi io kw (KC + 6)) (2 * j) 3) 1)))) (tTi_at _) ?_
        refine lv_bipush (v := nI 24) hx hb dX10_decryptBlock_756 (by decide) ?_
        refine xr_callS0 (n := 2) (rest := [.int (Tiw (six (byI (dS KC kw (xw0 bi io kw (KC + 6)) (2 * j) 0) 0)))]) C w (met_X10_shift l G s.heap.size (Tiw (six (byI (dS KC kw (xw0 bi io kw (KC + 6)) (2 * j) 3) 1))) (nI 24) ) q434 q435 q19 q436 (by decide +kernel) ⟨rfl, rfl, by decide, by decide⟩ (fun _ _ _ _ h => h) (fun U hU hW => trivial) rfl hl.1 rfl (Nat.le_of_ble_eq_true rfl) dX10_decryptBlock_758 ⟨by decide, by decide⟩ (fun v hp => ?_)
        subst hp
        refine lv_ixor hx hb dX10_decryptBlock_761 ?_
        refine xr_gets C w hz_Tinv0 q588 dX10_decryptBlock_762 ?_
        refine lv_iload hx hb dX10_decryptBlock_765 (lv_at hl 6 rfl) ?_
        refine lv_bipush (v := nI 16) hx hb dX10_decryptBlock_767 (by decide) ?_
        refine lv_ishr hx hb dX10_decryptBlock_769 ?_
        refine lv_sipush (v := nI 255) hx hb dX10_decryptBlock_770 (by decide) ?_
        refine lv_iand hx hb dX10_decryptBlock_773 ?_
        refine lv_eqi (y := nI (byI (dS KC kw (xw0 bi io kw (KC + 6)) (2 * j) 2) 2).toNat) (ix_sh (dS KC kw (xw0 bi io kw (KC + 6)) (2 * j) 2) 2 (by decide)) ?_
        refine xr_tiald C w ha_Tinv0 (i := (byI (dS KC kw (xw0 bi io kw (KC + 6)) (2 * j) 2) 2).toNat) (by omega) (by omega) dX10_decryptBlock_774 ?_
        refine lv_eqi (y := (Tiw (six (byI (dS KC kw (xw0 bi io kw (KC + 6)) (2 * j) 2) 2)))) (tTi_at _) ?_
        refine lv_bipush (v := nI 16) hx hb dX10_decryptBlock_775 (by decide) ?_
        refine xr_callS0 (n := 2) (rest := [.int ((Tiw (six (byI (dS KC kw (xw0 bi io kw (KC + 6)) (2 * j) 0) 0))) ^^^ (shf (Tiw (six (byI (dS KC kw (xw0 bi io kw (KC + 6)) (2 * j) 3) 1))) (nI 24)))]) C w (met_X10_shift l G s.heap.size (Tiw (six (byI (dS KC kw (xw0 bi io kw (KC + 6)) (2 * j) 2) 2))) (nI 16) ) q434 q435 q19 q436 (by decide +kernel) ⟨rfl, rfl, by decide, by decide⟩ (fun _ _ _ _ h => h) (fun U hU hW => trivial) rfl hl.1 rfl (Nat.le_of_ble_eq_true rfl) dX10_decryptBlock_777 ⟨by decide, by decide⟩ (fun v hp => ?_)
        subst hp
        refine lv_ixor hx hb dX10_decryptBlock_780 ?_
        refine xr_gets C w hz_Tinv0 q588 dX10_decryptBlock_781 ?_
        refine lv_iload hx hb dX10_decryptBlock_784 (lv_at hl 5 rfl) ?_
        refine lv_bipush (v := nI 24) hx hb dX10_decryptBlock_786 (by decide) ?_
        refine lv_ishr hx hb dX10_decryptBlock_788 ?_
        refine lv_sipush (v := nI 255) hx hb dX10_decryptBlock_789 (by decide) ?_
        refine lv_iand hx hb dX10_decryptBlock_792 ?_
        refine lv_eqi (y := nI (byI (dS KC kw (xw0 bi io kw (KC + 6)) (2 * j) 1) 3).toNat) (ix_sh (dS KC kw (xw0 bi io kw (KC + 6)) (2 * j) 1) 3 (by decide)) ?_
        refine xr_tiald C w ha_Tinv0 (i := (byI (dS KC kw (xw0 bi io kw (KC + 6)) (2 * j) 1) 3).toNat) (by omega) (by omega) dX10_decryptBlock_793 ?_
        refine lv_eqi (y := (Tiw (six (byI (dS KC kw (xw0 bi io kw (KC + 6)) (2 * j) 1) 3)))) (tTi_at _) ?_
        refine lv_bipush (v := nI 8) hx hb dX10_decryptBlock_794 (by decide) ?_
        refine xr_callS0 (n := 2) (rest := [.int (((Tiw (six (byI (dS KC kw (xw0 bi io kw (KC + 6)) (2 * j) 0) 0))) ^^^ (shf (Tiw (six (byI (dS KC kw (xw0 bi io kw (KC + 6)) (2 * j) 3) 1))) (nI 24))) ^^^ (shf (Tiw (six (byI (dS KC kw (xw0 bi io kw (KC + 6)) (2 * j) 2) 2))) (nI 16)))]) C w (met_X10_shift l G s.heap.size (Tiw (six (byI (dS KC kw (xw0 bi io kw (KC + 6)) (2 * j) 1) 3))) (nI 8) ) q434 q435 q19 q436 (by decide +kernel) ⟨rfl, rfl, by decide, by decide⟩ (fun _ _ _ _ h => h) (fun U hU hW => trivial) rfl hl.1 rfl (Nat.le_of_ble_eq_true rfl) dX10_decryptBlock_796 ⟨by decide, by decide⟩ (fun v hp => ?_)
        subst hp
        refine lv_ixor hx hb dX10_decryptBlock_799 ?_
        refine lv_aload hx hb dX10_decryptBlock_800 (lv_at hl 3 rfl) ?_
        refine lv_iload hx hb dX10_decryptBlock_802 (lv_at hl 8 rfl) ?_
        refine xr_aald C (i := KC + 5 - 2 * j) hKW.1 (by omega) (by omega) dX10_decryptBlock_804 ?_
        refine lv_eqr (v' := .ref (ad (KC + 5 - 2 * j))) rfl ?_
        refine lv_iconst (v := nI 0) hx hb dX10_decryptBlock_805 (by decide) ?_
        refine xr_iald C (i := 0) (hKW.2 (KC + 5 - 2 * j) (by omega)) (by omega) (by omega) dX10_decryptBlock_806 ?_
        refine lv_ixor hx hb dX10_decryptBlock_807 ?_
        refine lv_eqi (y := (dS KC kw (xw0 bi io kw (KC + 6)) (KC + 5) 0)) (dS_f0 (r := 2 * j) (by omega) (by omega)) ?_
        refine lv_istore (lv' := [(14, .int (dS KC kw (xw0 bi io kw (KC + 6)) (KC + 5) 0)), (0, .ref h), (3, .ref ho), (4, .int (nI oo)), (5, .ref wa), (10, .int (dS KC kw (xw0 bi io kw (KC + 6)) (2 * j) 0)), (11, .int (dS KC kw (xw0 bi io kw (KC + 6)) (2 * j) 1)), (12, .int (dS KC kw (xw0 bi io kw (KC + 6)) (2 * j) 2)), (17, .int (dS KC kw (xw0 bi io kw (KC + 6)) (2 * j) 3)), (13, .int (nI (KC + 5 - 2 * j)))]) hx hb dX10_decryptBlock_808 hl (by decide) rfl (fun ls hl => ?_)
        refine xr_gets C w hz_Tinv0 q588 dX10_decryptBlock_810 ?_
        refine lv_iload hx hb dX10_decryptBlock_813 (lv_at hl 6 rfl) ?_
        refine lv_sipush (v := nI 255) hx hb dX10_decryptBlock_815 (by decide) ?_
        refine lv_iand hx hb dX10_decryptBlock_818 ?_
        refine lv_eqi (y := nI (byI (dS KC kw (xw0 bi io kw (KC + 6)) (2 * j) 1) 0).toNat) (ix_and (dS KC kw (xw0 bi io kw (KC + 6)) (2 * j) 1)) ?_
        refine xr_tiald C w ha_Tinv0 (i := (byI (dS KC kw (xw0 bi io kw (KC + 6)) (2 * j) 1) 0).toNat) (by omega) (by omega) dX10_decryptBlock_819 ?_
        refine lv_eqi (y := (Tiw (six (byI (dS KC kw (xw0 bi io kw (KC + 6)) (2 * j) 1) 0)))) (tTi_at _) ?_
        refine xr_gets C w hz_Tinv0 q588 dX10_decryptBlock_820 ?_
        refine lv_iload hx hb dX10_decryptBlock_823 (lv_at hl 5 rfl) ?_
        refine lv_bipush (v := nI 8) hx hb dX10_decryptBlock_825 (by decide) ?_
        refine lv_ishr hx hb dX10_decryptBlock_827 ?_
        refine lv_sipush (v := nI 255) hx hb dX10_decryptBlock_828 (by decide) ?_
        refine lv_iand hx hb dX10_decryptBlock_831 ?_
        refine lv_eqi (y := nI (byI (dS KC kw (xw0 bi io kw (KC + 6)) (2 * j) 0) 1).toNat) (ix_sh (dS KC kw (xw0 bi io kw (KC + 6)) (2 * j) 0) 1 (by decide)) ?_
        refine xr_tiald C w ha_Tinv0 (i := (byI (dS KC kw (xw0 bi io kw (KC + 6)) (2 * j) 0) 1).toNat) (by omega) (by omega) dX10_decryptBlock_832 ?_
        refine lv_eqi (y := (Tiw (six (byI (dS KC kw (xw0 bi io kw (KC + 6)) (2 * j) 0) 1)))) (tTi_at _) ?_
        refine lv_bipush (v := nI 24) hx hb dX10_decryptBlock_833 (by decide) ?_
        refine xr_callS0 (n := 2) (rest := [.int (Tiw (six (byI (dS KC kw (xw0 bi io kw (KC + 6)) (2 * j) 1) 0)))]) C w (met_X10_shift l G s.heap.size (Tiw (six (byI (dS KC kw (xw0 bi io kw (KC + 6)) (2 * j) 0) 1))) (nI 24) ) q434 q435 q19 q436 (by decide +kernel) ⟨rfl, rfl, by decide, by decide⟩ (fun _ _ _ _ h => h) (fun U hU hW => trivial) rfl hl.1 rfl (Nat.le_of_ble_eq_true rfl) dX10_decryptBlock_835 ⟨by decide, by decide⟩ (fun v hp => ?_)
        subst hp
        refine lv_ixor hx hb dX10_decryptBlock_838 ?_
        refine xr_gets C w hz_Tinv0 q588 dX10_decryptBlock_839 ?_
        refine lv_iload hx hb dX10_decryptBlock_842 (lv_at hl 8 rfl) ?_
        refine lv_bipush (v := nI 16) hx hb dX10_decryptBlock_844 (by decide) ?_
        refine lv_ishr hx hb dX10_decryptBlock_846 ?_
        refine lv_sipush (v := nI 255) hx hb dX10_decryptBlock_847 (by decide) ?_
        refine lv_iand hx hb dX10_decryptBlock_850 ?_
        refine lv_eqi (y := nI (byI (dS KC kw (xw0 bi io kw (KC + 6)) (2 * j) 3) 2).toNat) (ix_sh (dS KC kw (xw0 bi io kw (KC + 6)) (2 * j) 3) 2 (by decide)) ?_
        refine xr_tiald C w ha_Tinv0 (i := (byI (dS KC kw (xw0 bi io kw (KC + 6)) (2 * j) 3) 2).toNat) (by omega) (by omega) dX10_decryptBlock_851 ?_
        refine lv_eqi (y := (Tiw (six (byI (dS KC kw (xw0 bi io kw (KC + 6)) (2 * j) 3) 2)))) (tTi_at _) ?_
        refine lv_bipush (v := nI 16) hx hb dX10_decryptBlock_852 (by decide) ?_
        refine xr_callS0 (n := 2) (rest := [.int ((Tiw (six (byI (dS KC kw (xw0 bi io kw (KC + 6)) (2 * j) 1) 0))) ^^^ (shf (Tiw (six (byI (dS KC kw (xw0 bi io kw (KC + 6)) (2 * j) 0) 1))) (nI 24)))]) C w (met_X10_shift l G s.heap.size (Tiw (six (byI (dS KC kw (xw0 bi io kw (KC + 6)) (2 * j) 3) 2))) (nI 16) ) q434 q435 q19 q436 (by decide +kernel) ⟨rfl, rfl, by decide, by decide⟩ (fun _ _ _ _ h => h) (fun U hU hW => trivial) rfl hl.1 rfl (Nat.le_of_ble_eq_true rfl) dX10_decryptBlock_854 ⟨by decide, by decide⟩ (fun v hp => ?_)
        subst hp
        refine lv_ixor hx hb dX10_decryptBlock_857 ?_
        refine xr_gets C w hz_Tinv0 q588 dX10_decryptBlock_858 ?_
        refine lv_iload hx hb dX10_decryptBlock_861 (lv_at hl 7 rfl) ?_
        refine lv_bipush (v := nI 24) hx hb dX10_decryptBlock_863 (by decide) ?_
        refine lv_ishr hx hb dX10_decryptBlock_865 ?_
        refine lv_sipush (v := nI 255) hx hb dX10_decryptBlock_866 (by decide) ?_
        refine lv_iand hx hb dX10_decryptBlock_869 ?_
        refine lv_eqi (y := nI (byI (dS KC kw (xw0 bi io kw (KC + 6)) (2 * j) 2) 3).toNat) (ix_sh (dS KC kw (xw0 bi io kw (KC + 6)) (2 * j) 2) 3 (by decide)) ?_
        refine xr_tiald C w ha_Tinv0 (i := (byI (dS KC kw (xw0 bi io kw (KC + 6)) (2 * j) 2) 3).toNat) (by omega) (by omega) dX10_decryptBlock_870 ?_
        refine lv_eqi (y := (Tiw (six (byI (dS KC kw (xw0 bi io kw (KC + 6)) (2 * j) 2) 3)))) (tTi_at _) ?_
        refine lv_bipush (v := nI 8) hx hb dX10_decryptBlock_871 (by decide) ?_
        refine xr_callS0 (n := 2) (rest := [.int (((Tiw (six (byI (dS KC kw (xw0 bi io kw (KC + 6)) (2 * j) 1) 0))) ^^^ (shf (Tiw (six (byI (dS KC kw (xw0 bi io kw (KC + 6)) (2 * j) 0) 1))) (nI 24))) ^^^ (shf (Tiw (six (byI (dS KC kw (xw0 bi io kw (KC + 6)) (2 * j) 3) 2))) (nI 16)))]) C w (met_X10_shift l G s.heap.size (Tiw (six (byI (dS KC kw (xw0 bi io kw (KC + 6)) (2 * j) 2) 3))) (nI 8) ) q434 q435 q19 q436 (by decide +kernel) ⟨rfl, rfl, by decide, by decide⟩ (fun _ _ _ _ h => h) (fun U hU hW => trivial) rfl hl.1 rfl (Nat.le_of_ble_eq_true rfl) dX10_decryptBlock_873 ⟨by decide, by decide⟩ (fun v hp => ?_)
        subst hp
        refine lv_ixor hx hb dX10_decryptBlock_876 ?_
        refine lv_aload hx hb dX10_decryptBlock_877 (lv_at hl 4 rfl) ?_
        refine lv_iload hx hb dX10_decryptBlock_879 (lv_at hl 9 rfl) ?_
        refine xr_aald C (i := KC + 5 - 2 * j) hKW.1 (by omega) (by omega) dX10_decryptBlock_881 ?_
        refine lv_eqr (v' := .ref (ad (KC + 5 - 2 * j))) rfl ?_
        refine lv_iconst (v := nI 1) hx hb dX10_decryptBlock_882 (by decide) ?_
        refine xr_iald C (i := 1) (hKW.2 (KC + 5 - 2 * j) (by omega)) (by omega) (by omega) dX10_decryptBlock_883 ?_
        refine lv_ixor hx hb dX10_decryptBlock_884 ?_
        refine lv_eqi (y := (dS KC kw (xw0 bi io kw (KC + 6)) (KC + 5) 1)) (dS_f1 (r := 2 * j) (by omega) (by omega)) ?_
        refine lv_istore (lv' := [(15, .int (dS KC kw (xw0 bi io kw (KC + 6)) (KC + 5) 1)), (14, .int (dS KC kw (xw0 bi io kw (KC + 6)) (KC + 5) 0)), (0, .ref h), (3, .ref ho), (4, .int (nI oo)), (5, .ref wa), (10, .int (dS KC kw (xw0 bi io kw (KC + 6)) (2 * j) 0)), (11, .int (dS KC kw (xw0 bi io kw (KC + 6)) (2 * j) 1)), (12, .int (dS KC kw (xw0 bi io kw (KC + 6)) (2 * j) 2)), (17, .int (dS KC kw (xw0 bi io kw (KC + 6)) (2 * j) 3)), (13, .int (nI (KC + 5 - 2 * j)))]) hx hb dX10_decryptBlock_885 hl (by decide) rfl (fun ls hl => ?_)
        refine xr_gets C w hz_Tinv0 q588 dX10_decryptBlock_887 ?_
        refine lv_iload hx hb dX10_decryptBlock_890 (lv_at hl 8 rfl) ?_
        refine lv_sipush (v := nI 255) hx hb dX10_decryptBlock_892 (by decide) ?_
        refine lv_iand hx hb dX10_decryptBlock_895 ?_
        refine lv_eqi (y := nI (byI (dS KC kw (xw0 bi io kw (KC + 6)) (2 * j) 2) 0).toNat) (ix_and (dS KC kw (xw0 bi io kw (KC + 6)) (2 * j) 2)) ?_
        refine xr_tiald C w ha_Tinv0 (i := (byI (dS KC kw (xw0 bi io kw (KC + 6)) (2 * j) 2) 0).toNat) (by omega) (by omega) dX10_decryptBlock_896 ?_
        refine lv_eqi (y := (Tiw (six (byI (dS KC kw (xw0 bi io kw (KC + 6)) (2 * j) 2) 0)))) (tTi_at _) ?_
        refine xr_gets C w hz_Tinv0 q588 dX10_decryptBlock_897 ?_
        refine lv_iload hx hb dX10_decryptBlock_900 (lv_at hl 7 rfl) ?_
        refine lv_bipush (v := nI 8) hx hb dX10_decryptBlock_902 (by decide) ?_
        refine lv_ishr hx hb dX10_decryptBlock_904 ?_
        refine lv_sipush (v := nI 255) hx hb dX10_decryptBlock_905 (by decide) ?_
        refine lv_iand hx hb dX10_decryptBlock_908 ?_
        refine lv_eqi (y := nI (byI (dS KC kw (xw0 bi io kw (KC + 6)) (2 * j) 1) 1).toNat) (ix_sh (dS KC kw (xw0 bi io kw (KC + 6)) (2 * j) 1) 1 (by decide)) ?_
        refine xr_tiald C w ha_Tinv0 (i := (byI (dS KC kw (xw0 bi io kw (KC + 6)) (2 * j) 1) 1).toNat) (by omega) (by omega) dX10_decryptBlock_909 ?_
        refine lv_eqi (y := (Tiw (six (byI (dS KC kw (xw0 bi io kw (KC + 6)) (2 * j) 1) 1)))) (tTi_at _) ?_
        refine lv_bipush (v := nI 24) hx hb dX10_decryptBlock_910 (by decide) ?_
        refine xr_callS0 (n := 2) (rest := [.int (Tiw (six (byI (dS KC kw (xw0 bi io kw (KC + 6)) (2 * j) 2) 0)))]) C w (met_X10_shift l G s.heap.size (Tiw (six (byI (dS KC kw (xw0 bi io kw (KC + 6)) (2 * j) 1) 1))) (nI 24) ) q434 q435 q19 q436 (by decide +kernel) ⟨rfl, rfl, by decide, by decide⟩ (fun _ _ _ _ h => h) (fun U hU hW => trivial) rfl hl.1 rfl (Nat.le_of_ble_eq_true rfl) dX10_decryptBlock_912 ⟨by decide, by decide⟩ (fun v hp => ?_)
        subst hp
        refine lv_ixor hx hb dX10_decryptBlock_915 ?_
        refine xr_gets C w hz_Tinv0 q588 dX10_decryptBlock_916 ?_
        refine lv_iload hx hb dX10_decryptBlock_919 (lv_at hl 6 rfl) ?_
        refine lv_bipush (v := nI 16) hx hb dX10_decryptBlock_921 (by decide) ?_
        refine lv_ishr hx hb dX10_decryptBlock_923 ?_
        refine lv_sipush (v := nI 255) hx hb dX10_decryptBlock_924 (by decide) ?_
        refine lv_iand hx hb dX10_decryptBlock_927 ?_
        refine lv_eqi (y := nI (byI (dS KC kw (xw0 bi io kw (KC + 6)) (2 * j) 0) 2).toNat) (ix_sh (dS KC kw (xw0 bi io kw (KC + 6)) (2 * j) 0) 2 (by decide)) ?_
        refine xr_tiald C w ha_Tinv0 (i := (byI (dS KC kw (xw0 bi io kw (KC + 6)) (2 * j) 0) 2).toNat) (by omega) (by omega) dX10_decryptBlock_928 ?_
        refine lv_eqi (y := (Tiw (six (byI (dS KC kw (xw0 bi io kw (KC + 6)) (2 * j) 0) 2)))) (tTi_at _) ?_
        refine lv_bipush (v := nI 16) hx hb dX10_decryptBlock_929 (by decide) ?_
        refine xr_callS0 (n := 2) (rest := [.int ((Tiw (six (byI (dS KC kw (xw0 bi io kw (KC + 6)) (2 * j) 2) 0))) ^^^ (shf (Tiw (six (byI (dS KC kw (xw0 bi io kw (KC + 6)) (2 * j) 1) 1))) (nI 24)))]) C w (met_X10_shift l G s.heap.size (Tiw (six (byI (dS KC kw (xw0 bi io kw (KC + 6)) (2 * j) 0) 2))) (nI 16) ) q434 q435 q19 q436 (by decide +kernel) ⟨rfl, rfl, by decide, by decide⟩ (fun _ _ _ _ h => h) (fun U hU hW => trivial) rfl hl.1 rfl (Nat.le_of_ble_eq_true rfl) dX10_decryptBlock_931 ⟨by decide, by decide⟩ (fun v hp => ?_)
        subst hp
        refine lv_ixor hx hb dX10_decryptBlock_934 ?_
        refine xr_gets C w hz_Tinv0 q588 dX10_decryptBlock_935 ?_
        refine lv_iload hx hb dX10_decryptBlock_938 (lv_at hl 9 rfl) ?_
        refine lv_bipush (v := nI 24) hx hb dX10_decryptBlock_940 (by decide) ?_
        refine lv_ishr hx hb dX10_decryptBlock_942 ?_
        refine lv_sipush (v := nI 255) hx hb dX10_decryptBlock_943 (by decide) ?_
        refine lv_iand hx hb dX10_decryptBlock_946 ?_
        refine lv_eqi (y := nI (byI (dS KC kw (xw0 bi io kw (KC + 6)) (2 * j) 3) 3).toNat) (ix_sh (dS KC kw (xw0 bi io kw (KC + 6)) (2 * j) 3) 3 (by decide)) ?_
        refine xr_tiald C w ha_Tinv0 (i := (byI (dS KC kw (xw0 bi io kw (KC + 6)) (2 * j) 3) 3).toNat) (by omega) (by omega) dX10_decryptBlock_947 ?_
        refine lv_eqi (y := (Tiw (six (byI (dS KC kw (xw0 bi io kw (KC + 6)) (2 * j) 3) 3)))) (tTi_at _) ?_
        refine lv_bipush (v := nI 8) hx hb dX10_decryptBlock_948 (by decide) ?_
        refine xr_callS0 (n := 2) (rest := [.int (((Tiw (six (byI (dS KC kw (xw0 bi io kw (KC + 6)) (2 * j) 2) 0))) ^^^ (shf (Tiw (six (byI (dS KC kw (xw0 bi io kw (KC + 6)) (2 * j) 1) 1))) (nI 24))) ^^^ (shf (Tiw (six (byI (dS KC kw (xw0 bi io kw (KC + 6)) (2 * j) 0) 2))) (nI 16)))]) C w (met_X10_shift l G s.heap.size (Tiw (six (byI (dS KC kw (xw0 bi io kw (KC + 6)) (2 * j) 3) 3))) (nI 8) ) q434 q435 q19 q436 (by decide +kernel) ⟨rfl, rfl, by decide, by decide⟩ (fun _ _ _ _ h => h) (fun U hU hW => trivial) rfl hl.1 rfl (Nat.le_of_ble_eq_true rfl) dX10_decryptBlock_950 ⟨by decide, by decide⟩ (fun v hp => ?_)
        subst hp
        refine lv_ixor hx hb dX10_decryptBlock_953 ?_
        refine lv_aload hx hb dX10_decryptBlock_954 (lv_at hl 5 rfl) ?_
        refine lv_iload hx hb dX10_decryptBlock_956 (lv_at hl 10 rfl) ?_
        refine xr_aald C (i := KC + 5 - 2 * j) hKW.1 (by omega) (by omega) dX10_decryptBlock_958 ?_
        refine lv_eqr (v' := .ref (ad (KC + 5 - 2 * j))) rfl ?_
        refine lv_iconst (v := nI 2) hx hb dX10_decryptBlock_959 (by decide) ?_
        refine xr_iald C (i := 2) (hKW.2 (KC + 5 - 2 * j) (by omega)) (by omega) (by omega) dX10_decryptBlock_960 ?_
        refine lv_ixor hx hb dX10_decryptBlock_961 ?_
        refine lv_eqi (y := (dS KC kw (xw0 bi io kw (KC + 6)) (KC + 5) 2)) (dS_f2 (r := 2 * j) (by omega) (by omega)) ?_
        refine lv_istore (lv' := [(16, .int (dS KC kw (xw0 bi io kw (KC + 6)) (KC + 5) 2)), (15, .int (dS KC kw (xw0 bi io kw (KC + 6)) (KC + 5) 1)), (14, .int (dS KC kw (xw0 bi io kw (KC + 6)) (KC + 5) 0)), (0, .ref h), (3, .ref ho), (4, .int (nI oo)), (5, .ref wa), (10, .int (dS KC kw (xw0 bi io kw (KC + 6)) (2 * j) 0)), (11, .int (dS KC kw (xw0 bi io kw (KC + 6)) (2 * j) 1)), (12, .int (dS KC kw (xw0 bi io kw (KC + 6)) (2 * j) 2)), (17, .int (dS KC kw (xw0 bi io kw (KC + 6)) (2 * j) 3)), (13, .int (nI (KC + 5 - 2 * j)))]) hx hb dX10_decryptBlock_962 hl (by decide) rfl (fun ls hl => ?_)
        refine xr_gets C w hz_Tinv0 q588 dX10_decryptBlock_964 ?_
        refine lv_iload hx hb dX10_decryptBlock_967 (lv_at hl 10 rfl) ?_
        refine lv_sipush (v := nI 255) hx hb dX10_decryptBlock_969 (by decide) ?_
        refine lv_iand hx hb dX10_decryptBlock_972 ?_
        refine lv_eqi (y := nI (byI (dS KC kw (xw0 bi io kw (KC + 6)) (2 * j) 3) 0).toNat) (ix_and (dS KC kw (xw0 bi io kw (KC + 6)) (2 * j) 3)) ?_
        refine xr_tiald C w ha_Tinv0 (i := (byI (dS KC kw (xw0 bi io kw (KC + 6)) (2 * j) 3) 0).toNat) (by omega) (by omega) dX10_decryptBlock_973 ?_
        refine lv_eqi (y := (Tiw (six (byI (dS KC kw (xw0 bi io kw (KC + 6)) (2 * j) 3) 0)))) (tTi_at _) ?_
        refine xr_gets C w hz_Tinv0 q588 dX10_decryptBlock_974 ?_
        refine lv_iload hx hb dX10_decryptBlock_977 (lv_at hl 9 rfl) ?_
        refine lv_bipush (v := nI 8) hx hb dX10_decryptBlock_979 (by decide) ?_
        refine lv_ishr hx hb dX10_decryptBlock_981 ?_
        refine lv_sipush (v := nI 255) hx hb dX10_decryptBlock_982 (by decide) ?_
        refine lv_iand hx hb dX10_decryptBlock_985 ?_
        refine lv_eqi (y := nI (byI (dS KC kw (xw0 bi io kw (KC + 6)) (2 * j) 2) 1).toNat) (ix_sh (dS KC kw (xw0 bi io kw (KC + 6)) (2 * j) 2) 1 (by decide)) ?_
        refine xr_tiald C w ha_Tinv0 (i := (byI (dS KC kw (xw0 bi io kw (KC + 6)) (2 * j) 2) 1).toNat) (by omega) (by omega) dX10_decryptBlock_986 ?_
        refine lv_eqi (y := (Tiw (six (byI (dS KC kw (xw0 bi io kw (KC + 6)) (2 * j) 2) 1)))) (tTi_at _) ?_
        refine lv_bipush (v := nI 24) hx hb dX10_decryptBlock_987 (by decide) ?_
        refine xr_callS0 (n := 2) (rest := [.int (Tiw (six (byI (dS KC kw (xw0 bi io kw (KC + 6)) (2 * j) 3) 0)))]) C w (met_X10_shift l G s.heap.size (Tiw (six (byI (dS KC kw (xw0 bi io kw (KC + 6)) (2 * j) 2) 1))) (nI 24) ) q434 q435 q19 q436 (by decide +kernel) ⟨rfl, rfl, by decide, by decide⟩ (fun _ _ _ _ h => h) (fun U hU hW => trivial) rfl hl.1 rfl (Nat.le_of_ble_eq_true rfl) dX10_decryptBlock_989 ⟨by decide, by decide⟩ (fun v hp => ?_)
        subst hp
        refine lv_ixor hx hb dX10_decryptBlock_992 ?_
        refine xr_gets C w hz_Tinv0 q588 dX10_decryptBlock_993 ?_
        refine lv_iload hx hb dX10_decryptBlock_996 (lv_at hl 8 rfl) ?_
        refine lv_bipush (v := nI 16) hx hb dX10_decryptBlock_998 (by decide) ?_
        refine lv_ishr hx hb dX10_decryptBlock_1000 ?_
        refine lv_sipush (v := nI 255) hx hb dX10_decryptBlock_1001 (by decide) ?_
        refine lv_iand hx hb dX10_decryptBlock_1004 ?_
        refine lv_eqi (y := nI (byI (dS KC kw (xw0 bi io kw (KC + 6)) (2 * j) 1) 2).toNat) (ix_sh (dS KC kw (xw0 bi io kw (KC + 6)) (2 * j) 1) 2 (by decide)) ?_
        refine xr_tiald C w ha_Tinv0 (i := (byI (dS KC kw (xw0 bi io kw (KC + 6)) (2 * j) 1) 2).toNat) (by omega) (by omega) dX10_decryptBlock_1005 ?_
        refine lv_eqi (y := (Tiw (six (byI (dS KC kw (xw0 bi io kw (KC + 6)) (2 * j) 1) 2)))) (tTi_at _) ?_
        refine lv_bipush (v := nI 16) hx hb dX10_decryptBlock_1006 (by decide) ?_
        refine xr_callS0 (n := 2) (rest := [.int ((Tiw (six (byI (dS KC kw (xw0 bi io kw (KC + 6)) (2 * j) 3) 0))) ^^^ (shf (Tiw (six (byI (dS KC kw (xw0 bi io kw (KC + 6)) (2 * j) 2) 1))) (nI 24)))]) C w (met_X10_shift l G s.heap.size (Tiw (six (byI (dS KC kw (xw0 bi io kw (KC + 6)) (2 * j) 1) 2))) (nI 16) ) q434 q435 q19 q436 (by decide +kernel) ⟨rfl, rfl, by decide, by decide⟩ (fun _ _ _ _ h => h) (fun U hU hW => trivial) rfl hl.1 rfl (Nat.le_of_ble_eq_true rfl) dX10_decryptBlock_1008 ⟨by decide, by decide⟩ (fun v hp => ?_)
        subst hp
        refine lv_ixor hx hb dX10_decryptBlock_1011 ?_
        refine xr_gets C w hz_Tinv0 q588 dX10_decryptBlock_1012 ?_
        refine lv_iload hx hb dX10_decryptBlock_1015 (lv_at hl 7 rfl) ?_
        refine lv_bipush (v := nI 24) hx hb dX10_decryptBlock_1017 (by decide) ?_
        refine lv_ishr hx hb dX10_decryptBlock_1019 ?_
        refine lv_sipush (v := nI 255) hx hb dX10_decryptBlock_1020 (by decide) ?_
        refine lv_iand hx hb dX10_decryptBlock_1023 ?_
        refine lv_eqi (y := nI (byI (dS KC kw (xw0 bi io kw (KC + 6)) (2 * j) 0) 3).toNat) (ix_sh (dS KC kw (xw0 bi io kw (KC + 6)) (2 * j) 0) 3 (by decide)) ?_
        refine xr_tiald C w ha_Tinv0 (i := (byI (dS KC kw (xw0 bi io kw (KC + 6)) (2 * j) 0) 3).toNat) (by omega) (by omega) dX10_decryptBlock_1024 ?_
        refine lv_eqi (y := (Tiw (six (byI (dS KC kw (xw0 bi io kw (KC + 6)) (2 * j) 0) 3)))) (tTi_at _) ?_
        refine lv_bipush (v := nI 8) hx hb dX10_decryptBlock_1025 (by decide) ?_
        refine xr_callS0 (n := 2) (rest := [.int (((Tiw (six (byI (dS KC kw (xw0 bi io kw (KC + 6)) (2 * j) 3) 0))) ^^^ (shf (Tiw (six (byI (dS KC kw (xw0 bi io kw (KC + 6)) (2 * j) 2) 1))) (nI 24))) ^^^ (shf (Tiw (six (byI (dS KC kw (xw0 bi io kw (KC + 6)) (2 * j) 1) 2))) (nI 16)))]) C w (met_X10_shift l G s.heap.size (Tiw (six (byI (dS KC kw (xw0 bi io kw (KC + 6)) (2 * j) 0) 3))) (nI 8) ) q434 q435 q19 q436 (by decide +kernel) ⟨rfl, rfl, by decide, by decide⟩ (fun _ _ _ _ h => h) (fun U hU hW => trivial) rfl hl.1 rfl (Nat.le_of_ble_eq_true rfl) dX10_decryptBlock_1027 ⟨by decide, by decide⟩ (fun v hp => ?_)
        subst hp
        refine lv_ixor hx hb dX10_decryptBlock_1030 ?_
        refine lv_aload hx hb dX10_decryptBlock_1031 (lv_at hl 6 rfl) ?_
        refine lv_iload hx hb dX10_decryptBlock_1033 (lv_at hl 11 rfl) ?_
        refine xr_aald C (i := KC + 5 - 2 * j) hKW.1 (by omega) (by omega) dX10_decryptBlock_1035 ?_
        refine lv_eqr (v' := .ref (ad (KC + 5 - 2 * j))) rfl ?_
        refine lv_iconst (v := nI 3) hx hb dX10_decryptBlock_1036 (by decide) ?_
        refine xr_iald C (i := 3) (hKW.2 (KC + 5 - 2 * j) (by omega)) (by omega) (by omega) dX10_decryptBlock_1037 ?_
        refine lv_ixor hx hb dX10_decryptBlock_1038 ?_
        refine lv_eqi (y := (dS KC kw (xw0 bi io kw (KC + 6)) (KC + 5) 3)) (dS_f3 (r := 2 * j) (by omega) (by omega)) ?_
        refine lv_istore (lv' := [(17, .int (dS KC kw (xw0 bi io kw (KC + 6)) (KC + 5) 3)), (16, .int (dS KC kw (xw0 bi io kw (KC + 6)) (KC + 5) 2)), (15, .int (dS KC kw (xw0 bi io kw (KC + 6)) (KC + 5) 1)), (14, .int (dS KC kw (xw0 bi io kw (KC + 6)) (KC + 5) 0)), (0, .ref h), (3, .ref ho), (4, .int (nI oo)), (5, .ref wa), (10, .int (dS KC kw (xw0 bi io kw (KC + 6)) (2 * j) 0)), (11, .int (dS KC kw (xw0 bi io kw (KC + 6)) (2 * j) 1)), (12, .int (dS KC kw (xw0 bi io kw (KC + 6)) (2 * j) 2)), (13, .int (nI (KC + 5 - 2 * j)))]) hx hb dX10_decryptBlock_1039 hl (by decide) rfl (fun ls hl => ?_)
        refine xr_gets C w hz_Si q470 dX10_decryptBlock_1041 ?_
        refine lv_iload hx hb dX10_decryptBlock_1044 (lv_at hl 3 rfl) ?_
        refine lv_sipush (v := nI 255) hx hb dX10_decryptBlock_1046 (by decide) ?_
        refine lv_iand hx hb dX10_decryptBlock_1049 ?_
        refine lv_eqi (y := nI (byI (dS KC kw (xw0 bi io kw (KC + 6)) (KC + 5) 0) 0).toNat) (ix_and (dS KC kw (xw0 bi io kw (KC + 6)) (KC + 5) 0)) ?_
        refine xr_tbald C w ha_Si (i := (byI (dS KC kw (xw0 bi io kw (KC + 6)) (KC + 5) 0) 0).toNat) (by omega) (by omega) dX10_decryptBlock_1050 ?_
        refine lv_eqi (y := (sB (six (byI (dS KC kw (xw0 bi io kw (KC + 6)) (KC + 5) 0) 0)))) (tSi_at _) ?_
        refine lv_sipush (v := nI 255) hx hb dX10_decryptBlock_1051 (by decide) ?_
        refine lv_iand hx hb dX10_decryptBlock_1054 ?_
        refine lv_eqi (y := uB (six (byI (dS KC kw (xw0 bi io kw (KC + 6)) (KC + 5) 0) 0))) (sB_and _) ?_
        refine lv_aload_n hx hb dX10_decryptBlock_1055 rfl (lv_at hl 4 rfl) ?_
        refine xr_get (ci := 6) (v := .ref hs) (Cn := RX10) (T := TX10) (N := 4) C hR0 in_X10 rfl 3 (by decide) q142 (fun _ h => h) rfl dX10_decryptBlock_1056 ?_
        refine lv_iload hx hb dX10_decryptBlock_1059 (lv_at hl 0 rfl) ?_
        refine lv_bipush (v := nI 8) hx hb dX10_decryptBlock_1061 (by decide) ?_
        refine lv_ishr hx hb dX10_decryptBlock_1063 ?_
        refine lv_sipush (v := nI 255) hx hb dX10_decryptBlock_1064 (by decide) ?_
        refine lv_iand hx hb dX10_decryptBlock_1067 ?_
        refine lv_eqi (y := nI (byI (dS KC kw (xw0 bi io kw (KC + 6)) (KC + 5) 3) 1).toNat) (ix_sh (dS KC kw (xw0 bi io kw (KC + 6)) (KC + 5) 3) 1 (by decide)) ?_
        refine xr_bald C (i := (byI (dS KC kw (xw0 bi io kw (KC + 6)) (KC + 5) 3) 1).toNat) hR1 (by omega) (by omega) dX10_decryptBlock_1068 ?_
        refine lv_eqi (y := (sB (six (byI (dS KC kw (xw0 bi io kw (KC + 6)) (KC + 5) 3) 1)))) (siF_at _) ?_
        refine lv_sipush (v := nI 255) hx hb dX10_decryptBlock_1069 (by decide) ?_
        refine lv_iand hx hb dX10_decryptBlock_1072 ?_
        refine lv_eqi (y := uB (six (byI (dS KC kw (xw0 bi io kw (KC + 6)) (KC + 5) 3) 1))) (sB_and _) ?_
        refine lv_bipush (v := nI 8) hx hb dX10_decryptBlock_1073 (by decide) ?_
        refine lv_ishl hx hb dX10_decryptBlock_1075 ?_
        refine lv_ixor hx hb dX10_decryptBlock_1076 ?_
        refine lv_aload_n hx hb dX10_decryptBlock_1077 rfl (lv_at hl 4 rfl) ?_
        refine xr_get (ci := 6) (v := .ref hs) (Cn := RX10) (T := TX10) (N := 4) C hR0 in_X10 rfl 3 (by decide) q142 (fun _ h => h) rfl dX10_decryptBlock_1078 ?_
        refine lv_iload hx hb dX10_decryptBlock_1081 (lv_at hl 1 rfl) ?_
        refine lv_bipush (v := nI 16) hx hb dX10_decryptBlock_1083 (by decide) ?_
        refine lv_ishr hx hb dX10_decryptBlock_1085 ?_
        refine lv_sipush (v := nI 255) hx hb dX10_decryptBlock_1086 (by decide) ?_
        refine lv_iand hx hb dX10_decryptBlock_1089 ?_
        refine lv_eqi (y := nI (byI (dS KC kw (xw0 bi io kw (KC + 6)) (KC + 5) 2) 2).toNat) (ix_sh (dS KC kw (xw0 bi io kw (KC + 6)) (KC + 5) 2) 2 (by decide)) ?_
        refine xr_bald C (i := (byI (dS KC kw (xw0 bi io kw (KC + 6)) (KC + 5) 2) 2).toNat) hR1 (by omega) (by omega) dX10_decryptBlock_1090 ?_
        refine lv_eqi (y := (sB (six (byI (dS KC kw (xw0 bi io kw (KC + 6)) (KC + 5) 2) 2)))) (siF_at _) ?_
        refine lv_sipush (v := nI 255) hx hb dX10_decryptBlock_1091 (by decide) ?_
        refine lv_iand hx hb dX10_decryptBlock_1094 ?_
        refine lv_eqi (y := uB (six (byI (dS KC kw (xw0 bi io kw (KC + 6)) (KC + 5) 2) 2))) (sB_and _) ?_
        refine lv_bipush (v := nI 16) hx hb dX10_decryptBlock_1095 (by decide) ?_
        refine lv_ishl hx hb dX10_decryptBlock_1097 ?_
        refine lv_ixor hx hb dX10_decryptBlock_1098 ?_
        refine xr_gets C w hz_Si q470 dX10_decryptBlock_1099 ?_
        refine lv_iload hx hb dX10_decryptBlock_1102 (lv_at hl 2 rfl) ?_
        refine lv_bipush (v := nI 24) hx hb dX10_decryptBlock_1104 (by decide) ?_
        refine lv_ishr hx hb dX10_decryptBlock_1106 ?_
        refine lv_sipush (v := nI 255) hx hb dX10_decryptBlock_1107 (by decide) ?_
        refine lv_iand hx hb dX10_decryptBlock_1110 ?_
        refine lv_eqi (y := nI (byI (dS KC kw (xw0 bi io kw (KC + 6)) (KC + 5) 1) 3).toNat) (ix_sh (dS KC kw (xw0 bi io kw (KC + 6)) (KC + 5) 1) 3 (by decide)) ?_
        refine xr_tbald C w ha_Si (i := (byI (dS KC kw (xw0 bi io kw (KC + 6)) (KC + 5) 1) 3).toNat) (by omega) (by omega) dX10_decryptBlock_1111 ?_
        refine lv_eqi (y := (sB (six (byI (dS KC kw (xw0 bi io kw (KC + 6)) (KC + 5) 1) 3)))) (tSi_at _) ?_
        refine lv_bipush (v := nI 24) hx hb dX10_decryptBlock_1112 (by decide) ?_
        refine lv_ishl hx hb dX10_decryptBlock_1114 ?_
        refine lv_ixor hx hb dX10_decryptBlock_1115 ?_
        refine lv_eqi (y := (wI (six (byI (dS KC kw (xw0 bi io kw (KC + 6)) (KC + 5) 0) 0)) (six (byI (dS KC kw (xw0 bi io kw (KC + 6)) (KC + 5) 3) 1)) (six (byI (dS KC kw (xw0 bi io kw (KC + 6)) (KC + 5) 2) 2)) (six (byI (dS KC kw (xw0 bi io kw (KC + 6)) (KC + 5) 1) 3)))) (mk_xor _ _ _ _) ?_
        refine lv_aload hx hb dX10_decryptBlock_1116 (lv_at hl 7 rfl) ?_
        refine lv_iconst (v := nI 0) hx hb dX10_decryptBlock_1118 (by decide) ?_
        refine xr_aald C (i := 0) hKW.1 (by omega) (by omega) dX10_decryptBlock_1119 ?_
        refine lv_eqr (v' := .ref (ad 0)) rfl ?_
        refine lv_iconst (v := nI 0) hx hb dX10_decryptBlock_1120 (by decide) ?_
        refine xr_iald C (i := 0) (hKW.2 (0) (by omega)) (by omega) (by omega) dX10_decryptBlock_1121 ?_
        refine lv_ixor hx hb dX10_decryptBlock_1122 ?_
        refine lv_eqi (y := (dO KC kw (xw0 bi io kw (KC + 6)) 0)) (rfl) ?_
        refine lv_istore (lv' := [(6, .int (dO KC kw (xw0 bi io kw (KC + 6)) 0)), (17, .int (dS KC kw (xw0 bi io kw (KC + 6)) (KC + 5) 3)), (16, .int (dS KC kw (xw0 bi io kw (KC + 6)) (KC + 5) 2)), (15, .int (dS KC kw (xw0 bi io kw (KC + 6)) (KC + 5) 1)), (14, .int (dS KC kw (xw0 bi io kw (KC + 6)) (KC + 5) 0)), (0, .ref h), (3, .ref ho), (4, .int (nI oo)), (5, .ref wa), (10, .int (dS KC kw (xw0 bi io kw (KC + 6)) (2 * j) 0)), (11, .int (dS KC kw (xw0 bi io kw (KC + 6)) (2 * j) 1)), (12, .int (dS KC kw (xw0 bi io kw (KC + 6)) (2 * j) 2)), (13, .int (nI (KC + 5 - 2 * j)))]) hx hb dX10_decryptBlock_1123 hl (by decide) rfl (fun ls hl => ?_)
        refine lv_aload_n hx hb dX10_decryptBlock_1125 rfl (lv_at hl 5 rfl) ?_
        refine xr_get (ci := 6) (v := .ref hs) (Cn := RX10) (T := TX10) (N := 4) C hR0 in_X10 rfl 3 (by decide) q142 (fun _ h => h) rfl dX10_decryptBlock_1126 ?_
        refine lv_iload hx hb dX10_decryptBlock_1129 (lv_at hl 3 rfl) ?_
        refine lv_sipush (v := nI 255) hx hb dX10_decryptBlock_1131 (by decide) ?_
        refine lv_iand hx hb dX10_decryptBlock_1134 ?_
        refine lv_eqi (y := nI (byI (dS KC kw (xw0 bi io kw (KC + 6)) (KC + 5) 1) 0).toNat) (ix_and (dS KC kw (xw0 bi io kw (KC + 6)) (KC + 5) 1)) ?_
        refine xr_bald C (i := (byI (dS KC kw (xw0 bi io kw (KC + 6)) (KC + 5) 1) 0).toNat) hR1 (by omega) (by omega) dX10_decryptBlock_1135 ?_
        refine lv_eqi (y := (sB (six (byI (dS KC kw (xw0 bi io kw (KC + 6)) (KC + 5) 1) 0)))) (siF_at _) ?_
        refine lv_sipush (v := nI 255) hx hb dX10_decryptBlock_1136 (by decide) ?_
        refine lv_iand hx hb dX10_decryptBlock_1139 ?_
        refine lv_eqi (y := uB (six (byI (dS KC kw (xw0 bi io kw (KC + 6)) (KC + 5) 1) 0))) (sB_and _) ?_
        refine lv_aload_n hx hb dX10_decryptBlock_1140 rfl (lv_at hl 5 rfl) ?_
        refine xr_get (ci := 6) (v := .ref hs) (Cn := RX10) (T := TX10) (N := 4) C hR0 in_X10 rfl 3 (by decide) q142 (fun _ h => h) rfl dX10_decryptBlock_1141 ?_
        refine lv_iload hx hb dX10_decryptBlock_1144 (lv_at hl 4 rfl) ?_
        refine lv_bipush (v := nI 8) hx hb dX10_decryptBlock_1146 (by decide) ?_
        refine lv_ishr hx hb dX10_decryptBlock_1148 ?_
        refine lv_sipush (v := nI 255) hx hb dX10_decryptBlock_1149 (by decide) ?_
        refine lv_iand hx hb dX10_decryptBlock_1152 ?_
        refine lv_eqi (y := nI (byI (dS KC kw (xw0 bi io kw (KC + 6)) (KC + 5) 0) 1).toNat) (ix_sh (dS KC kw (xw0 bi io kw (KC + 6)) (KC + 5) 0) 1 (by decide)) ?_
        refine xr_bald C (i := (byI (dS KC kw (xw0 bi io kw (KC + 6)) (KC + 5) 0) 1).toNat) hR1 (by omega) (by omega) dX10_decryptBlock_1153 ?_
        refine lv_eqi (y := (sB (six (byI (dS KC kw (xw0 bi io kw (KC + 6)) (KC + 5) 0) 1)))) (siF_at _) ?_
        refine lv_sipush (v := nI 255) hx hb dX10_decryptBlock_1154 (by decide) ?_
        refine lv_iand hx hb dX10_decryptBlock_1157 ?_
        refine lv_eqi (y := uB (six (byI (dS KC kw (xw0 bi io kw (KC + 6)) (KC + 5) 0) 1))) (sB_and _) ?_
        refine lv_bipush (v := nI 8) hx hb dX10_decryptBlock_1158 (by decide) ?_
        refine lv_ishl hx hb dX10_decryptBlock_1160 ?_
        refine lv_ixor hx hb dX10_decryptBlock_1161 ?_
        refine xr_gets C w hz_Si q470 dX10_decryptBlock_1162 ?_
        refine lv_iload hx hb dX10_decryptBlock_1165 (lv_at hl 1 rfl) ?_
        refine lv_bipush (v := nI 16) hx hb dX10_decryptBlock_1167 (by decide) ?_
        refine lv_ishr hx hb dX10_decryptBlock_1169 ?_
        refine lv_sipush (v := nI 255) hx hb dX10_decryptBlock_1170 (by decide) ?_
        refine lv_iand hx hb dX10_decryptBlock_1173 ?_
        refine lv_eqi (y := nI (byI (dS KC kw (xw0 bi io kw (KC + 6)) (KC + 5) 3) 2).toNat) (ix_sh (dS KC kw (xw0 bi io kw (KC + 6)) (KC + 5) 3) 2 (by decide)) ?_
        refine xr_tbald C w ha_Si (i := (byI (dS KC kw (xw0 bi io kw (KC + 6)) (KC + 5) 3) 2).toNat) (by omega) (by omega) dX10_decryptBlock_1174 ?_
        refine lv_eqi (y := (sB (six (byI (dS KC kw (xw0 bi io kw (KC + 6)) (KC + 5) 3) 2)))) (tSi_at _) ?_
        refine lv_sipush (v := nI 255) hx hb dX10_decryptBlock_1175 (by decide) ?_
        refine lv_iand hx hb dX10_decryptBlock_1178 ?_
        refine lv_eqi (y := uB (six (byI (dS KC kw (xw0 bi io kw (KC + 6)) (KC + 5) 3) 2))) (sB_and _) ?_
        refine lv_bipush (v := nI 16) hx hb dX10_decryptBlock_1179 (by decide) ?_
        refine lv_ishl hx hb dX10_decryptBlock_1181 ?_
        refine lv_ixor hx hb dX10_decryptBlock_1182 ?_
        refine lv_aload_n hx hb dX10_decryptBlock_1183 rfl (lv_at hl 5 rfl) ?_
        refine xr_get (ci := 6) (v := .ref hs) (Cn := RX10) (T := TX10) (N := 4) C hR0 in_X10 rfl 3 (by decide) q142 (fun _ h => h) rfl dX10_decryptBlock_1184 ?_
        refine lv_iload hx hb dX10_decryptBlock_1187 (lv_at hl 2 rfl) ?_
        refine lv_bipush (v := nI 24) hx hb dX10_decryptBlock_1189 (by decide) ?_
        refine lv_ishr hx hb dX10_decryptBlock_1191 ?_
        refine lv_sipush (v := nI 255) hx hb dX10_decryptBlock_1192 (by decide) ?_
        refine lv_iand hx hb dX10_decryptBlock_1195 ?_
        refine lv_eqi (y := nI (byI (dS KC kw (xw0 bi io kw (KC + 6)) (KC + 5) 2) 3).toNat) (ix_sh (dS KC kw (xw0 bi io kw (KC + 6)) (KC + 5) 2) 3 (by decide)) ?_
        refine xr_bald C (i := (byI (dS KC kw (xw0 bi io kw (KC + 6)) (KC + 5) 2) 3).toNat) hR1 (by omega) (by omega) dX10_decryptBlock_1196 ?_
        refine lv_eqi (y := (sB (six (byI (dS KC kw (xw0 bi io kw (KC + 6)) (KC + 5) 2) 3)))) (siF_at _) ?_
        refine lv_bipush (v := nI 24) hx hb dX10_decryptBlock_1197 (by decide) ?_
        refine lv_ishl hx hb dX10_decryptBlock_1199 ?_
        refine lv_ixor hx hb dX10_decryptBlock_1200 ?_
        refine lv_eqi (y := (wI (six (byI (dS KC kw (xw0 bi io kw (KC + 6)) (KC + 5) 1) 0)) (six (byI (dS KC kw (xw0 bi io kw (KC + 6)) (KC + 5) 0) 1)) (six (byI (dS KC kw (xw0 bi io kw (KC + 6)) (KC + 5) 3) 2)) (six (byI (dS KC kw (xw0 bi io kw (KC + 6)) (KC + 5) 2) 3)))) (mk_xor _ _ _ _) ?_
        refine lv_aload hx hb dX10_decryptBlock_1201 (lv_at hl 8 rfl) ?_
        refine lv_iconst (v := nI 0) hx hb dX10_decryptBlock_1203 (by decide) ?_
        refine xr_aald C (i := 0) hKW.1 (by omega) (by omega) dX10_decryptBlock_1204 ?_
        refine lv_eqr (v' := .ref (ad 0)) rfl ?_
        refine lv_iconst (v := nI 1) hx hb dX10_decryptBlock_1205 (by decide) ?_
        refine xr_iald C (i := 1) (hKW.2 (0) (by omega)) (by omega) (by omega) dX10_decryptBlock_1206 ?_
        refine lv_ixor hx hb dX10_decryptBlock_1207 ?_
        refine lv_eqi (y := (dO KC kw (xw0 bi io kw (KC + 6)) 1)) (rfl) ?_
        refine lv_istore (lv' := [(7, .int (dO KC kw (xw0 bi io kw (KC + 6)) 1)), (6, .int (dO KC kw (xw0 bi io kw (KC + 6)) 0)), (17, .int (dS KC kw (xw0 bi io kw (KC + 6)) (KC + 5) 3)), (16, .int (dS KC kw (xw0 bi io kw (KC + 6)) (KC + 5) 2)), (15, .int (dS KC kw (xw0 bi io kw (KC + 6)) (KC + 5) 1)), (14, .int (dS KC kw (xw0 bi io kw (KC + 6)) (KC + 5) 0)), (0, .ref h), (3, .ref ho), (4, .int (nI oo)), (5, .ref wa), (10, .int (dS KC kw (xw0 bi io kw (KC + 6)) (2 * j) 0)), (11, .int (dS KC kw (xw0 bi io kw (KC + 6)) (2 * j) 1)), (12, .int (dS KC kw (xw0 bi io kw (KC + 6)) (2 * j) 2)), (13, .int (nI (KC + 5 - 2 * j)))]) hx hb dX10_decryptBlock_1208 hl (by decide) rfl (fun ls hl => ?_)
        refine lv_aload_n hx hb dX10_decryptBlock_1210 rfl (lv_at hl 6 rfl) ?_
        refine xr_get (ci := 6) (v := .ref hs) (Cn := RX10) (T := TX10) (N := 4) C hR0 in_X10 rfl 3 (by decide) q142 (fun _ h => h) rfl dX10_decryptBlock_1211 ?_
        refine lv_iload hx hb dX10_decryptBlock_1214 (lv_at hl 3 rfl) ?_
        refine lv_sipush (v := nI 255) hx hb dX10_decryptBlock_1216 (by decide) ?_
        refine lv_iand hx hb dX10_decryptBlock_1219 ?_
        refine lv_eqi (y := nI (byI (dS KC kw (xw0 bi io kw (KC + 6)) (KC + 5) 2) 0).toNat) (ix_and (dS KC kw (xw0 bi io kw (KC + 6)) (KC + 5) 2)) ?_
        refine xr_bald C (i := (byI (dS KC kw (xw0 bi io kw (KC + 6)) (KC + 5) 2) 0).toNat) hR1 (by omega) (by omega) dX10_decryptBlock_1220 ?_
        refine lv_eqi (y := (sB (six (byI (dS KC kw (xw0 bi io kw (KC + 6)) (KC + 5) 2) 0)))) (siF_at _) ?_
        refine lv_sipush (v := nI 255) hx hb dX10_decryptBlock_1221 (by decide) ?_
        refine lv_iand hx hb dX10_decryptBlock_1224 ?_
        refine lv_eqi (y := uB (six (byI (dS KC kw (xw0 bi io kw (KC + 6)) (KC + 5) 2) 0))) (sB_and _) ?_
        refine xr_gets C w hz_Si q470 dX10_decryptBlock_1225 ?_
        refine lv_iload hx hb dX10_decryptBlock_1228 (lv_at hl 4 rfl) ?_
        refine lv_bipush (v := nI 8) hx hb dX10_decryptBlock_1230 (by decide) ?_
        refine lv_ishr hx hb dX10_decryptBlock_1232 ?_
        refine lv_sipush (v := nI 255) hx hb dX10_decryptBlock_1233 (by decide) ?_
        refine lv_iand hx hb dX10_decryptBlock_1236 ?_
        refine lv_eqi (y := nI (byI (dS KC kw (xw0 bi io kw (KC + 6)) (KC + 5) 1) 1).toNat) (ix_sh (dS KC kw (xw0 bi io kw (KC + 6)) (KC + 5) 1) 1 (by decide)) ?_
        refine xr_tbald C w ha_Si (i := (byI (dS KC kw (xw0 bi io kw (KC + 6)) (KC + 5) 1) 1).toNat) (by omega) (by omega) dX10_decryptBlock_1237 ?_
        refine lv_eqi (y := (sB (six (byI (dS KC kw (xw0 bi io kw (KC + 6)) (KC + 5) 1) 1)))) (tSi_at _) ?_
        refine lv_sipush (v := nI 255) hx hb dX10_decryptBlock_1238 (by decide) ?_
        refine lv_iand hx hb dX10_decryptBlock_1241 ?_
        refine lv_eqi (y := uB (six (byI (dS KC kw (xw0 bi io kw (KC + 6)) (KC + 5) 1) 1))) (sB_and _) ?_
        refine lv_bipush (v := nI 8) hx hb dX10_decryptBlock_1242 (by decide) ?_
        refine lv_ishl hx hb dX10_decryptBlock_1244 ?_
        refine lv_ixor hx hb dX10_decryptBlock_1245 ?_
        refine xr_gets C w hz_Si q470 dX10_decryptBlock_1246 ?_
        refine lv_iload hx hb dX10_decryptBlock_1249 (lv_at hl 5 rfl) ?_
        refine lv_bipush (v := nI 16) hx hb dX10_decryptBlock_1251 (by decide) ?_
        refine lv_ishr hx hb dX10_decryptBlock_1253 ?_
        refine lv_sipush (v := nI 255) hx hb dX10_decryptBlock_1254 (by decide) ?_
        refine lv_iand hx hb dX10_decryptBlock_1257 ?_
        refine lv_eqi (y := nI (byI (dS KC kw (xw0 bi io kw (KC + 6)) (KC + 5) 0) 2).toNat) (ix_sh (dS KC kw (xw0 bi io kw (KC + 6)) (KC + 5) 0) 2 (by decide)) ?_
        refine xr_tbald C w ha_Si (i := (byI (dS KC kw (xw0 bi io kw (KC + 6)) (KC + 5) 0) 2).toNat) (by omega) (by omega) dX10_decryptBlock_1258 ?_
        refine lv_eqi (y := (sB (six (byI (dS KC kw (xw0 bi io kw (KC + 6)) (KC + 5) 0) 2)))) (tSi_at _) ?_
        refine lv_sipush (v := nI 255) hx hb dX10_decryptBlock_1259 (by decide) ?_
        refine lv_iand hx hb dX10_decryptBlock_1262 ?_
        refine lv_eqi (y := uB (six (byI (dS KC kw (xw0 bi io kw (KC + 6)) (KC + 5) 0) 2))) (sB_and _) ?_
        refine lv_bipush (v := nI 16) hx hb dX10_decryptBlock_1263 (by decide) ?_
        refine lv_ishl hx hb dX10_decryptBlock_1265 ?_
        refine lv_ixor hx hb dX10_decryptBlock_1266 ?_
        refine lv_aload_n hx hb dX10_decryptBlock_1267 rfl (lv_at hl 6 rfl) ?_
        refine xr_get (ci := 6) (v := .ref hs) (Cn := RX10) (T := TX10) (N := 4) C hR0 in_X10 rfl 3 (by decide) q142 (fun _ h => h) rfl dX10_decryptBlock_1268 ?_
        refine lv_iload hx hb dX10_decryptBlock_1271 (lv_at hl 2 rfl) ?_
        refine lv_bipush (v := nI 24) hx hb dX10_decryptBlock_1273 (by decide) ?_
        refine lv_ishr hx hb dX10_decryptBlock_1275 ?_
        refine lv_sipush (v := nI 255) hx hb dX10_decryptBlock_1276 (by decide) ?_
        refine lv_iand hx hb dX10_decryptBlock_1279 ?_
        refine lv_eqi (y := nI (byI (dS KC kw (xw0 bi io kw (KC + 6)) (KC + 5) 3) 3).toNat) (ix_sh (dS KC kw (xw0 bi io kw (KC + 6)) (KC + 5) 3) 3 (by decide)) ?_
        refine xr_bald C (i := (byI (dS KC kw (xw0 bi io kw (KC + 6)) (KC + 5) 3) 3).toNat) hR1 (by omega) (by omega) dX10_decryptBlock_1280 ?_
        refine lv_eqi (y := (sB (six (byI (dS KC kw (xw0 bi io kw (KC + 6)) (KC + 5) 3) 3)))) (siF_at _) ?_
        refine lv_bipush (v := nI 24) hx hb dX10_decryptBlock_1281 (by decide) ?_
        refine lv_ishl hx hb dX10_decryptBlock_1283 ?_
        refine lv_ixor hx hb dX10_decryptBlock_1284 ?_
        refine lv_eqi (y := (wI (six (byI (dS KC kw (xw0 bi io kw (KC + 6)) (KC + 5) 2) 0)) (six (byI (dS KC kw (xw0 bi io kw (KC + 6)) (KC + 5) 1) 1)) (six (byI (dS KC kw (xw0 bi io kw (KC + 6)) (KC + 5) 0) 2)) (six (byI (dS KC kw (xw0 bi io kw (KC + 6)) (KC + 5) 3) 3)))) (mk_xor _ _ _ _) ?_
        refine lv_aload hx hb dX10_decryptBlock_1285 (lv_at hl 9 rfl) ?_
        refine lv_iconst (v := nI 0) hx hb dX10_decryptBlock_1287 (by decide) ?_
        refine xr_aald C (i := 0) hKW.1 (by omega) (by omega) dX10_decryptBlock_1288 ?_
        refine lv_eqr (v' := .ref (ad 0)) rfl ?_
        refine lv_iconst (v := nI 2) hx hb dX10_decryptBlock_1289 (by decide) ?_
        refine xr_iald C (i := 2) (hKW.2 (0) (by omega)) (by omega) (by omega) dX10_decryptBlock_1290 ?_
        refine lv_ixor hx hb dX10_decryptBlock_1291 ?_
        refine lv_eqi (y := (dO KC kw (xw0 bi io kw (KC + 6)) 2)) (rfl) ?_
        refine lv_istore (lv' := [(8, .int (dO KC kw (xw0 bi io kw (KC + 6)) 2)), (7, .int (dO KC kw (xw0 bi io kw (KC + 6)) 1)), (6, .int (dO KC kw (xw0 bi io kw (KC + 6)) 0)), (17, .int (dS KC kw (xw0 bi io kw (KC + 6)) (KC + 5) 3)), (16, .int (dS KC kw (xw0 bi io kw (KC + 6)) (KC + 5) 2)), (15, .int (dS KC kw (xw0 bi io kw (KC + 6)) (KC + 5) 1)), (14, .int (dS KC kw (xw0 bi io kw (KC + 6)) (KC + 5) 0)), (0, .ref h), (3, .ref ho), (4, .int (nI oo)), (5, .ref wa), (10, .int (dS KC kw (xw0 bi io kw (KC + 6)) (2 * j) 0)), (11, .int (dS KC kw (xw0 bi io kw (KC + 6)) (2 * j) 1)), (12, .int (dS KC kw (xw0 bi io kw (KC + 6)) (2 * j) 2)), (13, .int (nI (KC + 5 - 2 * j)))]) hx hb dX10_decryptBlock_1292 hl (by decide) rfl (fun ls hl => ?_)
        refine xr_gets C w hz_Si q470 dX10_decryptBlock_1294 ?_
        refine lv_iload hx hb dX10_decryptBlock_1297 (lv_at hl 3 rfl) ?_
        refine lv_sipush (v := nI 255) hx hb dX10_decryptBlock_1299 (by decide) ?_
        refine lv_iand hx hb dX10_decryptBlock_1302 ?_
        refine lv_eqi (y := nI (byI (dS KC kw (xw0 bi io kw (KC + 6)) (KC + 5) 3) 0).toNat) (ix_and (dS KC kw (xw0 bi io kw (KC + 6)) (KC + 5) 3)) ?_
        refine xr_tbald C w ha_Si (i := (byI (dS KC kw (xw0 bi io kw (KC + 6)) (KC + 5) 3) 0).toNat) (by omega) (by omega) dX10_decryptBlock_1303 ?_
        refine lv_eqi (y := (sB (six (byI (dS KC kw (xw0 bi io kw (KC + 6)) (KC + 5) 3) 0)))) (tSi_at _) ?_
        refine lv_sipush (v := nI 255) hx hb dX10_decryptBlock_1304 (by decide) ?_
        refine lv_iand hx hb dX10_decryptBlock_1307 ?_
        refine lv_eqi (y := uB (six (byI (dS KC kw (xw0 bi io kw (KC + 6)) (KC + 5) 3) 0))) (sB_and _) ?_
        refine lv_aload_n hx hb dX10_decryptBlock_1308 rfl (lv_at hl 7 rfl) ?_
        refine xr_get (ci := 6) (v := .ref hs) (Cn := RX10) (T := TX10) (N := 4) C hR0 in_X10 rfl 3 (by decide) q142 (fun _ h => h) rfl dX10_decryptBlock_1309 ?_
        refine lv_iload hx hb dX10_decryptBlock_1312 (lv_at hl 4 rfl) ?_
        refine lv_bipush (v := nI 8) hx hb dX10_decryptBlock_1314 (by decide) ?_
        refine lv_ishr hx hb dX10_decryptBlock_1316 ?_
        refine lv_sipush (v := nI 255) hx hb dX10_decryptBlock_1317 (by decide) ?_
        refine lv_iand hx hb dX10_decryptBlock_1320 ?_
        refine lv_eqi (y := nI (byI (dS KC kw (xw0 bi io kw (KC + 6)) (KC + 5) 2) 1).toNat) (ix_sh (dS KC kw (xw0 bi io kw (KC + 6)) (KC + 5) 2) 1 (by decide)) ?_
        refine xr_bald C (i := (byI (dS KC kw (xw0 bi io kw (KC + 6)) (KC + 5) 2) 1).toNat) hR1 (by omega) (by omega) dX10_decryptBlock_1321 ?_
        refine lv_eqi (y := (sB (six (byI (dS KC kw (xw0 bi io kw (KC + 6)) (KC + 5) 2) 1)))) (siF_at _) ?_
        refine lv_sipush (v := nI 255) hx hb dX10_decryptBlock_1322 (by decide) ?_
        refine lv_iand hx hb dX10_decryptBlock_1325 ?_
        refine lv_eqi (y := uB (six (byI (dS KC kw (xw0 bi io kw (KC + 6)) (KC + 5) 2) 1))) (sB_and _) ?_
        refine lv_bipush (v := nI 8) hx hb dX10_decryptBlock_1326 (by decide) ?_
        refine lv_ishl hx hb dX10_decryptBlock_1328 ?_
        refine lv_ixor hx hb dX10_decryptBlock_1329 ?_
        refine lv_aload_n hx hb dX10_decryptBlock_1330 rfl (lv_at hl 7 rfl) ?_
        refine xr_get (ci := 6) (v := .ref hs) (Cn := RX10) (T := TX10) (N := 4) C hR0 in_X10 rfl 3 (by decide) q142 (fun _ h => h) rfl dX10_decryptBlock_1331 ?_
        refine lv_iload hx hb dX10_decryptBlock_1334 (lv_at hl 5 rfl) ?_
        refine lv_bipush (v := nI 16) hx hb dX10_decryptBlock_1336 (by decide) ?_
        refine lv_ishr hx hb dX10_decryptBlock_1338 ?_
        refine lv_sipush (v := nI 255) hx hb dX10_decryptBlock_1339 (by decide) ?_
        refine lv_iand hx hb dX10_decryptBlock_1342 ?_
        refine lv_eqi (y := nI (byI (dS KC kw (xw0 bi io kw (KC + 6)) (KC + 5) 1) 2).toNat) (ix_sh (dS KC kw (xw0 bi io kw (KC + 6)) (KC + 5) 1) 2 (by decide)) ?_
        refine xr_bald C (i := (byI (dS KC kw (xw0 bi io kw (KC + 6)) (KC + 5) 1) 2).toNat) hR1 (by omega) (by omega) dX10_decryptBlock_1343 ?_
        refine lv_eqi (y := (sB (six (byI (dS KC kw (xw0 bi io kw (KC + 6)) (KC + 5) 1) 2)))) (siF_at _) ?_
        refine lv_sipush (v := nI 255) hx hb dX10_decryptBlock_1344 (by decide) ?_
        refine lv_iand hx hb dX10_decryptBlock_1347 ?_
        refine lv_eqi (y := uB (six (byI (dS KC kw (xw0 bi io kw (KC + 6)) (KC + 5) 1) 2))) (sB_and _) ?_
        refine lv_bipush (v := nI 16) hx hb dX10_decryptBlock_1348 (by decide) ?_
        refine lv_ishl hx hb dX10_decryptBlock_1350 ?_
        refine lv_ixor hx hb dX10_decryptBlock_1351 ?_
        refine lv_aload_n hx hb dX10_decryptBlock_1352 rfl (lv_at hl 7 rfl) ?_
        refine xr_get (ci := 6) (v := .ref hs) (Cn := RX10) (T := TX10) (N := 4) C hR0 in_X10 rfl 3 (by decide) q142 (fun _ h => h) rfl dX10_decryptBlock_1353 ?_
        refine lv_iload hx hb dX10_decryptBlock_1356 (lv_at hl 6 rfl) ?_
        refine lv_bipush (v := nI 24) hx hb dX10_decryptBlock_1358 (by decide) ?_
        refine lv_ishr hx hb dX10_decryptBlock_1360 ?_
        refine lv_sipush (v := nI 255) hx hb dX10_decryptBlock_1361 (by decide) ?_
        refine lv_iand hx hb dX10_decryptBlock_1364 ?_
        refine lv_eqi (y := nI (byI (dS KC kw (xw0 bi io kw (KC + 6)) (KC + 5) 0) 3).toNat) (ix_sh (dS KC kw (xw0 bi io kw (KC + 6)) (KC + 5) 0) 3 (by decide)) ?_
        refine xr_bald C (i := (byI (dS KC kw (xw0 bi io kw (KC + 6)) (KC + 5) 0) 3).toNat) hR1 (by omega) (by omega) dX10_decryptBlock_1365 ?_
        refine lv_eqi (y := (sB (six (byI (dS KC kw (xw0 bi io kw (KC + 6)) (KC + 5) 0) 3)))) (siF_at _) ?_
        refine lv_bipush (v := nI 24) hx hb dX10_decryptBlock_1366 (by decide) ?_
        refine lv_ishl hx hb dX10_decryptBlock_1368 ?_
        refine lv_ixor hx hb dX10_decryptBlock_1369 ?_
        refine lv_eqi (y := (wI (six (byI (dS KC kw (xw0 bi io kw (KC + 6)) (KC + 5) 3) 0)) (six (byI (dS KC kw (xw0 bi io kw (KC + 6)) (KC + 5) 2) 1)) (six (byI (dS KC kw (xw0 bi io kw (KC + 6)) (KC + 5) 1) 2)) (six (byI (dS KC kw (xw0 bi io kw (KC + 6)) (KC + 5) 0) 3)))) (mk_xor _ _ _ _) ?_
        refine lv_aload hx hb dX10_decryptBlock_1370 (lv_at hl 10 rfl) ?_
        refine lv_iconst (v := nI 0) hx hb dX10_decryptBlock_1372 (by decide) ?_
        refine xr_aald C (i := 0) hKW.1 (by omega) (by omega) dX10_decryptBlock_1373 ?_
        refine lv_eqr (v' := .ref (ad 0)) rfl ?_
        refine lv_iconst (v := nI 3) hx hb dX10_decryptBlock_1374 (by decide) ?_
        refine xr_iald C (i := 3) (hKW.2 (0) (by omega)) (by omega) (by omega) dX10_decryptBlock_1375 ?_
        refine lv_ixor hx hb dX10_decryptBlock_1376 ?_
        refine lv_eqi (y := (dO KC kw (xw0 bi io kw (KC + 6)) 3)) (rfl) ?_
        refine lv_istore (lv' := [(9, .int (dO KC kw (xw0 bi io kw (KC + 6)) 3)), (8, .int (dO KC kw (xw0 bi io kw (KC + 6)) 2)), (7, .int (dO KC kw (xw0 bi io kw (KC + 6)) 1)), (6, .int (dO KC kw (xw0 bi io kw (KC + 6)) 0)), (17, .int (dS KC kw (xw0 bi io kw (KC + 6)) (KC + 5) 3)), (16, .int (dS KC kw (xw0 bi io kw (KC + 6)) (KC + 5) 2)), (15, .int (dS KC kw (xw0 bi io kw (KC + 6)) (KC + 5) 1)), (14, .int (dS KC kw (xw0 bi io kw (KC + 6)) (KC + 5) 0)), (0, .ref h), (3, .ref ho), (4, .int (nI oo)), (5, .ref wa), (10, .int (dS KC kw (xw0 bi io kw (KC + 6)) (2 * j) 0)), (11, .int (dS KC kw (xw0 bi io kw (KC + 6)) (2 * j) 1)), (12, .int (dS KC kw (xw0 bi io kw (KC + 6)) (2 * j) 2)), (13, .int (nI (KC + 5 - 2 * j)))]) hx hb dX10_decryptBlock_1377 hl (by decide) rfl (fun ls hl => ?_)
        refine lv_iload hx hb dX10_decryptBlock_1379 (lv_at hl 3 rfl) ?_
        refine lv_aload_n hx hb dX10_decryptBlock_1381 rfl (lv_at hl 9 rfl) ?_
        refine lv_iload hx hb dX10_decryptBlock_1382 (lv_at hl 10 rfl) ?_
        refine lv_iconst (v := nI 0) hx hb dX10_decryptBlock_1384 (by decide) ?_
        refine lv_iadd hx hb dX10_decryptBlock_1385 ?_
        refine lv_eqi (nI_add oo 0) ?_
        refine xr_callS (n := 3) (rest := []) (wr := []) C w (met_X14_intToLittleEndian l G s.heap.size (dO KC kw (xw0 bi io kw (KC + 6)) 0) ho no bo (oo + 0) (by omega) (by omega)) q581 q582 q30 q583 (by decide +kernel) ⟨rfl, rfl, by decide, by decide⟩ (fun _ _ _ _ h => h) (fun U hU hW => trivial) [0] [] rfl rfl rfl rfl (by decide) rfl hl.1 rfl (Nat.le_of_ble_eq_true rfl) dX10_decryptBlock_1386 ⟨by decide, by decide⟩ (fun u v H1 locs hp hz_1386 hk_1386 w => ?_)
        generalize H1 = H at hp w ⊢
        subst hp
        have w : Wd G A [(ho, xB G no (put4 bo (oo + 0) (dO KC kw (xw0 bi io kw (KC + 6)) 0)))] s s.heap H locs := w
        refine lv_iload hx hb dX10_decryptBlock_1389 (lv_at hl 2 rfl) ?_
        refine lv_aload_n hx hb dX10_decryptBlock_1391 rfl (lv_at hl 9 rfl) ?_
        refine lv_iload hx hb dX10_decryptBlock_1392 (lv_at hl 10 rfl) ?_
        refine lv_iconst (v := nI 4) hx hb dX10_decryptBlock_1394 (by decide) ?_
        refine lv_iadd hx hb dX10_decryptBlock_1395 ?_
        refine lv_eqi (nI_add oo 4) ?_
        refine xr_callS (n := 3) (rest := []) (wr := []) C w (met_X14_intToLittleEndian l G H.size (dO KC kw (xw0 bi io kw (KC + 6)) 1) ho no (put4 bo (oo + 0) (dO KC kw (xw0 bi io kw (KC + 6)) 0)) (oo + 4) (by omega) (by omega)) q581 q582 q30 q583 (by decide +kernel) ⟨rfl, rfl, by decide, by decide⟩ (fun _ _ _ _ h => h) (fun U hU hW => trivial) [0] [] rfl rfl rfl rfl (by decide) rfl hl.1 rfl (Nat.le_of_ble_eq_true rfl) dX10_decryptBlock_1396 ⟨by decide, by decide⟩ (fun u v H1 locs hp hz_1396 hk_1396 w => ?_)
        generalize H1 = H at hp w ⊢
        subst hp
        have w : Wd G A [(ho, xB G no (put4 (put4 bo (oo + 0) (dO KC kw (xw0 bi io kw (KC + 6)) 0)) (oo + 4) (dO KC kw (xw0 bi io kw (KC + 6)) 1)))] s s.heap H locs := w
        refine lv_iload hx hb dX10_decryptBlock_1399 (lv_at hl 1 rfl) ?_
        refine lv_aload_n hx hb dX10_decryptBlock_1401 rfl (lv_at hl 9 rfl) ?_
        refine lv_iload hx hb dX10_decryptBlock_1402 (lv_at hl 10 rfl) ?_
        refine lv_bipush (v := nI 8) hx hb dX10_decryptBlock_1404 (by decide) ?_
        refine lv_iadd hx hb dX10_decryptBlock_1406 ?_
        refine lv_eqi (nI_add oo 8) ?_
        refine xr_callS (n := 3) (rest := []) (wr := []) C w (met_X14_intToLittleEndian l G H.size (dO KC kw (xw0 bi io kw (KC + 6)) 2) ho no (put4 (put4 bo (oo + 0) (dO KC kw (xw0 bi io kw (KC + 6)) 0)) (oo + 4) (dO KC kw (xw0 bi io kw (KC + 6)) 1)) (oo + 8) (by omega) (by omega)) q581 q582 q30 q583 (by decide +kernel) ⟨rfl, rfl, by decide, by decide⟩ (fun _ _ _ _ h => h) (fun U hU hW => trivial) [0] [] rfl rfl rfl rfl (by decide) rfl hl.1 rfl (Nat.le_of_ble_eq_true rfl) dX10_decryptBlock_1407 ⟨by decide, by decide⟩ (fun u v H1 locs hp hz_1407 hk_1407 w => ?_)
        generalize H1 = H at hp w ⊢
        subst hp
        have w : Wd G A [(ho, xB G no (put4 (put4 (put4 bo (oo + 0) (dO KC kw (xw0 bi io kw (KC + 6)) 0)) (oo + 4) (dO KC kw (xw0 bi io kw (KC + 6)) 1)) (oo + 8) (dO KC kw (xw0 bi io kw (KC + 6)) 2)))] s s.heap H locs := w
        refine lv_iload hx hb dX10_decryptBlock_1410 (lv_at hl 0 rfl) ?_
        refine lv_aload_n hx hb dX10_decryptBlock_1412 rfl (lv_at hl 9 rfl) ?_
        refine lv_iload hx hb dX10_decryptBlock_1413 (lv_at hl 10 rfl) ?_
        refine lv_bipush (v := nI 12) hx hb dX10_decryptBlock_1415 (by decide) ?_
        refine lv_iadd hx hb dX10_decryptBlock_1417 ?_
        refine lv_eqi (nI_add oo 12) ?_
        refine xr_callS (n := 3) (rest := []) (wr := []) C w (met_X14_intToLittleEndian l G H.size (dO KC kw (xw0 bi io kw (KC + 6)) 3) ho no (put4 (put4 (put4 bo (oo + 0) (dO KC kw (xw0 bi io kw (KC + 6)) 0)) (oo + 4) (dO KC kw (xw0 bi io kw (KC + 6)) 1)) (oo + 8) (dO KC kw (xw0 bi io kw (KC + 6)) 2)) (oo + 12) (by omega) (by omega)) q581 q582 q30 q583 (by decide +kernel) ⟨rfl, rfl, by decide, by decide⟩ (fun _ _ _ _ h => h) (fun U hU hW => trivial) [0] [] rfl rfl rfl rfl (by decide) rfl hl.1 rfl (Nat.le_of_ble_eq_true rfl) dX10_decryptBlock_1418 ⟨by decide, by decide⟩ (fun u v H1 locs hp hz_1418 hk_1418 w => ?_)
        generalize H1 = H at hp w ⊢
        subst hp
        have w : Wd G A [(ho, xB G no (put4 (put4 (put4 (put4 bo (oo + 0) (dO KC kw (xw0 bi io kw (KC + 6)) 0)) (oo + 4) (dO KC kw (xw0 bi io kw (KC + 6)) 1)) (oo + 8) (dO KC kw (xw0 bi io kw (KC + 6)) 2)) (oo + 12) (dO KC kw (xw0 bi io kw (KC + 6)) 3)))] s s.heap H locs := w
        have w := w.bx 0 rfl (b' := va_cpy (wby (dO KC kw (xw0 bi io kw (KC + 6)))) bo 0 oo 16) (fun j _ => put16 bo oo (dO KC kw (xw0 bi io kw (KC + 6))) j)
        exact xr_vret C hlk hr w hAe hQ (by decide) (by decide) () rfl (rfl) dX10_decryptBlock_1421
      · refine xr_gets C w hz_Tinv0 q588 dX10_decryptBlock_108 ?_
        refine lv_iload hx hb dX10_decryptBlock_111 (lv_at hl 4 rfl) ?_
        refine lv_sipush (v := nI 255) hx hb dX10_decryptBlock_113 (by decide) ?_
        refine lv_iand hx hb dX10_decryptBlock_116 ?_
        refine lv_eqi (y := nI (byI (dS KC kw (xw0 bi io kw (KC + 6)) (2 * j) 0) 0).toNat) (ix_and (dS KC kw (xw0 bi io kw (KC + 6)) (2 * j) 0)) ?_
        refine xr_tiald C w ha_Tinv0 (i := (byI (dS KC kw (xw0 bi io kw (KC + 6)) (2 * j) 0) 0).toNat) (by omega) (by omega) dX10_decryptBlock_117 ?_
        refine lv_eqi (y := (Tiw (six (byI (dS KC kw (xw0 bi io kw (KC + 6)) (2 * j) 0) 0)))) (tTi_at _) ?_
        refine xr_gets C w hz_Tinv0 q588 dX10_decryptBlock_118 ?_
        refine lv_iload hx hb dX10_decryptBlock_121 (lv_at hl 7 rfl) ?_
        refine lv_bipush (v := nI 8) hx hb dX10_decryptBlock_123 (by decide) ?_
        refine lv_ishr hx hb dX10_decryptBlock_125 ?_
        refine lv_sipush (v := nI 255) hx hb dX10_decryptBlock_126 (by decide) ?_
        refine lv_iand hx hb dX10_decryptBlock_129 ?_
        refine lv_eqi (y := nI (byI (dS KC kw (xw0 bi io kw (KC + 6)) (2 * j) 3) 1).toNat) (ix_sh (dS KC kw (xw0 bi io kw (KC + 6)) (2 * j) 3) 1 (by decide)) ?_
        refine xr_tiald C w ha_Tinv0 (i := (byI (dS KC kw (xw0 bi io kw (KC + 6)) (2 * j) 3) 1).toNat) (by omega) (by omega) dX10_decryptBlock_130 ?_
        refine lv_eqi (y := (Tiw (six (byI (dS KC kw (xw0 bi io kw (KC + 6)) (2 * j) 3) 1)))) (tTi_at _) ?_
        refine lv_bipush (v := nI 24) hx hb dX10_decryptBlock_131 (by decide) ?_
        refine xr_callS0 (n := 2) (rest := [.int (Tiw (six (byI (dS KC kw (xw0 bi io kw (KC + 6)) (2 * j) 0) 0)))]) C w (met_X10_shift l G s.heap.size (Tiw (six (byI (dS KC kw (xw0 bi io kw (KC + 6)) (2 * j) 3) 1))) (nI 24) ) q434 q435 q19 q436 (by decide +kernel) ⟨rfl, rfl, by decide, by decide⟩ (fun _ _ _ _ h => h) (fun U hU hW => trivial) rfl hl.1 rfl (Nat.le_of_ble_eq_true rfl) dX10_decryptBlock_133 ⟨by decide, by decide⟩ (fun v hp => ?_)
        subst hp
        refine lv_ixor hx hb dX10_decryptBlock_136 ?_
        refine xr_gets C w hz_Tinv0 q588 dX10_decryptBlock_137 ?_
        refine lv_iload hx hb dX10_decryptBlock_140 (lv_at hl 6 rfl) ?_
        refine lv_bipush (v := nI 16) hx hb dX10_decryptBlock_142 (by decide) ?_
        refine lv_ishr hx hb dX10_decryptBlock_144 ?_
        refine lv_sipush (v := nI 255) hx hb dX10_decryptBlock_145 (by decide) ?_
        refine lv_iand hx hb dX10_decryptBlock_148 ?_
        refine lv_eqi (y := nI (byI (dS KC kw (xw0 bi io kw (KC + 6)) (2 * j) 2) 2).toNat) (ix_sh (dS KC kw (xw0 bi io kw (KC + 6)) (2 * j) 2) 2 (by decide)) ?_
        refine xr_tiald C w ha_Tinv0 (i := (byI (dS KC kw (xw0 bi io kw (KC + 6)) (2 * j) 2) 2).toNat) (by omega) (by omega) dX10_decryptBlock_149 ?_
        refine lv_eqi (y := (Tiw (six (byI (dS KC kw (xw0 bi io kw (KC + 6)) (2 * j) 2) 2)))) (tTi_at _) ?_
        refine lv_bipush (v := nI 16) hx hb dX10_decryptBlock_150 (by decide) ?_
        refine xr_callS0 (n := 2) (rest := [.int ((Tiw (six (byI (dS KC kw (xw0 bi io kw (KC + 6)) (2 * j) 0) 0))) ^^^ (shf (Tiw (six (byI (dS KC kw (xw0 bi io kw (KC + 6)) (2 * j) 3) 1))) (nI 24)))]) C w (met_X10_shift l G s.heap.size (Tiw (six (byI (dS KC kw (xw0 bi io kw (KC + 6)) (2 * j) 2) 2))) (nI 16) ) q434 q435 q19 q436 (by decide +kernel) ⟨rfl, rfl, by decide, by decide⟩ (fun _ _ _ _ h => h) (fun U hU hW => trivial) rfl hl.1 rfl (Nat.le_of_ble_eq_true rfl) dX10_decryptBlock_152 ⟨by decide, by decide⟩ (fun v hp => ?_)
        subst hp
        refine lv_ixor hx hb dX10_decryptBlock_155 ?_
        refine xr_gets C w hz_Tinv0 q588 dX10_decryptBlock_156 ?_
        refine lv_iload hx hb dX10_decryptBlock_159 (lv_at hl 5 rfl) ?_
        refine lv_bipush (v := nI 24) hx hb dX10_decryptBlock_161 (by decide) ?_
        refine lv_ishr hx hb dX10_decryptBlock_163 ?_
        refine lv_sipush (v := nI 255) hx hb dX10_decryptBlock_164 (by decide) ?_
        refine lv_iand hx hb dX10_decryptBlock_167 ?_
        refine lv_eqi (y := nI (byI (dS KC kw (xw0 bi io kw (KC + 6)) (2 * j) 1) 3).toNat) (ix_sh (dS KC kw (xw0 bi io kw (KC + 6)) (2 * j) 1) 3 (by decide)) ?_
        refine xr_tiald C w ha_Tinv0 (i := (byI (dS KC kw (xw0 bi io kw (KC + 6)) (2 * j) 1) 3).toNat) (by omega) (by omega) dX10_decryptBlock_168 ?_
        refine lv_eqi (y := (Tiw (six (byI (dS KC kw (xw0 bi io kw (KC + 6)) (2 * j) 1) 3)))) (tTi_at _) ?_
        refine lv_bipush (v := nI 8) hx hb dX10_decryptBlock_169 (by decide) ?_
        refine xr_callS0 (n := 2) (rest := [.int (((Tiw (six (byI (dS KC kw (xw0 bi io kw (KC + 6)) (2 * j) 0) 0))) ^^^ (shf (Tiw (six (byI (dS KC kw (xw0 bi io kw (KC + 6)) (2 * j) 3) 1))) (nI 24))) ^^^ (shf (Tiw (six (byI (dS KC kw (xw0 bi io kw (KC + 6)) (2 * j) 2) 2))) (nI 16)))]) C w (met_X10_shift l G s.heap.size (Tiw (six (byI (dS KC kw (xw0 bi io kw (KC + 6)) (2 * j) 1) 3))) (nI 8) ) q434 q435 q19 q436 (by decide +kernel) ⟨rfl, rfl, by decide, by decide⟩ (fun _ _ _ _ h => h) (fun U hU hW => trivial) rfl hl.1 rfl (Nat.le_of_ble_eq_true rfl) dX10_decryptBlock_171 ⟨by decide, by decide⟩ (fun v hp => ?_)
        subst hp
        refine lv_ixor hx hb dX10_decryptBlock_174 ?_
        refine lv_aload hx hb dX10_decryptBlock_175 (lv_at hl 3 rfl) ?_
        refine lv_iload hx hb dX10_decryptBlock_177 (lv_at hl 8 rfl) ?_
        refine xr_aald C (i := KC + 5 - 2 * j) hKW.1 (by omega) (by omega) dX10_decryptBlock_179 ?_
        refine lv_eqr (v' := .ref (ad (KC + 5 - 2 * j))) rfl ?_
        refine lv_iconst (v := nI 0) hx hb dX10_decryptBlock_180 (by decide) ?_
        refine xr_iald C (i := 0) (hKW.2 (KC + 5 - 2 * j) (by omega)) (by omega) (by omega) dX10_decryptBlock_181 ?_
        refine lv_ixor hx hb dX10_decryptBlock_182 ?_
        refine lv_eqi (y := (dS KC kw (xw0 bi io kw (KC + 6)) (2 * j + 1) 0)) (dS_f0 (r := 2 * j) (by omega) (by omega)) ?_
        refine lv_istore (lv' := [(14, .int (dS KC kw (xw0 bi io kw (KC + 6)) (2 * j + 1) 0)), (0, .ref h), (3, .ref ho), (4, .int (nI oo)), (5, .ref wa), (10, .int (dS KC kw (xw0 bi io kw (KC + 6)) (2 * j) 0)), (11, .int (dS KC kw (xw0 bi io kw (KC + 6)) (2 * j) 1)), (12, .int (dS KC kw (xw0 bi io kw (KC + 6)) (2 * j) 2)), (17, .int (dS KC kw (xw0 bi io kw (KC + 6)) (2 * j) 3)), (13, .int (nI (KC + 5 - 2 * j)))]) hx hb dX10_decryptBlock_183 hl (by decide) rfl (fun ls hl => ?_)
        refine xr_gets C w hz_Tinv0 q588 dX10_decryptBlock_185 ?_
        refine lv_iload hx hb dX10_decryptBlock_188 (lv_at hl 6 rfl) ?_
        refine lv_sipush (v := nI 255) hx hb dX10_decryptBlock_190 (by decide) ?_
        refine lv_iand hx hb dX10_decryptBlock_193 ?_
        refine lv_eqi (y := nI (byI (dS KC kw (xw0 bi io kw (KC + 6)) (2 * j) 1) 0).toNat) (ix_and (dS KC kw (xw0 bi io kw (KC + 6)) (2 * j) 1)) ?_
        refine xr_tiald C w ha_Tinv0 (i := (byI (dS KC kw (xw0 bi io kw (KC + 6)) (2 * j) 1) 0).toNat) (by omega) (by omega) dX10_decryptBlock_194 ?_
        refine lv_eqi (y := (Tiw (six (byI (dS KC kw (xw0 bi io kw (KC + 6)) (2 * j) 1) 0)))) (tTi_at _) ?_
        refine xr_gets C w hz_Tinv0 q588 dX10_decryptBlock_195 ?_
        refine lv_iload hx hb dX10_decryptBlock_198 (lv_at hl 5 rfl) ?_
        refine lv_bipush (v := nI 8) hx hb dX10_decryptBlock_200 (by decide) ?_
        refine lv_ishr hx hb dX10_decryptBlock_202 ?_
        refine lv_sipush (v := nI 255) hx hb dX10_decryptBlock_203 (by decide) ?_
        refine lv_iand hx hb dX10_decryptBlock_206 ?_
        refine lv_eqi (y := nI (byI (dS KC kw (xw0 bi io kw (KC + 6)) (2 * j) 0) 1).toNat) (ix_sh (dS KC kw (xw0 bi io kw (KC + 6)) (2 * j) 0) 1 (by decide)) ?_
        refine xr_tiald C w ha_Tinv0 (i := (byI (dS KC kw (xw0 bi io kw (KC + 6)) (2 * j) 0) 1).toNat) (by omega) (by omega) dX10_decryptBlock_207 ?_
        refine lv_eqi (y := (Tiw (six (byI (dS KC kw (xw0 bi io kw (KC + 6)) (2 * j) 0) 1)))) (tTi_at _) ?_
        refine lv_bipush (v := nI 24) hx hb dX10_decryptBlock_208 (by decide) ?_
        refine xr_callS0 (n := 2) (rest := [.int (Tiw (six (byI (dS KC kw (xw0 bi io kw (KC + 6)) (2 * j) 1) 0)))]) C w (met_X10_shift l G s.heap.size (Tiw (six (byI (dS KC kw (xw0 bi io kw (KC + 6)) (2 * j) 0) 1))) (nI 24) ) q434 q435 q19 q436 (by decide +kernel) ⟨rfl, rfl, by decide, by decide⟩ (fun _ _ _ _ h => h) (fun U hU hW => trivial) rfl hl.1 rfl (Nat.le_of_ble_eq_true rfl) dX10_decryptBlock_210 ⟨by decide, by decide⟩ (fun v hp => ?_)
        subst hp
        refine lv_ixor hx hb dX10_decryptBlock_213 ?_
        refine xr_gets C w hz_Tinv0 q588 dX10_decryptBlock_214 ?_
        refine lv_iload hx hb dX10_decryptBlock_217 (lv_at hl 8 rfl) ?_
        refine lv_bipush (v := nI 16) hx hb dX10_decryptBlock_219 (by decide) ?_
        refine lv_ishr hx hb dX10_decryptBlock_221 ?_
        refine lv_sipush (v := nI 255) hx hb dX10_decryptBlock_222 (by decide) ?_
        refine lv_iand hx hb dX10_decryptBlock_225 ?_
        refine lv_eqi (y := nI (byI (dS KC kw (xw0 bi io kw (KC + 6)) (2 * j) 3) 2).toNat) (ix_sh (dS KC kw (xw0 bi io kw (KC + 6)) (2 * j) 3) 2 (by decide)) ?_
        refine xr_tiald C w ha_Tinv0 (i := (byI (dS KC kw (xw0 bi io kw (KC + 6)) (2 * j) 3) 2).toNat) (by omega) (by omega) dX10_decryptBlock_226 ?_
        refine lv_eqi (y := (Tiw (six (byI (dS KC kw (xw0 bi io kw (KC + 6)) (2 * j) 3) 2)))) (tTi_at _) ?_
        refine lv_bipush (v := nI 16) hx hb dX10_decryptBlock_227 (by decide) ?_
        refine xr_callS0 (n := 2) (rest := [.int ((Tiw (six (byI (dS KC kw (xw0 bi io kw (KC + 6)) (2 * j) 1) 0))) ^^^ (shf (Tiw (six (byI (dS KC kw (xw0 bi io kw (KC + 6)) (2 * j) 0) 1))) (nI 24)))]) C w (met_X10_shift l G s.heap.size (Tiw (six (byI (dS KC kw (xw0 bi io kw (KC + 6)) (2 * j) 3) 2))) (nI 16) ) q434 q435 q19 q436 (by decide +kernel) ⟨rfl, rfl, by decide, by decide⟩ (fun _ _ _ _ h => h) (fun U hU hW => trivial) rfl hl.1 rfl (Nat.le_of_ble_eq_true rfl) dX10_decryptBlock_229 ⟨by decide, by decide⟩ (fun v hp => ?_)
        subst hp
        refine lv_ixor hx hb dX10_decryptBlock_232 ?_
        refine xr_gets C w hz_Tinv0 q588 dX10_decryptBlock_233 ?_
        refine lv_iload hx hb dX10_decryptBlock_236 (lv_at hl 7 rfl) ?_
        refine lv_bipush (v := nI 24) hx hb dX10_decryptBlock_238 (by decide) ?_
        refine lv_ishr hx hb dX10_decryptBlock_240 ?_
        refine lv_sipush (v := nI 255) hx hb dX10_decryptBlock_241 (by decide) ?_
        refine lv_iand hx hb dX10_decryptBlock_244 ?_
        refine lv_eqi (y := nI (byI (dS KC kw (xw0 bi io kw (KC + 6)) (2 * j) 2) 3).toNat) (ix_sh (dS KC kw (xw0 bi io kw (KC + 6)) (2 * j) 2) 3 (by decide)) ?_
        refine xr_tiald C w ha_Tinv0 (i := (byI (dS KC kw (xw0 bi io kw (KC + 6)) (2 * j) 2) 3).toNat) (by omega) (by omega) dX10_decryptBlock_245 ?_
        refine lv_eqi (y := (Tiw (six (byI (dS KC kw (xw0 bi io kw (KC + 6)) (2 * j) 2) 3)))) (tTi_at _) ?_
        refine lv_bipush (v := nI 8) hx hb dX10_decryptBlock_246 (by decide) ?_
        refine xr_callS0 (n := 2) (rest := [.int (((Tiw (six (byI (dS KC kw (xw0 bi io kw (KC + 6)) (2 * j) 1) 0))) ^^^ (shf (Tiw (six (byI (dS KC kw (xw0 bi io kw (KC + 6)) (2 * j) 0) 1))) (nI 24))) ^^^ (shf (Tiw (six (byI (dS KC kw (xw0 bi io kw (KC + 6)) (2 * j) 3) 2))) (nI 16)))]) C w (met_X10_shift l G s.heap.size (Tiw (six (byI (dS KC kw (xw0 bi io kw (KC + 6)) (2 * j) 2) 3))) (nI 8) ) q434 q435 q19 q436 (by decide +kernel) ⟨rfl, rfl, by decide, by decide⟩ (fun _ _ _ _ h => h) (fun U hU hW => trivial) rfl hl.1 rfl (Nat.le_of_ble_eq_true rfl) dX10_decryptBlock_248 ⟨by decide, by decide⟩ (fun v hp => ?_)
        subst hp
        refine lv_ixor hx hb dX10_decryptBlock_251 ?_
        refine lv_aload hx hb dX10_decryptBlock_252 (lv_at hl 4 rfl) ?_
        refine lv_iload hx hb dX10_decryptBlock_254 (lv_at hl 9 rfl) ?_
        refine xr_aald C (i := KC + 5 - 2 * j) hKW.1 (by omega) (by omega) dX10_decryptBlock_256 ?_
        refine lv_eqr (v' := .ref (ad (KC + 5 - 2 * j))) rfl ?_
        refine lv_iconst (v := nI 1) hx hb dX10_decryptBlock_257 (by decide) ?_
        refine xr_iald C (i := 1) (hKW.2 (KC + 5 - 2 * j) (by omega)) (by omega) (by omega) dX10_decryptBlock_258 ?_
        refine lv_ixor hx hb dX10_decryptBlock_259 ?_
        refine lv_eqi (y := (dS KC kw (xw0 bi io kw (KC + 6)) (2 * j + 1) 1)) (dS_f1 (r := 2 * j) (by omega) (by omega)) ?_
        refine lv_istore (lv' := [(15, .int (dS KC kw (xw0 bi io kw (KC + 6)) (2 * j + 1) 1)), (14, .int (dS KC kw (xw0 bi io kw (KC + 6)) (2 * j + 1) 0)), (0, .ref h), (3, .ref ho), (4, .int (nI oo)), (5, .ref wa), (10, .int (dS KC kw (xw0 bi io kw (KC + 6)) (2 * j) 0)), (11, .int (dS KC kw (xw0 bi io kw (KC + 6)) (2 * j) 1)), (12, .int (dS KC kw (xw0 bi io kw (KC + 6)) (2 * j) 2)), (17, .int (dS KC kw (xw0 bi io kw (KC + 6)) (2 * j) 3)), (13, .int (nI (KC + 5 - 2 * j)))]) hx hb dX10_decryptBlock_260 hl (by decide) rfl (fun ls hl => ?_)
        refine xr_gets C w hz_Tinv0 q588 dX10_decryptBlock_262 ?_
        refine lv_iload hx hb dX10_decryptBlock_265 (lv_at hl 8 rfl) ?_
        refine lv_sipush (v := nI 255) hx hb dX10_decryptBlock_267 (by decide) ?_
        refine lv_iand hx hb dX10_decryptBlock_270 ?_
        refine lv_eqi (y := nI (byI (dS KC kw (xw0 bi io kw (KC + 6)) (2 * j) 2) 0).toNat) (ix_and (dS KC kw (xw0 bi io kw (KC + 6)) (2 * j) 2)) ?_
        refine xr_tiald C w ha_Tinv0 (i := (byI (dS KC kw (xw0 bi io kw (KC + 6)) (2 * j) 2) 0).toNat) (by omega) (by omega) dX10_decryptBlock_271 ?_
        refine lv_eqi (y := (Tiw (six (byI (dS KC kw (xw0 bi io kw (KC + 6)) (2 * j) 2) 0)))) (tTi_at _) ?_
        refine xr_gets C w hz_Tinv0 q588 dX10_decryptBlock_272 ?_
        refine lv_iload hx hb dX10_decryptBlock_275 (lv_at hl 7 rfl) ?_
        refine lv_bipush (v := nI 8) hx hb dX10_decryptBlock_277 (by decide) ?_
        refine lv_ishr hx hb dX10_decryptBlock_279 ?_
        refine lv_sipush (v := nI 255) hx hb dX10_decryptBlock_280 (by decide) ?_
        refine lv_iand hx hb dX10_decryptBlock_283 ?_
        refine lv_eqi (y := nI (byI (dS KC kw (xw0 bi io kw (KC + 6)) (2 * j) 1) 1).toNat) (ix_sh (dS KC kw (xw0 bi io kw (KC + 6)) (2 * j) 1) 1 (by decide)) ?_
        refine xr_tiald C w ha_Tinv0 (i := (byI (dS KC kw (xw0 bi io kw (KC + 6)) (2 * j) 1) 1).toNat) (by omega) (by omega) dX10_decryptBlock_284 ?_
        refine lv_eqi (y := (Tiw (six (byI (dS KC kw (xw0 bi io kw (KC + 6)) (2 * j) 1) 1)))) (tTi_at _) ?_
        refine lv_bipush (v := nI 24) hx hb dX10_decryptBlock_285 (by decide) ?_
        refine xr_callS0 (n := 2) (rest := [.int (Tiw (six (byI (dS KC kw (xw0 bi io kw (KC + 6)) (2 * j) 2) 0)))]) C w (met_X10_shift l G s.heap.size (Tiw (six (byI (dS KC kw (xw0 bi io kw (KC + 6)) (2 * j) 1) 1))) (nI 24) ) q434 q435 q19 q436 (by decide +kernel) ⟨rfl, rfl, by decide, by decide⟩ (fun _ _ _ _ h => h) (fun U hU hW => trivial) rfl hl.1 rfl (Nat.le_of_ble_eq_true rfl) dX10_decryptBlock_287 ⟨by decide, by decide⟩ (fun v hp => ?_)
        subst hp
        refine lv_ixor hx hb dX10_decryptBlock_290 ?_
        refine xr_gets C w hz_Tinv0 q588 dX10_decryptBlock_291 ?_
        refine lv_iload hx hb dX10_decryptBlock_294 (lv_at hl 6 rfl) ?_
        refine lv_bipush (v := nI 16) hx hb dX10_decryptBlock_296 (by decide) ?_
        refine lv_ishr hx hb dX10_decryptBlock_298 ?_
        refine lv_sipush (v := nI 255) hx hb dX10_decryptBlock_299 (by decide) ?_
        refine lv_iand hx hb dX10_decryptBlock_302 ?_
        refine lv_eqi (y := nI (byI (dS KC kw (xw0 bi io kw (KC + 6)) (2 * j) 0) 2).toNat) (ix_sh (dS KC kw (xw0 bi io kw (KC + 6)) (2 * j) 0) 2 (by decide)) ?_
        refine xr_tiald C w ha_Tinv0 (i := (byI (dS KC kw (xw0 bi io kw (KC + 6)) (2 * j) 0) 2).toNat) (by omega) (by omega) dX10_decryptBlock_303 ?_
        refine lv_eqi (y := (Tiw (six (byI (dS KC kw (xw0 bi io kw (KC + 6)) (2 * j) 0) 2)))) (tTi_at _) ?_
        refine lv_bipush (v := nI 16) hx hb dX10_decryptBlock_304 (by decide) ?_
        refine xr_callS0 (n := 2) (rest := [.int ((Tiw (six (byI (dS KC kw (xw0 bi io kw (KC + 6)) (2 * j) 2) 0))) ^^^ (shf (Tiw (six (byI (dS KC kw (xw0 bi io kw (KC + 6)) (2 * j) 1) 1))) (nI 24)))]) C w (met_X10_shift l G s.heap.size (Tiw (six (byI (dS KC kw (xw0 bi io kw (KC + 6)) (2 * j) 0) 2))) (nI 16) ) q434 q435 q19 q436 (by decide +kernel) ⟨rfl, rfl, by decide, by decide⟩ (fun _ _ _ _ h => h) (fun U hU hW => trivial) rfl hl.1 rfl (Nat.le_of_ble_eq_true rfl) dX10_decryptBlock_306 ⟨by decide, by decide⟩ (fun v hp => ?_)
        subst hp
        refine lv_ixor hx hb dX10_decryptBlock_309 ?_
        refine xr_gets C w hz_Tinv0 q588 dX10_decryptBlock_310 ?_
        refine lv_iload hx hb dX10_decryptBlock_313 (lv_at hl 9 rfl) ?_
        refine lv_bipush (v := nI 24) hx hb dX10_decryptBlock_315 (by decide) ?_
        refine lv_ishr hx hb dX10_decryptBlock_317 ?_
        refine lv_sipush (v := nI 255) hx hb dX10_decryptBlock_318 (by decide) ?_
        refine lv_iand hx hb dX10_decryptBlock_321 ?_
        refine lv_eqi (y := nI (byI (dS KC kw (xw0 bi io kw (KC + 6)) (2 * j) 3) 3).toNat) (ix_sh (dS KC kw (xw0 bi io kw (KC + 6)) (2 * j) 3) 3 (by decide)) ?_
        refine xr_tiald C w ha_Tinv0 (i := (byI (dS KC kw (xw0 bi io kw (KC + 6)) (2 * j) 3) 3).toNat) (by omega) (by omega) dX10_decryptBlock_322 ?_
        refine lv_eqi (y := (Tiw (six (byI (dS KC kw (xw0 bi io kw (KC + 6)) (2 * j) 3) 3)))) (tTi_at _) ?_
        refine lv_bipush (v := nI 8) hx hb dX10_decryptBlock_323 (by decide) ?_
        refine xr_callS0 (n := 2) (rest := [.int (((Tiw (six (byI (dS KC kw (xw0 bi io kw (KC + 6)) (2 * j) 2) 0))) ^^^ (shf (Tiw (six (byI (dS KC kw (xw0 bi io kw (KC + 6)) (2 * j) 1) 1))) (nI 24))) ^^^ (shf (Tiw (six (byI (dS KC kw (xw0 bi io kw (KC + 6)) (2 * j) 0) 2))) (nI 16)))]) C w (met_X10_shift l G s.heap.size (Tiw (six (byI (dS KC kw (xw0 bi io kw (KC + 6)) (2 * j) 3) 3))) (nI 8) ) q434 q435 q19 q436 (by decide +kernel) ⟨rfl, rfl, by decide, by decide⟩ (fun _ _ _ _ h => h) (fun U hU hW => trivial) rfl hl.1 rfl (Nat.le_of_ble_eq_true rfl) dX10_decryptBlock_325 ⟨by decide, by decide⟩ (fun v hp => ?_)
        subst hp
        refine lv_ixor hx hb dX10_decryptBlock_328 ?_
        refine lv_aload hx hb dX10_decryptBlock_329 (lv_at hl 5 rfl) ?_
        refine lv_iload hx hb dX10_decryptBlock_331 (lv_at hl 10 rfl) ?_
        refine xr_aald C (i := KC + 5 - 2 * j) hKW.1 (by omega) (by omega) dX10_decryptBlock_333 ?_
        refine lv_eqr (v' := .ref (ad (KC + 5 - 2 * j))) rfl ?_
        refine lv_iconst (v := nI 2) hx hb dX10_decryptBlock_334 (by decide) ?_
        refine xr_iald C (i := 2) (hKW.2 (KC + 5 - 2 * j) (by omega)) (by omega) (by omega) dX10_decryptBlock_335 ?_
        refine lv_ixor hx hb dX10_decryptBlock_336 ?_
        refine lv_eqi (y := (dS KC kw (xw0 bi io kw (KC + 6)) (2 * j + 1) 2)) (dS_f2 (r := 2 * j) (by omega) (by omega)) ?_
        refine lv_istore (lv' := [(16, .int (dS KC kw (xw0 bi io kw (KC + 6)) (2 * j + 1) 2)), (15, .int (dS KC kw (xw0 bi io kw (KC + 6)) (2 * j + 1) 1)), (14, .int (dS KC kw (xw0 bi io kw (KC + 6)) (2 * j + 1) 0)), (0, .ref h), (3, .ref ho), (4, .int (nI oo)), (5, .ref wa), (10, .int (dS KC kw (xw0 bi io kw (KC + 6)) (2 * j) 0)), (11, .int (dS KC kw (xw0 bi io kw (KC + 6)) (2 * j) 1)), (12, .int (dS KC kw (xw0 bi io kw (KC + 6)) (2 * j) 2)), (17, .int (dS KC kw (xw0 bi io kw (KC + 6)) (2 * j) 3)), (13, .int (nI (KC + 5 - 2 * j)))]) hx hb dX10_decryptBlock_337 hl (by decide) rfl (fun ls hl => ?_)
        refine xr_gets C w hz_Tinv0 q588 dX10_decryptBlock_339 ?_
        refine lv_iload hx hb dX10_decryptBlock_342 (lv_at hl 10 rfl) ?_
        refine lv_sipush (v := nI 255) hx hb dX10_decryptBlock_344 (by decide) ?_
        refine lv_iand hx hb dX10_decryptBlock_347 ?_
        refine lv_eqi (y := nI (byI (dS KC kw (xw0 bi io kw (KC + 6)) (2 * j) 3) 0).toNat) (ix_and (dS KC kw (xw0 bi io kw (KC + 6)) (2 * j) 3)) ?_
        refine xr_tiald C w ha_Tinv0 (i := (byI (dS KC kw (xw0 bi io kw (KC + 6)) (2 * j) 3) 0).toNat) (by omega) (by omega) dX10_decryptBlock_348 ?_
        refine lv_eqi (y := (Tiw (six (byI (dS KC kw (xw0 bi io kw (KC + 6)) (2 * j) 3) 0)))) (tTi_at _) ?_
        refine xr_gets C w hz_Tinv0 q588 dX10_decryptBlock_349 ?_
        refine lv_iload hx hb dX10_decryptBlock_352 (lv_at hl 9 rfl) ?_
        refine lv_bipush (v := nI 8) hx hb dX10_decryptBlock_354 (by decide) ?_
        refine lv_ishr hx hb dX10_decryptBlock_356 ?_
        refine lv_sipush (v := nI 255) hx hb dX10_decryptBlock_357 (by decide) ?_
        refine lv_iand hx hb dX10_decryptBlock_360 ?_
        refine lv_eqi (y := nI (byI (dS KC kw (xw0 bi io kw (KC + 6)) (2 * j) 2) 1).toNat) (ix_sh (dS KC kw (xw0 bi io kw (KC + 6)) (2 * j) 2) 1 (by decide)) ?_
        refine xr_tiald C w ha_Tinv0 (i := (byI (dS KC kw (xw0 bi io kw (KC + 6)) (2 * j) 2) 1).toNat) (by omega) (by omega) dX10_decryptBlock_361 ?_
        refine lv_eqi (y := (Tiw (six (byI (dS KC kw (xw0 bi io kw (KC + 6)) (2 * j) 2) 1)))) (tTi_at _) ?_
        refine lv_bipush (v := nI 24) hx hb dX10_decryptBlock_362 (by decide) ?_
        refine xr_callS0 (n := 2) (rest := [.int (Tiw (six (byI (dS KC kw (xw0 bi io kw (KC + 6)) (2 * j) 3) 0)))]) C w (met_X10_shift l G s.heap.size (Tiw (six (byI (dS KC kw (xw0 bi io kw (KC + 6)) (2 * j) 2) 1))) (nI 24) ) q434 q435 q19 q436 (by decide +kernel) ⟨rfl, rfl, by decide, by decide⟩ (fun _ _ _ _ h => h) (fun U hU hW => trivial) rfl hl.1 rfl (Nat.le_of_ble_eq_true rfl) dX10_decryptBlock_364 ⟨by decide, by decide⟩ (fun v hp => ?_)
        subst hp
        refine lv_ixor hx hb dX10_decryptBlock_367 ?_
        refine xr_gets C w hz_Tinv0 q588 dX10_decryptBlock_368 ?_
        refine lv_iload hx hb dX10_decryptBlock_371 (lv_at hl 8 rfl) ?_
        refine lv_bipush (v := nI 16) hx hb dX10_decryptBlock_373 (by decide) ?_
        refine lv_ishr hx hb dX10_decryptBlock_375 ?_
        refine lv_sipush (v := nI 255) hx hb dX10_decryptBlock_376 (by decide) ?_
        refine lv_iand hx hb dX10_decryptBlock_379 ?_
        refine lv_eqi (y := nI (byI (dS KC kw (xw0 bi io kw (KC + 6)) (2 * j) 1) 2).toNat) (ix_sh (dS KC kw (xw0 bi io kw (KC + 6)) (2 * j) 1) 2 (by decide)) ?_
        refine xr_tiald C w ha_Tinv0 (i := (byI (dS KC kw (xw0 bi io kw (KC + 6)) (2 * j) 1) 2).toNat) (by omega) (by omega) dX10_decryptBlock_380 ?_
        refine lv_eqi (y := (Tiw (six (byI (dS KC kw (xw0 bi io kw (KC + 6)) (2 * j) 1) 2)))) (tTi_at _) ?_
        refine lv_bipush (v := nI 16) hx hb dX10_decryptBlock_381 (by decide) ?_
        refine xr_callS0 (n := 2) (rest := [.int ((Tiw (six (byI (dS KC kw (xw0 bi io kw (KC + 6)) (2 * j) 3) 0))) ^^^ (shf (Tiw (six (byI (dS KC kw (xw0 bi io kw (KC + 6)) (2 * j) 2) 1))) (nI 24)))]) C w (met_X10_shift l G s.heap.size (Tiw (six (byI (dS KC kw (xw0 bi io kw (KC + 6)) (2 * j) 1) 2))) (nI 16) ) q434 q435 q19 q436 (by decide +kernel) ⟨rfl, rfl, by decide, by decide⟩ (fun _ _ _ _ h => h) (fun U hU hW => trivial) rfl hl.1 rfl (Nat.le_of_ble_eq_true rfl) dX10_decryptBlock_383 ⟨by decide, by decide⟩ (fun v hp => ?_)
        subst hp
        refine lv_ixor hx hb dX10_decryptBlock_386 ?_
        refine xr_gets C w hz_Tinv0 q588 dX10_decryptBlock_387 ?_
        refine lv_iload hx hb dX10_decryptBlock_390 (lv_at hl 7 rfl) ?_
        refine lv_bipush (v := nI 24) hx hb dX10_decryptBlock_392 (by decide) ?_
        refine lv_ishr hx hb dX10_decryptBlock_394 ?_
        refine lv_sipush (v := nI 255) hx hb dX10_decryptBlock_395 (by decide) ?_
        refine lv_iand hx hb dX10_decryptBlock_398 ?_
        refine lv_eqi (y := nI (byI (dS KC kw (xw0 bi io kw (KC + 6)) (2 * j) 0) 3).toNat) (ix_sh (dS KC kw (xw0 bi io kw (KC + 6)) (2 * j) 0) 3 (by decide)) ?_
        refine xr_tiald C w ha_Tinv0 (i := (byI (dS KC kw (xw0 bi io kw (KC + 6)) (2 * j) 0) 3).toNat) (by omega) (by omega) dX10_decryptBlock_399 ?_
        refine lv_eqi (y := (Tiw (six (byI (dS KC kw (xw0 bi io kw (KC + 6)) (2 * j) 0) 3)))) (tTi_at _) ?_
        refine lv_bipush (v := nI 8) hx hb dX10_decryptBlock_400 (by decide) ?_
        refine xr_callS0 (n := 2) (rest := [.int (((Tiw (six (byI (dS KC kw (xw0 bi io kw (KC + 6)) (2 * j) 3) 0))) ^^^ (shf (Tiw (six (byI (dS KC kw (xw0 bi io kw (KC + 6)) (2 * j) 2) 1))) (nI 24))) ^^^ (shf (Tiw (six (byI (dS KC kw (xw0 bi io kw (KC + 6)) (2 * j) 1) 2))) (nI 16)))]) C w (met_X10_shift l G s.heap.size (Tiw (six (byI (dS KC kw (xw0 bi io kw (KC + 6)) (2 * j) 0) 3))) (nI 8) ) q434 q435 q19 q436 (by decide +kernel) ⟨rfl, rfl, by decide, by decide⟩ (fun _ _ _ _ h => h) (fun U hU hW => trivial) rfl hl.1 rfl (Nat.le_of_ble_eq_true rfl) dX10_decryptBlock_402 ⟨by decide, by decide⟩ (fun v hp => ?_)
        subst hp
        refine lv_ixor hx hb dX10_decryptBlock_405 ?_
        refine lv_aload hx hb dX10_decryptBlock_406 (lv_at hl 6 rfl) ?_
        refine lv_iload hx hb dX10_decryptBlock_408 (lv_at hl 11 rfl) ?_
        refine lv_iinc (v := nI (KC + 4 - 2 * j)) (lv' := [(13, .int (nI (KC + 4 - 2 * j))), (16, .int (dS KC kw (xw0 bi io kw (KC + 6)) (2 * j + 1) 2)), (15, .int (dS KC kw (xw0 bi io kw (KC + 6)) (2 * j + 1) 1)), (14, .int (dS KC kw (xw0 bi io kw (KC + 6)) (2 * j + 1) 0)), (0, .ref h), (3, .ref ho), (4, .int (nI oo)), (5, .ref wa), (10, .int (dS KC kw (xw0 bi io kw (KC + 6)) (2 * j) 0)), (11, .int (dS KC kw (xw0 bi io kw (KC + 6)) (2 * j) 1)), (12, .int (dS KC kw (xw0 bi io kw (KC + 6)) (2 * j) 2)), (17, .int (dS KC kw (xw0 bi io kw (KC + 6)) (2 * j) 3))]) hx hb dX10_decryptBlock_410 hl (k := 11) rfl ((sb_m1 (by omega)).trans (by rw [show KC + 5 - 2 * j - 1 = KC + 4 - 2 * j by omega])) (by decide) rfl (fun ls hl => ?_)
        refine xr_aald C (i := KC + 5 - 2 * j) hKW.1 (by omega) (by omega) dX10_decryptBlock_413 ?_
        refine lv_eqr (v' := .ref (ad (KC + 5 - 2 * j))) rfl ?_
        refine lv_iconst (v := nI 3) hx hb dX10_decryptBlock_414 (by decide) ?_
        refine xr_iald C (i := 3) (hKW.2 (KC + 5 - 2 * j) (by omega)) (by omega) (by omega) dX10_decryptBlock_415 ?_
        refine lv_ixor hx hb dX10_decryptBlock_416 ?_
        refine lv_eqi (y := (dS KC kw (xw0 bi io kw (KC + 6)) (2 * j + 1) 3)) (dS_f3 (r := 2 * j) (by omega) (by omega)) ?_
        refine lv_istore (lv' := [(17, .int (dS KC kw (xw0 bi io kw (KC + 6)) (2 * j + 1) 3)), (13, .int (nI (KC + 4 - 2 * j))), (16, .int (dS KC kw (xw0 bi io kw (KC + 6)) (2 * j + 1) 2)), (15, .int (dS KC kw (xw0 bi io kw (KC + 6)) (2 * j + 1) 1)), (14, .int (dS KC kw (xw0 bi io kw (KC + 6)) (2 * j + 1) 0)), (0, .ref h), (3, .ref ho), (4, .int (nI oo)), (5, .ref wa), (10, .int (dS KC kw (xw0 bi io kw (KC + 6)) (2 * j) 0)), (11, .int (dS KC kw (xw0 bi io kw (KC + 6)) (2 * j) 1)), (12, .int (dS KC kw (xw0 bi io kw (KC + 6)) (2 * j) 2))]) hx hb dX10_decryptBlock_417 hl (by decide) rfl (fun ls hl => ?_)
        refine xr_gets C w hz_Tinv0 q588 dX10_decryptBlock_419 ?_
        refine lv_iload hx hb dX10_decryptBlock_422 (lv_at hl 4 rfl) ?_
        refine lv_sipush (v := nI 255) hx hb dX10_decryptBlock_424 (by decide) ?_
        refine lv_iand hx hb dX10_decryptBlock_427 ?_
        refine lv_eqi (y := nI (byI (dS KC kw (xw0 bi io kw (KC + 6)) (2 * j + 1) 0) 0).toNat) (ix_and (dS KC kw (xw0 bi io kw (KC + 6)) (2 * j + 1) 0)) ?_
        refine xr_tiald C w ha_Tinv0 (i := (byI (dS KC kw (xw0 bi io kw (KC + 6)) (2 * j + 1) 0) 0).toNat) (by omega) (by omega) dX10_decryptBlock_428 ?_
        refine lv_eqi (y := (Tiw (six (byI (dS KC kw (xw0 bi io kw (KC + 6)) (2 * j + 1) 0) 0)))) (tTi_at _) ?_
        refine xr_gets C w hz_Tinv0 q588 dX10_decryptBlock_429 ?_
        refine lv_iload hx hb dX10_decryptBlock_432 (lv_at hl 0 rfl) ?_
        refine lv_bipush (v := nI 8) hx hb dX10_decryptBlock_434 (by decide) ?_
        refine lv_ishr hx hb dX10_decryptBlock_436 ?_
        refine lv_sipush (v := nI 255) hx hb dX10_decryptBlock_437 (by decide) ?_
        refine lv_iand hx hb dX10_decryptBlock_440 ?_
        refine lv_eqi (y := nI (byI (dS KC kw (xw0 bi io kw (KC + 6)) (2 * j + 1) 3) 1).toNat) (ix_sh (dS KC kw (xw0 bi io kw (KC + 6)) (2 * j + 1) 3) 1 (by decide)) ?_
        refine xr_tiald C w ha_Tinv0 (i := (byI (dS KC kw (xw0 bi io kw (KC + 6)) (2 * j + 1) 3) 1).toNat) (by omega) (by omega) dX10_decryptBlock_441 ?_
        refine lv_eqi (y := (Tiw (six (byI (dS KC kw (xw0 bi io kw (KC + 6)) (2 * j + 1) 3) 1)))) (tTi_at _) ?_
        refine lv_bipush (v := nI 24) hx hb dX10_decryptBlock_442 (by decide) ?_
        refine xr_callS0 (n := 2) (rest := [.int (Tiw (six (byI (dS KC kw (xw0 bi io kw (KC + 6)) (2 * j + 1) 0) 0)))]) C w (met_X10_shift l G s.heap.size (Tiw (six (byI (dS KC kw (xw0 bi io kw (KC + 6)) (2 * j + 1) 3) 1))) (nI 24) ) q434 q435 q19 q436 (by decide +kernel) ⟨rfl, rfl, by decide, by decide⟩ (fun _ _ _ _ h => h) (fun U hU hW => trivial) rfl hl.1 rfl (Nat.le_of_ble_eq_true rfl) dX10_decryptBlock_444 ⟨by decide, by decide⟩ (fun v hp => ?_)
        subst hp
        refine lv_ixor hx hb dX10_decryptBlock_447 ?_
        refine xr_gets C w hz_Tinv0 q588 dX10_decryptBlock_448 ?_
        refine lv_iload hx hb dX10_decryptBlock_451 (lv_at hl 2 rfl) ?_
        refine lv_bipush (v := nI 16) hx hb dX10_decryptBlock_453 (by decide) ?_
        refine lv_ishr hx hb dX10_decryptBlock_455 ?_
        refine lv_sipush (v := nI 255) hx hb dX10_decryptBlock_456 (by decide) ?_
        refine lv_iand hx hb dX10_decryptBlock_459 ?_
        refine lv_eqi (y := nI (byI (dS KC kw (xw0 bi io kw (KC + 6)) (2 * j + 1) 2) 2).toNat) (ix_sh (dS KC kw (xw0 bi io kw (KC + 6)) (2 * j + 1) 2) 2 (by decide)) ?_
        refine xr_tiald C w ha_Tinv0 (i := (byI (dS KC kw (xw0 bi io kw (KC + 6)) (2 * j + 1) 2) 2).toNat) (by omega) (by omega) dX10_decryptBlock_460 ?_
        refine lv_eqi (y := (Tiw (six (byI (dS KC kw (xw0 bi io kw (KC + 6)) (2 * j + 1) 2) 2)))) (tTi_at _) ?_
        refine lv_bipush (v := nI 16) hx hb dX10_decryptBlock_461 (by decide) ?_
        refine xr_callS0 (n := 2) (rest := [.int ((Tiw (six (byI (dS KC kw (xw0 bi io kw (KC + 6)) (2 * j + 1) 0) 0))) ^^^ (shf (Tiw (six (byI (dS KC kw (xw0 bi io kw (KC + 6)) (2 * j + 1) 3) 1))) (nI 24)))]) C w (met_X10_shift l G s.heap.size (Tiw (six (byI (dS KC kw (xw0 bi io kw (KC + 6)) (2 * j + 1) 2) 2))) (nI 16) ) q434 q435 q19 q436 (by decide +kernel) ⟨rfl, rfl, by decide, by decide⟩ (fun _ _ _ _ h => h) (fun U hU hW => trivial) rfl hl.1 rfl (Nat.le_of_ble_eq_true rfl) dX10_decryptBlock_463 ⟨by decide, by decide⟩ (fun v hp => ?_)
        subst hp
        refine lv_ixor hx hb dX10_decryptBlock_466 ?_
        refine xr_gets C w hz_Tinv0 q588 dX10_decryptBlock_467 ?_
        refine lv_iload hx hb dX10_decryptBlock_470 (lv_at hl 3 rfl) ?_
        refine lv_bipush (v := nI 24) hx hb dX10_decryptBlock_472 (by decide) ?_
        refine lv_ishr hx hb dX10_decryptBlock_474 ?_
        refine lv_sipush (v := nI 255) hx hb dX10_decryptBlock_475 (by decide) ?_
        refine lv_iand hx hb dX10_decryptBlock_478 ?_
        refine lv_eqi (y := nI (byI (dS KC kw (xw0 bi io kw (KC + 6)) (2 * j + 1) 1) 3).toNat) (ix_sh (dS KC kw (xw0 bi io kw (KC + 6)) (2 * j + 1) 1) 3 (by decide)) ?_
        refine xr_tiald C w ha_Tinv0 (i := (byI (dS KC kw (xw0 bi io kw (KC + 6)) (2 * j + 1) 1) 3).toNat) (by omega) (by omega) dX10_decryptBlock_479 ?_
        refine lv_eqi (y := (Tiw (six (byI (dS KC kw (xw0 bi io kw (KC + 6)) (2 * j + 1) 1) 3)))) (tTi_at _) ?_
        refine lv_bipush (v := nI 8) hx hb dX10_decryptBlock_480 (by decide) ?_
        refine xr_callS0 (n := 2) (rest := [.int (((Tiw (six (byI (dS KC kw (xw0 bi io kw (KC + 6)) (2 * j + 1) 0) 0))) ^^^ (shf (Tiw (six (byI (dS KC kw (xw0 bi io kw (KC + 6)) (2 * j + 1) 3) 1))) (nI 24))) ^^^ (shf (Tiw (six (byI (dS KC kw (xw0 bi io kw (KC + 6)) (2 * j + 1) 2) 2))) (nI 16)))]) C w (met_X10_shift l G s.heap.size (Tiw (six (byI (dS KC kw (xw0 bi io kw (KC + 6)) (2 * j + 1) 1) 3))) (nI 8) ) q434 q435 q19 q436 (by decide +kernel) ⟨rfl, rfl, by decide, by decide⟩ (fun _ _ _ _ h => h) (fun U hU hW => trivial) rfl hl.1 rfl (Nat.le_of_ble_eq_true rfl) dX10_decryptBlock_482 ⟨by decide, by decide⟩ (fun v hp => ?_)
        subst hp
        refine lv_ixor hx hb dX10_decryptBlock_485 ?_
        refine lv_aload hx hb dX10_decryptBlock_486 (lv_at hl 8 rfl) ?_
        refine lv_iload hx hb dX10_decryptBlock_488 (lv_at hl 1 rfl) ?_
        refine xr_aald C (i := KC + 4 - 2 * j) hKW.1 (by omega) (by omega) dX10_decryptBlock_490 ?_
        refine lv_eqr (v' := .ref (ad (KC + 4 - 2 * j))) rfl ?_
        refine lv_iconst (v := nI 0) hx hb dX10_decryptBlock_491 (by decide) ?_
        refine xr_iald C (i := 0) (hKW.2 (KC + 4 - 2 * j) (by omega)) (by omega) (by omega) dX10_decryptBlock_492 ?_
        refine lv_ixor hx hb dX10_decryptBlock_493 ?_
        refine lv_eqi (y := (dS KC kw (xw0 bi io kw (KC + 6)) (2 * (j + 1)) 0)) (dS_f0 (r := 2 * j + 1) (by omega) (by omega)) ?_
        refine lv_istore (lv' := [(10, .int (dS KC kw (xw0 bi io kw (KC + 6)) (2 * (j + 1)) 0)), (17, .int (dS KC kw (xw0 bi io kw (KC + 6)) (2 * j + 1) 3)), (13, .int (nI (KC + 4 - 2 * j))), (16, .int (dS KC kw (xw0 bi io kw (KC + 6)) (2 * j + 1) 2)), (15, .int (dS KC kw (xw0 bi io kw (KC + 6)) (2 * j + 1) 1)), (14, .int (dS KC kw (xw0 bi io kw (KC + 6)) (2 * j + 1) 0)), (0, .ref h), (3, .ref ho), (4, .int (nI oo)), (5, .ref wa), (11, .int (dS KC kw (xw0 bi io kw (KC + 6)) (2 * j) 1)), (12, .int (dS KC kw (xw0 bi io kw (KC + 6)) (2 * j) 2))]) hx hb dX10_decryptBlock_494 hl (by decide) rfl (fun ls hl => ?_)
        refine xr_gets C w hz_Tinv0 q588 dX10_decryptBlock_496 ?_
        refine lv_iload hx hb dX10_decryptBlock_499 (lv_at hl 4 rfl) ?_
        refine lv_sipush (v := nI 255) hx hb dX10_decryptBlock_501 (by decide) ?_
        refine lv_iand hx hb dX10_decryptBlock_504 ?_
        refine lv_eqi (y := nI (byI (dS KC kw (xw0 bi io kw (KC + 6)) (2 * j + 1) 1) 0).toNat) (ix_and (dS KC kw (xw0 bi io kw (KC + 6)) (2 * j + 1) 1)) ?_
        refine xr_tiald C w ha_Tinv0 (i := (byI (dS KC kw (xw0 bi io kw (KC + 6)) (2 * j + 1) 1) 0).toNat) (by omega) (by omega) dX10_decryptBlock_505 ?_
        refine lv_eqi (y := (Tiw (six (byI (dS KC kw (xw0 bi io kw (KC + 6)) (2 * j + 1) 1) 0)))) (tTi_at _) ?_
        refine xr_gets C w hz_Tinv0 q588 dX10_decryptBlock_506 ?_
        refine lv_iload hx hb dX10_decryptBlock_509 (lv_at hl 5 rfl) ?_
        refine lv_bipush (v := nI 8) hx hb dX10_decryptBlock_511 (by decide) ?_
        refine lv_ishr hx hb dX10_decryptBlock_513 ?_
        refine lv_sipush (v := nI 255) hx hb dX10_decryptBlock_514 (by decide) ?_
        refine lv_iand hx hb dX10_decryptBlock_517 ?_
        refine lv_eqi (y := nI (byI (dS KC kw (xw0 bi io kw (KC + 6)) (2 * j + 1) 0) 1).toNat) (ix_sh (dS KC kw (xw0 bi io kw (KC + 6)) (2 * j + 1) 0) 1 (by decide)) ?_
        refine xr_tiald C w ha_Tinv0 (i := (byI (dS KC kw (xw0 bi io kw (KC + 6)) (2 * j + 1) 0) 1).toNat) (by omega) (by omega) dX10_decryptBlock_518 ?_
        refine lv_eqi (y := (Tiw (six (byI (dS KC kw (xw0 bi io kw (KC + 6)) (2 * j + 1) 0) 1)))) (tTi_at _) ?_
        refine lv_bipush (v := nI 24) hx hb dX10_decryptBlock_519 (by decide) ?_
        refine xr_callS0 (n := 2) (rest := [.int (Tiw (six (byI (dS KC kw (xw0 bi io kw (KC + 6)) (2 * j + 1) 1) 0)))]) C w (met_X10_shift l G s.heap.size (Tiw (six (byI (dS KC kw (xw0 bi io kw (KC + 6)) (2 * j + 1) 0) 1))) (nI 24) ) q434 q435 q19 q436 (by decide +kernel) ⟨rfl, rfl, by decide, by decide⟩ (fun _ _ _ _ h => h) (fun U hU hW => trivial) rfl hl.1 rfl (Nat.le_of_ble_eq_true rfl) dX10_decryptBlock_521 ⟨by decide, by decide⟩ (fun v hp => ?_)
        subst hp
        refine lv_ixor hx hb dX10_decryptBlock_524 ?_
        refine xr_gets C w hz_Tinv0 q588 dX10_decryptBlock_525 ?_
        refine lv_iload hx hb dX10_decryptBlock_528 (lv_at hl 1 rfl) ?_
        refine lv_bipush (v := nI 16) hx hb dX10_decryptBlock_530 (by decide) ?_
        refine lv_ishr hx hb dX10_decryptBlock_532 ?_
        refine lv_sipush (v := nI 255) hx hb dX10_decryptBlock_533 (by decide) ?_
        refine lv_iand hx hb dX10_decryptBlock_536 ?_
        refine lv_eqi (y := nI (byI (dS KC kw (xw0 bi io kw (KC + 6)) (2 * j + 1) 3) 2).toNat) (ix_sh (dS KC kw (xw0 bi io kw (KC + 6)) (2 * j + 1) 3) 2 (by decide)) ?_
        refine xr_tiald C w ha_Tinv0 (i := (byI (dS KC kw (xw0 bi io kw (KC + 6)) (2 * j + 1) 3) 2).toNat) (by omega) (by omega) dX10_decryptBlock_537 ?_
        refine lv_eqi (y := (Tiw (six (byI (dS KC kw (xw0 bi io kw (KC + 6)) (2 * j + 1) 3) 2)))) (tTi_at _) ?_
        refine lv_bipush (v := nI 16) hx hb dX10_decryptBlock_538 (by decide) ?_
        refine xr_callS0 (n := 2) (rest := [.int ((Tiw (six (byI (dS KC kw (xw0 bi io kw (KC + 6)) (2 * j + 1) 1) 0))) ^^^ (shf (Tiw (six (byI (dS KC kw (xw0 bi io kw (KC + 6)) (2 * j + 1) 0) 1))) (nI 24)))]) C w (met_X10_shift l G s.heap.size (Tiw (six (byI (dS KC kw (xw0 bi io kw (KC + 6)) (2 * j + 1) 3) 2))) (nI 16) ) q434 q435 q19 q436 (by decide +kernel) ⟨rfl, rfl, by decide, by decide⟩ (fun _ _ _ _ h => h) (fun U hU hW => trivial) rfl hl.1 rfl (Nat.le_of_ble_eq_true rfl) dX10_decryptBlock_540 ⟨by decide, by decide⟩ (fun v hp => ?_)
        subst hp
        refine lv_ixor hx hb dX10_decryptBlock_543 ?_
        refine xr_gets C w hz_Tinv0 q588 dX10_decryptBlock_544 ?_
        refine lv_iload hx hb dX10_decryptBlock_547 (lv_at hl 3 rfl) ?_
        refine lv_bipush (v := nI 24) hx hb dX10_decryptBlock_549 (by decide) ?_
        refine lv_ishr hx hb dX10_decryptBlock_551 ?_
        refine lv_sipush (v := nI 255) hx hb dX10_decryptBlock_552 (by decide) ?_
        refine lv_iand hx hb dX10_decryptBlock_555 ?_
        refine lv_eqi (y := nI (byI (dS KC kw (xw0 bi io kw (KC + 6)) (2 * j + 1) 2) 3).toNat) (ix_sh (dS KC kw (xw0 bi io kw (KC + 6)) (2 * j + 1) 2) 3 (by decide)) ?_
        refine xr_tiald C w ha_Tinv0 (i := (byI (dS KC kw (xw0 bi io kw (KC + 6)) (2 * j + 1) 2) 3).toNat) (by omega) (by omega) dX10_decryptBlock_556 ?_
        refine lv_eqi (y := (Tiw (six (byI (dS KC kw (xw0 bi io kw (KC + 6)) (2 * j + 1) 2) 3)))) (tTi_at _) ?_
        refine lv_bipush (v := nI 8) hx hb dX10_decryptBlock_557 (by decide) ?_
        refine xr_callS0 (n := 2) (rest := [.int (((Tiw (six (byI (dS KC kw (xw0 bi io kw (KC + 6)) (2 * j + 1) 1) 0))) ^^^ (shf (Tiw (six (byI (dS KC kw (xw0 bi io kw (KC + 6)) (2 * j + 1) 0) 1))) (nI 24))) ^^^ (shf (Tiw (six (byI (dS KC kw (xw0 bi io kw (KC + 6)) (2 * j + 1) 3) 2))) (nI 16)))]) C w (met_X10_shift l G s.heap.size (Tiw (six (byI (dS KC kw (xw0 bi io kw (KC + 6)) (2 * j + 1) 2) 3))) (nI 8) ) q434 q435 q19 q436 (by decide +kernel) ⟨rfl, rfl, by decide, by decide⟩ (fun _ _ _ _ h => h) (fun U hU hW => trivial) rfl hl.1 rfl (Nat.le_of_ble_eq_true rfl) dX10_decryptBlock_559 ⟨by decide, by decide⟩ (fun v hp => ?_)
        subst hp
        refine lv_ixor hx hb dX10_decryptBlock_562 ?_
        refine lv_aload hx hb dX10_decryptBlock_563 (lv_at hl 9 rfl) ?_
        refine lv_iload hx hb dX10_decryptBlock_565 (lv_at hl 2 rfl) ?_
        refine xr_aald C (i := KC + 4 - 2 * j) hKW.1 (by omega) (by omega) dX10_decryptBlock_567 ?_
        refine lv_eqr (v' := .ref (ad (KC + 4 - 2 * j))) rfl ?_
        refine lv_iconst (v := nI 1) hx hb dX10_decryptBlock_568 (by decide) ?_
        refine xr_iald C (i := 1) (hKW.2 (KC + 4 - 2 * j) (by omega)) (by omega) (by omega) dX10_decryptBlock_569 ?_
        refine lv_ixor hx hb dX10_decryptBlock_570 ?_
        refine lv_eqi (y := (dS KC kw (xw0 bi io kw (KC + 6)) (2 * (j + 1)) 1)) (dS_f1 (r := 2 * j + 1) (by omega) (by omega)) ?_
        refine lv_istore (lv' := [(11, .int (dS KC kw (xw0 bi io kw (KC + 6)) (2 * (j + 1)) 1)), (10, .int (dS KC kw (xw0 bi io kw (KC + 6)) (2 * (j + 1)) 0)), (17, .int (dS KC kw (xw0 bi io kw (KC + 6)) (2 * j + 1) 3)), (13, .int (nI (KC + 4 - 2 * j))), (16, .int (dS KC kw (xw0 bi io kw (KC + 6)) (2 * j + 1) 2)), (15, .int (dS KC kw (xw0 bi io kw (KC + 6)) (2 * j + 1) 1)), (14, .int (dS KC kw (xw0 bi io kw (KC + 6)) (2 * j + 1) 0)), (0, .ref h), (3, .ref ho), (4, .int (nI oo)), (5, .ref wa), (12, .int (dS KC kw (xw0 bi io kw (KC + 6)) (2 * j) 2))]) hx hb dX10_decryptBlock_571 hl (by decide) rfl (fun ls hl => ?_)
        refine xr_gets C w hz_Tinv0 q588 dX10_decryptBlock_573 ?_
        refine lv_iload hx hb dX10_decryptBlock_576 (lv_at hl 4 rfl) ?_
        refine lv_sipush (v := nI 255) hx hb dX10_decryptBlock_578 (by decide) ?_
        refine lv_iand hx hb dX10_decryptBlock_581 ?_
        refine lv_eqi (y := nI (byI (dS KC kw (xw0 bi io kw (KC + 6)) (2 * j + 1) 2) 0).toNat) (ix_and (dS KC kw (xw0 bi io kw (KC + 6)) (2 * j + 1) 2)) ?_
        refine xr_tiald C w ha_Tinv0 (i := (byI (dS KC kw (xw0 bi io kw (KC + 6)) (2 * j + 1) 2) 0).toNat) (by omega) (by omega) dX10_decryptBlock_582 ?_
        refine lv_eqi (y := (Tiw (six (byI (dS KC kw (xw0 bi io kw (KC + 6)) (2 * j + 1) 2) 0)))) (tTi_at _) ?_
        refine xr_gets C w hz_Tinv0 q588 dX10_decryptBlock_583 ?_
        refine lv_iload hx hb dX10_decryptBlock_586 (lv_at hl 5 rfl) ?_
        refine lv_bipush (v := nI 8) hx hb dX10_decryptBlock_588 (by decide) ?_
        refine lv_ishr hx hb dX10_decryptBlock_590 ?_
        refine lv_sipush (v := nI 255) hx hb dX10_decryptBlock_591 (by decide) ?_
        refine lv_iand hx hb dX10_decryptBlock_594 ?_
        refine lv_eqi (y := nI (byI (dS KC kw (xw0 bi io kw (KC + 6)) (2 * j + 1) 1) 1).toNat) (ix_sh (dS KC kw (xw0 bi io kw (KC + 6)) (2 * j + 1) 1) 1 (by decide)) ?_
        refine xr_tiald C w ha_Tinv0 (i := (byI (dS KC kw (xw0 bi io kw (KC + 6)) (2 * j + 1) 1) 1).toNat) (by omega) (by omega) dX10_decryptBlock_595 ?_
        refine lv_eqi (y := (Tiw (six (byI (dS KC kw (xw0 bi io kw (KC + 6)) (2 * j + 1) 1) 1)))) (tTi_at _) ?_
        refine lv_bipush (v := nI 24) hx hb dX10_decryptBlock_596 (by decide) ?_
        refine xr_callS0 (n := 2) (rest := [.int (Tiw (six (byI (dS KC kw (xw0 bi io kw (KC + 6)) (2 * j + 1) 2) 0)))]) C w (met_X10_shift l G s.heap.size (Tiw (six (byI (dS KC kw (xw0 bi io kw (KC + 6)) (2 * j + 1) 1) 1))) (nI 24) ) q434 q435 q19 q436 (by decide +kernel) ⟨rfl, rfl, by decide, by decide⟩ (fun _ _ _ _ h => h) (fun U hU hW => trivial) rfl hl.1 rfl (Nat.le_of_ble_eq_true rfl) dX10_decryptBlock_598 ⟨by decide, by decide⟩ (fun v hp => ?_)
        subst hp
        refine lv_ixor hx hb dX10_decryptBlock_601 ?_
        refine xr_gets C w hz_Tinv0 q588 dX10_decryptBlock_602 ?_
        refine lv_iload hx hb dX10_decryptBlock_605 (lv_at hl 6 rfl) ?_
        refine lv_bipush (v := nI 16) hx hb dX10_decryptBlock_607 (by decide) ?_
        refine lv_ishr hx hb dX10_decryptBlock_609 ?_
        refine lv_sipush (v := nI 255) hx hb dX10_decryptBlock_610 (by decide) ?_
        refine lv_iand hx hb dX10_decryptBlock_613 ?_
        refine lv_eqi (y := nI (byI (dS KC kw (xw0 bi io kw (KC + 6)) (2 * j + 1) 0) 2).toNat) (ix_sh (dS KC kw (xw0 bi io kw (KC + 6)) (2 * j + 1) 0) 2 (by decide)) ?_
        refine xr_tiald C w ha_Tinv0 (i := (byI (dS KC kw (xw0 bi io kw (KC + 6)) (2 * j + 1) 0) 2).toNat) (by omega) (by omega) dX10_decryptBlock_614 ?_
        refine lv_eqi (y := (Tiw (six (byI (dS KC kw (xw0 bi io kw (KC + 6)) (2 * j + 1) 0) 2)))) (tTi_at _) ?_
        refine lv_bipush (v := nI 16) hx hb dX10_decryptBlock_615 (by decide) ?_
        refine xr_callS0 (n := 2) (rest := [.int ((Tiw (six (byI (dS KC kw (xw0 bi io kw (KC + 6)) (2 * j + 1) 2) 0))) ^^^ (shf (Tiw (six (byI (dS KC kw (xw0 bi io kw (KC + 6)) (2 * j + 1) 1) 1))) (nI 24)))]) C w (met_X10_shift l G s.heap.size (Tiw (six (byI (dS KC kw (xw0 bi io kw (KC + 6)) (2 * j + 1) 0) 2))) (nI 16) ) q434 q435 q19 q436 (by decide +kernel) ⟨rfl, rfl, by decide, by decide⟩ (fun _ _ _ _ h => h) (fun U hU hW => trivial) rfl hl.1 rfl (Nat.le_of_ble_eq_true rfl) dX10_decryptBlock_617 ⟨by decide, by decide⟩ (fun v hp => ?_)
        subst hp
        refine lv_ixor hx hb dX10_decryptBlock_620 ?_
        refine xr_gets C w hz_Tinv0 q588 dX10_decryptBlock_621 ?_
        refine lv_iload hx hb dX10_decryptBlock_624 (lv_at hl 2 rfl) ?_
        refine lv_bipush (v := nI 24) hx hb dX10_decryptBlock_626 (by decide) ?_
        refine lv_ishr hx hb dX10_decryptBlock_628 ?_
        refine lv_sipush (v := nI 255) hx hb dX10_decryptBlock_629 (by decide) ?_
        refine lv_iand hx hb dX10_decryptBlock_632 ?_
        refine lv_eqi (y := nI (byI (dS KC kw (xw0 bi io kw (KC + 6)) (2 * j + 1) 3) 3).toNat) (ix_sh (dS KC kw (xw0 bi io kw (KC + 6)) (2 * j + 1) 3) 3 (by decide)) ?_
        refine xr_tiald C w ha_Tinv0 (i := (byI (dS KC kw (xw0 bi io kw (KC + 6)) (2 * j + 1) 3) 3).toNat) (by omega) (by omega) dX10_decryptBlock_633 ?_
        refine lv_eqi (y := (Tiw (six (byI (dS KC kw (xw0 bi io kw (KC + 6)) (2 * j + 1) 3) 3)))) (tTi_at _) ?_
        refine lv_bipush (v := nI 8) hx hb dX10_decryptBlock_634 (by decide) ?_
        refine xr_callS0 (n := 2) (rest := [.int (((Tiw (six (byI (dS KC kw (xw0 bi io kw (KC + 6)) (2 * j + 1) 2) 0))) ^^^ (shf (Tiw (six (byI (dS KC kw (xw0 bi io kw (KC + 6)) (2 * j + 1) 1) 1))) (nI 24))) ^^^ (shf (Tiw (six (byI (dS KC kw (xw0 bi io kw (KC + 6)) (2 * j + 1) 0) 2))) (nI 16)))]) C w (met_X10_shift l G s.heap.size (Tiw (six (byI (dS KC kw (xw0 bi io kw (KC + 6)) (2 * j + 1) 3) 3))) (nI 8) ) q434 q435 q19 q436 (by decide +kernel) ⟨rfl, rfl, by decide, by decide⟩ (fun _ _ _ _ h => h) (fun U hU hW => trivial) rfl hl.1 rfl (Nat.le_of_ble_eq_true rfl) dX10_decryptBlock_636 ⟨by decide, by decide⟩ (fun v hp => ?_)
        subst hp
        refine lv_ixor hx hb dX10_decryptBlock_639 ?_
        refine lv_aload hx hb dX10_decryptBlock_640 (lv_at hl 10 rfl) ?_
        refine lv_iload hx hb dX10_decryptBlock_642 (lv_at hl 3 rfl) ?_
        refine xr_aald C (i := KC + 4 - 2 * j) hKW.1 (by omega) (by omega) dX10_decryptBlock_644 ?_
        refine lv_eqr (v' := .ref (ad (KC + 4 - 2 * j))) rfl ?_
        refine lv_iconst (v := nI 2) hx hb dX10_decryptBlock_645 (by decide) ?_
        refine xr_iald C (i := 2) (hKW.2 (KC + 4 - 2 * j) (by omega)) (by omega) (by omega) dX10_decryptBlock_646 ?_
        refine lv_ixor hx hb dX10_decryptBlock_647 ?_
        refine lv_eqi (y := (dS KC kw (xw0 bi io kw (KC + 6)) (2 * (j + 1)) 2)) (dS_f2 (r := 2 * j + 1) (by omega) (by omega)) ?_
        refine lv_istore (lv' := [(12, .int (dS KC kw (xw0 bi io kw (KC + 6)) (2 * (j + 1)) 2)), (11, .int (dS KC kw (xw0 bi io kw (KC + 6)) (2 * (j + 1)) 1)), (10, .int (dS KC kw (xw0 bi io kw (KC + 6)) (2 * (j + 1)) 0)), (17, .int (dS KC kw (xw0 bi io kw (KC + 6)) (2 * j + 1) 3)), (13, .int (nI (KC + 4 - 2 * j))), (16, .int (dS KC kw (xw0 bi io kw (KC + 6)) (2 * j + 1) 2)), (15, .int (dS KC kw (xw0 bi io kw (KC + 6)) (2 * j + 1) 1)), (14, .int (dS KC kw (xw0 bi io kw (KC + 6)) (2 * j + 1) 0)), (0, .ref h), (3, .ref ho), (4, .int (nI oo)), (5, .ref wa)]) hx hb dX10_decryptBlock_648 hl (by decide) rfl (fun ls hl => ?_)
        refine xr_gets C w hz_Tinv0 q588 dX10_decryptBlock_650 ?_
        refine lv_iload hx hb dX10_decryptBlock_653 (lv_at hl 3 rfl) ?_
        refine lv_sipush (v := nI 255) hx hb dX10_decryptBlock_655 (by decide) ?_
        refine lv_iand hx hb dX10_decryptBlock_658 ?_
        refine lv_eqi (y := nI (byI (dS KC kw (xw0 bi io kw (KC + 6)) (2 * j + 1) 3) 0).toNat) (ix_and (dS KC kw (xw0 bi io kw (KC + 6)) (2 * j + 1) 3)) ?_
        refine xr_tiald C w ha_Tinv0 (i := (byI (dS KC kw (xw0 bi io kw (KC + 6)) (2 * j + 1) 3) 0).toNat) (by omega) (by omega) dX10_decryptBlock_659 ?_
        refine lv_eqi (y := (Tiw (six (byI (dS KC kw (xw0 bi io kw (KC + 6)) (2 * j + 1) 3) 0)))) (tTi_at _) ?_
        refine xr_gets C w hz_Tinv0 q588 dX10_decryptBlock_660 ?_
        refine lv_iload hx hb dX10_decryptBlock_663 (lv_at hl 5 rfl) ?_
        refine lv_bipush (v := nI 8) hx hb dX10_decryptBlock_665 (by decide) ?_
        refine lv_ishr hx hb dX10_decryptBlock_667 ?_
        refine lv_sipush (v := nI 255) hx hb dX10_decryptBlock_668 (by decide) ?_
        refine lv_iand hx hb dX10_decryptBlock_671 ?_
        refine lv_eqi (y := nI (byI (dS KC kw (xw0 bi io kw (KC + 6)) (2 * j + 1) 2) 1).toNat) (ix_sh (dS KC kw (xw0 bi io kw (KC + 6)) (2 * j + 1) 2) 1 (by decide)) ?_
        refine xr_tiald C w ha_Tinv0 (i := (byI (dS KC kw (xw0 bi io kw (KC + 6)) (2 * j + 1) 2) 1).toNat) (by omega) (by omega) dX10_decryptBlock_672 ?_
        refine lv_eqi (y := (Tiw (six (byI (dS KC kw (xw0 bi io kw (KC + 6)) (2 * j + 1) 2) 1)))) (tTi_at _) ?_
        refine lv_bipush (v := nI 24) hx hb dX10_decryptBlock_673 (by decide) ?_
        refine xr_callS0 (n := 2) (rest := [.int (Tiw (six (byI (dS KC kw (xw0 bi io kw (KC + 6)) (2 * j + 1) 3) 0)))]) C w (met_X10_shift l G s.heap.size (Tiw (six (byI (dS KC kw (xw0 bi io kw (KC + 6)) (2 * j + 1) 2) 1))) (nI 24) ) q434 q435 q19 q436 (by decide +kernel) ⟨rfl, rfl, by decide, by decide⟩ (fun _ _ _ _ h => h) (fun U hU hW => trivial) rfl hl.1 rfl (Nat.le_of_ble_eq_true rfl) dX10_decryptBlock_675 ⟨by decide, by decide⟩ (fun v hp => ?_)
        subst hp
        refine lv_ixor hx hb dX10_decryptBlock_678 ?_
        refine xr_gets C w hz_Tinv0 q588 dX10_decryptBlock_679 ?_
        refine lv_iload hx hb dX10_decryptBlock_682 (lv_at hl 6 rfl) ?_
        refine lv_bipush (v := nI 16) hx hb dX10_decryptBlock_684 (by decide) ?_
        refine lv_ishr hx hb dX10_decryptBlock_686 ?_
        refine lv_sipush (v := nI 255) hx hb dX10_decryptBlock_687 (by decide) ?_
        refine lv_iand hx hb dX10_decryptBlock_690 ?_
        refine lv_eqi (y := nI (byI (dS KC kw (xw0 bi io kw (KC + 6)) (2 * j + 1) 1) 2).toNat) (ix_sh (dS KC kw (xw0 bi io kw (KC + 6)) (2 * j + 1) 1) 2 (by decide)) ?_
        refine xr_tiald C w ha_Tinv0 (i := (byI (dS KC kw (xw0 bi io kw (KC + 6)) (2 * j + 1) 1) 2).toNat) (by omega) (by omega) dX10_decryptBlock_691 ?_
        refine lv_eqi (y := (Tiw (six (byI (dS KC kw (xw0 bi io kw (KC + 6)) (2 * j + 1) 1) 2)))) (tTi_at _) ?_
        refine lv_bipush (v := nI 16) hx hb dX10_decryptBlock_692 (by decide) ?_
        refine xr_callS0 (n := 2) (rest := [.int ((Tiw (six (byI (dS KC kw (xw0 bi io kw (KC + 6)) (2 * j + 1) 3) 0))) ^^^ (shf (Tiw (six (byI (dS KC kw (xw0 bi io kw (KC + 6)) (2 * j + 1) 2) 1))) (nI 24)))]) C w (met_X10_shift l G s.heap.size (Tiw (six (byI (dS KC kw (xw0 bi io kw (KC + 6)) (2 * j + 1) 1) 2))) (nI 16) ) q434 q435 q19 q436 (by decide +kernel) ⟨rfl, rfl, by decide, by decide⟩ (fun _ _ _ _ h => h) (fun U hU hW => trivial) rfl hl.1 rfl (Nat.le_of_ble_eq_true rfl) dX10_decryptBlock_694 ⟨by decide, by decide⟩ (fun v hp => ?_)
        subst hp
        refine lv_ixor hx hb dX10_decryptBlock_697 ?_
        refine xr_gets C w hz_Tinv0 q588 dX10_decryptBlock_698 ?_
        refine lv_iload hx hb dX10_decryptBlock_701 (lv_at hl 7 rfl) ?_
        refine lv_bipush (v := nI 24) hx hb dX10_decryptBlock_703 (by decide) ?_
        refine lv_ishr hx hb dX10_decryptBlock_705 ?_
        refine lv_sipush (v := nI 255) hx hb dX10_decryptBlock_706 (by decide) ?_
        refine lv_iand hx hb dX10_decryptBlock_709 ?_
        refine lv_eqi (y := nI (byI (dS KC kw (xw0 bi io kw (KC + 6)) (2 * j + 1) 0) 3).toNat) (ix_sh (dS KC kw (xw0 bi io kw (KC + 6)) (2 * j + 1) 0) 3 (by decide)) ?_
        refine xr_tiald C w ha_Tinv0 (i := (byI (dS KC kw (xw0 bi io kw (KC + 6)) (2 * j + 1) 0) 3).toNat) (by omega) (by omega) dX10_decryptBlock_710 ?_
        refine lv_eqi (y := (Tiw (six (byI (dS KC kw (xw0 bi io kw (KC + 6)) (2 * j + 1) 0) 3)))) (tTi_at _) ?_
        refine lv_bipush (v := nI 8) hx hb dX10_decryptBlock_711 (by decide) ?_
        refine xr_callS0 (n := 2) (rest := [.int (((Tiw (six (byI (dS KC kw (xw0 bi io kw (KC + 6)) (2 * j + 1) 3) 0))) ^^^ (shf (Tiw (six (byI (dS KC kw (xw0 bi io kw (KC + 6)) (2 * j + 1) 2) 1))) (nI 24))) ^^^ (shf (Tiw (six (byI (dS KC kw (xw0 bi io kw (KC + 6)) (2 * j + 1) 1) 2))) (nI 16)))]) C w (met_X10_shift l G s.heap.size (Tiw (six (byI (dS KC kw (xw0 bi io kw (KC + 6)) (2 * j + 1) 0) 3))) (nI 8) ) q434 q435 q19 q436 (by decide +kernel) ⟨rfl, rfl, by decide, by decide⟩ (fun _ _ _ _ h => h) (fun U hU hW => trivial) rfl hl.1 rfl (Nat.le_of_ble_eq_true rfl) dX10_decryptBlock_713 ⟨by decide, by decide⟩ (fun v hp => ?_)
        subst hp
        refine lv_ixor hx hb dX10_decryptBlock_716 ?_
        refine lv_aload hx hb dX10_decryptBlock_717 (lv_at hl 11 rfl) ?_
        refine lv_iload hx hb dX10_decryptBlock_719 (lv_at hl 4 rfl) ?_
        refine lv_iinc (v := nI (KC + 5 - 2 * (j + 1))) (lv' := [(13, .int (nI (KC + 5 - 2 * (j + 1)))), (12, .int (dS KC kw (xw0 bi io kw (KC + 6)) (2 * (j + 1)) 2)), (11, .int (dS KC kw (xw0 bi io kw (KC + 6)) (2 * (j + 1)) 1)), (10, .int (dS KC kw (xw0 bi io kw (KC + 6)) (2 * (j + 1)) 0)), (17, .int (dS KC kw (xw0 bi io kw (KC + 6)) (2 * j + 1) 3)), (16, .int (dS KC kw (xw0 bi io kw (KC + 6)) (2 * j + 1) 2)), (15, .int (dS KC kw (xw0 bi io kw (KC + 6)) (2 * j + 1) 1)), (14, .int (dS KC kw (xw0 bi io kw (KC + 6)) (2 * j + 1) 0)), (0, .ref h), (3, .ref ho), (4, .int (nI oo)), (5, .ref wa)]) hx hb dX10_decryptBlock_721 hl (k := 4) rfl ((sb_m1 (by omega)).trans (by rw [show KC + 4 - 2 * j - 1 = KC + 5 - 2 * (j + 1) by omega])) (by decide) rfl (fun ls hl => ?_)
        refine xr_aald C (i := KC + 4 - 2 * j) hKW.1 (by omega) (by omega) dX10_decryptBlock_724 ?_
        refine lv_eqr (v' := .ref (ad (KC + 4 - 2 * j))) rfl ?_
        refine lv_iconst (v := nI 3) hx hb dX10_decryptBlock_725 (by decide) ?_
        refine xr_iald C (i := 3) (hKW.2 (KC + 4 - 2 * j) (by omega)) (by omega) (by omega) dX10_decryptBlock_726 ?_
        refine lv_ixor hx hb dX10_decryptBlock_727 ?_
        refine lv_eqi (y := (dS KC kw (xw0 bi io kw (KC + 6)) (2 * (j + 1)) 3)) (dS_f3 (r := 2 * j + 1) (by omega) (by omega)) ?_
        refine lv_istore (lv' := [(17, .int (dS KC kw (xw0 bi io kw (KC + 6)) (2 * (j + 1)) 3)), (13, .int (nI (KC + 5 - 2 * (j + 1)))), (12, .int (dS KC kw (xw0 bi io kw (KC + 6)) (2 * (j + 1)) 2)), (11, .int (dS KC kw (xw0 bi io kw (KC + 6)) (2 * (j + 1)) 1)), (10, .int (dS KC kw (xw0 bi io kw (KC + 6)) (2 * (j + 1)) 0)), (16, .int (dS KC kw (xw0 bi io kw (KC + 6)) (2 * j + 1) 2)), (15, .int (dS KC kw (xw0 bi io kw (KC + 6)) (2 * j + 1) 1)), (14, .int (dS KC kw (xw0 bi io kw (KC + 6)) (2 * j + 1) 0)), (0, .ref h), (3, .ref ho), (4, .int (nI oo)), (5, .ref wa)]) hx hb dX10_decryptBlock_728 hl (by decide) rfl (fun ls hl => ?_)
        refine lv_goto (tgt := 102) hx hb dX10_decryptBlock_730 (by decide) ?_
        exact ih_102 (j + 1) (by omega) (by omega) _ (lv_sub hl [8, 9, 10, 11, 4, 3, 2, 0, 1] rfl)
  exact loop_102 ((KC + 5 - 2 * 0) + 1) 0 (by omega) (by omega) _ (lv_sub hl [9, 12, 13, 14, 4, 3, 2, 0, 1] rfl)
