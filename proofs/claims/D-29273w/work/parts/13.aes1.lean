/-! AES 1: subWord, generateWorkingKey; printed by tools/aes1.py -/
set_option maxHeartbeats 4000000 in
set_option maxRecDepth 100000 in
theorem met_X10_subWord (l : Launch) (G : GG) (sz : Nat) (x : Int32)  : Met l yX10_subWord (ws_ yX10_subWord cX10_subWord 1 (some .int)) ({ frames := 0, cells := 0, slots := 0, locals := 0 } : Room) (va_Pc [.int x] (PP G [] sz (fun _ => True))) (CQ0 (fun v => v = some (.int (sbw x)))) 0 0 (fun _ => False) := by
  refine xr_met (own := RX10) (by decide) rfl (Nat.le_of_ble_eq_true rfl) ?_
  intro p e s m args below meth c ls Q A C hlk hr hnm hsz hAe w hRD hQ hl
  have hx := C.1
  have hb := C.2.1
  have w : Wd G A [] s s.heap s.heap [] := w
  have hl : lv_has ls 1 [(0, .int x)] := hl
  obtain ⟨t_S, hz_S, ha_S⟩ := (w.2.2.2.2.1.1).T
  refine xr_gets C w hz_S q440 dX10_subWord_0 ?_
  refine lv_iload_n hx hb dX10_subWord_3 rfl (lv_at hl 0 rfl) ?_
  refine lv_sipush (v := nI 255) hx hb dX10_subWord_4 (by decide) ?_
  refine lv_iand hx hb dX10_subWord_7 ?_
  refine lv_eqi (y := nI (byI x 0).toNat) (ix_and x) ?_
  refine xr_tbald C w ha_S (i := (byI x 0).toNat) (by omega) (by omega) dX10_subWord_8 ?_
  refine lv_eqi (y := (sB (sbx (byI x 0)))) (tS_at _) ?_
  refine lv_sipush (v := nI 255) hx hb dX10_subWord_9 (by decide) ?_
  refine lv_iand hx hb dX10_subWord_12 ?_
  refine lv_eqi (y := uB (sbx (byI x 0))) (sB_and _) ?_
  refine xr_gets C w hz_S q440 dX10_subWord_13 ?_
  refine lv_iload_n hx hb dX10_subWord_16 rfl (lv_at hl 0 rfl) ?_
  refine lv_bipush (v := nI 8) hx hb dX10_subWord_17 (by decide) ?_
  refine lv_ishr hx hb dX10_subWord_19 ?_
  refine lv_sipush (v := nI 255) hx hb dX10_subWord_20 (by decide) ?_
  refine lv_iand hx hb dX10_subWord_23 ?_
  refine lv_eqi (y := nI (byI x 1).toNat) (ix_sh x 1 (by decide)) ?_
  refine xr_tbald C w ha_S (i := (byI x 1).toNat) (by omega) (by omega) dX10_subWord_24 ?_
  refine lv_eqi (y := (sB (sbx (byI x 1)))) (tS_at _) ?_
  refine lv_sipush (v := nI 255) hx hb dX10_subWord_25 (by decide) ?_
  refine lv_iand hx hb dX10_subWord_28 ?_
  refine lv_eqi (y := uB (sbx (byI x 1))) (sB_and _) ?_
  refine lv_bipush (v := nI 8) hx hb dX10_subWord_29 (by decide) ?_
  refine lv_ishl hx hb dX10_subWord_31 ?_
  refine lv_ior hx hb dX10_subWord_32 ?_
  refine xr_gets C w hz_S q440 dX10_subWord_33 ?_
  refine lv_iload_n hx hb dX10_subWord_36 rfl (lv_at hl 0 rfl) ?_
  refine lv_bipush (v := nI 16) hx hb dX10_subWord_37 (by decide) ?_
  refine lv_ishr hx hb dX10_subWord_39 ?_
  refine lv_sipush (v := nI 255) hx hb dX10_subWord_40 (by decide) ?_
  refine lv_iand hx hb dX10_subWord_43 ?_
  refine lv_eqi (y := nI (byI x 2).toNat) (ix_sh x 2 (by decide)) ?_
  refine xr_tbald C w ha_S (i := (byI x 2).toNat) (by omega) (by omega) dX10_subWord_44 ?_
  refine lv_eqi (y := (sB (sbx (byI x 2)))) (tS_at _) ?_
  refine lv_sipush (v := nI 255) hx hb dX10_subWord_45 (by decide) ?_
  refine lv_iand hx hb dX10_subWord_48 ?_
  refine lv_eqi (y := uB (sbx (byI x 2))) (sB_and _) ?_
  refine lv_bipush (v := nI 16) hx hb dX10_subWord_49 (by decide) ?_
  refine lv_ishl hx hb dX10_subWord_51 ?_
  refine lv_ior hx hb dX10_subWord_52 ?_
  refine xr_gets C w hz_S q440 dX10_subWord_53 ?_
  refine lv_iload_n hx hb dX10_subWord_56 rfl (lv_at hl 0 rfl) ?_
  refine lv_bipush (v := nI 24) hx hb dX10_subWord_57 (by decide) ?_
  refine lv_ishr hx hb dX10_subWord_59 ?_
  refine lv_sipush (v := nI 255) hx hb dX10_subWord_60 (by decide) ?_
  refine lv_iand hx hb dX10_subWord_63 ?_
  refine lv_eqi (y := nI (byI x 3).toNat) (ix_sh x 3 (by decide)) ?_
  refine xr_tbald C w ha_S (i := (byI x 3).toNat) (by omega) (by omega) dX10_subWord_64 ?_
  refine lv_eqi (y := (sB (sbx (byI x 3)))) (tS_at _) ?_
  refine lv_bipush (v := nI 24) hx hb dX10_subWord_65 (by decide) ?_
  refine lv_ishl hx hb dX10_subWord_67 ?_
  refine lv_ior hx hb dX10_subWord_68 ?_
  refine lv_eqi (y := (sbw x)) (mk_or _ _ _ _) ?_
  exact xr_iret0 C hlk hr hQ (rfl) dX10_subWord_69

set_option maxHeartbeats 4000000 in
set_option maxRecDepth 100000 in
theorem met_gwk4 (l : Launch) (G : GG) (sz : Nat) (h : Nat) (ky : Nat) (b : Nat → BitVec 8) (z : Nat) (r0 : Int32) (v1 : Value) (r2 : Int32) (v3 : Value) (hz : z < 2) (ap0_0 : h ≠ ky) : Met l yX10_generateWorkingKey (ws_ yX10_generateWorkingKey cX10_generateWorkingKey 17 (some (.array (.array .int)))) ({ frames := 2, cells := 16, slots := 75, locals := 60 } : Room) (va_Pc [.ref h, .ref ky, .int (nI z)] (PP G [(h, xO 6 [.int r0, v1, .int r2, v3])] sz (fun U : State => va_P G.1 vwCl [(ky, xB G (4 * 4) b)] U.heap))) (CQ G [(h, xO 6 [.int r0, v1, .int r2, v3])] sz (fun u : Nat => [(h, xO 6 [.int (nI (4 + 6)), v1, .int r2, v3])]) (fun (u : Nat) (v : Option Value) (H : Heap) => v = some (.ref u) ∧ sz ≤ u ∧ KW G u (4 + 7) (fun r => u + 1 + r) (kwF 4 (keyw b) z) H)) 16 75 (va_A [(h, xO 6 [.int r0, v1, .int r2, v3])] sz) := by
  refine xr_met (own := RX10) (by decide) rfl (Nat.le_of_ble_eq_true rfl) ?_
  intro p e s m args below meth c ls Q A C hlk hr hnm hsz hAe w hRD hQ hl
  have hx := C.1
  have hb := C.2.1
  have w : Wd G A [(h, xO 6 [.int r0, v1, .int r2, v3])] s s.heap s.heap [] := w
  have hl : lv_has ls 17 [(0, .ref h), (1, .ref ky), (2, .int (nI z))] := hl
  have hRd := hRD
  have hR0 : va_P G.1 vwCl [(ky, xB G (4 * 4) b)] s.heap := va_P.sub hRd [0] rfl
  have hN0 : ¬ A ky := by rw [hAe]; exact xn_L (by rw [← hsz]; exact (hR0 0 _ rfl).lt) (List.forall_mem_cons.mpr ⟨ap0_0, (fun _ h => absurd h List.not_mem_nil)⟩)
  obtain ⟨t_rcon, hz_rcon, ha_rcon⟩ := (w.2.2.2.2.1.2.2.1).T
  refine lv_aload_n hx hb dX10_generateWorkingKey_0 rfl (lv_at hl 1 rfl) ?_
  refine xr_alenP C hR0 0 rfl dX10_generateWorkingKey_1 ?_
  refine lv_istore_n (lv' := [(3, .int (nI (4 * 4))), (0, .ref h), (1, .ref ky), (2, .int (nI z))]) hx hb dX10_generateWorkingKey_2 rfl hl (by decide) rfl (fun ls hl => ?_)
  refine lv_iload_n hx hb dX10_generateWorkingKey_3 rfl (lv_at hl 0 rfl) ?_
  refine lv_bipush (v := nI 16) hx hb dX10_generateWorkingKey_4 (by decide) ?_
  refine xr_icmp_lt (a := 4 * 4) (b := 16) (tgt := 22) hx hb dX10_generateWorkingKey_6 (by decide) (by omega) (by omega) (fun c_6 => absurd c_6 (by omega)) (fun c_6 => ?_)
  refine lv_iload_n hx hb dX10_generateWorkingKey_9 rfl (lv_at hl 0 rfl) ?_
  refine lv_bipush (v := nI 32) hx hb dX10_generateWorkingKey_10 (by decide) ?_
  refine xr_icmp_gt (a := 4 * 4) (b := 32) (tgt := 22) hx hb dX10_generateWorkingKey_12 (by decide) (by omega) (by omega) (fun c_12 => absurd c_12 (by omega)) (fun c_12 => ?_)
  refine lv_iload_n hx hb dX10_generateWorkingKey_15 rfl (lv_at hl 0 rfl) ?_
  refine lv_bipush (v := nI 7) hx hb dX10_generateWorkingKey_16 (by decide) ?_
  refine lv_iand hx hb dX10_generateWorkingKey_18 ?_
  refine lv_eqi (y := nI 0) (by decide) ?_
  refine xr_if_eq (a := 0) (tgt := 32) hx hb dX10_generateWorkingKey_19 (by decide) (by omega) (fun c_19 => ?_) (fun c_19 => (c_19 rfl).elim)
  refine lv_iload_n hx hb dX10_generateWorkingKey_32 rfl (lv_at hl 0 rfl) ?_
  refine lv_iconst (v := nI 2) hx hb dX10_generateWorkingKey_33 (by decide) ?_
  refine lv_iushr (v := ((nI (4 * 4)).toUInt32 >>> ((nI 2).toUInt32 &&& Int32.toUInt32 31)).toInt32) hx hb dX10_generateWorkingKey_34 rfl ?_
  refine lv_eqi (y := nI 4) (by decide) ?_
  refine lv_istore (lv' := [(4, .int (nI 4)), (3, .int (nI (4 * 4))), (0, .ref h), (1, .ref ky), (2, .int (nI z))]) hx hb dX10_generateWorkingKey_35 hl (by decide) rfl (fun ls hl => ?_)
  refine lv_aload_n hx hb dX10_generateWorkingKey_37 rfl (lv_at hl 2 rfl) ?_
  refine lv_iload hx hb dX10_generateWorkingKey_38 (lv_at hl 0 rfl) ?_
  refine lv_bipush (v := nI 6) hx hb dX10_generateWorkingKey_40 (by decide) ?_
  refine lv_iadd hx hb dX10_generateWorkingKey_42 ?_
  refine lv_eqi (y := nI (4 + 6)) (by decide) ?_
  refine xr_put (ci := 6) (v := .int (nI (4 + 6))) (ty := .int) (Cn := RX10) (T := TX10) (N := 4) C w 0 rfl in_X10 tyX10 tyX10_ok nmX10 rfl 0 (by decide) q139 (fun _ h => h) rfl (by decide +kernel) (rfl) rfl (Nat.le_of_ble_eq_true rfl) dX10_generateWorkingKey_43 (fun H locs w => ?_)
  have w : Wd G A [(h, xO 6 [.int (nI (4 + 6)), v1, .int r2, v3])] s s.heap H locs := w
  have w0 := w
  refine lv_aload_n hx hb dX10_generateWorkingKey_46 rfl (lv_at hl 2 rfl) ?_
  refine xr_get (ci := 6) (v := .int (nI (4 + 6))) (Cn := RX10) (T := TX10) (N := 4) C (w.at 0 rfl) in_X10 rfl 0 (by decide) q139 (fun _ h => h) rfl dX10_generateWorkingKey_47 ?_
  refine lv_iconst (v := nI 1) hx hb dX10_generateWorkingKey_50 (by decide) ?_
  refine lv_iadd hx hb dX10_generateWorkingKey_51 ?_
  refine lv_eqi (y := nI 11) (by decide) ?_
  refine lv_iconst (v := nI 4) hx hb dX10_generateWorkingKey_52 (by decide) ?_
  refine xr_grid C w (n := 11) (by omega) q429 (by decide) (by decide) dX10_generateWorkingKey_53 (fun wa H hq_wa w hKW hKD => ?_)
  obtain ⟨ad, had⟩ : ∃ ad : Nat → Nat, ad = fun r => wa + 1 + r := ⟨_, rfl⟩
  rw [← had] at hKW hKD
  obtain ⟨k, hk0⟩ : ∃ k : Nat → Nat → Int32, k = fun _ _ => 0 := ⟨_, rfl⟩
  rw [← hk0] at hKW
  have hk : KWok (ks 4 (keyw b)) k 0 := kwok_0
  clear hk0
  have hq_wa0 : s.heap.size ≤ wa := Nat.le_trans w0.2.2.1.1 hq_wa
  refine lv_astore (lv' := [(5, .ref wa), (4, .int (nI 4)), (3, .int (nI (4 * 4))), (0, .ref h), (1, .ref ky), (2, .int (nI z))]) hx hb dX10_generateWorkingKey_57 hl (by decide) rfl (fun ls hl => ?_)
  refine lv_iload hx hb dX10_generateWorkingKey_59 (lv_at hl 1 rfl) ?_
  refine lv_tableIn (tgt := 96) hx hb dX10_generateWorkingKey_61 (by decide) (by decide) rfl (by decide) ?_
  refine lv_aload_n hx hb dX10_generateWorkingKey_96 rfl (lv_at hl 4 rfl) ?_
  refine lv_iconst (v := nI 0) hx hb dX10_generateWorkingKey_97 (by decide) ?_
  refine xr_callS0 (n := 2) (rest := []) C w (met_X14_littleEndianToInt l G H.size ky (4 * 4) b 0 (by omega) (by omega)) q431 q432 q30 q433 (by decide +kernel) ⟨rfl, rfl, by decide, by decide⟩ (fun _ _ _ _ h => h) (fun U hU hW => by rw [hU]; exact (xp_cons (xp_keep hR0 (xn_1 hN0) w.2.2.1) xp_nil)) rfl hl.1 rfl (Nat.le_of_ble_eq_true rfl) dX10_generateWorkingKey_98 ⟨by decide, by decide⟩ (fun v hp => ?_)
  subst hp
  refine lv_eqi (y := (ks 4 (keyw b) (4 * 0))) ((ks_lo (KC := 4) (k0 := keyw b) (i := 0) (by decide)).symm) ?_
  refine lv_istore (lv' := [(6, .int (ks 4 (keyw b) (4 * 0))), (5, .ref wa), (4, .int (nI 4)), (3, .int (nI (4 * 4))), (0, .ref h), (1, .ref ky), (2, .int (nI z))]) hx hb dX10_generateWorkingKey_101 hl (by decide) rfl (fun ls hl => ?_)
  refine lv_aload hx hb dX10_generateWorkingKey_103 (lv_at hl 1 rfl) ?_
  refine lv_iconst (v := nI 0) hx hb dX10_generateWorkingKey_105 (by decide) ?_
  refine xr_aald C (i := 0) hKW.1 (by omega) (by omega) dX10_generateWorkingKey_106 ?_
  refine lv_eqr (v' := .ref (ad 0)) rfl ?_
  refine lv_iconst (v := nI 0) hx hb dX10_generateWorkingKey_107 (by decide) ?_
  refine lv_iload hx hb dX10_generateWorkingKey_108 (lv_at hl 0 rfl) ?_
  refine xr_gst C w (r := 0) (j := 0) (x := (ks 4 (keyw b) (4 * 0))) hKW hKD (by omega) (by omega) dX10_generateWorkingKey_110 (fun H locs w hKW => ?_)
  have hk := kwok_put (r := 0) (c := 0) (x := (ks 4 (keyw b) (4 * 0))) hk (by omega) (by omega) (congrArg (ks 4 (keyw b)) (by omega))
  generalize up2 k 0 0 (ks 4 (keyw b) (4 * 0)) = k at hKW hk
  refine lv_aload_n hx hb dX10_generateWorkingKey_111 rfl (lv_at hl 5 rfl) ?_
  refine lv_iconst (v := nI 4) hx hb dX10_generateWorkingKey_112 (by decide) ?_
  refine xr_callS0 (n := 2) (rest := []) C w (met_X14_littleEndianToInt l G H.size ky (4 * 4) b 4 (by omega) (by omega)) q431 q432 q30 q433 (by decide +kernel) ⟨rfl, rfl, by decide, by decide⟩ (fun _ _ _ _ h => h) (fun U hU hW => by rw [hU]; exact (xp_cons (xp_keep hR0 (xn_1 hN0) w.2.2.1) xp_nil)) rfl hl.1 rfl (Nat.le_of_ble_eq_true rfl) dX10_generateWorkingKey_113 ⟨by decide, by decide⟩ (fun v hp => ?_)
  subst hp
  refine lv_eqi (y := (ks 4 (keyw b) (4 * 0 + 1))) ((ks_lo (KC := 4) (k0 := keyw b) (i := 1) (by decide)).symm) ?_
  refine lv_istore (lv' := [(7, .int (ks 4 (keyw b) (4 * 0 + 1))), (6, .int (ks 4 (keyw b) (4 * 0))), (5, .ref wa), (4, .int (nI 4)), (3, .int (nI (4 * 4))), (0, .ref h), (1, .ref ky), (2, .int (nI z))]) hx hb dX10_generateWorkingKey_116 hl (by decide) rfl (fun ls hl => ?_)
  refine lv_aload hx hb dX10_generateWorkingKey_118 (lv_at hl 2 rfl) ?_
  refine lv_iconst (v := nI 0) hx hb dX10_generateWorkingKey_120 (by decide) ?_
  refine xr_aald C (i := 0) hKW.1 (by omega) (by omega) dX10_generateWorkingKey_121 ?_
  refine lv_eqr (v' := .ref (ad 0)) rfl ?_
  refine lv_iconst (v := nI 1) hx hb dX10_generateWorkingKey_122 (by decide) ?_
  refine lv_iload hx hb dX10_generateWorkingKey_123 (lv_at hl 0 rfl) ?_
  refine xr_gst C w (r := 0) (j := 1) (x := (ks 4 (keyw b) (4 * 0 + 1))) hKW hKD (by omega) (by omega) dX10_generateWorkingKey_125 (fun H locs w hKW => ?_)
  have hk := kwok_put (r := 0) (c := 1) (x := (ks 4 (keyw b) (4 * 0 + 1))) hk (by omega) (by omega) (congrArg (ks 4 (keyw b)) (by omega))
  generalize up2 k 0 1 (ks 4 (keyw b) (4 * 0 + 1)) = k at hKW hk
  refine lv_aload_n hx hb dX10_generateWorkingKey_126 rfl (lv_at hl 6 rfl) ?_
  refine lv_bipush (v := nI 8) hx hb dX10_generateWorkingKey_127 (by decide) ?_
  refine xr_callS0 (n := 2) (rest := []) C w (met_X14_littleEndianToInt l G H.size ky (4 * 4) b 8 (by omega) (by omega)) q431 q432 q30 q433 (by decide +kernel) ⟨rfl, rfl, by decide, by decide⟩ (fun _ _ _ _ h => h) (fun U hU hW => by rw [hU]; exact (xp_cons (xp_keep hR0 (xn_1 hN0) w.2.2.1) xp_nil)) rfl hl.1 rfl (Nat.le_of_ble_eq_true rfl) dX10_generateWorkingKey_129 ⟨by decide, by decide⟩ (fun v hp => ?_)
  subst hp
  refine lv_eqi (y := (ks 4 (keyw b) (4 * 0 + 2))) ((ks_lo (KC := 4) (k0 := keyw b) (i := 2) (by decide)).symm) ?_
  refine lv_istore (lv' := [(8, .int (ks 4 (keyw b) (4 * 0 + 2))), (7, .int (ks 4 (keyw b) (4 * 0 + 1))), (6, .int (ks 4 (keyw b) (4 * 0))), (5, .ref wa), (4, .int (nI 4)), (3, .int (nI (4 * 4))), (0, .ref h), (1, .ref ky), (2, .int (nI z))]) hx hb dX10_generateWorkingKey_132 hl (by decide) rfl (fun ls hl => ?_)
  refine lv_aload hx hb dX10_generateWorkingKey_134 (lv_at hl 3 rfl) ?_
  refine lv_iconst (v := nI 0) hx hb dX10_generateWorkingKey_136 (by decide) ?_
  refine xr_aald C (i := 0) hKW.1 (by omega) (by omega) dX10_generateWorkingKey_137 ?_
  refine lv_eqr (v' := .ref (ad 0)) rfl ?_
  refine lv_iconst (v := nI 2) hx hb dX10_generateWorkingKey_138 (by decide) ?_
  refine lv_iload hx hb dX10_generateWorkingKey_139 (lv_at hl 0 rfl) ?_
  refine xr_gst C w (r := 0) (j := 2) (x := (ks 4 (keyw b) (4 * 0 + 2))) hKW hKD (by omega) (by omega) dX10_generateWorkingKey_141 (fun H locs w hKW => ?_)
  have hk := kwok_put (r := 0) (c := 2) (x := (ks 4 (keyw b) (4 * 0 + 2))) hk (by omega) (by omega) (congrArg (ks 4 (keyw b)) (by omega))
  generalize up2 k 0 2 (ks 4 (keyw b) (4 * 0 + 2)) = k at hKW hk
  refine lv_aload_n hx hb dX10_generateWorkingKey_142 rfl (lv_at hl 7 rfl) ?_
  refine lv_bipush (v := nI 12) hx hb dX10_generateWorkingKey_143 (by decide) ?_
  refine xr_callS0 (n := 2) (rest := []) C w (met_X14_littleEndianToInt l G H.size ky (4 * 4) b 12 (by omega) (by omega)) q431 q432 q30 q433 (by decide +kernel) ⟨rfl, rfl, by decide, by decide⟩ (fun _ _ _ _ h => h) (fun U hU hW => by rw [hU]; exact (xp_cons (xp_keep hR0 (xn_1 hN0) w.2.2.1) xp_nil)) rfl hl.1 rfl (Nat.le_of_ble_eq_true rfl) dX10_generateWorkingKey_145 ⟨by decide, by decide⟩ (fun v hp => ?_)
  subst hp
  refine lv_eqi (y := (ks 4 (keyw b) (4 * 0 + 3))) ((ks_lo (KC := 4) (k0 := keyw b) (i := 3) (by decide)).symm) ?_
  refine lv_istore (lv' := [(9, .int (ks 4 (keyw b) (4 * 0 + 3))), (8, .int (ks 4 (keyw b) (4 * 0 + 2))), (7, .int (ks 4 (keyw b) (4 * 0 + 1))), (6, .int (ks 4 (keyw b) (4 * 0))), (5, .ref wa), (4, .int (nI 4)), (3, .int (nI (4 * 4))), (0, .ref h), (1, .ref ky), (2, .int (nI z))]) hx hb dX10_generateWorkingKey_148 hl (by decide) rfl (fun ls hl => ?_)
  refine lv_aload hx hb dX10_generateWorkingKey_150 (lv_at hl 4 rfl) ?_
  refine lv_iconst (v := nI 0) hx hb dX10_generateWorkingKey_152 (by decide) ?_
  refine xr_aald C (i := 0) hKW.1 (by omega) (by omega) dX10_generateWorkingKey_153 ?_
  refine lv_eqr (v' := .ref (ad 0)) rfl ?_
  refine lv_iconst (v := nI 3) hx hb dX10_generateWorkingKey_154 (by decide) ?_
  refine lv_iload hx hb dX10_generateWorkingKey_155 (lv_at hl 0 rfl) ?_
  refine xr_gst C w (r := 0) (j := 3) (x := (ks 4 (keyw b) (4 * 0 + 3))) hKW hKD (by omega) (by omega) dX10_generateWorkingKey_157 (fun H locs w hKW => ?_)
  have hk := kwok_put (r := 0) (c := 3) (x := (ks 4 (keyw b) (4 * 0 + 3))) hk (by omega) (by omega) (congrArg (ks 4 (keyw b)) (by omega))
  generalize up2 k 0 3 (ks 4 (keyw b) (4 * 0 + 3)) = k at hKW hk
  refine lv_iconst (v := nI 1) hx hb dX10_generateWorkingKey_158 (by decide) ?_
  refine lv_istore (lv' := [(10, .int (nI 1)), (9, .int (ks 4 (keyw b) (4 * 0 + 3))), (8, .int (ks 4 (keyw b) (4 * 0 + 2))), (7, .int (ks 4 (keyw b) (4 * 0 + 1))), (6, .int (ks 4 (keyw b) (4 * 0))), (5, .ref wa), (4, .int (nI 4)), (3, .int (nI (4 * 4))), (0, .ref h), (1, .ref ky), (2, .int (nI z))]) hx hb dX10_generateWorkingKey_159 hl (by decide) rfl (fun ls hl => ?_)
  have loop_161 : ∀ (nn : Nat) (j : Nat) (k : Nat → Nat → Int32), 10 - j < nn → (hj : j ≤ 10) → (hk : KWok (ks 4 (keyw b)) k (4 * (j + 1))) → ∀ (H : Heap) (locs : List Loc) (ls : Array Slot), Wd G A [(h, xO 6 [.int (nI (4 + 6)), v1, .int r2, v3])] s s.heap H locs → (hKW : KW G wa 11 ad k H) → lv_has ls 17 [(0, .ref h), (1, .ref ky), (2, .int (nI z)), (5, .ref wa), (6, .int (ks 4 (keyw b) (4 * j))), (7, .int (ks 4 (keyw b) (4 * j + 1))), (8, .int (ks 4 (keyw b) (4 * j + 2))), (9, .int (ks 4 (keyw b) (4 * j + 3))), (10, .int (nI (j + 1)))] → W p l e ({ frames := 2, cells := 16, slots := 75, locals := 60 } : Room) s m args below meth c H locs 12 55 Q (F0 m 161 ls []) := by
    intro nn
    induction nn with
    | zero => intro j k hmm; exact absurd hmm (Nat.not_lt_zero _)
    | succ nn ih_161 =>
      intro j k hmm hj hk H locs ls w hKW hl
      refine lv_iload hx hb dX10_generateWorkingKey_161 (lv_at hl 8 rfl) ?_
      refine lv_bipush (v := nI 10) hx hb dX10_generateWorkingKey_163 (by decide) ?_
      refine xr_icmp_gt (a := j + 1) (b := 10) (tgt := 259) hx hb dX10_generateWorkingKey_165 (by decide) (by omega) (by omega) (fun c_165 => ?_) (fun c_165 => ?_)
      · refine lv_goto (tgt := 929) hx hb dX10_generateWorkingKey_259 (by decide) ?_
        have hl := lv_sub hl [0, 1, 2, 3] (l' := [(0, .ref h), (1, .ref ky), (2, .int (nI z)), (5, .ref wa)]) rfl
        have hk : KWok (ks 4 (keyw b)) k 44 := by rw [show 44 = 4 * (j + 1) by omega]; exact hk
        refine lv_iload_n hx hb dX10_generateWorkingKey_929 rfl (lv_at hl 2 rfl) ?_
        refine xr_if_ne (a := z) (tgt := 985) hx hb dX10_generateWorkingKey_930 (by decide) (by omega) (fun c_930 => ?_) (fun c_930 => ?_)
        · refine lv_aload hx hb dX10_generateWorkingKey_985 (lv_at hl 3 rfl) ?_
          have hq : sz ≤ wa := by rw [← hsz]; exact hq_wa0
          have hF := hKW.ext (k' := kwF 4 (keyw b) z) (fun r hr c hc => by rw [hk r c hc (by omega)]; unfold kwF; rw [if_neg c_930])
          rw [had] at hF
          exact xr_aret C hlk hr (Or.inr ⟨_, rfl⟩) (Or.inr ⟨_, rfl⟩) w hAe hQ (by decide) (by decide) wa rfl (⟨rfl, hq, hF⟩) dX10_generateWorkingKey_987
        · have hk := kwdk_0 (n := 11) hk (by decide)
          refine lv_iconst (v := nI 1) hx hb dX10_generateWorkingKey_933 (by decide) ?_
          refine lv_istore (lv' := [(6, .int (nI 1)), (0, .ref h), (1, .ref ky), (2, .int (nI z)), (5, .ref wa)]) hx hb dX10_generateWorkingKey_934 hl (by decide) rfl (fun ls hl => ?_)
          have loop_936 : ∀ (nn : Nat) (i : Nat) (k : Nat → Nat → Int32), 10 - i < nn → (hi : 1 ≤ i ∧ i ≤ 10) → (hk : KWdk (ks 4 (keyw b)) k 11 (4 * i)) → ∀ (H : Heap) (locs : List Loc) (ls : Array Slot), Wd G A [(h, xO 6 [.int (nI (4 + 6)), v1, .int r2, v3])] s s.heap H locs → (hKW : KW G wa 11 ad k H) → lv_has ls 17 [(0, .ref h), (1, .ref ky), (2, .int (nI z)), (5, .ref wa), (6, .int (nI i))] → W p l e ({ frames := 2, cells := 16, slots := 75, locals := 60 } : Room) s m args below meth c H locs 12 55 Q (F0 m 936 ls []) := by
            intro nn
            induction nn with
            | zero => intro i k hmm; exact absurd hmm (Nat.not_lt_zero _)
            | succ nn ih_936 =>
              intro i k hmm hi hk H locs ls w hKW hl
              refine lv_iload hx hb dX10_generateWorkingKey_936 (lv_at hl 4 rfl) ?_
              refine lv_aload_n hx hb dX10_generateWorkingKey_938 rfl (lv_at hl 0 rfl) ?_
              refine xr_get (ci := 6) (v := .int (nI (4 + 6))) (Cn := RX10) (T := TX10) (N := 4) C (w.at 0 rfl) in_X10 rfl 0 (by decide) q139 (fun _ h => h) rfl dX10_generateWorkingKey_939 ?_
              refine xr_icmp_ge (a := i) (b := 4 + 6) (tgt := 985) hx hb dX10_generateWorkingKey_942 (by decide) (by omega) (by omega) (fun c_942 => ?_) (fun c_942 => ?_)
              · refine lv_aload hx hb dX10_generateWorkingKey_985 (lv_at hl 3 rfl) ?_
                have hq : sz ≤ wa := by rw [← hsz]; exact hq_wa0
                have hi6 : i = 10 := by omega
                subst hi6
                have hF := hKW.ext (k' := kwF 4 (keyw b) z) (fun r hr c hc => by rw [hk r c hc hr]; unfold kwF; rw [if_pos c_930])
                rw [had] at hF
                exact xr_aret C hlk hr (Or.inr ⟨_, rfl⟩) (Or.inr ⟨_, rfl⟩) w hAe hQ (by decide) (by decide) wa rfl (⟨rfl, hq, hF⟩) dX10_generateWorkingKey_987
              · refine lv_iconst (v := nI 0) hx hb dX10_generateWorkingKey_945 (by decide) ?_
                refine lv_istore (lv' := [(7, .int (nI 0)), (0, .ref h), (1, .ref ky), (2, .int (nI z)), (5, .ref wa), (6, .int (nI i))]) hx hb dX10_generateWorkingKey_946 hl (by decide) rfl (fun ls hl => ?_)
                have loop_948 : ∀ (nn : Nat) (co : Nat) (k : Nat → Nat → Int32), 4 - co < nn → (hc : co ≤ 4) → (hk : KWdk (ks 4 (keyw b)) k 11 (4 * i + co)) → ∀ (H : Heap) (locs : List Loc) (ls : Array Slot), Wd G A [(h, xO 6 [.int (nI (4 + 6)), v1, .int r2, v3])] s s.heap H locs → (hKW : KW G wa 11 ad k H) → lv_has ls 17 [(0, .ref h), (1, .ref ky), (2, .int (nI z)), (5, .ref wa), (6, .int (nI i)), (7, .int (nI co))] → W p l e ({ frames := 2, cells := 16, slots := 75, locals := 60 } : Room) s m args below meth c H locs 12 55 Q (F0 m 948 ls []) := by
                  intro nn
                  induction nn with
                  | zero => intro co k hmm; exact absurd hmm (Nat.not_lt_zero _)
                  | succ nn ih_948 =>
                    intro co k hmm hc hk H locs ls w hKW hl
                    refine lv_iload hx hb dX10_generateWorkingKey_948 (lv_at hl 5 rfl) ?_
                    refine lv_iconst (v := nI 4) hx hb dX10_generateWorkingKey_950 (by decide) ?_
                    refine xr_icmp_ge (a := co) (b := 4) (tgt := 979) hx hb dX10_generateWorkingKey_951 (by decide) (by omega) (by omega) (fun c_951 => ?_) (fun c_951 => ?_)
                    · have hc4 : co = 4 := by omega
                      subst hc4
                      refine lv_iinc (v := nI (i + 1)) (lv' := [(6, .int (nI (i + 1))), (0, .ref h), (1, .ref ky), (2, .int (nI z)), (5, .ref wa), (7, .int (nI 4))]) hx hb dX10_generateWorkingKey_979 hl (k := 4) rfl (nI_add i 1) (by decide) rfl (fun ls hl => ?_)
                      refine lv_goto (tgt := 936) hx hb dX10_generateWorkingKey_982 (by decide) ?_
                      exact ih_936 (i + 1) _ (by omega) (by omega) (by rw [show 4 * (i + 1) = 4 * i + 4 by omega]; exact hk) _ _ _ w hKW (lv_sub hl [1, 2, 3, 4, 0] rfl)
                    · refine lv_aload hx hb dX10_generateWorkingKey_954 (lv_at hl 3 rfl) ?_
                      refine lv_iload hx hb dX10_generateWorkingKey_956 (lv_at hl 4 rfl) ?_
                      refine xr_aald C (i := i) hKW.1 (by omega) (by omega) dX10_generateWorkingKey_958 ?_
                      refine lv_eqr (v' := .ref (ad i)) rfl ?_
                      refine lv_iload hx hb dX10_generateWorkingKey_959 (lv_at hl 5 rfl) ?_
                      refine lv_aload hx hb dX10_generateWorkingKey_961 (lv_at hl 3 rfl) ?_
                      refine lv_iload hx hb dX10_generateWorkingKey_963 (lv_at hl 4 rfl) ?_
                      refine xr_aald C (i := i) hKW.1 (by omega) (by omega) dX10_generateWorkingKey_965 ?_
                      refine lv_eqr (v' := .ref (ad i)) rfl ?_
                      refine lv_iload hx hb dX10_generateWorkingKey_966 (lv_at hl 5 rfl) ?_
                      refine xr_iald C (i := co) (hKW.2 (i) (by omega)) (by omega) (by omega) dX10_generateWorkingKey_968 ?_
                      refine xr_callS0 (n := 1) (rest := [.int (nI co), .ref (ad i)]) C w (met_X10_inv_mcol l G H.size (k i co) ) q447 q448 q19 q449 (by decide +kernel) ⟨rfl, rfl, by decide, by decide⟩ (fun _ _ _ _ h => h) (fun U hU hW => trivial) rfl hl.1 rfl (Nat.le_of_ble_eq_true rfl) dX10_generateWorkingKey_969 ⟨by decide, by decide⟩ (fun v hp => ?_)
                      subst hp
                      refine xr_gst C w (r := i) (j := co) (x := (imcW (k i co))) hKW hKD (by omega) (by omega) dX10_generateWorkingKey_972 (fun H locs w hKW => ?_)
                      have hk := kwdk_put (r := i) (c := co) hk (by omega) (by omega) (by omega) (by omega)
                      generalize up2 k i co (imcW (k i co)) = k at hKW hk
                      refine lv_iinc (v := nI (co + 1)) (lv' := [(7, .int (nI (co + 1))), (0, .ref h), (1, .ref ky), (2, .int (nI z)), (5, .ref wa), (6, .int (nI i))]) hx hb dX10_generateWorkingKey_973 hl (k := 5) rfl (nI_add co 1) (by decide) rfl (fun ls hl => ?_)
                      refine lv_goto (tgt := 948) hx hb dX10_generateWorkingKey_976 (by decide) ?_
                      exact ih_948 (co + 1) _ (by omega) (by omega) (hk) _ _ _ w hKW (lv_sub hl [1, 2, 3, 4, 5, 0] rfl)
                exact loop_948 ((4 - 0) + 1) 0 _ (by omega) (by decide) (hk) _ _ _ w hKW (lv_sub hl [1, 2, 3, 4, 5, 0] rfl)
          exact loop_936 ((10 - 1) + 1) 1 _ (by omega) (by decide) (hk) _ _ _ w hKW (lv_sub hl [1, 2, 3, 4, 0] rfl)
      · refine lv_iload hx hb dX10_generateWorkingKey_168 (lv_at hl 7 rfl) ?_
        refine lv_bipush (v := nI 8) hx hb dX10_generateWorkingKey_170 (by decide) ?_
        refine xr_callS0 (n := 2) (rest := []) C w (met_X10_shift l G H.size (ks 4 (keyw b) (4 * j + 3)) (nI 8) ) q434 q435 q19 q436 (by decide +kernel) ⟨rfl, rfl, by decide, by decide⟩ (fun _ _ _ _ h => h) (fun U hU hW => trivial) rfl hl.1 rfl (Nat.le_of_ble_eq_true rfl) dX10_generateWorkingKey_172 ⟨by decide, by decide⟩ (fun v hp => ?_)
        subst hp
        refine xr_callS0 (n := 1) (rest := []) C w (met_X10_subWord l G H.size (shf (ks 4 (keyw b) (4 * j + 3)) (nI 8)) ) q437 q438 q19 q439 (by decide +kernel) ⟨rfl, rfl, by decide, by decide⟩ (fun _ _ _ _ h => h) (fun U hU hW => trivial) rfl hl.1 rfl (Nat.le_of_ble_eq_true rfl) dX10_generateWorkingKey_175 ⟨by decide, by decide⟩ (fun v hp => ?_)
        subst hp
        refine xr_gets C w hz_rcon q442 dX10_generateWorkingKey_178 ?_
        refine lv_iload hx hb dX10_generateWorkingKey_181 (lv_at hl 8 rfl) ?_
        refine lv_iconst (v := nI 1) hx hb dX10_generateWorkingKey_183 (by decide) ?_
        refine lv_isub hx hb dX10_generateWorkingKey_184 ?_
        refine lv_eqi (y := nI j) (pk_sub (a := j + 1) (b := 1) (by omega)) ?_
        refine xr_tiald C w ha_rcon (i := j) (by omega) (by omega) dX10_generateWorkingKey_185 ?_
        refine lv_ixor hx hb dX10_generateWorkingKey_186 ?_
        refine lv_istore (lv' := [(11, .int ((sbw (shf (ks 4 (keyw b) (4 * j + 3)) (nI 8))) ^^^ (tR j))), (0, .ref h), (1, .ref ky), (2, .int (nI z)), (5, .ref wa), (6, .int (ks 4 (keyw b) (4 * j))), (7, .int (ks 4 (keyw b) (4 * j + 1))), (8, .int (ks 4 (keyw b) (4 * j + 2))), (9, .int (ks 4 (keyw b) (4 * j + 3))), (10, .int (nI (j + 1)))]) hx hb dX10_generateWorkingKey_187 hl (by decide) rfl (fun ls hl => ?_)
        refine lv_iload hx hb dX10_generateWorkingKey_189 (lv_at hl 5 rfl) ?_
        refine lv_iload hx hb dX10_generateWorkingKey_191 (lv_at hl 0 rfl) ?_
        refine lv_ixor hx hb dX10_generateWorkingKey_193 ?_
        refine lv_eqi (y := (ks 4 (keyw b) (4 * (j + 1)))) (ks0 (t := j) (by decide) (by omega) (by omega) (by omega)) ?_
        refine lv_istore (lv' := [(6, .int (ks 4 (keyw b) (4 * (j + 1)))), (11, .int ((sbw (shf (ks 4 (keyw b) (4 * j + 3)) (nI 8))) ^^^ (tR j))), (0, .ref h), (1, .ref ky), (2, .int (nI z)), (5, .ref wa), (7, .int (ks 4 (keyw b) (4 * j + 1))), (8, .int (ks 4 (keyw b) (4 * j + 2))), (9, .int (ks 4 (keyw b) (4 * j + 3))), (10, .int (nI (j + 1)))]) hx hb dX10_generateWorkingKey_194 hl (by decide) rfl (fun ls hl => ?_)
        refine lv_aload hx hb dX10_generateWorkingKey_196 (lv_at hl 5 rfl) ?_
        refine lv_iload hx hb dX10_generateWorkingKey_198 (lv_at hl 9 rfl) ?_
        refine xr_aald C (i := j + 1) hKW.1 (by omega) (by omega) dX10_generateWorkingKey_200 ?_
        refine lv_eqr (v' := .ref (ad (j + 1))) rfl ?_
        refine lv_iconst (v := nI 0) hx hb dX10_generateWorkingKey_201 (by decide) ?_
        refine lv_iload hx hb dX10_generateWorkingKey_202 (lv_at hl 0 rfl) ?_
        refine xr_gst C w (r := j + 1) (j := 0) (x := (ks 4 (keyw b) (4 * (j + 1)))) hKW hKD (by omega) (by omega) dX10_generateWorkingKey_204 (fun H locs w hKW => ?_)
        have hk := kwok_put (r := j + 1) (c := 0) (x := (ks 4 (keyw b) (4 * (j + 1)))) hk (by omega) (by omega) (congrArg (ks 4 (keyw b)) (by omega))
        generalize up2 k (j + 1) 0 (ks 4 (keyw b) (4 * (j + 1))) = k at hKW hk
        refine lv_iload hx hb dX10_generateWorkingKey_205 (lv_at hl 6 rfl) ?_
        refine lv_iload hx hb dX10_generateWorkingKey_207 (lv_at hl 0 rfl) ?_
        refine lv_ixor hx hb dX10_generateWorkingKey_209 ?_
        refine lv_eqi (y := (ks 4 (keyw b) (4 * (j + 1) + 1))) (ksN (by decide) (by omega) (by omega) (by omega) (by omega)) ?_
        refine lv_istore (lv' := [(7, .int (ks 4 (keyw b) (4 * (j + 1) + 1))), (6, .int (ks 4 (keyw b) (4 * (j + 1)))), (11, .int ((sbw (shf (ks 4 (keyw b) (4 * j + 3)) (nI 8))) ^^^ (tR j))), (0, .ref h), (1, .ref ky), (2, .int (nI z)), (5, .ref wa), (8, .int (ks 4 (keyw b) (4 * j + 2))), (9, .int (ks 4 (keyw b) (4 * j + 3))), (10, .int (nI (j + 1)))]) hx hb dX10_generateWorkingKey_210 hl (by decide) rfl (fun ls hl => ?_)
        refine lv_aload hx hb dX10_generateWorkingKey_212 (lv_at hl 6 rfl) ?_
        refine lv_iload hx hb dX10_generateWorkingKey_214 (lv_at hl 9 rfl) ?_
        refine xr_aald C (i := j + 1) hKW.1 (by omega) (by omega) dX10_generateWorkingKey_216 ?_
        refine lv_eqr (v' := .ref (ad (j + 1))) rfl ?_
        refine lv_iconst (v := nI 1) hx hb dX10_generateWorkingKey_217 (by decide) ?_
        refine lv_iload hx hb dX10_generateWorkingKey_218 (lv_at hl 0 rfl) ?_
        refine xr_gst C w (r := j + 1) (j := 1) (x := (ks 4 (keyw b) (4 * (j + 1) + 1))) hKW hKD (by omega) (by omega) dX10_generateWorkingKey_220 (fun H locs w hKW => ?_)
        have hk := kwok_put (r := j + 1) (c := 1) (x := (ks 4 (keyw b) (4 * (j + 1) + 1))) hk (by omega) (by omega) (congrArg (ks 4 (keyw b)) (by omega))
        generalize up2 k (j + 1) 1 (ks 4 (keyw b) (4 * (j + 1) + 1)) = k at hKW hk
        refine lv_iload hx hb dX10_generateWorkingKey_221 (lv_at hl 7 rfl) ?_
        refine lv_iload hx hb dX10_generateWorkingKey_223 (lv_at hl 0 rfl) ?_
        refine lv_ixor hx hb dX10_generateWorkingKey_225 ?_
        refine lv_eqi (y := (ks 4 (keyw b) (4 * (j + 1) + 2))) (ksN (by decide) (by omega) (by omega) (by omega) (by omega)) ?_
        refine lv_istore (lv' := [(8, .int (ks 4 (keyw b) (4 * (j + 1) + 2))), (7, .int (ks 4 (keyw b) (4 * (j + 1) + 1))), (6, .int (ks 4 (keyw b) (4 * (j + 1)))), (11, .int ((sbw (shf (ks 4 (keyw b) (4 * j + 3)) (nI 8))) ^^^ (tR j))), (0, .ref h), (1, .ref ky), (2, .int (nI z)), (5, .ref wa), (9, .int (ks 4 (keyw b) (4 * j + 3))), (10, .int (nI (j + 1)))]) hx hb dX10_generateWorkingKey_226 hl (by decide) rfl (fun ls hl => ?_)
        refine lv_aload hx hb dX10_generateWorkingKey_228 (lv_at hl 7 rfl) ?_
        refine lv_iload hx hb dX10_generateWorkingKey_230 (lv_at hl 9 rfl) ?_
        refine xr_aald C (i := j + 1) hKW.1 (by omega) (by omega) dX10_generateWorkingKey_232 ?_
        refine lv_eqr (v' := .ref (ad (j + 1))) rfl ?_
        refine lv_iconst (v := nI 2) hx hb dX10_generateWorkingKey_233 (by decide) ?_
        refine lv_iload hx hb dX10_generateWorkingKey_234 (lv_at hl 0 rfl) ?_
        refine xr_gst C w (r := j + 1) (j := 2) (x := (ks 4 (keyw b) (4 * (j + 1) + 2))) hKW hKD (by omega) (by omega) dX10_generateWorkingKey_236 (fun H locs w hKW => ?_)
        have hk := kwok_put (r := j + 1) (c := 2) (x := (ks 4 (keyw b) (4 * (j + 1) + 2))) hk (by omega) (by omega) (congrArg (ks 4 (keyw b)) (by omega))
        generalize up2 k (j + 1) 2 (ks 4 (keyw b) (4 * (j + 1) + 2)) = k at hKW hk
        refine lv_iload hx hb dX10_generateWorkingKey_237 (lv_at hl 8 rfl) ?_
        refine lv_iload hx hb dX10_generateWorkingKey_239 (lv_at hl 0 rfl) ?_
        refine lv_ixor hx hb dX10_generateWorkingKey_241 ?_
        refine lv_eqi (y := (ks 4 (keyw b) (4 * (j + 1) + 3))) (ksN (by decide) (by omega) (by omega) (by omega) (by omega)) ?_
        refine lv_istore (lv' := [(9, .int (ks 4 (keyw b) (4 * (j + 1) + 3))), (8, .int (ks 4 (keyw b) (4 * (j + 1) + 2))), (7, .int (ks 4 (keyw b) (4 * (j + 1) + 1))), (6, .int (ks 4 (keyw b) (4 * (j + 1)))), (11, .int ((sbw (shf (ks 4 (keyw b) (4 * j + 3)) (nI 8))) ^^^ (tR j))), (0, .ref h), (1, .ref ky), (2, .int (nI z)), (5, .ref wa), (10, .int (nI (j + 1)))]) hx hb dX10_generateWorkingKey_242 hl (by decide) rfl (fun ls hl => ?_)
        refine lv_aload hx hb dX10_generateWorkingKey_244 (lv_at hl 8 rfl) ?_
        refine lv_iload hx hb dX10_generateWorkingKey_246 (lv_at hl 9 rfl) ?_
        refine xr_aald C (i := j + 1) hKW.1 (by omega) (by omega) dX10_generateWorkingKey_248 ?_
        refine lv_eqr (v' := .ref (ad (j + 1))) rfl ?_
        refine lv_iconst (v := nI 3) hx hb dX10_generateWorkingKey_249 (by decide) ?_
        refine lv_iload hx hb dX10_generateWorkingKey_250 (lv_at hl 0 rfl) ?_
        refine xr_gst C w (r := j + 1) (j := 3) (x := (ks 4 (keyw b) (4 * (j + 1) + 3))) hKW hKD (by omega) (by omega) dX10_generateWorkingKey_252 (fun H locs w hKW => ?_)
        have hk := kwok_put (r := j + 1) (c := 3) (x := (ks 4 (keyw b) (4 * (j + 1) + 3))) hk (by omega) (by omega) (congrArg (ks 4 (keyw b)) (by omega))
        generalize up2 k (j + 1) 3 (ks 4 (keyw b) (4 * (j + 1) + 3)) = k at hKW hk
        refine lv_iinc (v := nI (j + 1 + 1)) (lv' := [(10, .int (nI (j + 1 + 1))), (9, .int (ks 4 (keyw b) (4 * (j + 1) + 3))), (8, .int (ks 4 (keyw b) (4 * (j + 1) + 2))), (7, .int (ks 4 (keyw b) (4 * (j + 1) + 1))), (6, .int (ks 4 (keyw b) (4 * (j + 1)))), (11, .int ((sbw (shf (ks 4 (keyw b) (4 * j + 3)) (nI 8))) ^^^ (tR j))), (0, .ref h), (1, .ref ky), (2, .int (nI z)), (5, .ref wa)]) hx hb dX10_generateWorkingKey_253 hl (k := 9) rfl (nI_add (j + 1) 1) (by decide) rfl (fun ls hl => ?_)
        refine lv_goto (tgt := 161) hx hb dX10_generateWorkingKey_256 (by decide) ?_
        exact ih_161 (j + 1) _ (by omega) (by omega) (by rw [show 4 * (j + 1 + 1) = 4 * (j + 1) + 1 + 1 + 1 + 1 by omega]; exact hk) _ _ _ w hKW (lv_sub hl [6, 7, 8, 9, 4, 3, 2, 1, 0] rfl)
  exact loop_161 ((10 - 0) + 1) 0 _ (by omega) (by decide) (hk) _ _ _ w hKW (lv_sub hl [8, 9, 10, 5, 4, 3, 2, 1, 0] rfl)

set_option maxHeartbeats 4000000 in
set_option maxRecDepth 100000 in
theorem met_gwk6 (l : Launch) (G : GG) (sz : Nat) (h : Nat) (ky : Nat) (b : Nat → BitVec 8) (z : Nat) (r0 : Int32) (v1 : Value) (r2 : Int32) (v3 : Value) (hz : z < 2) (ap0_0 : h ≠ ky) : Met l yX10_generateWorkingKey (ws_ yX10_generateWorkingKey cX10_generateWorkingKey 17 (some (.array (.array .int)))) ({ frames := 2, cells := 16, slots := 75, locals := 60 } : Room) (va_Pc [.ref h, .ref ky, .int (nI z)] (PP G [(h, xO 6 [.int r0, v1, .int r2, v3])] sz (fun U : State => va_P G.1 vwCl [(ky, xB G (4 * 6) b)] U.heap))) (CQ G [(h, xO 6 [.int r0, v1, .int r2, v3])] sz (fun u : Nat => [(h, xO 6 [.int (nI (6 + 6)), v1, .int r2, v3])]) (fun (u : Nat) (v : Option Value) (H : Heap) => v = some (.ref u) ∧ sz ≤ u ∧ KW G u (6 + 7) (fun r => u + 1 + r) (kwF 6 (keyw b) z) H)) 16 75 (va_A [(h, xO 6 [.int r0, v1, .int r2, v3])] sz) := by
  refine xr_met (own := RX10) (by decide) rfl (Nat.le_of_ble_eq_true rfl) ?_
  intro p e s m args below meth c ls Q A C hlk hr hnm hsz hAe w hRD hQ hl
  have hx := C.1
  have hb := C.2.1
  have w : Wd G A [(h, xO 6 [.int r0, v1, .int r2, v3])] s s.heap s.heap [] := w
  have hl : lv_has ls 17 [(0, .ref h), (1, .ref ky), (2, .int (nI z))] := hl
  have hRd := hRD
  have hR0 : va_P G.1 vwCl [(ky, xB G (4 * 6) b)] s.heap := va_P.sub hRd [0] rfl
  have hN0 : ¬ A ky := by rw [hAe]; exact xn_L (by rw [← hsz]; exact (hR0 0 _ rfl).lt) (List.forall_mem_cons.mpr ⟨ap0_0, (fun _ h => absurd h List.not_mem_nil)⟩)
  obtain ⟨t_rcon, hz_rcon, ha_rcon⟩ := (w.2.2.2.2.1.2.2.1).T
  refine lv_aload_n hx hb dX10_generateWorkingKey_0 rfl (lv_at hl 1 rfl) ?_
  refine xr_alenP C hR0 0 rfl dX10_generateWorkingKey_1 ?_
  refine lv_istore_n (lv' := [(3, .int (nI (4 * 6))), (0, .ref h), (1, .ref ky), (2, .int (nI z))]) hx hb dX10_generateWorkingKey_2 rfl hl (by decide) rfl (fun ls hl => ?_)
  refine lv_iload_n hx hb dX10_generateWorkingKey_3 rfl (lv_at hl 0 rfl) ?_
  refine lv_bipush (v := nI 16) hx hb dX10_generateWorkingKey_4 (by decide) ?_
  refine xr_icmp_lt (a := 4 * 6) (b := 16) (tgt := 22) hx hb dX10_generateWorkingKey_6 (by decide) (by omega) (by omega) (fun c_6 => absurd c_6 (by omega)) (fun c_6 => ?_)
  refine lv_iload_n hx hb dX10_generateWorkingKey_9 rfl (lv_at hl 0 rfl) ?_
  refine lv_bipush (v := nI 32) hx hb dX10_generateWorkingKey_10 (by decide) ?_
  refine xr_icmp_gt (a := 4 * 6) (b := 32) (tgt := 22) hx hb dX10_generateWorkingKey_12 (by decide) (by omega) (by omega) (fun c_12 => absurd c_12 (by omega)) (fun c_12 => ?_)
  refine lv_iload_n hx hb dX10_generateWorkingKey_15 rfl (lv_at hl 0 rfl) ?_
  refine lv_bipush (v := nI 7) hx hb dX10_generateWorkingKey_16 (by decide) ?_
  refine lv_iand hx hb dX10_generateWorkingKey_18 ?_
  refine lv_eqi (y := nI 0) (by decide) ?_
  refine xr_if_eq (a := 0) (tgt := 32) hx hb dX10_generateWorkingKey_19 (by decide) (by omega) (fun c_19 => ?_) (fun c_19 => (c_19 rfl).elim)
  refine lv_iload_n hx hb dX10_generateWorkingKey_32 rfl (lv_at hl 0 rfl) ?_
  refine lv_iconst (v := nI 2) hx hb dX10_generateWorkingKey_33 (by decide) ?_
  refine lv_iushr (v := ((nI (4 * 6)).toUInt32 >>> ((nI 2).toUInt32 &&& Int32.toUInt32 31)).toInt32) hx hb dX10_generateWorkingKey_34 rfl ?_
  refine lv_eqi (y := nI 6) (by decide) ?_
  refine lv_istore (lv' := [(4, .int (nI 6)), (3, .int (nI (4 * 6))), (0, .ref h), (1, .ref ky), (2, .int (nI z))]) hx hb dX10_generateWorkingKey_35 hl (by decide) rfl (fun ls hl => ?_)
  refine lv_aload_n hx hb dX10_generateWorkingKey_37 rfl (lv_at hl 2 rfl) ?_
  refine lv_iload hx hb dX10_generateWorkingKey_38 (lv_at hl 0 rfl) ?_
  refine lv_bipush (v := nI 6) hx hb dX10_generateWorkingKey_40 (by decide) ?_
  refine lv_iadd hx hb dX10_generateWorkingKey_42 ?_
  refine lv_eqi (y := nI (6 + 6)) (by decide) ?_
  refine xr_put (ci := 6) (v := .int (nI (6 + 6))) (ty := .int) (Cn := RX10) (T := TX10) (N := 4) C w 0 rfl in_X10 tyX10 tyX10_ok nmX10 rfl 0 (by decide) q139 (fun _ h => h) rfl (by decide +kernel) (rfl) rfl (Nat.le_of_ble_eq_true rfl) dX10_generateWorkingKey_43 (fun H locs w => ?_)
  have w : Wd G A [(h, xO 6 [.int (nI (6 + 6)), v1, .int r2, v3])] s s.heap H locs := w
  have w0 := w
  refine lv_aload_n hx hb dX10_generateWorkingKey_46 rfl (lv_at hl 2 rfl) ?_
  refine xr_get (ci := 6) (v := .int (nI (6 + 6))) (Cn := RX10) (T := TX10) (N := 4) C (w.at 0 rfl) in_X10 rfl 0 (by decide) q139 (fun _ h => h) rfl dX10_generateWorkingKey_47 ?_
  refine lv_iconst (v := nI 1) hx hb dX10_generateWorkingKey_50 (by decide) ?_
  refine lv_iadd hx hb dX10_generateWorkingKey_51 ?_
  refine lv_eqi (y := nI 13) (by decide) ?_
  refine lv_iconst (v := nI 4) hx hb dX10_generateWorkingKey_52 (by decide) ?_
  refine xr_grid C w (n := 13) (by omega) q429 (by decide) (by decide) dX10_generateWorkingKey_53 (fun wa H hq_wa w hKW hKD => ?_)
  obtain ⟨ad, had⟩ : ∃ ad : Nat → Nat, ad = fun r => wa + 1 + r := ⟨_, rfl⟩
  rw [← had] at hKW hKD
  obtain ⟨k, hk0⟩ : ∃ k : Nat → Nat → Int32, k = fun _ _ => 0 := ⟨_, rfl⟩
  rw [← hk0] at hKW
  have hk : KWok (ks 6 (keyw b)) k 0 := kwok_0
  clear hk0
  have hq_wa0 : s.heap.size ≤ wa := Nat.le_trans w0.2.2.1.1 hq_wa
  refine lv_astore (lv' := [(5, .ref wa), (4, .int (nI 6)), (3, .int (nI (4 * 6))), (0, .ref h), (1, .ref ky), (2, .int (nI z))]) hx hb dX10_generateWorkingKey_57 hl (by decide) rfl (fun ls hl => ?_)
  refine lv_iload hx hb dX10_generateWorkingKey_59 (lv_at hl 1 rfl) ?_
  refine lv_tableIn (tgt := 262) hx hb dX10_generateWorkingKey_61 (by decide) (by decide) rfl (by decide) ?_
  refine lv_aload_n hx hb dX10_generateWorkingKey_262 rfl (lv_at hl 4 rfl) ?_
  refine lv_iconst (v := nI 0) hx hb dX10_generateWorkingKey_263 (by decide) ?_
  refine xr_callS0 (n := 2) (rest := []) C w (met_X14_littleEndianToInt l G H.size ky (4 * 6) b 0 (by omega) (by omega)) q431 q432 q30 q433 (by decide +kernel) ⟨rfl, rfl, by decide, by decide⟩ (fun _ _ _ _ h => h) (fun U hU hW => by rw [hU]; exact (xp_cons (xp_keep hR0 (xn_1 hN0) w.2.2.1) xp_nil)) rfl hl.1 rfl (Nat.le_of_ble_eq_true rfl) dX10_generateWorkingKey_264 ⟨by decide, by decide⟩ (fun v hp => ?_)
  subst hp
  refine lv_eqi (y := (ks 6 (keyw b) (12 * 0))) ((ks_lo (KC := 6) (k0 := keyw b) (i := 0) (by decide)).symm) ?_
  refine lv_istore (lv' := [(6, .int (ks 6 (keyw b) (12 * 0))), (5, .ref wa), (4, .int (nI 6)), (3, .int (nI (4 * 6))), (0, .ref h), (1, .ref ky), (2, .int (nI z))]) hx hb dX10_generateWorkingKey_267 hl (by decide) rfl (fun ls hl => ?_)
  refine lv_aload hx hb dX10_generateWorkingKey_269 (lv_at hl 1 rfl) ?_
  refine lv_iconst (v := nI 0) hx hb dX10_generateWorkingKey_271 (by decide) ?_
  refine xr_aald C (i := 0) hKW.1 (by omega) (by omega) dX10_generateWorkingKey_272 ?_
  refine lv_eqr (v' := .ref (ad 0)) rfl ?_
  refine lv_iconst (v := nI 0) hx hb dX10_generateWorkingKey_273 (by decide) ?_
  refine lv_iload hx hb dX10_generateWorkingKey_274 (lv_at hl 0 rfl) ?_
  refine xr_gst C w (r := 0) (j := 0) (x := (ks 6 (keyw b) (12 * 0))) hKW hKD (by omega) (by omega) dX10_generateWorkingKey_276 (fun H locs w hKW => ?_)
  have hk := kwok_put (r := 0) (c := 0) (x := (ks 6 (keyw b) (12 * 0))) hk (by omega) (by omega) (congrArg (ks 6 (keyw b)) (by omega))
  generalize up2 k 0 0 (ks 6 (keyw b) (12 * 0)) = k at hKW hk
  refine lv_aload_n hx hb dX10_generateWorkingKey_277 rfl (lv_at hl 5 rfl) ?_
  refine lv_iconst (v := nI 4) hx hb dX10_generateWorkingKey_278 (by decide) ?_
  refine xr_callS0 (n := 2) (rest := []) C w (met_X14_littleEndianToInt l G H.size ky (4 * 6) b 4 (by omega) (by omega)) q431 q432 q30 q433 (by decide +kernel) ⟨rfl, rfl, by decide, by decide⟩ (fun _ _ _ _ h => h) (fun U hU hW => by rw [hU]; exact (xp_cons (xp_keep hR0 (xn_1 hN0) w.2.2.1) xp_nil)) rfl hl.1 rfl (Nat.le_of_ble_eq_true rfl) dX10_generateWorkingKey_279 ⟨by decide, by decide⟩ (fun v hp => ?_)
  subst hp
  refine lv_eqi (y := (ks 6 (keyw b) (12 * 0 + 1))) ((ks_lo (KC := 6) (k0 := keyw b) (i := 1) (by decide)).symm) ?_
  refine lv_istore (lv' := [(7, .int (ks 6 (keyw b) (12 * 0 + 1))), (6, .int (ks 6 (keyw b) (12 * 0))), (5, .ref wa), (4, .int (nI 6)), (3, .int (nI (4 * 6))), (0, .ref h), (1, .ref ky), (2, .int (nI z))]) hx hb dX10_generateWorkingKey_282 hl (by decide) rfl (fun ls hl => ?_)
  refine lv_aload hx hb dX10_generateWorkingKey_284 (lv_at hl 2 rfl) ?_
  refine lv_iconst (v := nI 0) hx hb dX10_generateWorkingKey_286 (by decide) ?_
  refine xr_aald C (i := 0) hKW.1 (by omega) (by omega) dX10_generateWorkingKey_287 ?_
  refine lv_eqr (v' := .ref (ad 0)) rfl ?_
  refine lv_iconst (v := nI 1) hx hb dX10_generateWorkingKey_288 (by decide) ?_
  refine lv_iload hx hb dX10_generateWorkingKey_289 (lv_at hl 0 rfl) ?_
  refine xr_gst C w (r := 0) (j := 1) (x := (ks 6 (keyw b) (12 * 0 + 1))) hKW hKD (by omega) (by omega) dX10_generateWorkingKey_291 (fun H locs w hKW => ?_)
  have hk := kwok_put (r := 0) (c := 1) (x := (ks 6 (keyw b) (12 * 0 + 1))) hk (by omega) (by omega) (congrArg (ks 6 (keyw b)) (by omega))
  generalize up2 k 0 1 (ks 6 (keyw b) (12 * 0 + 1)) = k at hKW hk
  refine lv_aload_n hx hb dX10_generateWorkingKey_292 rfl (lv_at hl 6 rfl) ?_
  refine lv_bipush (v := nI 8) hx hb dX10_generateWorkingKey_293 (by decide) ?_
  refine xr_callS0 (n := 2) (rest := []) C w (met_X14_littleEndianToInt l G H.size ky (4 * 6) b 8 (by omega) (by omega)) q431 q432 q30 q433 (by decide +kernel) ⟨rfl, rfl, by decide, by decide⟩ (fun _ _ _ _ h => h) (fun U hU hW => by rw [hU]; exact (xp_cons (xp_keep hR0 (xn_1 hN0) w.2.2.1) xp_nil)) rfl hl.1 rfl (Nat.le_of_ble_eq_true rfl) dX10_generateWorkingKey_295 ⟨by decide, by decide⟩ (fun v hp => ?_)
  subst hp
  refine lv_eqi (y := (ks 6 (keyw b) (12 * 0 + 2))) ((ks_lo (KC := 6) (k0 := keyw b) (i := 2) (by decide)).symm) ?_
  refine lv_istore (lv' := [(8, .int (ks 6 (keyw b) (12 * 0 + 2))), (7, .int (ks 6 (keyw b) (12 * 0 + 1))), (6, .int (ks 6 (keyw b) (12 * 0))), (5, .ref wa), (4, .int (nI 6)), (3, .int (nI (4 * 6))), (0, .ref h), (1, .ref ky), (2, .int (nI z))]) hx hb dX10_generateWorkingKey_298 hl (by decide) rfl (fun ls hl => ?_)
  refine lv_aload hx hb dX10_generateWorkingKey_300 (lv_at hl 3 rfl) ?_
  refine lv_iconst (v := nI 0) hx hb dX10_generateWorkingKey_302 (by decide) ?_
  refine xr_aald C (i := 0) hKW.1 (by omega) (by omega) dX10_generateWorkingKey_303 ?_
  refine lv_eqr (v' := .ref (ad 0)) rfl ?_
  refine lv_iconst (v := nI 2) hx hb dX10_generateWorkingKey_304 (by decide) ?_
  refine lv_iload hx hb dX10_generateWorkingKey_305 (lv_at hl 0 rfl) ?_
  refine xr_gst C w (r := 0) (j := 2) (x := (ks 6 (keyw b) (12 * 0 + 2))) hKW hKD (by omega) (by omega) dX10_generateWorkingKey_307 (fun H locs w hKW => ?_)
  have hk := kwok_put (r := 0) (c := 2) (x := (ks 6 (keyw b) (12 * 0 + 2))) hk (by omega) (by omega) (congrArg (ks 6 (keyw b)) (by omega))
  generalize up2 k 0 2 (ks 6 (keyw b) (12 * 0 + 2)) = k at hKW hk
  refine lv_aload_n hx hb dX10_generateWorkingKey_308 rfl (lv_at hl 7 rfl) ?_
  refine lv_bipush (v := nI 12) hx hb dX10_generateWorkingKey_309 (by decide) ?_
  refine xr_callS0 (n := 2) (rest := []) C w (met_X14_littleEndianToInt l G H.size ky (4 * 6) b 12 (by omega) (by omega)) q431 q432 q30 q433 (by decide +kernel) ⟨rfl, rfl, by decide, by decide⟩ (fun _ _ _ _ h => h) (fun U hU hW => by rw [hU]; exact (xp_cons (xp_keep hR0 (xn_1 hN0) w.2.2.1) xp_nil)) rfl hl.1 rfl (Nat.le_of_ble_eq_true rfl) dX10_generateWorkingKey_311 ⟨by decide, by decide⟩ (fun v hp => ?_)
  subst hp
  refine lv_eqi (y := (ks 6 (keyw b) (12 * 0 + 3))) ((ks_lo (KC := 6) (k0 := keyw b) (i := 3) (by decide)).symm) ?_
  refine lv_istore (lv' := [(9, .int (ks 6 (keyw b) (12 * 0 + 3))), (8, .int (ks 6 (keyw b) (12 * 0 + 2))), (7, .int (ks 6 (keyw b) (12 * 0 + 1))), (6, .int (ks 6 (keyw b) (12 * 0))), (5, .ref wa), (4, .int (nI 6)), (3, .int (nI (4 * 6))), (0, .ref h), (1, .ref ky), (2, .int (nI z))]) hx hb dX10_generateWorkingKey_314 hl (by decide) rfl (fun ls hl => ?_)
  refine lv_aload hx hb dX10_generateWorkingKey_316 (lv_at hl 4 rfl) ?_
  refine lv_iconst (v := nI 0) hx hb dX10_generateWorkingKey_318 (by decide) ?_
  refine xr_aald C (i := 0) hKW.1 (by omega) (by omega) dX10_generateWorkingKey_319 ?_
  refine lv_eqr (v' := .ref (ad 0)) rfl ?_
  refine lv_iconst (v := nI 3) hx hb dX10_generateWorkingKey_320 (by decide) ?_
  refine lv_iload hx hb dX10_generateWorkingKey_321 (lv_at hl 0 rfl) ?_
  refine xr_gst C w (r := 0) (j := 3) (x := (ks 6 (keyw b) (12 * 0 + 3))) hKW hKD (by omega) (by omega) dX10_generateWorkingKey_323 (fun H locs w hKW => ?_)
  have hk := kwok_put (r := 0) (c := 3) (x := (ks 6 (keyw b) (12 * 0 + 3))) hk (by omega) (by omega) (congrArg (ks 6 (keyw b)) (by omega))
  generalize up2 k 0 3 (ks 6 (keyw b) (12 * 0 + 3)) = k at hKW hk
  refine lv_aload_n hx hb dX10_generateWorkingKey_324 rfl (lv_at hl 8 rfl) ?_
  refine lv_bipush (v := nI 16) hx hb dX10_generateWorkingKey_325 (by decide) ?_
  refine xr_callS0 (n := 2) (rest := []) C w (met_X14_littleEndianToInt l G H.size ky (4 * 6) b 16 (by omega) (by omega)) q431 q432 q30 q433 (by decide +kernel) ⟨rfl, rfl, by decide, by decide⟩ (fun _ _ _ _ h => h) (fun U hU hW => by rw [hU]; exact (xp_cons (xp_keep hR0 (xn_1 hN0) w.2.2.1) xp_nil)) rfl hl.1 rfl (Nat.le_of_ble_eq_true rfl) dX10_generateWorkingKey_327 ⟨by decide, by decide⟩ (fun v hp => ?_)
  subst hp
  refine lv_eqi (y := (ks 6 (keyw b) (12 * 0 + 4))) ((ks_lo (KC := 6) (k0 := keyw b) (i := 4) (by decide)).symm) ?_
  refine lv_istore (lv' := [(10, .int (ks 6 (keyw b) (12 * 0 + 4))), (9, .int (ks 6 (keyw b) (12 * 0 + 3))), (8, .int (ks 6 (keyw b) (12 * 0 + 2))), (7, .int (ks 6 (keyw b) (12 * 0 + 1))), (6, .int (ks 6 (keyw b) (12 * 0))), (5, .ref wa), (4, .int (nI 6)), (3, .int (nI (4 * 6))), (0, .ref h), (1, .ref ky), (2, .int (nI z))]) hx hb dX10_generateWorkingKey_330 hl (by decide) rfl (fun ls hl => ?_)
  refine lv_aload_n hx hb dX10_generateWorkingKey_332 rfl (lv_at hl 9 rfl) ?_
  refine lv_bipush (v := nI 20) hx hb dX10_generateWorkingKey_333 (by decide) ?_
  refine xr_callS0 (n := 2) (rest := []) C w (met_X14_littleEndianToInt l G H.size ky (4 * 6) b 20 (by omega) (by omega)) q431 q432 q30 q433 (by decide +kernel) ⟨rfl, rfl, by decide, by decide⟩ (fun _ _ _ _ h => h) (fun U hU hW => by rw [hU]; exact (xp_cons (xp_keep hR0 (xn_1 hN0) w.2.2.1) xp_nil)) rfl hl.1 rfl (Nat.le_of_ble_eq_true rfl) dX10_generateWorkingKey_335 ⟨by decide, by decide⟩ (fun v hp => ?_)
  subst hp
  refine lv_eqi (y := (ks 6 (keyw b) (12 * 0 + 5))) ((ks_lo (KC := 6) (k0 := keyw b) (i := 5) (by decide)).symm) ?_
  refine lv_istore (lv' := [(11, .int (ks 6 (keyw b) (12 * 0 + 5))), (10, .int (ks 6 (keyw b) (12 * 0 + 4))), (9, .int (ks 6 (keyw b) (12 * 0 + 3))), (8, .int (ks 6 (keyw b) (12 * 0 + 2))), (7, .int (ks 6 (keyw b) (12 * 0 + 1))), (6, .int (ks 6 (keyw b) (12 * 0))), (5, .ref wa), (4, .int (nI 6)), (3, .int (nI (4 * 6))), (0, .ref h), (1, .ref ky), (2, .int (nI z))]) hx hb dX10_generateWorkingKey_338 hl (by decide) rfl (fun ls hl => ?_)
  refine lv_iconst (v := nI 1) hx hb dX10_generateWorkingKey_340 (by decide) ?_
  refine lv_istore (lv' := [(12, .int (nI 1)), (11, .int (ks 6 (keyw b) (12 * 0 + 5))), (10, .int (ks 6 (keyw b) (12 * 0 + 4))), (9, .int (ks 6 (keyw b) (12 * 0 + 3))), (8, .int (ks 6 (keyw b) (12 * 0 + 2))), (7, .int (ks 6 (keyw b) (12 * 0 + 1))), (6, .int (ks 6 (keyw b) (12 * 0))), (5, .ref wa), (4, .int (nI 6)), (3, .int (nI (4 * 6))), (0, .ref h), (1, .ref ky), (2, .int (nI z))]) hx hb dX10_generateWorkingKey_341 hl (by decide) rfl (fun ls hl => ?_)
  refine lv_iconst (v := nI 1) hx hb dX10_generateWorkingKey_343 (by decide) ?_
  refine lv_eqi (y := nI (2 ^ (2 * 0))) (rfl) ?_
  refine lv_istore (lv' := [(13, .int (nI (2 ^ (2 * 0)))), (12, .int (nI 1)), (11, .int (ks 6 (keyw b) (12 * 0 + 5))), (10, .int (ks 6 (keyw b) (12 * 0 + 4))), (9, .int (ks 6 (keyw b) (12 * 0 + 3))), (8, .int (ks 6 (keyw b) (12 * 0 + 2))), (7, .int (ks 6 (keyw b) (12 * 0 + 1))), (6, .int (ks 6 (keyw b) (12 * 0))), (5, .ref wa), (4, .int (nI 6)), (3, .int (nI (4 * 6))), (0, .ref h), (1, .ref ky), (2, .int (nI z))]) hx hb dX10_generateWorkingKey_344 hl (by decide) rfl (fun ls hl => ?_)
  have loop_346 : ∀ (nn : Nat) (j : Nat) (k : Nat → Nat → Int32), 4 - j < nn → (hj : j ≤ 3) → (hk : KWok (ks 6 (keyw b)) k (12 * j + 4)) → ∀ (H : Heap) (locs : List Loc) (ls : Array Slot), Wd G A [(h, xO 6 [.int (nI (6 + 6)), v1, .int r2, v3])] s s.heap H locs → (hKW : KW G wa 13 ad k H) → lv_has ls 17 [(0, .ref h), (1, .ref ky), (2, .int (nI z)), (5, .ref wa), (6, .int (ks 6 (keyw b) (12 * j))), (7, .int (ks 6 (keyw b) (12 * j + 1))), (8, .int (ks 6 (keyw b) (12 * j + 2))), (9, .int (ks 6 (keyw b) (12 * j + 3))), (10, .int (ks 6 (keyw b) (12 * j + 4))), (11, .int (ks 6 (keyw b) (12 * j + 5))), (12, .int (nI (3 * j + 1))), (13, .int (nI (2 ^ (2 * j))))] → W p l e ({ frames := 2, cells := 16, slots := 75, locals := 60 } : Room) s m args below meth c H locs 14 65 Q (F0 m 346 ls []) := by
    intro nn
    induction nn with
    | zero => intro j k hmm; exact absurd hmm (Nat.not_lt_zero _)
    | succ nn ih_346 =>
      intro j k hmm hj hk H locs ls w hKW hl
      refine lv_aload hx hb dX10_generateWorkingKey_346 (lv_at hl 3 rfl) ?_
      refine lv_iload hx hb dX10_generateWorkingKey_348 (lv_at hl 10 rfl) ?_
      refine xr_aald C (i := 3 * j + 1) hKW.1 (by omega) (by omega) dX10_generateWorkingKey_350 ?_
      refine lv_eqr (v' := .ref (ad (3 * j + 1))) rfl ?_
      refine lv_iconst (v := nI 0) hx hb dX10_generateWorkingKey_351 (by decide) ?_
      refine lv_iload hx hb dX10_generateWorkingKey_352 (lv_at hl 8 rfl) ?_
      refine xr_gst C w (r := 3 * j + 1) (j := 0) (x := (ks 6 (keyw b) (12 * j + 4))) hKW hKD (by omega) (by omega) dX10_generateWorkingKey_354 (fun H locs w hKW => ?_)
      have hk := kwok_put (r := 3 * j + 1) (c := 0) (x := (ks 6 (keyw b) (12 * j + 4))) hk (by omega) (by omega) (congrArg (ks 6 (keyw b)) (by omega))
      generalize up2 k (3 * j + 1) 0 (ks 6 (keyw b) (12 * j + 4)) = k at hKW hk
      refine lv_aload hx hb dX10_generateWorkingKey_355 (lv_at hl 3 rfl) ?_
      refine lv_iload hx hb dX10_generateWorkingKey_357 (lv_at hl 10 rfl) ?_
      refine xr_aald C (i := 3 * j + 1) hKW.1 (by omega) (by omega) dX10_generateWorkingKey_359 ?_
      refine lv_eqr (v' := .ref (ad (3 * j + 1))) rfl ?_
      refine lv_iconst (v := nI 1) hx hb dX10_generateWorkingKey_360 (by decide) ?_
      refine lv_iload hx hb dX10_generateWorkingKey_361 (lv_at hl 9 rfl) ?_
      refine xr_gst C w (r := 3 * j + 1) (j := 1) (x := (ks 6 (keyw b) (12 * j + 5))) hKW hKD (by omega) (by omega) dX10_generateWorkingKey_363 (fun H locs w hKW => ?_)
      have hk := kwok_put (r := 3 * j + 1) (c := 1) (x := (ks 6 (keyw b) (12 * j + 5))) hk (by omega) (by omega) (congrArg (ks 6 (keyw b)) (by omega))
      generalize up2 k (3 * j + 1) 1 (ks 6 (keyw b) (12 * j + 5)) = k at hKW hk
      refine lv_iload hx hb dX10_generateWorkingKey_364 (lv_at hl 9 rfl) ?_
      refine lv_bipush (v := nI 8) hx hb dX10_generateWorkingKey_366 (by decide) ?_
      refine xr_callS0 (n := 2) (rest := []) C w (met_X10_shift l G H.size (ks 6 (keyw b) (12 * j + 5)) (nI 8) ) q434 q435 q19 q436 (by decide +kernel) ⟨rfl, rfl, by decide, by decide⟩ (fun _ _ _ _ h => h) (fun U hU hW => trivial) rfl hl.1 rfl (Nat.le_of_ble_eq_true rfl) dX10_generateWorkingKey_368 ⟨by decide, by decide⟩ (fun v hp => ?_)
      subst hp
      refine xr_callS0 (n := 1) (rest := []) C w (met_X10_subWord l G H.size (shf (ks 6 (keyw b) (12 * j + 5)) (nI 8)) ) q437 q438 q19 q439 (by decide +kernel) ⟨rfl, rfl, by decide, by decide⟩ (fun _ _ _ _ h => h) (fun U hU hW => trivial) rfl hl.1 rfl (Nat.le_of_ble_eq_true rfl) dX10_generateWorkingKey_371 ⟨by decide, by decide⟩ (fun v hp => ?_)
      subst hp
      refine lv_iload hx hb dX10_generateWorkingKey_374 (lv_at hl 11 rfl) ?_
      refine lv_ixor hx hb dX10_generateWorkingKey_376 ?_
      refine lv_eqi (y := (sbw (shf (ks 6 (keyw b) (12 * j + 5)) (nI 8)) ^^^ tR (2 * j))) (by rw [rc_eq (2 * j) (by omega)]) ?_
      refine lv_istore (lv' := [(14, .int (sbw (shf (ks 6 (keyw b) (12 * j + 5)) (nI 8)) ^^^ tR (2 * j))), (0, .ref h), (1, .ref ky), (2, .int (nI z)), (5, .ref wa), (6, .int (ks 6 (keyw b) (12 * j))), (7, .int (ks 6 (keyw b) (12 * j + 1))), (8, .int (ks 6 (keyw b) (12 * j + 2))), (9, .int (ks 6 (keyw b) (12 * j + 3))), (10, .int (ks 6 (keyw b) (12 * j + 4))), (11, .int (ks 6 (keyw b) (12 * j + 5))), (12, .int (nI (3 * j + 1))), (13, .int (nI (2 ^ (2 * j))))]) hx hb dX10_generateWorkingKey_377 hl (by decide) rfl (fun ls hl => ?_)
      refine lv_iload hx hb dX10_generateWorkingKey_379 (lv_at hl 12 rfl) ?_
      refine lv_iconst (v := nI 1) hx hb dX10_generateWorkingKey_381 (by decide) ?_
      refine lv_ishl hx hb dX10_generateWorkingKey_382 ?_
      refine lv_eqi (y := nI (2 ^ (2 * j + 1))) (rc_shl (2 * j) (by omega)) ?_
      refine lv_istore (lv' := [(13, .int (nI (2 ^ (2 * j + 1)))), (14, .int (sbw (shf (ks 6 (keyw b) (12 * j + 5)) (nI 8)) ^^^ tR (2 * j))), (0, .ref h), (1, .ref ky), (2, .int (nI z)), (5, .ref wa), (6, .int (ks 6 (keyw b) (12 * j))), (7, .int (ks 6 (keyw b) (12 * j + 1))), (8, .int (ks 6 (keyw b) (12 * j + 2))), (9, .int (ks 6 (keyw b) (12 * j + 3))), (10, .int (ks 6 (keyw b) (12 * j + 4))), (11, .int (ks 6 (keyw b) (12 * j + 5))), (12, .int (nI (3 * j + 1)))]) hx hb dX10_generateWorkingKey_383 hl (by decide) rfl (fun ls hl => ?_)
      refine lv_iload hx hb dX10_generateWorkingKey_385 (lv_at hl 6 rfl) ?_
      refine lv_iload hx hb dX10_generateWorkingKey_387 (lv_at hl 1 rfl) ?_
      refine lv_ixor hx hb dX10_generateWorkingKey_389 ?_
      refine lv_eqi (y := (ks 6 (keyw b) (12 * j + 6))) (ks0 (t := 2 * j) (by decide) (by omega) (by omega) (by omega)) ?_
      refine lv_istore (lv' := [(6, .int (ks 6 (keyw b) (12 * j + 6))), (13, .int (nI (2 ^ (2 * j + 1)))), (14, .int (sbw (shf (ks 6 (keyw b) (12 * j + 5)) (nI 8)) ^^^ tR (2 * j))), (0, .ref h), (1, .ref ky), (2, .int (nI z)), (5, .ref wa), (7, .int (ks 6 (keyw b) (12 * j + 1))), (8, .int (ks 6 (keyw b) (12 * j + 2))), (9, .int (ks 6 (keyw b) (12 * j + 3))), (10, .int (ks 6 (keyw b) (12 * j + 4))), (11, .int (ks 6 (keyw b) (12 * j + 5))), (12, .int (nI (3 * j + 1)))]) hx hb dX10_generateWorkingKey_390 hl (by decide) rfl (fun ls hl => ?_)
      refine lv_aload hx hb dX10_generateWorkingKey_392 (lv_at hl 6 rfl) ?_
      refine lv_iload hx hb dX10_generateWorkingKey_394 (lv_at hl 12 rfl) ?_
      refine xr_aald C (i := 3 * j + 1) hKW.1 (by omega) (by omega) dX10_generateWorkingKey_396 ?_
      refine lv_eqr (v' := .ref (ad (3 * j + 1))) rfl ?_
      refine lv_iconst (v := nI 2) hx hb dX10_generateWorkingKey_397 (by decide) ?_
      refine lv_iload hx hb dX10_generateWorkingKey_398 (lv_at hl 0 rfl) ?_
      refine xr_gst C w (r := 3 * j + 1) (j := 2) (x := (ks 6 (keyw b) (12 * j + 6))) hKW hKD (by omega) (by omega) dX10_generateWorkingKey_400 (fun H locs w hKW => ?_)
      have hk := kwok_put (r := 3 * j + 1) (c := 2) (x := (ks 6 (keyw b) (12 * j + 6))) hk (by omega) (by omega) (congrArg (ks 6 (keyw b)) (by omega))
      generalize up2 k (3 * j + 1) 2 (ks 6 (keyw b) (12 * j + 6)) = k at hKW hk
      refine lv_iload hx hb dX10_generateWorkingKey_401 (lv_at hl 7 rfl) ?_
      refine lv_iload hx hb dX10_generateWorkingKey_403 (lv_at hl 0 rfl) ?_
      refine lv_ixor hx hb dX10_generateWorkingKey_405 ?_
      refine lv_eqi (y := (ks 6 (keyw b) (12 * j + 7))) (ksN (by decide) (by omega) (by omega) (by omega) (by omega)) ?_
      refine lv_istore (lv' := [(7, .int (ks 6 (keyw b) (12 * j + 7))), (6, .int (ks 6 (keyw b) (12 * j + 6))), (13, .int (nI (2 ^ (2 * j + 1)))), (14, .int (sbw (shf (ks 6 (keyw b) (12 * j + 5)) (nI 8)) ^^^ tR (2 * j))), (0, .ref h), (1, .ref ky), (2, .int (nI z)), (5, .ref wa), (8, .int (ks 6 (keyw b) (12 * j + 2))), (9, .int (ks 6 (keyw b) (12 * j + 3))), (10, .int (ks 6 (keyw b) (12 * j + 4))), (11, .int (ks 6 (keyw b) (12 * j + 5))), (12, .int (nI (3 * j + 1)))]) hx hb dX10_generateWorkingKey_406 hl (by decide) rfl (fun ls hl => ?_)
      refine lv_aload hx hb dX10_generateWorkingKey_408 (lv_at hl 7 rfl) ?_
      refine lv_iload hx hb dX10_generateWorkingKey_410 (lv_at hl 12 rfl) ?_
      refine xr_aald C (i := 3 * j + 1) hKW.1 (by omega) (by omega) dX10_generateWorkingKey_412 ?_
      refine lv_eqr (v' := .ref (ad (3 * j + 1))) rfl ?_
      refine lv_iconst (v := nI 3) hx hb dX10_generateWorkingKey_413 (by decide) ?_
      refine lv_iload hx hb dX10_generateWorkingKey_414 (lv_at hl 0 rfl) ?_
      refine xr_gst C w (r := 3 * j + 1) (j := 3) (x := (ks 6 (keyw b) (12 * j + 7))) hKW hKD (by omega) (by omega) dX10_generateWorkingKey_416 (fun H locs w hKW => ?_)
      have hk := kwok_put (r := 3 * j + 1) (c := 3) (x := (ks 6 (keyw b) (12 * j + 7))) hk (by omega) (by omega) (congrArg (ks 6 (keyw b)) (by omega))
      generalize up2 k (3 * j + 1) 3 (ks 6 (keyw b) (12 * j + 7)) = k at hKW hk
      refine lv_iload hx hb dX10_generateWorkingKey_417 (lv_at hl 8 rfl) ?_
      refine lv_iload hx hb dX10_generateWorkingKey_419 (lv_at hl 0 rfl) ?_
      refine lv_ixor hx hb dX10_generateWorkingKey_421 ?_
      refine lv_eqi (y := (ks 6 (keyw b) (12 * j + 8))) (ksN (by decide) (by omega) (by omega) (by omega) (by omega)) ?_
      refine lv_istore (lv' := [(8, .int (ks 6 (keyw b) (12 * j + 8))), (7, .int (ks 6 (keyw b) (12 * j + 7))), (6, .int (ks 6 (keyw b) (12 * j + 6))), (13, .int (nI (2 ^ (2 * j + 1)))), (14, .int (sbw (shf (ks 6 (keyw b) (12 * j + 5)) (nI 8)) ^^^ tR (2 * j))), (0, .ref h), (1, .ref ky), (2, .int (nI z)), (5, .ref wa), (9, .int (ks 6 (keyw b) (12 * j + 3))), (10, .int (ks 6 (keyw b) (12 * j + 4))), (11, .int (ks 6 (keyw b) (12 * j + 5))), (12, .int (nI (3 * j + 1)))]) hx hb dX10_generateWorkingKey_422 hl (by decide) rfl (fun ls hl => ?_)
      refine lv_aload hx hb dX10_generateWorkingKey_424 (lv_at hl 8 rfl) ?_
      refine lv_iload hx hb dX10_generateWorkingKey_426 (lv_at hl 12 rfl) ?_
      refine lv_iconst (v := nI 1) hx hb dX10_generateWorkingKey_428 (by decide) ?_
      refine lv_iadd hx hb dX10_generateWorkingKey_429 ?_
      refine lv_eqi (nI_add (3 * j + 1) 1) ?_
      refine xr_aald C (i := 3 * j + 1 + 1) hKW.1 (by omega) (by omega) dX10_generateWorkingKey_430 ?_
      refine lv_eqr (v' := .ref (ad (3 * j + 1 + 1))) rfl ?_
      refine lv_iconst (v := nI 0) hx hb dX10_generateWorkingKey_431 (by decide) ?_
      refine lv_iload hx hb dX10_generateWorkingKey_432 (lv_at hl 0 rfl) ?_
      refine xr_gst C w (r := 3 * j + 1 + 1) (j := 0) (x := (ks 6 (keyw b) (12 * j + 8))) hKW hKD (by omega) (by omega) dX10_generateWorkingKey_434 (fun H locs w hKW => ?_)
      have hk := kwok_put (r := 3 * j + 1 + 1) (c := 0) (x := (ks 6 (keyw b) (12 * j + 8))) hk (by omega) (by omega) (congrArg (ks 6 (keyw b)) (by omega))
      generalize up2 k (3 * j + 1 + 1) 0 (ks 6 (keyw b) (12 * j + 8)) = k at hKW hk
      refine lv_iload hx hb dX10_generateWorkingKey_435 (lv_at hl 9 rfl) ?_
      refine lv_iload hx hb dX10_generateWorkingKey_437 (lv_at hl 0 rfl) ?_
      refine lv_ixor hx hb dX10_generateWorkingKey_439 ?_
      refine lv_eqi (y := (ks 6 (keyw b) (12 * j + 9))) (ksN (by decide) (by omega) (by omega) (by omega) (by omega)) ?_
      refine lv_istore (lv' := [(9, .int (ks 6 (keyw b) (12 * j + 9))), (8, .int (ks 6 (keyw b) (12 * j + 8))), (7, .int (ks 6 (keyw b) (12 * j + 7))), (6, .int (ks 6 (keyw b) (12 * j + 6))), (13, .int (nI (2 ^ (2 * j + 1)))), (14, .int (sbw (shf (ks 6 (keyw b) (12 * j + 5)) (nI 8)) ^^^ tR (2 * j))), (0, .ref h), (1, .ref ky), (2, .int (nI z)), (5, .ref wa), (10, .int (ks 6 (keyw b) (12 * j + 4))), (11, .int (ks 6 (keyw b) (12 * j + 5))), (12, .int (nI (3 * j + 1)))]) hx hb dX10_generateWorkingKey_440 hl (by decide) rfl (fun ls hl => ?_)
      refine lv_aload hx hb dX10_generateWorkingKey_442 (lv_at hl 9 rfl) ?_
      refine lv_iload hx hb dX10_generateWorkingKey_444 (lv_at hl 12 rfl) ?_
      refine lv_iconst (v := nI 1) hx hb dX10_generateWorkingKey_446 (by decide) ?_
      refine lv_iadd hx hb dX10_generateWorkingKey_447 ?_
      refine lv_eqi (nI_add (3 * j + 1) 1) ?_
      refine xr_aald C (i := 3 * j + 1 + 1) hKW.1 (by omega) (by omega) dX10_generateWorkingKey_448 ?_
      refine lv_eqr (v' := .ref (ad (3 * j + 1 + 1))) rfl ?_
      refine lv_iconst (v := nI 1) hx hb dX10_generateWorkingKey_449 (by decide) ?_
      refine lv_iload hx hb dX10_generateWorkingKey_450 (lv_at hl 0 rfl) ?_
      refine xr_gst C w (r := 3 * j + 1 + 1) (j := 1) (x := (ks 6 (keyw b) (12 * j + 9))) hKW hKD (by omega) (by omega) dX10_generateWorkingKey_452 (fun H locs w hKW => ?_)
      have hk := kwok_put (r := 3 * j + 1 + 1) (c := 1) (x := (ks 6 (keyw b) (12 * j + 9))) hk (by omega) (by omega) (congrArg (ks 6 (keyw b)) (by omega))
      generalize up2 k (3 * j + 1 + 1) 1 (ks 6 (keyw b) (12 * j + 9)) = k at hKW hk
      refine lv_iload hx hb dX10_generateWorkingKey_453 (lv_at hl 10 rfl) ?_
      refine lv_iload hx hb dX10_generateWorkingKey_455 (lv_at hl 0 rfl) ?_
      refine lv_ixor hx hb dX10_generateWorkingKey_457 ?_
      refine lv_eqi (y := (ks 6 (keyw b) (12 * j + 10))) (ksN (by decide) (by omega) (by omega) (by omega) (by omega)) ?_
      refine lv_istore (lv' := [(10, .int (ks 6 (keyw b) (12 * j + 10))), (9, .int (ks 6 (keyw b) (12 * j + 9))), (8, .int (ks 6 (keyw b) (12 * j + 8))), (7, .int (ks 6 (keyw b) (12 * j + 7))), (6, .int (ks 6 (keyw b) (12 * j + 6))), (13, .int (nI (2 ^ (2 * j + 1)))), (14, .int (sbw (shf (ks 6 (keyw b) (12 * j + 5)) (nI 8)) ^^^ tR (2 * j))), (0, .ref h), (1, .ref ky), (2, .int (nI z)), (5, .ref wa), (11, .int (ks 6 (keyw b) (12 * j + 5))), (12, .int (nI (3 * j + 1)))]) hx hb dX10_generateWorkingKey_458 hl (by decide) rfl (fun ls hl => ?_)
      refine lv_aload hx hb dX10_generateWorkingKey_460 (lv_at hl 10 rfl) ?_
      refine lv_iload hx hb dX10_generateWorkingKey_462 (lv_at hl 12 rfl) ?_
      refine lv_iconst (v := nI 1) hx hb dX10_generateWorkingKey_464 (by decide) ?_
      refine lv_iadd hx hb dX10_generateWorkingKey_465 ?_
      refine lv_eqi (nI_add (3 * j + 1) 1) ?_
      refine xr_aald C (i := 3 * j + 1 + 1) hKW.1 (by omega) (by omega) dX10_generateWorkingKey_466 ?_
      refine lv_eqr (v' := .ref (ad (3 * j + 1 + 1))) rfl ?_
      refine lv_iconst (v := nI 2) hx hb dX10_generateWorkingKey_467 (by decide) ?_
      refine lv_iload hx hb dX10_generateWorkingKey_468 (lv_at hl 0 rfl) ?_
      refine xr_gst C w (r := 3 * j + 1 + 1) (j := 2) (x := (ks 6 (keyw b) (12 * j + 10))) hKW hKD (by omega) (by omega) dX10_generateWorkingKey_470 (fun H locs w hKW => ?_)
      have hk := kwok_put (r := 3 * j + 1 + 1) (c := 2) (x := (ks 6 (keyw b) (12 * j + 10))) hk (by omega) (by omega) (congrArg (ks 6 (keyw b)) (by omega))
      generalize up2 k (3 * j + 1 + 1) 2 (ks 6 (keyw b) (12 * j + 10)) = k at hKW hk
      refine lv_iload hx hb dX10_generateWorkingKey_471 (lv_at hl 11 rfl) ?_
      refine lv_iload hx hb dX10_generateWorkingKey_473 (lv_at hl 0 rfl) ?_
      refine lv_ixor hx hb dX10_generateWorkingKey_475 ?_
      refine lv_eqi (y := (ks 6 (keyw b) (12 * j + 11))) (ksN (by decide) (by omega) (by omega) (by omega) (by omega)) ?_
      refine lv_istore (lv' := [(11, .int (ks 6 (keyw b) (12 * j + 11))), (10, .int (ks 6 (keyw b) (12 * j + 10))), (9, .int (ks 6 (keyw b) (12 * j + 9))), (8, .int (ks 6 (keyw b) (12 * j + 8))), (7, .int (ks 6 (keyw b) (12 * j + 7))), (6, .int (ks 6 (keyw b) (12 * j + 6))), (13, .int (nI (2 ^ (2 * j + 1)))), (14, .int (sbw (shf (ks 6 (keyw b) (12 * j + 5)) (nI 8)) ^^^ tR (2 * j))), (0, .ref h), (1, .ref ky), (2, .int (nI z)), (5, .ref wa), (12, .int (nI (3 * j + 1)))]) hx hb dX10_generateWorkingKey_476 hl (by decide) rfl (fun ls hl => ?_)
      refine lv_aload hx hb dX10_generateWorkingKey_478 (lv_at hl 11 rfl) ?_
      refine lv_iload hx hb dX10_generateWorkingKey_480 (lv_at hl 12 rfl) ?_
      refine lv_iconst (v := nI 1) hx hb dX10_generateWorkingKey_482 (by decide) ?_
      refine lv_iadd hx hb dX10_generateWorkingKey_483 ?_
      refine lv_eqi (nI_add (3 * j + 1) 1) ?_
      refine xr_aald C (i := 3 * j + 1 + 1) hKW.1 (by omega) (by omega) dX10_generateWorkingKey_484 ?_
      refine lv_eqr (v' := .ref (ad (3 * j + 1 + 1))) rfl ?_
      refine lv_iconst (v := nI 3) hx hb dX10_generateWorkingKey_485 (by decide) ?_
      refine lv_iload hx hb dX10_generateWorkingKey_486 (lv_at hl 0 rfl) ?_
      refine xr_gst C w (r := 3 * j + 1 + 1) (j := 3) (x := (ks 6 (keyw b) (12 * j + 11))) hKW hKD (by omega) (by omega) dX10_generateWorkingKey_488 (fun H locs w hKW => ?_)
      have hk := kwok_put (r := 3 * j + 1 + 1) (c := 3) (x := (ks 6 (keyw b) (12 * j + 11))) hk (by omega) (by omega) (congrArg (ks 6 (keyw b)) (by omega))
      generalize up2 k (3 * j + 1 + 1) 3 (ks 6 (keyw b) (12 * j + 11)) = k at hKW hk
      refine lv_iload hx hb dX10_generateWorkingKey_489 (lv_at hl 0 rfl) ?_
      refine lv_bipush (v := nI 8) hx hb dX10_generateWorkingKey_491 (by decide) ?_
      refine xr_callS0 (n := 2) (rest := []) C w (met_X10_shift l G H.size (ks 6 (keyw b) (12 * j + 11)) (nI 8) ) q434 q435 q19 q436 (by decide +kernel) ⟨rfl, rfl, by decide, by decide⟩ (fun _ _ _ _ h => h) (fun U hU hW => trivial) rfl hl.1 rfl (Nat.le_of_ble_eq_true rfl) dX10_generateWorkingKey_493 ⟨by decide, by decide⟩ (fun v hp => ?_)
      subst hp
      refine xr_callS0 (n := 1) (rest := []) C w (met_X10_subWord l G H.size (shf (ks 6 (keyw b) (12 * j + 11)) (nI 8)) ) q437 q438 q19 q439 (by decide +kernel) ⟨rfl, rfl, by decide, by decide⟩ (fun _ _ _ _ h => h) (fun U hU hW => trivial) rfl hl.1 rfl (Nat.le_of_ble_eq_true rfl) dX10_generateWorkingKey_496 ⟨by decide, by decide⟩ (fun v hp => ?_)
      subst hp
      refine lv_iload hx hb dX10_generateWorkingKey_499 (lv_at hl 6 rfl) ?_
      refine lv_ixor hx hb dX10_generateWorkingKey_501 ?_
      refine lv_eqi (y := (sbw (shf (ks 6 (keyw b) (12 * j + 11)) (nI 8)) ^^^ tR (2 * j + 1))) (by rw [rc_eq (2 * j + 1) (by omega)]) ?_
      refine lv_istore (lv' := [(14, .int (sbw (shf (ks 6 (keyw b) (12 * j + 11)) (nI 8)) ^^^ tR (2 * j + 1))), (11, .int (ks 6 (keyw b) (12 * j + 11))), (10, .int (ks 6 (keyw b) (12 * j + 10))), (9, .int (ks 6 (keyw b) (12 * j + 9))), (8, .int (ks 6 (keyw b) (12 * j + 8))), (7, .int (ks 6 (keyw b) (12 * j + 7))), (6, .int (ks 6 (keyw b) (12 * j + 6))), (13, .int (nI (2 ^ (2 * j + 1)))), (0, .ref h), (1, .ref ky), (2, .int (nI z)), (5, .ref wa), (12, .int (nI (3 * j + 1)))]) hx hb dX10_generateWorkingKey_502 hl (by decide) rfl (fun ls hl => ?_)
      refine lv_iload hx hb dX10_generateWorkingKey_504 (lv_at hl 7 rfl) ?_
      refine lv_iconst (v := nI 1) hx hb dX10_generateWorkingKey_506 (by decide) ?_
      refine lv_ishl hx hb dX10_generateWorkingKey_507 ?_
      refine lv_eqi (y := nI (2 ^ (2 * (j + 1)))) ((rc_shl (2 * j + 1) (by omega)).trans (by rw [show 2 * j + 1 + 1 = 2 * (j + 1) by omega])) ?_
      refine lv_istore (lv' := [(13, .int (nI (2 ^ (2 * (j + 1))))), (14, .int (sbw (shf (ks 6 (keyw b) (12 * j + 11)) (nI 8)) ^^^ tR (2 * j + 1))), (11, .int (ks 6 (keyw b) (12 * j + 11))), (10, .int (ks 6 (keyw b) (12 * j + 10))), (9, .int (ks 6 (keyw b) (12 * j + 9))), (8, .int (ks 6 (keyw b) (12 * j + 8))), (7, .int (ks 6 (keyw b) (12 * j + 7))), (6, .int (ks 6 (keyw b) (12 * j + 6))), (0, .ref h), (1, .ref ky), (2, .int (nI z)), (5, .ref wa), (12, .int (nI (3 * j + 1)))]) hx hb dX10_generateWorkingKey_508 hl (by decide) rfl (fun ls hl => ?_)
      refine lv_iload hx hb dX10_generateWorkingKey_510 (lv_at hl 7 rfl) ?_
      refine lv_iload hx hb dX10_generateWorkingKey_512 (lv_at hl 1 rfl) ?_
      refine lv_ixor hx hb dX10_generateWorkingKey_514 ?_
      refine lv_eqi (y := (ks 6 (keyw b) (12 * (j + 1)))) (ks0 (t := 2 * j + 1) (by decide) (by omega) (by omega) (by omega)) ?_
      refine lv_istore (lv' := [(6, .int (ks 6 (keyw b) (12 * (j + 1)))), (13, .int (nI (2 ^ (2 * (j + 1))))), (14, .int (sbw (shf (ks 6 (keyw b) (12 * j + 11)) (nI 8)) ^^^ tR (2 * j + 1))), (11, .int (ks 6 (keyw b) (12 * j + 11))), (10, .int (ks 6 (keyw b) (12 * j + 10))), (9, .int (ks 6 (keyw b) (12 * j + 9))), (8, .int (ks 6 (keyw b) (12 * j + 8))), (7, .int (ks 6 (keyw b) (12 * j + 7))), (0, .ref h), (1, .ref ky), (2, .int (nI z)), (5, .ref wa), (12, .int (nI (3 * j + 1)))]) hx hb dX10_generateWorkingKey_515 hl (by decide) rfl (fun ls hl => ?_)
      refine lv_aload hx hb dX10_generateWorkingKey_517 (lv_at hl 11 rfl) ?_
      refine lv_iload hx hb dX10_generateWorkingKey_519 (lv_at hl 12 rfl) ?_
      refine lv_iconst (v := nI 2) hx hb dX10_generateWorkingKey_521 (by decide) ?_
      refine lv_iadd hx hb dX10_generateWorkingKey_522 ?_
      refine lv_eqi (nI_add (3 * j + 1) 2) ?_
      refine xr_aald C (i := 3 * j + 1 + 2) hKW.1 (by omega) (by omega) dX10_generateWorkingKey_523 ?_
      refine lv_eqr (v' := .ref (ad (3 * j + 1 + 2))) rfl ?_
      refine lv_iconst (v := nI 0) hx hb dX10_generateWorkingKey_524 (by decide) ?_
      refine lv_iload hx hb dX10_generateWorkingKey_525 (lv_at hl 0 rfl) ?_
      refine xr_gst C w (r := 3 * j + 1 + 2) (j := 0) (x := (ks 6 (keyw b) (12 * (j + 1)))) hKW hKD (by omega) (by omega) dX10_generateWorkingKey_527 (fun H locs w hKW => ?_)
      have hk := kwok_put (r := 3 * j + 1 + 2) (c := 0) (x := (ks 6 (keyw b) (12 * (j + 1)))) hk (by omega) (by omega) (congrArg (ks 6 (keyw b)) (by omega))
      generalize up2 k (3 * j + 1 + 2) 0 (ks 6 (keyw b) (12 * (j + 1))) = k at hKW hk
      refine lv_iload hx hb dX10_generateWorkingKey_528 (lv_at hl 7 rfl) ?_
      refine lv_iload hx hb dX10_generateWorkingKey_530 (lv_at hl 0 rfl) ?_
      refine lv_ixor hx hb dX10_generateWorkingKey_532 ?_
      refine lv_eqi (y := (ks 6 (keyw b) (12 * (j + 1) + 1))) (ksN (by decide) (by omega) (by omega) (by omega) (by omega)) ?_
      refine lv_istore (lv' := [(7, .int (ks 6 (keyw b) (12 * (j + 1) + 1))), (6, .int (ks 6 (keyw b) (12 * (j + 1)))), (13, .int (nI (2 ^ (2 * (j + 1))))), (14, .int (sbw (shf (ks 6 (keyw b) (12 * j + 11)) (nI 8)) ^^^ tR (2 * j + 1))), (11, .int (ks 6 (keyw b) (12 * j + 11))), (10, .int (ks 6 (keyw b) (12 * j + 10))), (9, .int (ks 6 (keyw b) (12 * j + 9))), (8, .int (ks 6 (keyw b) (12 * j + 8))), (0, .ref h), (1, .ref ky), (2, .int (nI z)), (5, .ref wa), (12, .int (nI (3 * j + 1)))]) hx hb dX10_generateWorkingKey_533 hl (by decide) rfl (fun ls hl => ?_)
      refine lv_aload hx hb dX10_generateWorkingKey_535 (lv_at hl 11 rfl) ?_
      refine lv_iload hx hb dX10_generateWorkingKey_537 (lv_at hl 12 rfl) ?_
      refine lv_iconst (v := nI 2) hx hb dX10_generateWorkingKey_539 (by decide) ?_
      refine lv_iadd hx hb dX10_generateWorkingKey_540 ?_
      refine lv_eqi (nI_add (3 * j + 1) 2) ?_
      refine xr_aald C (i := 3 * j + 1 + 2) hKW.1 (by omega) (by omega) dX10_generateWorkingKey_541 ?_
      refine lv_eqr (v' := .ref (ad (3 * j + 1 + 2))) rfl ?_
      refine lv_iconst (v := nI 1) hx hb dX10_generateWorkingKey_542 (by decide) ?_
      refine lv_iload hx hb dX10_generateWorkingKey_543 (lv_at hl 0 rfl) ?_
      refine xr_gst C w (r := 3 * j + 1 + 2) (j := 1) (x := (ks 6 (keyw b) (12 * (j + 1) + 1))) hKW hKD (by omega) (by omega) dX10_generateWorkingKey_545 (fun H locs w hKW => ?_)
      have hk := kwok_put (r := 3 * j + 1 + 2) (c := 1) (x := (ks 6 (keyw b) (12 * (j + 1) + 1))) hk (by omega) (by omega) (congrArg (ks 6 (keyw b)) (by omega))
      generalize up2 k (3 * j + 1 + 2) 1 (ks 6 (keyw b) (12 * (j + 1) + 1)) = k at hKW hk
      refine lv_iload hx hb dX10_generateWorkingKey_546 (lv_at hl 7 rfl) ?_
      refine lv_iload hx hb dX10_generateWorkingKey_548 (lv_at hl 0 rfl) ?_
      refine lv_ixor hx hb dX10_generateWorkingKey_550 ?_
      refine lv_eqi (y := (ks 6 (keyw b) (12 * (j + 1) + 2))) (ksN (by decide) (by omega) (by omega) (by omega) (by omega)) ?_
      refine lv_istore (lv' := [(8, .int (ks 6 (keyw b) (12 * (j + 1) + 2))), (7, .int (ks 6 (keyw b) (12 * (j + 1) + 1))), (6, .int (ks 6 (keyw b) (12 * (j + 1)))), (13, .int (nI (2 ^ (2 * (j + 1))))), (14, .int (sbw (shf (ks 6 (keyw b) (12 * j + 11)) (nI 8)) ^^^ tR (2 * j + 1))), (11, .int (ks 6 (keyw b) (12 * j + 11))), (10, .int (ks 6 (keyw b) (12 * j + 10))), (9, .int (ks 6 (keyw b) (12 * j + 9))), (0, .ref h), (1, .ref ky), (2, .int (nI z)), (5, .ref wa), (12, .int (nI (3 * j + 1)))]) hx hb dX10_generateWorkingKey_551 hl (by decide) rfl (fun ls hl => ?_)
      refine lv_aload hx hb dX10_generateWorkingKey_553 (lv_at hl 11 rfl) ?_
      refine lv_iload hx hb dX10_generateWorkingKey_555 (lv_at hl 12 rfl) ?_
      refine lv_iconst (v := nI 2) hx hb dX10_generateWorkingKey_557 (by decide) ?_
      refine lv_iadd hx hb dX10_generateWorkingKey_558 ?_
      refine lv_eqi (nI_add (3 * j + 1) 2) ?_
      refine xr_aald C (i := 3 * j + 1 + 2) hKW.1 (by omega) (by omega) dX10_generateWorkingKey_559 ?_
      refine lv_eqr (v' := .ref (ad (3 * j + 1 + 2))) rfl ?_
      refine lv_iconst (v := nI 2) hx hb dX10_generateWorkingKey_560 (by decide) ?_
      refine lv_iload hx hb dX10_generateWorkingKey_561 (lv_at hl 0 rfl) ?_
      refine xr_gst C w (r := 3 * j + 1 + 2) (j := 2) (x := (ks 6 (keyw b) (12 * (j + 1) + 2))) hKW hKD (by omega) (by omega) dX10_generateWorkingKey_563 (fun H locs w hKW => ?_)
      have hk := kwok_put (r := 3 * j + 1 + 2) (c := 2) (x := (ks 6 (keyw b) (12 * (j + 1) + 2))) hk (by omega) (by omega) (congrArg (ks 6 (keyw b)) (by omega))
      generalize up2 k (3 * j + 1 + 2) 2 (ks 6 (keyw b) (12 * (j + 1) + 2)) = k at hKW hk
      refine lv_iload hx hb dX10_generateWorkingKey_564 (lv_at hl 7 rfl) ?_
      refine lv_iload hx hb dX10_generateWorkingKey_566 (lv_at hl 0 rfl) ?_
      refine lv_ixor hx hb dX10_generateWorkingKey_568 ?_
      refine lv_eqi (y := (ks 6 (keyw b) (12 * (j + 1) + 3))) (ksN (by decide) (by omega) (by omega) (by omega) (by omega)) ?_
      refine lv_istore (lv' := [(9, .int (ks 6 (keyw b) (12 * (j + 1) + 3))), (8, .int (ks 6 (keyw b) (12 * (j + 1) + 2))), (7, .int (ks 6 (keyw b) (12 * (j + 1) + 1))), (6, .int (ks 6 (keyw b) (12 * (j + 1)))), (13, .int (nI (2 ^ (2 * (j + 1))))), (14, .int (sbw (shf (ks 6 (keyw b) (12 * j + 11)) (nI 8)) ^^^ tR (2 * j + 1))), (11, .int (ks 6 (keyw b) (12 * j + 11))), (10, .int (ks 6 (keyw b) (12 * j + 10))), (0, .ref h), (1, .ref ky), (2, .int (nI z)), (5, .ref wa), (12, .int (nI (3 * j + 1)))]) hx hb dX10_generateWorkingKey_569 hl (by decide) rfl (fun ls hl => ?_)
      refine lv_aload hx hb dX10_generateWorkingKey_571 (lv_at hl 11 rfl) ?_
      refine lv_iload hx hb dX10_generateWorkingKey_573 (lv_at hl 12 rfl) ?_
      refine lv_iconst (v := nI 2) hx hb dX10_generateWorkingKey_575 (by decide) ?_
      refine lv_iadd hx hb dX10_generateWorkingKey_576 ?_
      refine lv_eqi (nI_add (3 * j + 1) 2) ?_
      refine xr_aald C (i := 3 * j + 1 + 2) hKW.1 (by omega) (by omega) dX10_generateWorkingKey_577 ?_
      refine lv_eqr (v' := .ref (ad (3 * j + 1 + 2))) rfl ?_
      refine lv_iconst (v := nI 3) hx hb dX10_generateWorkingKey_578 (by decide) ?_
      refine lv_iload hx hb dX10_generateWorkingKey_579 (lv_at hl 0 rfl) ?_
      refine xr_gst C w (r := 3 * j + 1 + 2) (j := 3) (x := (ks 6 (keyw b) (12 * (j + 1) + 3))) hKW hKD (by omega) (by omega) dX10_generateWorkingKey_581 (fun H locs w hKW => ?_)
      have hk := kwok_put (r := 3 * j + 1 + 2) (c := 3) (x := (ks 6 (keyw b) (12 * (j + 1) + 3))) hk (by omega) (by omega) (congrArg (ks 6 (keyw b)) (by omega))
      generalize up2 k (3 * j + 1 + 2) 3 (ks 6 (keyw b) (12 * (j + 1) + 3)) = k at hKW hk
      refine lv_iinc (v := nI (3 * (j + 1) + 1)) (lv' := [(12, .int (nI (3 * (j + 1) + 1))), (9, .int (ks 6 (keyw b) (12 * (j + 1) + 3))), (8, .int (ks 6 (keyw b) (12 * (j + 1) + 2))), (7, .int (ks 6 (keyw b) (12 * (j + 1) + 1))), (6, .int (ks 6 (keyw b) (12 * (j + 1)))), (13, .int (nI (2 ^ (2 * (j + 1))))), (14, .int (sbw (shf (ks 6 (keyw b) (12 * j + 11)) (nI 8)) ^^^ tR (2 * j + 1))), (11, .int (ks 6 (keyw b) (12 * j + 11))), (10, .int (ks 6 (keyw b) (12 * j + 10))), (0, .ref h), (1, .ref ky), (2, .int (nI z)), (5, .ref wa)]) hx hb dX10_generateWorkingKey_582 hl (k := 12) rfl ((nI_add (3 * j + 1) 3).trans (by rw [show 3 * j + 1 + 3 = 3 * (j + 1) + 1 by omega])) (by decide) rfl (fun ls hl => ?_)
      refine lv_iload hx hb dX10_generateWorkingKey_585 (lv_at hl 0 rfl) ?_
      refine lv_bipush (v := nI 13) hx hb dX10_generateWorkingKey_587 (by decide) ?_
      refine xr_icmp_lt (a := 3 * (j + 1) + 1) (b := 13) (tgt := 595) hx hb dX10_generateWorkingKey_589 (by decide) (by omega) (by omega) (fun c_589 => ?_) (fun c_589 => ?_)
      · refine lv_iload hx hb dX10_generateWorkingKey_595 (lv_at hl 8 rfl) ?_
        refine lv_iload hx hb dX10_generateWorkingKey_597 (lv_at hl 1 rfl) ?_
        refine lv_ixor hx hb dX10_generateWorkingKey_599 ?_
        refine lv_eqi (y := (ks 6 (keyw b) (12 * (j + 1) + 4))) (ksN (by decide) (by omega) (by omega) (by omega) (by omega)) ?_
        refine lv_istore (lv' := [(10, .int (ks 6 (keyw b) (12 * (j + 1) + 4))), (12, .int (nI (3 * (j + 1) + 1))), (9, .int (ks 6 (keyw b) (12 * (j + 1) + 3))), (8, .int (ks 6 (keyw b) (12 * (j + 1) + 2))), (7, .int (ks 6 (keyw b) (12 * (j + 1) + 1))), (6, .int (ks 6 (keyw b) (12 * (j + 1)))), (13, .int (nI (2 ^ (2 * (j + 1))))), (14, .int (sbw (shf (ks 6 (keyw b) (12 * j + 11)) (nI 8)) ^^^ tR (2 * j + 1))), (11, .int (ks 6 (keyw b) (12 * j + 11))), (0, .ref h), (1, .ref ky), (2, .int (nI z)), (5, .ref wa)]) hx hb dX10_generateWorkingKey_600 hl (by decide) rfl (fun ls hl => ?_)
        refine lv_iload hx hb dX10_generateWorkingKey_602 (lv_at hl 8 rfl) ?_
        refine lv_iload hx hb dX10_generateWorkingKey_604 (lv_at hl 0 rfl) ?_
        refine lv_ixor hx hb dX10_generateWorkingKey_606 ?_
        refine lv_eqi (y := (ks 6 (keyw b) (12 * (j + 1) + 5))) (ksN (by decide) (by omega) (by omega) (by omega) (by omega)) ?_
        refine lv_istore (lv' := [(11, .int (ks 6 (keyw b) (12 * (j + 1) + 5))), (10, .int (ks 6 (keyw b) (12 * (j + 1) + 4))), (12, .int (nI (3 * (j + 1) + 1))), (9, .int (ks 6 (keyw b) (12 * (j + 1) + 3))), (8, .int (ks 6 (keyw b) (12 * (j + 1) + 2))), (7, .int (ks 6 (keyw b) (12 * (j + 1) + 1))), (6, .int (ks 6 (keyw b) (12 * (j + 1)))), (13, .int (nI (2 ^ (2 * (j + 1))))), (14, .int (sbw (shf (ks 6 (keyw b) (12 * j + 11)) (nI 8)) ^^^ tR (2 * j + 1))), (0, .ref h), (1, .ref ky), (2, .int (nI z)), (5, .ref wa)]) hx hb dX10_generateWorkingKey_607 hl (by decide) rfl (fun ls hl => ?_)
        refine lv_goto (tgt := 346) hx hb dX10_generateWorkingKey_609 (by decide) ?_
        exact ih_346 (j + 1) _ (by omega) (by omega) (by rw [show 12 * (j + 1) + 4 = 12 * j + 4 + 1 + 1 + 1 + 1 + 1 + 1 + 1 + 1 + 1 + 1 + 1 + 1 by omega]; exact hk) _ _ _ w hKW (lv_sub hl [9, 10, 11, 12, 6, 5, 4, 3, 1, 0, 2, 7] rfl)
      · refine lv_goto (tgt := 929) hx hb dX10_generateWorkingKey_592 (by decide) ?_
        have hl := lv_sub hl [9, 10, 11, 12] (l' := [(0, .ref h), (1, .ref ky), (2, .int (nI z)), (5, .ref wa)]) rfl
        have hk : KWok (ks 6 (keyw b)) k 52 := by rw [show 52 = 12 * j + 4 + 1 + 1 + 1 + 1 + 1 + 1 + 1 + 1 + 1 + 1 + 1 + 1 by omega]; exact hk
        refine lv_iload_n hx hb dX10_generateWorkingKey_929 rfl (lv_at hl 2 rfl) ?_
        refine xr_if_ne (a := z) (tgt := 985) hx hb dX10_generateWorkingKey_930 (by decide) (by omega) (fun c_930 => ?_) (fun c_930 => ?_)
        · refine lv_aload hx hb dX10_generateWorkingKey_985 (lv_at hl 3 rfl) ?_
          have hq : sz ≤ wa := by rw [← hsz]; exact hq_wa0
          have hF := hKW.ext (k' := kwF 6 (keyw b) z) (fun r hr c hc => by rw [hk r c hc (by omega)]; unfold kwF; rw [if_neg c_930])
          rw [had] at hF
          exact xr_aret C hlk hr (Or.inr ⟨_, rfl⟩) (Or.inr ⟨_, rfl⟩) w hAe hQ (by decide) (by decide) wa rfl (⟨rfl, hq, hF⟩) dX10_generateWorkingKey_987
        · have hk := kwdk_0 (n := 13) hk (by decide)
          refine lv_iconst (v := nI 1) hx hb dX10_generateWorkingKey_933 (by decide) ?_
          refine lv_istore (lv' := [(6, .int (nI 1)), (0, .ref h), (1, .ref ky), (2, .int (nI z)), (5, .ref wa)]) hx hb dX10_generateWorkingKey_934 hl (by decide) rfl (fun ls hl => ?_)
          have loop_936 : ∀ (nn : Nat) (i : Nat) (k : Nat → Nat → Int32), 12 - i < nn → (hi : 1 ≤ i ∧ i ≤ 12) → (hk : KWdk (ks 6 (keyw b)) k 13 (4 * i)) → ∀ (H : Heap) (locs : List Loc) (ls : Array Slot), Wd G A [(h, xO 6 [.int (nI (6 + 6)), v1, .int r2, v3])] s s.heap H locs → (hKW : KW G wa 13 ad k H) → lv_has ls 17 [(0, .ref h), (1, .ref ky), (2, .int (nI z)), (5, .ref wa), (6, .int (nI i))] → W p l e ({ frames := 2, cells := 16, slots := 75, locals := 60 } : Room) s m args below meth c H locs 14 65 Q (F0 m 936 ls []) := by
            intro nn
            induction nn with
            | zero => intro i k hmm; exact absurd hmm (Nat.not_lt_zero _)
            | succ nn ih_936 =>
              intro i k hmm hi hk H locs ls w hKW hl
              refine lv_iload hx hb dX10_generateWorkingKey_936 (lv_at hl 4 rfl) ?_
              refine lv_aload_n hx hb dX10_generateWorkingKey_938 rfl (lv_at hl 0 rfl) ?_
              refine xr_get (ci := 6) (v := .int (nI (6 + 6))) (Cn := RX10) (T := TX10) (N := 4) C (w.at 0 rfl) in_X10 rfl 0 (by decide) q139 (fun _ h => h) rfl dX10_generateWorkingKey_939 ?_
              refine xr_icmp_ge (a := i) (b := 6 + 6) (tgt := 985) hx hb dX10_generateWorkingKey_942 (by decide) (by omega) (by omega) (fun c_942 => ?_) (fun c_942 => ?_)
              · refine lv_aload hx hb dX10_generateWorkingKey_985 (lv_at hl 3 rfl) ?_
                have hq : sz ≤ wa := by rw [← hsz]; exact hq_wa0
                have hi6 : i = 12 := by omega
                subst hi6
                have hF := hKW.ext (k' := kwF 6 (keyw b) z) (fun r hr c hc => by rw [hk r c hc hr]; unfold kwF; rw [if_pos c_930])
                rw [had] at hF
                exact xr_aret C hlk hr (Or.inr ⟨_, rfl⟩) (Or.inr ⟨_, rfl⟩) w hAe hQ (by decide) (by decide) wa rfl (⟨rfl, hq, hF⟩) dX10_generateWorkingKey_987
              · refine lv_iconst (v := nI 0) hx hb dX10_generateWorkingKey_945 (by decide) ?_
                refine lv_istore (lv' := [(7, .int (nI 0)), (0, .ref h), (1, .ref ky), (2, .int (nI z)), (5, .ref wa), (6, .int (nI i))]) hx hb dX10_generateWorkingKey_946 hl (by decide) rfl (fun ls hl => ?_)
                have loop_948 : ∀ (nn : Nat) (co : Nat) (k : Nat → Nat → Int32), 4 - co < nn → (hc : co ≤ 4) → (hk : KWdk (ks 6 (keyw b)) k 13 (4 * i + co)) → ∀ (H : Heap) (locs : List Loc) (ls : Array Slot), Wd G A [(h, xO 6 [.int (nI (6 + 6)), v1, .int r2, v3])] s s.heap H locs → (hKW : KW G wa 13 ad k H) → lv_has ls 17 [(0, .ref h), (1, .ref ky), (2, .int (nI z)), (5, .ref wa), (6, .int (nI i)), (7, .int (nI co))] → W p l e ({ frames := 2, cells := 16, slots := 75, locals := 60 } : Room) s m args below meth c H locs 14 65 Q (F0 m 948 ls []) := by
                  intro nn
                  induction nn with
                  | zero => intro co k hmm; exact absurd hmm (Nat.not_lt_zero _)
                  | succ nn ih_948 =>
                    intro co k hmm hc hk H locs ls w hKW hl
                    refine lv_iload hx hb dX10_generateWorkingKey_948 (lv_at hl 5 rfl) ?_
                    refine lv_iconst (v := nI 4) hx hb dX10_generateWorkingKey_950 (by decide) ?_
                    refine xr_icmp_ge (a := co) (b := 4) (tgt := 979) hx hb dX10_generateWorkingKey_951 (by decide) (by omega) (by omega) (fun c_951 => ?_) (fun c_951 => ?_)
                    · have hc4 : co = 4 := by omega
                      subst hc4
                      refine lv_iinc (v := nI (i + 1)) (lv' := [(6, .int (nI (i + 1))), (0, .ref h), (1, .ref ky), (2, .int (nI z)), (5, .ref wa), (7, .int (nI 4))]) hx hb dX10_generateWorkingKey_979 hl (k := 4) rfl (nI_add i 1) (by decide) rfl (fun ls hl => ?_)
                      refine lv_goto (tgt := 936) hx hb dX10_generateWorkingKey_982 (by decide) ?_
                      exact ih_936 (i + 1) _ (by omega) (by omega) (by rw [show 4 * (i + 1) = 4 * i + 4 by omega]; exact hk) _ _ _ w hKW (lv_sub hl [1, 2, 3, 4, 0] rfl)
                    · refine lv_aload hx hb dX10_generateWorkingKey_954 (lv_at hl 3 rfl) ?_
                      refine lv_iload hx hb dX10_generateWorkingKey_956 (lv_at hl 4 rfl) ?_
                      refine xr_aald C (i := i) hKW.1 (by omega) (by omega) dX10_generateWorkingKey_958 ?_
                      refine lv_eqr (v' := .ref (ad i)) rfl ?_
                      refine lv_iload hx hb dX10_generateWorkingKey_959 (lv_at hl 5 rfl) ?_
                      refine lv_aload hx hb dX10_generateWorkingKey_961 (lv_at hl 3 rfl) ?_
                      refine lv_iload hx hb dX10_generateWorkingKey_963 (lv_at hl 4 rfl) ?_
                      refine xr_aald C (i := i) hKW.1 (by omega) (by omega) dX10_generateWorkingKey_965 ?_
                      refine lv_eqr (v' := .ref (ad i)) rfl ?_
                      refine lv_iload hx hb dX10_generateWorkingKey_966 (lv_at hl 5 rfl) ?_
                      refine xr_iald C (i := co) (hKW.2 (i) (by omega)) (by omega) (by omega) dX10_generateWorkingKey_968 ?_
                      refine xr_callS0 (n := 1) (rest := [.int (nI co), .ref (ad i)]) C w (met_X10_inv_mcol l G H.size (k i co) ) q447 q448 q19 q449 (by decide +kernel) ⟨rfl, rfl, by decide, by decide⟩ (fun _ _ _ _ h => h) (fun U hU hW => trivial) rfl hl.1 rfl (Nat.le_of_ble_eq_true rfl) dX10_generateWorkingKey_969 ⟨by decide, by decide⟩ (fun v hp => ?_)
                      subst hp
                      refine xr_gst C w (r := i) (j := co) (x := (imcW (k i co))) hKW hKD (by omega) (by omega) dX10_generateWorkingKey_972 (fun H locs w hKW => ?_)
                      have hk := kwdk_put (r := i) (c := co) hk (by omega) (by omega) (by omega) (by omega)
                      generalize up2 k i co (imcW (k i co)) = k at hKW hk
                      refine lv_iinc (v := nI (co + 1)) (lv' := [(7, .int (nI (co + 1))), (0, .ref h), (1, .ref ky), (2, .int (nI z)), (5, .ref wa), (6, .int (nI i))]) hx hb dX10_generateWorkingKey_973 hl (k := 5) rfl (nI_add co 1) (by decide) rfl (fun ls hl => ?_)
                      refine lv_goto (tgt := 948) hx hb dX10_generateWorkingKey_976 (by decide) ?_
                      exact ih_948 (co + 1) _ (by omega) (by omega) (hk) _ _ _ w hKW (lv_sub hl [1, 2, 3, 4, 5, 0] rfl)
                exact loop_948 ((4 - 0) + 1) 0 _ (by omega) (by decide) (hk) _ _ _ w hKW (lv_sub hl [1, 2, 3, 4, 5, 0] rfl)
          exact loop_936 ((12 - 1) + 1) 1 _ (by omega) (by decide) (hk) _ _ _ w hKW (lv_sub hl [1, 2, 3, 4, 0] rfl)
  exact loop_346 ((4 - 0) + 1) 0 _ (by omega) (by decide) (hk) _ _ _ w hKW (lv_sub hl [11, 12, 13, 8, 7, 6, 5, 4, 3, 2, 1, 0] rfl)

set_option maxHeartbeats 4000000 in
set_option maxRecDepth 100000 in
theorem met_gwk8 (l : Launch) (G : GG) (sz : Nat) (h : Nat) (ky : Nat) (b : Nat → BitVec 8) (z : Nat) (r0 : Int32) (v1 : Value) (r2 : Int32) (v3 : Value) (hz : z < 2) (ap0_0 : h ≠ ky) : Met l yX10_generateWorkingKey (ws_ yX10_generateWorkingKey cX10_generateWorkingKey 17 (some (.array (.array .int)))) ({ frames := 2, cells := 16, slots := 75, locals := 60 } : Room) (va_Pc [.ref h, .ref ky, .int (nI z)] (PP G [(h, xO 6 [.int r0, v1, .int r2, v3])] sz (fun U : State => va_P G.1 vwCl [(ky, xB G (4 * 8) b)] U.heap))) (CQ G [(h, xO 6 [.int r0, v1, .int r2, v3])] sz (fun u : Nat => [(h, xO 6 [.int (nI (8 + 6)), v1, .int r2, v3])]) (fun (u : Nat) (v : Option Value) (H : Heap) => v = some (.ref u) ∧ sz ≤ u ∧ KW G u (8 + 7) (fun r => u + 1 + r) (kwF 8 (keyw b) z) H)) 16 75 (va_A [(h, xO 6 [.int r0, v1, .int r2, v3])] sz) := by
  refine xr_met (own := RX10) (by decide) rfl (Nat.le_of_ble_eq_true rfl) ?_
  intro p e s m args below meth c ls Q A C hlk hr hnm hsz hAe w hRD hQ hl
  have hx := C.1
  have hb := C.2.1
  have w : Wd G A [(h, xO 6 [.int r0, v1, .int r2, v3])] s s.heap s.heap [] := w
  have hl : lv_has ls 17 [(0, .ref h), (1, .ref ky), (2, .int (nI z))] := hl
  have hRd := hRD
  have hR0 : va_P G.1 vwCl [(ky, xB G (4 * 8) b)] s.heap := va_P.sub hRd [0] rfl
  have hN0 : ¬ A ky := by rw [hAe]; exact xn_L (by rw [← hsz]; exact (hR0 0 _ rfl).lt) (List.forall_mem_cons.mpr ⟨ap0_0, (fun _ h => absurd h List.not_mem_nil)⟩)
  obtain ⟨t_rcon, hz_rcon, ha_rcon⟩ := (w.2.2.2.2.1.2.2.1).T
  refine lv_aload_n hx hb dX10_generateWorkingKey_0 rfl (lv_at hl 1 rfl) ?_
  refine xr_alenP C hR0 0 rfl dX10_generateWorkingKey_1 ?_
  refine lv_istore_n (lv' := [(3, .int (nI (4 * 8))), (0, .ref h), (1, .ref ky), (2, .int (nI z))]) hx hb dX10_generateWorkingKey_2 rfl hl (by decide) rfl (fun ls hl => ?_)
  refine lv_iload_n hx hb dX10_generateWorkingKey_3 rfl (lv_at hl 0 rfl) ?_
  refine lv_bipush (v := nI 16) hx hb dX10_generateWorkingKey_4 (by decide) ?_
  refine xr_icmp_lt (a := 4 * 8) (b := 16) (tgt := 22) hx hb dX10_generateWorkingKey_6 (by decide) (by omega) (by omega) (fun c_6 => absurd c_6 (by omega)) (fun c_6 => ?_)
  refine lv_iload_n hx hb dX10_generateWorkingKey_9 rfl (lv_at hl 0 rfl) ?_
  refine lv_bipush (v := nI 32) hx hb dX10_generateWorkingKey_10 (by decide) ?_
  refine xr_icmp_gt (a := 4 * 8) (b := 32) (tgt := 22) hx hb dX10_generateWorkingKey_12 (by decide) (by omega) (by omega) (fun c_12 => absurd c_12 (by omega)) (fun c_12 => ?_)
  refine lv_iload_n hx hb dX10_generateWorkingKey_15 rfl (lv_at hl 0 rfl) ?_
  refine lv_bipush (v := nI 7) hx hb dX10_generateWorkingKey_16 (by decide) ?_
  refine lv_iand hx hb dX10_generateWorkingKey_18 ?_
  refine lv_eqi (y := nI 0) (by decide) ?_
  refine xr_if_eq (a := 0) (tgt := 32) hx hb dX10_generateWorkingKey_19 (by decide) (by omega) (fun c_19 => ?_) (fun c_19 => (c_19 rfl).elim)
  refine lv_iload_n hx hb dX10_generateWorkingKey_32 rfl (lv_at hl 0 rfl) ?_
  refine lv_iconst (v := nI 2) hx hb dX10_generateWorkingKey_33 (by decide) ?_
  refine lv_iushr (v := ((nI (4 * 8)).toUInt32 >>> ((nI 2).toUInt32 &&& Int32.toUInt32 31)).toInt32) hx hb dX10_generateWorkingKey_34 rfl ?_
  refine lv_eqi (y := nI 8) (by decide) ?_
  refine lv_istore (lv' := [(4, .int (nI 8)), (3, .int (nI (4 * 8))), (0, .ref h), (1, .ref ky), (2, .int (nI z))]) hx hb dX10_generateWorkingKey_35 hl (by decide) rfl (fun ls hl => ?_)
  refine lv_aload_n hx hb dX10_generateWorkingKey_37 rfl (lv_at hl 2 rfl) ?_
  refine lv_iload hx hb dX10_generateWorkingKey_38 (lv_at hl 0 rfl) ?_
  refine lv_bipush (v := nI 6) hx hb dX10_generateWorkingKey_40 (by decide) ?_
  refine lv_iadd hx hb dX10_generateWorkingKey_42 ?_
  refine lv_eqi (y := nI (8 + 6)) (by decide) ?_
  refine xr_put (ci := 6) (v := .int (nI (8 + 6))) (ty := .int) (Cn := RX10) (T := TX10) (N := 4) C w 0 rfl in_X10 tyX10 tyX10_ok nmX10 rfl 0 (by decide) q139 (fun _ h => h) rfl (by decide +kernel) (rfl) rfl (Nat.le_of_ble_eq_true rfl) dX10_generateWorkingKey_43 (fun H locs w => ?_)
  have w : Wd G A [(h, xO 6 [.int (nI (8 + 6)), v1, .int r2, v3])] s s.heap H locs := w
  have w0 := w
  refine lv_aload_n hx hb dX10_generateWorkingKey_46 rfl (lv_at hl 2 rfl) ?_
  refine xr_get (ci := 6) (v := .int (nI (8 + 6))) (Cn := RX10) (T := TX10) (N := 4) C (w.at 0 rfl) in_X10 rfl 0 (by decide) q139 (fun _ h => h) rfl dX10_generateWorkingKey_47 ?_
  refine lv_iconst (v := nI 1) hx hb dX10_generateWorkingKey_50 (by decide) ?_
  refine lv_iadd hx hb dX10_generateWorkingKey_51 ?_
  refine lv_eqi (y := nI 15) (by decide) ?_
  refine lv_iconst (v := nI 4) hx hb dX10_generateWorkingKey_52 (by decide) ?_
  refine xr_grid C w (n := 15) (by omega) q429 (by decide) (by decide) dX10_generateWorkingKey_53 (fun wa H hq_wa w hKW hKD => ?_)
  obtain ⟨ad, had⟩ : ∃ ad : Nat → Nat, ad = fun r => wa + 1 + r := ⟨_, rfl⟩
  rw [← had] at hKW hKD
  obtain ⟨k, hk0⟩ : ∃ k : Nat → Nat → Int32, k = fun _ _ => 0 := ⟨_, rfl⟩
  rw [← hk0] at hKW
  have hk : KWok (ks 8 (keyw b)) k 0 := kwok_0
  clear hk0
  have hq_wa0 : s.heap.size ≤ wa := Nat.le_trans w0.2.2.1.1 hq_wa
  refine lv_astore (lv' := [(5, .ref wa), (4, .int (nI 8)), (3, .int (nI (4 * 8))), (0, .ref h), (1, .ref ky), (2, .int (nI z))]) hx hb dX10_generateWorkingKey_57 hl (by decide) rfl (fun ls hl => ?_)
  refine lv_iload hx hb dX10_generateWorkingKey_59 (lv_at hl 1 rfl) ?_
  refine lv_tableIn (tgt := 612) hx hb dX10_generateWorkingKey_61 (by decide) (by decide) rfl (by decide) ?_
  refine lv_aload_n hx hb dX10_generateWorkingKey_612 rfl (lv_at hl 4 rfl) ?_
  refine lv_iconst (v := nI 0) hx hb dX10_generateWorkingKey_613 (by decide) ?_
  refine xr_callS0 (n := 2) (rest := []) C w (met_X14_littleEndianToInt l G H.size ky (4 * 8) b 0 (by omega) (by omega)) q431 q432 q30 q433 (by decide +kernel) ⟨rfl, rfl, by decide, by decide⟩ (fun _ _ _ _ h => h) (fun U hU hW => by rw [hU]; exact (xp_cons (xp_keep hR0 (xn_1 hN0) w.2.2.1) xp_nil)) rfl hl.1 rfl (Nat.le_of_ble_eq_true rfl) dX10_generateWorkingKey_614 ⟨by decide, by decide⟩ (fun v hp => ?_)
  subst hp
  refine lv_eqi (y := (ks 8 (keyw b) (8 * 0))) ((ks_lo (KC := 8) (k0 := keyw b) (i := 0) (by decide)).symm) ?_
  refine lv_istore (lv' := [(6, .int (ks 8 (keyw b) (8 * 0))), (5, .ref wa), (4, .int (nI 8)), (3, .int (nI (4 * 8))), (0, .ref h), (1, .ref ky), (2, .int (nI z))]) hx hb dX10_generateWorkingKey_617 hl (by decide) rfl (fun ls hl => ?_)
  refine lv_aload hx hb dX10_generateWorkingKey_619 (lv_at hl 1 rfl) ?_
  refine lv_iconst (v := nI 0) hx hb dX10_generateWorkingKey_621 (by decide) ?_
  refine xr_aald C (i := 0) hKW.1 (by omega) (by omega) dX10_generateWorkingKey_622 ?_
  refine lv_eqr (v' := .ref (ad 0)) rfl ?_
  refine lv_iconst (v := nI 0) hx hb dX10_generateWorkingKey_623 (by decide) ?_
  refine lv_iload hx hb dX10_generateWorkingKey_624 (lv_at hl 0 rfl) ?_
  refine xr_gst C w (r := 0) (j := 0) (x := (ks 8 (keyw b) (8 * 0))) hKW hKD (by omega) (by omega) dX10_generateWorkingKey_626 (fun H locs w hKW => ?_)
  have hk := kwok_put (r := 0) (c := 0) (x := (ks 8 (keyw b) (8 * 0))) hk (by omega) (by omega) (congrArg (ks 8 (keyw b)) (by omega))
  generalize up2 k 0 0 (ks 8 (keyw b) (8 * 0)) = k at hKW hk
  refine lv_aload_n hx hb dX10_generateWorkingKey_627 rfl (lv_at hl 5 rfl) ?_
  refine lv_iconst (v := nI 4) hx hb dX10_generateWorkingKey_628 (by decide) ?_
  refine xr_callS0 (n := 2) (rest := []) C w (met_X14_littleEndianToInt l G H.size ky (4 * 8) b 4 (by omega) (by omega)) q431 q432 q30 q433 (by decide +kernel) ⟨rfl, rfl, by decide, by decide⟩ (fun _ _ _ _ h => h) (fun U hU hW => by rw [hU]; exact (xp_cons (xp_keep hR0 (xn_1 hN0) w.2.2.1) xp_nil)) rfl hl.1 rfl (Nat.le_of_ble_eq_true rfl) dX10_generateWorkingKey_629 ⟨by decide, by decide⟩ (fun v hp => ?_)
  subst hp
  refine lv_eqi (y := (ks 8 (keyw b) (8 * 0 + 1))) ((ks_lo (KC := 8) (k0 := keyw b) (i := 1) (by decide)).symm) ?_
  refine lv_istore (lv' := [(7, .int (ks 8 (keyw b) (8 * 0 + 1))), (6, .int (ks 8 (keyw b) (8 * 0))), (5, .ref wa), (4, .int (nI 8)), (3, .int (nI (4 * 8))), (0, .ref h), (1, .ref ky), (2, .int (nI z))]) hx hb dX10_generateWorkingKey_632 hl (by decide) rfl (fun ls hl => ?_)
  refine lv_aload hx hb dX10_generateWorkingKey_634 (lv_at hl 2 rfl) ?_
  refine lv_iconst (v := nI 0) hx hb dX10_generateWorkingKey_636 (by decide) ?_
  refine xr_aald C (i := 0) hKW.1 (by omega) (by omega) dX10_generateWorkingKey_637 ?_
  refine lv_eqr (v' := .ref (ad 0)) rfl ?_
  refine lv_iconst (v := nI 1) hx hb dX10_generateWorkingKey_638 (by decide) ?_
  refine lv_iload hx hb dX10_generateWorkingKey_639 (lv_at hl 0 rfl) ?_
  refine xr_gst C w (r := 0) (j := 1) (x := (ks 8 (keyw b) (8 * 0 + 1))) hKW hKD (by omega) (by omega) dX10_generateWorkingKey_641 (fun H locs w hKW => ?_)
  have hk := kwok_put (r := 0) (c := 1) (x := (ks 8 (keyw b) (8 * 0 + 1))) hk (by omega) (by omega) (congrArg (ks 8 (keyw b)) (by omega))
  generalize up2 k 0 1 (ks 8 (keyw b) (8 * 0 + 1)) = k at hKW hk
  refine lv_aload_n hx hb dX10_generateWorkingKey_642 rfl (lv_at hl 6 rfl) ?_
  refine lv_bipush (v := nI 8) hx hb dX10_generateWorkingKey_643 (by decide) ?_
  refine xr_callS0 (n := 2) (rest := []) C w (met_X14_littleEndianToInt l G H.size ky (4 * 8) b 8 (by omega) (by omega)) q431 q432 q30 q433 (by decide +kernel) ⟨rfl, rfl, by decide, by decide⟩ (fun _ _ _ _ h => h) (fun U hU hW => by rw [hU]; exact (xp_cons (xp_keep hR0 (xn_1 hN0) w.2.2.1) xp_nil)) rfl hl.1 rfl (Nat.le_of_ble_eq_true rfl) dX10_generateWorkingKey_645 ⟨by decide, by decide⟩ (fun v hp => ?_)
  subst hp
  refine lv_eqi (y := (ks 8 (keyw b) (8 * 0 + 2))) ((ks_lo (KC := 8) (k0 := keyw b) (i := 2) (by decide)).symm) ?_
  refine lv_istore (lv' := [(8, .int (ks 8 (keyw b) (8 * 0 + 2))), (7, .int (ks 8 (keyw b) (8 * 0 + 1))), (6, .int (ks 8 (keyw b) (8 * 0))), (5, .ref wa), (4, .int (nI 8)), (3, .int (nI (4 * 8))), (0, .ref h), (1, .ref ky), (2, .int (nI z))]) hx hb dX10_generateWorkingKey_648 hl (by decide) rfl (fun ls hl => ?_)
  refine lv_aload hx hb dX10_generateWorkingKey_650 (lv_at hl 3 rfl) ?_
  refine lv_iconst (v := nI 0) hx hb dX10_generateWorkingKey_652 (by decide) ?_
  refine xr_aald C (i := 0) hKW.1 (by omega) (by omega) dX10_generateWorkingKey_653 ?_
  refine lv_eqr (v' := .ref (ad 0)) rfl ?_
  refine lv_iconst (v := nI 2) hx hb dX10_generateWorkingKey_654 (by decide) ?_
  refine lv_iload hx hb dX10_generateWorkingKey_655 (lv_at hl 0 rfl) ?_
  refine xr_gst C w (r := 0) (j := 2) (x := (ks 8 (keyw b) (8 * 0 + 2))) hKW hKD (by omega) (by omega) dX10_generateWorkingKey_657 (fun H locs w hKW => ?_)
  have hk := kwok_put (r := 0) (c := 2) (x := (ks 8 (keyw b) (8 * 0 + 2))) hk (by omega) (by omega) (congrArg (ks 8 (keyw b)) (by omega))
  generalize up2 k 0 2 (ks 8 (keyw b) (8 * 0 + 2)) = k at hKW hk
  refine lv_aload_n hx hb dX10_generateWorkingKey_658 rfl (lv_at hl 7 rfl) ?_
  refine lv_bipush (v := nI 12) hx hb dX10_generateWorkingKey_659 (by decide) ?_
  refine xr_callS0 (n := 2) (rest := []) C w (met_X14_littleEndianToInt l G H.size ky (4 * 8) b 12 (by omega) (by omega)) q431 q432 q30 q433 (by decide +kernel) ⟨rfl, rfl, by decide, by decide⟩ (fun _ _ _ _ h => h) (fun U hU hW => by rw [hU]; exact (xp_cons (xp_keep hR0 (xn_1 hN0) w.2.2.1) xp_nil)) rfl hl.1 rfl (Nat.le_of_ble_eq_true rfl) dX10_generateWorkingKey_661 ⟨by decide, by decide⟩ (fun v hp => ?_)
  subst hp
  refine lv_eqi (y := (ks 8 (keyw b) (8 * 0 + 3))) ((ks_lo (KC := 8) (k0 := keyw b) (i := 3) (by decide)).symm) ?_
  refine lv_istore (lv' := [(9, .int (ks 8 (keyw b) (8 * 0 + 3))), (8, .int (ks 8 (keyw b) (8 * 0 + 2))), (7, .int (ks 8 (keyw b) (8 * 0 + 1))), (6, .int (ks 8 (keyw b) (8 * 0))), (5, .ref wa), (4, .int (nI 8)), (3, .int (nI (4 * 8))), (0, .ref h), (1, .ref ky), (2, .int (nI z))]) hx hb dX10_generateWorkingKey_664 hl (by decide) rfl (fun ls hl => ?_)
  refine lv_aload hx hb dX10_generateWorkingKey_666 (lv_at hl 4 rfl) ?_
  refine lv_iconst (v := nI 0) hx hb dX10_generateWorkingKey_668 (by decide) ?_
  refine xr_aald C (i := 0) hKW.1 (by omega) (by omega) dX10_generateWorkingKey_669 ?_
  refine lv_eqr (v' := .ref (ad 0)) rfl ?_
  refine lv_iconst (v := nI 3) hx hb dX10_generateWorkingKey_670 (by decide) ?_
  refine lv_iload hx hb dX10_generateWorkingKey_671 (lv_at hl 0 rfl) ?_
  refine xr_gst C w (r := 0) (j := 3) (x := (ks 8 (keyw b) (8 * 0 + 3))) hKW hKD (by omega) (by omega) dX10_generateWorkingKey_673 (fun H locs w hKW => ?_)
  have hk := kwok_put (r := 0) (c := 3) (x := (ks 8 (keyw b) (8 * 0 + 3))) hk (by omega) (by omega) (congrArg (ks 8 (keyw b)) (by omega))
  generalize up2 k 0 3 (ks 8 (keyw b) (8 * 0 + 3)) = k at hKW hk
  refine lv_aload_n hx hb dX10_generateWorkingKey_674 rfl (lv_at hl 8 rfl) ?_
  refine lv_bipush (v := nI 16) hx hb dX10_generateWorkingKey_675 (by decide) ?_
  refine xr_callS0 (n := 2) (rest := []) C w (met_X14_littleEndianToInt l G H.size ky (4 * 8) b 16 (by omega) (by omega)) q431 q432 q30 q433 (by decide +kernel) ⟨rfl, rfl, by decide, by decide⟩ (fun _ _ _ _ h => h) (fun U hU hW => by rw [hU]; exact (xp_cons (xp_keep hR0 (xn_1 hN0) w.2.2.1) xp_nil)) rfl hl.1 rfl (Nat.le_of_ble_eq_true rfl) dX10_generateWorkingKey_677 ⟨by decide, by decide⟩ (fun v hp => ?_)
  subst hp
  refine lv_eqi (y := (ks 8 (keyw b) (8 * 0 + 4))) ((ks_lo (KC := 8) (k0 := keyw b) (i := 4) (by decide)).symm) ?_
  refine lv_istore (lv' := [(10, .int (ks 8 (keyw b) (8 * 0 + 4))), (9, .int (ks 8 (keyw b) (8 * 0 + 3))), (8, .int (ks 8 (keyw b) (8 * 0 + 2))), (7, .int (ks 8 (keyw b) (8 * 0 + 1))), (6, .int (ks 8 (keyw b) (8 * 0))), (5, .ref wa), (4, .int (nI 8)), (3, .int (nI (4 * 8))), (0, .ref h), (1, .ref ky), (2, .int (nI z))]) hx hb dX10_generateWorkingKey_680 hl (by decide) rfl (fun ls hl => ?_)
  refine lv_aload hx hb dX10_generateWorkingKey_682 (lv_at hl 5 rfl) ?_
  refine lv_iconst (v := nI 1) hx hb dX10_generateWorkingKey_684 (by decide) ?_
  refine xr_aald C (i := 1) hKW.1 (by omega) (by omega) dX10_generateWorkingKey_685 ?_
  refine lv_eqr (v' := .ref (ad 1)) rfl ?_
  refine lv_iconst (v := nI 0) hx hb dX10_generateWorkingKey_686 (by decide) ?_
  refine lv_iload hx hb dX10_generateWorkingKey_687 (lv_at hl 0 rfl) ?_
  refine xr_gst C w (r := 1) (j := 0) (x := (ks 8 (keyw b) (8 * 0 + 4))) hKW hKD (by omega) (by omega) dX10_generateWorkingKey_689 (fun H locs w hKW => ?_)
  have hk := kwok_put (r := 1) (c := 0) (x := (ks 8 (keyw b) (8 * 0 + 4))) hk (by omega) (by omega) (congrArg (ks 8 (keyw b)) (by omega))
  generalize up2 k 1 0 (ks 8 (keyw b) (8 * 0 + 4)) = k at hKW hk
  refine lv_aload_n hx hb dX10_generateWorkingKey_690 rfl (lv_at hl 9 rfl) ?_
  refine lv_bipush (v := nI 20) hx hb dX10_generateWorkingKey_691 (by decide) ?_
  refine xr_callS0 (n := 2) (rest := []) C w (met_X14_littleEndianToInt l G H.size ky (4 * 8) b 20 (by omega) (by omega)) q431 q432 q30 q433 (by decide +kernel) ⟨rfl, rfl, by decide, by decide⟩ (fun _ _ _ _ h => h) (fun U hU hW => by rw [hU]; exact (xp_cons (xp_keep hR0 (xn_1 hN0) w.2.2.1) xp_nil)) rfl hl.1 rfl (Nat.le_of_ble_eq_true rfl) dX10_generateWorkingKey_693 ⟨by decide, by decide⟩ (fun v hp => ?_)
  subst hp
  refine lv_eqi (y := (ks 8 (keyw b) (8 * 0 + 5))) ((ks_lo (KC := 8) (k0 := keyw b) (i := 5) (by decide)).symm) ?_
  refine lv_istore (lv' := [(11, .int (ks 8 (keyw b) (8 * 0 + 5))), (10, .int (ks 8 (keyw b) (8 * 0 + 4))), (9, .int (ks 8 (keyw b) (8 * 0 + 3))), (8, .int (ks 8 (keyw b) (8 * 0 + 2))), (7, .int (ks 8 (keyw b) (8 * 0 + 1))), (6, .int (ks 8 (keyw b) (8 * 0))), (5, .ref wa), (4, .int (nI 8)), (3, .int (nI (4 * 8))), (0, .ref h), (1, .ref ky), (2, .int (nI z))]) hx hb dX10_generateWorkingKey_696 hl (by decide) rfl (fun ls hl => ?_)
  refine lv_aload hx hb dX10_generateWorkingKey_698 (lv_at hl 6 rfl) ?_
  refine lv_iconst (v := nI 1) hx hb dX10_generateWorkingKey_700 (by decide) ?_
  refine xr_aald C (i := 1) hKW.1 (by omega) (by omega) dX10_generateWorkingKey_701 ?_
  refine lv_eqr (v' := .ref (ad 1)) rfl ?_
  refine lv_iconst (v := nI 1) hx hb dX10_generateWorkingKey_702 (by decide) ?_
  refine lv_iload hx hb dX10_generateWorkingKey_703 (lv_at hl 0 rfl) ?_
  refine xr_gst C w (r := 1) (j := 1) (x := (ks 8 (keyw b) (8 * 0 + 5))) hKW hKD (by omega) (by omega) dX10_generateWorkingKey_705 (fun H locs w hKW => ?_)
  have hk := kwok_put (r := 1) (c := 1) (x := (ks 8 (keyw b) (8 * 0 + 5))) hk (by omega) (by omega) (congrArg (ks 8 (keyw b)) (by omega))
  generalize up2 k 1 1 (ks 8 (keyw b) (8 * 0 + 5)) = k at hKW hk
  refine lv_aload_n hx hb dX10_generateWorkingKey_706 rfl (lv_at hl 10 rfl) ?_
  refine lv_bipush (v := nI 24) hx hb dX10_generateWorkingKey_707 (by decide) ?_
  refine xr_callS0 (n := 2) (rest := []) C w (met_X14_littleEndianToInt l G H.size ky (4 * 8) b 24 (by omega) (by omega)) q431 q432 q30 q433 (by decide +kernel) ⟨rfl, rfl, by decide, by decide⟩ (fun _ _ _ _ h => h) (fun U hU hW => by rw [hU]; exact (xp_cons (xp_keep hR0 (xn_1 hN0) w.2.2.1) xp_nil)) rfl hl.1 rfl (Nat.le_of_ble_eq_true rfl) dX10_generateWorkingKey_709 ⟨by decide, by decide⟩ (fun v hp => ?_)
  subst hp
  refine lv_eqi (y := (ks 8 (keyw b) (8 * 0 + 6))) ((ks_lo (KC := 8) (k0 := keyw b) (i := 6) (by decide)).symm) ?_
  refine lv_istore (lv' := [(12, .int (ks 8 (keyw b) (8 * 0 + 6))), (11, .int (ks 8 (keyw b) (8 * 0 + 5))), (10, .int (ks 8 (keyw b) (8 * 0 + 4))), (9, .int (ks 8 (keyw b) (8 * 0 + 3))), (8, .int (ks 8 (keyw b) (8 * 0 + 2))), (7, .int (ks 8 (keyw b) (8 * 0 + 1))), (6, .int (ks 8 (keyw b) (8 * 0))), (5, .ref wa), (4, .int (nI 8)), (3, .int (nI (4 * 8))), (0, .ref h), (1, .ref ky), (2, .int (nI z))]) hx hb dX10_generateWorkingKey_712 hl (by decide) rfl (fun ls hl => ?_)
  refine lv_aload hx hb dX10_generateWorkingKey_714 (lv_at hl 7 rfl) ?_
  refine lv_iconst (v := nI 1) hx hb dX10_generateWorkingKey_716 (by decide) ?_
  refine xr_aald C (i := 1) hKW.1 (by omega) (by omega) dX10_generateWorkingKey_717 ?_
  refine lv_eqr (v' := .ref (ad 1)) rfl ?_
  refine lv_iconst (v := nI 2) hx hb dX10_generateWorkingKey_718 (by decide) ?_
  refine lv_iload hx hb dX10_generateWorkingKey_719 (lv_at hl 0 rfl) ?_
  refine xr_gst C w (r := 1) (j := 2) (x := (ks 8 (keyw b) (8 * 0 + 6))) hKW hKD (by omega) (by omega) dX10_generateWorkingKey_721 (fun H locs w hKW => ?_)
  have hk := kwok_put (r := 1) (c := 2) (x := (ks 8 (keyw b) (8 * 0 + 6))) hk (by omega) (by omega) (congrArg (ks 8 (keyw b)) (by omega))
  generalize up2 k 1 2 (ks 8 (keyw b) (8 * 0 + 6)) = k at hKW hk
  refine lv_aload_n hx hb dX10_generateWorkingKey_722 rfl (lv_at hl 11 rfl) ?_
  refine lv_bipush (v := nI 28) hx hb dX10_generateWorkingKey_723 (by decide) ?_
  refine xr_callS0 (n := 2) (rest := []) C w (met_X14_littleEndianToInt l G H.size ky (4 * 8) b 28 (by omega) (by omega)) q431 q432 q30 q433 (by decide +kernel) ⟨rfl, rfl, by decide, by decide⟩ (fun _ _ _ _ h => h) (fun U hU hW => by rw [hU]; exact (xp_cons (xp_keep hR0 (xn_1 hN0) w.2.2.1) xp_nil)) rfl hl.1 rfl (Nat.le_of_ble_eq_true rfl) dX10_generateWorkingKey_725 ⟨by decide, by decide⟩ (fun v hp => ?_)
  subst hp
  refine lv_eqi (y := (ks 8 (keyw b) (8 * 0 + 7))) ((ks_lo (KC := 8) (k0 := keyw b) (i := 7) (by decide)).symm) ?_
  refine lv_istore (lv' := [(13, .int (ks 8 (keyw b) (8 * 0 + 7))), (12, .int (ks 8 (keyw b) (8 * 0 + 6))), (11, .int (ks 8 (keyw b) (8 * 0 + 5))), (10, .int (ks 8 (keyw b) (8 * 0 + 4))), (9, .int (ks 8 (keyw b) (8 * 0 + 3))), (8, .int (ks 8 (keyw b) (8 * 0 + 2))), (7, .int (ks 8 (keyw b) (8 * 0 + 1))), (6, .int (ks 8 (keyw b) (8 * 0))), (5, .ref wa), (4, .int (nI 8)), (3, .int (nI (4 * 8))), (0, .ref h), (1, .ref ky), (2, .int (nI z))]) hx hb dX10_generateWorkingKey_728 hl (by decide) rfl (fun ls hl => ?_)
  refine lv_aload hx hb dX10_generateWorkingKey_730 (lv_at hl 8 rfl) ?_
  refine lv_iconst (v := nI 1) hx hb dX10_generateWorkingKey_732 (by decide) ?_
  refine xr_aald C (i := 1) hKW.1 (by omega) (by omega) dX10_generateWorkingKey_733 ?_
  refine lv_eqr (v' := .ref (ad 1)) rfl ?_
  refine lv_iconst (v := nI 3) hx hb dX10_generateWorkingKey_734 (by decide) ?_
  refine lv_iload hx hb dX10_generateWorkingKey_735 (lv_at hl 0 rfl) ?_
  refine xr_gst C w (r := 1) (j := 3) (x := (ks 8 (keyw b) (8 * 0 + 7))) hKW hKD (by omega) (by omega) dX10_generateWorkingKey_737 (fun H locs w hKW => ?_)
  have hk := kwok_put (r := 1) (c := 3) (x := (ks 8 (keyw b) (8 * 0 + 7))) hk (by omega) (by omega) (congrArg (ks 8 (keyw b)) (by omega))
  generalize up2 k 1 3 (ks 8 (keyw b) (8 * 0 + 7)) = k at hKW hk
  refine lv_iconst (v := nI 2) hx hb dX10_generateWorkingKey_738 (by decide) ?_
  refine lv_istore (lv' := [(14, .int (nI 2)), (13, .int (ks 8 (keyw b) (8 * 0 + 7))), (12, .int (ks 8 (keyw b) (8 * 0 + 6))), (11, .int (ks 8 (keyw b) (8 * 0 + 5))), (10, .int (ks 8 (keyw b) (8 * 0 + 4))), (9, .int (ks 8 (keyw b) (8 * 0 + 3))), (8, .int (ks 8 (keyw b) (8 * 0 + 2))), (7, .int (ks 8 (keyw b) (8 * 0 + 1))), (6, .int (ks 8 (keyw b) (8 * 0))), (5, .ref wa), (4, .int (nI 8)), (3, .int (nI (4 * 8))), (0, .ref h), (1, .ref ky), (2, .int (nI z))]) hx hb dX10_generateWorkingKey_739 hl (by decide) rfl (fun ls hl => ?_)
  refine lv_iconst (v := nI 1) hx hb dX10_generateWorkingKey_741 (by decide) ?_
  refine lv_eqi (y := nI (2 ^ 0)) (rfl) ?_
  refine lv_istore (lv' := [(15, .int (nI (2 ^ 0))), (14, .int (nI 2)), (13, .int (ks 8 (keyw b) (8 * 0 + 7))), (12, .int (ks 8 (keyw b) (8 * 0 + 6))), (11, .int (ks 8 (keyw b) (8 * 0 + 5))), (10, .int (ks 8 (keyw b) (8 * 0 + 4))), (9, .int (ks 8 (keyw b) (8 * 0 + 3))), (8, .int (ks 8 (keyw b) (8 * 0 + 2))), (7, .int (ks 8 (keyw b) (8 * 0 + 1))), (6, .int (ks 8 (keyw b) (8 * 0))), (5, .ref wa), (4, .int (nI 8)), (3, .int (nI (4 * 8))), (0, .ref h), (1, .ref ky), (2, .int (nI z))]) hx hb dX10_generateWorkingKey_742 hl (by decide) rfl (fun ls hl => ?_)
  have loop_744 : ∀ (nn : Nat) (j : Nat) (k : Nat → Nat → Int32), 7 - j < nn → (hj : j ≤ 6) → (hk : KWok (ks 8 (keyw b)) k (8 * j + 8)) → ∀ (H : Heap) (locs : List Loc) (ls : Array Slot), Wd G A [(h, xO 6 [.int (nI (8 + 6)), v1, .int r2, v3])] s s.heap H locs → (hKW : KW G wa 15 ad k H) → lv_has ls 17 [(0, .ref h), (1, .ref ky), (2, .int (nI z)), (5, .ref wa), (6, .int (ks 8 (keyw b) (8 * j))), (7, .int (ks 8 (keyw b) (8 * j + 1))), (8, .int (ks 8 (keyw b) (8 * j + 2))), (9, .int (ks 8 (keyw b) (8 * j + 3))), (10, .int (ks 8 (keyw b) (8 * j + 4))), (11, .int (ks 8 (keyw b) (8 * j + 5))), (12, .int (ks 8 (keyw b) (8 * j + 6))), (13, .int (ks 8 (keyw b) (8 * j + 7))), (14, .int (nI (2 * j + 2))), (15, .int (nI (2 ^ j)))] → W p l e ({ frames := 2, cells := 16, slots := 75, locals := 60 } : Room) s m args below meth c H locs 16 75 Q (F0 m 744 ls []) := by
    intro nn
    induction nn with
    | zero => intro j k hmm; exact absurd hmm (Nat.not_lt_zero _)
    | succ nn ih_744 =>
      intro j k hmm hj hk H locs ls w hKW hl
      refine lv_iload hx hb dX10_generateWorkingKey_744 (lv_at hl 11 rfl) ?_
      refine lv_bipush (v := nI 8) hx hb dX10_generateWorkingKey_746 (by decide) ?_
      refine xr_callS0 (n := 2) (rest := []) C w (met_X10_shift l G H.size (ks 8 (keyw b) (8 * j + 7)) (nI 8) ) q434 q435 q19 q436 (by decide +kernel) ⟨rfl, rfl, by decide, by decide⟩ (fun _ _ _ _ h => h) (fun U hU hW => trivial) rfl hl.1 rfl (Nat.le_of_ble_eq_true rfl) dX10_generateWorkingKey_748 ⟨by decide, by decide⟩ (fun v hp => ?_)
      subst hp
      refine xr_callS0 (n := 1) (rest := []) C w (met_X10_subWord l G H.size (shf (ks 8 (keyw b) (8 * j + 7)) (nI 8)) ) q437 q438 q19 q439 (by decide +kernel) ⟨rfl, rfl, by decide, by decide⟩ (fun _ _ _ _ h => h) (fun U hU hW => trivial) rfl hl.1 rfl (Nat.le_of_ble_eq_true rfl) dX10_generateWorkingKey_751 ⟨by decide, by decide⟩ (fun v hp => ?_)
      subst hp
      refine lv_iload hx hb dX10_generateWorkingKey_754 (lv_at hl 13 rfl) ?_
      refine lv_ixor hx hb dX10_generateWorkingKey_756 ?_
      refine lv_eqi (y := (sbw (shf (ks 8 (keyw b) (8 * j + 7)) (nI 8)) ^^^ tR j)) (by rw [rc_eq j (by omega)]) ?_
      refine lv_istore (lv' := [(16, .int (sbw (shf (ks 8 (keyw b) (8 * j + 7)) (nI 8)) ^^^ tR j)), (0, .ref h), (1, .ref ky), (2, .int (nI z)), (5, .ref wa), (6, .int (ks 8 (keyw b) (8 * j))), (7, .int (ks 8 (keyw b) (8 * j + 1))), (8, .int (ks 8 (keyw b) (8 * j + 2))), (9, .int (ks 8 (keyw b) (8 * j + 3))), (10, .int (ks 8 (keyw b) (8 * j + 4))), (11, .int (ks 8 (keyw b) (8 * j + 5))), (12, .int (ks 8 (keyw b) (8 * j + 6))), (13, .int (ks 8 (keyw b) (8 * j + 7))), (14, .int (nI (2 * j + 2))), (15, .int (nI (2 ^ j)))]) hx hb dX10_generateWorkingKey_757 hl (by decide) rfl (fun ls hl => ?_)
      refine lv_iload hx hb dX10_generateWorkingKey_759 (lv_at hl 14 rfl) ?_
      refine lv_iconst (v := nI 1) hx hb dX10_generateWorkingKey_761 (by decide) ?_
      refine lv_ishl hx hb dX10_generateWorkingKey_762 ?_
      refine lv_eqi (y := nI (2 ^ (j + 1))) (rc_shl j (by omega)) ?_
      refine lv_istore (lv' := [(15, .int (nI (2 ^ (j + 1)))), (16, .int (sbw (shf (ks 8 (keyw b) (8 * j + 7)) (nI 8)) ^^^ tR j)), (0, .ref h), (1, .ref ky), (2, .int (nI z)), (5, .ref wa), (6, .int (ks 8 (keyw b) (8 * j))), (7, .int (ks 8 (keyw b) (8 * j + 1))), (8, .int (ks 8 (keyw b) (8 * j + 2))), (9, .int (ks 8 (keyw b) (8 * j + 3))), (10, .int (ks 8 (keyw b) (8 * j + 4))), (11, .int (ks 8 (keyw b) (8 * j + 5))), (12, .int (ks 8 (keyw b) (8 * j + 6))), (13, .int (ks 8 (keyw b) (8 * j + 7))), (14, .int (nI (2 * j + 2)))]) hx hb dX10_generateWorkingKey_763 hl (by decide) rfl (fun ls hl => ?_)
      refine lv_iload hx hb dX10_generateWorkingKey_765 (lv_at hl 6 rfl) ?_
      refine lv_iload hx hb dX10_generateWorkingKey_767 (lv_at hl 1 rfl) ?_
      refine lv_ixor hx hb dX10_generateWorkingKey_769 ?_
      refine lv_eqi (y := (ks 8 (keyw b) (8 * (j + 1)))) (ks0 (t := j) (by decide) (by omega) (by omega) (by omega)) ?_
      refine lv_istore (lv' := [(6, .int (ks 8 (keyw b) (8 * (j + 1)))), (15, .int (nI (2 ^ (j + 1)))), (16, .int (sbw (shf (ks 8 (keyw b) (8 * j + 7)) (nI 8)) ^^^ tR j)), (0, .ref h), (1, .ref ky), (2, .int (nI z)), (5, .ref wa), (7, .int (ks 8 (keyw b) (8 * j + 1))), (8, .int (ks 8 (keyw b) (8 * j + 2))), (9, .int (ks 8 (keyw b) (8 * j + 3))), (10, .int (ks 8 (keyw b) (8 * j + 4))), (11, .int (ks 8 (keyw b) (8 * j + 5))), (12, .int (ks 8 (keyw b) (8 * j + 6))), (13, .int (ks 8 (keyw b) (8 * j + 7))), (14, .int (nI (2 * j + 2)))]) hx hb dX10_generateWorkingKey_770 hl (by decide) rfl (fun ls hl => ?_)
      refine lv_aload hx hb dX10_generateWorkingKey_772 (lv_at hl 6 rfl) ?_
      refine lv_iload hx hb dX10_generateWorkingKey_774 (lv_at hl 14 rfl) ?_
      refine xr_aald C (i := 2 * j + 2) hKW.1 (by omega) (by omega) dX10_generateWorkingKey_776 ?_
      refine lv_eqr (v' := .ref (ad (2 * j + 2))) rfl ?_
      refine lv_iconst (v := nI 0) hx hb dX10_generateWorkingKey_777 (by decide) ?_
      refine lv_iload hx hb dX10_generateWorkingKey_778 (lv_at hl 0 rfl) ?_
      refine xr_gst C w (r := 2 * j + 2) (j := 0) (x := (ks 8 (keyw b) (8 * (j + 1)))) hKW hKD (by omega) (by omega) dX10_generateWorkingKey_780 (fun H locs w hKW => ?_)
      have hk := kwok_put (r := 2 * j + 2) (c := 0) (x := (ks 8 (keyw b) (8 * (j + 1)))) hk (by omega) (by omega) (congrArg (ks 8 (keyw b)) (by omega))
      generalize up2 k (2 * j + 2) 0 (ks 8 (keyw b) (8 * (j + 1))) = k at hKW hk
      refine lv_iload hx hb dX10_generateWorkingKey_781 (lv_at hl 7 rfl) ?_
      refine lv_iload hx hb dX10_generateWorkingKey_783 (lv_at hl 0 rfl) ?_
      refine lv_ixor hx hb dX10_generateWorkingKey_785 ?_
      refine lv_eqi (y := (ks 8 (keyw b) (8 * (j + 1) + 1))) (ksN (by decide) (by omega) (by omega) (by omega) (by omega)) ?_
      refine lv_istore (lv' := [(7, .int (ks 8 (keyw b) (8 * (j + 1) + 1))), (6, .int (ks 8 (keyw b) (8 * (j + 1)))), (15, .int (nI (2 ^ (j + 1)))), (16, .int (sbw (shf (ks 8 (keyw b) (8 * j + 7)) (nI 8)) ^^^ tR j)), (0, .ref h), (1, .ref ky), (2, .int (nI z)), (5, .ref wa), (8, .int (ks 8 (keyw b) (8 * j + 2))), (9, .int (ks 8 (keyw b) (8 * j + 3))), (10, .int (ks 8 (keyw b) (8 * j + 4))), (11, .int (ks 8 (keyw b) (8 * j + 5))), (12, .int (ks 8 (keyw b) (8 * j + 6))), (13, .int (ks 8 (keyw b) (8 * j + 7))), (14, .int (nI (2 * j + 2)))]) hx hb dX10_generateWorkingKey_786 hl (by decide) rfl (fun ls hl => ?_)
      refine lv_aload hx hb dX10_generateWorkingKey_788 (lv_at hl 7 rfl) ?_
      refine lv_iload hx hb dX10_generateWorkingKey_790 (lv_at hl 14 rfl) ?_
      refine xr_aald C (i := 2 * j + 2) hKW.1 (by omega) (by omega) dX10_generateWorkingKey_792 ?_
      refine lv_eqr (v' := .ref (ad (2 * j + 2))) rfl ?_
      refine lv_iconst (v := nI 1) hx hb dX10_generateWorkingKey_793 (by decide) ?_
      refine lv_iload hx hb dX10_generateWorkingKey_794 (lv_at hl 0 rfl) ?_
      refine xr_gst C w (r := 2 * j + 2) (j := 1) (x := (ks 8 (keyw b) (8 * (j + 1) + 1))) hKW hKD (by omega) (by omega) dX10_generateWorkingKey_796 (fun H locs w hKW => ?_)
      have hk := kwok_put (r := 2 * j + 2) (c := 1) (x := (ks 8 (keyw b) (8 * (j + 1) + 1))) hk (by omega) (by omega) (congrArg (ks 8 (keyw b)) (by omega))
      generalize up2 k (2 * j + 2) 1 (ks 8 (keyw b) (8 * (j + 1) + 1)) = k at hKW hk
      refine lv_iload hx hb dX10_generateWorkingKey_797 (lv_at hl 8 rfl) ?_
      refine lv_iload hx hb dX10_generateWorkingKey_799 (lv_at hl 0 rfl) ?_
      refine lv_ixor hx hb dX10_generateWorkingKey_801 ?_
      refine lv_eqi (y := (ks 8 (keyw b) (8 * (j + 1) + 2))) (ksN (by decide) (by omega) (by omega) (by omega) (by omega)) ?_
      refine lv_istore (lv' := [(8, .int (ks 8 (keyw b) (8 * (j + 1) + 2))), (7, .int (ks 8 (keyw b) (8 * (j + 1) + 1))), (6, .int (ks 8 (keyw b) (8 * (j + 1)))), (15, .int (nI (2 ^ (j + 1)))), (16, .int (sbw (shf (ks 8 (keyw b) (8 * j + 7)) (nI 8)) ^^^ tR j)), (0, .ref h), (1, .ref ky), (2, .int (nI z)), (5, .ref wa), (9, .int (ks 8 (keyw b) (8 * j + 3))), (10, .int (ks 8 (keyw b) (8 * j + 4))), (11, .int (ks 8 (keyw b) (8 * j + 5))), (12, .int (ks 8 (keyw b) (8 * j + 6))), (13, .int (ks 8 (keyw b) (8 * j + 7))), (14, .int (nI (2 * j + 2)))]) hx hb dX10_generateWorkingKey_802 hl (by decide) rfl (fun ls hl => ?_)
      refine lv_aload hx hb dX10_generateWorkingKey_804 (lv_at hl 8 rfl) ?_
      refine lv_iload hx hb dX10_generateWorkingKey_806 (lv_at hl 14 rfl) ?_
      refine xr_aald C (i := 2 * j + 2) hKW.1 (by omega) (by omega) dX10_generateWorkingKey_808 ?_
      refine lv_eqr (v' := .ref (ad (2 * j + 2))) rfl ?_
      refine lv_iconst (v := nI 2) hx hb dX10_generateWorkingKey_809 (by decide) ?_
      refine lv_iload hx hb dX10_generateWorkingKey_810 (lv_at hl 0 rfl) ?_
      refine xr_gst C w (r := 2 * j + 2) (j := 2) (x := (ks 8 (keyw b) (8 * (j + 1) + 2))) hKW hKD (by omega) (by omega) dX10_generateWorkingKey_812 (fun H locs w hKW => ?_)
      have hk := kwok_put (r := 2 * j + 2) (c := 2) (x := (ks 8 (keyw b) (8 * (j + 1) + 2))) hk (by omega) (by omega) (congrArg (ks 8 (keyw b)) (by omega))
      generalize up2 k (2 * j + 2) 2 (ks 8 (keyw b) (8 * (j + 1) + 2)) = k at hKW hk
      refine lv_iload hx hb dX10_generateWorkingKey_813 (lv_at hl 9 rfl) ?_
      refine lv_iload hx hb dX10_generateWorkingKey_815 (lv_at hl 0 rfl) ?_
      refine lv_ixor hx hb dX10_generateWorkingKey_817 ?_
      refine lv_eqi (y := (ks 8 (keyw b) (8 * (j + 1) + 3))) (ksN (by decide) (by omega) (by omega) (by omega) (by omega)) ?_
      refine lv_istore (lv' := [(9, .int (ks 8 (keyw b) (8 * (j + 1) + 3))), (8, .int (ks 8 (keyw b) (8 * (j + 1) + 2))), (7, .int (ks 8 (keyw b) (8 * (j + 1) + 1))), (6, .int (ks 8 (keyw b) (8 * (j + 1)))), (15, .int (nI (2 ^ (j + 1)))), (16, .int (sbw (shf (ks 8 (keyw b) (8 * j + 7)) (nI 8)) ^^^ tR j)), (0, .ref h), (1, .ref ky), (2, .int (nI z)), (5, .ref wa), (10, .int (ks 8 (keyw b) (8 * j + 4))), (11, .int (ks 8 (keyw b) (8 * j + 5))), (12, .int (ks 8 (keyw b) (8 * j + 6))), (13, .int (ks 8 (keyw b) (8 * j + 7))), (14, .int (nI (2 * j + 2)))]) hx hb dX10_generateWorkingKey_818 hl (by decide) rfl (fun ls hl => ?_)
      refine lv_aload hx hb dX10_generateWorkingKey_820 (lv_at hl 9 rfl) ?_
      refine lv_iload hx hb dX10_generateWorkingKey_822 (lv_at hl 14 rfl) ?_
      refine xr_aald C (i := 2 * j + 2) hKW.1 (by omega) (by omega) dX10_generateWorkingKey_824 ?_
      refine lv_eqr (v' := .ref (ad (2 * j + 2))) rfl ?_
      refine lv_iconst (v := nI 3) hx hb dX10_generateWorkingKey_825 (by decide) ?_
      refine lv_iload hx hb dX10_generateWorkingKey_826 (lv_at hl 0 rfl) ?_
      refine xr_gst C w (r := 2 * j + 2) (j := 3) (x := (ks 8 (keyw b) (8 * (j + 1) + 3))) hKW hKD (by omega) (by omega) dX10_generateWorkingKey_828 (fun H locs w hKW => ?_)
      have hk := kwok_put (r := 2 * j + 2) (c := 3) (x := (ks 8 (keyw b) (8 * (j + 1) + 3))) hk (by omega) (by omega) (congrArg (ks 8 (keyw b)) (by omega))
      generalize up2 k (2 * j + 2) 3 (ks 8 (keyw b) (8 * (j + 1) + 3)) = k at hKW hk
      refine lv_iinc (v := nI (2 * j + 3)) (lv' := [(14, .int (nI (2 * j + 3))), (9, .int (ks 8 (keyw b) (8 * (j + 1) + 3))), (8, .int (ks 8 (keyw b) (8 * (j + 1) + 2))), (7, .int (ks 8 (keyw b) (8 * (j + 1) + 1))), (6, .int (ks 8 (keyw b) (8 * (j + 1)))), (15, .int (nI (2 ^ (j + 1)))), (16, .int (sbw (shf (ks 8 (keyw b) (8 * j + 7)) (nI 8)) ^^^ tR j)), (0, .ref h), (1, .ref ky), (2, .int (nI z)), (5, .ref wa), (10, .int (ks 8 (keyw b) (8 * j + 4))), (11, .int (ks 8 (keyw b) (8 * j + 5))), (12, .int (ks 8 (keyw b) (8 * j + 6))), (13, .int (ks 8 (keyw b) (8 * j + 7)))]) hx hb dX10_generateWorkingKey_829 hl (k := 14) rfl (nI_add (2 * j + 2) 1) (by decide) rfl (fun ls hl => ?_)
      refine lv_iload hx hb dX10_generateWorkingKey_832 (lv_at hl 0 rfl) ?_
      refine lv_bipush (v := nI 15) hx hb dX10_generateWorkingKey_834 (by decide) ?_
      refine xr_icmp_lt (a := 2 * j + 3) (b := 15) (tgt := 842) hx hb dX10_generateWorkingKey_836 (by decide) (by omega) (by omega) (fun c_836 => ?_) (fun c_836 => ?_)
      · refine lv_iload hx hb dX10_generateWorkingKey_842 (lv_at hl 1 rfl) ?_
        refine xr_callS0 (n := 1) (rest := []) C w (met_X10_subWord l G H.size (ks 8 (keyw b) (8 * (j + 1) + 3)) ) q437 q438 q19 q439 (by decide +kernel) ⟨rfl, rfl, by decide, by decide⟩ (fun _ _ _ _ h => h) (fun U hU hW => trivial) rfl hl.1 rfl (Nat.le_of_ble_eq_true rfl) dX10_generateWorkingKey_844 ⟨by decide, by decide⟩ (fun v hp => ?_)
        subst hp
        refine lv_istore (lv' := [(16, .int (sbw (ks 8 (keyw b) (8 * (j + 1) + 3)))), (14, .int (nI (2 * j + 3))), (9, .int (ks 8 (keyw b) (8 * (j + 1) + 3))), (8, .int (ks 8 (keyw b) (8 * (j + 1) + 2))), (7, .int (ks 8 (keyw b) (8 * (j + 1) + 1))), (6, .int (ks 8 (keyw b) (8 * (j + 1)))), (15, .int (nI (2 ^ (j + 1)))), (0, .ref h), (1, .ref ky), (2, .int (nI z)), (5, .ref wa), (10, .int (ks 8 (keyw b) (8 * j + 4))), (11, .int (ks 8 (keyw b) (8 * j + 5))), (12, .int (ks 8 (keyw b) (8 * j + 6))), (13, .int (ks 8 (keyw b) (8 * j + 7)))]) hx hb dX10_generateWorkingKey_847 hl (by decide) rfl (fun ls hl => ?_)
        refine lv_iload hx hb dX10_generateWorkingKey_849 (lv_at hl 11 rfl) ?_
        refine lv_iload hx hb dX10_generateWorkingKey_851 (lv_at hl 0 rfl) ?_
        refine lv_ixor hx hb dX10_generateWorkingKey_853 ?_
        refine lv_eqi (y := (ks 8 (keyw b) (8 * (j + 1) + 4))) (ks4 (by omega) (by omega) (by omega)) ?_
        refine lv_istore (lv' := [(10, .int (ks 8 (keyw b) (8 * (j + 1) + 4))), (16, .int (sbw (ks 8 (keyw b) (8 * (j + 1) + 3)))), (14, .int (nI (2 * j + 3))), (9, .int (ks 8 (keyw b) (8 * (j + 1) + 3))), (8, .int (ks 8 (keyw b) (8 * (j + 1) + 2))), (7, .int (ks 8 (keyw b) (8 * (j + 1) + 1))), (6, .int (ks 8 (keyw b) (8 * (j + 1)))), (15, .int (nI (2 ^ (j + 1)))), (0, .ref h), (1, .ref ky), (2, .int (nI z)), (5, .ref wa), (11, .int (ks 8 (keyw b) (8 * j + 5))), (12, .int (ks 8 (keyw b) (8 * j + 6))), (13, .int (ks 8 (keyw b) (8 * j + 7)))]) hx hb dX10_generateWorkingKey_854 hl (by decide) rfl (fun ls hl => ?_)
        refine lv_aload hx hb dX10_generateWorkingKey_856 (lv_at hl 11 rfl) ?_
        refine lv_iload hx hb dX10_generateWorkingKey_858 (lv_at hl 2 rfl) ?_
        refine xr_aald C (i := 2 * j + 3) hKW.1 (by omega) (by omega) dX10_generateWorkingKey_860 ?_
        refine lv_eqr (v' := .ref (ad (2 * j + 3))) rfl ?_
        refine lv_iconst (v := nI 0) hx hb dX10_generateWorkingKey_861 (by decide) ?_
        refine lv_iload hx hb dX10_generateWorkingKey_862 (lv_at hl 0 rfl) ?_
        refine xr_gst C w (r := 2 * j + 3) (j := 0) (x := (ks 8 (keyw b) (8 * (j + 1) + 4))) hKW hKD (by omega) (by omega) dX10_generateWorkingKey_864 (fun H locs w hKW => ?_)
        have hk := kwok_put (r := 2 * j + 3) (c := 0) (x := (ks 8 (keyw b) (8 * (j + 1) + 4))) hk (by omega) (by omega) (congrArg (ks 8 (keyw b)) (by omega))
        generalize up2 k (2 * j + 3) 0 (ks 8 (keyw b) (8 * (j + 1) + 4)) = k at hKW hk
        refine lv_iload hx hb dX10_generateWorkingKey_865 (lv_at hl 12 rfl) ?_
        refine lv_iload hx hb dX10_generateWorkingKey_867 (lv_at hl 0 rfl) ?_
        refine lv_ixor hx hb dX10_generateWorkingKey_869 ?_
        refine lv_eqi (y := (ks 8 (keyw b) (8 * (j + 1) + 5))) (ksN (by decide) (by omega) (by omega) (by omega) (by omega)) ?_
        refine lv_istore (lv' := [(11, .int (ks 8 (keyw b) (8 * (j + 1) + 5))), (10, .int (ks 8 (keyw b) (8 * (j + 1) + 4))), (16, .int (sbw (ks 8 (keyw b) (8 * (j + 1) + 3)))), (14, .int (nI (2 * j + 3))), (9, .int (ks 8 (keyw b) (8 * (j + 1) + 3))), (8, .int (ks 8 (keyw b) (8 * (j + 1) + 2))), (7, .int (ks 8 (keyw b) (8 * (j + 1) + 1))), (6, .int (ks 8 (keyw b) (8 * (j + 1)))), (15, .int (nI (2 ^ (j + 1)))), (0, .ref h), (1, .ref ky), (2, .int (nI z)), (5, .ref wa), (12, .int (ks 8 (keyw b) (8 * j + 6))), (13, .int (ks 8 (keyw b) (8 * j + 7)))]) hx hb dX10_generateWorkingKey_870 hl (by decide) rfl (fun ls hl => ?_)
        refine lv_aload hx hb dX10_generateWorkingKey_872 (lv_at hl 12 rfl) ?_
        refine lv_iload hx hb dX10_generateWorkingKey_874 (lv_at hl 3 rfl) ?_
        refine xr_aald C (i := 2 * j + 3) hKW.1 (by omega) (by omega) dX10_generateWorkingKey_876 ?_
        refine lv_eqr (v' := .ref (ad (2 * j + 3))) rfl ?_
        refine lv_iconst (v := nI 1) hx hb dX10_generateWorkingKey_877 (by decide) ?_
        refine lv_iload hx hb dX10_generateWorkingKey_878 (lv_at hl 0 rfl) ?_
        refine xr_gst C w (r := 2 * j + 3) (j := 1) (x := (ks 8 (keyw b) (8 * (j + 1) + 5))) hKW hKD (by omega) (by omega) dX10_generateWorkingKey_880 (fun H locs w hKW => ?_)
        have hk := kwok_put (r := 2 * j + 3) (c := 1) (x := (ks 8 (keyw b) (8 * (j + 1) + 5))) hk (by omega) (by omega) (congrArg (ks 8 (keyw b)) (by omega))
        generalize up2 k (2 * j + 3) 1 (ks 8 (keyw b) (8 * (j + 1) + 5)) = k at hKW hk
        refine lv_iload hx hb dX10_generateWorkingKey_881 (lv_at hl 13 rfl) ?_
        refine lv_iload hx hb dX10_generateWorkingKey_883 (lv_at hl 0 rfl) ?_
        refine lv_ixor hx hb dX10_generateWorkingKey_885 ?_
        refine lv_eqi (y := (ks 8 (keyw b) (8 * (j + 1) + 6))) (ksN (by decide) (by omega) (by omega) (by omega) (by omega)) ?_
        refine lv_istore (lv' := [(12, .int (ks 8 (keyw b) (8 * (j + 1) + 6))), (11, .int (ks 8 (keyw b) (8 * (j + 1) + 5))), (10, .int (ks 8 (keyw b) (8 * (j + 1) + 4))), (16, .int (sbw (ks 8 (keyw b) (8 * (j + 1) + 3)))), (14, .int (nI (2 * j + 3))), (9, .int (ks 8 (keyw b) (8 * (j + 1) + 3))), (8, .int (ks 8 (keyw b) (8 * (j + 1) + 2))), (7, .int (ks 8 (keyw b) (8 * (j + 1) + 1))), (6, .int (ks 8 (keyw b) (8 * (j + 1)))), (15, .int (nI (2 ^ (j + 1)))), (0, .ref h), (1, .ref ky), (2, .int (nI z)), (5, .ref wa), (13, .int (ks 8 (keyw b) (8 * j + 7)))]) hx hb dX10_generateWorkingKey_886 hl (by decide) rfl (fun ls hl => ?_)
        refine lv_aload hx hb dX10_generateWorkingKey_888 (lv_at hl 13 rfl) ?_
        refine lv_iload hx hb dX10_generateWorkingKey_890 (lv_at hl 4 rfl) ?_
        refine xr_aald C (i := 2 * j + 3) hKW.1 (by omega) (by omega) dX10_generateWorkingKey_892 ?_
        refine lv_eqr (v' := .ref (ad (2 * j + 3))) rfl ?_
        refine lv_iconst (v := nI 2) hx hb dX10_generateWorkingKey_893 (by decide) ?_
        refine lv_iload hx hb dX10_generateWorkingKey_894 (lv_at hl 0 rfl) ?_
        refine xr_gst C w (r := 2 * j + 3) (j := 2) (x := (ks 8 (keyw b) (8 * (j + 1) + 6))) hKW hKD (by omega) (by omega) dX10_generateWorkingKey_896 (fun H locs w hKW => ?_)
        have hk := kwok_put (r := 2 * j + 3) (c := 2) (x := (ks 8 (keyw b) (8 * (j + 1) + 6))) hk (by omega) (by omega) (congrArg (ks 8 (keyw b)) (by omega))
        generalize up2 k (2 * j + 3) 2 (ks 8 (keyw b) (8 * (j + 1) + 6)) = k at hKW hk
        refine lv_iload hx hb dX10_generateWorkingKey_897 (lv_at hl 14 rfl) ?_
        refine lv_iload hx hb dX10_generateWorkingKey_899 (lv_at hl 0 rfl) ?_
        refine lv_ixor hx hb dX10_generateWorkingKey_901 ?_
        refine lv_eqi (y := (ks 8 (keyw b) (8 * (j + 1) + 7))) (ksN (by decide) (by omega) (by omega) (by omega) (by omega)) ?_
        refine lv_istore (lv' := [(13, .int (ks 8 (keyw b) (8 * (j + 1) + 7))), (12, .int (ks 8 (keyw b) (8 * (j + 1) + 6))), (11, .int (ks 8 (keyw b) (8 * (j + 1) + 5))), (10, .int (ks 8 (keyw b) (8 * (j + 1) + 4))), (16, .int (sbw (ks 8 (keyw b) (8 * (j + 1) + 3)))), (14, .int (nI (2 * j + 3))), (9, .int (ks 8 (keyw b) (8 * (j + 1) + 3))), (8, .int (ks 8 (keyw b) (8 * (j + 1) + 2))), (7, .int (ks 8 (keyw b) (8 * (j + 1) + 1))), (6, .int (ks 8 (keyw b) (8 * (j + 1)))), (15, .int (nI (2 ^ (j + 1)))), (0, .ref h), (1, .ref ky), (2, .int (nI z)), (5, .ref wa)]) hx hb dX10_generateWorkingKey_902 hl (by decide) rfl (fun ls hl => ?_)
        refine lv_aload hx hb dX10_generateWorkingKey_904 (lv_at hl 14 rfl) ?_
        refine lv_iload hx hb dX10_generateWorkingKey_906 (lv_at hl 5 rfl) ?_
        refine xr_aald C (i := 2 * j + 3) hKW.1 (by omega) (by omega) dX10_generateWorkingKey_908 ?_
        refine lv_eqr (v' := .ref (ad (2 * j + 3))) rfl ?_
        refine lv_iconst (v := nI 3) hx hb dX10_generateWorkingKey_909 (by decide) ?_
        refine lv_iload hx hb dX10_generateWorkingKey_910 (lv_at hl 0 rfl) ?_
        refine xr_gst C w (r := 2 * j + 3) (j := 3) (x := (ks 8 (keyw b) (8 * (j + 1) + 7))) hKW hKD (by omega) (by omega) dX10_generateWorkingKey_912 (fun H locs w hKW => ?_)
        have hk := kwok_put (r := 2 * j + 3) (c := 3) (x := (ks 8 (keyw b) (8 * (j + 1) + 7))) hk (by omega) (by omega) (congrArg (ks 8 (keyw b)) (by omega))
        generalize up2 k (2 * j + 3) 3 (ks 8 (keyw b) (8 * (j + 1) + 7)) = k at hKW hk
        refine lv_iinc (v := nI (2 * (j + 1) + 2)) (lv' := [(14, .int (nI (2 * (j + 1) + 2))), (13, .int (ks 8 (keyw b) (8 * (j + 1) + 7))), (12, .int (ks 8 (keyw b) (8 * (j + 1) + 6))), (11, .int (ks 8 (keyw b) (8 * (j + 1) + 5))), (10, .int (ks 8 (keyw b) (8 * (j + 1) + 4))), (16, .int (sbw (ks 8 (keyw b) (8 * (j + 1) + 3)))), (9, .int (ks 8 (keyw b) (8 * (j + 1) + 3))), (8, .int (ks 8 (keyw b) (8 * (j + 1) + 2))), (7, .int (ks 8 (keyw b) (8 * (j + 1) + 1))), (6, .int (ks 8 (keyw b) (8 * (j + 1)))), (15, .int (nI (2 ^ (j + 1)))), (0, .ref h), (1, .ref ky), (2, .int (nI z)), (5, .ref wa)]) hx hb dX10_generateWorkingKey_913 hl (k := 5) rfl ((nI_add (2 * j + 3) 1).trans (by rw [show 2 * j + 3 + 1 = 2 * (j + 1) + 2 by omega])) (by decide) rfl (fun ls hl => ?_)
        refine lv_goto (tgt := 744) hx hb dX10_generateWorkingKey_916 (by decide) ?_
        exact ih_744 (j + 1) _ (by omega) (by omega) (by rw [show 8 * (j + 1) + 8 = 8 * j + 8 + 1 + 1 + 1 + 1 + 1 + 1 + 1 + 1 by omega]; exact hk) _ _ _ w hKW (lv_sub hl [11, 12, 13, 14, 9, 8, 7, 6, 4, 3, 2, 1, 0, 10] rfl)
      · refine lv_goto (tgt := 929) hx hb dX10_generateWorkingKey_839 (by decide) ?_
        have hl := lv_sub hl [7, 8, 9, 10] (l' := [(0, .ref h), (1, .ref ky), (2, .int (nI z)), (5, .ref wa)]) rfl
        have hk : KWok (ks 8 (keyw b)) k 60 := by rw [show 60 = 8 * j + 8 + 1 + 1 + 1 + 1 by omega]; exact hk
        refine lv_iload_n hx hb dX10_generateWorkingKey_929 rfl (lv_at hl 2 rfl) ?_
        refine xr_if_ne (a := z) (tgt := 985) hx hb dX10_generateWorkingKey_930 (by decide) (by omega) (fun c_930 => ?_) (fun c_930 => ?_)
        · refine lv_aload hx hb dX10_generateWorkingKey_985 (lv_at hl 3 rfl) ?_
          have hq : sz ≤ wa := by rw [← hsz]; exact hq_wa0
          have hF := hKW.ext (k' := kwF 8 (keyw b) z) (fun r hr c hc => by rw [hk r c hc (by omega)]; unfold kwF; rw [if_neg c_930])
          rw [had] at hF
          exact xr_aret C hlk hr (Or.inr ⟨_, rfl⟩) (Or.inr ⟨_, rfl⟩) w hAe hQ (by decide) (by decide) wa rfl (⟨rfl, hq, hF⟩) dX10_generateWorkingKey_987
        · have hk := kwdk_0 (n := 15) hk (by decide)
          refine lv_iconst (v := nI 1) hx hb dX10_generateWorkingKey_933 (by decide) ?_
          refine lv_istore (lv' := [(6, .int (nI 1)), (0, .ref h), (1, .ref ky), (2, .int (nI z)), (5, .ref wa)]) hx hb dX10_generateWorkingKey_934 hl (by decide) rfl (fun ls hl => ?_)
          have loop_936 : ∀ (nn : Nat) (i : Nat) (k : Nat → Nat → Int32), 14 - i < nn → (hi : 1 ≤ i ∧ i ≤ 14) → (hk : KWdk (ks 8 (keyw b)) k 15 (4 * i)) → ∀ (H : Heap) (locs : List Loc) (ls : Array Slot), Wd G A [(h, xO 6 [.int (nI (8 + 6)), v1, .int r2, v3])] s s.heap H locs → (hKW : KW G wa 15 ad k H) → lv_has ls 17 [(0, .ref h), (1, .ref ky), (2, .int (nI z)), (5, .ref wa), (6, .int (nI i))] → W p l e ({ frames := 2, cells := 16, slots := 75, locals := 60 } : Room) s m args below meth c H locs 16 75 Q (F0 m 936 ls []) := by
            intro nn
            induction nn with
            | zero => intro i k hmm; exact absurd hmm (Nat.not_lt_zero _)
            | succ nn ih_936 =>
              intro i k hmm hi hk H locs ls w hKW hl
              refine lv_iload hx hb dX10_generateWorkingKey_936 (lv_at hl 4 rfl) ?_
              refine lv_aload_n hx hb dX10_generateWorkingKey_938 rfl (lv_at hl 0 rfl) ?_
              refine xr_get (ci := 6) (v := .int (nI (8 + 6))) (Cn := RX10) (T := TX10) (N := 4) C (w.at 0 rfl) in_X10 rfl 0 (by decide) q139 (fun _ h => h) rfl dX10_generateWorkingKey_939 ?_
              refine xr_icmp_ge (a := i) (b := 8 + 6) (tgt := 985) hx hb dX10_generateWorkingKey_942 (by decide) (by omega) (by omega) (fun c_942 => ?_) (fun c_942 => ?_)
              · refine lv_aload hx hb dX10_generateWorkingKey_985 (lv_at hl 3 rfl) ?_
                have hq : sz ≤ wa := by rw [← hsz]; exact hq_wa0
                have hi6 : i = 14 := by omega
                subst hi6
                have hF := hKW.ext (k' := kwF 8 (keyw b) z) (fun r hr c hc => by rw [hk r c hc hr]; unfold kwF; rw [if_pos c_930])
                rw [had] at hF
                exact xr_aret C hlk hr (Or.inr ⟨_, rfl⟩) (Or.inr ⟨_, rfl⟩) w hAe hQ (by decide) (by decide) wa rfl (⟨rfl, hq, hF⟩) dX10_generateWorkingKey_987
              · refine lv_iconst (v := nI 0) hx hb dX10_generateWorkingKey_945 (by decide) ?_
                refine lv_istore (lv' := [(7, .int (nI 0)), (0, .ref h), (1, .ref ky), (2, .int (nI z)), (5, .ref wa), (6, .int (nI i))]) hx hb dX10_generateWorkingKey_946 hl (by decide) rfl (fun ls hl => ?_)
                have loop_948 : ∀ (nn : Nat) (co : Nat) (k : Nat → Nat → Int32), 4 - co < nn → (hc : co ≤ 4) → (hk : KWdk (ks 8 (keyw b)) k 15 (4 * i + co)) → ∀ (H : Heap) (locs : List Loc) (ls : Array Slot), Wd G A [(h, xO 6 [.int (nI (8 + 6)), v1, .int r2, v3])] s s.heap H locs → (hKW : KW G wa 15 ad k H) → lv_has ls 17 [(0, .ref h), (1, .ref ky), (2, .int (nI z)), (5, .ref wa), (6, .int (nI i)), (7, .int (nI co))] → W p l e ({ frames := 2, cells := 16, slots := 75, locals := 60 } : Room) s m args below meth c H locs 16 75 Q (F0 m 948 ls []) := by
                  intro nn
                  induction nn with
                  | zero => intro co k hmm; exact absurd hmm (Nat.not_lt_zero _)
                  | succ nn ih_948 =>
                    intro co k hmm hc hk H locs ls w hKW hl
                    refine lv_iload hx hb dX10_generateWorkingKey_948 (lv_at hl 5 rfl) ?_
                    refine lv_iconst (v := nI 4) hx hb dX10_generateWorkingKey_950 (by decide) ?_
                    refine xr_icmp_ge (a := co) (b := 4) (tgt := 979) hx hb dX10_generateWorkingKey_951 (by decide) (by omega) (by omega) (fun c_951 => ?_) (fun c_951 => ?_)
                    · have hc4 : co = 4 := by omega
                      subst hc4
                      refine lv_iinc (v := nI (i + 1)) (lv' := [(6, .int (nI (i + 1))), (0, .ref h), (1, .ref ky), (2, .int (nI z)), (5, .ref wa), (7, .int (nI 4))]) hx hb dX10_generateWorkingKey_979 hl (k := 4) rfl (nI_add i 1) (by decide) rfl (fun ls hl => ?_)
                      refine lv_goto (tgt := 936) hx hb dX10_generateWorkingKey_982 (by decide) ?_
                      exact ih_936 (i + 1) _ (by omega) (by omega) (by rw [show 4 * (i + 1) = 4 * i + 4 by omega]; exact hk) _ _ _ w hKW (lv_sub hl [1, 2, 3, 4, 0] rfl)
                    · refine lv_aload hx hb dX10_generateWorkingKey_954 (lv_at hl 3 rfl) ?_
                      refine lv_iload hx hb dX10_generateWorkingKey_956 (lv_at hl 4 rfl) ?_
                      refine xr_aald C (i := i) hKW.1 (by omega) (by omega) dX10_generateWorkingKey_958 ?_
                      refine lv_eqr (v' := .ref (ad i)) rfl ?_
                      refine lv_iload hx hb dX10_generateWorkingKey_959 (lv_at hl 5 rfl) ?_
                      refine lv_aload hx hb dX10_generateWorkingKey_961 (lv_at hl 3 rfl) ?_
                      refine lv_iload hx hb dX10_generateWorkingKey_963 (lv_at hl 4 rfl) ?_
                      refine xr_aald C (i := i) hKW.1 (by omega) (by omega) dX10_generateWorkingKey_965 ?_
                      refine lv_eqr (v' := .ref (ad i)) rfl ?_
                      refine lv_iload hx hb dX10_generateWorkingKey_966 (lv_at hl 5 rfl) ?_
                      refine xr_iald C (i := co) (hKW.2 (i) (by omega)) (by omega) (by omega) dX10_generateWorkingKey_968 ?_
                      refine xr_callS0 (n := 1) (rest := [.int (nI co), .ref (ad i)]) C w (met_X10_inv_mcol l G H.size (k i co) ) q447 q448 q19 q449 (by decide +kernel) ⟨rfl, rfl, by decide, by decide⟩ (fun _ _ _ _ h => h) (fun U hU hW => trivial) rfl hl.1 rfl (Nat.le_of_ble_eq_true rfl) dX10_generateWorkingKey_969 ⟨by decide, by decide⟩ (fun v hp => ?_)
                      subst hp
                      refine xr_gst C w (r := i) (j := co) (x := (imcW (k i co))) hKW hKD (by omega) (by omega) dX10_generateWorkingKey_972 (fun H locs w hKW => ?_)
                      have hk := kwdk_put (r := i) (c := co) hk (by omega) (by omega) (by omega) (by omega)
                      generalize up2 k i co (imcW (k i co)) = k at hKW hk
                      refine lv_iinc (v := nI (co + 1)) (lv' := [(7, .int (nI (co + 1))), (0, .ref h), (1, .ref ky), (2, .int (nI z)), (5, .ref wa), (6, .int (nI i))]) hx hb dX10_generateWorkingKey_973 hl (k := 5) rfl (nI_add co 1) (by decide) rfl (fun ls hl => ?_)
                      refine lv_goto (tgt := 948) hx hb dX10_generateWorkingKey_976 (by decide) ?_
                      exact ih_948 (co + 1) _ (by omega) (by omega) (hk) _ _ _ w hKW (lv_sub hl [1, 2, 3, 4, 5, 0] rfl)
                exact loop_948 ((4 - 0) + 1) 0 _ (by omega) (by decide) (hk) _ _ _ w hKW (lv_sub hl [1, 2, 3, 4, 5, 0] rfl)
          exact loop_936 ((14 - 1) + 1) 1 _ (by omega) (by decide) (hk) _ _ _ w hKW (lv_sub hl [1, 2, 3, 4, 0] rfl)
  exact loop_744 ((7 - 0) + 1) 0 _ (by omega) (by decide) (hk) _ _ _ w hKW (lv_sub hl [13, 14, 15, 10, 9, 8, 7, 6, 5, 4, 3, 2, 1, 0] rfl)
