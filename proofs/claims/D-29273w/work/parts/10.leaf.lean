/-! LEAVES: printed by tools/leaf.py -/
set_option maxHeartbeats 4000000 in
set_option maxRecDepth 100000 in
theorem met_X10_shift (l : Launch) (G : GG) (sz : Nat) (r : Int32) (n : Int32)  : Met l yX10_shift (ws_ yX10_shift cX10_shift 2 (some .int)) ({ frames := 0, cells := 0, slots := 0, locals := 0 } : Room) (va_Pc [.int r, .int n] (PP G [] sz (fun _ => True))) (CQ0 (fun v => v = some (.int (shf r n)))) 0 0 (fun _ => False) := by
  refine xr_met (own := RX10) (by decide) rfl (Nat.le_of_ble_eq_true rfl) ?_
  intro p e s m args below meth c ls Q A C hlk hr hnm hsz hAe w hRD hQ hl
  have hx := C.1
  have hb := C.2.1
  have w : Wd G A [] s s.heap s.heap [] := w
  have hl : lv_has ls 2 [(0, .int r), (1, .int n)] := hl
  refine lv_iload_n hx hb dX10_shift_0 rfl (lv_at hl 0 rfl) ?_
  refine lv_iload_n hx hb dX10_shift_1 rfl (lv_at hl 1 rfl) ?_
  refine lv_iushr (v := ((r).toUInt32 >>> ((n).toUInt32 &&& Int32.toUInt32 31)).toInt32) hx hb dX10_shift_2 rfl ?_
  refine lv_iload_n hx hb dX10_shift_3 rfl (lv_at hl 0 rfl) ?_
  refine lv_iload_n hx hb dX10_shift_4 rfl (lv_at hl 1 rfl) ?_
  refine lv_ineg hx hb dX10_shift_5 ?_
  refine lv_ishl hx hb dX10_shift_6 ?_
  refine lv_ior hx hb dX10_shift_7 ?_
  exact xr_iret0 C hlk hr hQ (rfl) dX10_shift_8

def ffm (x : Int32) : Int32 := ((x &&& 2139062143) <<< (nI 1 &&& 31)) ^^^ ((((x &&& (-2139062144)).toUInt32 >>> ((nI 7).toUInt32 &&& Int32.toUInt32 31)).toInt32) * nI 27)
def ff2t (x : Int32) : Int32 := (x &&& (-1061109568)) ^^^ ((x &&& (-1061109568)).toUInt32 >>> ((nI 1).toUInt32 &&& Int32.toUInt32 31)).toInt32
def ff2 (x : Int32) : Int32 := (((x &&& 1061109567) <<< (nI 2 &&& 31)) ^^^ ((ff2t x).toUInt32 >>> ((nI 2).toUInt32 &&& Int32.toUInt32 31)).toInt32) ^^^ ((ff2t x).toUInt32 >>> ((nI 5).toUInt32 &&& Int32.toUInt32 31)).toInt32
/-- inv_mcol, as it is written -/
def imc1 (x : Int32) : Int32 := x ^^^ shf x (nI 8)
def imc2 (x : Int32) : Int32 := x ^^^ ffm (imc1 x)
def imc3 (x : Int32) : Int32 := imc1 x ^^^ ff2 (imc2 x)
def imcW (x : Int32) : Int32 := imc2 x ^^^ (imc3 x ^^^ shf (imc3 x) (nI 16))

set_option maxHeartbeats 4000000 in
set_option maxRecDepth 100000 in
theorem met_X10_FFmulX (l : Launch) (G : GG) (sz : Nat) (x : Int32)  : Met l yX10_FFmulX (ws_ yX10_FFmulX cX10_FFmulX 1 (some .int)) ({ frames := 0, cells := 0, slots := 0, locals := 0 } : Room) (va_Pc [.int x] (PP G [] sz (fun _ => True))) (CQ0 (fun v => v = some (.int (ffm x)))) 0 0 (fun _ => False) := by
  refine xr_met (own := RX10) (by decide) rfl (Nat.le_of_ble_eq_true rfl) ?_
  intro p e s m args below meth c ls Q A C hlk hr hnm hsz hAe w hRD hQ hl
  have hx := C.1
  have hb := C.2.1
  have w : Wd G A [] s s.heap s.heap [] := w
  have hl : lv_has ls 1 [(0, .int x)] := hl
  refine lv_iload_n hx hb dX10_FFmulX_0 rfl (lv_at hl 0 rfl) ?_
  refine lv_ldc (v := 2139062143) hx hb C.2.2.2.1 (C.2.2.2.2.1 _ q453) dX10_FFmulX_1 ?_
  refine lv_iand hx hb dX10_FFmulX_3 ?_
  refine lv_iconst (v := nI 1) hx hb dX10_FFmulX_4 (by decide) ?_
  refine lv_ishl hx hb dX10_FFmulX_5 ?_
  refine lv_iload_n hx hb dX10_FFmulX_6 rfl (lv_at hl 0 rfl) ?_
  refine lv_ldc (v := (-2139062144)) hx hb C.2.2.2.1 (C.2.2.2.2.1 _ q454) dX10_FFmulX_7 ?_
  refine lv_iand hx hb dX10_FFmulX_9 ?_
  refine lv_bipush (v := nI 7) hx hb dX10_FFmulX_10 (by decide) ?_
  refine lv_iushr (v := (((x &&& (-2139062144 : Int32))).toUInt32 >>> ((nI 7).toUInt32 &&& Int32.toUInt32 31)).toInt32) hx hb dX10_FFmulX_12 rfl ?_
  refine lv_bipush (v := nI 27) hx hb dX10_FFmulX_13 (by decide) ?_
  refine lv_imul hx hb dX10_FFmulX_15 ?_
  refine lv_ixor hx hb dX10_FFmulX_16 ?_
  exact xr_iret0 C hlk hr hQ (rfl) dX10_FFmulX_17

set_option maxHeartbeats 4000000 in
set_option maxRecDepth 100000 in
theorem met_X10_FFmulX2 (l : Launch) (G : GG) (sz : Nat) (x : Int32)  : Met l yX10_FFmulX2 (ws_ yX10_FFmulX2 cX10_FFmulX2 3 (some .int)) ({ frames := 0, cells := 0, slots := 0, locals := 0 } : Room) (va_Pc [.int x] (PP G [] sz (fun _ => True))) (CQ0 (fun v => v = some (.int (ff2 x)))) 0 0 (fun _ => False) := by
  refine xr_met (own := RX10) (by decide) rfl (Nat.le_of_ble_eq_true rfl) ?_
  intro p e s m args below meth c ls Q A C hlk hr hnm hsz hAe w hRD hQ hl
  have hx := C.1
  have hb := C.2.1
  have w : Wd G A [] s s.heap s.heap [] := w
  have hl : lv_has ls 3 [(0, .int x)] := hl
  refine lv_iload_n hx hb dX10_FFmulX2_0 rfl (lv_at hl 0 rfl) ?_
  refine lv_ldc (v := 1061109567) hx hb C.2.2.2.1 (C.2.2.2.2.1 _ q458) dX10_FFmulX2_1 ?_
  refine lv_iand hx hb dX10_FFmulX2_3 ?_
  refine lv_iconst (v := nI 2) hx hb dX10_FFmulX2_4 (by decide) ?_
  refine lv_ishl hx hb dX10_FFmulX2_5 ?_
  refine lv_istore_n (lv' := [(1, .int ((x &&& (1061109567 : Int32)) <<< ((nI 2) &&& 31))), (0, .int x)]) hx hb dX10_FFmulX2_6 rfl hl (by decide) rfl (fun ls hl => ?_)
  refine lv_iload_n hx hb dX10_FFmulX2_7 rfl (lv_at hl 1 rfl) ?_
  refine lv_ldc (v := (-1061109568)) hx hb C.2.2.2.1 (C.2.2.2.2.1 _ q459) dX10_FFmulX2_8 ?_
  refine lv_iand hx hb dX10_FFmulX2_10 ?_
  refine lv_istore_n (lv' := [(2, .int (x &&& (-1061109568 : Int32))), (1, .int ((x &&& (1061109567 : Int32)) <<< ((nI 2) &&& 31))), (0, .int x)]) hx hb dX10_FFmulX2_11 rfl hl (by decide) rfl (fun ls hl => ?_)
  refine lv_iload_n hx hb dX10_FFmulX2_12 rfl (lv_at hl 0 rfl) ?_
  refine lv_iload_n hx hb dX10_FFmulX2_13 rfl (lv_at hl 0 rfl) ?_
  refine lv_iconst (v := nI 1) hx hb dX10_FFmulX2_14 (by decide) ?_
  refine lv_iushr (v := (((x &&& (-1061109568 : Int32))).toUInt32 >>> ((nI 1).toUInt32 &&& Int32.toUInt32 31)).toInt32) hx hb dX10_FFmulX2_15 rfl ?_
  refine lv_ixor hx hb dX10_FFmulX2_16 ?_
  refine lv_istore_n (lv' := [(2, .int ((x &&& (-1061109568 : Int32)) ^^^ ((((x &&& (-1061109568 : Int32))).toUInt32 >>> ((nI 1).toUInt32 &&& Int32.toUInt32 31)).toInt32))), (1, .int ((x &&& (1061109567 : Int32)) <<< ((nI 2) &&& 31))), (0, .int x)]) hx hb dX10_FFmulX2_17 rfl hl (by decide) rfl (fun ls hl => ?_)
  refine lv_iload_n hx hb dX10_FFmulX2_18 rfl (lv_at hl 1 rfl) ?_
  refine lv_iload_n hx hb dX10_FFmulX2_19 rfl (lv_at hl 0 rfl) ?_
  refine lv_iconst (v := nI 2) hx hb dX10_FFmulX2_20 (by decide) ?_
  refine lv_iushr (v := ((((x &&& (-1061109568 : Int32)) ^^^ ((((x &&& (-1061109568 : Int32))).toUInt32 >>> ((nI 1).toUInt32 &&& Int32.toUInt32 31)).toInt32))).toUInt32 >>> ((nI 2).toUInt32 &&& Int32.toUInt32 31)).toInt32) hx hb dX10_FFmulX2_21 rfl ?_
  refine lv_ixor hx hb dX10_FFmulX2_22 ?_
  refine lv_iload_n hx hb dX10_FFmulX2_23 rfl (lv_at hl 0 rfl) ?_
  refine lv_iconst (v := nI 5) hx hb dX10_FFmulX2_24 (by decide) ?_
  refine lv_iushr (v := ((((x &&& (-1061109568 : Int32)) ^^^ ((((x &&& (-1061109568 : Int32))).toUInt32 >>> ((nI 1).toUInt32 &&& Int32.toUInt32 31)).toInt32))).toUInt32 >>> ((nI 5).toUInt32 &&& Int32.toUInt32 31)).toInt32) hx hb dX10_FFmulX2_25 rfl ?_
  refine lv_ixor hx hb dX10_FFmulX2_26 ?_
  exact xr_iret0 C hlk hr hQ (rfl) dX10_FFmulX2_27

set_option maxHeartbeats 4000000 in
set_option maxRecDepth 100000 in
theorem met_X10_inv_mcol (l : Launch) (G : GG) (sz : Nat) (x : Int32)  : Met l yX10_inv_mcol (ws_ yX10_inv_mcol cX10_inv_mcol 3 (some .int)) ({ frames := 1, cells := 0, slots := 0, locals := 30 } : Room) (va_Pc [.int x] (PP G [] sz (fun _ => True))) (CQ0 (fun v => v = some (.int (imcW x)))) 0 0 (fun _ => False) := by
  refine xr_met (own := RX10) (by decide) rfl (Nat.le_of_ble_eq_true rfl) ?_
  intro p e s m args below meth c ls Q A C hlk hr hnm hsz hAe w hRD hQ hl
  have hx := C.1
  have hb := C.2.1
  have w : Wd G A [] s s.heap s.heap [] := w
  have hl : lv_has ls 3 [(0, .int x)] := hl
  refine lv_iload_n hx hb dX10_inv_mcol_0 rfl (lv_at hl 0 rfl) ?_
  refine lv_istore_n (lv' := [(1, .int x), (0, .int x)]) hx hb dX10_inv_mcol_1 rfl hl (by decide) rfl (fun ls hl => ?_)
  refine lv_iload_n hx hb dX10_inv_mcol_2 rfl (lv_at hl 0 rfl) ?_
  refine lv_iload_n hx hb dX10_inv_mcol_3 rfl (lv_at hl 0 rfl) ?_
  refine lv_bipush (v := nI 8) hx hb dX10_inv_mcol_4 (by decide) ?_
  refine xr_callS0 (n := 2) (rest := [.int x]) C w (met_X10_shift l G s.heap.size x (nI 8) ) q434 q435 q19 q436 (by decide +kernel) ⟨rfl, rfl, by decide, by decide⟩ (fun _ _ _ _ h => h) (fun U hU hW => trivial) rfl hl.1 rfl (Nat.le_of_ble_eq_true rfl) dX10_inv_mcol_6 ⟨by decide, by decide⟩ (fun v hp => ?_)
  subst hp
  refine lv_ixor hx hb dX10_inv_mcol_9 ?_
  refine lv_istore_n (lv' := [(2, .int (x ^^^ (shf x (nI 8)))), (1, .int x), (0, .int x)]) hx hb dX10_inv_mcol_10 rfl hl (by decide) rfl (fun ls hl => ?_)
  refine lv_iload_n hx hb dX10_inv_mcol_11 rfl (lv_at hl 1 rfl) ?_
  refine lv_iload_n hx hb dX10_inv_mcol_12 rfl (lv_at hl 0 rfl) ?_
  refine xr_callS0 (n := 1) (rest := [.int x]) C w (met_X10_FFmulX l G s.heap.size (x ^^^ (shf x (nI 8))) ) q450 q451 q19 q452 (by decide +kernel) ⟨rfl, rfl, by decide, by decide⟩ (fun _ _ _ _ h => h) (fun U hU hW => trivial) rfl hl.1 rfl (Nat.le_of_ble_eq_true rfl) dX10_inv_mcol_13 ⟨by decide, by decide⟩ (fun v hp => ?_)
  subst hp
  refine lv_ixor hx hb dX10_inv_mcol_16 ?_
  refine lv_istore_n (lv' := [(1, .int (x ^^^ (ffm (x ^^^ (shf x (nI 8)))))), (2, .int (x ^^^ (shf x (nI 8)))), (0, .int x)]) hx hb dX10_inv_mcol_17 rfl hl (by decide) rfl (fun ls hl => ?_)
  refine lv_iload_n hx hb dX10_inv_mcol_18 rfl (lv_at hl 1 rfl) ?_
  refine lv_iload_n hx hb dX10_inv_mcol_19 rfl (lv_at hl 0 rfl) ?_
  refine xr_callS0 (n := 1) (rest := [.int (x ^^^ (shf x (nI 8)))]) C w (met_X10_FFmulX2 l G s.heap.size (x ^^^ (ffm (x ^^^ (shf x (nI 8))))) ) q455 q456 q19 q457 (by decide +kernel) ⟨rfl, rfl, by decide, by decide⟩ (fun _ _ _ _ h => h) (fun U hU hW => trivial) rfl hl.1 rfl (Nat.le_of_ble_eq_true rfl) dX10_inv_mcol_20 ⟨by decide, by decide⟩ (fun v hp => ?_)
  subst hp
  refine lv_ixor hx hb dX10_inv_mcol_23 ?_
  refine lv_istore_n (lv' := [(2, .int ((x ^^^ (shf x (nI 8))) ^^^ (ff2 (x ^^^ (ffm (x ^^^ (shf x (nI 8)))))))), (1, .int (x ^^^ (ffm (x ^^^ (shf x (nI 8)))))), (0, .int x)]) hx hb dX10_inv_mcol_24 rfl hl (by decide) rfl (fun ls hl => ?_)
  refine lv_iload_n hx hb dX10_inv_mcol_25 rfl (lv_at hl 1 rfl) ?_
  refine lv_iload_n hx hb dX10_inv_mcol_26 rfl (lv_at hl 0 rfl) ?_
  refine lv_iload_n hx hb dX10_inv_mcol_27 rfl (lv_at hl 0 rfl) ?_
  refine lv_bipush (v := nI 16) hx hb dX10_inv_mcol_28 (by decide) ?_
  refine xr_callS0 (n := 2) (rest := [.int ((x ^^^ (shf x (nI 8))) ^^^ (ff2 (x ^^^ (ffm (x ^^^ (shf x (nI 8))))))), .int (x ^^^ (ffm (x ^^^ (shf x (nI 8)))))]) C w (met_X10_shift l G s.heap.size ((x ^^^ (shf x (nI 8))) ^^^ (ff2 (x ^^^ (ffm (x ^^^ (shf x (nI 8))))))) (nI 16) ) q434 q435 q19 q436 (by decide +kernel) ⟨rfl, rfl, by decide, by decide⟩ (fun _ _ _ _ h => h) (fun U hU hW => trivial) rfl hl.1 rfl (Nat.le_of_ble_eq_true rfl) dX10_inv_mcol_30 ⟨by decide, by decide⟩ (fun v hp => ?_)
  subst hp
  refine lv_ixor hx hb dX10_inv_mcol_33 ?_
  refine lv_ixor hx hb dX10_inv_mcol_34 ?_
  refine lv_istore_n (lv' := [(1, .int ((x ^^^ (ffm (x ^^^ (shf x (nI 8))))) ^^^ (((x ^^^ (shf x (nI 8))) ^^^ (ff2 (x ^^^ (ffm (x ^^^ (shf x (nI 8))))))) ^^^ (shf ((x ^^^ (shf x (nI 8))) ^^^ (ff2 (x ^^^ (ffm (x ^^^ (shf x (nI 8))))))) (nI 16))))), (2, .int ((x ^^^ (shf x (nI 8))) ^^^ (ff2 (x ^^^ (ffm (x ^^^ (shf x (nI 8)))))))), (0, .int x)]) hx hb dX10_inv_mcol_35 rfl hl (by decide) rfl (fun ls hl => ?_)
  refine lv_iload_n hx hb dX10_inv_mcol_36 rfl (lv_at hl 0 rfl) ?_
  exact xr_iret0 C hlk hr hQ (rfl) dX10_inv_mcol_37

set_option maxHeartbeats 4000000 in
set_option maxRecDepth 100000 in
theorem met_X14_littleEndianToInt (l : Launch) (G : GG) (sz : Nat) (h : Nat) (n : Nat) (b : Nat → BitVec 8) (o : Nat) (ho : o + 4 ≤ n) (hn : n < 2 ^ 31) : Met l yX14_littleEndianToInt (ws_ yX14_littleEndianToInt cX14_littleEndianToInt 3 (some .int)) ({ frames := 0, cells := 0, slots := 0, locals := 0 } : Room) (va_Pc [.ref h, .int (nI o)] (PP G [] sz (fun U : State => va_P G.1 vwCl [(h, xB G n b)] U.heap))) (CQ0 (fun v => v = some (.int (wI (b o) (b (o + 1)) (b (o + 2)) (b (o + 3)))))) 0 0 (fun _ => False) := by
  refine xr_met (own := RX14) (by decide) rfl (Nat.le_of_ble_eq_true rfl) ?_
  intro p e s m args below meth c ls Q A C hlk hr hnm hsz hAe w hRD hQ hl
  have hx := C.1
  have hb := C.2.1
  have w : Wd G A [] s s.heap s.heap [] := w
  have hl : lv_has ls 3 [(0, .ref h), (1, .int (nI o))] := hl
  have hRd := hRD
  have hR0 : va_P G.1 vwCl [(h, xB G n b)] s.heap := va_P.sub hRd [0] rfl
  refine lv_aload_n hx hb dX14_littleEndianToInt_0 rfl (lv_at hl 0 rfl) ?_
  refine lv_iload_n hx hb dX14_littleEndianToInt_1 rfl (lv_at hl 1 rfl) ?_
  refine xr_bald C (i := o) hR0 (by omega) (by omega) dX14_littleEndianToInt_2 ?_
  refine lv_sipush (v := nI 255) hx hb dX14_littleEndianToInt_3 (by decide) ?_
  refine lv_iand hx hb dX14_littleEndianToInt_6 ?_
  refine lv_eqi (y := (uB (b o))) (sB_and _) ?_
  refine lv_istore_n (lv' := [(2, .int (uB (b o))), (0, .ref h), (1, .int (nI o))]) hx hb dX14_littleEndianToInt_7 rfl hl (by decide) rfl (fun ls hl => ?_)
  refine lv_iload_n hx hb dX14_littleEndianToInt_8 rfl (lv_at hl 0 rfl) ?_
  refine lv_aload_n hx hb dX14_littleEndianToInt_9 rfl (lv_at hl 1 rfl) ?_
  refine lv_iinc (v := nI (o + 1)) (lv' := [(1, .int (nI (o + 1))), (2, .int (uB (b o))), (0, .ref h)]) hx hb dX14_littleEndianToInt_10 hl (k := 2) rfl (nI_add o 1) (by decide) rfl (fun ls hl => ?_)
  refine lv_iload_n hx hb dX14_littleEndianToInt_13 rfl (lv_at hl 0 rfl) ?_
  refine xr_bald C (i := o + 1) hR0 (by omega) (by omega) dX14_littleEndianToInt_14 ?_
  refine lv_sipush (v := nI 255) hx hb dX14_littleEndianToInt_15 (by decide) ?_
  refine lv_iand hx hb dX14_littleEndianToInt_18 ?_
  refine lv_eqi (y := (uB (b (o + 1)))) (sB_and _) ?_
  refine lv_bipush (v := nI 8) hx hb dX14_littleEndianToInt_19 (by decide) ?_
  refine lv_ishl hx hb dX14_littleEndianToInt_21 ?_
  refine lv_ior hx hb dX14_littleEndianToInt_22 ?_
  refine lv_istore_n (lv' := [(2, .int ((uB (b o)) ||| ((uB (b (o + 1))) <<< ((nI 8) &&& 31)))), (1, .int (nI (o + 1))), (0, .ref h)]) hx hb dX14_littleEndianToInt_23 rfl hl (by decide) rfl (fun ls hl => ?_)
  refine lv_iload_n hx hb dX14_littleEndianToInt_24 rfl (lv_at hl 0 rfl) ?_
  refine lv_aload_n hx hb dX14_littleEndianToInt_25 rfl (lv_at hl 2 rfl) ?_
  refine lv_iinc (v := nI (o + 1 + 1)) (lv' := [(1, .int (nI (o + 1 + 1))), (2, .int ((uB (b o)) ||| ((uB (b (o + 1))) <<< ((nI 8) &&& 31)))), (0, .ref h)]) hx hb dX14_littleEndianToInt_26 hl (k := 1) rfl (nI_add (o + 1) 1) (by decide) rfl (fun ls hl => ?_)
  refine lv_iload_n hx hb dX14_littleEndianToInt_29 rfl (lv_at hl 0 rfl) ?_
  refine xr_bald C (i := o + 1 + 1) hR0 (by omega) (by omega) dX14_littleEndianToInt_30 ?_
  refine lv_sipush (v := nI 255) hx hb dX14_littleEndianToInt_31 (by decide) ?_
  refine lv_iand hx hb dX14_littleEndianToInt_34 ?_
  refine lv_eqi (y := (uB (b (o + 2)))) (by rw [Nat.add_assoc]; exact sB_and _) ?_
  refine lv_bipush (v := nI 16) hx hb dX14_littleEndianToInt_35 (by decide) ?_
  refine lv_ishl hx hb dX14_littleEndianToInt_37 ?_
  refine lv_ior hx hb dX14_littleEndianToInt_38 ?_
  refine lv_istore_n (lv' := [(2, .int (((uB (b o)) ||| ((uB (b (o + 1))) <<< ((nI 8) &&& 31))) ||| ((uB (b (o + 2))) <<< ((nI 16) &&& 31)))), (1, .int (nI (o + 1 + 1))), (0, .ref h)]) hx hb dX14_littleEndianToInt_39 rfl hl (by decide) rfl (fun ls hl => ?_)
  refine lv_iload_n hx hb dX14_littleEndianToInt_40 rfl (lv_at hl 0 rfl) ?_
  refine lv_aload_n hx hb dX14_littleEndianToInt_41 rfl (lv_at hl 2 rfl) ?_
  refine lv_iinc (v := nI (o + 1 + 1 + 1)) (lv' := [(1, .int (nI (o + 1 + 1 + 1))), (2, .int (((uB (b o)) ||| ((uB (b (o + 1))) <<< ((nI 8) &&& 31))) ||| ((uB (b (o + 2))) <<< ((nI 16) &&& 31)))), (0, .ref h)]) hx hb dX14_littleEndianToInt_42 hl (k := 1) rfl (nI_add (o + 1 + 1) 1) (by decide) rfl (fun ls hl => ?_)
  refine lv_iload_n hx hb dX14_littleEndianToInt_45 rfl (lv_at hl 0 rfl) ?_
  refine xr_bald C (i := o + 1 + 1 + 1) hR0 (by omega) (by omega) dX14_littleEndianToInt_46 ?_
  refine lv_bipush (v := nI 24) hx hb dX14_littleEndianToInt_47 (by decide) ?_
  refine lv_ishl hx hb dX14_littleEndianToInt_49 ?_
  refine lv_ior hx hb dX14_littleEndianToInt_50 ?_
  refine lv_eqi (y := (wI (b o) (b (o + 1)) (b (o + 2)) (b (o + 3)))) (by rw [Nat.add_assoc, Nat.add_assoc]; exact mk_or _ _ _ _) ?_
  refine lv_istore_n (lv' := [(2, .int (wI (b o) (b (o + 1)) (b (o + 2)) (b (o + 3)))), (1, .int (nI (o + 1 + 1 + 1))), (0, .ref h)]) hx hb dX14_littleEndianToInt_51 rfl hl (by decide) rfl (fun ls hl => ?_)
  refine lv_iload_n hx hb dX14_littleEndianToInt_52 rfl (lv_at hl 0 rfl) ?_
  exact xr_iret0 C hlk hr hQ (rfl) dX14_littleEndianToInt_53

/-- four bytes laid into an array, the lowest first -/
def put4 (b : Nat → BitVec 8) (o : Nat) (w : Int32) : Nat → BitVec 8 := va_up (va_up (va_up (va_up b o (byI w 0)) (o + 1) (byI w 1)) (o + 2) (byI w 2)) (o + 3) (byI w 3)

set_option maxHeartbeats 4000000 in
set_option maxRecDepth 100000 in
theorem met_X14_intToLittleEndian (l : Launch) (G : GG) (sz : Nat) (x : Int32) (h : Nat) (n : Nat) (b : Nat → BitVec 8) (o : Nat) (ho : o + 4 ≤ n) (hn : n < 2 ^ 31) : Met l yX14_intToLittleEndian (ws_ yX14_intToLittleEndian cX14_intToLittleEndian 3 none) ({ frames := 0, cells := 0, slots := 0, locals := 0 } : Room) (va_Pc [.int x, .ref h, .int (nI o)] (PP G [(h, xB G n b)] sz (fun _ => True))) (CQ G [(h, xB G n b)] sz (fun u : Unit => [(h, xB G n (put4 b o x))]) (fun (u : Unit) (v : Option Value) (H : Heap) => v = none)) 0 0 (va_A [(h, xB G n b)] sz) := by
  refine xr_met (own := RX14) (by decide) rfl (Nat.le_of_ble_eq_true rfl) ?_
  intro p e s m args below meth c ls Q A C hlk hr hnm hsz hAe w hRD hQ hl
  have hx := C.1
  have hb := C.2.1
  have w : Wd G A [(h, xB G n b)] s s.heap s.heap [] := w
  have hl : lv_has ls 3 [(0, .int x), (1, .ref h), (2, .int (nI o))] := hl
  refine lv_aload_n hx hb dX14_intToLittleEndian_0 rfl (lv_at hl 1 rfl) ?_
  refine lv_iload_n hx hb dX14_intToLittleEndian_1 rfl (lv_at hl 2 rfl) ?_
  refine lv_iload_n hx hb dX14_intToLittleEndian_2 rfl (lv_at hl 0 rfl) ?_
  refine lv_i2b (v := (sB (lo8 x))) hx hb dX14_intToLittleEndian_3 (i2b_sB _) ?_
  refine xr_bast C w 0 (i := o) (byI x 0) (by rw [lo8_sB, byI_0]) rfl (by omega) (by omega) dX14_intToLittleEndian_4 (fun H locs w => ?_)
  have w : Wd G A [(h, xB G n (va_up b o (byI x 0)))] s s.heap H locs := w
  refine lv_aload_n hx hb dX14_intToLittleEndian_5 rfl (lv_at hl 1 rfl) ?_
  refine lv_iinc (v := nI (o + 1)) (lv' := [(2, .int (nI (o + 1))), (0, .int x), (1, .ref h)]) hx hb dX14_intToLittleEndian_6 hl (k := 2) rfl (nI_add o 1) (by decide) rfl (fun ls hl => ?_)
  refine lv_iload_n hx hb dX14_intToLittleEndian_9 rfl (lv_at hl 0 rfl) ?_
  refine lv_iload_n hx hb dX14_intToLittleEndian_10 rfl (lv_at hl 1 rfl) ?_
  refine lv_bipush (v := nI 8) hx hb dX14_intToLittleEndian_11 (by decide) ?_
  refine lv_iushr (v := ((x).toUInt32 >>> ((nI 8).toUInt32 &&& Int32.toUInt32 31)).toInt32) hx hb dX14_intToLittleEndian_13 rfl ?_
  refine lv_i2b (v := (sB (lo8 (((x).toUInt32 >>> ((nI 8).toUInt32 &&& Int32.toUInt32 31)).toInt32)))) hx hb dX14_intToLittleEndian_14 (i2b_sB _) ?_
  refine xr_bast C w 0 (i := o + 1) (byI x 1) (by rw [lo8_sB]; exact lo8_ushr x 1 (by omega)) rfl (by omega) (by omega) dX14_intToLittleEndian_15 (fun H locs w => ?_)
  have w : Wd G A [(h, xB G n (va_up (va_up b o (byI x 0)) (o + 1) (byI x 1)))] s s.heap H locs := w
  refine lv_aload_n hx hb dX14_intToLittleEndian_16 rfl (lv_at hl 2 rfl) ?_
  refine lv_iinc (v := nI (o + 1 + 1)) (lv' := [(2, .int (nI (o + 1 + 1))), (0, .int x), (1, .ref h)]) hx hb dX14_intToLittleEndian_17 hl (k := 0) rfl (nI_add (o + 1) 1) (by decide) rfl (fun ls hl => ?_)
  refine lv_iload_n hx hb dX14_intToLittleEndian_20 rfl (lv_at hl 0 rfl) ?_
  refine lv_iload_n hx hb dX14_intToLittleEndian_21 rfl (lv_at hl 1 rfl) ?_
  refine lv_bipush (v := nI 16) hx hb dX14_intToLittleEndian_22 (by decide) ?_
  refine lv_iushr (v := ((x).toUInt32 >>> ((nI 16).toUInt32 &&& Int32.toUInt32 31)).toInt32) hx hb dX14_intToLittleEndian_24 rfl ?_
  refine lv_i2b (v := (sB (lo8 (((x).toUInt32 >>> ((nI 16).toUInt32 &&& Int32.toUInt32 31)).toInt32)))) hx hb dX14_intToLittleEndian_25 (i2b_sB _) ?_
  refine xr_bast C w 0 (i := o + 1 + 1) (byI x 2) (by rw [lo8_sB]; exact lo8_ushr x 2 (by omega)) rfl (by omega) (by omega) dX14_intToLittleEndian_26 (fun H locs w => ?_)
  have w : Wd G A [(h, xB G n (va_up (va_up (va_up b o (byI x 0)) (o + 1) (byI x 1)) (o + 1 + 1) (byI x 2)))] s s.heap H locs := w
  refine lv_aload_n hx hb dX14_intToLittleEndian_27 rfl (lv_at hl 2 rfl) ?_
  refine lv_iinc (v := nI (o + 1 + 1 + 1)) (lv' := [(2, .int (nI (o + 1 + 1 + 1))), (0, .int x), (1, .ref h)]) hx hb dX14_intToLittleEndian_28 hl (k := 0) rfl (nI_add (o + 1 + 1) 1) (by decide) rfl (fun ls hl => ?_)
  refine lv_iload_n hx hb dX14_intToLittleEndian_31 rfl (lv_at hl 0 rfl) ?_
  refine lv_iload_n hx hb dX14_intToLittleEndian_32 rfl (lv_at hl 1 rfl) ?_
  refine lv_bipush (v := nI 24) hx hb dX14_intToLittleEndian_33 (by decide) ?_
  refine lv_iushr (v := ((x).toUInt32 >>> ((nI 24).toUInt32 &&& Int32.toUInt32 31)).toInt32) hx hb dX14_intToLittleEndian_35 rfl ?_
  refine lv_i2b (v := (sB (lo8 (((x).toUInt32 >>> ((nI 24).toUInt32 &&& Int32.toUInt32 31)).toInt32)))) hx hb dX14_intToLittleEndian_36 (i2b_sB _) ?_
  refine xr_bast C w 0 (i := o + 1 + 1 + 1) (byI x 3) (by rw [lo8_sB]; exact lo8_ushr x 3 (by omega)) rfl (by omega) (by omega) dX14_intToLittleEndian_37 (fun H locs w => ?_)
  have w : Wd G A [(h, xB G n (va_up (va_up (va_up (va_up b o (byI x 0)) (o + 1) (byI x 1)) (o + 1 + 1) (byI x 2)) (o + 1 + 1 + 1) (byI x 3)))] s s.heap H locs := w
  exact xr_vret C hlk hr w hAe hQ (by decide) (by decide) () rfl (rfl) dX14_intToLittleEndian_38

set_option maxHeartbeats 4000000 in
set_option maxRecDepth 100000 in
theorem met_J0_fill (l : Launch) (G : GG) (sz : Nat) (h : Nat) (n : Nat) (b : Nat → BitVec 8) (v : BitVec 8) (hn : n < 2 ^ 31) : Met l yJ0_fill (ws_ yJ0_fill cJ0_fill 4 none) ({ frames := 0, cells := 0, slots := 0, locals := 0 } : Room) (va_Pc [.ref h, .int (sB v)] (PP G [(h, xB G n b)] sz (fun _ => True))) (CQ G [(h, xB G n b)] sz (fun u : Unit => [(h, xB G n (fun _ => v))]) (fun (u : Unit) (v : Option Value) (H : Heap) => v = none)) 0 0 (va_A [(h, xB G n b)] sz) := by
  refine xr_met (own := RJ0) (by decide) rfl (Nat.le_of_ble_eq_true rfl) ?_
  intro p e s m args below meth c ls Q A C hlk hr hnm hsz hAe w hRD hQ hl
  have hx := C.1
  have hb := C.2.1
  have w : Wd G A [(h, xB G n b)] s s.heap s.heap [] := w
  have hl : lv_has ls 4 [(0, .ref h), (1, .int (sB v))] := hl
  refine lv_iconst (v := nI 0) hx hb dJ0_fill_0 (by decide) ?_
  refine lv_istore_n (lv' := [(2, .int (nI 0)), (0, .ref h), (1, .int (sB v))]) hx hb dJ0_fill_1 rfl hl (by decide) rfl (fun ls hl => ?_)
  refine lv_aload_n hx hb dJ0_fill_2 rfl (lv_at hl 1 rfl) ?_
  refine xr_alenP C (w.at 0 rfl) 0 rfl dJ0_fill_3 ?_
  refine lv_istore_n (lv' := [(3, .int (nI n)), (2, .int (nI 0)), (0, .ref h), (1, .int (sB v))]) hx hb dJ0_fill_4 rfl hl (by decide) rfl (fun ls hl => ?_)
  have loop_5 : ∀ (nn : Nat) (i : Nat) (f : Nat → BitVec 8), n - i < nn → (hi : i ≤ n) → (hf : ∀ j, j < i → f j = v) → ∀ (H : Heap) (locs : List Loc) (ls : Array Slot), Wd G A [(h, xB G n f)] s s.heap H locs → lv_has ls 4 [(0, .ref h), (1, .int (sB v)), (2, .int (nI i)), (3, .int (nI n))] → W p l e ({ frames := 0, cells := 0, slots := 0, locals := 0 } : Room) s m args below meth c H locs 0 0 Q (F0 m 5 ls []) := by
    intro nn
    induction nn with
    | zero => intro i f hmm; exact absurd hmm (Nat.not_lt_zero _)
    | succ nn ih_5 =>
      intro i f hmm hi hf H locs ls w hl
      refine lv_iload_n hx hb dJ0_fill_5 rfl (lv_at hl 2 rfl) ?_
      refine lv_iload_n hx hb dJ0_fill_6 rfl (lv_at hl 3 rfl) ?_
      refine xr_icmp_ge (a := i) (b := n) (tgt := 20) hx hb dJ0_fill_7 (by decide) (by omega) (by omega) (fun c_7 => ?_) (fun c_7 => ?_)
      · have w := w.bx 0 rfl (b' := fun _ => v) (fun j hj => hf j (by omega))
        exact xr_vret C hlk hr w hAe hQ (by decide) (by decide) () rfl (rfl) dJ0_fill_20
      · refine lv_aload_n hx hb dJ0_fill_10 rfl (lv_at hl 0 rfl) ?_
        refine lv_iload_n hx hb dJ0_fill_11 rfl (lv_at hl 2 rfl) ?_
        refine lv_iload_n hx hb dJ0_fill_12 rfl (lv_at hl 1 rfl) ?_
        refine xr_bast C w 0 (i := i) (v) (lo8_sB _) rfl (by omega) (by omega) dJ0_fill_13 (fun H locs w => ?_)
        have w : Wd G A [(h, xB G n (va_up f i v))] s s.heap H locs := w
        refine lv_iinc (v := nI (i + 1)) (lv' := [(2, .int (nI (i + 1))), (0, .ref h), (1, .int (sB v)), (3, .int (nI n))]) hx hb dJ0_fill_14 hl (k := 2) rfl (nI_add i 1) (by decide) rfl (fun ls hl => ?_)
        refine lv_goto (tgt := 5) hx hb dJ0_fill_17 (by decide) ?_
        exact ih_5 (i + 1) _ (by omega) (by omega) (by intro j hj; by_cases h : j = i <;> simp [va_up, h]; exact hf j (by omega)) _ _ _ w (lv_sub hl [1, 2, 0, 3] rfl)
  exact loop_5 ((n - 0) + 1) 0 _ (by omega) (Nat.zero_le _) (fun j hj => absurd hj (Nat.not_lt_zero _)) _ _ _ w (lv_sub hl [2, 3, 1, 0] rfl)

set_option maxHeartbeats 4000000 in
set_option maxRecDepth 100000 in
theorem met_X13_fill (l : Launch) (G : GG) (sz : Nat) (h : Nat) (n : Nat) (b : Nat → BitVec 8) (v : BitVec 8) (hn : n < 2 ^ 31) : Met l yX13_fill (ws_ yX13_fill cX13_fill 2 none) ({ frames := 1, cells := 0, slots := 0, locals := 30 } : Room) (va_Pc [.ref h, .int (sB v)] (PP G [(h, xB G n b)] sz (fun _ => True))) (CQ G [(h, xB G n b)] sz (fun u : Unit => [(h, xB G n (fun _ => v))]) (fun (u : Unit) (v : Option Value) (H : Heap) => v = none)) 0 0 (va_A [(h, xB G n b)] sz) := by
  refine xr_met (own := RX13) (by decide) rfl (Nat.le_of_ble_eq_true rfl) ?_
  intro p e s m args below meth c ls Q A C hlk hr hnm hsz hAe w hRD hQ hl
  have hx := C.1
  have hb := C.2.1
  have w : Wd G A [(h, xB G n b)] s s.heap s.heap [] := w
  have hl : lv_has ls 2 [(0, .ref h), (1, .int (sB v))] := hl
  refine lv_aload_n hx hb dX13_fill_0 rfl (lv_at hl 0 rfl) ?_
  refine lv_iload_n hx hb dX13_fill_1 rfl (lv_at hl 1 rfl) ?_
  refine xr_callS (n := 2) (rest := []) (wr := []) C w (met_J0_fill l G s.heap.size h n b v (hn)) q290 q291 q24 q292 (by decide +kernel) ⟨rfl, rfl, by decide, by decide⟩ (fun _ _ _ _ h => h) (fun U hU hW => trivial) [0] [] rfl rfl rfl rfl (by decide) rfl hl.1 rfl (Nat.le_of_ble_eq_true rfl) dX13_fill_2 ⟨by decide, by decide⟩ (fun u v H1 locs hp hz_2 hk_2 w => ?_)
  generalize H1 = H at hp w ⊢
  subst hp
  have w : Wd G A [(h, xB G n (fun _ => v))] s s.heap H locs := w
  exact xr_vret C hlk hr w hAe hQ (by decide) (by decide) () rfl (rfl) dX13_fill_5

set_option maxHeartbeats 4000000 in
set_option maxRecDepth 100000 in
theorem met_X8_init (l : Launch) (G : GG) (sz : Nat) (h : Nat)  : Met l yX8_init (ws_ yX8_init cX8_init 1 none) ({ frames := 1, cells := 0, slots := 0, locals := 12 } : Room) (va_Pc [.ref h] (PP G [] sz (fun _ => True))) (CQ0 (fun v => v = none)) 0 0 (fun _ => False) := by
  refine xr_met (own := RX8) (by decide) rfl (Nat.le_of_ble_eq_true rfl) ?_
  intro p e s m args below meth c ls Q A C hlk hr hnm hsz hAe w hRD hQ hl
  have hx := C.1
  have hb := C.2.1
  have w : Wd G A [] s s.heap s.heap [] := w
  have hl : lv_has ls 1 [(0, .ref h)] := hl
  refine lv_aload_n hx hb dX8_init_0 rfl (lv_at hl 0 rfl) ?_
  refine W.objInit hx hb C.2.2.2.1 (C.2.2.2.2.1 _ q138) (C.2.2.2.2.1 _ q43) (C.2.2.2.2.1 _ q44) rfl (by rw [C.2.2.1]; exact hl.1) rfl dX8_init_1 (by decide) (Nat.le_of_ble_eq_true rfl) ?_
  refine W.eq (g2 := F0 m 4 ls []) rfl ?_
  exact xr_vret0 C hlk hr hQ (rfl) dX8_init_4

set_option maxHeartbeats 4000000 in
set_option maxRecDepth 100000 in
theorem met_X5_init (l : Launch) (G : GG) (sz : Nat) (h : Nat)  : Met l yX5_init (ws_ yX5_init cX5_init 1 none) ({ frames := 1, cells := 0, slots := 0, locals := 12 } : Room) (va_Pc [.ref h] (PP G [] sz (fun _ => True))) (CQ0 (fun v => v = none)) 0 0 (fun _ => False) := by
  refine xr_met (own := RX5) (by decide) rfl (Nat.le_of_ble_eq_true rfl) ?_
  intro p e s m args below meth c ls Q A C hlk hr hnm hsz hAe w hRD hQ hl
  have hx := C.1
  have hb := C.2.1
  have w : Wd G A [] s s.heap s.heap [] := w
  have hl : lv_has ls 1 [(0, .ref h)] := hl
  refine lv_aload_n hx hb dX5_init_0 rfl (lv_at hl 0 rfl) ?_
  refine W.objInit hx hb C.2.2.2.1 (C.2.2.2.2.1 _ q200) (C.2.2.2.2.1 _ q43) (C.2.2.2.2.1 _ q44) rfl (by rw [C.2.2.1]; exact hl.1) rfl dX5_init_1 (by decide) (Nat.le_of_ble_eq_true rfl) ?_
  refine W.eq (g2 := F0 m 4 ls []) rfl ?_
  exact xr_vret0 C hlk hr hQ (rfl) dX5_init_4

set_option maxHeartbeats 4000000 in
set_option maxRecDepth 100000 in
theorem met_X6_init (l : Launch) (G : GG) (sz : Nat) (h : Nat)  : Met l yX6_init (ws_ yX6_init cX6_init 1 none) ({ frames := 2, cells := 0, slots := 0, locals := 40 } : Room) (va_Pc [.ref h] (PP G [] sz (fun _ => True))) (CQ0 (fun v => v = none)) 0 0 (fun _ => False) := by
  refine xr_met (own := RX6) (by decide) rfl (Nat.le_of_ble_eq_true rfl) ?_
  intro p e s m args below meth c ls Q A C hlk hr hnm hsz hAe w hRD hQ hl
  have hx := C.1
  have hb := C.2.1
  have w : Wd G A [] s s.heap s.heap [] := w
  have hl : lv_has ls 1 [(0, .ref h)] := hl
  refine lv_aload_n hx hb dX6_init_0 rfl (lv_at hl 0 rfl) ?_
  refine xr_callI0 (n := 0) (rest := []) C w (met_X5_init l G s.heap.size h ) q197 q198 q14 q199 rfl (by decide +kernel) ⟨rfl, rfl, by decide, by decide⟩ (fun _ _ _ _ h => h) (fun U hU hW => trivial) rfl hl.1 rfl (Nat.le_of_ble_eq_true rfl) dX6_init_1 ⟨by decide, by decide⟩ (fun v hp => ?_)
  subst hp
  exact xr_vret0 C hlk hr hQ (rfl) dX6_init_4

set_option maxHeartbeats 4000000 in
set_option maxRecDepth 100000 in
theorem met_X2_init (l : Launch) (G : GG) (sz : Nat) (h : Nat)  : Met l yX2_init (ws_ yX2_init cX2_init 1 none) ({ frames := 1, cells := 0, slots := 0, locals := 12 } : Room) (va_Pc [.ref h] (PP G [] sz (fun _ => True))) (CQ0 (fun v => v = none)) 0 0 (fun _ => False) := by
  refine xr_met (own := RX2) (by decide) rfl (Nat.le_of_ble_eq_true rfl) ?_
  intro p e s m args below meth c ls Q A C hlk hr hnm hsz hAe w hRD hQ hl
  have hx := C.1
  have hb := C.2.1
  have w : Wd G A [] s s.heap s.heap [] := w
  have hl : lv_has ls 1 [(0, .ref h)] := hl
  refine lv_aload_n hx hb dX2_init_0 rfl (lv_at hl 0 rfl) ?_
  refine W.objInit hx hb C.2.2.2.1 (C.2.2.2.2.1 _ q110) (C.2.2.2.2.1 _ q43) (C.2.2.2.2.1 _ q44) rfl (by rw [C.2.2.1]; exact hl.1) rfl dX2_init_1 (by decide) (Nat.le_of_ble_eq_true rfl) ?_
  refine W.eq (g2 := F0 m 4 ls []) rfl ?_
  exact xr_vret0 C hlk hr hQ (rfl) dX2_init_4

set_option maxHeartbeats 4000000 in
set_option maxRecDepth 100000 in
theorem met_X2_init_2 (l : Launch) (G : GG) (sz : Nat) (h : Nat)  : Met l yX2_init_2 (ws_ yX2_init_2 cX2_init_2 2 none) ({ frames := 0, cells := 0, slots := 0, locals := 0 } : Room) (va_Pc [.ref h, .null] (PP G [] sz (fun _ => True))) (CQ0 (fun v => v = none)) 0 0 (fun _ => False) := by
  refine xr_met (own := RX2) (by decide) rfl (Nat.le_of_ble_eq_true rfl) ?_
  intro p e s m args below meth c ls Q A C hlk hr hnm hsz hAe w hRD hQ hl
  have hx := C.1
  have hb := C.2.1
  have w : Wd G A [] s s.heap s.heap [] := w
  have hl : lv_has ls 2 [(0, .ref h), (1, .null)] := hl
  exact xr_vret0 C hlk hr hQ (rfl) dX2_init_2_0

set_option maxHeartbeats 4000000 in
set_option maxRecDepth 100000 in
theorem met_X3_init (l : Launch) (G : GG) (sz : Nat) (h : Nat)  : Met l yX3_init (ws_ yX3_init cX3_init 1 none) ({ frames := 1, cells := 0, slots := 0, locals := 12 } : Room) (va_Pc [.ref h] (PP G [] sz (fun _ => True))) (CQ0 (fun v => v = none)) 0 0 (fun _ => False) := by
  refine xr_met (own := RX3) (by decide) rfl (Nat.le_of_ble_eq_true rfl) ?_
  intro p e s m args below meth c ls Q A C hlk hr hnm hsz hAe w hRD hQ hl
  have hx := C.1
  have hb := C.2.1
  have w : Wd G A [] s s.heap s.heap [] := w
  have hl : lv_has ls 1 [(0, .ref h)] := hl
  refine lv_aload_n hx hb dX3_init_0 rfl (lv_at hl 0 rfl) ?_
  refine W.objInit hx hb C.2.2.2.1 (C.2.2.2.2.1 _ q117) (C.2.2.2.2.1 _ q43) (C.2.2.2.2.1 _ q44) rfl (by rw [C.2.2.1]; exact hl.1) rfl dX3_init_1 (by decide) (Nat.le_of_ble_eq_true rfl) ?_
  refine W.eq (g2 := F0 m 4 ls []) rfl ?_
  exact xr_vret0 C hlk hr hQ (rfl) dX3_init_4

set_option maxHeartbeats 4000000 in
set_option maxRecDepth 100000 in
theorem met_X3_init_2 (l : Launch) (G : GG) (sz : Nat) (h : Nat)  : Met l yX3_init_2 (ws_ yX3_init_2 cX3_init_2 2 none) ({ frames := 0, cells := 0, slots := 0, locals := 0 } : Room) (va_Pc [.ref h, .null] (PP G [] sz (fun _ => True))) (CQ0 (fun v => v = none)) 0 0 (fun _ => False) := by
  refine xr_met (own := RX3) (by decide) rfl (Nat.le_of_ble_eq_true rfl) ?_
  intro p e s m args below meth c ls Q A C hlk hr hnm hsz hAe w hRD hQ hl
  have hx := C.1
  have hb := C.2.1
  have w : Wd G A [] s s.heap s.heap [] := w
  have hl : lv_has ls 2 [(0, .ref h), (1, .null)] := hl
  exact xr_vret0 C hlk hr hQ (rfl) dX3_init_2_0

set_option maxHeartbeats 4000000 in
set_option maxRecDepth 100000 in
theorem met_X4_init (l : Launch) (G : GG) (sz : Nat) (h : Nat)  : Met l yX4_init (ws_ yX4_init cX4_init 1 none) ({ frames := 1, cells := 0, slots := 0, locals := 12 } : Room) (va_Pc [.ref h] (PP G [] sz (fun _ => True))) (CQ0 (fun v => v = none)) 0 0 (fun _ => False) := by
  refine xr_met (own := RX4) (by decide) rfl (Nat.le_of_ble_eq_true rfl) ?_
  intro p e s m args below meth c ls Q A C hlk hr hnm hsz hAe w hRD hQ hl
  have hx := C.1
  have hb := C.2.1
  have w : Wd G A [] s s.heap s.heap [] := w
  have hl : lv_has ls 1 [(0, .ref h)] := hl
  refine lv_aload_n hx hb dX4_init_0 rfl (lv_at hl 0 rfl) ?_
  refine W.objInit hx hb C.2.2.2.1 (C.2.2.2.2.1 _ q124) (C.2.2.2.2.1 _ q43) (C.2.2.2.2.1 _ q44) rfl (by rw [C.2.2.1]; exact hl.1) rfl dX4_init_1 (by decide) (Nat.le_of_ble_eq_true rfl) ?_
  refine W.eq (g2 := F0 m 4 ls []) rfl ?_
  exact xr_vret0 C hlk hr hQ (rfl) dX4_init_4

set_option maxHeartbeats 4000000 in
set_option maxRecDepth 100000 in
theorem met_X4_init_2 (l : Launch) (G : GG) (sz : Nat) (h : Nat)  : Met l yX4_init_2 (ws_ yX4_init_2 cX4_init_2 2 none) ({ frames := 0, cells := 0, slots := 0, locals := 0 } : Room) (va_Pc [.ref h, .null] (PP G [] sz (fun _ => True))) (CQ0 (fun v => v = none)) 0 0 (fun _ => False) := by
  refine xr_met (own := RX4) (by decide) rfl (Nat.le_of_ble_eq_true rfl) ?_
  intro p e s m args below meth c ls Q A C hlk hr hnm hsz hAe w hRD hQ hl
  have hx := C.1
  have hb := C.2.1
  have w : Wd G A [] s s.heap s.heap [] := w
  have hl : lv_has ls 2 [(0, .ref h), (1, .null)] := hl
  exact xr_vret0 C hlk hr hQ (rfl) dX4_init_2_0

set_option maxHeartbeats 4000000 in
set_option maxRecDepth 100000 in
theorem met_X10_getBlockSize (l : Launch) (G : GG) (sz : Nat) (h : Nat)  : Met l yX10_getBlockSize (ws_ yX10_getBlockSize cX10_getBlockSize 1 (some .int)) ({ frames := 0, cells := 0, slots := 0, locals := 0 } : Room) (va_Pc [.ref h] (PP G [] sz (fun _ => True))) (CQ0 (fun v => v = some (.int (nI 16)))) 0 0 (fun _ => False) := by
  refine xr_met (own := RX10) (by decide) rfl (Nat.le_of_ble_eq_true rfl) ?_
  intro p e s m args below meth c ls Q A C hlk hr hnm hsz hAe w hRD hQ hl
  have hx := C.1
  have hb := C.2.1
  have w : Wd G A [] s s.heap s.heap [] := w
  have hl : lv_has ls 1 [(0, .ref h)] := hl
  refine lv_bipush (v := nI 16) hx hb dX10_getBlockSize_0 (by decide) ?_
  exact xr_iret0 C hlk hr hQ (rfl) dX10_getBlockSize_2

set_option maxHeartbeats 4000000 in
set_option maxRecDepth 100000 in
theorem met_X10_reset (l : Launch) (G : GG) (sz : Nat) (h : Nat)  : Met l yX10_reset (ws_ yX10_reset cX10_reset 1 none) ({ frames := 0, cells := 0, slots := 0, locals := 0 } : Room) (va_Pc [.ref h] (PP G [] sz (fun _ => True))) (CQ0 (fun v => v = none)) 0 0 (fun _ => False) := by
  refine xr_met (own := RX10) (by decide) rfl (Nat.le_of_ble_eq_true rfl) ?_
  intro p e s m args below meth c ls Q A C hlk hr hnm hsz hAe w hRD hQ hl
  have hx := C.1
  have hb := C.2.1
  have w : Wd G A [] s s.heap s.heap [] := w
  have hl : lv_has ls 1 [(0, .ref h)] := hl
  exact xr_vret0 C hlk hr hQ (rfl) dX10_reset_0

set_option maxHeartbeats 4000000 in
set_option maxRecDepth 100000 in
theorem met_X10_init (l : Launch) (G : GG) (sz : Nat) (h : Nat) (r : Int32) (z : Int32)  : Met l yX10_init (ws_ yX10_init cX10_init 1 none) ({ frames := 2, cells := 0, slots := 0, locals := 40 } : Room) (va_Pc [.ref h] (PP G [(h, xO 6 [.int r, .null, .int z, .null])] sz (fun _ => True))) (CQ G [(h, xO 6 [.int r, .null, .int z, .null])] sz (fun u : Unit => [(h, xO 6 [.int r, .null, .int z, .null])]) (fun (u : Unit) (v : Option Value) (H : Heap) => v = none)) 0 0 (va_A [(h, xO 6 [.int r, .null, .int z, .null])] sz) := by
  refine xr_met (own := RX10) (by decide) rfl (Nat.le_of_ble_eq_true rfl) ?_
  intro p e s m args below meth c ls Q A C hlk hr hnm hsz hAe w hRD hQ hl
  have hx := C.1
  have hb := C.2.1
  have w : Wd G A [(h, xO 6 [.int r, .null, .int z, .null])] s s.heap s.heap [] := w
  have hl : lv_has ls 1 [(0, .ref h)] := hl
  refine lv_aload_n hx hb dX10_init_0 rfl (lv_at hl 0 rfl) ?_
  refine xr_callI0 (n := 0) (rest := []) C w (met_X8_init l G s.heap.size h ) q135 q136 q17 q137 rfl (by decide +kernel) ⟨rfl, rfl, by decide, by decide⟩ (fun _ _ _ _ h => h) (fun U hU hW => trivial) rfl hl.1 rfl (Nat.le_of_ble_eq_true rfl) dX10_init_1 ⟨by decide, by decide⟩ (fun v hp => ?_)
  subst hp
  refine lv_aload_n hx hb dX10_init_4 rfl (lv_at hl 0 rfl) ?_
  refine lv_null hx hb dX10_init_5 ?_
  refine xr_put (ci := 6) (v := .null) (ty := (.array (.array .int))) (Cn := RX10) (T := TX10) (N := 4) C w 0 rfl in_X10 tyX10 tyX10_ok nmX10 rfl 1 (by decide) q140 (fun _ h => h) rfl (by decide +kernel) (rfl) rfl (Nat.le_of_ble_eq_true rfl) dX10_init_6 (fun H locs w => ?_)
  have w : Wd G A [(h, xO 6 [.int r, .null, .int z, .null])] s s.heap H locs := w
  exact xr_vret C hlk hr w hAe hQ (by decide) (by decide) () rfl (rfl) dX10_init_9
