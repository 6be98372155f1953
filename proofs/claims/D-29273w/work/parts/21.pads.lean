/-! PADDINGS; printed by tools/pads.py -/
set_option maxHeartbeats 4000000 in
set_option maxRecDepth 100000 in
theorem met_X2_addPadding (l : Launch) (G : GG) (sz : Nat) (h : Nat) (ha : Nat) (io : Nat) (b : Nat → BitVec 8) (hio : io < 16) : Met l yX2_addPadding (ws_ yX2_addPadding cX2_addPadding 4 (some .int)) ({ frames := 0, cells := 0, slots := 0, locals := 0 } : Room) (va_Pc [.ref h, .ref ha, .int (nI io)] (PP G [(ha, xB G 16 b)] sz (fun _ => True))) (CQ G [(ha, xB G 16 b)] sz (fun u : Int32 => [(ha, xB G 16 (padB 0 io b))]) (fun (u : Int32) (v : Option Value) (H : Heap) => v = some (.int u))) 0 0 (va_A [(ha, xB G 16 b)] sz) := by
  refine xr_met (own := RX2) (by decide) rfl (Nat.le_of_ble_eq_true rfl) ?_
  intro p e s m args below meth c ls Q A C hlk hr hnm hsz hAe w hRD hQ hl
  have hx := C.1
  have hb := C.2.1
  have w : Wd G A [(ha, xB G 16 b)] s s.heap s.heap [] := w
  have hl : lv_has ls 4 [(0, .ref h), (1, .ref ha), (2, .int (nI io))] := hl
  refine lv_aload_n hx hb dX2_addPadding_0 rfl (lv_at hl 1 rfl) ?_
  refine xr_alenP C (w.at 0 rfl) 0 rfl dX2_addPadding_1 ?_
  refine lv_iload_n hx hb dX2_addPadding_2 rfl (lv_at hl 2 rfl) ?_
  refine lv_isub hx hb dX2_addPadding_3 ?_
  refine lv_eqi (pk_sub (a := 16) (b := io) (by omega)) ?_
  refine lv_i2b (v := (sB (lo8 (nI (16 - io))))) hx hb dX2_addPadding_4 (i2b_sB _) ?_
  refine lv_eqi (y := (sB (BitVec.ofNat 8 (16 - io)))) (by rw [lo8_nI]) ?_
  refine lv_istore_n (lv' := [(3, .int (sB (BitVec.ofNat 8 (16 - io)))), (0, .ref h), (1, .ref ha), (2, .int (nI io))]) hx hb dX2_addPadding_5 rfl hl (by decide) rfl (fun ls hl => ?_)
  have loop_6 : ∀ (nn : Nat) (i : Nat) (f : Nat → BitVec 8), 16 - i < nn → (hi : io ≤ i ∧ i ≤ 16) → (hf : PD 0 io b f i) → ∀ (H : Heap) (locs : List Loc) (ls : Array Slot), Wd G A [(ha, xB G 16 f)] s s.heap H locs → lv_has ls 4 [(0, .ref h), (1, .ref ha), (2, .int (nI i)), (3, .int (sB (BitVec.ofNat 8 (16 - io))))] → W p l e ({ frames := 0, cells := 0, slots := 0, locals := 0 } : Room) s m args below meth c H locs 0 0 Q (F0 m 6 ls []) := by
    intro nn
    induction nn with
    | zero => intro i f hmm; exact absurd hmm (Nat.not_lt_zero _)
    | succ nn ih_6 =>
      intro i f hmm hi hf H locs ls w hl
      refine lv_iload_n hx hb dX2_addPadding_6 rfl (lv_at hl 2 rfl) ?_
      refine lv_aload_n hx hb dX2_addPadding_7 rfl (lv_at hl 1 rfl) ?_
      refine xr_alenP C (w.at 0 rfl) 0 rfl dX2_addPadding_8 ?_
      refine xr_icmp_ge (a := i) (b := 16) (tgt := 22) hx hb dX2_addPadding_9 (by decide) (by omega) (by omega) (fun c_9 => ?_) (fun c_9 => ?_)
      · refine lv_iload_n hx hb dX2_addPadding_22 rfl (lv_at hl 3 rfl) ?_
        have w := w.bx 0 rfl (b' := padB 0 io b) (PD_end hf (by omega))
        exact xr_iret C hlk hr w hAe hQ (by decide) (by decide) (sB (BitVec.ofNat 8 (16 - io))) rfl (rfl) dX2_addPadding_23
      · refine lv_aload_n hx hb dX2_addPadding_12 rfl (lv_at hl 1 rfl) ?_
        refine lv_iload_n hx hb dX2_addPadding_13 rfl (lv_at hl 2 rfl) ?_
        refine lv_iload_n hx hb dX2_addPadding_14 rfl (lv_at hl 3 rfl) ?_
        refine xr_bast C w 0 (i := i) (BitVec.ofNat 8 (16 - io)) (lo8_sB _) rfl (by omega) (by omega) dX2_addPadding_15 (fun H locs w => ?_)
        have w : Wd G A [(ha, xB G 16 (va_up f i (BitVec.ofNat 8 (16 - io))))] s s.heap H locs := w
        refine lv_iinc (v := nI (i + 1)) (lv' := [(2, .int (nI (i + 1))), (0, .ref h), (1, .ref ha), (3, .int (sB (BitVec.ofNat 8 (16 - io))))]) hx hb dX2_addPadding_16 hl (k := 2) rfl (nI_add i 1) (by decide) rfl (fun ls hl => ?_)
        refine lv_goto (tgt := 6) hx hb dX2_addPadding_19 (by decide) ?_
        exact ih_6 (i + 1) _ (by omega) (by omega) (PD_put hf (padB_0 (by omega))) _ _ _ w (lv_sub hl [1, 2, 0, 3] rfl)
  exact loop_6 ((16 - io) + 1) io _ (by omega) (by omega) (PD_0) _ _ _ w (lv_sub hl [1, 2, 3, 0] rfl)

set_option maxHeartbeats 4000000 in
set_option maxRecDepth 100000 in
theorem met_X3_addPadding (l : Launch) (G : GG) (sz : Nat) (h : Nat) (ha : Nat) (io : Nat) (b : Nat → BitVec 8) (hio : io < 16) : Met l yX3_addPadding (ws_ yX3_addPadding cX3_addPadding 4 (some .int)) ({ frames := 0, cells := 0, slots := 0, locals := 0 } : Room) (va_Pc [.ref h, .ref ha, .int (nI io)] (PP G [(ha, xB G 16 b)] sz (fun _ => True))) (CQ G [(ha, xB G 16 b)] sz (fun u : Int32 => [(ha, xB G 16 (padB 1 io b))]) (fun (u : Int32) (v : Option Value) (H : Heap) => v = some (.int u))) 0 0 (va_A [(ha, xB G 16 b)] sz) := by
  refine xr_met (own := RX3) (by decide) rfl (Nat.le_of_ble_eq_true rfl) ?_
  intro p e s m args below meth c ls Q A C hlk hr hnm hsz hAe w hRD hQ hl
  have hx := C.1
  have hb := C.2.1
  have w : Wd G A [(ha, xB G 16 b)] s s.heap s.heap [] := w
  have hl : lv_has ls 4 [(0, .ref h), (1, .ref ha), (2, .int (nI io))] := hl
  refine lv_aload_n hx hb dX3_addPadding_0 rfl (lv_at hl 1 rfl) ?_
  refine xr_alenP C (w.at 0 rfl) 0 rfl dX3_addPadding_1 ?_
  refine lv_iload_n hx hb dX3_addPadding_2 rfl (lv_at hl 2 rfl) ?_
  refine lv_isub hx hb dX3_addPadding_3 ?_
  refine lv_eqi (pk_sub (a := 16) (b := io) (by omega)) ?_
  refine lv_istore_n (lv' := [(3, .int (nI (16 - io))), (0, .ref h), (1, .ref ha), (2, .int (nI io))]) hx hb dX3_addPadding_4 rfl hl (by decide) rfl (fun ls hl => ?_)
  refine lv_aload_n hx hb dX3_addPadding_5 rfl (lv_at hl 2 rfl) ?_
  refine lv_iload_n hx hb dX3_addPadding_6 rfl (lv_at hl 3 rfl) ?_
  refine lv_bipush (v := (-128)) hx hb dX3_addPadding_7 (by decide) ?_
  refine xr_bast C w 0 (i := io) (128) (by decide +kernel) rfl (by omega) (by omega) dX3_addPadding_9 (fun H locs w => ?_)
  have w : Wd G A [(ha, xB G 16 (va_up b io 128))] s s.heap H locs := w
  refine lv_iinc (v := nI (io + 1)) (lv' := [(2, .int (nI (io + 1))), (3, .int (nI (16 - io))), (0, .ref h), (1, .ref ha)]) hx hb dX3_addPadding_10 hl (k := 3) rfl (nI_add io 1) (by decide) rfl (fun ls hl => ?_)
  have loop_13 : ∀ (nn : Nat) (i : Nat) (f : Nat → BitVec 8), 16 - i < nn → (hi : io + 1 ≤ i ∧ i ≤ 16) → (hf : PD 1 io b f i) → ∀ (H : Heap) (locs : List Loc) (ls : Array Slot), Wd G A [(ha, xB G 16 f)] s s.heap H locs → lv_has ls 4 [(0, .ref h), (1, .ref ha), (2, .int (nI i)), (3, .int (nI (16 - io)))] → W p l e ({ frames := 0, cells := 0, slots := 0, locals := 0 } : Room) s m args below meth c H locs 0 0 Q (F0 m 13 ls []) := by
    intro nn
    induction nn with
    | zero => intro i f hmm; exact absurd hmm (Nat.not_lt_zero _)
    | succ nn ih_13 =>
      intro i f hmm hi hf H locs ls w hl
      refine lv_iload_n hx hb dX3_addPadding_13 rfl (lv_at hl 2 rfl) ?_
      refine lv_aload_n hx hb dX3_addPadding_14 rfl (lv_at hl 1 rfl) ?_
      refine xr_alenP C (w.at 0 rfl) 0 rfl dX3_addPadding_15 ?_
      refine xr_icmp_ge (a := i) (b := 16) (tgt := 29) hx hb dX3_addPadding_16 (by decide) (by omega) (by omega) (fun c_16 => ?_) (fun c_16 => ?_)
      · refine lv_iload_n hx hb dX3_addPadding_29 rfl (lv_at hl 3 rfl) ?_
        have w := w.bx 0 rfl (b' := padB 1 io b) (PD_end hf (by omega))
        exact xr_iret C hlk hr w hAe hQ (by decide) (by decide) (nI (16 - io)) rfl (rfl) dX3_addPadding_30
      · refine lv_aload_n hx hb dX3_addPadding_19 rfl (lv_at hl 1 rfl) ?_
        refine lv_iload_n hx hb dX3_addPadding_20 rfl (lv_at hl 2 rfl) ?_
        refine lv_iconst (v := nI 0) hx hb dX3_addPadding_21 (by decide) ?_
        refine xr_bast C w 0 (i := i) (0) (by decide +kernel) rfl (by omega) (by omega) dX3_addPadding_22 (fun H locs w => ?_)
        have w : Wd G A [(ha, xB G 16 (va_up f i 0))] s s.heap H locs := w
        refine lv_iinc (v := nI (i + 1)) (lv' := [(2, .int (nI (i + 1))), (0, .ref h), (1, .ref ha), (3, .int (nI (16 - io)))]) hx hb dX3_addPadding_23 hl (k := 2) rfl (nI_add i 1) (by decide) rfl (fun ls hl => ?_)
        refine lv_goto (tgt := 13) hx hb dX3_addPadding_26 (by decide) ?_
        exact ih_13 (i + 1) _ (by omega) (by omega) (PD_put hf (padB_1 (by omega))) _ _ _ w (lv_sub hl [1, 2, 0, 3] rfl)
  exact loop_13 ((16 - (io + 1)) + 1) (io + 1) _ (by omega) (by omega) (PD_put PD_0 padB_1a) _ _ _ w (lv_sub hl [2, 3, 0, 1] rfl)

set_option maxHeartbeats 4000000 in
set_option maxRecDepth 100000 in
theorem met_X4_addPadding (l : Launch) (G : GG) (sz : Nat) (h : Nat) (ha : Nat) (io : Nat) (b : Nat → BitVec 8) (hio : io < 16) : Met l yX4_addPadding (ws_ yX4_addPadding cX4_addPadding 4 (some .int)) ({ frames := 0, cells := 0, slots := 0, locals := 0 } : Room) (va_Pc [.ref h, .ref ha, .int (nI io)] (PP G [(ha, xB G 16 b)] sz (fun _ => True))) (CQ G [(ha, xB G 16 b)] sz (fun u : Int32 => [(ha, xB G 16 (padB 2 io b))]) (fun (u : Int32) (v : Option Value) (H : Heap) => v = some (.int u))) 0 0 (va_A [(ha, xB G 16 b)] sz) := by
  refine xr_met (own := RX4) (by decide) rfl (Nat.le_of_ble_eq_true rfl) ?_
  intro p e s m args below meth c ls Q A C hlk hr hnm hsz hAe w hRD hQ hl
  have hx := C.1
  have hb := C.2.1
  have w : Wd G A [(ha, xB G 16 b)] s s.heap s.heap [] := w
  have hl : lv_has ls 4 [(0, .ref h), (1, .ref ha), (2, .int (nI io))] := hl
  refine lv_aload_n hx hb dX4_addPadding_0 rfl (lv_at hl 1 rfl) ?_
  refine xr_alenP C (w.at 0 rfl) 0 rfl dX4_addPadding_1 ?_
  refine lv_iload_n hx hb dX4_addPadding_2 rfl (lv_at hl 2 rfl) ?_
  refine lv_isub hx hb dX4_addPadding_3 ?_
  refine lv_eqi (pk_sub (a := 16) (b := io) (by omega)) ?_
  refine lv_istore_n (lv' := [(3, .int (nI (16 - io))), (0, .ref h), (1, .ref ha), (2, .int (nI io))]) hx hb dX4_addPadding_4 rfl hl (by decide) rfl (fun ls hl => ?_)
  have loop_5 : ∀ (nn : Nat) (i : Nat) (f : Nat → BitVec 8), 16 - i < nn → (hi : io ≤ i ∧ i ≤ 16) → (hf : PD 2 io b f i) → ∀ (H : Heap) (locs : List Loc) (ls : Array Slot), Wd G A [(ha, xB G 16 f)] s s.heap H locs → lv_has ls 4 [(0, .ref h), (1, .ref ha), (2, .int (nI i)), (3, .int (nI (16 - io)))] → W p l e ({ frames := 0, cells := 0, slots := 0, locals := 0 } : Room) s m args below meth c H locs 0 0 Q (F0 m 5 ls []) := by
    intro nn
    induction nn with
    | zero => intro i f hmm; exact absurd hmm (Nat.not_lt_zero _)
    | succ nn ih_5 =>
      intro i f hmm hi hf H locs ls w hl
      refine lv_iload_n hx hb dX4_addPadding_5 rfl (lv_at hl 2 rfl) ?_
      refine lv_aload_n hx hb dX4_addPadding_6 rfl (lv_at hl 1 rfl) ?_
      refine xr_alenP C (w.at 0 rfl) 0 rfl dX4_addPadding_7 ?_
      refine xr_icmp_ge (a := i) (b := 16) (tgt := 21) hx hb dX4_addPadding_8 (by decide) (by omega) (by omega) (fun c_8 => ?_) (fun c_8 => ?_)
      · refine lv_iload_n hx hb dX4_addPadding_21 rfl (lv_at hl 3 rfl) ?_
        have w := w.bx 0 rfl (b' := padB 2 io b) (PD_end hf (by omega))
        exact xr_iret C hlk hr w hAe hQ (by decide) (by decide) (nI (16 - io)) rfl (rfl) dX4_addPadding_22
      · refine lv_aload_n hx hb dX4_addPadding_11 rfl (lv_at hl 1 rfl) ?_
        refine lv_iload_n hx hb dX4_addPadding_12 rfl (lv_at hl 2 rfl) ?_
        refine lv_iconst (v := nI 0) hx hb dX4_addPadding_13 (by decide) ?_
        refine xr_bast C w 0 (i := i) (0) (by decide +kernel) rfl (by omega) (by omega) dX4_addPadding_14 (fun H locs w => ?_)
        have w : Wd G A [(ha, xB G 16 (va_up f i 0))] s s.heap H locs := w
        refine lv_iinc (v := nI (i + 1)) (lv' := [(2, .int (nI (i + 1))), (0, .ref h), (1, .ref ha), (3, .int (nI (16 - io)))]) hx hb dX4_addPadding_15 hl (k := 2) rfl (nI_add i 1) (by decide) rfl (fun ls hl => ?_)
        refine lv_goto (tgt := 5) hx hb dX4_addPadding_18 (by decide) ?_
        exact ih_5 (i + 1) _ (by omega) (by omega) (PD_put hf (padB_2 (by omega))) _ _ _ w (lv_sub hl [1, 2, 0, 3] rfl)
  exact loop_5 ((16 - io) + 1) io _ (by omega) (by omega) (PD_0) _ _ _ w (lv_sub hl [1, 2, 3, 0] rfl)

set_option maxHeartbeats 4000000 in
set_option maxRecDepth 100000 in
theorem met_X4_padCount (l : Launch) (G : GG) (sz : Nat) (h : Nat) (ha : Nat) (b : Nat → BitVec 8)  : Met l yX4_padCount (ws_ yX4_padCount cX4_padCount 7 (some .int)) ({ frames := 0, cells := 0, slots := 0, locals := 0 } : Room) (va_Pc [.ref h, .ref ha] (PP G [] sz (fun U : State => va_P G.1 vwCl [(ha, xB G 16 b)] U.heap))) (CQ0 (fun v => v = some (.int (nI (tz b 16))))) 0 0 (fun _ => False) := by
  refine xr_met (own := RX4) (by decide) rfl (Nat.le_of_ble_eq_true rfl) ?_
  intro p e s m args below meth c ls Q A C hlk hr hnm hsz hAe w hRD hQ hl
  have hx := C.1
  have hb := C.2.1
  have w : Wd G A [] s s.heap s.heap [] := w
  have hl : lv_has ls 7 [(0, .ref h), (1, .ref ha)] := hl
  have hRd := hRD
  have hR0 : va_P G.1 vwCl [(ha, xB G 16 b)] s.heap := va_P.sub hRd [0] rfl
  refine lv_iconst (v := nI 0) hx hb dX4_padCount_0 (by decide) ?_
  refine lv_eqi (y := nI (min (16 - 16) (tz b 16))) (by rw [Nat.sub_self, Nat.zero_min]) ?_
  refine lv_istore_n (lv' := [(2, .int (nI (min (16 - 16) (tz b 16)))), (0, .ref h), (1, .ref ha)]) hx hb dX4_padCount_1 rfl hl (by decide) rfl (fun ls hl => ?_)
  refine lv_iconst (v := (-1)) hx hb dX4_padCount_2 (by decide) ?_
  refine lv_eqi (y := (if 16 - 16 ≤ tz b 16 then (-1 : Int32) else 0)) (by rw [if_pos (by omega)]) ?_
  refine lv_istore_n (lv' := [(3, .int (if 16 - 16 ≤ tz b 16 then (-1 : Int32) else 0)), (2, .int (nI (min (16 - 16) (tz b 16)))), (0, .ref h), (1, .ref ha)]) hx hb dX4_padCount_3 rfl hl (by decide) rfl (fun ls hl => ?_)
  refine lv_aload_n hx hb dX4_padCount_4 rfl (lv_at hl 3 rfl) ?_
  refine xr_alenP C hR0 0 rfl dX4_padCount_5 ?_
  refine lv_istore (lv' := [(4, .int (nI 16)), (3, .int (if 16 - 16 ≤ tz b 16 then (-1 : Int32) else 0)), (2, .int (nI (min (16 - 16) (tz b 16)))), (0, .ref h), (1, .ref ha)]) hx hb dX4_padCount_6 hl (by decide) rfl (fun ls hl => ?_)
  have loop_8 : ∀ (nn : Nat) (i : Nat), i < nn → (hi : i ≤ 16) → ∀ (ls : Array Slot), lv_has ls 7 [(0, .ref h), (1, .ref ha), (2, .int (nI (min (16 - i) (tz b 16)))), (3, .int (if 16 - i ≤ tz b 16 then (-1 : Int32) else 0)), (4, .int (nI i))] → W p l e ({ frames := 0, cells := 0, slots := 0, locals := 0 } : Room) s m args below meth c s.heap [] 0 0 Q (F0 m 8 ls []) := by
    intro nn
    induction nn with
    | zero => intro i hmm; exact absurd hmm (Nat.not_lt_zero _)
    | succ nn ih_8 =>
      intro i hmm hi ls hl
      refine lv_iinc (v := (nI i + (-1))) (lv' := [(4, .int (nI i + (-1))), (0, .ref h), (1, .ref ha), (2, .int (nI (min (16 - i) (tz b 16)))), (3, .int (if 16 - i ≤ tz b 16 then (-1 : Int32) else 0))]) hx hb dX4_padCount_8 hl (k := 4) rfl (rfl) (by decide) rfl (fun ls hl => ?_)
      refine lv_iload hx hb dX4_padCount_11 (lv_at hl 0 rfl) ?_
      refine lv_if_lt (tgt := 49) hx hb dX4_padCount_13 (by decide) (fun c_13 => ?_) (fun c_13 => ?_)
      · have hi0 : i = 0 := (m1_lt hi).mp c_13
        subst hi0
        refine lv_iload_n hx hb dX4_padCount_49 rfl (lv_at hl 3 rfl) ?_
        refine lv_eqi (y := nI (tz b 16)) (by rw [Nat.min_eq_right (tz_le b 16)]) ?_
        exact xr_iret0 C hlk hr hQ (rfl) dX4_padCount_50
      · have hi0 : 0 < i := by rcases Nat.eq_zero_or_pos i with h | h; exact absurd ((m1_lt hi).mpr h) c_13; exact h
        rw [show (nI i + (-1)) = nI (i - 1) from sb_m1 hi0] at hl
        refine lv_aload_n hx hb dX4_padCount_16 rfl (lv_at hl 2 rfl) ?_
        refine lv_iload hx hb dX4_padCount_17 (lv_at hl 0 rfl) ?_
        refine xr_bald C (i := i - 1) hR0 (by omega) (by omega) dX4_padCount_19 ?_
        refine lv_sipush (v := nI 255) hx hb dX4_padCount_20 (by decide) ?_
        refine lv_iand hx hb dX4_padCount_23 ?_
        refine lv_eqi (y := uB (b (i - 1))) (sB_and _) ?_
        refine lv_istore (lv' := [(5, .int (uB (b (i - 1)))), (4, .int (nI (i - 1))), (0, .ref h), (1, .ref ha), (2, .int (nI (min (16 - i) (tz b 16)))), (3, .int (if 16 - i ≤ tz b 16 then (-1 : Int32) else 0))]) hx hb dX4_padCount_24 hl (by decide) rfl (fun ls hl => ?_)
        refine lv_iload hx hb dX4_padCount_26 (lv_at hl 0 rfl) ?_
        refine lv_iconst (v := nI 0) hx hb dX4_padCount_28 (by decide) ?_
        refine lv_ixor hx hb dX4_padCount_29 ?_
        refine lv_iconst (v := nI 1) hx hb dX4_padCount_30 (by decide) ?_
        refine lv_isub hx hb dX4_padCount_31 ?_
        refine lv_bipush (v := nI 31) hx hb dX4_padCount_32 (by decide) ?_
        refine lv_ishr hx hb dX4_padCount_34 ?_
        refine lv_eqi (y := (if b (i - 1) = 0 then (-1 : Int32) else 0)) (mk0 _) ?_
        refine lv_istore (lv' := [(6, .int (if b (i - 1) = 0 then (-1 : Int32) else 0)), (5, .int (uB (b (i - 1)))), (4, .int (nI (i - 1))), (0, .ref h), (1, .ref ha), (2, .int (nI (min (16 - i) (tz b 16)))), (3, .int (if 16 - i ≤ tz b 16 then (-1 : Int32) else 0))]) hx hb dX4_padCount_35 hl (by decide) rfl (fun ls hl => ?_)
        refine lv_iload_n hx hb dX4_padCount_37 rfl (lv_at hl 6 rfl) ?_
        refine lv_iload hx hb dX4_padCount_38 (lv_at hl 0 rfl) ?_
        refine lv_iand hx hb dX4_padCount_40 ?_
        refine lv_eqi (y := (if 16 - (i - 1) ≤ tz b 16 then (-1 : Int32) else 0)) (zc_still hi0 hi) ?_
        refine lv_istore_n (lv' := [(3, .int (if 16 - (i - 1) ≤ tz b 16 then (-1 : Int32) else 0)), (6, .int (if b (i - 1) = 0 then (-1 : Int32) else 0)), (5, .int (uB (b (i - 1)))), (4, .int (nI (i - 1))), (0, .ref h), (1, .ref ha), (2, .int (nI (min (16 - i) (tz b 16))))]) hx hb dX4_padCount_41 rfl hl (by decide) rfl (fun ls hl => ?_)
        refine lv_iload_n hx hb dX4_padCount_42 rfl (lv_at hl 6 rfl) ?_
        refine lv_iload_n hx hb dX4_padCount_43 rfl (lv_at hl 0 rfl) ?_
        refine lv_isub hx hb dX4_padCount_44 ?_
        refine lv_eqi (y := nI (min (16 - (i - 1)) (tz b 16))) (zc_cnt hi0 hi) ?_
        refine lv_istore_n (lv' := [(2, .int (nI (min (16 - (i - 1)) (tz b 16)))), (3, .int (if 16 - (i - 1) ≤ tz b 16 then (-1 : Int32) else 0)), (6, .int (if b (i - 1) = 0 then (-1 : Int32) else 0)), (5, .int (uB (b (i - 1)))), (4, .int (nI (i - 1))), (0, .ref h), (1, .ref ha)]) hx hb dX4_padCount_45 rfl hl (by decide) rfl (fun ls hl => ?_)
        refine lv_goto (tgt := 8) hx hb dX4_padCount_46 (by decide) ?_
        exact ih_8 (i - 1) (by omega) (by omega) _ (lv_sub hl [5, 6, 0, 1, 4] rfl)
  exact loop_8 (16 + 1) 16 (by omega) (by decide) _ (lv_sub hl [3, 4, 2, 1, 0] rfl)
