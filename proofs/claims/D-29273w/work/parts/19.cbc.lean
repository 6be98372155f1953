/-! ParametersWithIV, CBCBlockCipher; printed by tools/cbc.py -/
set_option maxHeartbeats 4000000 in
set_option maxRecDepth 100000 in
theorem met_X11_init_2 (l : Launch) (G : GG) (sz : Nat) (h : Nat) (hk : Nat) (hv : Nat) (n : Nat) (b : Nat → BitVec 8) (hn : n ≤ 32) (ap0_0 : h ≠ hv) : Met l yX11_init_2 (ws_ yX11_init_2 cX11_init_2 5 none) ({ frames := 2, cells := 1, slots := 32, locals := 60 } : Room) (va_Pc [.ref h, .ref hk, .ref hv, .int (nI 0), .int (nI n)] (PP G [(h, xO 7 [.null, .null])] sz (fun U : State => va_P G.1 vwCl [(hv, xB G n b)] U.heap))) (CQ G [(h, xO 7 [.null, .null])] sz (fun u : Nat => [(h, xO 7 [.ref u, .ref hk]), (u, xB G n b)]) (fun (u : Nat) (v : Option Value) (H : Heap) => v = none)) 1 32 (va_A [(h, xO 7 [.null, .null])] sz) := by
  refine xr_met (own := RX11) (by decide) rfl (Nat.le_of_ble_eq_true rfl) ?_
  intro p e s m args below meth c ls Q A C hlk hr hnm hsz hAe w hRD hQ hl
  have hx := C.1
  have hb := C.2.1
  have w : Wd G A [(h, xO 7 [.null, .null])] s s.heap s.heap [] := w
  have hl : lv_has ls 5 [(0, .ref h), (1, .ref hk), (2, .ref hv), (3, .int (nI 0)), (4, .int (nI n))] := hl
  have hRd := hRD
  have hR0 : va_P G.1 vwCl [(hv, xB G n b)] s.heap := va_P.sub hRd [0] rfl
  have hN0 : ¬ A hv := by rw [hAe]; exact xn_L (by rw [← hsz]; exact (hR0 0 _ rfl).lt) (List.forall_mem_cons.mpr ⟨ap0_0, (fun _ h => absurd h List.not_mem_nil)⟩)
  refine lv_aload_n hx hb dX11_init_2_0 rfl (lv_at hl 0 rfl) ?_
  refine W.objInit hx hb C.2.2.2.1 (C.2.2.2.2.1 _ q253) (C.2.2.2.2.1 _ q43) (C.2.2.2.2.1 _ q44) rfl (by rw [C.2.2.1]; exact hl.1) rfl dX11_init_2_1 (by decide) (Nat.le_of_ble_eq_true rfl) ?_
  refine W.eq (g2 := F0 m 4 ls []) rfl ?_
  refine lv_aload_n hx hb dX11_init_2_4 rfl (lv_at hl 0 rfl) ?_
  refine lv_iload hx hb dX11_init_2_5 (lv_at hl 4 rfl) ?_
  refine xr_newB C w (n := n) (by omega) (by decide) (show 0 + n ≤ 32 by omega) dX11_init_2_7 (fun qn H hq_qn w => ?_)
  have w : Wd G A [(h, xO 7 [.null, .null]), (qn, xB G n (fun _ => 0))] s s.heap H [] := w
  refine xr_put (ci := 7) (v := .ref qn) (ty := (.array .byte)) (Cn := RX11) (T := TX11) (N := 2) C w 0 rfl in_X11 tyX11 tyX11_ok nmX11 rfl 0 (by decide) q255 (fun _ h => h) rfl (by decide +kernel) (rfl) (rfl) (Nat.le_of_ble_eq_true rfl) dX11_init_2_9 (fun H locs w => ?_)
  have w : Wd G A [(h, xO 7 [.ref qn, .null]), (qn, xB G n (fun _ => 0))] s s.heap H locs := w
  refine lv_aload_n hx hb dX11_init_2_12 rfl (lv_at hl 0 rfl) ?_
  refine lv_aload_n hx hb dX11_init_2_13 rfl (lv_at hl 1 rfl) ?_
  refine xr_put (ci := 7) (v := .ref hk) (ty := (.object "CipherParameters")) (Cn := RX11) (T := TX11) (N := 2) C w 0 rfl in_X11 tyX11 tyX11_ok nmX11 rfl 1 (by decide) q256 (fun _ h => h) rfl (by decide +kernel) (rfl) (rfl) (Nat.le_of_ble_eq_true rfl) dX11_init_2_14 (fun H locs w => ?_)
  have w : Wd G A [(h, xO 7 [.ref qn, .ref hk]), (qn, xB G n (fun _ => 0))] s s.heap H locs := w
  refine lv_aload_n hx hb dX11_init_2_17 rfl (lv_at hl 2 rfl) ?_
  refine lv_iload_n hx hb dX11_init_2_18 rfl (lv_at hl 3 rfl) ?_
  refine lv_aload_n hx hb dX11_init_2_19 rfl (lv_at hl 0 rfl) ?_
  refine xr_get (ci := 7) (v := .ref qn) (Cn := RX11) (T := TX11) (N := 2) C (w.at 0 rfl) in_X11 rfl 0 (by decide) q255 (fun _ h => h) rfl dX11_init_2_20 ?_
  refine lv_iconst (v := nI 0) hx hb dX11_init_2_23 (by decide) ?_
  refine lv_iload hx hb dX11_init_2_24 (lv_at hl 4 rfl) ?_
  refine xr_copy C w q254 1 (sp := 0) (dp := 0) (n := n) (xp_keep hR0 (xn_1 hN0) w.2.2.1) rfl (by omega) (by omega) (by omega) (by omega) hl.1 (by decide) (Nat.le_of_ble_eq_true rfl) dX11_init_2_26 (fun H locs w => ?_)
  have w : Wd G A [(h, xO 7 [.ref qn, .ref hk]), (qn, xB G n (va_cpy b (fun _ => 0) 0 0 n))] s s.heap H locs := w
  have w := w.bx 1 rfl (b' := b) (fun j hj => by unfold va_cpy; rw [if_pos (by omega)]; congr 1; omega)
  exact xr_vret C hlk hr w hAe hQ (by decide) (show 0 + n ≤ 32 by omega) qn rfl (rfl) dX11_init_2_29

set_option maxHeartbeats 4000000 in
set_option maxRecDepth 100000 in
theorem met_X11_init (l : Launch) (G : GG) (sz : Nat) (h : Nat) (hk : Nat) (hv : Nat) (n : Nat) (b : Nat → BitVec 8) (hn : n ≤ 32) (ap0_0 : h ≠ hv) : Met l yX11_init (ws_ yX11_init cX11_init 3 none) ({ frames := 3, cells := 1, slots := 32, locals := 84 } : Room) (va_Pc [.ref h, .ref hk, .ref hv] (PP G [(h, xO 7 [.null, .null])] sz (fun U : State => va_P G.1 vwCl [(hv, xB G n b)] U.heap))) (CQ G [(h, xO 7 [.null, .null])] sz (fun u : Nat => [(h, xO 7 [.ref u, .ref hk]), (u, xB G n b)]) (fun (u : Nat) (v : Option Value) (H : Heap) => v = none)) 1 32 (va_A [(h, xO 7 [.null, .null])] sz) := by
  refine xr_met (own := RX11) (by decide) rfl (Nat.le_of_ble_eq_true rfl) ?_
  intro p e s m args below meth c ls Q A C hlk hr hnm hsz hAe w hRD hQ hl
  have hx := C.1
  have hb := C.2.1
  have w : Wd G A [(h, xO 7 [.null, .null])] s s.heap s.heap [] := w
  have hl : lv_has ls 3 [(0, .ref h), (1, .ref hk), (2, .ref hv)] := hl
  have hRd := hRD
  have hR0 : va_P G.1 vwCl [(hv, xB G n b)] s.heap := va_P.sub hRd [0] rfl
  have hN0 : ¬ A hv := by rw [hAe]; exact xn_L (by rw [← hsz]; exact (hR0 0 _ rfl).lt) (List.forall_mem_cons.mpr ⟨ap0_0, (fun _ h => absurd h List.not_mem_nil)⟩)
  refine lv_aload_n hx hb dX11_init_0 rfl (lv_at hl 0 rfl) ?_
  refine lv_aload_n hx hb dX11_init_1 rfl (lv_at hl 1 rfl) ?_
  refine lv_aload_n hx hb dX11_init_2 rfl (lv_at hl 2 rfl) ?_
  refine lv_iconst (v := nI 0) hx hb dX11_init_3 (by decide) ?_
  refine lv_aload_n hx hb dX11_init_4 rfl (lv_at hl 2 rfl) ?_
  refine xr_alenP C hR0 0 rfl dX11_init_5 ?_
  refine xr_callI (n := 4) (rest := []) (wr := []) C w (met_X11_init_2 l G s.heap.size h hk hv n b (hn) (w.neA 0 rfl hN0)) q250 q251 q20 q252 rfl (by decide +kernel) ⟨rfl, rfl, by decide, by decide⟩ (fun _ _ _ _ h => h) (fun U hU hW => by rw [hU]; exact (xp_cons hR0 xp_nil)) [0] [] rfl rfl rfl rfl (by decide) rfl hl.1 rfl (Nat.le_of_ble_eq_true rfl) dX11_init_6 ⟨by decide, by decide⟩ (fun u v H1 locs hp hz_6 hk_6 w => ?_)
  generalize H1 = H at hp w ⊢
  obtain ⟨qn, rfl⟩ : ∃ z, z = u := ⟨_, rfl⟩
  subst hp
  have w : Wd G A [(h, xO 7 [.ref qn, .ref hk]), (qn, xB G n b)] s s.heap H locs := w
  exact xr_vret C hlk hr w hAe hQ (by decide) (by decide) qn rfl (rfl) dX11_init_9

set_option maxHeartbeats 4000000 in
set_option maxRecDepth 100000 in
theorem met_X11_getIV (l : Launch) (G : GG) (sz : Nat) (h : Nat) (hv : Nat) (hk : Nat)  : Met l yX11_getIV (ws_ yX11_getIV cX11_getIV 1 (some (.array .byte))) ({ frames := 0, cells := 0, slots := 0, locals := 0 } : Room) (va_Pc [.ref h] (PP G [] sz (fun U : State => va_P G.1 vwCl [(h, xO 7 [.ref hv, .ref hk])] U.heap))) (CQ0 (fun v => v = some (.ref hv))) 0 0 (fun _ => False) := by
  refine xr_met (own := RX11) (by decide) rfl (Nat.le_of_ble_eq_true rfl) ?_
  intro p e s m args below meth c ls Q A C hlk hr hnm hsz hAe w hRD hQ hl
  have hx := C.1
  have hb := C.2.1
  have w : Wd G A [] s s.heap s.heap [] := w
  have hl : lv_has ls 1 [(0, .ref h)] := hl
  have hRd := hRD
  have hR0 : va_P G.1 vwCl [(h, xO 7 [.ref hv, .ref hk])] s.heap := va_P.sub hRd [0] rfl
  refine lv_aload_n hx hb dX11_getIV_0 rfl (lv_at hl 0 rfl) ?_
  refine xr_get (ci := 7) (v := .ref hv) (Cn := RX11) (T := TX11) (N := 2) C hR0 in_X11 rfl 0 (by decide) q255 (fun _ h => h) rfl dX11_getIV_1 ?_
  exact xr_aret0 C hlk hr (Or.inr ⟨_, rfl⟩) (Or.inr ⟨_, rfl⟩) hQ (rfl) dX11_getIV_4

set_option maxHeartbeats 4000000 in
set_option maxRecDepth 100000 in
theorem met_X11_getParameters (l : Launch) (G : GG) (sz : Nat) (h : Nat) (hv : Nat) (hk : Nat)  : Met l yX11_getParameters (ws_ yX11_getParameters cX11_getParameters 1 (some (.object "CipherParameters"))) ({ frames := 0, cells := 0, slots := 0, locals := 0 } : Room) (va_Pc [.ref h] (PP G [] sz (fun U : State => va_P G.1 vwCl [(h, xO 7 [.ref hv, .ref hk])] U.heap))) (CQ0 (fun v => v = some (.ref hk))) 0 0 (fun _ => False) := by
  refine xr_met (own := RX11) (by decide) rfl (Nat.le_of_ble_eq_true rfl) ?_
  intro p e s m args below meth c ls Q A C hlk hr hnm hsz hAe w hRD hQ hl
  have hx := C.1
  have hb := C.2.1
  have w : Wd G A [] s s.heap s.heap [] := w
  have hl : lv_has ls 1 [(0, .ref h)] := hl
  have hRd := hRD
  have hR0 : va_P G.1 vwCl [(h, xO 7 [.ref hv, .ref hk])] s.heap := va_P.sub hRd [0] rfl
  refine lv_aload_n hx hb dX11_getParameters_0 rfl (lv_at hl 0 rfl) ?_
  refine xr_get (ci := 7) (v := .ref hk) (Cn := RX11) (T := TX11) (N := 2) C hR0 in_X11 rfl 1 (by decide) q256 (fun _ h => h) rfl dX11_getParameters_1 ?_
  exact xr_aret0 C hlk hr (Or.inl ⟨_, rfl⟩) (Or.inr ⟨_, rfl⟩) hQ (rfl) dX11_getParameters_4

set_option maxHeartbeats 4000000 in
set_option maxRecDepth 100000 in
theorem met_X9_getBlockSize (l : Launch) (G : GG) (sz : Nat) (h : Nat) (iv : Nat) (cv : Nat) (nv : Nat) (he : Nat) (z : Nat) (r0 : Int32) (v1 : Value) (r2 : Int32) (v3 : Value)  : Met l yX9_getBlockSize (ws_ yX9_getBlockSize cX9_getBlockSize 1 (some .int)) ({ frames := 1, cells := 0, slots := 0, locals := 20 } : Room) (va_Pc [.ref h] (PP G [] sz (fun U : State => va_P G.1 vwCl [(h, xO 5 [.ref iv, .ref cv, .ref nv, .int (nI 16), .ref he, .int (nI z)]), (he, xO 6 [.int r0, v1, .int r2, v3])] U.heap))) (CQ0 (fun v => v = some (.int (nI 16)))) 0 0 (fun _ => False) := by
  refine xr_met (own := RX9) (by decide) rfl (Nat.le_of_ble_eq_true rfl) ?_
  intro p e s m args below meth c ls Q A C hlk hr hnm hsz hAe w hRD hQ hl
  have hx := C.1
  have hb := C.2.1
  have w : Wd G A [] s s.heap s.heap [] := w
  have hl : lv_has ls 1 [(0, .ref h)] := hl
  have hRd := hRD
  have hR0 : va_P G.1 vwCl [(h, xO 5 [.ref iv, .ref cv, .ref nv, .int (nI 16), .ref he, .int (nI z)])] s.heap := va_P.sub hRd [0] rfl
  have hR1 : va_P G.1 vwCl [(he, xO 6 [.int r0, v1, .int r2, v3])] s.heap := va_P.sub hRd [1] rfl
  refine lv_aload_n hx hb dX9_getBlockSize_0 rfl (lv_at hl 0 rfl) ?_
  refine xr_get (ci := 5) (v := .ref he) (Cn := RX9) (T := TX9) (N := 6) C hR0 in_X9 rfl 4 (by decide) q176 (fun _ h => h) rfl dX9_getBlockSize_1 ?_
  refine xr_callF0 (n := 0) (rest := []) (Cn := RX10) (T := TX10) (N := 4) C w (met_X10_getBlockSize l G s.heap.size he ) hR1 rfl (by decide +kernel) q157 q161 q163 q19 q165 (by decide +kernel) ⟨rfl, rfl, by decide, by decide⟩ (fun _ _ _ _ h => h) (fun U hU hW => trivial) rfl hl.1 rfl (Nat.le_of_ble_eq_true rfl) dX9_getBlockSize_4 ⟨by decide, by decide⟩ (fun v hp => ?_)
  subst hp
  exact xr_iret0 C hlk hr hQ (rfl) dX9_getBlockSize_9

set_option maxHeartbeats 4000000 in
set_option maxRecDepth 100000 in
theorem met_X9_init (l : Launch) (G : GG) (sz : Nat) (h : Nat) (he : Nat) (r0 : Int32) (v1 : Value) (r2 : Int32) (v3 : Value) (ap0_0 : h ≠ he) : Met l yX9_init (ws_ yX9_init cX9_init 2 none) ({ frames := 2, cells := 3, slots := 48, locals := 60 } : Room) (va_Pc [.ref h, .ref he] (PP G [(h, xO 5 [.null, .null, .null, .int (nI 0), .null, .int (nI 0)])] sz (fun U : State => va_P G.1 vwCl [(he, xO 6 [.int r0, v1, .int r2, v3])] U.heap))) (CQ G [(h, xO 5 [.null, .null, .null, .int (nI 0), .null, .int (nI 0)])] sz (fun u : Nat × Nat × Nat => [(h, xO 5 [.ref u.1, .ref u.2.1, .ref u.2.2, .int (nI 16), .ref he, .int (nI 0)]), (u.1, xB G 16 (fun _ => 0)), (u.2.1, xB G 16 (fun _ => 0)), (u.2.2, xB G 16 (fun _ => 0))]) (fun (u : Nat × Nat × Nat) (v : Option Value) (H : Heap) => v = none)) 3 48 (va_A [(h, xO 5 [.null, .null, .null, .int (nI 0), .null, .int (nI 0)])] sz) := by
  refine xr_met (own := RX9) (by decide) rfl (Nat.le_of_ble_eq_true rfl) ?_
  intro p e s m args below meth c ls Q A C hlk hr hnm hsz hAe w hRD hQ hl
  have hx := C.1
  have hb := C.2.1
  have w : Wd G A [(h, xO 5 [.null, .null, .null, .int (nI 0), .null, .int (nI 0)])] s s.heap s.heap [] := w
  have hl : lv_has ls 2 [(0, .ref h), (1, .ref he)] := hl
  have hRd := hRD
  have hR0 : va_P G.1 vwCl [(he, xO 6 [.int r0, v1, .int r2, v3])] s.heap := va_P.sub hRd [0] rfl
  have hN0 : ¬ A he := by rw [hAe]; exact xn_L (by rw [← hsz]; exact (hR0 0 _ rfl).lt) (List.forall_mem_cons.mpr ⟨ap0_0, (fun _ h => absurd h List.not_mem_nil)⟩)
  refine lv_aload_n hx hb dX9_init_0 rfl (lv_at hl 0 rfl) ?_
  refine xr_callI0 (n := 0) (rest := []) C w (met_X8_init l G s.heap.size h ) q155 q136 q17 q137 rfl (by decide +kernel) ⟨rfl, rfl, by decide, by decide⟩ (fun _ _ _ _ h => h) (fun U hU hW => trivial) rfl hl.1 rfl (Nat.le_of_ble_eq_true rfl) dX9_init_1 ⟨by decide, by decide⟩ (fun v hp => ?_)
  subst hp
  refine lv_aload_n hx hb dX9_init_4 rfl (lv_at hl 0 rfl) ?_
  refine lv_null hx hb dX9_init_5 ?_
  refine xr_put (ci := 5) (v := .null) (ty := (.object "BlockCipher")) (Cn := RX9) (T := TX9) (N := 6) C w 0 rfl in_X9 tyX9 tyX9_ok nmX9 rfl 4 (by decide) q176 (fun _ h => h) rfl (by decide +kernel) (rfl) (rfl) (Nat.le_of_ble_eq_true rfl) dX9_init_6 (fun H locs w => ?_)
  have w : Wd G A [(h, xO 5 [.null, .null, .null, .int (nI 0), .null, .int (nI 0)])] s s.heap H locs := w
  refine lv_aload_n hx hb dX9_init_9 rfl (lv_at hl 0 rfl) ?_
  refine lv_aload_n hx hb dX9_init_10 rfl (lv_at hl 1 rfl) ?_
  refine xr_put (ci := 5) (v := .ref he) (ty := (.object "BlockCipher")) (Cn := RX9) (T := TX9) (N := 6) C w 0 rfl in_X9 tyX9 tyX9_ok nmX9 rfl 4 (by decide) q176 (fun _ h => h) rfl (by decide +kernel) (rfl) (rfl) (Nat.le_of_ble_eq_true rfl) dX9_init_11 (fun H locs w => ?_)
  have w : Wd G A [(h, xO 5 [.null, .null, .null, .int (nI 0), .ref he, .int (nI 0)])] s s.heap H locs := w
  refine lv_aload_n hx hb dX9_init_14 rfl (lv_at hl 0 rfl) ?_
  refine lv_aload_n hx hb dX9_init_15 rfl (lv_at hl 1 rfl) ?_
  refine xr_callF0 (n := 0) (rest := [.ref h]) (Cn := RX10) (T := TX10) (N := 4) C w (met_X10_getBlockSize l G H.size he ) (xp_keep hR0 (xn_1 hN0) w.2.2.1) rfl (by decide +kernel) q157 q161 q163 q19 q165 (by decide +kernel) ⟨rfl, rfl, by decide, by decide⟩ (fun _ _ _ _ h => h) (fun U hU hW => trivial) rfl hl.1 rfl (Nat.le_of_ble_eq_true rfl) dX9_init_16 ⟨by decide, by decide⟩ (fun v hp => ?_)
  subst hp
  refine xr_put (ci := 5) (v := .int (nI 16)) (ty := .int) (Cn := RX9) (T := TX9) (N := 6) C w 0 rfl in_X9 tyX9 tyX9_ok nmX9 rfl 3 (by decide) q175 (fun _ h => h) rfl (by decide +kernel) (rfl) (rfl) (Nat.le_of_ble_eq_true rfl) dX9_init_21 (fun H locs w => ?_)
  have w : Wd G A [(h, xO 5 [.null, .null, .null, .int (nI 16), .ref he, .int (nI 0)])] s s.heap H locs := w
  refine lv_aload_n hx hb dX9_init_24 rfl (lv_at hl 0 rfl) ?_
  refine lv_aload_n hx hb dX9_init_25 rfl (lv_at hl 0 rfl) ?_
  refine xr_get (ci := 5) (v := .int (nI 16)) (Cn := RX9) (T := TX9) (N := 6) C (w.at 0 rfl) in_X9 rfl 3 (by decide) q175 (fun _ h => h) rfl dX9_init_26 ?_
  refine xr_newB C w (n := 16) (by omega) (by decide) (by decide) dX9_init_29 (fun iv H hq_iv w => ?_)
  have w : Wd G A [(h, xO 5 [.null, .null, .null, .int (nI 16), .ref he, .int (nI 0)]), (iv, xB G 16 (fun _ => 0))] s s.heap H locs := w
  refine xr_put (ci := 5) (v := .ref iv) (ty := (.array .byte)) (Cn := RX9) (T := TX9) (N := 6) C w 0 rfl in_X9 tyX9 tyX9_ok nmX9 rfl 0 (by decide) q172 (fun _ h => h) rfl (by decide +kernel) (rfl) (rfl) (Nat.le_of_ble_eq_true rfl) dX9_init_31 (fun H locs w => ?_)
  have w : Wd G A [(h, xO 5 [.ref iv, .null, .null, .int (nI 16), .ref he, .int (nI 0)]), (iv, xB G 16 (fun _ => 0))] s s.heap H locs := w
  refine lv_aload_n hx hb dX9_init_34 rfl (lv_at hl 0 rfl) ?_
  refine lv_aload_n hx hb dX9_init_35 rfl (lv_at hl 0 rfl) ?_
  refine xr_get (ci := 5) (v := .int (nI 16)) (Cn := RX9) (T := TX9) (N := 6) C (w.at 0 rfl) in_X9 rfl 3 (by decide) q175 (fun _ h => h) rfl dX9_init_36 ?_
  refine xr_newB C w (n := 16) (by omega) (by decide) (by decide) dX9_init_39 (fun cv H hq_cv w => ?_)
  have w : Wd G A [(h, xO 5 [.ref iv, .null, .null, .int (nI 16), .ref he, .int (nI 0)]), (iv, xB G 16 (fun _ => 0)), (cv, xB G 16 (fun _ => 0))] s s.heap H locs := w
  refine xr_put (ci := 5) (v := .ref cv) (ty := (.array .byte)) (Cn := RX9) (T := TX9) (N := 6) C w 0 rfl in_X9 tyX9 tyX9_ok nmX9 rfl 1 (by decide) q173 (fun _ h => h) rfl (by decide +kernel) (rfl) (rfl) (Nat.le_of_ble_eq_true rfl) dX9_init_41 (fun H locs w => ?_)
  have w : Wd G A [(h, xO 5 [.ref iv, .ref cv, .null, .int (nI 16), .ref he, .int (nI 0)]), (iv, xB G 16 (fun _ => 0)), (cv, xB G 16 (fun _ => 0))] s s.heap H locs := w
  refine lv_aload_n hx hb dX9_init_44 rfl (lv_at hl 0 rfl) ?_
  refine lv_aload_n hx hb dX9_init_45 rfl (lv_at hl 0 rfl) ?_
  refine xr_get (ci := 5) (v := .int (nI 16)) (Cn := RX9) (T := TX9) (N := 6) C (w.at 0 rfl) in_X9 rfl 3 (by decide) q175 (fun _ h => h) rfl dX9_init_46 ?_
  refine xr_newB C w (n := 16) (by omega) (by decide) (by decide) dX9_init_49 (fun nv H hq_nv w => ?_)
  have w : Wd G A [(h, xO 5 [.ref iv, .ref cv, .null, .int (nI 16), .ref he, .int (nI 0)]), (iv, xB G 16 (fun _ => 0)), (cv, xB G 16 (fun _ => 0)), (nv, xB G 16 (fun _ => 0))] s s.heap H locs := w
  refine xr_put (ci := 5) (v := .ref nv) (ty := (.array .byte)) (Cn := RX9) (T := TX9) (N := 6) C w 0 rfl in_X9 tyX9 tyX9_ok nmX9 rfl 2 (by decide) q174 (fun _ h => h) rfl (by decide +kernel) (rfl) (rfl) (Nat.le_of_ble_eq_true rfl) dX9_init_51 (fun H locs w => ?_)
  have w : Wd G A [(h, xO 5 [.ref iv, .ref cv, .ref nv, .int (nI 16), .ref he, .int (nI 0)]), (iv, xB G 16 (fun _ => 0)), (cv, xB G 16 (fun _ => 0)), (nv, xB G 16 (fun _ => 0))] s s.heap H locs := w
  exact xr_vret C hlk hr w hAe hQ (by decide) (by decide) (iv, cv, nv) rfl (rfl) dX9_init_54

set_option maxHeartbeats 4000000 in
set_option maxRecDepth 100000 in
theorem met_X9_reset (l : Launch) (G : GG) (sz : Nat) (h : Nat) (iv : Nat) (cv : Nat) (nv : Nat) (he : Nat) (z : Nat) (ib : Nat → BitVec 8) (cb : Nat → BitVec 8) (nb : Nat → BitVec 8) (r0 : Int32) (v1 : Value) (r2 : Int32) (v3 : Value) (ap0_0 : h ≠ he) (ap0_1 : iv ≠ he) (ap0_2 : cv ≠ he) (ap0_3 : nv ≠ he) : Met l yX9_reset (ws_ yX9_reset cX9_reset 1 none) ({ frames := 2, cells := 0, slots := 0, locals := 61 } : Room) (va_Pc [.ref h] (PP G [(h, xO 5 [.ref iv, .ref cv, .ref nv, .int (nI 16), .ref he, .int (nI z)]), (iv, xB G 16 ib), (cv, xB G 16 cb), (nv, xB G 16 nb)] sz (fun U : State => va_P G.1 vwCl [(he, xO 6 [.int r0, v1, .int r2, v3])] U.heap))) (CQ G [(h, xO 5 [.ref iv, .ref cv, .ref nv, .int (nI 16), .ref he, .int (nI z)]), (iv, xB G 16 ib), (cv, xB G 16 cb), (nv, xB G 16 nb)] sz (fun u : Unit => [(h, xO 5 [.ref iv, .ref cv, .ref nv, .int (nI 16), .ref he, .int (nI z)]), (iv, xB G 16 ib), (cv, xB G 16 ib), (nv, xB G 16 (fun _ => 0))]) (fun (u : Unit) (v : Option Value) (H : Heap) => v = none)) 0 0 (va_A [(h, xO 5 [.ref iv, .ref cv, .ref nv, .int (nI 16), .ref he, .int (nI z)]), (iv, xB G 16 ib), (cv, xB G 16 cb), (nv, xB G 16 nb)] sz) := by
  refine xr_met (own := RX9) (by decide) rfl (Nat.le_of_ble_eq_true rfl) ?_
  intro p e s m args below meth c ls Q A C hlk hr hnm hsz hAe w hRD hQ hl
  have hx := C.1
  have hb := C.2.1
  have w : Wd G A [(h, xO 5 [.ref iv, .ref cv, .ref nv, .int (nI 16), .ref he, .int (nI z)]), (iv, xB G 16 ib), (cv, xB G 16 cb), (nv, xB G 16 nb)] s s.heap s.heap [] := w
  have hl : lv_has ls 1 [(0, .ref h)] := hl
  have hRd := hRD
  have hR0 : va_P G.1 vwCl [(he, xO 6 [.int r0, v1, .int r2, v3])] s.heap := va_P.sub hRd [0] rfl
  have hN0 : ¬ A he := by rw [hAe]; exact xn_L (by rw [← hsz]; exact (hR0 0 _ rfl).lt) (List.forall_mem_cons.mpr ⟨ap0_0, (List.forall_mem_cons.mpr ⟨ap0_1, (List.forall_mem_cons.mpr ⟨ap0_2, (List.forall_mem_cons.mpr ⟨ap0_3, (fun _ h => absurd h List.not_mem_nil)⟩)⟩)⟩)⟩)
  refine lv_aload_n hx hb dX9_reset_0 rfl (lv_at hl 0 rfl) ?_
  refine xr_get (ci := 5) (v := .ref iv) (Cn := RX9) (T := TX9) (N := 6) C (w.at 0 rfl) in_X9 rfl 0 (by decide) q172 (fun _ h => h) rfl dX9_reset_1 ?_
  refine lv_iconst (v := nI 0) hx hb dX9_reset_4 (by decide) ?_
  refine lv_aload_n hx hb dX9_reset_5 rfl (lv_at hl 0 rfl) ?_
  refine xr_get (ci := 5) (v := .ref cv) (Cn := RX9) (T := TX9) (N := 6) C (w.at 0 rfl) in_X9 rfl 1 (by decide) q173 (fun _ h => h) rfl dX9_reset_6 ?_
  refine lv_iconst (v := nI 0) hx hb dX9_reset_9 (by decide) ?_
  refine lv_aload_n hx hb dX9_reset_10 rfl (lv_at hl 0 rfl) ?_
  refine xr_get (ci := 5) (v := .ref iv) (Cn := RX9) (T := TX9) (N := 6) C (w.at 0 rfl) in_X9 rfl 0 (by decide) q172 (fun _ h => h) rfl dX9_reset_11 ?_
  refine xr_alenP C (w.at 1 rfl) 0 rfl dX9_reset_14 ?_
  refine xr_copy C w q286 2 (sp := 0) (dp := 0) (n := 16) (w.at 1 rfl) rfl (by omega) (by omega) (by omega) (by omega) hl.1 (by decide) (Nat.le_of_ble_eq_true rfl) dX9_reset_15 (fun H locs w => ?_)
  have w : Wd G A [(h, xO 5 [.ref iv, .ref cv, .ref nv, .int (nI 16), .ref he, .int (nI z)]), (iv, xB G 16 ib), (cv, xB G 16 (va_cpy ib cb 0 0 16)), (nv, xB G 16 nb)] s s.heap H locs := w
  refine lv_aload_n hx hb dX9_reset_18 rfl (lv_at hl 0 rfl) ?_
  refine xr_get (ci := 5) (v := .ref nv) (Cn := RX9) (T := TX9) (N := 6) C (w.at 0 rfl) in_X9 rfl 2 (by decide) q174 (fun _ h => h) rfl dX9_reset_19 ?_
  refine lv_iconst (v := nI 0) hx hb dX9_reset_22 (by decide) ?_
  refine lv_eqi (y := sB 0) sB_0.symm ?_
  refine xr_callS (n := 2) (rest := []) (wr := [(h, xO 5 [.ref iv, .ref cv, .ref nv, .int (nI 16), .ref he, .int (nI z)]), (iv, xB G 16 ib), (cv, xB G 16 (va_cpy ib cb 0 0 16))]) C w (met_X13_fill l G H.size nv 16 nb 0 (by omega)) q287 q288 q23 q289 (by decide +kernel) ⟨rfl, rfl, by decide, by decide⟩ (fun _ _ _ _ h => h) (fun U hU hW => trivial) [3] [0, 1, 2] rfl rfl rfl rfl (by decide) rfl hl.1 rfl (Nat.le_of_ble_eq_true rfl) dX9_reset_23 ⟨by decide, by decide⟩ (fun u v H1 locs hp hz_23 hk_23 w => ?_)
  generalize H1 = H at hp w ⊢
  subst hp
  have w : Wd G A [(h, xO 5 [.ref iv, .ref cv, .ref nv, .int (nI 16), .ref he, .int (nI z)]), (iv, xB G 16 ib), (cv, xB G 16 (va_cpy ib cb 0 0 16)), (nv, xB G 16 (fun _ => 0))] s s.heap H locs := w
  refine lv_aload_n hx hb dX9_reset_26 rfl (lv_at hl 0 rfl) ?_
  refine xr_get (ci := 5) (v := .ref he) (Cn := RX9) (T := TX9) (N := 6) C (w.at 0 rfl) in_X9 rfl 4 (by decide) q176 (fun _ h => h) rfl dX9_reset_27 ?_
  refine xr_callF0 (n := 0) (rest := []) (Cn := RX10) (T := TX10) (N := 4) C w (met_X10_reset l G H.size he ) (xp_keep hR0 (xn_1 hN0) w.2.2.1) rfl (by decide +kernel) q294 q276 q278 q19 q280 (by decide +kernel) ⟨rfl, rfl, by decide, by decide⟩ (fun _ _ _ _ h => h) (fun U hU hW => trivial) rfl hl.1 rfl (Nat.le_of_ble_eq_true rfl) dX9_reset_30 ⟨by decide, by decide⟩ (fun v hp => ?_)
  subst hp
  have w := w.bx 2 rfl (b' := ib) (fun j hj => by unfold va_cpy; rw [if_pos (by omega)]; congr 1; omega)
  exact xr_vret C hlk hr w hAe hQ (by decide) (by decide) () rfl (rfl) dX9_reset_35

set_option maxHeartbeats 4000000 in
set_option maxRecDepth 100000 in
theorem met_X9_init_2 (l : Launch) (G : GG) (sz : Nat) (h : Nat) (z : Nat) (hp : Nat) (iv : Nat) (cv : Nat) (nv : Nat) (he : Nat) (z1 : Nat) (ib : Nat → BitVec 8) (cb : Nat → BitVec 8) (nb : Nat → BitVec 8) (hv : Nat) (hk : Nat) (vb : Nat → BitVec 8) (ky : Nat) (KC : Nat) (b : Nat → BitVec 8) (r0 : Int32) (v1 : Value) (r2 : Int32) (v3 : Value) (hKC : KC = 4 ∨ KC = 6 ∨ KC = 8) (hz : z < 2) (ap0_0 : h ≠ hp) (ap0_1 : iv ≠ hp) (ap0_2 : cv ≠ hp) (ap0_3 : nv ≠ hp) (ap0_4 : he ≠ hp) (ap1_0 : h ≠ hv) (ap1_1 : iv ≠ hv) (ap1_2 : cv ≠ hv) (ap1_3 : nv ≠ hv) (ap1_4 : he ≠ hv) (ap2_0 : h ≠ hk) (ap2_1 : iv ≠ hk) (ap2_2 : cv ≠ hk) (ap2_3 : nv ≠ hk) (ap2_4 : he ≠ hk) (ap3_0 : h ≠ ky) (ap3_1 : iv ≠ ky) (ap3_2 : cv ≠ ky) (ap3_3 : nv ≠ ky) (ap3_4 : he ≠ ky) : Met l yX9_init_2 (ws_ yX9_init_2 cX9_init_2 6 none) ({ frames := 4, cells := 17, slots := 331, locals := 122 } : Room) (va_Pc [.ref h, .int (nI z), .ref hp] (PP G [(h, xO 5 [.ref iv, .ref cv, .ref nv, .int (nI 16), .ref he, .int (nI z1)]), (iv, xB G 16 ib), (cv, xB G 16 cb), (nv, xB G 16 nb), (he, xO 6 [.int r0, v1, .int r2, v3])] sz (fun U : State => va_P G.1 vwCl [(hp, xO 7 [.ref hv, .ref hk]), (hv, xB G 16 vb), (hk, xO 8 [.ref ky]), (ky, xB G (4 * KC) b)] U.heap))) (CQ G [(h, xO 5 [.ref iv, .ref cv, .ref nv, .int (nI 16), .ref he, .int (nI z1)]), (iv, xB G 16 ib), (cv, xB G 16 cb), (nv, xB G 16 nb), (he, xO 6 [.int r0, v1, .int r2, v3])] sz (fun u : Nat × Nat => [(h, xO 5 [.ref iv, .ref cv, .ref nv, .int (nI 16), .ref he, .int (nI z)]), (iv, xB G 16 vb), (cv, xB G 16 vb), (nv, xB G 16 (fun _ => 0)), (he, xO 6 [.int (nI (KC + 6)), .ref u.1, .int (nI z), .ref u.2]), (u.2, xB G 256 (sF z))]) (fun (u : Nat × Nat) (v : Option Value) (H : Heap) => v = none ∧ sz ≤ u.1 ∧ KW G u.1 (KC + 7) (fun r => u.1 + 1 + r) (kwF KC (keyw b) z) H ∧ ∀ q, KWf u.1 (KC + 7) (fun r => u.1 + 1 + r) q → q < u.2)) 17 331 (va_A [(h, xO 5 [.ref iv, .ref cv, .ref nv, .int (nI 16), .ref he, .int (nI z1)]), (iv, xB G 16 ib), (cv, xB G 16 cb), (nv, xB G 16 nb), (he, xO 6 [.int r0, v1, .int r2, v3])] sz) := by
  refine xr_met (own := RX9) (by decide) rfl (Nat.le_of_ble_eq_true rfl) ?_
  intro p e s m args below meth c ls Q A C hlk hr hnm hsz hAe w hRD hQ hl
  have hx := C.1
  have hb := C.2.1
  have w : Wd G A [(h, xO 5 [.ref iv, .ref cv, .ref nv, .int (nI 16), .ref he, .int (nI z1)]), (iv, xB G 16 ib), (cv, xB G 16 cb), (nv, xB G 16 nb), (he, xO 6 [.int r0, v1, .int r2, v3])] s s.heap s.heap [] := w
  have hl : lv_has ls 6 [(0, .ref h), (1, .int (nI z)), (2, .ref hp)] := hl
  have hRd := hRD
  have hR0 : va_P G.1 vwCl [(hp, xO 7 [.ref hv, .ref hk])] s.heap := va_P.sub hRd [0] rfl
  have hN0 : ¬ A hp := by rw [hAe]; exact xn_L (by rw [← hsz]; exact (hR0 0 _ rfl).lt) (List.forall_mem_cons.mpr ⟨ap0_0, (List.forall_mem_cons.mpr ⟨ap0_1, (List.forall_mem_cons.mpr ⟨ap0_2, (List.forall_mem_cons.mpr ⟨ap0_3, (List.forall_mem_cons.mpr ⟨ap0_4, (fun _ h => absurd h List.not_mem_nil)⟩)⟩)⟩)⟩)⟩)
  have hR1 : va_P G.1 vwCl [(hv, xB G 16 vb)] s.heap := va_P.sub hRd [1] rfl
  have hN1 : ¬ A hv := by rw [hAe]; exact xn_L (by rw [← hsz]; exact (hR1 0 _ rfl).lt) (List.forall_mem_cons.mpr ⟨ap1_0, (List.forall_mem_cons.mpr ⟨ap1_1, (List.forall_mem_cons.mpr ⟨ap1_2, (List.forall_mem_cons.mpr ⟨ap1_3, (List.forall_mem_cons.mpr ⟨ap1_4, (fun _ h => absurd h List.not_mem_nil)⟩)⟩)⟩)⟩)⟩)
  have hR2 : va_P G.1 vwCl [(hk, xO 8 [.ref ky])] s.heap := va_P.sub hRd [2] rfl
  have hN2 : ¬ A hk := by rw [hAe]; exact xn_L (by rw [← hsz]; exact (hR2 0 _ rfl).lt) (List.forall_mem_cons.mpr ⟨ap2_0, (List.forall_mem_cons.mpr ⟨ap2_1, (List.forall_mem_cons.mpr ⟨ap2_2, (List.forall_mem_cons.mpr ⟨ap2_3, (List.forall_mem_cons.mpr ⟨ap2_4, (fun _ h => absurd h List.not_mem_nil)⟩)⟩)⟩)⟩)⟩)
  have hR3 : va_P G.1 vwCl [(ky, xB G (4 * KC) b)] s.heap := va_P.sub hRd [3] rfl
  have hN3 : ¬ A ky := by rw [hAe]; exact xn_L (by rw [← hsz]; exact (hR3 0 _ rfl).lt) (List.forall_mem_cons.mpr ⟨ap3_0, (List.forall_mem_cons.mpr ⟨ap3_1, (List.forall_mem_cons.mpr ⟨ap3_2, (List.forall_mem_cons.mpr ⟨ap3_3, (List.forall_mem_cons.mpr ⟨ap3_4, (fun _ h => absurd h List.not_mem_nil)⟩)⟩)⟩)⟩)⟩)
  refine lv_aload_n hx hb dX9_init_2_0 rfl (lv_at hl 0 rfl) ?_
  refine xr_get (ci := 5) (v := .int (nI z1)) (Cn := RX9) (T := TX9) (N := 6) C (w.at 0 rfl) in_X9 rfl 5 (by decide) q177 (fun _ h => h) rfl dX9_init_2_1 ?_
  refine lv_istore_n (lv' := [(3, .int (nI z1)), (0, .ref h), (1, .int (nI z)), (2, .ref hp)]) hx hb dX9_init_2_4 rfl hl (by decide) rfl (fun ls hl => ?_)
  refine lv_aload_n hx hb dX9_init_2_5 rfl (lv_at hl 1 rfl) ?_
  refine lv_iload_n hx hb dX9_init_2_6 rfl (lv_at hl 2 rfl) ?_
  refine xr_put (ci := 5) (v := .int (nI z)) (ty := .boolean) (Cn := RX9) (T := TX9) (N := 6) C w 0 rfl in_X9 tyX9 tyX9_ok nmX9 rfl 5 (by decide) q177 (fun _ h => h) rfl (by decide +kernel) (nar_z hz) (fit_z hz) (Nat.le_of_ble_eq_true rfl) dX9_init_2_7 (fun H locs w => ?_)
  have w : Wd G A [(h, xO 5 [.ref iv, .ref cv, .ref nv, .int (nI 16), .ref he, .int (nI z)]), (iv, xB G 16 ib), (cv, xB G 16 cb), (nv, xB G 16 nb), (he, xO 6 [.int r0, v1, .int r2, v3])] s s.heap H locs := w
  refine lv_aload_n hx hb dX9_init_2_10 rfl (lv_at hl 3 rfl) ?_
  refine va_instS C.1 C.2.1 C.2.2.2.1 (C.2.2.2.2.1 _ q478) (C.2.2.2.2.2.1 7 _ rfl).2 (va_recv C.2.2.2.2.2 (xp_keep hR0 (xn_1 hN0) w.2.2.1) (ci := 7) (q0 := 0) rfl rfl) dX9_init_2_11 ?_
  refine lv_eqi (y := nI 1) rfl ?_
  refine xr_if_eq (a := 1) (tgt := 73) hx hb dX9_init_2_14 (by decide) (by omega) (fun c_14 => absurd c_14 (by decide)) (fun c_14 => ?_)
  refine lv_aload_n hx hb dX9_init_2_17 rfl (lv_at hl 3 rfl) ?_
  refine va_castS C.1 C.2.1 C.2.2.2.1 (C.2.2.2.2.1 _ q478) (C.2.2.2.2.2.1 7 _ rfl).2 (va_recv C.2.2.2.2.2 (xp_keep hR0 (xn_1 hN0) w.2.2.1) (ci := 7) (q0 := 0) rfl rfl) dX9_init_2_18 ?_
  refine lv_astore (lv' := [(4, .ref hp), (3, .int (nI z1)), (0, .ref h), (1, .int (nI z)), (2, .ref hp)]) hx hb dX9_init_2_21 hl (by decide) rfl (fun ls hl => ?_)
  refine lv_aload hx hb dX9_init_2_23 (lv_at hl 0 rfl) ?_
  refine xr_callV0 (n := 0) (rest := []) (Cn := RX11) (T := TX11) (N := 2) C w (met_X11_getIV l G H.size hp hv hk ) (xp_keep hR0 (xn_1 hN0) w.2.2.1) rfl q479 q480 q481 q20 q482 rfl (by decide +kernel) ⟨rfl, rfl, by decide, by decide⟩ (fun _ _ _ _ h => h) (fun U hU hW => by rw [hU]; exact (xp_cons (xp_keep hR0 (xn_1 hN0) w.2.2.1) xp_nil)) rfl hl.1 rfl (Nat.le_of_ble_eq_true rfl) dX9_init_2_25 ⟨by decide, by decide⟩ (fun v hp => ?_)
  subst hp
  refine lv_astore (lv' := [(5, .ref hv), (4, .ref hp), (3, .int (nI z1)), (0, .ref h), (1, .int (nI z)), (2, .ref hp)]) hx hb dX9_init_2_28 hl (by decide) rfl (fun ls hl => ?_)
  refine lv_aload hx hb dX9_init_2_30 (lv_at hl 0 rfl) ?_
  refine xr_alenP C (xp_keep hR1 (xn_1 hN1) w.2.2.1) 0 rfl dX9_init_2_32 ?_
  refine lv_aload_n hx hb dX9_init_2_33 rfl (lv_at hl 3 rfl) ?_
  refine xr_get (ci := 5) (v := .int (nI 16)) (Cn := RX9) (T := TX9) (N := 6) C (w.at 0 rfl) in_X9 rfl 3 (by decide) q175 (fun _ h => h) rfl dX9_init_2_34 ?_
  refine xr_icmp_eq (a := 16) (b := 16) (tgt := 50) hx hb dX9_init_2_37 (by decide) (by omega) (by omega) (fun c_37 => ?_) (fun c_37 => (c_37 rfl).elim)
  refine lv_aload hx hb dX9_init_2_50 (lv_at hl 0 rfl) ?_
  refine lv_iconst (v := nI 0) hx hb dX9_init_2_52 (by decide) ?_
  refine lv_aload_n hx hb dX9_init_2_53 rfl (lv_at hl 3 rfl) ?_
  refine xr_get (ci := 5) (v := .ref iv) (Cn := RX9) (T := TX9) (N := 6) C (w.at 0 rfl) in_X9 rfl 0 (by decide) q172 (fun _ h => h) rfl dX9_init_2_54 ?_
  refine lv_iconst (v := nI 0) hx hb dX9_init_2_57 (by decide) ?_
  refine lv_aload hx hb dX9_init_2_58 (lv_at hl 0 rfl) ?_
  refine xr_alenP C (xp_keep hR1 (xn_1 hN1) w.2.2.1) 0 rfl dX9_init_2_60 ?_
  refine xr_copy C w q286 1 (sp := 0) (dp := 0) (n := 16) (xp_keep hR1 (xn_1 hN1) w.2.2.1) rfl (by omega) (by omega) (by omega) (by omega) hl.1 (by decide) (Nat.le_of_ble_eq_true rfl) dX9_init_2_61 (fun H locs w => ?_)
  have w : Wd G A [(h, xO 5 [.ref iv, .ref cv, .ref nv, .int (nI 16), .ref he, .int (nI z)]), (iv, xB G 16 (va_cpy vb ib 0 0 16)), (cv, xB G 16 cb), (nv, xB G 16 nb), (he, xO 6 [.int r0, v1, .int r2, v3])] s s.heap H locs := w
  have w := w.bx 1 rfl (b' := vb) (fun j hj => by unfold va_cpy; rw [if_pos (by omega)]; congr 1; omega)
  have w : Wd G A [(h, xO 5 [.ref iv, .ref cv, .ref nv, .int (nI 16), .ref he, .int (nI z)]), (iv, xB G 16 vb), (cv, xB G 16 cb), (nv, xB G 16 nb), (he, xO 6 [.int r0, v1, .int r2, v3])] s s.heap H locs := w
  refine lv_aload hx hb dX9_init_2_64 (lv_at hl 1 rfl) ?_
  refine xr_callV0 (n := 0) (rest := []) (Cn := RX11) (T := TX11) (N := 2) C w (met_X11_getParameters l G H.size hp hv hk ) (xp_keep hR0 (xn_1 hN0) w.2.2.1) rfl q486 q487 q488 q20 q489 rfl (by decide +kernel) ⟨rfl, rfl, by decide, by decide⟩ (fun _ _ _ _ h => h) (fun U hU hW => by rw [hU]; exact (xp_cons (xp_keep hR0 (xn_1 hN0) w.2.2.1) xp_nil)) rfl hl.1 rfl (Nat.le_of_ble_eq_true rfl) dX9_init_2_66 ⟨by decide, by decide⟩ (fun v hp => ?_)
  subst hp
  refine lv_astore_n (lv' := [(2, .ref hk), (5, .ref hv), (4, .ref hp), (3, .int (nI z1)), (0, .ref h), (1, .int (nI z))]) hx hb dX9_init_2_69 rfl hl (by decide) rfl (fun ls hl => ?_)
  refine lv_goto (tgt := 81) hx hb dX9_init_2_70 (by decide) ?_
  refine lv_aload_n hx hb dX9_init_2_81 rfl (lv_at hl 4 rfl) ?_
  refine xr_callV (n := 0) (rest := []) (wr := [(he, xO 6 [.int r0, v1, .int r2, v3])]) (Cn := RX9) (T := TX9) (N := 6) C w (met_X9_reset l G H.size h iv cv nv he z vb cb nb r0 v1 r2 v3 (w.ne 0 4 rfl rfl (by decide)) (w.ne 1 4 rfl rfl (by decide)) (w.ne 2 4 rfl rfl (by decide)) (w.ne 3 4 rfl rfl (by decide))) (w.at 0 rfl) rfl q490 q283 q740 q18 q285 rfl (by decide +kernel) ⟨rfl, rfl, by decide, by decide⟩ (fun _ _ _ _ h => h) (fun U hU hW => by rw [hU]; exact (xp_cons (w.at 4 rfl) xp_nil)) [0, 1, 2, 3] [4] rfl rfl rfl rfl (by decide) rfl hl.1 rfl (Nat.le_of_ble_eq_true rfl) dX9_init_2_82 ⟨by decide, by decide⟩ (fun u v H1 locs hp hz_82 hk_82 w => ?_)
  generalize H1 = H at hp w ⊢
  subst hp
  have w : Wd G A [(he, xO 6 [.int r0, v1, .int r2, v3]), (h, xO 5 [.ref iv, .ref cv, .ref nv, .int (nI 16), .ref he, .int (nI z)]), (iv, xB G 16 vb), (cv, xB G 16 vb), (nv, xB G 16 (fun _ => 0))] s s.heap H locs := w
  refine lv_aload_n hx hb dX9_init_2_85 rfl (lv_at hl 0 rfl) ?_
  refine lv_ifnull hx hb dX9_init_2_86 ?_
  refine lv_aload_n hx hb dX9_init_2_89 rfl (lv_at hl 4 rfl) ?_
  refine xr_get (ci := 5) (v := .ref he) (Cn := RX9) (T := TX9) (N := 6) C (w.at 1 rfl) in_X9 rfl 4 (by decide) q176 (fun _ h => h) rfl dX9_init_2_90 ?_
  refine lv_iload_n hx hb dX9_init_2_93 rfl (lv_at hl 5 rfl) ?_
  refine lv_aload_n hx hb dX9_init_2_94 rfl (lv_at hl 0 rfl) ?_
  have hle := w.2.2.1.1
  refine xr_callF (n := 2) (rest := []) (wr := [(h, xO 5 [.ref iv, .ref cv, .ref nv, .int (nI 16), .ref he, .int (nI z)]), (iv, xB G 16 vb), (cv, xB G 16 vb), (nv, xB G 16 (fun _ => 0))]) (Cn := RX10) (T := TX10) (N := 4) C w (met_X10_init_2 l G H.size he z hk ky KC b r0 v1 r2 v3 (hKC) (hz) (w.neA 0 rfl hN2) (w.neA 0 rfl hN3)) (w.at 0 rfl) rfl (by decide +kernel) q492 q399 q401 q19 q403 (by decide +kernel) ⟨rfl, rfl, by decide, by decide⟩ (fun _ _ _ _ h => h) (fun U hU hW => by rw [hU]; exact (xp_cons (xp_keep hR2 (xn_1 hN2) w.2.2.1) (xp_cons (xp_keep hR3 (xn_1 hN3) w.2.2.1) xp_nil))) [0] [1, 2, 3, 4] rfl rfl rfl rfl (by decide) rfl hl.1 rfl (Nat.le_of_ble_eq_true rfl) dX9_init_2_95 ⟨by decide, by decide⟩ (fun u v H1 locs hp hz_95 hk_95 w => ?_)
  have hsz2 := hz_95
  generalize H1 = H at hp w ⊢
  obtain ⟨wa, hs⟩ := u
  obtain ⟨rfl, hwa, hKW, hfar⟩ := hp
  have w : Wd G A [(h, xO 5 [.ref iv, .ref cv, .ref nv, .int (nI 16), .ref he, .int (nI z)]), (iv, xB G 16 vb), (cv, xB G 16 vb), (nv, xB G 16 (fun _ => 0)), (he, xO 6 [.int (nI (KC + 6)), .ref wa, .int (nI z), .ref hs]), (hs, xB G 256 (sF z))] s s.heap H locs := w
  refine lv_goto (tgt := 118) hx hb dX9_init_2_100 (by decide) ?_
  exact xr_vret C hlk hr w hAe hQ (by decide) (by decide) (wa, hs) rfl (⟨rfl, Nat.le_trans (by rw [← hsz]; exact hle) hwa, hKW, hfar⟩) dX9_init_2_118

set_option maxHeartbeats 4000000 in
set_option maxRecDepth 100000 in
theorem met_X9_encryptBlock (l : Launch) (G : GG) (sz : Nat) (h : Nat) (hi : Nat) (io : Nat) (ho : Nat) (oo : Nat) (iv : Nat) (cv : Nat) (nv : Nat) (he : Nat) (cb : Nat → BitVec 8) (ni : Nat) (bi : Nat → BitVec 8) (no : Nat) (bo : Nat → BitVec 8) (wa : Nat) (KC : Nat) (hs : Nat) (ad : Nat → Nat) (kw : Nat → Nat → Int32) (hKC : KC = 4 ∨ KC = 6 ∨ KC = 8) (hio : io + 16 ≤ ni) (hni : ni < 2 ^ 30) (hoo : oo + 16 ≤ no) (hno : no < 2 ^ 30) (hEA : ∀ q, EngF he wa KC hs ad q → ¬ va_A [(h, xO 5 [.ref iv, .ref cv, .ref nv, .int (nI 16), .ref he, .int (nI 1)]), (cv, xB G 16 cb), (ho, xB G no bo)] sz q) (ap0_0 : h ≠ hi) (ap0_1 : cv ≠ hi) (ap0_2 : ho ≠ hi) : Met l yX9_encryptBlock (ws_ yX9_encryptBlock cX9_encryptBlock 6 (some .int)) ({ frames := 3, cells := 0, slots := 0, locals := 101 } : Room) (va_Pc [.ref h, .ref hi, .int (nI io), .ref ho, .int (nI oo)] (PP G [(h, xO 5 [.ref iv, .ref cv, .ref nv, .int (nI 16), .ref he, .int (nI 1)]), (cv, xB G 16 cb), (ho, xB G no bo)] sz (fun U : State => va_P G.1 vwCl [(hi, xB G ni bi)] U.heap ∧ Eng G he wa KC 1 hs ad kw U.heap))) (CQ G [(h, xO 5 [.ref iv, .ref cv, .ref nv, .int (nI 16), .ref he, .int (nI 1)]), (cv, xB G 16 cb), (ho, xB G no bo)] sz (fun u : Unit => [(h, xO 5 [.ref iv, .ref cv, .ref nv, .int (nI 16), .ref he, .int (nI 1)]), (cv, xB G 16 (blkE KC kw (fun j => cb j ^^^ bi (io + j)) 0)), (ho, xB G no (va_cpy (blkE KC kw (fun j => cb j ^^^ bi (io + j)) 0) bo 0 oo 16))]) (fun (u : Unit) (v : Option Value) (H : Heap) => v = some (.int (nI 16)))) 0 0 (va_A [(h, xO 5 [.ref iv, .ref cv, .ref nv, .int (nI 16), .ref he, .int (nI 1)]), (cv, xB G 16 cb), (ho, xB G no bo)] sz) := by
  refine xr_met (own := RX9) (by decide) rfl (Nat.le_of_ble_eq_true rfl) ?_
  intro p e s m args below meth c ls Q A C hlk hr hnm hsz hAe w hRD hQ hl
  have hx := C.1
  have hb := C.2.1
  have w : Wd G A [(h, xO 5 [.ref iv, .ref cv, .ref nv, .int (nI 16), .ref he, .int (nI 1)]), (cv, xB G 16 cb), (ho, xB G no bo)] s s.heap s.heap [] := w
  have hl : lv_has ls 6 [(0, .ref h), (1, .ref hi), (2, .int (nI io)), (3, .ref ho), (4, .int (nI oo))] := hl
  obtain ⟨hRd, hE⟩ := hRD
  have hR0 : va_P G.1 vwCl [(hi, xB G ni bi)] s.heap := va_P.sub hRd [0] rfl
  have hN0 : ¬ A hi := by rw [hAe]; exact xn_L (by rw [← hsz]; exact (hR0 0 _ rfl).lt) (List.forall_mem_cons.mpr ⟨ap0_0, (List.forall_mem_cons.mpr ⟨ap0_1, (List.forall_mem_cons.mpr ⟨ap0_2, (fun _ h => absurd h List.not_mem_nil)⟩)⟩)⟩)
  have hEA : ∀ q, EngF he wa KC hs ad q → ¬ A q := by rw [hAe]; exact hEA
  refine lv_iload_n hx hb dX9_encryptBlock_0 rfl (lv_at hl 2 rfl) ?_
  refine lv_aload_n hx hb dX9_encryptBlock_1 rfl (lv_at hl 0 rfl) ?_
  refine xr_get (ci := 5) (v := .int (nI 16)) (Cn := RX9) (T := TX9) (N := 6) C (w.at 0 rfl) in_X9 rfl 3 (by decide) q175 (fun _ h => h) rfl dX9_encryptBlock_2 ?_
  refine lv_iadd hx hb dX9_encryptBlock_5 ?_
  refine lv_eqi (nI_add io 16) ?_
  refine lv_aload_n hx hb dX9_encryptBlock_6 rfl (lv_at hl 1 rfl) ?_
  refine xr_alenP C hR0 0 rfl dX9_encryptBlock_7 ?_
  refine xr_icmp_le (a := io + 16) (b := ni) (tgt := 21) hx hb dX9_encryptBlock_8 (by decide) (by omega) (by omega) (fun c_8 => ?_) (fun c_8 => absurd c_8 (by omega))
  refine lv_iconst (v := nI 0) hx hb dX9_encryptBlock_21 (by decide) ?_
  refine lv_istore (lv' := [(5, .int (nI 0)), (0, .ref h), (1, .ref hi), (2, .int (nI io)), (3, .ref ho), (4, .int (nI oo))]) hx hb dX9_encryptBlock_22 hl (by decide) rfl (fun ls hl => ?_)
  have loop_24 : ∀ (nn : Nat) (i : Nat) (f : Nat → BitVec 8), 16 - i < nn → (hi16 : i ≤ 16) → (hf : XL f cb (fun j => bi (io + j)) i 16) → ∀ (H : Heap) (locs : List Loc) (ls : Array Slot), Wd G A [(h, xO 5 [.ref iv, .ref cv, .ref nv, .int (nI 16), .ref he, .int (nI 1)]), (cv, xB G 16 f), (ho, xB G no bo)] s s.heap H locs → lv_has ls 6 [(0, .ref h), (1, .ref hi), (2, .int (nI io)), (3, .ref ho), (4, .int (nI oo)), (5, .int (nI i))] → W p l e ({ frames := 3, cells := 0, slots := 0, locals := 101 } : Room) s m args below meth c H locs 0 0 Q (F0 m 24 ls []) := by
    intro nn
    induction nn with
    | zero => intro i f hmm; exact absurd hmm (Nat.not_lt_zero _)
    | succ nn ih_24 =>
      intro i f hmm hi16 hf H locs ls w hl
      refine lv_iload hx hb dX9_encryptBlock_24 (lv_at hl 5 rfl) ?_
      refine lv_aload_n hx hb dX9_encryptBlock_26 rfl (lv_at hl 0 rfl) ?_
      refine xr_get (ci := 5) (v := .int (nI 16)) (Cn := RX9) (T := TX9) (N := 6) C (w.at 0 rfl) in_X9 rfl 3 (by decide) q175 (fun _ h => h) rfl dX9_encryptBlock_27 ?_
      refine xr_icmp_ge (a := i) (b := 16) (tgt := 56) hx hb dX9_encryptBlock_30 (by decide) (by omega) (by omega) (fun c_30 => ?_) (fun c_30 => ?_)
      · have w := w.bx 1 rfl (b' := (fun j => cb j ^^^ bi (io + j))) (XL_end hf (by omega))
        have w : Wd G A [(h, xO 5 [.ref iv, .ref cv, .ref nv, .int (nI 16), .ref he, .int (nI 1)]), (cv, xB G 16 (fun j => cb j ^^^ bi (io + j))), (ho, xB G no bo)] s s.heap H locs := w
        refine lv_aload_n hx hb dX9_encryptBlock_56 rfl (lv_at hl 0 rfl) ?_
        refine xr_get (ci := 5) (v := .ref he) (Cn := RX9) (T := TX9) (N := 6) C (w.at 0 rfl) in_X9 rfl 4 (by decide) q176 (fun _ h => h) rfl dX9_encryptBlock_57 ?_
        refine lv_aload_n hx hb dX9_encryptBlock_60 rfl (lv_at hl 0 rfl) ?_
        refine xr_get (ci := 5) (v := .ref cv) (Cn := RX9) (T := TX9) (N := 6) C (w.at 0 rfl) in_X9 rfl 1 (by decide) q173 (fun _ h => h) rfl dX9_encryptBlock_61 ?_
        refine lv_iconst (v := nI 0) hx hb dX9_encryptBlock_64 (by decide) ?_
        refine lv_aload_n hx hb dX9_encryptBlock_65 rfl (lv_at hl 3 rfl) ?_
        refine lv_iload hx hb dX9_encryptBlock_66 (lv_at hl 4 rfl) ?_
        refine xr_callF (n := 4) (rest := []) (wr := [(h, xO 5 [.ref iv, .ref cv, .ref nv, .int (nI 16), .ref he, .int (nI 1)]), (cv, xB G 16 (fun j => cb j ^^^ bi (io + j)))]) (Cn := RX10) (T := TX10) (N := 4) C w (met_pb1 l G H.size he cv 0 ho oo wa KC hs 16 (fun j => cb j ^^^ bi (io + j)) no bo ad kw (hKC) (by omega) (by omega) (by omega) (by omega)) (va_P.sub (hE.keep hEA w.2.2.1).1 [0] rfl) rfl (by decide +kernel) q603 q553 q555 q19 q557 (by decide +kernel) ⟨rfl, rfl, by decide, by decide⟩ (fun _ _ _ _ h => h) (fun U hU hW => by rw [hU]; exact ⟨(xp_cons (w.at 1 rfl) xp_nil), hE.keep hEA w.2.2.1⟩) [2] [0, 1] rfl rfl rfl rfl (by decide) rfl hl.1 rfl (Nat.le_of_ble_eq_true rfl) dX9_encryptBlock_68 ⟨by decide, by decide⟩ (fun u v H1 locs hp hz_68 hk_68 w => ?_)
        generalize H1 = H at hp w ⊢
        subst hp
        have w : Wd G A [(h, xO 5 [.ref iv, .ref cv, .ref nv, .int (nI 16), .ref he, .int (nI 1)]), (cv, xB G 16 (fun j => cb j ^^^ bi (io + j))), (ho, xB G no (va_cpy (wby (eO KC kw (xw0 (fun j => cb j ^^^ bi (io + j)) 0 kw 0))) bo 0 oo 16))] s s.heap H locs := w
        refine lv_istore (lv' := [(5, .int (nI 16)), (0, .ref h), (1, .ref hi), (2, .int (nI io)), (3, .ref ho), (4, .int (nI oo))]) hx hb dX9_encryptBlock_73 hl (by decide) rfl (fun ls hl => ?_)
        refine lv_aload_n hx hb dX9_encryptBlock_75 rfl (lv_at hl 4 rfl) ?_
        refine lv_iload hx hb dX9_encryptBlock_76 (lv_at hl 5 rfl) ?_
        refine lv_aload_n hx hb dX9_encryptBlock_78 rfl (lv_at hl 1 rfl) ?_
        refine xr_get (ci := 5) (v := .ref cv) (Cn := RX9) (T := TX9) (N := 6) C (w.at 0 rfl) in_X9 rfl 1 (by decide) q173 (fun _ h => h) rfl dX9_encryptBlock_79 ?_
        refine lv_iconst (v := nI 0) hx hb dX9_encryptBlock_82 (by decide) ?_
        refine lv_aload_n hx hb dX9_encryptBlock_83 rfl (lv_at hl 1 rfl) ?_
        refine xr_get (ci := 5) (v := .ref cv) (Cn := RX9) (T := TX9) (N := 6) C (w.at 0 rfl) in_X9 rfl 1 (by decide) q173 (fun _ h => h) rfl dX9_encryptBlock_84 ?_
        refine xr_alenP C (w.at 1 rfl) 0 rfl dX9_encryptBlock_87 ?_
        refine xr_copy C w q286 1 (sp := oo) (dp := 0) (n := 16) (w.at 2 rfl) rfl (by omega) (by omega) (by omega) (by omega) hl.1 (by decide) (Nat.le_of_ble_eq_true rfl) dX9_encryptBlock_88 (fun H locs w => ?_)
        have w : Wd G A [(h, xO 5 [.ref iv, .ref cv, .ref nv, .int (nI 16), .ref he, .int (nI 1)]), (cv, xB G 16 (va_cpy (va_cpy (wby (eO KC kw (xw0 (fun j => cb j ^^^ bi (io + j)) 0 kw 0))) bo 0 oo 16) (fun j => cb j ^^^ bi (io + j)) oo 0 16)), (ho, xB G no (va_cpy (wby (eO KC kw (xw0 (fun j => cb j ^^^ bi (io + j)) 0 kw 0))) bo 0 oo 16))] s s.heap H locs := w
        refine lv_iload hx hb dX9_encryptBlock_91 (lv_at hl 0 rfl) ?_
        have w := w.bx 1 rfl (b' := blkE KC kw (fun j => cb j ^^^ bi (io + j)) 0) (fun j hj => cpy_back _ _ _ _ j hj)
        exact xr_iret C hlk hr w hAe hQ (by decide) (by decide) () rfl (rfl) dX9_encryptBlock_93
      · refine lv_aload_n hx hb dX9_encryptBlock_33 rfl (lv_at hl 0 rfl) ?_
        refine xr_get (ci := 5) (v := .ref cv) (Cn := RX9) (T := TX9) (N := 6) C (w.at 0 rfl) in_X9 rfl 1 (by decide) q173 (fun _ h => h) rfl dX9_encryptBlock_34 ?_
        refine lv_iload hx hb dX9_encryptBlock_37 (lv_at hl 5 rfl) ?_
        refine lv_dup2_11 hx hb dX9_encryptBlock_39 rfl rfl ?_
        refine xr_bald C (i := i) (w.at 1 rfl) (by omega) (by omega) dX9_encryptBlock_40 ?_
        refine lv_aload_n hx hb dX9_encryptBlock_41 rfl (lv_at hl 1 rfl) ?_
        refine lv_iload_n hx hb dX9_encryptBlock_42 rfl (lv_at hl 2 rfl) ?_
        refine lv_iload hx hb dX9_encryptBlock_43 (lv_at hl 5 rfl) ?_
        refine lv_iadd hx hb dX9_encryptBlock_45 ?_
        refine lv_eqi (nI_add io i) ?_
        refine xr_bald C (i := io + i) (xp_keep hR0 (xn_1 hN0) w.2.2.1) (by omega) (by omega) dX9_encryptBlock_46 ?_
        refine lv_ixor hx hb dX9_encryptBlock_47 ?_
        refine lv_i2b (v := (sB (lo8 ((sB (f i)) ^^^ (sB (bi (io + i))))))) hx hb dX9_encryptBlock_48 (i2b_sB _) ?_
        refine xr_bast C w 1 (i := i) (f i ^^^ bi (io + i)) (lo8_x2 _ _) rfl (by omega) (by omega) dX9_encryptBlock_49 (fun H locs w => ?_)
        have w : Wd G A [(h, xO 5 [.ref iv, .ref cv, .ref nv, .int (nI 16), .ref he, .int (nI 1)]), (cv, xB G 16 (va_up f i (f i ^^^ bi (io + i)))), (ho, xB G no bo)] s s.heap H locs := w
        refine lv_iinc (v := nI (i + 1)) (lv' := [(5, .int (nI (i + 1))), (0, .ref h), (1, .ref hi), (2, .int (nI io)), (3, .ref ho), (4, .int (nI oo))]) hx hb dX9_encryptBlock_50 hl (k := 5) rfl (nI_add i 1) (by decide) rfl (fun ls hl => ?_)
        refine lv_goto (tgt := 24) hx hb dX9_encryptBlock_53 (by decide) ?_
        exact ih_24 (i + 1) _ (by omega) (by omega) (XL_put hf (by omega)) _ _ _ w (lv_sub hl [1, 2, 3, 4, 5, 0] rfl)
  exact loop_24 ((16 - 0) + 1) 0 _ (by omega) (by decide) (XL_0) _ _ _ w (lv_sub hl [1, 2, 3, 4, 5, 0] rfl)

set_option maxHeartbeats 4000000 in
set_option maxRecDepth 100000 in
theorem met_X9_dec0 (l : Launch) (G : GG) (sz : Nat) (h : Nat) (hi : Nat) (io : Nat) (ho : Nat) (oo : Nat) (iv : Nat) (cv : Nat) (nv : Nat) (he : Nat) (cb : Nat → BitVec 8) (nb : Nat → BitVec 8) (ni : Nat) (bi : Nat → BitVec 8) (no : Nat) (bo : Nat → BitVec 8) (wa : Nat) (KC : Nat) (hs : Nat) (ad : Nat → Nat) (kw : Nat → Nat → Int32) (hKC : KC = 4 ∨ KC = 6 ∨ KC = 8) (hio : io + 16 ≤ ni) (hni : ni < 2 ^ 30) (hoo : oo + 16 ≤ no) (hno : no < 2 ^ 30) (hEA : ∀ q, EngF he wa KC hs ad q → ¬ va_A [(h, xO 5 [.ref iv, .ref cv, .ref nv, .int (nI 16), .ref he, .int (nI 0)]), (cv, xB G 16 cb), (nv, xB G 16 nb), (ho, xB G no bo)] sz q) (ap0_0 : h ≠ hi) (ap0_1 : cv ≠ hi) (ap0_2 : nv ≠ hi) (ap0_3 : ho ≠ hi) : Met l yX9_decryptBlock (ws_ yX9_decryptBlock cX9_decryptBlock 7 (some .int)) ({ frames := 3, cells := 0, slots := 0, locals := 101 } : Room) (va_Pc [.ref h, .ref hi, .int (nI io), .ref ho, .int (nI oo)] (PP G [(h, xO 5 [.ref iv, .ref cv, .ref nv, .int (nI 16), .ref he, .int (nI 0)]), (cv, xB G 16 cb), (nv, xB G 16 nb), (ho, xB G no bo)] sz (fun U : State => va_P G.1 vwCl [(hi, xB G ni bi)] U.heap ∧ Eng G he wa KC 0 hs ad kw U.heap))) (CQ G [(h, xO 5 [.ref iv, .ref cv, .ref nv, .int (nI 16), .ref he, .int (nI 0)]), (cv, xB G 16 cb), (nv, xB G 16 nb), (ho, xB G no bo)] sz (fun u : Unit => [(h, xO 5 [.ref iv, .ref nv, .ref cv, .int (nI 16), .ref he, .int (nI 0)]), (nv, xB G 16 (fun j => bi (io + j))), (cv, xB G 16 cb), (ho, xB G no (va_cpy (fun i => blkD KC kw bi io i ^^^ cb i) bo 0 oo 16))]) (fun (u : Unit) (v : Option Value) (H : Heap) => v = some (.int (nI 16)))) 0 0 (va_A [(h, xO 5 [.ref iv, .ref cv, .ref nv, .int (nI 16), .ref he, .int (nI 0)]), (cv, xB G 16 cb), (nv, xB G 16 nb), (ho, xB G no bo)] sz) := by
  refine xr_met (own := RX9) (by decide) rfl (Nat.le_of_ble_eq_true rfl) ?_
  intro p e s m args below meth c ls Q A C hlk hr hnm hsz hAe w hRD hQ hl
  have hx := C.1
  have hb := C.2.1
  have w : Wd G A [(h, xO 5 [.ref iv, .ref cv, .ref nv, .int (nI 16), .ref he, .int (nI 0)]), (cv, xB G 16 cb), (nv, xB G 16 nb), (ho, xB G no bo)] s s.heap s.heap [] := w
  have hl : lv_has ls 7 [(0, .ref h), (1, .ref hi), (2, .int (nI io)), (3, .ref ho), (4, .int (nI oo))] := hl
  obtain ⟨hRd, hE⟩ := hRD
  have hR0 : va_P G.1 vwCl [(hi, xB G ni bi)] s.heap := va_P.sub hRd [0] rfl
  have hN0 : ¬ A hi := by rw [hAe]; exact xn_L (by rw [← hsz]; exact (hR0 0 _ rfl).lt) (List.forall_mem_cons.mpr ⟨ap0_0, (List.forall_mem_cons.mpr ⟨ap0_1, (List.forall_mem_cons.mpr ⟨ap0_2, (List.forall_mem_cons.mpr ⟨ap0_3, (fun _ h => absurd h List.not_mem_nil)⟩)⟩)⟩)⟩)
  have hEA : ∀ q, EngF he wa KC hs ad q → ¬ A q := by rw [hAe]; exact hEA
  refine lv_iload_n hx hb dX9_decryptBlock_0 rfl (lv_at hl 2 rfl) ?_
  refine lv_aload_n hx hb dX9_decryptBlock_1 rfl (lv_at hl 0 rfl) ?_
  refine xr_get (ci := 5) (v := .int (nI 16)) (Cn := RX9) (T := TX9) (N := 6) C (w.at 0 rfl) in_X9 rfl 3 (by decide) q175 (fun _ h => h) rfl dX9_decryptBlock_2 ?_
  refine lv_iadd hx hb dX9_decryptBlock_5 ?_
  refine lv_eqi (nI_add io 16) ?_
  refine lv_aload_n hx hb dX9_decryptBlock_6 rfl (lv_at hl 1 rfl) ?_
  refine xr_alenP C hR0 0 rfl dX9_decryptBlock_7 ?_
  refine xr_icmp_le (a := io + 16) (b := ni) (tgt := 21) hx hb dX9_decryptBlock_8 (by decide) (by omega) (by omega) (fun c_8 => ?_) (fun c_8 => absurd c_8 (by omega))
  refine lv_aload_n hx hb dX9_decryptBlock_21 rfl (lv_at hl 1 rfl) ?_
  refine lv_iload_n hx hb dX9_decryptBlock_22 rfl (lv_at hl 2 rfl) ?_
  refine lv_aload_n hx hb dX9_decryptBlock_23 rfl (lv_at hl 0 rfl) ?_
  refine xr_get (ci := 5) (v := .ref nv) (Cn := RX9) (T := TX9) (N := 6) C (w.at 0 rfl) in_X9 rfl 2 (by decide) q174 (fun _ h => h) rfl dX9_decryptBlock_24 ?_
  refine lv_iconst (v := nI 0) hx hb dX9_decryptBlock_27 (by decide) ?_
  refine lv_aload_n hx hb dX9_decryptBlock_28 rfl (lv_at hl 0 rfl) ?_
  refine xr_get (ci := 5) (v := .int (nI 16)) (Cn := RX9) (T := TX9) (N := 6) C (w.at 0 rfl) in_X9 rfl 3 (by decide) q175 (fun _ h => h) rfl dX9_decryptBlock_29 ?_
  refine xr_copy C w q286 2 (sp := io) (dp := 0) (n := 16) hR0 rfl (by omega) (by omega) (by omega) (by omega) hl.1 (by decide) (Nat.le_of_ble_eq_true rfl) dX9_decryptBlock_32 (fun H locs w => ?_)
  have w : Wd G A [(h, xO 5 [.ref iv, .ref cv, .ref nv, .int (nI 16), .ref he, .int (nI 0)]), (cv, xB G 16 cb), (nv, xB G 16 (va_cpy bi nb io 0 16)), (ho, xB G no bo)] s s.heap H locs := w
  have w := w.bx 2 rfl (b' := fun j => bi (io + j)) (fun j hj => cpy_16 _ _ _ j hj)
  have w : Wd G A [(h, xO 5 [.ref iv, .ref cv, .ref nv, .int (nI 16), .ref he, .int (nI 0)]), (cv, xB G 16 cb), (nv, xB G 16 (fun j => bi (io + j))), (ho, xB G no bo)] s s.heap H locs := w
  refine lv_aload_n hx hb dX9_decryptBlock_35 rfl (lv_at hl 0 rfl) ?_
  refine xr_get (ci := 5) (v := .ref he) (Cn := RX9) (T := TX9) (N := 6) C (w.at 0 rfl) in_X9 rfl 4 (by decide) q176 (fun _ h => h) rfl dX9_decryptBlock_36 ?_
  refine lv_aload_n hx hb dX9_decryptBlock_39 rfl (lv_at hl 1 rfl) ?_
  refine lv_iload_n hx hb dX9_decryptBlock_40 rfl (lv_at hl 2 rfl) ?_
  refine lv_aload_n hx hb dX9_decryptBlock_41 rfl (lv_at hl 3 rfl) ?_
  refine lv_iload hx hb dX9_decryptBlock_42 (lv_at hl 4 rfl) ?_
  refine xr_callF (n := 4) (rest := []) (wr := [(h, xO 5 [.ref iv, .ref cv, .ref nv, .int (nI 16), .ref he, .int (nI 0)]), (cv, xB G 16 cb), (nv, xB G 16 (fun j => bi (io + j)))]) (Cn := RX10) (T := TX10) (N := 4) C w (met_pb0 l G H.size he hi io ho oo wa KC hs ni bi no bo ad kw (hKC) (by omega) (by omega) (by omega) (by omega)) (va_P.sub (hE.keep hEA w.2.2.1).1 [0] rfl) rfl (by decide +kernel) q603 q553 q555 q19 q557 (by decide +kernel) ⟨rfl, rfl, by decide, by decide⟩ (fun _ _ _ _ h => h) (fun U hU hW => by rw [hU]; exact ⟨(xp_cons (xp_keep hR0 (xn_1 hN0) w.2.2.1) xp_nil), hE.keep hEA w.2.2.1⟩) [3] [0, 1, 2] rfl rfl rfl rfl (by decide) rfl hl.1 rfl (Nat.le_of_ble_eq_true rfl) dX9_decryptBlock_44 ⟨by decide, by decide⟩ (fun u v H1 locs hp hz_44 hk_44 w => ?_)
  generalize H1 = H at hp w ⊢
  subst hp
  have w : Wd G A [(h, xO 5 [.ref iv, .ref cv, .ref nv, .int (nI 16), .ref he, .int (nI 0)]), (cv, xB G 16 cb), (nv, xB G 16 (fun j => bi (io + j))), (ho, xB G no (va_cpy (wby (dO KC kw (xw0 bi io kw (KC + 6)))) bo 0 oo 16))] s s.heap H locs := w
  refine lv_istore (lv' := [(5, .int (nI 16)), (0, .ref h), (1, .ref hi), (2, .int (nI io)), (3, .ref ho), (4, .int (nI oo))]) hx hb dX9_decryptBlock_49 hl (by decide) rfl (fun ls hl => ?_)
  refine lv_iconst (v := nI 0) hx hb dX9_decryptBlock_51 (by decide) ?_
  refine lv_istore (lv' := [(6, .int (nI 0)), (5, .int (nI 16)), (0, .ref h), (1, .ref hi), (2, .int (nI io)), (3, .ref ho), (4, .int (nI oo))]) hx hb dX9_decryptBlock_52 hl (by decide) rfl (fun ls hl => ?_)
  have loop_54 : ∀ (nn : Nat) (i : Nat) (f : Nat → BitVec 8), 16 - i < nn → (hi16 : i ≤ 16) → (hf : XO f (va_cpy (blkD KC kw bi io) bo 0 oo 16) cb oo i) → ∀ (H : Heap) (locs : List Loc) (ls : Array Slot), Wd G A [(h, xO 5 [.ref iv, .ref cv, .ref nv, .int (nI 16), .ref he, .int (nI 0)]), (cv, xB G 16 cb), (nv, xB G 16 (fun j => bi (io + j))), (ho, xB G no f)] s s.heap H locs → lv_has ls 7 [(0, .ref h), (3, .ref ho), (4, .int (nI oo)), (5, .int (nI 16)), (6, .int (nI i))] → W p l e ({ frames := 3, cells := 0, slots := 0, locals := 101 } : Room) s m args below meth c H locs 0 0 Q (F0 m 54 ls []) := by
    intro nn
    induction nn with
    | zero => intro i f hmm; exact absurd hmm (Nat.not_lt_zero _)
    | succ nn ih_54 =>
      intro i f hmm hi16 hf H locs ls w hl
      refine lv_iload hx hb dX9_decryptBlock_54 (lv_at hl 4 rfl) ?_
      refine lv_aload_n hx hb dX9_decryptBlock_56 rfl (lv_at hl 0 rfl) ?_
      refine xr_get (ci := 5) (v := .int (nI 16)) (Cn := RX9) (T := TX9) (N := 6) C (w.at 0 rfl) in_X9 rfl 3 (by decide) q175 (fun _ h => h) rfl dX9_decryptBlock_57 ?_
      refine xr_icmp_ge (a := i) (b := 16) (tgt := 87) hx hb dX9_decryptBlock_60 (by decide) (by omega) (by omega) (fun c_60 => ?_) (fun c_60 => ?_)
      · have h16 : i = 16 := by omega
        subst h16
        have w := w.bx 3 rfl (b' := va_cpy (fun i => blkD KC kw bi io i ^^^ cb i) bo 0 oo 16) (fun j _ => XO_end hf j)
        have w : Wd G A [(h, xO 5 [.ref iv, .ref cv, .ref nv, .int (nI 16), .ref he, .int (nI 0)]), (cv, xB G 16 cb), (nv, xB G 16 (fun j => bi (io + j))), (ho, xB G no (va_cpy (fun i => blkD KC kw bi io i ^^^ cb i) bo 0 oo 16))] s s.heap H locs := w
        refine lv_aload_n hx hb dX9_decryptBlock_87 rfl (lv_at hl 0 rfl) ?_
        refine xr_get (ci := 5) (v := .ref cv) (Cn := RX9) (T := TX9) (N := 6) C (w.at 0 rfl) in_X9 rfl 1 (by decide) q173 (fun _ h => h) rfl dX9_decryptBlock_88 ?_
        refine lv_astore (lv' := [(6, .ref cv), (0, .ref h), (3, .ref ho), (4, .int (nI oo)), (5, .int (nI 16))]) hx hb dX9_decryptBlock_91 hl (by decide) rfl (fun ls hl => ?_)
        refine lv_aload_n hx hb dX9_decryptBlock_93 rfl (lv_at hl 1 rfl) ?_
        refine lv_aload_n hx hb dX9_decryptBlock_94 rfl (lv_at hl 1 rfl) ?_
        refine xr_get (ci := 5) (v := .ref nv) (Cn := RX9) (T := TX9) (N := 6) C (w.at 0 rfl) in_X9 rfl 2 (by decide) q174 (fun _ h => h) rfl dX9_decryptBlock_95 ?_
        refine xr_put (ci := 5) (v := .ref nv) (ty := (.array .byte)) (Cn := RX9) (T := TX9) (N := 6) C w 0 rfl in_X9 tyX9 tyX9_ok nmX9 rfl 1 (by decide) q173 (fun _ h => h) rfl (by decide +kernel) (rfl) (rfl) (Nat.le_of_ble_eq_true rfl) dX9_decryptBlock_98 (fun H locs w => ?_)
        have w : Wd G A [(h, xO 5 [.ref iv, .ref nv, .ref nv, .int (nI 16), .ref he, .int (nI 0)]), (cv, xB G 16 cb), (nv, xB G 16 (fun j => bi (io + j))), (ho, xB G no (va_cpy (fun i => blkD KC kw bi io i ^^^ cb i) bo 0 oo 16))] s s.heap H locs := w
        refine lv_aload_n hx hb dX9_decryptBlock_101 rfl (lv_at hl 1 rfl) ?_
        refine lv_aload hx hb dX9_decryptBlock_102 (lv_at hl 0 rfl) ?_
        refine xr_put (ci := 5) (v := .ref cv) (ty := (.array .byte)) (Cn := RX9) (T := TX9) (N := 6) C w 0 rfl in_X9 tyX9 tyX9_ok nmX9 rfl 2 (by decide) q174 (fun _ h => h) rfl (by decide +kernel) (rfl) (rfl) (Nat.le_of_ble_eq_true rfl) dX9_decryptBlock_104 (fun H locs w => ?_)
        have w : Wd G A [(h, xO 5 [.ref iv, .ref nv, .ref cv, .int (nI 16), .ref he, .int (nI 0)]), (cv, xB G 16 cb), (nv, xB G 16 (fun j => bi (io + j))), (ho, xB G no (va_cpy (fun i => blkD KC kw bi io i ^^^ cb i) bo 0 oo 16))] s s.heap H locs := w
        refine lv_iload hx hb dX9_decryptBlock_107 (lv_at hl 4 rfl) ?_
        exact xr_iret C hlk hr (w.sub [0, 2, 1, 3] rfl rfl) hAe hQ (by decide) (by decide) () rfl (rfl) dX9_decryptBlock_109
      · refine lv_aload_n hx hb dX9_decryptBlock_63 rfl (lv_at hl 1 rfl) ?_
        refine lv_iload hx hb dX9_decryptBlock_64 (lv_at hl 2 rfl) ?_
        refine lv_iload hx hb dX9_decryptBlock_66 (lv_at hl 4 rfl) ?_
        refine lv_iadd hx hb dX9_decryptBlock_68 ?_
        refine lv_eqi (nI_add oo i) ?_
        refine lv_dup2_11 hx hb dX9_decryptBlock_69 rfl rfl ?_
        refine xr_bald C (i := oo + i) (w.at 3 rfl) (by omega) (by omega) dX9_decryptBlock_70 ?_
        refine lv_aload_n hx hb dX9_decryptBlock_71 rfl (lv_at hl 0 rfl) ?_
        refine xr_get (ci := 5) (v := .ref cv) (Cn := RX9) (T := TX9) (N := 6) C (w.at 0 rfl) in_X9 rfl 1 (by decide) q173 (fun _ h => h) rfl dX9_decryptBlock_72 ?_
        refine lv_iload hx hb dX9_decryptBlock_75 (lv_at hl 4 rfl) ?_
        refine xr_bald C (i := i) (w.at 1 rfl) (by omega) (by omega) dX9_decryptBlock_77 ?_
        refine lv_ixor hx hb dX9_decryptBlock_78 ?_
        refine lv_i2b (v := (sB (lo8 ((sB (f (oo + i))) ^^^ (sB (cb i)))))) hx hb dX9_decryptBlock_79 (i2b_sB _) ?_
        refine xr_bast C w 3 (i := oo + i) (f (oo + i) ^^^ cb i) (lo8_x2 _ _) rfl (by omega) (by omega) dX9_decryptBlock_80 (fun H locs w => ?_)
        have w : Wd G A [(h, xO 5 [.ref iv, .ref cv, .ref nv, .int (nI 16), .ref he, .int (nI 0)]), (cv, xB G 16 cb), (nv, xB G 16 (fun j => bi (io + j))), (ho, xB G no (va_up f (oo + i) (f (oo + i) ^^^ cb i)))] s s.heap H locs := w
        refine lv_iinc (v := nI (i + 1)) (lv' := [(6, .int (nI (i + 1))), (0, .ref h), (3, .ref ho), (4, .int (nI oo)), (5, .int (nI 16))]) hx hb dX9_decryptBlock_81 hl (k := 4) rfl (nI_add i 1) (by decide) rfl (fun ls hl => ?_)
        refine lv_goto (tgt := 54) hx hb dX9_decryptBlock_84 (by decide) ?_
        exact ih_54 (i + 1) _ (by omega) (by omega) (XO_put hf) _ _ _ w (lv_sub hl [1, 2, 3, 4, 0] rfl)
  exact loop_54 ((16 - 0) + 1) 0 _ (by omega) (by decide) (XO_0) _ _ _ w (lv_sub hl [2, 5, 6, 1, 0] rfl)

set_option maxHeartbeats 4000000 in
set_option maxRecDepth 100000 in
theorem met_X9_dec1 (l : Launch) (G : GG) (sz : Nat) (h : Nat) (io : Nat) (ho : Nat) (oo : Nat) (iv : Nat) (cv : Nat) (nv : Nat) (he : Nat) (cb : Nat → BitVec 8) (nb : Nat → BitVec 8) (no : Nat) (bo : Nat → BitVec 8) (wa : Nat) (KC : Nat) (hs : Nat) (ad : Nat → Nat) (kw : Nat → Nat → Int32) (hKC : KC = 4 ∨ KC = 6 ∨ KC = 8) (hio : io + 16 ≤ no) (hoo : oo + 16 ≤ no) (hno : no < 2 ^ 30) (hEA : ∀ q, EngF he wa KC hs ad q → ¬ va_A [(h, xO 5 [.ref iv, .ref cv, .ref nv, .int (nI 16), .ref he, .int (nI 0)]), (cv, xB G 16 cb), (nv, xB G 16 nb), (ho, xB G no bo)] sz q) : Met l yX9_decryptBlock (ws_ yX9_decryptBlock cX9_decryptBlock 7 (some .int)) ({ frames := 3, cells := 0, slots := 0, locals := 101 } : Room) (va_Pc [.ref h, .ref ho, .int (nI io), .ref ho, .int (nI oo)] (PP G [(h, xO 5 [.ref iv, .ref cv, .ref nv, .int (nI 16), .ref he, .int (nI 0)]), (cv, xB G 16 cb), (nv, xB G 16 nb), (ho, xB G no bo)] sz (fun U : State => Eng G he wa KC 0 hs ad kw U.heap))) (CQ G [(h, xO 5 [.ref iv, .ref cv, .ref nv, .int (nI 16), .ref he, .int (nI 0)]), (cv, xB G 16 cb), (nv, xB G 16 nb), (ho, xB G no bo)] sz (fun u : Unit => [(h, xO 5 [.ref iv, .ref nv, .ref cv, .int (nI 16), .ref he, .int (nI 0)]), (nv, xB G 16 (fun j => bo (io + j))), (cv, xB G 16 cb), (ho, xB G no (va_cpy (fun i => blkD KC kw bo io i ^^^ cb i) bo 0 oo 16))]) (fun (u : Unit) (v : Option Value) (H : Heap) => v = some (.int (nI 16)))) 0 0 (va_A [(h, xO 5 [.ref iv, .ref cv, .ref nv, .int (nI 16), .ref he, .int (nI 0)]), (cv, xB G 16 cb), (nv, xB G 16 nb), (ho, xB G no bo)] sz) := by
  refine xr_met (own := RX9) (by decide) rfl (Nat.le_of_ble_eq_true rfl) ?_
  intro p e s m args below meth c ls Q A C hlk hr hnm hsz hAe w hRD hQ hl
  have hx := C.1
  have hb := C.2.1
  have w : Wd G A [(h, xO 5 [.ref iv, .ref cv, .ref nv, .int (nI 16), .ref he, .int (nI 0)]), (cv, xB G 16 cb), (nv, xB G 16 nb), (ho, xB G no bo)] s s.heap s.heap [] := w
  have hl : lv_has ls 7 [(0, .ref h), (1, .ref ho), (2, .int (nI io)), (3, .ref ho), (4, .int (nI oo))] := hl
  have hE := hRD
  have hEA : ∀ q, EngF he wa KC hs ad q → ¬ A q := by rw [hAe]; exact hEA
  refine lv_iload_n hx hb dX9_decryptBlock_0 rfl (lv_at hl 2 rfl) ?_
  refine lv_aload_n hx hb dX9_decryptBlock_1 rfl (lv_at hl 0 rfl) ?_
  refine xr_get (ci := 5) (v := .int (nI 16)) (Cn := RX9) (T := TX9) (N := 6) C (w.at 0 rfl) in_X9 rfl 3 (by decide) q175 (fun _ h => h) rfl dX9_decryptBlock_2 ?_
  refine lv_iadd hx hb dX9_decryptBlock_5 ?_
  refine lv_eqi (nI_add io 16) ?_
  refine lv_aload_n hx hb dX9_decryptBlock_6 rfl (lv_at hl 1 rfl) ?_
  refine xr_alenP C (w.at 3 rfl) 0 rfl dX9_decryptBlock_7 ?_
  refine xr_icmp_le (a := io + 16) (b := no) (tgt := 21) hx hb dX9_decryptBlock_8 (by decide) (by omega) (by omega) (fun c_8 => ?_) (fun c_8 => absurd c_8 (by omega))
  refine lv_aload_n hx hb dX9_decryptBlock_21 rfl (lv_at hl 1 rfl) ?_
  refine lv_iload_n hx hb dX9_decryptBlock_22 rfl (lv_at hl 2 rfl) ?_
  refine lv_aload_n hx hb dX9_decryptBlock_23 rfl (lv_at hl 0 rfl) ?_
  refine xr_get (ci := 5) (v := .ref nv) (Cn := RX9) (T := TX9) (N := 6) C (w.at 0 rfl) in_X9 rfl 2 (by decide) q174 (fun _ h => h) rfl dX9_decryptBlock_24 ?_
  refine lv_iconst (v := nI 0) hx hb dX9_decryptBlock_27 (by decide) ?_
  refine lv_aload_n hx hb dX9_decryptBlock_28 rfl (lv_at hl 0 rfl) ?_
  refine xr_get (ci := 5) (v := .int (nI 16)) (Cn := RX9) (T := TX9) (N := 6) C (w.at 0 rfl) in_X9 rfl 3 (by decide) q175 (fun _ h => h) rfl dX9_decryptBlock_29 ?_
  refine xr_copy C w q286 2 (sp := io) (dp := 0) (n := 16) (w.at 3 rfl) rfl (by omega) (by omega) (by omega) (by omega) hl.1 (by decide) (Nat.le_of_ble_eq_true rfl) dX9_decryptBlock_32 (fun H locs w => ?_)
  have w : Wd G A [(h, xO 5 [.ref iv, .ref cv, .ref nv, .int (nI 16), .ref he, .int (nI 0)]), (cv, xB G 16 cb), (nv, xB G 16 (va_cpy bo nb io 0 16)), (ho, xB G no bo)] s s.heap H locs := w
  have w := w.bx 2 rfl (b' := fun j => bo (io + j)) (fun j hj => cpy_16 _ _ _ j hj)
  have w : Wd G A [(h, xO 5 [.ref iv, .ref cv, .ref nv, .int (nI 16), .ref he, .int (nI 0)]), (cv, xB G 16 cb), (nv, xB G 16 (fun j => bo (io + j))), (ho, xB G no bo)] s s.heap H locs := w
  refine lv_aload_n hx hb dX9_decryptBlock_35 rfl (lv_at hl 0 rfl) ?_
  refine xr_get (ci := 5) (v := .ref he) (Cn := RX9) (T := TX9) (N := 6) C (w.at 0 rfl) in_X9 rfl 4 (by decide) q176 (fun _ h => h) rfl dX9_decryptBlock_36 ?_
  refine lv_aload_n hx hb dX9_decryptBlock_39 rfl (lv_at hl 1 rfl) ?_
  refine lv_iload_n hx hb dX9_decryptBlock_40 rfl (lv_at hl 2 rfl) ?_
  refine lv_aload_n hx hb dX9_decryptBlock_41 rfl (lv_at hl 3 rfl) ?_
  refine lv_iload hx hb dX9_decryptBlock_42 (lv_at hl 4 rfl) ?_
  refine xr_callF (n := 4) (rest := []) (wr := [(h, xO 5 [.ref iv, .ref cv, .ref nv, .int (nI 16), .ref he, .int (nI 0)]), (cv, xB G 16 cb), (nv, xB G 16 (fun j => bo (io + j)))]) (Cn := RX10) (T := TX10) (N := 4) C w (met_pb0 l G H.size he ho io ho oo wa KC hs no bo no bo ad kw (hKC) (by omega) (by omega) (by omega) (by omega)) (va_P.sub (hE.keep hEA w.2.2.1).1 [0] rfl) rfl (by decide +kernel) q603 q553 q555 q19 q557 (by decide +kernel) ⟨rfl, rfl, by decide, by decide⟩ (fun _ _ _ _ h => h) (fun U hU hW => by rw [hU]; exact ⟨(xp_cons (w.at 3 rfl) xp_nil), hE.keep hEA w.2.2.1⟩) [3] [0, 1, 2] rfl rfl rfl rfl (by decide) rfl hl.1 rfl (Nat.le_of_ble_eq_true rfl) dX9_decryptBlock_44 ⟨by decide, by decide⟩ (fun u v H1 locs hp hz_44 hk_44 w => ?_)
  generalize H1 = H at hp w ⊢
  subst hp
  have w : Wd G A [(h, xO 5 [.ref iv, .ref cv, .ref nv, .int (nI 16), .ref he, .int (nI 0)]), (cv, xB G 16 cb), (nv, xB G 16 (fun j => bo (io + j))), (ho, xB G no (va_cpy (wby (dO KC kw (xw0 bo io kw (KC + 6)))) bo 0 oo 16))] s s.heap H locs := w
  refine lv_istore (lv' := [(5, .int (nI 16)), (0, .ref h), (1, .ref ho), (2, .int (nI io)), (3, .ref ho), (4, .int (nI oo))]) hx hb dX9_decryptBlock_49 hl (by decide) rfl (fun ls hl => ?_)
  refine lv_iconst (v := nI 0) hx hb dX9_decryptBlock_51 (by decide) ?_
  refine lv_istore (lv' := [(6, .int (nI 0)), (5, .int (nI 16)), (0, .ref h), (1, .ref ho), (2, .int (nI io)), (3, .ref ho), (4, .int (nI oo))]) hx hb dX9_decryptBlock_52 hl (by decide) rfl (fun ls hl => ?_)
  have loop_54 : ∀ (nn : Nat) (i : Nat) (f : Nat → BitVec 8), 16 - i < nn → (hi16 : i ≤ 16) → (hf : XO f (va_cpy (blkD KC kw bo io) bo 0 oo 16) cb oo i) → ∀ (H : Heap) (locs : List Loc) (ls : Array Slot), Wd G A [(h, xO 5 [.ref iv, .ref cv, .ref nv, .int (nI 16), .ref he, .int (nI 0)]), (cv, xB G 16 cb), (nv, xB G 16 (fun j => bo (io + j))), (ho, xB G no f)] s s.heap H locs → lv_has ls 7 [(0, .ref h), (3, .ref ho), (4, .int (nI oo)), (5, .int (nI 16)), (6, .int (nI i))] → W p l e ({ frames := 3, cells := 0, slots := 0, locals := 101 } : Room) s m args below meth c H locs 0 0 Q (F0 m 54 ls []) := by
    intro nn
    induction nn with
    | zero => intro i f hmm; exact absurd hmm (Nat.not_lt_zero _)
    | succ nn ih_54 =>
      intro i f hmm hi16 hf H locs ls w hl
      refine lv_iload hx hb dX9_decryptBlock_54 (lv_at hl 4 rfl) ?_
      refine lv_aload_n hx hb dX9_decryptBlock_56 rfl (lv_at hl 0 rfl) ?_
      refine xr_get (ci := 5) (v := .int (nI 16)) (Cn := RX9) (T := TX9) (N := 6) C (w.at 0 rfl) in_X9 rfl 3 (by decide) q175 (fun _ h => h) rfl dX9_decryptBlock_57 ?_
      refine xr_icmp_ge (a := i) (b := 16) (tgt := 87) hx hb dX9_decryptBlock_60 (by decide) (by omega) (by omega) (fun c_60 => ?_) (fun c_60 => ?_)
      · have h16 : i = 16 := by omega
        subst h16
        have w := w.bx 3 rfl (b' := va_cpy (fun i => blkD KC kw bo io i ^^^ cb i) bo 0 oo 16) (fun j _ => XO_end hf j)
        have w : Wd G A [(h, xO 5 [.ref iv, .ref cv, .ref nv, .int (nI 16), .ref he, .int (nI 0)]), (cv, xB G 16 cb), (nv, xB G 16 (fun j => bo (io + j))), (ho, xB G no (va_cpy (fun i => blkD KC kw bo io i ^^^ cb i) bo 0 oo 16))] s s.heap H locs := w
        refine lv_aload_n hx hb dX9_decryptBlock_87 rfl (lv_at hl 0 rfl) ?_
        refine xr_get (ci := 5) (v := .ref cv) (Cn := RX9) (T := TX9) (N := 6) C (w.at 0 rfl) in_X9 rfl 1 (by decide) q173 (fun _ h => h) rfl dX9_decryptBlock_88 ?_
        refine lv_astore (lv' := [(6, .ref cv), (0, .ref h), (3, .ref ho), (4, .int (nI oo)), (5, .int (nI 16))]) hx hb dX9_decryptBlock_91 hl (by decide) rfl (fun ls hl => ?_)
        refine lv_aload_n hx hb dX9_decryptBlock_93 rfl (lv_at hl 1 rfl) ?_
        refine lv_aload_n hx hb dX9_decryptBlock_94 rfl (lv_at hl 1 rfl) ?_
        refine xr_get (ci := 5) (v := .ref nv) (Cn := RX9) (T := TX9) (N := 6) C (w.at 0 rfl) in_X9 rfl 2 (by decide) q174 (fun _ h => h) rfl dX9_decryptBlock_95 ?_
        refine xr_put (ci := 5) (v := .ref nv) (ty := (.array .byte)) (Cn := RX9) (T := TX9) (N := 6) C w 0 rfl in_X9 tyX9 tyX9_ok nmX9 rfl 1 (by decide) q173 (fun _ h => h) rfl (by decide +kernel) (rfl) (rfl) (Nat.le_of_ble_eq_true rfl) dX9_decryptBlock_98 (fun H locs w => ?_)
        have w : Wd G A [(h, xO 5 [.ref iv, .ref nv, .ref nv, .int (nI 16), .ref he, .int (nI 0)]), (cv, xB G 16 cb), (nv, xB G 16 (fun j => bo (io + j))), (ho, xB G no (va_cpy (fun i => blkD KC kw bo io i ^^^ cb i) bo 0 oo 16))] s s.heap H locs := w
        refine lv_aload_n hx hb dX9_decryptBlock_101 rfl (lv_at hl 1 rfl) ?_
        refine lv_aload hx hb dX9_decryptBlock_102 (lv_at hl 0 rfl) ?_
        refine xr_put (ci := 5) (v := .ref cv) (ty := (.array .byte)) (Cn := RX9) (T := TX9) (N := 6) C w 0 rfl in_X9 tyX9 tyX9_ok nmX9 rfl 2 (by decide) q174 (fun _ h => h) rfl (by decide +kernel) (rfl) (rfl) (Nat.le_of_ble_eq_true rfl) dX9_decryptBlock_104 (fun H locs w => ?_)
        have w : Wd G A [(h, xO 5 [.ref iv, .ref nv, .ref cv, .int (nI 16), .ref he, .int (nI 0)]), (cv, xB G 16 cb), (nv, xB G 16 (fun j => bo (io + j))), (ho, xB G no (va_cpy (fun i => blkD KC kw bo io i ^^^ cb i) bo 0 oo 16))] s s.heap H locs := w
        refine lv_iload hx hb dX9_decryptBlock_107 (lv_at hl 4 rfl) ?_
        exact xr_iret C hlk hr (w.sub [0, 2, 1, 3] rfl rfl) hAe hQ (by decide) (by decide) () rfl (rfl) dX9_decryptBlock_109
      · refine lv_aload_n hx hb dX9_decryptBlock_63 rfl (lv_at hl 1 rfl) ?_
        refine lv_iload hx hb dX9_decryptBlock_64 (lv_at hl 2 rfl) ?_
        refine lv_iload hx hb dX9_decryptBlock_66 (lv_at hl 4 rfl) ?_
        refine lv_iadd hx hb dX9_decryptBlock_68 ?_
        refine lv_eqi (nI_add oo i) ?_
        refine lv_dup2_11 hx hb dX9_decryptBlock_69 rfl rfl ?_
        refine xr_bald C (i := oo + i) (w.at 3 rfl) (by omega) (by omega) dX9_decryptBlock_70 ?_
        refine lv_aload_n hx hb dX9_decryptBlock_71 rfl (lv_at hl 0 rfl) ?_
        refine xr_get (ci := 5) (v := .ref cv) (Cn := RX9) (T := TX9) (N := 6) C (w.at 0 rfl) in_X9 rfl 1 (by decide) q173 (fun _ h => h) rfl dX9_decryptBlock_72 ?_
        refine lv_iload hx hb dX9_decryptBlock_75 (lv_at hl 4 rfl) ?_
        refine xr_bald C (i := i) (w.at 1 rfl) (by omega) (by omega) dX9_decryptBlock_77 ?_
        refine lv_ixor hx hb dX9_decryptBlock_78 ?_
        refine lv_i2b (v := (sB (lo8 ((sB (f (oo + i))) ^^^ (sB (cb i)))))) hx hb dX9_decryptBlock_79 (i2b_sB _) ?_
        refine xr_bast C w 3 (i := oo + i) (f (oo + i) ^^^ cb i) (lo8_x2 _ _) rfl (by omega) (by omega) dX9_decryptBlock_80 (fun H locs w => ?_)
        have w : Wd G A [(h, xO 5 [.ref iv, .ref cv, .ref nv, .int (nI 16), .ref he, .int (nI 0)]), (cv, xB G 16 cb), (nv, xB G 16 (fun j => bo (io + j))), (ho, xB G no (va_up f (oo + i) (f (oo + i) ^^^ cb i)))] s s.heap H locs := w
        refine lv_iinc (v := nI (i + 1)) (lv' := [(6, .int (nI (i + 1))), (0, .ref h), (3, .ref ho), (4, .int (nI oo)), (5, .int (nI 16))]) hx hb dX9_decryptBlock_81 hl (k := 4) rfl (nI_add i 1) (by decide) rfl (fun ls hl => ?_)
        refine lv_goto (tgt := 54) hx hb dX9_decryptBlock_84 (by decide) ?_
        exact ih_54 (i + 1) _ (by omega) (by omega) (XO_put hf) _ _ _ w (lv_sub hl [1, 2, 3, 4, 0] rfl)
  exact loop_54 ((16 - 0) + 1) 0 _ (by omega) (by decide) (XO_0) _ _ _ w (lv_sub hl [2, 5, 6, 1, 0] rfl)

set_option maxHeartbeats 4000000 in
set_option maxRecDepth 100000 in
theorem met_cbE (l : Launch) (G : GG) (sz : Nat) (h : Nat) (hi : Nat) (io : Nat) (ho : Nat) (oo : Nat) (iv : Nat) (cv : Nat) (nv : Nat) (he : Nat) (cb : Nat → BitVec 8) (ni : Nat) (bi : Nat → BitVec 8) (no : Nat) (bo : Nat → BitVec 8) (wa : Nat) (KC : Nat) (hs : Nat) (ad : Nat → Nat) (kw : Nat → Nat → Int32) (hKC : KC = 4 ∨ KC = 6 ∨ KC = 8) (hio : io + 16 ≤ ni) (hni : ni < 2 ^ 30) (hoo : oo + 16 ≤ no) (hno : no < 2 ^ 30) (hEA : ∀ q, EngF he wa KC hs ad q → ¬ va_A [(h, xO 5 [.ref iv, .ref cv, .ref nv, .int (nI 16), .ref he, .int (nI 1)]), (cv, xB G 16 cb), (ho, xB G no bo)] sz q) (ap0_0 : h ≠ hi) (ap0_1 : cv ≠ hi) (ap0_2 : ho ≠ hi) : Met l yX9_processBlock (ws_ yX9_processBlock cX9_processBlock 5 (some .int)) ({ frames := 4, cells := 0, slots := 0, locals := 126 } : Room) (va_Pc [.ref h, .ref hi, .int (nI io), .ref ho, .int (nI oo)] (PP G [(h, xO 5 [.ref iv, .ref cv, .ref nv, .int (nI 16), .ref he, .int (nI 1)]), (cv, xB G 16 cb), (ho, xB G no bo)] sz (fun U : State => va_P G.1 vwCl [(hi, xB G ni bi)] U.heap ∧ Eng G he wa KC 1 hs ad kw U.heap))) (CQ G [(h, xO 5 [.ref iv, .ref cv, .ref nv, .int (nI 16), .ref he, .int (nI 1)]), (cv, xB G 16 cb), (ho, xB G no bo)] sz (fun u : Unit => [(h, xO 5 [.ref iv, .ref cv, .ref nv, .int (nI 16), .ref he, .int (nI 1)]), (cv, xB G 16 (blkE KC kw (fun j => cb j ^^^ bi (io + j)) 0)), (ho, xB G no (va_cpy (blkE KC kw (fun j => cb j ^^^ bi (io + j)) 0) bo 0 oo 16))]) (fun (u : Unit) (v : Option Value) (H : Heap) => v = some (.int (nI 16)))) 0 0 (va_A [(h, xO 5 [.ref iv, .ref cv, .ref nv, .int (nI 16), .ref he, .int (nI 1)]), (cv, xB G 16 cb), (ho, xB G no bo)] sz) := by
  refine xr_met (own := RX9) (by decide) rfl (Nat.le_of_ble_eq_true rfl) ?_
  intro p e s m args below meth c ls Q A C hlk hr hnm hsz hAe w hRD hQ hl
  have hx := C.1
  have hb := C.2.1
  have w : Wd G A [(h, xO 5 [.ref iv, .ref cv, .ref nv, .int (nI 16), .ref he, .int (nI 1)]), (cv, xB G 16 cb), (ho, xB G no bo)] s s.heap s.heap [] := w
  have hl : lv_has ls 5 [(0, .ref h), (1, .ref hi), (2, .int (nI io)), (3, .ref ho), (4, .int (nI oo))] := hl
  obtain ⟨hRd, hE⟩ := hRD
  have hR0 : va_P G.1 vwCl [(hi, xB G ni bi)] s.heap := va_P.sub hRd [0] rfl
  have hN0 : ¬ A hi := by rw [hAe]; exact xn_L (by rw [← hsz]; exact (hR0 0 _ rfl).lt) (List.forall_mem_cons.mpr ⟨ap0_0, (List.forall_mem_cons.mpr ⟨ap0_1, (List.forall_mem_cons.mpr ⟨ap0_2, (fun _ h => absurd h List.not_mem_nil)⟩)⟩)⟩)
  have hEA : ∀ q, EngF he wa KC hs ad q → ¬ A q := by rw [hAe]; exact hEA
  refine lv_aload_n hx hb dX9_processBlock_0 rfl (lv_at hl 0 rfl) ?_
  refine xr_get (ci := 5) (v := .int (nI 1)) (Cn := RX9) (T := TX9) (N := 6) C (w.at 0 rfl) in_X9 rfl 5 (by decide) q177 (fun _ h => h) rfl dX9_processBlock_1 ?_
  refine xr_if_eq (a := 1) (tgt := 19) hx hb dX9_processBlock_4 (by decide) (by omega) (fun c_4 => absurd c_4 (by decide)) (fun c_4 => ?_)
  refine lv_aload_n hx hb dX9_processBlock_7 rfl (lv_at hl 0 rfl) ?_
  refine lv_aload_n hx hb dX9_processBlock_8 rfl (lv_at hl 1 rfl) ?_
  refine lv_iload_n hx hb dX9_processBlock_9 rfl (lv_at hl 2 rfl) ?_
  refine lv_aload_n hx hb dX9_processBlock_10 rfl (lv_at hl 3 rfl) ?_
  refine lv_iload hx hb dX9_processBlock_11 (lv_at hl 4 rfl) ?_
  refine xr_callV (n := 4) (rest := []) (wr := []) (Cn := RX9) (T := TX9) (N := 6) C w (met_X9_encryptBlock l G s.heap.size h hi io ho oo iv cv nv he cb ni bi no bo wa KC hs ad kw (hKC) (by omega) (by omega) (by omega) (by omega) (fun q hq hz => hEA q hq (w.free [0, 1, 2] rfl q hz)) (w.neA 0 rfl hN0) (w.neA 1 rfl hN0) (w.neA 2 rfl hN0)) (w.at 0 rfl) rfl q595 q597 qs7 q18 q598 rfl (by decide +kernel) ⟨rfl, rfl, by decide, by decide⟩ (fun _ _ _ _ h => h) (fun U hU hW => by rw [hU]; exact ⟨(xp_cons hR0 xp_nil), hE.keep hEA w.2.2.1⟩) [0, 1, 2] [] rfl rfl rfl rfl (by decide) rfl hl.1 rfl (Nat.le_of_ble_eq_true rfl) dX9_processBlock_13 ⟨by decide, by decide⟩ (fun u v H1 locs hp hz_13 hk_13 w => ?_)
  generalize H1 = H at hp w ⊢
  subst hp
  have w : Wd G A [(h, xO 5 [.ref iv, .ref cv, .ref nv, .int (nI 16), .ref he, .int (nI 1)]), (cv, xB G 16 (blkE KC kw (fun j => cb j ^^^ bi (io + j)) 0)), (ho, xB G no (va_cpy (blkE KC kw (fun j => cb j ^^^ bi (io + j)) 0) bo 0 oo 16))] s s.heap H locs := w
  refine lv_goto (tgt := 28) hx hb dX9_processBlock_16 (by decide) ?_
  exact xr_iret C hlk hr w hAe hQ (by decide) (by decide) () rfl (rfl) dX9_processBlock_28

set_option maxHeartbeats 4000000 in
set_option maxRecDepth 100000 in
theorem met_cbD0 (l : Launch) (G : GG) (sz : Nat) (h : Nat) (hi : Nat) (io : Nat) (ho : Nat) (oo : Nat) (iv : Nat) (cv : Nat) (nv : Nat) (he : Nat) (cb : Nat → BitVec 8) (nb : Nat → BitVec 8) (ni : Nat) (bi : Nat → BitVec 8) (no : Nat) (bo : Nat → BitVec 8) (wa : Nat) (KC : Nat) (hs : Nat) (ad : Nat → Nat) (kw : Nat → Nat → Int32) (hKC : KC = 4 ∨ KC = 6 ∨ KC = 8) (hio : io + 16 ≤ ni) (hni : ni < 2 ^ 30) (hoo : oo + 16 ≤ no) (hno : no < 2 ^ 30) (hEA : ∀ q, EngF he wa KC hs ad q → ¬ va_A [(h, xO 5 [.ref iv, .ref cv, .ref nv, .int (nI 16), .ref he, .int (nI 0)]), (cv, xB G 16 cb), (nv, xB G 16 nb), (ho, xB G no bo)] sz q) (ap0_0 : h ≠ hi) (ap0_1 : cv ≠ hi) (ap0_2 : nv ≠ hi) (ap0_3 : ho ≠ hi) : Met l yX9_processBlock (ws_ yX9_processBlock cX9_processBlock 5 (some .int)) ({ frames := 4, cells := 0, slots := 0, locals := 127 } : Room) (va_Pc [.ref h, .ref hi, .int (nI io), .ref ho, .int (nI oo)] (PP G [(h, xO 5 [.ref iv, .ref cv, .ref nv, .int (nI 16), .ref he, .int (nI 0)]), (cv, xB G 16 cb), (nv, xB G 16 nb), (ho, xB G no bo)] sz (fun U : State => va_P G.1 vwCl [(hi, xB G ni bi)] U.heap ∧ Eng G he wa KC 0 hs ad kw U.heap))) (CQ G [(h, xO 5 [.ref iv, .ref cv, .ref nv, .int (nI 16), .ref he, .int (nI 0)]), (cv, xB G 16 cb), (nv, xB G 16 nb), (ho, xB G no bo)] sz (fun u : Unit => [(h, xO 5 [.ref iv, .ref nv, .ref cv, .int (nI 16), .ref he, .int (nI 0)]), (nv, xB G 16 (fun j => bi (io + j))), (cv, xB G 16 cb), (ho, xB G no (va_cpy (fun i => blkD KC kw bi io i ^^^ cb i) bo 0 oo 16))]) (fun (u : Unit) (v : Option Value) (H : Heap) => v = some (.int (nI 16)))) 0 0 (va_A [(h, xO 5 [.ref iv, .ref cv, .ref nv, .int (nI 16), .ref he, .int (nI 0)]), (cv, xB G 16 cb), (nv, xB G 16 nb), (ho, xB G no bo)] sz) := by
  refine xr_met (own := RX9) (by decide) rfl (Nat.le_of_ble_eq_true rfl) ?_
  intro p e s m args below meth c ls Q A C hlk hr hnm hsz hAe w hRD hQ hl
  have hx := C.1
  have hb := C.2.1
  have w : Wd G A [(h, xO 5 [.ref iv, .ref cv, .ref nv, .int (nI 16), .ref he, .int (nI 0)]), (cv, xB G 16 cb), (nv, xB G 16 nb), (ho, xB G no bo)] s s.heap s.heap [] := w
  have hl : lv_has ls 5 [(0, .ref h), (1, .ref hi), (2, .int (nI io)), (3, .ref ho), (4, .int (nI oo))] := hl
  obtain ⟨hRd, hE⟩ := hRD
  have hR0 : va_P G.1 vwCl [(hi, xB G ni bi)] s.heap := va_P.sub hRd [0] rfl
  have hN0 : ¬ A hi := by rw [hAe]; exact xn_L (by rw [← hsz]; exact (hR0 0 _ rfl).lt) (List.forall_mem_cons.mpr ⟨ap0_0, (List.forall_mem_cons.mpr ⟨ap0_1, (List.forall_mem_cons.mpr ⟨ap0_2, (List.forall_mem_cons.mpr ⟨ap0_3, (fun _ h => absurd h List.not_mem_nil)⟩)⟩)⟩)⟩)
  have hEA : ∀ q, EngF he wa KC hs ad q → ¬ A q := by rw [hAe]; exact hEA
  refine lv_aload_n hx hb dX9_processBlock_0 rfl (lv_at hl 0 rfl) ?_
  refine xr_get (ci := 5) (v := .int (nI 0)) (Cn := RX9) (T := TX9) (N := 6) C (w.at 0 rfl) in_X9 rfl 5 (by decide) q177 (fun _ h => h) rfl dX9_processBlock_1 ?_
  refine xr_if_eq (a := 0) (tgt := 19) hx hb dX9_processBlock_4 (by decide) (by omega) (fun c_4 => ?_) (fun c_4 => (c_4 rfl).elim)
  refine lv_aload_n hx hb dX9_processBlock_19 rfl (lv_at hl 0 rfl) ?_
  refine lv_aload_n hx hb dX9_processBlock_20 rfl (lv_at hl 1 rfl) ?_
  refine lv_iload_n hx hb dX9_processBlock_21 rfl (lv_at hl 2 rfl) ?_
  refine lv_aload_n hx hb dX9_processBlock_22 rfl (lv_at hl 3 rfl) ?_
  refine lv_iload hx hb dX9_processBlock_23 (lv_at hl 4 rfl) ?_
  refine xr_callV (n := 4) (rest := []) (wr := []) (Cn := RX9) (T := TX9) (N := 6) C w (met_X9_dec0 l G s.heap.size h hi io ho oo iv cv nv he cb nb ni bi no bo wa KC hs ad kw (hKC) (by omega) (by omega) (by omega) (by omega) (fun q hq hz => hEA q hq (w.free [0, 1, 2, 3] rfl q hz)) (w.neA 0 rfl hN0) (w.neA 1 rfl hN0) (w.neA 2 rfl hN0) (w.neA 3 rfl hN0)) (w.at 0 rfl) rfl q604 q606 qs8 q18 q607 rfl (by decide +kernel) ⟨rfl, rfl, by decide, by decide⟩ (fun _ _ _ _ h => h) (fun U hU hW => by rw [hU]; exact ⟨(xp_cons hR0 xp_nil), hE.keep hEA w.2.2.1⟩) [0, 1, 2, 3] [] rfl rfl rfl rfl (by decide) rfl hl.1 rfl (Nat.le_of_ble_eq_true rfl) dX9_processBlock_25 ⟨by decide, by decide⟩ (fun u v H1 locs hp hz_25 hk_25 w => ?_)
  generalize H1 = H at hp w ⊢
  subst hp
  have w : Wd G A [(h, xO 5 [.ref iv, .ref nv, .ref cv, .int (nI 16), .ref he, .int (nI 0)]), (nv, xB G 16 (fun j => bi (io + j))), (cv, xB G 16 cb), (ho, xB G no (va_cpy (fun i => blkD KC kw bi io i ^^^ cb i) bo 0 oo 16))] s s.heap H locs := w
  exact xr_iret C hlk hr w hAe hQ (by decide) (by decide) () rfl (rfl) dX9_processBlock_28

set_option maxHeartbeats 4000000 in
set_option maxRecDepth 100000 in
theorem met_cbD1 (l : Launch) (G : GG) (sz : Nat) (h : Nat) (io : Nat) (ho : Nat) (oo : Nat) (iv : Nat) (cv : Nat) (nv : Nat) (he : Nat) (cb : Nat → BitVec 8) (nb : Nat → BitVec 8) (no : Nat) (bo : Nat → BitVec 8) (wa : Nat) (KC : Nat) (hs : Nat) (ad : Nat → Nat) (kw : Nat → Nat → Int32) (hKC : KC = 4 ∨ KC = 6 ∨ KC = 8) (hio : io + 16 ≤ no) (hoo : oo + 16 ≤ no) (hno : no < 2 ^ 30) (hEA : ∀ q, EngF he wa KC hs ad q → ¬ va_A [(h, xO 5 [.ref iv, .ref cv, .ref nv, .int (nI 16), .ref he, .int (nI 0)]), (cv, xB G 16 cb), (nv, xB G 16 nb), (ho, xB G no bo)] sz q) : Met l yX9_processBlock (ws_ yX9_processBlock cX9_processBlock 5 (some .int)) ({ frames := 4, cells := 0, slots := 0, locals := 127 } : Room) (va_Pc [.ref h, .ref ho, .int (nI io), .ref ho, .int (nI oo)] (PP G [(h, xO 5 [.ref iv, .ref cv, .ref nv, .int (nI 16), .ref he, .int (nI 0)]), (cv, xB G 16 cb), (nv, xB G 16 nb), (ho, xB G no bo)] sz (fun U : State => Eng G he wa KC 0 hs ad kw U.heap))) (CQ G [(h, xO 5 [.ref iv, .ref cv, .ref nv, .int (nI 16), .ref he, .int (nI 0)]), (cv, xB G 16 cb), (nv, xB G 16 nb), (ho, xB G no bo)] sz (fun u : Unit => [(h, xO 5 [.ref iv, .ref nv, .ref cv, .int (nI 16), .ref he, .int (nI 0)]), (nv, xB G 16 (fun j => bo (io + j))), (cv, xB G 16 cb), (ho, xB G no (va_cpy (fun i => blkD KC kw bo io i ^^^ cb i) bo 0 oo 16))]) (fun (u : Unit) (v : Option Value) (H : Heap) => v = some (.int (nI 16)))) 0 0 (va_A [(h, xO 5 [.ref iv, .ref cv, .ref nv, .int (nI 16), .ref he, .int (nI 0)]), (cv, xB G 16 cb), (nv, xB G 16 nb), (ho, xB G no bo)] sz) := by
  refine xr_met (own := RX9) (by decide) rfl (Nat.le_of_ble_eq_true rfl) ?_
  intro p e s m args below meth c ls Q A C hlk hr hnm hsz hAe w hRD hQ hl
  have hx := C.1
  have hb := C.2.1
  have w : Wd G A [(h, xO 5 [.ref iv, .ref cv, .ref nv, .int (nI 16), .ref he, .int (nI 0)]), (cv, xB G 16 cb), (nv, xB G 16 nb), (ho, xB G no bo)] s s.heap s.heap [] := w
  have hl : lv_has ls 5 [(0, .ref h), (1, .ref ho), (2, .int (nI io)), (3, .ref ho), (4, .int (nI oo))] := hl
  have hE := hRD
  have hEA : ∀ q, EngF he wa KC hs ad q → ¬ A q := by rw [hAe]; exact hEA
  refine lv_aload_n hx hb dX9_processBlock_0 rfl (lv_at hl 0 rfl) ?_
  refine xr_get (ci := 5) (v := .int (nI 0)) (Cn := RX9) (T := TX9) (N := 6) C (w.at 0 rfl) in_X9 rfl 5 (by decide) q177 (fun _ h => h) rfl dX9_processBlock_1 ?_
  refine xr_if_eq (a := 0) (tgt := 19) hx hb dX9_processBlock_4 (by decide) (by omega) (fun c_4 => ?_) (fun c_4 => (c_4 rfl).elim)
  refine lv_aload_n hx hb dX9_processBlock_19 rfl (lv_at hl 0 rfl) ?_
  refine lv_aload_n hx hb dX9_processBlock_20 rfl (lv_at hl 1 rfl) ?_
  refine lv_iload_n hx hb dX9_processBlock_21 rfl (lv_at hl 2 rfl) ?_
  refine lv_aload_n hx hb dX9_processBlock_22 rfl (lv_at hl 3 rfl) ?_
  refine lv_iload hx hb dX9_processBlock_23 (lv_at hl 4 rfl) ?_
  refine xr_callV (n := 4) (rest := []) (wr := []) (Cn := RX9) (T := TX9) (N := 6) C w (met_X9_dec1 l G s.heap.size h io ho oo iv cv nv he cb nb no bo wa KC hs ad kw (hKC) (by omega) (by omega) (by omega) (fun q hq hz => hEA q hq (w.free [0, 1, 2, 3] rfl q hz))) (w.at 0 rfl) rfl q604 q606 qs8 q18 q607 rfl (by decide +kernel) ⟨rfl, rfl, by decide, by decide⟩ (fun _ _ _ _ h => h) (fun U hU hW => by rw [hU]; exact hE.keep hEA w.2.2.1) [0, 1, 2, 3] [] rfl rfl rfl rfl (by decide) rfl hl.1 rfl (Nat.le_of_ble_eq_true rfl) dX9_processBlock_25 ⟨by decide, by decide⟩ (fun u v H1 locs hp hz_25 hk_25 w => ?_)
  generalize H1 = H at hp w ⊢
  subst hp
  have w : Wd G A [(h, xO 5 [.ref iv, .ref nv, .ref cv, .int (nI 16), .ref he, .int (nI 0)]), (nv, xB G 16 (fun j => bo (io + j))), (cv, xB G 16 cb), (ho, xB G no (va_cpy (fun i => blkD KC kw bo io i ^^^ cb i) bo 0 oo 16))] s s.heap H locs := w
  exact xr_iret C hlk hr w hAe hQ (by decide) (by decide) () rfl (rfl) dX9_processBlock_28
