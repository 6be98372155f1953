/-! AES 3: OwnArrays.clone, KeyParameter, AESEngine.init, processBlock; printed by tools/aes3.py -/
set_option maxHeartbeats 4000000 in
set_option maxRecDepth 100000 in
theorem met_X13_clone (l : Launch) (G : GG) (sz : Nat) (t : Nat) (f : Nat → BitVec 8)  : Met l yX13_clone (ws_ yX13_clone cX13_clone 1 (some (.array .byte))) ({ frames := 1, cells := 1, slots := 256, locals := 40 } : Room) (va_Pc [.ref t] (PP G [] sz (fun U : State => xC G t 256 f U.heap))) (CQ G [] sz (fun u : Nat => [(u, xB G 256 f)]) (fun (u : Nat) (v : Option Value) (H : Heap) => v = some (.ref u) ∧ sz ≤ u)) 1 256 (va_A [] sz) := by
  refine xr_met (own := RX13) (by decide) rfl (Nat.le_of_ble_eq_true rfl) ?_
  intro p e s m args below meth c ls Q A C hlk hr hnm hsz hAe w hRD hQ hl
  have hx := C.1
  have hb := C.2.1
  have w : Wd G A [] s s.heap s.heap [] := w
  have hl : lv_has ls 1 [(0, .ref t)] := hl
  have hX := hRD
  refine lv_null hx hb dX13_clone_0 ?_
  refine lv_aload_n hx hb dX13_clone_1 rfl (lv_at hl 0 rfl) ?_
  refine lv_acmp_ne (rx := none) (ry := (some t)) (tgt := 9) hx hb dX13_clone_2 (by decide) (fun _ => ?_) (fun h => by cases h)
  refine lv_aload_n hx hb dX13_clone_9 rfl (lv_at hl 0 rfl) ?_
  refine xr_cloneT C w hX q463 q464 q465 q466 q467 hl.1 (by decide) (Nat.le_of_ble_eq_true rfl) (by decide) (by decide) dX13_clone_10 (fun qn H hq_qn w => ?_)
  have w : Wd G A [(qn, xB G 256 f)] s s.heap H [] := w
  refine va_castA C.1 C.2.1 C.2.2.2.1 (C.2.2.2.2.1 _ q469) (w.at 0 rfl) 0 rfl (C.2.2.2.2.2.2 0 _ rfl).2 dX13_clone_13 ?_
  exact xr_aret C hlk hr (Or.inr ⟨_, rfl⟩) (Or.inr ⟨_, rfl⟩) w hAe hQ (by decide) (by decide) qn rfl (⟨rfl, by rw [← hsz]; exact hq_qn⟩) dX13_clone_16

set_option maxHeartbeats 4000000 in
set_option maxRecDepth 100000 in
theorem met_X12_init_3 (l : Launch) (G : GG) (sz : Nat) (h : Nat) (n : Nat) (hn : n ≤ 32) : Met l yX12_init_3 (ws_ yX12_init_3 cX12_init_3 2 none) ({ frames := 1, cells := 1, slots := 32, locals := 40 } : Room) (va_Pc [.ref h, .int (nI n)] (PP G [(h, xO 8 [.null])] sz (fun _ => True))) (CQ G [(h, xO 8 [.null])] sz (fun u : Nat => [(h, xO 8 [.ref u]), (u, xB G n (fun _ => 0))]) (fun (u : Nat) (v : Option Value) (H : Heap) => v = none)) 1 32 (va_A [(h, xO 8 [.null])] sz) := by
  refine xr_met (own := RX12) (by decide) rfl (Nat.le_of_ble_eq_true rfl) ?_
  intro p e s m args below meth c ls Q A C hlk hr hnm hsz hAe w hRD hQ hl
  have hx := C.1
  have hb := C.2.1
  have w : Wd G A [(h, xO 8 [.null])] s s.heap s.heap [] := w
  have hl : lv_has ls 2 [(0, .ref h), (1, .int (nI n))] := hl
  refine lv_aload_n hx hb dX12_init_3_0 rfl (lv_at hl 0 rfl) ?_
  refine W.objInit hx hb C.2.2.2.1 (C.2.2.2.2.1 _ q239) (C.2.2.2.2.1 _ q43) (C.2.2.2.2.1 _ q44) rfl (by rw [C.2.2.1]; exact hl.1) rfl dX12_init_3_1 (by decide) (Nat.le_of_ble_eq_true rfl) ?_
  refine W.eq (g2 := F0 m 4 ls []) rfl ?_
  refine lv_aload_n hx hb dX12_init_3_4 rfl (lv_at hl 0 rfl) ?_
  refine lv_iload_n hx hb dX12_init_3_5 rfl (lv_at hl 1 rfl) ?_
  refine xr_newB C w (n := n) (by omega) (by decide) (show 0 + n ≤ 32 by omega) dX12_init_3_6 (fun qn H hq_qn w => ?_)
  have w : Wd G A [(h, xO 8 [.null]), (qn, xB G n (fun _ => 0))] s s.heap H [] := w
  refine xr_put (ci := 8) (v := .ref qn) (ty := (.array .byte)) (Cn := RX12) (T := TX12) (N := 1) C w 0 rfl in_X12 tyX12 tyX12_ok nmX12 rfl 0 (by decide) q240 (fun _ h => h) rfl (by decide +kernel) (rfl) (rfl) (Nat.le_of_ble_eq_true rfl) dX12_init_3_8 (fun H locs w => ?_)
  have w : Wd G A [(h, xO 8 [.ref qn]), (qn, xB G n (fun _ => 0))] s s.heap H locs := w
  exact xr_vret C hlk hr w hAe hQ (by decide) (show 0 + n ≤ 32 by omega) qn rfl (rfl) dX12_init_3_11

set_option maxHeartbeats 4000000 in
set_option maxRecDepth 100000 in
theorem met_X12_init_2 (l : Launch) (G : GG) (sz : Nat) (h : Nat) (hk : Nat) (n : Nat) (b : Nat → BitVec 8) (hn : n ≤ 32) (ap0_0 : h ≠ hk) : Met l yX12_init_2 (ws_ yX12_init_2 cX12_init_2 4 none) ({ frames := 2, cells := 1, slots := 32, locals := 61 } : Room) (va_Pc [.ref h, .ref hk, .int (nI 0), .int (nI n)] (PP G [(h, xO 8 [.null])] sz (fun U : State => va_P G.1 vwCl [(hk, xB G n b)] U.heap))) (CQ G [(h, xO 8 [.null])] sz (fun u : Nat => [(h, xO 8 [.ref u]), (u, xB G n b)]) (fun (u : Nat) (v : Option Value) (H : Heap) => v = none)) 1 32 (va_A [(h, xO 8 [.null])] sz) := by
  refine xr_met (own := RX12) (by decide) rfl (Nat.le_of_ble_eq_true rfl) ?_
  intro p e s m args below meth c ls Q A C hlk hr hnm hsz hAe w hRD hQ hl
  have hx := C.1
  have hb := C.2.1
  have w : Wd G A [(h, xO 8 [.null])] s s.heap s.heap [] := w
  have hl : lv_has ls 4 [(0, .ref h), (1, .ref hk), (2, .int (nI 0)), (3, .int (nI n))] := hl
  have hRd := hRD
  have hR0 : va_P G.1 vwCl [(hk, xB G n b)] s.heap := va_P.sub hRd [0] rfl
  have hN0 : ¬ A hk := by rw [hAe]; exact xn_L (by rw [← hsz]; exact (hR0 0 _ rfl).lt) (List.forall_mem_cons.mpr ⟨ap0_0, (fun _ h => absurd h List.not_mem_nil)⟩)
  refine lv_aload_n hx hb dX12_init_2_0 rfl (lv_at hl 0 rfl) ?_
  refine lv_iload_n hx hb dX12_init_2_1 rfl (lv_at hl 3 rfl) ?_
  refine xr_callI (n := 1) (rest := []) (wr := []) C w (met_X12_init_3 l G s.heap.size h n (hn)) q236 q237 q21 q238 rfl (by decide +kernel) ⟨rfl, rfl, by decide, by decide⟩ (fun _ _ _ _ h => h) (fun U hU hW => trivial) [0] [] rfl rfl rfl rfl (by decide) rfl hl.1 rfl (Nat.le_of_ble_eq_true rfl) dX12_init_2_2 ⟨by decide, by decide⟩ (fun u v H1 locs hp hz_2 hk_2 w => ?_)
  generalize H1 = H at hp w ⊢
  obtain ⟨qn, rfl⟩ : ∃ z, z = u := ⟨_, rfl⟩
  subst hp
  have w : Wd G A [(h, xO 8 [.ref qn]), (qn, xB G n (fun _ => 0))] s s.heap H locs := w
  refine lv_aload_n hx hb dX12_init_2_5 rfl (lv_at hl 1 rfl) ?_
  refine lv_iload_n hx hb dX12_init_2_6 rfl (lv_at hl 2 rfl) ?_
  refine lv_aload_n hx hb dX12_init_2_7 rfl (lv_at hl 0 rfl) ?_
  refine xr_get (ci := 8) (v := .ref qn) (Cn := RX12) (T := TX12) (N := 1) C (w.at 0 rfl) in_X12 rfl 0 (by decide) q240 (fun _ h => h) rfl dX12_init_2_8 ?_
  refine lv_iconst (v := nI 0) hx hb dX12_init_2_11 (by decide) ?_
  refine lv_iload_n hx hb dX12_init_2_12 rfl (lv_at hl 3 rfl) ?_
  refine xr_copy C w q244 1 (sp := 0) (dp := 0) (n := n) (xp_keep hR0 (xn_1 hN0) w.2.2.1) rfl (by omega) (by omega) (by omega) (by omega) hl.1 (by decide) (Nat.le_of_ble_eq_true rfl) dX12_init_2_13 (fun H locs w => ?_)
  have w : Wd G A [(h, xO 8 [.ref qn]), (qn, xB G n (va_cpy b (fun _ => 0) 0 0 n))] s s.heap H locs := w
  have w := w.bx 1 rfl (b' := b) (fun j hj => by unfold va_cpy; rw [if_pos (by omega)]; congr 1; omega)
  exact xr_vret C hlk hr w hAe hQ (by decide) (by decide) qn rfl (rfl) dX12_init_2_16

set_option maxHeartbeats 4000000 in
set_option maxRecDepth 100000 in
theorem met_X12_init (l : Launch) (G : GG) (sz : Nat) (h : Nat) (hk : Nat) (n : Nat) (b : Nat → BitVec 8) (hn : n ≤ 32) (ap0_0 : h ≠ hk) : Met l yX12_init (ws_ yX12_init cX12_init 2 none) ({ frames := 3, cells := 1, slots := 32, locals := 90 } : Room) (va_Pc [.ref h, .ref hk] (PP G [(h, xO 8 [.null])] sz (fun U : State => va_P G.1 vwCl [(hk, xB G n b)] U.heap))) (CQ G [(h, xO 8 [.null])] sz (fun u : Nat => [(h, xO 8 [.ref u]), (u, xB G n b)]) (fun (u : Nat) (v : Option Value) (H : Heap) => v = none)) 1 32 (va_A [(h, xO 8 [.null])] sz) := by
  refine xr_met (own := RX12) (by decide) rfl (Nat.le_of_ble_eq_true rfl) ?_
  intro p e s m args below meth c ls Q A C hlk hr hnm hsz hAe w hRD hQ hl
  have hx := C.1
  have hb := C.2.1
  have w : Wd G A [(h, xO 8 [.null])] s s.heap s.heap [] := w
  have hl : lv_has ls 2 [(0, .ref h), (1, .ref hk)] := hl
  have hRd := hRD
  have hR0 : va_P G.1 vwCl [(hk, xB G n b)] s.heap := va_P.sub hRd [0] rfl
  have hN0 : ¬ A hk := by rw [hAe]; exact xn_L (by rw [← hsz]; exact (hR0 0 _ rfl).lt) (List.forall_mem_cons.mpr ⟨ap0_0, (fun _ h => absurd h List.not_mem_nil)⟩)
  refine lv_aload_n hx hb dX12_init_0 rfl (lv_at hl 0 rfl) ?_
  refine lv_aload_n hx hb dX12_init_1 rfl (lv_at hl 1 rfl) ?_
  refine lv_iconst (v := nI 0) hx hb dX12_init_2 (by decide) ?_
  refine lv_aload_n hx hb dX12_init_3 rfl (lv_at hl 1 rfl) ?_
  refine xr_alenP C hR0 0 rfl dX12_init_4 ?_
  refine xr_callI (n := 3) (rest := []) (wr := []) C w (met_X12_init_2 l G s.heap.size h hk n b (hn) (w.neA 0 rfl hN0)) q233 q234 q21 q235 rfl (by decide +kernel) ⟨rfl, rfl, by decide, by decide⟩ (fun _ _ _ _ h => h) (fun U hU hW => by rw [hU]; exact (xp_cons hR0 xp_nil)) [0] [] rfl rfl rfl rfl (by decide) rfl hl.1 rfl (Nat.le_of_ble_eq_true rfl) dX12_init_5 ⟨by decide, by decide⟩ (fun u v H1 locs hp hz_5 hk_5 w => ?_)
  generalize H1 = H at hp w ⊢
  obtain ⟨qn, rfl⟩ : ∃ z, z = u := ⟨_, rfl⟩
  subst hp
  have w : Wd G A [(h, xO 8 [.ref qn]), (qn, xB G n b)] s s.heap H locs := w
  exact xr_vret C hlk hr w hAe hQ (by decide) (by decide) qn rfl (rfl) dX12_init_8

set_option maxHeartbeats 4000000 in
set_option maxRecDepth 100000 in
theorem met_X12_getKey (l : Launch) (G : GG) (sz : Nat) (h : Nat) (hk : Nat)  : Met l yX12_getKey (ws_ yX12_getKey cX12_getKey 1 (some (.array .byte))) ({ frames := 0, cells := 0, slots := 0, locals := 0 } : Room) (va_Pc [.ref h] (PP G [] sz (fun U : State => va_P G.1 vwCl [(h, xO 8 [.ref hk])] U.heap))) (CQ0 (fun v => v = some (.ref hk))) 0 0 (fun _ => False) := by
  refine xr_met (own := RX12) (by decide) rfl (Nat.le_of_ble_eq_true rfl) ?_
  intro p e s m args below meth c ls Q A C hlk hr hnm hsz hAe w hRD hQ hl
  have hx := C.1
  have hb := C.2.1
  have w : Wd G A [] s s.heap s.heap [] := w
  have hl : lv_has ls 1 [(0, .ref h)] := hl
  have hRd := hRD
  have hR0 : va_P G.1 vwCl [(h, xO 8 [.ref hk])] s.heap := va_P.sub hRd [0] rfl
  refine lv_aload_n hx hb dX12_getKey_0 rfl (lv_at hl 0 rfl) ?_
  refine xr_get (ci := 8) (v := .ref hk) (Cn := RX12) (T := TX12) (N := 1) C hR0 in_X12 rfl 0 (by decide) q240 (fun _ h => h) rfl dX12_getKey_1 ?_
  exact xr_aret0 C hlk hr (Or.inr ⟨_, rfl⟩) (Or.inr ⟨_, rfl⟩) hQ (rfl) dX12_getKey_4

set_option maxHeartbeats 4000000 in
set_option maxRecDepth 100000 in
theorem met_X10_init_2 (l : Launch) (G : GG) (sz : Nat) (h : Nat) (z : Nat) (hp : Nat) (hk : Nat) (KC : Nat) (b : Nat → BitVec 8) (r0 : Int32) (v1 : Value) (r2 : Int32) (v3 : Value) (hKC : KC = 4 ∨ KC = 6 ∨ KC = 8) (hz : z < 2) (ap0_0 : h ≠ hp) (ap1_0 : h ≠ hk) : Met l yX10_init_2 (ws_ yX10_init_2 cX10_init_2 3 none) ({ frames := 3, cells := 17, slots := 331, locals := 100 } : Room) (va_Pc [.ref h, .int (nI z), .ref hp] (PP G [(h, xO 6 [.int r0, v1, .int r2, v3])] sz (fun U : State => va_P G.1 vwCl [(hp, xO 8 [.ref hk]), (hk, xB G (4 * KC) b)] U.heap))) (CQ G [(h, xO 6 [.int r0, v1, .int r2, v3])] sz (fun u : Nat × Nat => [(h, xO 6 [.int (nI (KC + 6)), .ref u.1, .int (nI z), .ref u.2]), (u.2, xB G 256 (sF z))]) (fun (u : Nat × Nat) (v : Option Value) (H : Heap) => v = none ∧ sz ≤ u.1 ∧ KW G u.1 (KC + 7) (fun r => u.1 + 1 + r) (kwF KC (keyw b) z) H ∧ ∀ q, KWf u.1 (KC + 7) (fun r => u.1 + 1 + r) q → q < u.2)) 17 331 (va_A [(h, xO 6 [.int r0, v1, .int r2, v3])] sz) := by
  refine xr_met (own := RX10) (by decide) rfl (Nat.le_of_ble_eq_true rfl) ?_
  intro p e s m args below meth c ls Q A C hlk hr hnm hsz hAe w hRD hQ hl
  have hx := C.1
  have hb := C.2.1
  have w : Wd G A [(h, xO 6 [.int r0, v1, .int r2, v3])] s s.heap s.heap [] := w
  have hl : lv_has ls 3 [(0, .ref h), (1, .int (nI z)), (2, .ref hp)] := hl
  have hRd := hRD
  have hR0 : va_P G.1 vwCl [(hp, xO 8 [.ref hk])] s.heap := va_P.sub hRd [0] rfl
  have hN0 : ¬ A hp := by rw [hAe]; exact xn_L (by rw [← hsz]; exact (hR0 0 _ rfl).lt) (List.forall_mem_cons.mpr ⟨ap0_0, (fun _ h => absurd h List.not_mem_nil)⟩)
  have hR1 : va_P G.1 vwCl [(hk, xB G (4 * KC) b)] s.heap := va_P.sub hRd [1] rfl
  have hN1 : ¬ A hk := by rw [hAe]; exact xn_L (by rw [← hsz]; exact (hR1 0 _ rfl).lt) (List.forall_mem_cons.mpr ⟨ap1_0, (fun _ h => absurd h List.not_mem_nil)⟩)
  have hlt_h : h < s.heap.size := (w.1 0 _ rfl).lt
  obtain ⟨t_S, hz_S, hn_S, hx_S⟩ := SZ.xC w.2.2.2.2.1.1 C.2.2.2.2.2
  obtain ⟨t_Si, hz_Si, hn_Si, hx_Si⟩ := SZ.xC w.2.2.2.2.1.2.1 C.2.2.2.2.2
  refine lv_aload_n hx hb dX10_init_2_0 rfl (lv_at hl 2 rfl) ?_
  refine va_instS C.1 C.2.1 C.2.2.2.1 (C.2.2.2.2.1 _ q404) (C.2.2.2.2.2.1 8 _ rfl).2 (va_recv C.2.2.2.2.2 hR0 (ci := 8) (q0 := 0) rfl rfl) dX10_init_2_1 ?_
  refine lv_eqi (y := nI 1) rfl ?_
  refine xr_if_eq (a := 1) (tgt := 56) hx hb dX10_init_2_4 (by decide) (by omega) (fun c_4 => absurd c_4 (by decide)) (fun c_4 => ?_)
  refine lv_aload_n hx hb dX10_init_2_7 rfl (lv_at hl 0 rfl) ?_
  refine lv_aload_n hx hb dX10_init_2_8 rfl (lv_at hl 0 rfl) ?_
  refine lv_aload_n hx hb dX10_init_2_9 rfl (lv_at hl 2 rfl) ?_
  refine va_castS C.1 C.2.1 C.2.2.2.1 (C.2.2.2.2.1 _ q404) (C.2.2.2.2.2.1 8 _ rfl).2 (va_recv C.2.2.2.2.2 hR0 (ci := 8) (q0 := 0) rfl rfl) dX10_init_2_10 ?_
  refine xr_callV0 (n := 0) (rest := [.ref h, .ref h]) (Cn := RX12) (T := TX12) (N := 1) C w (met_X12_getKey l G s.heap.size hp hk ) hR0 rfl q405 q406 q407 q21 q408 rfl (by decide +kernel) ⟨rfl, rfl, by decide, by decide⟩ (fun _ _ _ _ h => h) (fun U hU hW => by rw [hU]; exact (xp_cons hR0 xp_nil)) rfl hl.1 rfl (Nat.le_of_ble_eq_true rfl) dX10_init_2_13 ⟨by decide, by decide⟩ (fun v hp => ?_)
  subst hp
  refine lv_iload_n hx hb dX10_init_2_16 rfl (lv_at hl 1 rfl) ?_
  refine xr_callV (n := 2) (rest := [.ref h]) (wr := []) (Cn := RX10) (T := TX10) (N := 4) C w (met_gwk l G s.heap.size h hk b z r0 v1 r2 v3 KC (hKC) (hz) (w.neA 0 rfl hN1)) (w.at 0 rfl) rfl q409 q411 qs4 q19 q412 rfl (by decide +kernel) ⟨rfl, rfl, by decide, by decide⟩ (fun _ _ _ _ h => h) (fun U hU hW => by rw [hU]; exact (xp_cons hR1 xp_nil)) [0] [] rfl rfl rfl rfl (by decide) rfl hl.1 rfl (Nat.le_of_ble_eq_true rfl) dX10_init_2_17 ⟨by decide, by decide⟩ (fun u v H1 locs hp hz_17 hk_17 w => ?_)
  generalize H1 = H at hp w ⊢
  obtain ⟨wa, rfl⟩ : ∃ z, z = u := ⟨_, rfl⟩
  obtain ⟨rfl, hwa, hKW⟩ := hp
  have w : Wd G A [(h, xO 6 [.int (nI (KC + 6)), v1, .int r2, v3])] s s.heap H locs := w
  rw [hsz] at hwa
  refine xr_putX (ci := 6) (v := .ref wa) (ty := (.array (.array .int))) (Cn := RX10) (T := TX10) (N := 4) C w 0 rfl in_X10 tyX10 tyX10_ok nmX10 rfl 1 (by decide) q140 (fun _ h => h) rfl (by decide +kernel) (rfl) (rfl) (Nat.le_of_ble_eq_true rfl) dX10_init_2_20 (fun H locs ho_20 hz_20 w => ?_)
  have hKW := hKW.kept (fun q hq _ => ho_20 q (fun e => by have := kwf_ge hq; omega))
  have w : Wd G A [(h, xO 6 [.int (nI (KC + 6)), .ref wa, .int r2, v3])] s s.heap H locs := w
  refine lv_aload_n hx hb dX10_init_2_23 rfl (lv_at hl 0 rfl) ?_
  refine lv_iload_n hx hb dX10_init_2_24 rfl (lv_at hl 1 rfl) ?_
  refine xr_putX (ci := 6) (v := .int (nI z)) (ty := .boolean) (Cn := RX10) (T := TX10) (N := 4) C w 0 rfl in_X10 tyX10 tyX10_ok nmX10 rfl 2 (by decide) q141 (fun _ h => h) rfl (by decide +kernel) (nar_z hz) (fit_z hz) (Nat.le_of_ble_eq_true rfl) dX10_init_2_25 (fun H locs ho_25 hz_25 w => ?_)
  have hKW := hKW.kept (fun q hq _ => ho_25 q (fun e => by have := kwf_ge hq; omega))
  have w : Wd G A [(h, xO 6 [.int (nI (KC + 6)), .ref wa, .int (nI z), v3])] s s.heap H locs := w
  refine lv_iload_n hx hb dX10_init_2_28 rfl (lv_at hl 1 rfl) ?_
  refine xr_if_eq (a := z) (tgt := 45) hx hb dX10_init_2_29 (by decide) (by omega) (fun c_29 => ?_) (fun c_29 => ?_)
  · refine lv_aload_n hx hb dX10_init_2_45 rfl (lv_at hl 0 rfl) ?_
    refine xr_gets C w hz_Si q470 dX10_init_2_46 ?_
    have hle := w.2.2.1.1
    refine xr_callS (n := 1) (rest := [.ref h]) (wr := [(h, xO 6 [.int (nI (KC + 6)), .ref wa, .int (nI z), v3])]) C w (met_X13_clone l G H.size t_Si siF ) q460 q461 q23 q462 (by decide +kernel) ⟨rfl, rfl, by decide, by decide⟩ (fun _ _ _ _ h => h) (fun U hU hW => by rw [hU]; exact hx_Si.kept (fun hl => w.2.2.1.2.1 _ hl hn_Si)) [] [0] rfl rfl rfl rfl (by decide) rfl hl.1 rfl (Nat.le_of_ble_eq_true rfl) dX10_init_2_49 ⟨by decide, by decide⟩ (fun u v H1 locs hp hz_49 hk_49 w => ?_)
    have hfar : ∀ q, KWf wa (KC + 7) (fun r => wa + 1 + r) q → q < u := fun q hq => Nat.lt_of_lt_of_le (hKW.lt q hq) hp.2
    have hKW := hKW.kept (fun q hq hl => hk_49 q hl (not_va_nil hl))
    generalize H1 = H at hp w hKW ⊢
    obtain ⟨hs, rfl⟩ : ∃ z, z = u := ⟨_, rfl⟩
    obtain ⟨rfl, hqn⟩ := hp
    have w : Wd G A [(h, xO 6 [.int (nI (KC + 6)), .ref wa, .int (nI z), v3]), (hs, xB G 256 siF)] s s.heap H locs := w
    have w := w.bx 1 rfl (b' := sF z) (fun j _ => by unfold sF; rw [if_pos c_29])
    have w : Wd G A [(h, xO 6 [.int (nI (KC + 6)), .ref wa, .int (nI z), v3]), (hs, xB G 256 (sF z))] s s.heap H locs := w
    refine xr_putX (ci := 6) (v := .ref hs) (ty := (.array .byte)) (Cn := RX10) (T := TX10) (N := 4) C w 0 rfl in_X10 tyX10 tyX10_ok nmX10 rfl 3 (by decide) q142 (fun _ h => h) rfl (by decide +kernel) (rfl) (rfl) (Nat.le_of_ble_eq_true rfl) dX10_init_2_52 (fun H locs ho_52 hz_52 w => ?_)
    have hKW := hKW.kept (fun q hq _ => ho_52 q (fun e => by have := kwf_ge hq; omega))
    have w : Wd G A [(h, xO 6 [.int (nI (KC + 6)), .ref wa, .int (nI z), .ref hs]), (hs, xB G 256 (sF z))] s s.heap H locs := w
    exact xr_vret C hlk hr w hAe hQ (by decide) (by decide) (wa, hs) rfl (⟨rfl, hwa, hKW, hfar⟩) dX10_init_2_55
  · refine lv_aload_n hx hb dX10_init_2_32 rfl (lv_at hl 0 rfl) ?_
    refine xr_gets C w hz_S q440 dX10_init_2_33 ?_
    have hle := w.2.2.1.1
    refine xr_callS (n := 1) (rest := [.ref h]) (wr := [(h, xO 6 [.int (nI (KC + 6)), .ref wa, .int (nI z), v3])]) C w (met_X13_clone l G H.size t_S sbF ) q460 q461 q23 q462 (by decide +kernel) ⟨rfl, rfl, by decide, by decide⟩ (fun _ _ _ _ h => h) (fun U hU hW => by rw [hU]; exact hx_S.kept (fun hl => w.2.2.1.2.1 _ hl hn_S)) [] [0] rfl rfl rfl rfl (by decide) rfl hl.1 rfl (Nat.le_of_ble_eq_true rfl) dX10_init_2_36 ⟨by decide, by decide⟩ (fun u v H1 locs hp hz_36 hk_36 w => ?_)
    have hfar : ∀ q, KWf wa (KC + 7) (fun r => wa + 1 + r) q → q < u := fun q hq => Nat.lt_of_lt_of_le (hKW.lt q hq) hp.2
    have hKW := hKW.kept (fun q hq hl => hk_36 q hl (not_va_nil hl))
    generalize H1 = H at hp w hKW ⊢
    obtain ⟨hs, rfl⟩ : ∃ z, z = u := ⟨_, rfl⟩
    obtain ⟨rfl, hqn⟩ := hp
    have w : Wd G A [(h, xO 6 [.int (nI (KC + 6)), .ref wa, .int (nI z), v3]), (hs, xB G 256 sbF)] s s.heap H locs := w
    have w := w.bx 1 rfl (b' := sF z) (fun j _ => by unfold sF; rw [if_neg c_29])
    have w : Wd G A [(h, xO 6 [.int (nI (KC + 6)), .ref wa, .int (nI z), v3]), (hs, xB G 256 (sF z))] s s.heap H locs := w
    refine xr_putX (ci := 6) (v := .ref hs) (ty := (.array .byte)) (Cn := RX10) (T := TX10) (N := 4) C w 0 rfl in_X10 tyX10 tyX10_ok nmX10 rfl 3 (by decide) q142 (fun _ h => h) rfl (by decide +kernel) (rfl) (rfl) (Nat.le_of_ble_eq_true rfl) dX10_init_2_39 (fun H locs ho_39 hz_39 w => ?_)
    have hKW := hKW.kept (fun q hq _ => ho_39 q (fun e => by have := kwf_ge hq; omega))
    have w : Wd G A [(h, xO 6 [.int (nI (KC + 6)), .ref wa, .int (nI z), .ref hs]), (hs, xB G 256 (sF z))] s s.heap H locs := w
    refine lv_goto (tgt := 55) hx hb dX10_init_2_42 (by decide) ?_
    exact xr_vret C hlk hr w hAe hQ (by decide) (by decide) (wa, hs) rfl (⟨rfl, hwa, hKW, hfar⟩) dX10_init_2_55

set_option maxHeartbeats 4000000 in
set_option maxRecDepth 100000 in
theorem met_pb1 (l : Launch) (G : GG) (sz : Nat) (h : Nat) (hi : Nat) (io : Nat) (ho : Nat) (oo : Nat) (wa : Nat) (KC : Nat) (hs : Nat) (ni : Nat) (bi : Nat → BitVec 8) (no : Nat) (bo : Nat → BitVec 8) (ad : Nat → Nat) (kw : Nat → Nat → Int32) (hKC : KC = 4 ∨ KC = 6 ∨ KC = 8) (hio : io + 16 ≤ ni) (hni : ni < 2 ^ 31) (hoo : oo + 16 ≤ no) (hno : no < 2 ^ 31) : Met l yX10_processBlock (ws_ yX10_processBlock cX10_processBlock 5 (some .int)) ({ frames := 2, cells := 0, slots := 0, locals := 77 } : Room) (va_Pc [.ref h, .ref hi, .int (nI io), .ref ho, .int (nI oo)] (PP G [(ho, xB G no bo)] sz (fun U : State => va_P G.1 vwCl [(hi, xB G ni bi)] U.heap ∧ Eng G h wa KC 1 hs ad kw U.heap))) (CQ G [(ho, xB G no bo)] sz (fun u : Unit => [(ho, xB G no (va_cpy (wby (eO KC kw (xw0 bi io kw 0))) bo 0 oo 16))]) (fun (u : Unit) (v : Option Value) (H : Heap) => v = some (.int (nI 16)))) 0 0 (va_A [(ho, xB G no bo)] sz) := by
  refine xr_met (own := RX10) (by decide) rfl (Nat.le_of_ble_eq_true rfl) ?_
  intro p e s m args below meth c ls Q A C hlk hr hnm hsz hAe w hRD hQ hl
  have hx := C.1
  have hb := C.2.1
  have w : Wd G A [(ho, xB G no bo)] s s.heap s.heap [] := w
  have hl : lv_has ls 5 [(0, .ref h), (1, .ref hi), (2, .int (nI io)), (3, .ref ho), (4, .int (nI oo))] := hl
  obtain ⟨hRd, hE⟩ := hRD
  have hR0 : va_P G.1 vwCl [(hi, xB G ni bi)] s.heap := va_P.sub hRd [0] rfl
  have hE0 : va_P G.1 vwCl [(h, xO 6 [.int (nI (KC + 6)), .ref wa, .int (nI 1), .ref hs]), (hs, xB G 256 sbF)] s.heap := hE.1
  have hE1 := va_P.sub hE0 (ws' := [(h, xO 6 [.int (nI (KC + 6)), .ref wa, .int (nI 1), .ref hs])]) [0] rfl
  have hE2 := va_P.sub hE0 (ws' := [(hs, xB G 256 sbF)]) [1] rfl
  refine lv_aload_n hx hb dX10_processBlock_0 rfl (lv_at hl 0 rfl) ?_
  refine xr_get (ci := 6) (v := .ref wa) (Cn := RX10) (T := TX10) (N := 4) C hE1 in_X10 rfl 1 (by decide) q140 (fun _ h => h) rfl dX10_processBlock_1 ?_
  refine lv_ifnonnull (tgt := 17) hx hb dX10_processBlock_4 (by decide) ?_
  refine lv_iload_n hx hb dX10_processBlock_17 rfl (lv_at hl 2 rfl) ?_
  refine lv_aload_n hx hb dX10_processBlock_18 rfl (lv_at hl 1 rfl) ?_
  refine xr_alenP C hR0 0 rfl dX10_processBlock_19 ?_
  refine lv_bipush (v := nI 16) hx hb dX10_processBlock_20 (by decide) ?_
  refine lv_isub hx hb dX10_processBlock_22 ?_
  refine lv_eqi (pk_sub (a := ni) (b := 16) (by omega)) ?_
  refine xr_icmp_le (a := io) (b := ni - 16) (tgt := 36) hx hb dX10_processBlock_23 (by decide) (by omega) (by omega) (fun c_23 => ?_) (fun c_23 => absurd c_23 (by omega))
  refine lv_iload hx hb dX10_processBlock_36 (lv_at hl 4 rfl) ?_
  refine lv_aload_n hx hb dX10_processBlock_38 rfl (lv_at hl 3 rfl) ?_
  refine xr_alenP C (w.at 0 rfl) 0 rfl dX10_processBlock_39 ?_
  refine lv_bipush (v := nI 16) hx hb dX10_processBlock_40 (by decide) ?_
  refine lv_isub hx hb dX10_processBlock_42 ?_
  refine lv_eqi (pk_sub (a := no) (b := 16) (by omega)) ?_
  refine xr_icmp_le (a := oo) (b := no - 16) (tgt := 56) hx hb dX10_processBlock_43 (by decide) (by omega) (by omega) (fun c_43 => ?_) (fun c_43 => absurd c_43 (by omega))
  refine lv_aload_n hx hb dX10_processBlock_56 rfl (lv_at hl 0 rfl) ?_
  refine xr_get (ci := 6) (v := .int (nI 1)) (Cn := RX10) (T := TX10) (N := 4) C hE1 in_X10 rfl 2 (by decide) q141 (fun _ h => h) rfl dX10_processBlock_57 ?_
  refine xr_if_eq (a := 1) (tgt := 79) hx hb dX10_processBlock_60 (by decide) (by omega) (fun c_60 => absurd c_60 (by decide)) (fun c_60 => ?_)
  refine lv_aload_n hx hb dX10_processBlock_63 rfl (lv_at hl 0 rfl) ?_
  refine lv_aload_n hx hb dX10_processBlock_64 rfl (lv_at hl 1 rfl) ?_
  refine lv_iload_n hx hb dX10_processBlock_65 rfl (lv_at hl 2 rfl) ?_
  refine lv_aload_n hx hb dX10_processBlock_66 rfl (lv_at hl 3 rfl) ?_
  refine lv_iload hx hb dX10_processBlock_67 (lv_at hl 4 rfl) ?_
  refine lv_aload_n hx hb dX10_processBlock_69 rfl (lv_at hl 0 rfl) ?_
  refine xr_get (ci := 6) (v := .ref wa) (Cn := RX10) (T := TX10) (N := 4) C hE1 in_X10 rfl 1 (by decide) q140 (fun _ h => h) rfl dX10_processBlock_70 ?_
  refine xr_callV (n := 5) (rest := []) (wr := []) (Cn := RX10) (T := TX10) (N := 4) C w (met_X10_encryptBlock l G s.heap.size h hi io ho oo wa KC (nI 1) hs ni bi no bo ad kw (by omega) (by omega) (by omega) (by omega) (by omega)) hE1 rfl q575 q577 qs5 q19 q578 rfl (by decide +kernel) ⟨rfl, rfl, by decide, by decide⟩ (fun _ _ _ _ h => h) (fun U hU hW => by rw [hU]; exact ⟨(xp_cons hE1 (xp_cons hE2 (xp_cons hR0 xp_nil))), hE.2⟩) [0] [] rfl rfl rfl rfl (by decide) rfl hl.1 rfl (Nat.le_of_ble_eq_true rfl) dX10_processBlock_73 ⟨by decide, by decide⟩ (fun u v H1 locs hp hz_73 hk_73 w => ?_)
  generalize H1 = H at hp w ⊢
  subst hp
  have w : Wd G A [(ho, xB G no (va_cpy (wby (eO KC kw (xw0 bi io kw 0))) bo 0 oo 16))] s s.heap H locs := w
  refine lv_goto (tgt := 92) hx hb dX10_processBlock_76 (by decide) ?_
  refine lv_bipush (v := nI 16) hx hb dX10_processBlock_92 (by decide) ?_
  exact xr_iret C hlk hr w hAe hQ (by decide) (by decide) () rfl (rfl) dX10_processBlock_94

set_option maxHeartbeats 4000000 in
set_option maxRecDepth 100000 in
theorem met_pb0 (l : Launch) (G : GG) (sz : Nat) (h : Nat) (hi : Nat) (io : Nat) (ho : Nat) (oo : Nat) (wa : Nat) (KC : Nat) (hs : Nat) (ni : Nat) (bi : Nat → BitVec 8) (no : Nat) (bo : Nat → BitVec 8) (ad : Nat → Nat) (kw : Nat → Nat → Int32) (hKC : KC = 4 ∨ KC = 6 ∨ KC = 8) (hio : io + 16 ≤ ni) (hni : ni < 2 ^ 31) (hoo : oo + 16 ≤ no) (hno : no < 2 ^ 31) : Met l yX10_processBlock (ws_ yX10_processBlock cX10_processBlock 5 (some .int)) ({ frames := 2, cells := 0, slots := 0, locals := 77 } : Room) (va_Pc [.ref h, .ref hi, .int (nI io), .ref ho, .int (nI oo)] (PP G [(ho, xB G no bo)] sz (fun U : State => va_P G.1 vwCl [(hi, xB G ni bi)] U.heap ∧ Eng G h wa KC 0 hs ad kw U.heap))) (CQ G [(ho, xB G no bo)] sz (fun u : Unit => [(ho, xB G no (va_cpy (wby (dO KC kw (xw0 bi io kw (KC + 6)))) bo 0 oo 16))]) (fun (u : Unit) (v : Option Value) (H : Heap) => v = some (.int (nI 16)))) 0 0 (va_A [(ho, xB G no bo)] sz) := by
  refine xr_met (own := RX10) (by decide) rfl (Nat.le_of_ble_eq_true rfl) ?_
  intro p e s m args below meth c ls Q A C hlk hr hnm hsz hAe w hRD hQ hl
  have hx := C.1
  have hb := C.2.1
  have w : Wd G A [(ho, xB G no bo)] s s.heap s.heap [] := w
  have hl : lv_has ls 5 [(0, .ref h), (1, .ref hi), (2, .int (nI io)), (3, .ref ho), (4, .int (nI oo))] := hl
  obtain ⟨hRd, hE⟩ := hRD
  have hR0 : va_P G.1 vwCl [(hi, xB G ni bi)] s.heap := va_P.sub hRd [0] rfl
  have hE0 : va_P G.1 vwCl [(h, xO 6 [.int (nI (KC + 6)), .ref wa, .int (nI 0), .ref hs]), (hs, xB G 256 siF)] s.heap := hE.1
  have hE1 := va_P.sub hE0 (ws' := [(h, xO 6 [.int (nI (KC + 6)), .ref wa, .int (nI 0), .ref hs])]) [0] rfl
  have hE2 := va_P.sub hE0 (ws' := [(hs, xB G 256 siF)]) [1] rfl
  refine lv_aload_n hx hb dX10_processBlock_0 rfl (lv_at hl 0 rfl) ?_
  refine xr_get (ci := 6) (v := .ref wa) (Cn := RX10) (T := TX10) (N := 4) C hE1 in_X10 rfl 1 (by decide) q140 (fun _ h => h) rfl dX10_processBlock_1 ?_
  refine lv_ifnonnull (tgt := 17) hx hb dX10_processBlock_4 (by decide) ?_
  refine lv_iload_n hx hb dX10_processBlock_17 rfl (lv_at hl 2 rfl) ?_
  refine lv_aload_n hx hb dX10_processBlock_18 rfl (lv_at hl 1 rfl) ?_
  refine xr_alenP C hR0 0 rfl dX10_processBlock_19 ?_
  refine lv_bipush (v := nI 16) hx hb dX10_processBlock_20 (by decide) ?_
  refine lv_isub hx hb dX10_processBlock_22 ?_
  refine lv_eqi (pk_sub (a := ni) (b := 16) (by omega)) ?_
  refine xr_icmp_le (a := io) (b := ni - 16) (tgt := 36) hx hb dX10_processBlock_23 (by decide) (by omega) (by omega) (fun c_23 => ?_) (fun c_23 => absurd c_23 (by omega))
  refine lv_iload hx hb dX10_processBlock_36 (lv_at hl 4 rfl) ?_
  refine lv_aload_n hx hb dX10_processBlock_38 rfl (lv_at hl 3 rfl) ?_
  refine xr_alenP C (w.at 0 rfl) 0 rfl dX10_processBlock_39 ?_
  refine lv_bipush (v := nI 16) hx hb dX10_processBlock_40 (by decide) ?_
  refine lv_isub hx hb dX10_processBlock_42 ?_
  refine lv_eqi (pk_sub (a := no) (b := 16) (by omega)) ?_
  refine xr_icmp_le (a := oo) (b := no - 16) (tgt := 56) hx hb dX10_processBlock_43 (by decide) (by omega) (by omega) (fun c_43 => ?_) (fun c_43 => absurd c_43 (by omega))
  refine lv_aload_n hx hb dX10_processBlock_56 rfl (lv_at hl 0 rfl) ?_
  refine xr_get (ci := 6) (v := .int (nI 0)) (Cn := RX10) (T := TX10) (N := 4) C hE1 in_X10 rfl 2 (by decide) q141 (fun _ h => h) rfl dX10_processBlock_57 ?_
  refine xr_if_eq (a := 0) (tgt := 79) hx hb dX10_processBlock_60 (by decide) (by omega) (fun c_60 => ?_) (fun c_60 => (c_60 rfl).elim)
  refine lv_aload_n hx hb dX10_processBlock_79 rfl (lv_at hl 0 rfl) ?_
  refine lv_aload_n hx hb dX10_processBlock_80 rfl (lv_at hl 1 rfl) ?_
  refine lv_iload_n hx hb dX10_processBlock_81 rfl (lv_at hl 2 rfl) ?_
  refine lv_aload_n hx hb dX10_processBlock_82 rfl (lv_at hl 3 rfl) ?_
  refine lv_iload hx hb dX10_processBlock_83 (lv_at hl 4 rfl) ?_
  refine lv_aload_n hx hb dX10_processBlock_85 rfl (lv_at hl 0 rfl) ?_
  refine xr_get (ci := 6) (v := .ref wa) (Cn := RX10) (T := TX10) (N := 4) C hE1 in_X10 rfl 1 (by decide) q140 (fun _ h => h) rfl dX10_processBlock_86 ?_
  refine xr_callV (n := 5) (rest := []) (wr := []) (Cn := RX10) (T := TX10) (N := 4) C w (met_X10_decryptBlock l G s.heap.size h hi io ho oo wa KC (nI 0) hs ni bi no bo ad kw (by omega) (by omega) (by omega) (by omega) (by omega)) hE1 rfl q584 q586 qs6 q19 q587 rfl (by decide +kernel) ⟨rfl, rfl, by decide, by decide⟩ (fun _ _ _ _ h => h) (fun U hU hW => by rw [hU]; exact ⟨(xp_cons hE1 (xp_cons hE2 (xp_cons hR0 xp_nil))), hE.2⟩) [0] [] rfl rfl rfl rfl (by decide) rfl hl.1 rfl (Nat.le_of_ble_eq_true rfl) dX10_processBlock_89 ⟨by decide, by decide⟩ (fun u v H1 locs hp hz_89 hk_89 w => ?_)
  generalize H1 = H at hp w ⊢
  subst hp
  have w : Wd G A [(ho, xB G no (va_cpy (wby (dO KC kw (xw0 bi io kw (KC + 6)))) bo 0 oo 16))] s s.heap H locs := w
  refine lv_bipush (v := nI 16) hx hb dX10_processBlock_92 (by decide) ?_
  exact xr_iret C hlk hr w hAe hQ (by decide) (by decide) () rfl (rfl) dX10_processBlock_94
