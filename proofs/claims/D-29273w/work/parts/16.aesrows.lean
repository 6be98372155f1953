/-! ROWS for AESEngine.init: a field written with the frame told, a static array's clone; the engine as a thing that is only read -/
section XS
variable {p : Program} {l : Launch} {e : Env} {R : Room} {s : State} {m : MethodId} {args : Array Value} {below : List Frame} {meth : Method} {c : Code} {H H0 : Heap} {locs : List Loc} {cells slots : Nat} {Q : State → Prop}
variable {cc : ByteArray} {pc nL : Nat} {own : String} {ls : Array Slot} {rest : List Value} {G : GG} {A : Nat → Prop} {ws : va_W} {a : Nat}
theorem xr_putX (C : Cx G p m c cc nL s args own) (w : Wd G A ws s H0 H locs) {ref Cn : String} {T : u_T} {N ci index : Nat} {fs : List Value} {v : Value} {ty : FieldType} (q0 : Nat) (ha : ws[q0]? = some (a, xO ci fs)) (hin : ∀ w ∈ u_ws Cn T N, w ∈ lw_all) (ty0 : Nat → FieldType) (hty : ∀ k, k < N → parseFieldDescriptor (T k).2.2.1 = some (ty0 k)) (hnm : ∀ a, a < N → ∀ b, b < N → a ≠ b → (T a).2.1 ≠ (T b).2.1) (hc : vwCl[ci]? = some (Cn, T, N)) (k : Nat) (hk : k < N) (hlink : Cond.fieldLink own index ref (T k).2.1 (T k).2.2.1 ∈ lw_all) (hsame : ∀ x, s.fieldFound? (T k).1 (T k).2.1 (T k).2.2.1 = some x → s.fieldFound? ref (T k).2.1 (T k).2.2.1 = some x) (hfin : (T k).2.2.2 = false) (hd : parseFieldDescriptor (T k).2.2.1 = some ty) (hn : narrow ty v = v) (hfit : fits ty v = true) (hl : k < fs.length) (hdg : decode cc pc = .ok (.putfield index, 3)) (kk : ∀ (H1 : Heap) (locs1 : List Loc), (∀ q : Nat, q ≠ a → H1[q]? = H[q]?) → H1.size = H.size → Wd G A (ws.set q0 (a, xO ci (fs.set k v))) s H0 H1 locs1 → W p l e R s m args below meth c H1 locs1 cells slots Q (F0 m (pc + 3) ls rest)) : W p l e R s m args below meth c H locs cells slots Q (F0 m pc ls (v :: .ref a :: rest)) := by
  have hts := C.2.2.2.2.1
  have hK := C.2.2.2.2.2
  have hap := va_apart (own := own) hts hin ty0 hty hnm hK hc
  obtain ⟨r, h1, cell, q1, q2, q3, q4⟩ := w.1 q0 _ ha
  have hr : r = (Cn, T, N) := Option.some.inj (h1.symm.trans hc)
  subst hr
  obtain ⟨hS, hfc, kC, hkC, hkind⟩ := hK.1 ci _ hc
  obtain ⟨cf, kf, fi, f, hi, hsl⟩ := hS k hk
  have hlay := hts _ (hin _ (u_in_lay hk))
  unfold u_lay at hlay
  rw [if_neg (by rw [hfin]; decide)] at hlay
  have hst := (u_facts hfc hkC (u_lays hts hin hk) hi).1
  have h6 := u_store hfc hkC hkind hlay hi hd hn hfit
  refine W.putK C.1 C.2.1 (f := f) ⟨C.2.2.2.1, hts _ hlink, ⟨_, _, _, hsame _ hi⟩, hst⟩ (by rw [q2]; exact h6) q1 q3 (by rw [hsl]; exact k2_hasslot (q4 k hk)) rfl rfl hdg fun H' e1 e2 e3 => ?_
  rw [hsl] at e1 ⊢
  exact kk H' _ e3 e2 ⟨w.1.set w.2.1 ha ⟨_, hc, t_OB.to (V := updV (vp_V fs) k v) ⟨_, e1, q2, q3, t_set q4 hap hk v⟩ (fun j _ => vp_updV_set hl v j)⟩ e3, w.2.1.set ha, w.2.2.1.put e2 e3 (w.2.1.2 q0 _ ha), w.2.2.2⟩
/-- an array of bytes that somebody owns: its cell, whatever else it bears -/
def xC (G : GG) (t N : Nat) (f : Nat → BitVec 8) (H : Heap) : Prop := ∃ cell : Cell, H[t]? = some cell ∧ cell.cls = G.2.1 ∧ (∀ k, cell.vm ≠ .statics k) ∧ cell.vm ≠ .unknown ∧ cell.slots.size = N ∧ ∀ j : Nat, j < N → cell.slots[j]? = some (.int (sB (f j)))
theorem xr_cloneT (C : Cx G p m c cc nL s args own) (w : Wd G A ws s H0 H locs) {t N index : Nat} {f : Nat → BitVec 8} (hX : xC G t N f H) (hlink : Cond.methodLink own index ⟨"[B", "clone", "()Ljava/lang/Object;"⟩ ∈ lw_all) (h1 : Cond.sameMethod "[B" "java/lang/Object" "clone" "()Ljava/lang/Object;" ∈ lw_all) (h2 : Cond.native ⟨"java/lang/Object", "clone", "()Ljava/lang/Object;"⟩ ∈ lw_all) (h3 : Cond.instanceMethod ⟨"java/lang/Object", "clone", "()Ljava/lang/Object;"⟩ ∈ lw_all) (h4 : Cond.selects "[B" ⟨"[B", "clone", "()Ljava/lang/Object;"⟩ ⟨"java/lang/Object", "clone", "()Ljava/lang/Object;"⟩ ∈ lw_all) (hls : ls.size = nL) (hframes : 1 ≤ R.frames) (hlocals : (rest.map fun v => v.category).sum + 14 ≤ R.locals) (hcells : cells + 1 ≤ R.cells) (hslots : slots + N ≤ R.slots) (hdg : decode cc pc = .ok (.invokevirtual index, 3))
    (kk : ∀ (q : Nat) (H1 : Heap), H.size ≤ q → Wd G A (ws ++ [(q, xB G N f)]) s H0 H1 locs → W p l e R s m args below meth c H1 locs (cells + 1) (slots + N) Q (F0 m (pc + 3) ls (.ref q :: rest))) : W p l e R s m args below meth c H locs cells slots Q (F0 m pc ls (.ref t :: rest)) := by
  obtain ⟨cell, hc, hcl, hns, hnu, hsz, hv⟩ := hX
  have hts := C.2.2.2.2.1
  have hK := C.2.2.2.2.2
  have hnm : s.vm.findClass "[B" = some cell.cls := by rw [hcl]; exact (hK.2 0 _ rfl).2
  obtain ⟨c0, t0', f1, f2, f3⟩ := Cond.castable_spec (va_Nw.use (A := args) rfl w.2.2.2.2.2.2.2.1)
  cases hnm.symm.trans f1
  have hcellE : ({ cls := cell.cls, slots := cell.slots } : Cell) = vp_cell G.2.1 (N, .inl fun j => sB (f j)) := by
    rw [vp_cell_i]
    show ({ cls := cell.cls, slots := cell.slots, vm := .none } : Cell) = { cls := G.2.1, slots := Array.ofFn (n := N) fun j => .int (sB (f j.val)), vm := .none }
    have e1 : cell.slots = Array.ofFn (n := N) fun j => Value.int (sB (f j.val)) := by
      apply Array.ext
      · simp [hsz]
      · intro i h1 h2
        have := hv i (by omega)
        rw [Array.getElem?_eq_getElem h1] at this
        simp [Option.some.inj this]
    rw [hcl, e1]
  intro T hT X
  have hcellT : T.heap[t]? = some cell := by rw [hT]; exact hc
  obtain ⟨-, kA, hkA, comp, hkind⟩ := State.isArrayOf_alike X.warmed.alike ((hK.2 0 _ rfl).1 0 (fun _ => .null))
  obtain ⟨-, kS, hkS, compS, hkindS⟩ := (hK.2 0 _ rfl).1 0 (fun _ => .null)
  obtain ⟨vm', X', st⟩ := X.cloneArray C.1 C.2.2.2.1 (hts _ hlink) (hts _ h1) (hts _ h2) (hts _ h3) (hts _ h4) (a := t) (cell := cell) hcellT hns hnu hnm f2 f3
    (fun i v hv' => by
      rw [hcl]
      have hk' : T.vm.classes[G.2.1]? = some kA := hkA
      have hi : i < N := by rw [← hsz]; exact (Array.getElem?_eq_some_iff.mp hv').1
      have hvi : v = .int (sB (f i)) := Option.some.inj (hv'.symm.trans (hv i hi))
      subst hvi
      simpa [State.fitsSlot, State.slotType?, hk', hkind] using fit_sB (f i))
    (g := F0 m pc ls (.ref t :: rest)) rfl (by rw [C.2.2.1]; exact hls) rfl (by rw [C.2.1]; exact hdg) hframes (by show 2 * 0 + _ + 14 ≤ _; omega) hcells (by rw [hsz]; exact hslots) (hloader := by rw [hcl]; exact Vm.clonesLoader_of_array hkS hkindS)
  rw [hcellE, hsz] at X'
  generalize hH1 : H.push (vp_cell G.2.1 (N, .inl fun j => sB (f j))) = H1
  have z1 : H1.size = H.size + 1 := by rw [← hH1, Array.size_push]
  have e1 : H1[H.size]? = some (vp_cell G.2.1 (N, .inl fun j => sB (f j))) := by rw [← hH1, Array.getElem?_push_size]
  have o1 : ∀ q : Nat, q < H.size → H1[q]? = H[q]? := fun q hq => by rw [← hH1, Array.getElem?_push, if_neg (Nat.ne_of_lt hq)]
  have hk : ∀ (k : Nat) (y : Nat × va_E), ws[k]? = some y → H1[y.1]? = H[y.1]? := fun k y hy => o1 y.1 ((w.1 k y hy).lt)
  have hS := w.2.2.1
  obtain ⟨t1, b1, b2⟩ := kk H.size H1 (Nat.le_refl _) ⟨(w.1.kept hk).app (fun k y hy => by
      have hz : k < 1 := (List.getElem?_eq_some_iff.mp hy).1
      rw [show k = 0 by omega] at hy
      cases hy
      exact e1), w.2.1.push w.1 rfl (w.2.2.2.1 _ hS.1), ⟨Nat.le_trans hS.1 (by omega), fun y h1 h2 => (o1 y (Nat.lt_of_lt_of_le h1 hS.1)).trans (hS.2.1 y h1 h2), hS.2.2⟩, w.2.2.2⟩
    ((T.setVm vm').pushCell (vp_cell G.2.1 (N, .inl fun j => sB (f j)))) (by rw [← hH1, ← hT]; rfl) X'
  refine ⟨t1, st t1 ?_, b2⟩
  rw [hcellE, hT]
  exact b1
end XS
theorem SZ.xC {n d : String} {N : Nat} {f : Nat → BitVec 8} {A : Nat → Prop} {s : State} {H : Heap} {G : GG} (h : SZ n d .byte N (fun j => sB (f j)) A s H) (hK : xK G s) : ∃ t, va_Z "AESEngine" n d (.ref t) A s H ∧ ¬ A t ∧ xC G t N f H := by
  obtain ⟨t, cell, h1, h2, h3, h4, h5, h6, h7, h8⟩ := h
  exact ⟨t, h1, h7, cell, h2, Option.some.inj (h8.symm.trans (hK.2 0 _ rfl).2), h3.1, h4, h5, h6⟩
theorem xC.kept {G : GG} {t N : Nat} {f : Nat → BitVec 8} {H H1 : Heap} (h : xC G t N f H) (hq : t < H.size → H1[t]? = H[t]?) : xC G t N f H1 := by
  obtain ⟨cell, h1, h2⟩ := h
  exact ⟨cell, by rw [hq (Array.getElem?_eq_some_iff.mp h1).1]; exact h1, h2⟩
/-- S to encrypt (z = 1), its inverse to decrypt -/
def sF (z j : Nat) : BitVec 8 := if z = 0 then siF j else sbF j
/-- an engine that is set: only read from here on -/
def Eng (G : GG) (h wa KC z hs : Nat) (ad : Nat → Nat) (kw : Nat → Nat → Int32) (H : Heap) : Prop := va_P G.1 vwCl [(h, xO 6 [.int (nI (KC + 6)), .ref wa, .int (nI z), .ref hs]), (hs, xB G 256 (sF z))] H ∧ KW G wa (KC + 7) ad kw H
def EngF (h wa KC hs : Nat) (ad : Nat → Nat) (q : Nat) : Prop := q = h ∨ q = hs ∨ KWf wa (KC + 7) ad q
theorem Eng.kept {G : GG} {h wa KC z hs : Nat} {ad : Nat → Nat} {kw : Nat → Nat → Int32} {H H1 : Heap} (hE : Eng G h wa KC z hs ad kw H) (hq : ∀ q, EngF h wa KC hs ad q → q < H.size → H1[q]? = H[q]?) : Eng G h wa KC z hs ad kw H1 := by
  refine ⟨hE.1.kept fun i q hi => ?_, hE.2.kept fun q h1 h2 => hq q (Or.inr (Or.inr h1)) h2⟩
  have hl := (hE.1 i q hi).lt
  match i, hi with
  | 0, hi => cases hi; exact hq _ (Or.inl rfl) hl
  | 1, hi => cases hi; exact hq _ (Or.inr (Or.inl rfl)) hl
  | i + 2, hi => simp at hi
theorem Eng.lt {G : GG} {h wa KC z hs : Nat} {ad : Nat → Nat} {kw : Nat → Nat → Int32} {H : Heap} (hE : Eng G h wa KC z hs ad kw H) : ∀ q, EngF h wa KC hs ad q → q < H.size := by
  rintro q (rfl | rfl | h)
  · exact (hE.1 0 _ rfl).lt
  · exact (hE.1 1 _ rfl).lt
  · exact hE.2.lt q h
theorem Eng.keep {G : GG} {h wa KC z hs : Nat} {ad : Nat → Nat} {kw : Nat → Nat → Int32} {H0 H : Heap} {A : Nat → Prop} {locs : List Loc} (hE : Eng G h wa KC z hs ad kw H0) (hA : ∀ q, EngF h wa KC hs ad q → ¬ A q) (hS : va_S A H0 H locs) : Eng G h wa KC z hs ad kw H := hE.kept fun q hq hl => hS.2.1 q hl (hA q hq)
theorem Wd.free {G : GG} {A : Nat → Prop} {ws wc : va_W} {s : State} {H0 H : Heap} {locs : List Loc} (w : Wd G A ws s H0 H locs) (isC : List Nat) (hC : isC.map (fun i => ws[i]?) = wc.map some) : ∀ q, va_A wc H.size q → A q := va_free w.2.1 w.2.2.1 w.2.2.2.1 isC hC
/-- generateWorkingKey, for the three lengths of key in one -/
theorem met_gwk (l : Launch) (G : GG) (sz : Nat) (h : Nat) (ky : Nat) (b : Nat → BitVec 8) (z : Nat) (r0 : Int32) (v1 : Value) (r2 : Int32) (v3 : Value) (KC : Nat) (hKC : KC = 4 ∨ KC = 6 ∨ KC = 8) (hz : z < 2) (ap0_0 : h ≠ ky) : Met l yX10_generateWorkingKey (ws_ yX10_generateWorkingKey cX10_generateWorkingKey 17 (some (.array (.array .int)))) ({ frames := 2, cells := 16, slots := 75, locals := 60 } : Room) (va_Pc [.ref h, .ref ky, .int (nI z)] (PP G [(h, xO 6 [.int r0, v1, .int r2, v3])] sz (fun U : State => va_P G.1 vwCl [(ky, xB G (4 * KC) b)] U.heap))) (CQ G [(h, xO 6 [.int r0, v1, .int r2, v3])] sz (fun u : Nat => [(h, xO 6 [.int (nI (KC + 6)), v1, .int r2, v3])]) (fun (u : Nat) (v : Option Value) (H : Heap) => v = some (.ref u) ∧ sz ≤ u ∧ KW G u (KC + 7) (fun r => u + 1 + r) (kwF KC (keyw b) z) H)) 16 75 (va_A [(h, xO 6 [.int r0, v1, .int r2, v3])] sz) := by
  rcases hKC with rfl | rfl | rfl
  · exact met_gwk4 l G sz h ky b z r0 v1 r2 v3 hz ap0_0
  · exact met_gwk6 l G sz h ky b z r0 v1 r2 v3 hz ap0_0
  · exact met_gwk8 l G sz h ky b z r0 v1 r2 v3 hz ap0_0
theorem nar_z {z : Nat} (hz : z < 2) : narrow .boolean (.int (nI z)) = .int (nI z) := by
  match z, hz with
  | 0, _ => decide +kernel
  | 1, _ => decide +kernel
theorem fit_z {z : Nat} (hz : z < 2) : fits .boolean (.int (nI z)) = true := by
  match z, hz with
  | 0, _ => decide +kernel
  | 1, _ => decide +kernel
theorem kwf_ge {wa n q : Nat} (h : KWf wa n (fun r => wa + 1 + r) q) : wa ≤ q := by
  rcases h with rfl | ⟨r, -, rfl⟩
  · exact Nat.le_refl _
  · dsimp only; omega
theorem not_va_nil {sz q : Nat} (h : q < sz) : ¬ va_A [] sz q := by
  rintro (⟨k, e, h1⟩ | h1)
  · simp at h1
  · omega
