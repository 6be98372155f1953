/-! ROWS: this claim's own rows over the kit's: one class list, one world per method, calls joined in one step -/
abbrev GG : Type := va_G × ClassId × ClassId × ClassId
def TXn : u_T := fun _ => ("", "", "", false)
def tyXn : Nat → FieldType := fun _ => .int
theorem tyXn_ok : ∀ k, k < 0 → parseFieldDescriptor (TXn k).2.2.1 = some (tyXn k) := fun k h => absurd h (Nat.not_lt_zero k)
theorem in_n {Cn : String} : ∀ w ∈ u_ws Cn TXn 0, w ∈ lw_all := fun w h => by simp [u_ws] at h
abbrev vwCl : List vw_C := [(RX1, TX1, 7), (RX2, TXn, 0), (RX3, TXn, 0), (RX4, TXn, 0), (RX7, TX7, 5), (RX9, TX9, 6), (RX10, TX10, 4), (RX11, TX11, 2), (RX12, TX12, 1)]
abbrev xB (G : GG) (n : Nat) (b : Nat → BitVec 8) : va_E := .inl (G.2.1, n, .inl (fun j => sB (b j)))
abbrev xI (G : GG) (n : Nat) (f : Nat → Int32) : va_E := .inl (G.2.2.1, n, .inl f)
abbrev xR (G : GG) (n : Nat) (f : Nat → Option Nat) : va_E := .inl (G.2.2.2, n, .inr (.inr (.inr (.inr f))))
abbrev xO (k : Nat) (fs : List Value) : va_E := .inr (k, fs)
def xK (G : GG) (U : State) : Prop := va_K G.1 vwCl [(G.2.1, .byte), (G.2.2.1, .int), (G.2.2.2, .array .int)] U
theorem xK.moved {G : GG} {u U : State} (h : xK G u) (hvm : u.vm.Alike U.vm) : xK G U := va_K.moved hvm h
/-! what every method may lean on: statics that nobody writes, words of the tables that ride in no list -/
def SZ (n d : String) (ty : FieldType) (N : Nat) (f : Nat → Int32) (A : Nat → Prop) (U : State) (H : Heap) : Prop := ∃ (t : Nat) (cell : Cell), va_Z "AESEngine" n d (.ref t) A U H ∧ H[t]? = some cell ∧ U.isArrayOf cell ty ∧ cell.vm ≠ .unknown ∧ cell.slots.size = N ∧ (∀ j : Nat, j < N → cell.slots[j]? = some (.int (f j))) ∧ ¬ A t ∧ U.vm.findClass ("[" ++ ty.toString) = some cell.cls
theorem SZ.give {n d : String} {ty : FieldType} {N : Nat} {f : Nat → Int32} {A B : Nat → Prop} {u U : State} {H H1 : Heap} (h : SZ n d ty N f A u H) (hq : ∀ a : Nat, a < H.size → ¬ A a → H1[a]? = H[a]?) (hAB : ∀ q, B q → A q) (hvm : u.vm.Alike U.vm) : SZ n d ty N f B U H1 := by
  obtain ⟨t, cell, h1, h2, h3, h4, h5, h6, h7, h8⟩ := h
  exact ⟨t, cell, va_Z.moved hvm ((h1.kept hq).narrow hAB), by rw [hq t (Array.getElem?_eq_some_iff.mp h2).1 h7]; exact h2, State.isArrayOf_alike hvm h3, h4, h5, h6, fun z => h7 (hAB t z), by rw [hvm.findClass]; exact h8⟩
theorem SZ.T {n d : String} {ty : FieldType} {N : Nat} {f : Nat → Int32} {A : Nat → Prop} {U : State} {H : Heap} (h : SZ n d ty N f A U H) : ∃ t, va_Z "AESEngine" n d (.ref t) A U H ∧ va_T ty t N (fun j => .int (f j)) A U H := by
  obtain ⟨t, cell, h1, h2, h3, h4, h5, h6, h7, -⟩ := h
  exact ⟨t, h1, cell, h2, h3, h4, Nat.le_of_eq h5.symm, by rw [h5], h6, h7⟩
def SS (A : Nat → Prop) (U : State) (H : Heap) : Prop := SZ "S" "[B" .byte 256 tS A U H ∧ SZ "Si" "[B" .byte 256 tSi A U H ∧ SZ "rcon" "[I" .int 30 tR A U H ∧ SZ "T0" "[I" .int 256 tT0 A U H ∧ SZ "Tinv0" "[I" .int 256 tTi A U H
def XS (A : Nat → Prop) (U : State) (H : Heap) : Prop := vx_Zq Bundle.tN "UNASSIGNED_STACK" Bundle.steD A U H ∧ vx_Zq Bundle.tN "SUPPRESSED_SENTINEL" Bundle.listD A U H
def yBgb : MethodName := ⟨"BlockCipher", "getBlockSize", "()I"⟩
def yBin : MethodName := ⟨"BlockCipher", "init", "(ZLCipherParameters;)V"⟩
def yBpb : MethodName := ⟨"BlockCipher", "processBlock", "([BI[BI)I"⟩
def yBre : MethodName := ⟨"BlockCipher", "reset", "()V"⟩
def yPin : MethodName := ⟨"BlockCipherPadding", "init", "(Ljava/security/SecureRandom;)V"⟩
def yPad : MethodName := ⟨"BlockCipherPadding", "addPadding", "([BI)I"⟩
def yPct : MethodName := ⟨"BlockCipherPadding", "padCount", "([B)I"⟩
/-- the interface calls: receiver's class, the interface's method, the class's own -/
def fwL : List (String × MethodName × MethodName) := [(RX10, yBgb, yX10_getBlockSize), (RX10, yBin, yX10_init_2), (RX10, yBpb, yX10_processBlock), (RX10, yBre, yX10_reset), (RX9, yBgb, yX9_getBlockSize), (RX9, yBin, yX9_init_2), (RX9, yBpb, yX9_processBlock), (RX9, yBre, yX9_reset), (RX2, yPin, yX2_init_2), (RX2, yPad, yX2_addPadding), (RX2, yPct, yX2_padCount), (RX3, yPin, yX3_init_2), (RX3, yPad, yX3_addPadding), (RX3, yPct, yX3_padCount), (RX4, yPin, yX4_init_2), (RX4, yPad, yX4_addPadding), (RX4, yPct, yX4_padCount)]
theorem fwL_ok : ∀ q ∈ fwL, q.2.1.cls ≠ "java/lang/invoke/MethodHandle" ∧ q.2.1.cls ≠ "java/lang/invoke/VarHandle" := by decide +kernel
def xICE : String := "InvalidCipherTextException"
def TW (U : State) : Prop := (∀ q ∈ fwL, va_Fw q.1 q.2.1 q.2.2 U) ∧ va_Nw (.castable "[B" "java/lang/Cloneable") U ∧ va_Nw (.arrayOver (.array .int)) U ∧ va_Nc RX11 "ParametersWithRandom" U ∧ va_Nw (.castable xICE xICE) U ∧ (∃ a, vk_R RX2 9 "pad block corrupted" a U) ∧ (∃ a, vk_R RX3 9 "pad block corrupted" a U)
theorem arrOver_moved {t : FieldType} {u U : State} (hvm : u.vm.Alike U.vm) (h : va_Nw (.arrayOver (.array t)) u) : va_Nw (.arrayOver (.array t)) U := by
  have h0 := h
  unfold va_Nw Cond.before Cond.holds at h0 ⊢
  simp only [Cond.value, beq_iff_eq] at h0 ⊢
  simp only [hvm.findClass]
  cases hc : u.vm.findClass (FieldType.array t).toString with
  | none => rw [hc] at h0; simp at h0
  | some comp =>
    rw [hc] at h0
    simp only [Option.bind_some] at h0 ⊢
    have e0 : U.vm.bare = u.vm.bare := by first | exact hvm.bare_eq | exact hvm.bare_eq.symm
    have e : (U.vm.classes.findIdx? fun (x : Class) => match x.kind with | .array component _ => component == comp | _ => false) = (u.vm.classes.findIdx? fun (x : Class) => match x.kind with | .array component _ => component == comp | _ => false) := (va_idx_bare U.vm comp).symm.trans (by rw [e0]; exact va_idx_bare u.vm comp)
    obtain ⟨ci, hi, hm⟩ := Option.bind_eq_some_iff.mp h0
    obtain ⟨k, hk, hv⟩ := Option.map_eq_some_iff.mp hm
    obtain ⟨k', hk', he⟩ := hvm.2.2 _ _ hk
    refine Option.bind_eq_some_iff.mpr ⟨ci, e.trans hi, Option.map_eq_some_iff.mpr ⟨k', hk', ?_⟩⟩
    rw [he]
    exact hv
theorem TW.warm {s U : State} (h : TW s) (hW : s.WarmedH U.vm) : TW U := by
  obtain ⟨h1, h2, h3, h4, h5, ⟨a, h6⟩, ⟨b, h7⟩⟩ := h
  exact ⟨fun q hq => va_Fw.moved (fwL_ok q hq) hW.alike (h1 q hq), h2.warmC hW, arrOver_moved hW.alike h3, va_Nc.moved hW.alike h4, h5.warmC hW, ⟨a, h6.warm hW⟩, ⟨b, h7.warm hW⟩⟩
theorem TW.same {s U : State} (h : TW s) (hv : U.vm = s.vm) : TW U := by
  obtain ⟨h1, h2, h3, h4, h5, ⟨a, h6⟩, ⟨b, h7⟩⟩ := h
  have al : s.vm.Alike U.vm := by rw [hv]; exact Vm.Alike.refl _
  exact ⟨fun q hq => va_Fw.moved (fwL_ok q hq) al (h1 q hq), h2.same rfl hv.symm, arrOver_moved al h3, va_Nc.moved al h4, h5.same rfl hv.symm, ⟨a, h6.same hv⟩, ⟨b, h7.same hv⟩⟩
def EV (A : Nat → Prop) (U : State) (H : Heap) : Prop := SS A U H ∧ XS A U H ∧ TW U
theorem EV.give {A B : Nat → Prop} {s U : State} {H H1 : Heap} (h : EV A s H) (hq : ∀ a : Nat, a < H.size → ¬ A a → H1[a]? = H[a]?) (hAB : ∀ q, B q → A q) (hW : s.WarmedH U.vm) : EV B U H1 := by
  obtain ⟨⟨a1, a2, a3, a4, a5⟩, ⟨b1, b2⟩, c⟩ := h
  exact ⟨⟨a1.give hq hAB hW.alike, a2.give hq hAB hW.alike, a3.give hq hAB hW.alike, a4.give hq hAB hW.alike, a5.give hq hAB hW.alike⟩, ⟨vx_Zq.moved hW.alike ((b1.kept hq).narrow hAB), vx_Zq.moved hW.alike ((b2.kept hq).narrow hAB)⟩, c.warm hW⟩
theorem EV.to {A B : Nat → Prop} {s : State} {H H1 : Heap} (h : EV A s H) (hq : ∀ a : Nat, a < H.size → ¬ A a → H1[a]? = H[a]?) (hAB : ∀ q, B q → A q) : EV B s H1 := by
  obtain ⟨⟨a1, a2, a3, a4, a5⟩, ⟨b1, b2⟩, c⟩ := h
  have al := Vm.Alike.refl s.vm
  exact ⟨⟨a1.give hq hAB al, a2.give hq hAB al, a3.give hq hAB al, a4.give hq hAB al, a5.give hq hAB al⟩, ⟨(b1.kept hq).narrow hAB, (b2.kept hq).narrow hAB⟩, c⟩
theorem EV.calling {A : Nat → Prop} {U : State} {H : Heap} {g : JFrame} {mk : MethodId} {a : Array Value} (h : EV A U H) : EV A (U.calling g mk a) H := by
  obtain ⟨⟨a1, a2, a3, a4, a5⟩, ⟨b1, b2⟩, c⟩ := h
  have al : U.vm.Alike (U.calling g mk a).vm := Vm.Alike.refl U.vm
  have id1 : ∀ a : Nat, a < H.size → ¬ A a → H[a]? = H[a]? := fun _ _ _ => rfl
  exact ⟨⟨a1.give id1 (fun _ h => h) al, a2.give id1 (fun _ h => h) al, a3.give id1 (fun _ h => h) al, a4.give id1 (fun _ h => h) al, a5.give id1 (fun _ h => h) al⟩, ⟨vx_Zq.moved al b1, vx_Zq.moved al b2⟩, c.same rfl⟩
/-! a world, a method's frame -/
def Cx (G : GG) (p : Program) (m : MethodId) (c : Code) (cc : ByteArray) (nL : Nat) (s : State) (args : Array Value) (own : String) : Prop := p.tables.exec = Jvm.exec ∧ c.code = cc ∧ c.maxLocals = nL ∧ s.vm.findClass own = some m.cls ∧ (∀ w ∈ lw_all, w.before args s = true) ∧ xK G s
def Wd (G : GG) (A : Nat → Prop) (ws : va_W) (s : State) (H0 H : Heap) (locs : List Loc) : Prop := va_P G.1 vwCl ws H ∧ va_D A ws ∧ va_S A H0 H locs ∧ (∀ q : Nat, H0.size ≤ q → A q) ∧ EV A s H0
theorem Wd.sub {G : GG} {A : Nat → Prop} {ws ws' : va_W} {s : State} {H0 H : Heap} {locs : List Loc} (w : Wd G A ws s H0 H locs) (is : List Nat) (hn : va_nd is = true) (hs : is.map (fun i => ws[i]?) = ws'.map some) : Wd G A ws' s H0 H locs := by
  refine ⟨fun k q hk => ?_, w.2.1.sub is hn hs, w.2.2⟩
  have h1 : (is.map (fun i => ws[i]?))[k]? = some (some q) := by rw [hs, List.getElem?_map, hk]; rfl
  rw [List.getElem?_map] at h1
  cases hi : is[k]? with
  | none => rw [hi] at h1; cases h1
  | some i => rw [hi] at h1; exact w.1 i q (Option.some.inj h1)
theorem Wd.ev {G : GG} {A : Nat → Prop} {ws : va_W} {s : State} {H0 H : Heap} {locs : List Loc} (w : Wd G A ws s H0 H locs) : EV A s H := w.2.2.2.2.to w.2.2.1.2.1 (fun _ h => h)
theorem arrV_ext (cA : ClassId) {n : Nat} {f g : Nat → Value} (h : ∀ j, j < n → f j = g j) : arrV cA n f = arrV cA n g := by
  unfold arrV
  congr 1
  apply Array.ext
  · simp
  · intro i h1 h2
    simp at h1
    simp [h i h1]
/-- an array's contents, by what they are -/
theorem Wd.bx {G : GG} {A : Nat → Prop} {ws : va_W} {s : State} {H0 H : Heap} {locs : List Loc} (w : Wd G A ws s H0 H locs) (i : Nat) {a n : Nat} {b b' : Nat → BitVec 8} (h : ws[i]? = some (a, xB G n b)) (he : ∀ j, j < n → b j = b' j) : Wd G A (ws.set i (a, xB G n b')) s H0 H locs := by
  have e : vp_cell G.2.1 (n, .inl fun j => sB (b j)) = vp_cell G.2.1 (n, .inl fun j => sB (b' j)) := by
    rw [vp_cell_i, vp_cell_i]
    exact arrV_ext _ fun j hj => by rw [he j hj]
  refine ⟨w.1.set w.2.1 h ?_ (fun q _ => rfl), w.2.1.set h, w.2.2⟩
  have h1 : H[a]? = some (vp_cell G.2.1 (n, .inl fun j => sB (b j))) := w.1 i _ h
  show H[a]? = some (vp_cell G.2.1 (n, .inl fun j => sB (b' j)))
  rw [h1, e]
theorem Wd.ix {G : GG} {A : Nat → Prop} {ws : va_W} {s : State} {H0 H : Heap} {locs : List Loc} (w : Wd G A ws s H0 H locs) (i : Nat) {a n : Nat} {b b' : Nat → Int32} (h : ws[i]? = some (a, xI G n b)) (he : ∀ j, j < n → b j = b' j) : Wd G A (ws.set i (a, xI G n b')) s H0 H locs := by
  have e : vp_cell G.2.2.1 (n, .inl b) = vp_cell G.2.2.1 (n, .inl b') := by
    rw [vp_cell_i, vp_cell_i]
    exact arrV_ext _ fun j hj => by rw [he j hj]
  refine ⟨w.1.set w.2.1 h ?_ (fun q _ => rfl), w.2.1.set h, w.2.2⟩
  have h1 : H[a]? = some (vp_cell G.2.2.1 (n, .inl b)) := w.1 i _ h
  show H[a]? = some (vp_cell G.2.2.1 (n, .inl b'))
  rw [h1, e]
/-- one cell of the world, as a fact of the heap -/
theorem Wd.at {G : GG} {A : Nat → Prop} {ws : va_W} {s : State} {H0 H : Heap} {locs : List Loc} (w : Wd G A ws s H0 H locs) (i : Nat) {q : Nat × va_E} (h : ws[i]? = some q) : va_P G.1 vwCl [q] H := fun k q' hk => by
  cases k with
  | zero => cases hk; exact w.1 i _ h
  | succ k => simp at hk
theorem xp_nil {D : va_G} {H : Heap} : va_P D vwCl [] H := fun k q h => by simp at h
theorem xp_cons {D : va_G} {q : Nat × va_E} {ws : va_W} {H : Heap} (h : va_P D vwCl [q] H) (h2 : va_P D vwCl ws H) : va_P D vwCl (q :: ws) H := fun k q' hk => by
  cases k with
  | zero => exact h 0 q' hk
  | succ k => exact h2 k q' (by simpa using hk)
/-- cells that the method only reads: outside A, as at its start -/
theorem xp_keep {D : va_G} {A : Nat → Prop} {ws : va_W} {H0 H : Heap} {locs : List Loc} (h : va_P D vwCl ws H0) (hn : ∀ (k : Nat) (q : Nat × va_E), ws[k]? = some q → ¬ A q.1) (hS : va_S A H0 H locs) : va_P D vwCl ws H := h.kept fun k q hk => hS.2.1 q.1 ((h k q hk).lt) (hn k q hk)
theorem xn_1 {A : Nat → Prop} {q : Nat × va_E} (h : ¬ A q.1) : ∀ (k : Nat) (q' : Nat × va_E), [q][k]? = some q' → ¬ A q'.1 := fun k q' hk => by
  cases k with
  | zero => cases hk; exact h
  | succ k => simp at hk
/-- from here on the world is ws', the rest is only carried: a new base -/
theorem xn_A {ws : va_W} {sz a : Nat} (h1 : a < sz) (h2 : ∀ (k : Nat) (q : Nat × va_E), ws[k]? = some q → q.1 ≠ a) : ¬ va_A ws sz a := by
  rintro (⟨k, e, h⟩ | h)
  · exact h2 k _ h rfl
  · omega
def PP (G : GG) (wc : va_W) (sz : Nat) (RD : State → Prop) : State → Prop := fun U => U.heap.size = sz ∧ va_P G.1 vwCl wc U.heap ∧ xK G U ∧ va_D (fun _ => True) wc ∧ EV (va_A wc sz) U U.heap ∧ RD U
def CQ (G : GG) (wc : va_W) (sz : Nat) {α : Type} (w1 : α → va_W) (post : α → Option Value → Heap → Prop) : Array Value → State → Outcome → State → Prop := fun _ st oc t => (∃ (u : α) (v : Option Value), oc = .returned v ∧ post u v t.heap ∧ va_P G.1 vwCl (w1 u) t.heap ∧ va_D (va_A wc sz) (w1 u)) ∧ va_F (va_A wc sz) st t
/-- a method that changes nothing at all -/
def CQ0 (post : Option Value → Prop) : Array Value → State → Outcome → State → Prop := fun _ st oc t => (∃ v : Option Value, oc = .returned v ∧ post v) ∧ t.heap = st.heap
theorem xr_blind {G : GG} {av : List Value} {wc : va_W} {sz : Nat} {RD : State → Prop} (hbl : ∀ (U : State) (g : JFrame) (mk : MethodId) (a : Array Value), RD U → RD (U.calling g mk a)) : FrameBlind (va_Pc av (PP G wc sz RD)) := fun a U g mk q => ⟨q.1, q.2.1, q.2.2.1, va_K.moved (u := U) (U := U.calling g mk a) (Vm.Alike.refl U.vm) q.2.2.2.1, q.2.2.2.2.1, EV.calling q.2.2.2.2.2.1, hbl U g mk a q.2.2.2.2.2.2⟩
section XR
variable {p : Program} {l : Launch} {e : Env} {R : Room} {s : State} {m : MethodId} {args : Array Value} {below : List Frame} {meth : Method} {c : Code} {H H0 : Heap} {locs : List Loc} {cells slots : Nat} {Q : State → Prop}
variable {cc : ByteArray} {pc nL : Nat} {own : String} {ls : Array Slot} {rest st0 : List Value} {G : GG} {A : Nat → Prop} {ws wc wr : va_W} {a : Nat}
variable {y : MethodName} {bytes : ByteArray} {index maxL mc ms n : Nat} {ret : Option FieldType} {rm : Room} {As : List Value} {α : Type} {w1 : α → va_W} {post : α → Option Value → Heap → Prop} {post0 : Option Value → Prop} {RD : State → Prop}
theorem lv_eqi {x y : Int32} (h : x = y) (k : W p l e R s m args below meth c H locs cells slots Q (F0 m pc ls (.int y :: rest))) : W p l e R s m args below meth c H locs cells slots Q (F0 m pc ls (.int x :: rest)) := h ▸ k
theorem lv_eqr {v v' : Value} (h : v = v') (k : W p l e R s m args below meth c H locs cells slots Q (F0 m pc ls (v' :: rest))) : W p l e R s m args below meth c H locs cells slots Q (F0 m pc ls (v :: rest)) := h ▸ k
theorem xr_icmp_ge (hx : p.tables.exec = Jvm.exec) (hb : c.code = cc) {a b : Nat} {off : Int} {tgt : Nat} (hdg : decode cc pc = .ok (.if_icmp .ge off, 3)) (ht : (pc : Int) + off = (tgt : Int)) (ha : a < 2 ^ 31) (hb2 : b < 2 ^ 31) (kt : b ≤ a → W p l e R s m args below meth c H locs cells slots Q (F0 m tgt ls rest)) (kf : a < b → W p l e R s m args below meth c H locs cells slots Q (F0 m (pc + 3) ls rest)) : W p l e R s m args below meth c H locs cells slots Q (F0 m pc ls (.int (nI b) :: .int (nI a) :: rest)) :=
  lv_icmp_ge hx hb hdg ht (fun h => kt ((nI_leI hb2 ha).mp h)) (fun h => kf (Nat.not_le.mp fun q => h ((nI_leI hb2 ha).mpr q)))
theorem xr_icmp_lt (hx : p.tables.exec = Jvm.exec) (hb : c.code = cc) {a b : Nat} {off : Int} {tgt : Nat} (hdg : decode cc pc = .ok (.if_icmp .lt off, 3)) (ht : (pc : Int) + off = (tgt : Int)) (ha : a < 2 ^ 31) (hb2 : b < 2 ^ 31) (kt : a < b → W p l e R s m args below meth c H locs cells slots Q (F0 m tgt ls rest)) (kf : b ≤ a → W p l e R s m args below meth c H locs cells slots Q (F0 m (pc + 3) ls rest)) : W p l e R s m args below meth c H locs cells slots Q (F0 m pc ls (.int (nI b) :: .int (nI a) :: rest)) :=
  lv_icmp_lt hx hb hdg ht (fun h => kt ((nI_ltI ha hb2).mp h)) (fun h => kf (Nat.not_lt.mp fun q => h ((nI_ltI ha hb2).mpr q)))
theorem xr_icmp_gt (hx : p.tables.exec = Jvm.exec) (hb : c.code = cc) {a b : Nat} {off : Int} {tgt : Nat} (hdg : decode cc pc = .ok (.if_icmp .gt off, 3)) (ht : (pc : Int) + off = (tgt : Int)) (ha : a < 2 ^ 31) (hb2 : b < 2 ^ 31) (kt : b < a → W p l e R s m args below meth c H locs cells slots Q (F0 m tgt ls rest)) (kf : a ≤ b → W p l e R s m args below meth c H locs cells slots Q (F0 m (pc + 3) ls rest)) : W p l e R s m args below meth c H locs cells slots Q (F0 m pc ls (.int (nI b) :: .int (nI a) :: rest)) :=
  lv_icmp_gt hx hb hdg ht (fun h => kt ((nI_ltI hb2 ha).mp h)) (fun h => kf (Nat.not_lt.mp fun q => h ((nI_ltI hb2 ha).mpr q)))
theorem xr_icmp_le (hx : p.tables.exec = Jvm.exec) (hb : c.code = cc) {a b : Nat} {off : Int} {tgt : Nat} (hdg : decode cc pc = .ok (.if_icmp .le off, 3)) (ht : (pc : Int) + off = (tgt : Int)) (ha : a < 2 ^ 31) (hb2 : b < 2 ^ 31) (kt : a ≤ b → W p l e R s m args below meth c H locs cells slots Q (F0 m tgt ls rest)) (kf : b < a → W p l e R s m args below meth c H locs cells slots Q (F0 m (pc + 3) ls rest)) : W p l e R s m args below meth c H locs cells slots Q (F0 m pc ls (.int (nI b) :: .int (nI a) :: rest)) :=
  lv_icmp_le hx hb hdg ht (fun h => kt ((nI_leI ha hb2).mp h)) (fun h => kf (Nat.not_le.mp fun q => h ((nI_leI ha hb2).mpr q)))
theorem xr_icmp_eq (hx : p.tables.exec = Jvm.exec) (hb : c.code = cc) {a b : Nat} {off : Int} {tgt : Nat} (hdg : decode cc pc = .ok (.if_icmp .eq off, 3)) (ht : (pc : Int) + off = (tgt : Int)) (ha : a < 2 ^ 31) (hb2 : b < 2 ^ 31) (kt : a = b → W p l e R s m args below meth c H locs cells slots Q (F0 m tgt ls rest)) (kf : ¬ a = b → W p l e R s m args below meth c H locs cells slots Q (F0 m (pc + 3) ls rest)) : W p l e R s m args below meth c H locs cells slots Q (F0 m pc ls (.int (nI b) :: .int (nI a) :: rest)) :=
  lv_icmp_eq hx hb hdg ht (fun h => kt ((nI_eq ha hb2).mp h)) (fun h => kf fun q => h ((nI_eq ha hb2).mpr q))
theorem xr_icmp_ne (hx : p.tables.exec = Jvm.exec) (hb : c.code = cc) {a b : Nat} {off : Int} {tgt : Nat} (hdg : decode cc pc = .ok (.if_icmp .ne off, 3)) (ht : (pc : Int) + off = (tgt : Int)) (ha : a < 2 ^ 31) (hb2 : b < 2 ^ 31) (kt : ¬ a = b → W p l e R s m args below meth c H locs cells slots Q (F0 m tgt ls rest)) (kf : a = b → W p l e R s m args below meth c H locs cells slots Q (F0 m (pc + 3) ls rest)) : W p l e R s m args below meth c H locs cells slots Q (F0 m pc ls (.int (nI b) :: .int (nI a) :: rest)) :=
  lv_icmp_ne hx hb hdg ht (fun h => kt fun q => h ((nI_eq ha hb2).mpr q)) (fun h => kf (by
    have h' : nI a = nI b := by
      first | exact h | exact Decidable.of_not_not h
    exact (nI_eq ha hb2).mp h'))
theorem xr_if_eq (hx : p.tables.exec = Jvm.exec) (hb : c.code = cc) {a : Nat} {off : Int} {tgt : Nat} (hdg : decode cc pc = .ok (.ifCond .eq off, 3)) (ht : (pc : Int) + off = (tgt : Int)) (ha : a < 2 ^ 31) (kt : a = 0 → W p l e R s m args below meth c H locs cells slots Q (F0 m tgt ls rest)) (kf : ¬ a = 0 → W p l e R s m args below meth c H locs cells slots Q (F0 m (pc + 3) ls rest)) : W p l e R s m args below meth c H locs cells slots Q (F0 m pc ls (.int (nI a) :: rest)) :=
  lv_if_eq hx hb hdg ht (fun h => kt ((nI_eq ha (by decide : 0 < 2 ^ 31)).mp h)) (fun h => kf fun q => h (by rw [q]; rfl))
theorem xr_if_ne (hx : p.tables.exec = Jvm.exec) (hb : c.code = cc) {a : Nat} {off : Int} {tgt : Nat} (hdg : decode cc pc = .ok (.ifCond .ne off, 3)) (ht : (pc : Int) + off = (tgt : Int)) (ha : a < 2 ^ 31) (kt : ¬ a = 0 → W p l e R s m args below meth c H locs cells slots Q (F0 m tgt ls rest)) (kf : a = 0 → W p l e R s m args below meth c H locs cells slots Q (F0 m (pc + 3) ls rest)) : W p l e R s m args below meth c H locs cells slots Q (F0 m pc ls (.int (nI a) :: rest)) :=
  lv_if_ne hx hb hdg ht (fun h => kt fun q => h (by rw [q]; rfl)) (fun h => kf (by
    have h' : nI a = 0 := by
      first | exact h | exact Decidable.of_not_not h
    exact (nI_eq ha (by decide : 0 < 2 ^ 31)).mp h'))
/-! arrays -/
theorem xr_alen (C : Cx G p m c cc nL s args own) (w : Wd G A ws s H0 H locs) (q0 t0 : Nat) {cA : ClassId} {x : vp_A} {ty : FieldType} (ha : ws[q0]? = some (a, .inl (cA, x))) (ht : [(G.2.1, FieldType.byte), (G.2.2.1, FieldType.int), (G.2.2.2, FieldType.array .int)][t0]? = some (cA, ty)) (hdg : decode cc pc = .ok (.arraylength, 1)) (kk : W p l e R s m args below meth c H locs cells slots Q (F0 m (pc + 1) ls (.int (nI x.1) :: rest))) : W p l e R s m args below meth c H locs cells slots Q (F0 m pc ls (.ref a :: rest)) :=
  va_alen C.1 C.2.1 C.2.2.2.2.2 w.1 q0 t0 ha ht rfl hdg kk
/-- .. of a cell that is only read -/
theorem xr_alenP (C : Cx G p m c cc nL s args own) {cA : ClassId} {x : vp_A} {ty : FieldType} (hP : va_P G.1 vwCl [(a, .inl (cA, x))] H) (t0 : Nat) (ht : [(G.2.1, FieldType.byte), (G.2.2.1, FieldType.int), (G.2.2.2, FieldType.array .int)][t0]? = some (cA, ty)) (hdg : decode cc pc = .ok (.arraylength, 1)) (kk : W p l e R s m args below meth c H locs cells slots Q (F0 m (pc + 1) ls (.int (nI x.1) :: rest))) : W p l e R s m args below meth c H locs cells slots Q (F0 m pc ls (.ref a :: rest)) :=
  va_alen C.1 C.2.1 C.2.2.2.2.2 hP 0 t0 rfl ht rfl hdg kk
theorem xr_iald (C : Cx G p m c cc nL s args own) {i n : Nat} {f : Nat → Int32} (hP : va_P G.1 vwCl [(a, xI G n f)] H) (hi : i < n) (hn : n < 2 ^ 31) (hdg : decode cc pc = .ok (.iaload, 1)) (kk : W p l e R s m args below meth c H locs cells slots Q (F0 m (pc + 1) ls (.int (f i) :: rest))) : W p l e R s m args below meth c H locs cells slots Q (F0 m pc ls (.int (nI i) :: .ref a :: rest)) :=
  va_iald C.1 C.2.1 C.2.2.2.2.2 hP 0 1 rfl rfl (vp_in_nI hi hn) hdg (by rw [nI_clamp (Nat.lt_trans hi hn)]; exact kk)
theorem xr_bald (C : Cx G p m c cc nL s args own) {i n : Nat} {b : Nat → BitVec 8} (hP : va_P G.1 vwCl [(a, xB G n b)] H) (hi : i < n) (hn : n < 2 ^ 31) (hdg : decode cc pc = .ok (.baload, 1)) (kk : W p l e R s m args below meth c H locs cells slots Q (F0 m (pc + 1) ls (.int (sB (b i)) :: rest))) : W p l e R s m args below meth c H locs cells slots Q (F0 m pc ls (.int (nI i) :: .ref a :: rest)) :=
  va_bald C.1 C.2.1 C.2.2.2.2.2 hP 0 0 rfl rfl (vp_in_nI hi hn) hdg (by rw [nI_clamp (Nat.lt_trans hi hn)]; exact kk)
theorem xr_aald (C : Cx G p m c cc nL s args own) {i n : Nat} {f : Nat → Option Nat} (hP : va_P G.1 vwCl [(a, xR G n f)] H) (hi : i < n) (hn : n < 2 ^ 31) (hdg : decode cc pc = .ok (.aaload, 1)) (kk : W p l e R s m args below meth c H locs cells slots Q (F0 m (pc + 1) ls (va_rf (f i) :: rest))) : W p l e R s m args below meth c H locs cells slots Q (F0 m pc ls (.int (nI i) :: .ref a :: rest)) := by
  have hlt : (nI i).toNatClampNeg < n := by rw [nI_clamp (Nat.lt_trans hi hn)]; exact hi
  exact W.aald (v := va_rf (f i)) (ty := .array .int) C.1 C.2.1 (hP 0 _ rfl) ((C.2.2.2.2.2.2 2 _ rfl).1 n (fun j => va_rf (f j))) rfl (fun q => by cases q) (by show ¬ (nI i < 0 ∨ (arrV _ _ _).slots.size ≤ _); rw [arrV_size]; exact vp_in_nI hi hn) (by show (arrV _ _ _).slots[_]? = _; rw [arrV_read _ _ hlt, nI_clamp (Nat.lt_trans hi hn)]) rfl rfl hdg kk
theorem xr_iast (C : Cx G p m c cc nL s args own) (w : Wd G A ws s H0 H locs) (q0 : Nat) {i n : Nat} {f : Nat → Int32} {x : Int32} (ha : ws[q0]? = some (a, xI G n f)) (hi : i < n) (hn : n < 2 ^ 31) (hdg : decode cc pc = .ok (.iastore, 1)) (kk : ∀ (H1 : Heap) (locs1 : List Loc), Wd G A (ws.set q0 (a, xI G n (va_up f i x))) s H0 H1 locs1 → W p l e R s m args below meth c H1 locs1 cells slots Q (F0 m (pc + 1) ls rest)) : W p l e R s m args below meth c H locs cells slots Q (F0 m pc ls (.int x :: .int (nI i) :: .ref a :: rest)) :=
  va_iast C.1 C.2.1 C.2.2.2.2.2 w.1 w.2.1 w.2.2.1 q0 1 ha rfl (vp_in_nI hi hn) hdg (fun H1 locs1 h1 h2 h3 => by
    rw [nI_clamp (Nat.lt_trans hi hn)] at h1 h2
    exact kk H1 locs1 ⟨h1, h2, h3, w.2.2.2⟩)
theorem upd_sB (b : Nat → BitVec 8) (i : Nat) (x : BitVec 8) : upd (fun j => sB (b j)) i (sB x) = fun j => sB (va_up b i x j) := by
  funext j
  unfold upd va_up
  split <;> rfl
theorem xr_bast (C : Cx G p m c cc nL s args own) (w : Wd G A ws s H0 H locs) (q0 : Nat) {i n : Nat} {b : Nat → BitVec 8} {x : Int32} (z : BitVec 8) (hz : lo8 x = z) (ha : ws[q0]? = some (a, xB G n b)) (hi : i < n) (hn : n < 2 ^ 31) (hdg : decode cc pc = .ok (.bastore, 1)) (kk : ∀ (H1 : Heap) (locs1 : List Loc), Wd G A (ws.set q0 (a, xB G n (va_up b i z))) s H0 H1 locs1 → W p l e R s m args below meth c H1 locs1 cells slots Q (F0 m (pc + 1) ls rest)) : W p l e R s m args below meth c H locs cells slots Q (F0 m pc ls (.int x :: .int (nI i) :: .ref a :: rest)) :=
  va_bast C.1 C.2.1 C.2.2.2.2.2 w.1 w.2.1 w.2.2.1 q0 0 ha rfl (vp_in_nI hi hn) hdg (fun H1 locs1 h1 h2 h3 => by
    rw [nI_clamp (Nat.lt_trans hi hn), nar_sB, hz, upd_sB] at h1 h2
    exact kk H1 locs1 ⟨h1, h2, h3, w.2.2.2⟩)
theorem xr_newB (C : Cx G p m c cc nL s args own) (w : Wd G A ws s H0 H locs) {n : Nat} (hn : n < 100000) (hcells : cells + 1 ≤ R.cells) (hslots : slots + n ≤ R.slots) (hdg : decode cc pc = .ok (.newarray .byte, 2)) (kk : ∀ (q : Nat) (H1 : Heap), H.size ≤ q → Wd G A (ws ++ [(q, xB G n (fun _ => 0))]) s H0 H1 locs → W p l e R s m args below meth c H1 locs (cells + 1) (slots + n) Q (F0 m (pc + 2) ls (.ref q :: rest))) : W p l e R s m args below meth c H locs cells slots Q (F0 m pc ls (.int (nI n) :: rest)) := by
  refine va_newaK C.1 C.2.1 (atype := .byte) (C.2.2.2.2.1 _ q67) rfl hdg rfl (nI_pos (by omega)) (nI_clamp (by omega)) (by show n * 1 ≤ 536870912; omega) hcells hslots rfl fun H1 cA e1 z1 o1 hAr hNm => ?_
  have hcA : cA = G.2.1 := Option.some.inj (hNm.symm.trans (C.2.2.2.2.2.2 0 _ rfl).2)
  subst hcA
  have hk : ∀ (k : Nat) (x : Nat × va_E), ws[k]? = some x → H1[x.1]? = H[x.1]? := fun k x hx => o1 x.1 ((w.1 k x hx).lt)
  refine kk H.size H1 (Nat.le_refl _) ⟨(w.1.kept hk).app (fun k x hx => ?_), w.2.1.push w.1 rfl (w.2.2.2.1 _ w.2.2.1.1), ⟨Nat.le_trans w.2.2.1.1 (by omega), fun x h1 h2 => (o1 x (Nat.lt_of_lt_of_le h1 w.2.2.1.1)).trans (w.2.2.1.2.1 x h1 h2), w.2.2.1.2.2⟩, w.2.2.2⟩
  have hz : k < 1 := (List.getElem?_eq_some_iff.mp hx).1
  rw [show k = 0 by omega] at hx
  cases hx
  show H1[H.size]? = some (vp_cell _ _)
  rw [e1, vp_cell_i]
  congr 2
theorem xr_newI (C : Cx G p m c cc nL s args own) (w : Wd G A ws s H0 H locs) {n : Nat} (hn : n < 100000) (hcells : cells + 1 ≤ R.cells) (hslots : slots + n ≤ R.slots) (hdg : decode cc pc = .ok (.newarray .int, 2)) (kk : ∀ (q : Nat) (H1 : Heap), H.size ≤ q → Wd G A (ws ++ [(q, xI G n (fun _ => 0))]) s H0 H1 locs → W p l e R s m args below meth c H1 locs (cells + 1) (slots + n) Q (F0 m (pc + 2) ls (.ref q :: rest))) : W p l e R s m args below meth c H locs cells slots Q (F0 m pc ls (.int (nI n) :: rest)) := by
  refine va_newaK C.1 C.2.1 (atype := .int) (C.2.2.2.2.1 _ q544) rfl hdg rfl (nI_pos (by omega)) (nI_clamp (by omega)) (by show n * 4 ≤ 536870912; omega) hcells hslots rfl fun H1 cA e1 z1 o1 hAr hNm => ?_
  have hcA : cA = G.2.2.1 := Option.some.inj (hNm.symm.trans (C.2.2.2.2.2.2 1 _ rfl).2)
  subst hcA
  have hk : ∀ (k : Nat) (x : Nat × va_E), ws[k]? = some x → H1[x.1]? = H[x.1]? := fun k x hx => o1 x.1 ((w.1 k x hx).lt)
  refine kk H.size H1 (Nat.le_refl _) ⟨(w.1.kept hk).app (fun k x hx => ?_), w.2.1.push w.1 rfl (w.2.2.2.1 _ w.2.2.1.1), ⟨Nat.le_trans w.2.2.1.1 (by omega), fun x h1 h2 => (o1 x (Nat.lt_of_lt_of_le h1 w.2.2.1.1)).trans (w.2.2.1.2.1 x h1 h2), w.2.2.1.2.2⟩, w.2.2.2⟩
  have hz : k < 1 := (List.getElem?_eq_some_iff.mp hx).1
  rw [show k = 0 by omega] at hx
  cases hx
  show H1[H.size]? = some (vp_cell _ _)
  rw [e1, vp_cell_i]
  congr 2
/-! fields -/
theorem xr_get (C : Cx G p m c cc nL s args own) {ref Cn : String} {T : u_T} {N ci index : Nat} {fs : List Value} {v : Value} (hP : va_P G.1 vwCl [(a, xO ci fs)] H) (hin : ∀ w ∈ u_ws Cn T N, w ∈ lw_all) (hc : vwCl[ci]? = some (Cn, T, N)) (k : Nat) (hk : k < N) (hlink : Cond.fieldLink own index ref (T k).2.1 (T k).2.2.1 ∈ lw_all) (hsame : ∀ x, s.fieldFound? (T k).1 (T k).2.1 (T k).2.2.1 = some x → s.fieldFound? ref (T k).2.1 (T k).2.2.1 = some x) (hv : fs[k]? = some v) (hdg : decode cc pc = .ok (.getfield index, 3)) (kk : W p l e R s m args below meth c H locs cells slots Q (F0 m (pc + 3) ls (v :: rest))) : W p l e R s m args below meth c H locs cells slots Q (F0 m pc ls (.ref a :: rest)) :=
  va_get C.1 C.2.1 C.2.2.2.2.1 hin C.2.2.2.1 C.2.2.2.2.2 hP 0 rfl hc k hk (C.2.2.2.2.1 _ hlink) hsame hv hdg kk
theorem xr_put (C : Cx G p m c cc nL s args own) (w : Wd G A ws s H0 H locs) {ref Cn : String} {T : u_T} {N ci index : Nat} {fs : List Value} {v : Value} {ty : FieldType} (q0 : Nat) (ha : ws[q0]? = some (a, xO ci fs)) (hin : ∀ w ∈ u_ws Cn T N, w ∈ lw_all) (ty0 : Nat → FieldType) (hty : ∀ k, k < N → parseFieldDescriptor (T k).2.2.1 = some (ty0 k)) (hnm : ∀ a, a < N → ∀ b, b < N → a ≠ b → (T a).2.1 ≠ (T b).2.1) (hc : vwCl[ci]? = some (Cn, T, N)) (k : Nat) (hk : k < N) (hlink : Cond.fieldLink own index ref (T k).2.1 (T k).2.2.1 ∈ lw_all) (hsame : ∀ x, s.fieldFound? (T k).1 (T k).2.1 (T k).2.2.1 = some x → s.fieldFound? ref (T k).2.1 (T k).2.2.1 = some x) (hfin : (T k).2.2.2 = false) (hd : parseFieldDescriptor (T k).2.2.1 = some ty) (hn : narrow ty v = v) (hfit : fits ty v = true) (hl : k < fs.length) (hdg : decode cc pc = .ok (.putfield index, 3)) (kk : ∀ (H1 : Heap) (locs1 : List Loc), Wd G A (ws.set q0 (a, xO ci (fs.set k v))) s H0 H1 locs1 → W p l e R s m args below meth c H1 locs1 cells slots Q (F0 m (pc + 3) ls rest)) : W p l e R s m args below meth c H locs cells slots Q (F0 m pc ls (v :: .ref a :: rest)) :=
  va_put C.1 C.2.1 C.2.2.2.2.1 hin ty0 hty hnm C.2.2.2.1 C.2.2.2.2.2 w.1 w.2.1 w.2.2.1 q0 ha hc k hk (C.2.2.2.2.1 _ hlink) hsame hfin hd hn hfit hl hdg (fun H1 locs1 h1 h2 h3 => kk H1 locs1 ⟨h1, h2, h3, w.2.2.2⟩)
theorem xr_putF (C : Cx G p m c cc nL s args own) (w : Wd G A ws s H0 H locs) {ref Cn : String} {T : u_T} {N ci index : Nat} {fs : List Value} {v : Value} {ty : FieldType} (q0 : Nat) (ha : ws[q0]? = some (a, xO ci fs)) (hin : ∀ w ∈ u_ws Cn T N, w ∈ lw_all) (ty0 : Nat → FieldType) (hty : ∀ k, k < N → parseFieldDescriptor (T k).2.2.1 = some (ty0 k)) (hnm : ∀ a, a < N → ∀ b, b < N → a ≠ b → (T a).2.1 ≠ (T b).2.1) (hc : vwCl[ci]? = some (Cn, T, N)) (k : Nat) (hk : k < N) (hlink : Cond.fieldLink own index ref (T k).2.1 (T k).2.2.1 ∈ lw_all) (hsame : ∀ x, s.fieldFound? (T k).1 (T k).2.1 (T k).2.2.1 = some x → s.fieldFound? ref (T k).2.1 (T k).2.2.1 = some x) (hfin : (T k).2.2.2 = true) (hinit : meth.name = "<init>") (howner : Cn = own) (hfo : (T k).1 = Cn) (hd : parseFieldDescriptor (T k).2.2.1 = some ty) (hn : narrow ty v = v) (hfit : fits ty v = true) (hl : k < fs.length) (hdg : decode cc pc = .ok (.putfield index, 3)) (kk : ∀ (H1 : Heap) (locs1 : List Loc), Wd G A (ws.set q0 (a, xO ci (fs.set k v))) s H0 H1 locs1 → W p l e R s m args below meth c H1 locs1 cells slots Q (F0 m (pc + 3) ls rest)) : W p l e R s m args below meth c H locs cells slots Q (F0 m pc ls (v :: .ref a :: rest)) := by
  subst howner
  exact va_putF C.1 C.2.1 C.2.2.2.2.1 hin ty0 hty hnm C.2.2.2.1 C.2.2.2.2.2 w.1 w.2.1 w.2.2.1 q0 ha hc k hk (C.2.2.2.2.1 _ hlink) hsame hfin hinit hfo hd hn hfit hl hdg (fun H1 locs1 h1 h2 h3 => kk H1 locs1 ⟨h1, h2, h3, w.2.2.2⟩)
theorem xr_new (C : Cx G p m c cc nL s args own) (w : Wd G A ws s H0 H locs) {Cn : String} {T : u_T} {N ci index : Nat} {fs : List Value} (hin : ∀ w ∈ u_ws Cn T N, w ∈ lw_all) (ty : Nat → FieldType) (hty : ∀ k, k < N → parseFieldDescriptor (T k).2.2.1 = some (ty k)) (hcl : Cond.classLink own index Cn ∈ lw_all) (hinst : Cond.instantiable Cn N ∈ lw_all) (hini : Cond.initialized Cn ∈ lw_all) (hc : vwCl[ci]? = some (Cn, T, N)) (hfs : ∀ j, j < N → defaultValue (ty j) = vp_V fs j) (hcells : cells + 1 ≤ R.cells) (hslots : slots + N ≤ R.slots) (hdg : decode cc pc = .ok (.new index, 3)) (kk : ∀ (q : Nat) (H1 : Heap), Wd G A (ws ++ [(q, xO ci fs)]) s H0 H1 locs → W p l e R s m args below meth c H1 locs (cells + 1) (slots + N) Q (F0 m (pc + 3) ls (.ref q :: rest))) : W p l e R s m args below meth c H locs cells slots Q (F0 m pc ls rest) :=
  va_new C.1 C.2.1 C.2.2.2.2.1 hin ty hty C.2.2.2.1 (C.2.2.2.2.1 _ hcl) (C.2.2.2.2.1 _ hinst) (C.2.2.2.2.1 _ hini) C.2.2.2.2.2 w.1 w.2.1 w.2.2.1 w.2.2.2.1 hc hfs hcells hslots hdg (fun q H1 h1 h2 h3 => kk q H1 ⟨h1, h2, h3, w.2.2.2⟩)
/-! calls -/
theorem xr_back (w : Wd G A ws s H0 H locs) {aa : Array Value} (hr : va_Run p l e R s m args below meth c H locs cells slots mc ms (F0 m pc ls st0) rest (CQ G wc H.size w1 post aa) (va_A wc H.size)) (isC isR : List Nat) (hC : isC.map (fun i => ws[i]?) = wc.map some) (hR : isR.map (fun i => ws[i]?) = wr.map some) (hn : va_nd isR = true) (hdis : ∀ i ∈ isR, i ∉ isC)
    (kk : ∀ (u : α) (v : Option Value) (H1 : Heap) (locs1 : List Loc), post u v H1 → H.size ≤ H1.size → (∀ q : Nat, q < H.size → ¬ va_A wc H.size q → H1[q]? = H[q]?) → Wd G A (wr ++ w1 u) s H0 H1 locs1 → W p l e R s m args below meth c H1 locs1 (cells + mc) (slots + ms) Q (F0 m (pc + 3) ls (v.toList ++ rest))) : W p l e R s m args below meth c H locs cells slots Q (F0 m pc ls st0) := by
  have hF : ∀ q, va_A wc H.size q → A q := va_free w.2.1 w.2.2.1 w.2.2.2.1 isC hC
  have hS := w.2.2.1
  intro T hT X
  obtain ⟨v, st₀, t, T', L, h0, X', hL, e1, e2, ⟨⟨u, v', hv, hp, hP1, hD1⟩, hz, hk⟩, st⟩ := hr T hT X
  cases hv
  rw [h0] at hz hk
  have hj := va_join w.1 w.2.1 isC isR hC hR hn hdis hk hF hP1 hD1
  obtain ⟨t2, a1, b1⟩ := kk u v t.heap (locs ++ L) hp hz hk ⟨hj.1, hj.2, ⟨Nat.le_trans hS.1 hz, fun q h1 h2 => by rw [hk q (Nat.lt_of_lt_of_le h1 hS.1) (fun z => h2 (hF q z))]; exact hS.2.1 q h1 h2, fun q hq => by
      rcases List.mem_append.mp hq with h | h
      · exact hS.2.2 q h
      · exact hF _ (hL q h)⟩, w.2.2.2⟩ T' e1 X'
  exact ⟨t2, st t2 a1, b1⟩
theorem xr_back5 (w : Wd G A ws s H0 H locs) {aa : Array Value} (hr : va_Run5 p l e R s m args below meth c H locs cells slots mc ms (F0 m pc ls st0) rest (CQ G wc H.size w1 post aa) (va_A wc H.size)) (isC isR : List Nat) (hC : isC.map (fun i => ws[i]?) = wc.map some) (hR : isR.map (fun i => ws[i]?) = wr.map some) (hn : va_nd isR = true) (hdis : ∀ i ∈ isR, i ∉ isC)
    (kk : ∀ (u : α) (v : Option Value) (H1 : Heap) (locs1 : List Loc), post u v H1 → H.size ≤ H1.size → (∀ q : Nat, q < H.size → ¬ va_A wc H.size q → H1[q]? = H[q]?) → Wd G A (wr ++ w1 u) s H0 H1 locs1 → W p l e R s m args below meth c H1 locs1 (cells + mc) (slots + ms) Q (F0 m (pc + 5) ls (v.toList ++ rest))) : W p l e R s m args below meth c H locs cells slots Q (F0 m pc ls st0) := by
  have hF : ∀ q, va_A wc H.size q → A q := va_free w.2.1 w.2.2.1 w.2.2.2.1 isC hC
  have hS := w.2.2.1
  intro T hT X
  obtain ⟨v, st₀, t, T', L, h0, X', hL, e1, e2, ⟨⟨u, v', hv, hp, hP1, hD1⟩, hz, hk⟩, st⟩ := hr T hT X
  cases hv
  rw [h0] at hz hk
  have hj := va_join w.1 w.2.1 isC isR hC hR hn hdis hk hF hP1 hD1
  obtain ⟨t2, a1, b1⟩ := kk u v t.heap (locs ++ L) hp hz hk ⟨hj.1, hj.2, ⟨Nat.le_trans hS.1 hz, fun q h1 h2 => by rw [hk q (Nat.lt_of_lt_of_le h1 hS.1) (fun z => h2 (hF q z))]; exact hS.2.1 q h1 h2, fun q hq => by
      rcases List.mem_append.mp hq with h | h
      · exact hS.2.2 q h
      · exact hF _ (hL q h)⟩, w.2.2.2⟩ T' e1 X'
  exact ⟨t2, st t2 a1, b1⟩
theorem xr_back0 {aa : Array Value} (hr : va_Run p l e R s m args below meth c H locs cells slots 0 0 (F0 m pc ls st0) rest (CQ0 post0 aa) (fun _ => False))
    (kk : ∀ v : Option Value, post0 v → W p l e R s m args below meth c H locs cells slots Q (F0 m (pc + 3) ls (v.toList ++ rest))) : W p l e R s m args below meth c H locs cells slots Q (F0 m pc ls st0) := by
  intro T hT X
  obtain ⟨v, st₀, t, T', L, h0, X', hL, e1, e2, ⟨⟨v', hv, hp⟩, hh⟩, st⟩ := hr T hT X
  cases hv
  obtain ⟨t2, a1, b1⟩ := kk v hp T' (by rw [e1, hh, h0]) (Stand.forget X' (fun q h => (hL q h).elim))
  exact ⟨t2, st t2 a1, b1⟩
theorem xr_back50 {aa : Array Value} (hr : va_Run5 p l e R s m args below meth c H locs cells slots 0 0 (F0 m pc ls st0) rest (CQ0 post0 aa) (fun _ => False))
    (kk : ∀ v : Option Value, post0 v → W p l e R s m args below meth c H locs cells slots Q (F0 m (pc + 5) ls (v.toList ++ rest))) : W p l e R s m args below meth c H locs cells slots Q (F0 m pc ls st0) := by
  intro T hT X
  obtain ⟨v, st₀, t, T', L, h0, X', hL, e1, e2, ⟨⟨v', hv, hp⟩, hh⟩, st⟩ := hr T hT X
  cases hv
  obtain ⟨t2, a1, b1⟩ := kk v hp T' (by rw [e1, hh, h0]) (Stand.forget X' (fun q h => (hL q h).elim))
  exact ⟨t2, st t2 a1, b1⟩
/-- the callee's start, out of the caller's world -/
theorem xr_pre (C : Cx G p m c cc nL s args own) (w : Wd G A ws s H0 H locs) (isC : List Nat) (hnC : va_nd isC = true) (hC : isC.map (fun i => ws[i]?) = wc.map some) (hRD : ∀ U : State, U.heap = H → s.WarmedH U.vm → RD U) : ∀ U : State, U.heap = H → s.WarmedH U.vm → va_Pc As (PP G wc H.size RD) As.toArray U := by
  intro U hU hW
  have w' := w.sub isC hnC hC
  have hF : ∀ q, va_A wc H.size q → A q := va_free w.2.1 w.2.2.1 w.2.2.2.1 isC hC
  refine ⟨rfl, by rw [hU], by rw [hU]; exact w'.1, C.2.2.2.2.2.moved hW.alike, w'.2.1.weaken (fun _ _ _ _ => trivial), ?_, hRD U hU hW⟩
  rw [hU]
  exact w.2.2.2.2.give w.2.2.1.2.1 hF hW
abbrev xHd (y : MethodName) (n : Nat) : Prop := y.cls ≠ "java/lang/invoke/MethodHandle" ∧ y.cls ≠ "java/lang/invoke/VarHandle" ∧ (parseMethodDescriptor y.desc).map (fun d => d.parameters.length) = some n
abbrev xRm (rm R : Room) (maxL mc ms : Nat) : Prop := rm.cells = mc ∧ rm.slots = ms ∧ rm.frames + 1 ≤ R.frames ∧ 8 + (maxL + 11) + rm.locals ≤ R.locals
theorem xr_callS (C : Cx G p m c cc nL s args own) (w : Wd G A ws s H0 H locs)
    (hM : Met l y (ws_ y bytes maxL ret) rm (va_Pc As (PP G wc H.size RD)) (CQ G wc H.size w1 post) mc ms (va_A wc H.size))
    (g1 : Cond.methodLink own index y ∈ lw_all) (g2 : Cond.static y ∈ lw_all) (g3 : Cond.initialized y.cls ∈ lw_all) (g4 : Cond.code y bytes maxL ret ∈ lw_all) (hd : xHd y n) (hrm : xRm rm R maxL mc ms)
    (hbl : ∀ (U : State) (g : JFrame) (mk : MethodId) (a : Array Value), RD U → RD (U.calling g mk a)) (hRD : ∀ U : State, U.heap = H → s.WarmedH U.vm → RD U)
    (isC isR : List Nat) (hnC : va_nd isC = true) (hC : isC.map (fun i => ws[i]?) = wc.map some) (hR : isR.map (fun i => ws[i]?) = wr.map some) (hn : va_nd isR = true) (hdis : ∀ i ∈ isR, i ∉ isC)
    (hAn : As.length = n) (hls : ls.size = nL) (hst : st0 = As.reverse ++ rest) (hW : (rest.map fun v => v.category).sum ≤ 8) (hdg : decode cc pc = .ok (.invokestatic index, 3)) (hf : cells + mc ≤ R.cells ∧ slots + ms ≤ R.slots)
    (kk : ∀ (u : α) (v : Option Value) (H1 : Heap) (locs1 : List Loc), post u v H1 → H.size ≤ H1.size → (∀ q : Nat, q < H.size → ¬ va_A wc H.size q → H1[q]? = H[q]?) → Wd G A (wr ++ w1 u) s H0 H1 locs1 → W p l e R s m args below meth c H1 locs1 (cells + mc) (slots + ms) Q (F0 m (pc + 3) ls (v.toList ++ rest))) : W p l e R s m args below meth c H locs cells slots Q (F0 m pc ls st0) :=
  xr_back w (va_runS ⟨C.1, C.2.1, C.2.2.1, C.2.2.2.1, C.2.2.2.2.1⟩ hM (va_cwS n C.2.2.2.2.1 (lw_S g1 g2 g3 g4) rfl hrm.1 hrm.2.1 hd ⟨hrm.2.2.1, hrm.2.2.2⟩) ⟨xr_blind hbl, xr_pre C w isC hnC hC hRD⟩ rfl hAn hls hst (lv_room hW) hdg hf) isC isR hC hR hn hdis kk
theorem xr_callS0 (C : Cx G p m c cc nL s args own) (w : Wd G A ws s H0 H locs)
    (hM : Met l y (ws_ y bytes maxL ret) rm (va_Pc As (PP G [] H.size RD)) (CQ0 post0) 0 0 (fun _ => False))
    (g1 : Cond.methodLink own index y ∈ lw_all) (g2 : Cond.static y ∈ lw_all) (g3 : Cond.initialized y.cls ∈ lw_all) (g4 : Cond.code y bytes maxL ret ∈ lw_all) (hd : xHd y n) (hrm : xRm rm R maxL 0 0)
    (hbl : ∀ (U : State) (g : JFrame) (mk : MethodId) (a : Array Value), RD U → RD (U.calling g mk a)) (hRD : ∀ U : State, U.heap = H → s.WarmedH U.vm → RD U)
    (hAn : As.length = n) (hls : ls.size = nL) (hst : st0 = As.reverse ++ rest) (hW : (rest.map fun v => v.category).sum ≤ 8) (hdg : decode cc pc = .ok (.invokestatic index, 3)) (hf : cells + 0 ≤ R.cells ∧ slots + 0 ≤ R.slots)
    (kk : ∀ v : Option Value, post0 v → W p l e R s m args below meth c H locs cells slots Q (F0 m (pc + 3) ls (v.toList ++ rest))) : W p l e R s m args below meth c H locs cells slots Q (F0 m pc ls st0) :=
  xr_back0 (va_runS ⟨C.1, C.2.1, C.2.2.1, C.2.2.2.1, C.2.2.2.2.1⟩ hM (va_cwS n C.2.2.2.2.1 (lw_S g1 g2 g3 g4) rfl hrm.1 hrm.2.1 hd ⟨hrm.2.2.1, hrm.2.2.2⟩) ⟨xr_blind hbl, xr_pre C w [] rfl rfl hRD⟩ rfl hAn hls hst (lv_room hW) hdg hf) kk
theorem xr_callI (C : Cx G p m c cc nL s args own) (w : Wd G A ws s H0 H locs) {b : Nat}
    (hM : Met l y (ws_ y bytes maxL none) rm (va_Pc (.ref b :: As) (PP G wc H.size RD)) (CQ G wc H.size w1 post) mc ms (va_A wc H.size))
    (g1 : Cond.methodLink own index y ∈ lw_all) (g2 : Cond.instanceMethod y ∈ lw_all) (g3 : Cond.initialized y.cls ∈ lw_all) (g4 : Cond.code y bytes maxL none ∈ lw_all) (hy : y.name = "<init>") (hd : xHd y n) (hrm : xRm rm R maxL mc ms)
    (hbl : ∀ (U : State) (g : JFrame) (mk : MethodId) (a : Array Value), RD U → RD (U.calling g mk a)) (hRD : ∀ U : State, U.heap = H → s.WarmedH U.vm → RD U)
    (isC isR : List Nat) (hnC : va_nd isC = true) (hC : isC.map (fun i => ws[i]?) = wc.map some) (hR : isR.map (fun i => ws[i]?) = wr.map some) (hn : va_nd isR = true) (hdis : ∀ i ∈ isR, i ∉ isC)
    (hAn : As.length = n) (hls : ls.size = nL) (hst : st0 = As.reverse ++ .ref b :: rest) (hW : (rest.map fun v => v.category).sum ≤ 8) (hdg : decode cc pc = .ok (.invokespecial index, 3)) (hf : cells + mc ≤ R.cells ∧ slots + ms ≤ R.slots)
    (kk : ∀ (u : α) (v : Option Value) (H1 : Heap) (locs1 : List Loc), post u v H1 → H.size ≤ H1.size → (∀ q : Nat, q < H.size → ¬ va_A wc H.size q → H1[q]? = H[q]?) → Wd G A (wr ++ w1 u) s H0 H1 locs1 → W p l e R s m args below meth c H1 locs1 (cells + mc) (slots + ms) Q (F0 m (pc + 3) ls (v.toList ++ rest))) : W p l e R s m args below meth c H locs cells slots Q (F0 m pc ls st0) :=
  xr_back w (va_runI ⟨C.1, C.2.1, C.2.2.1, C.2.2.2.1, C.2.2.2.2.1⟩ hM (cwI n C.2.2.2.2.1 (lw_meth g4) rfl hrm.1 hrm.2.1 (C.2.2.2.2.1 _ g3) (C.2.2.2.2.1 _ g1) (C.2.2.2.2.1 _ g2) hy hd ⟨hrm.2.2.1, hrm.2.2.2⟩) ⟨xr_blind hbl, xr_pre (As := .ref b :: As) C w isC hnC hC hRD⟩ rfl hAn hls hst (lv_room hW) hdg hf) isC isR hC hR hn hdis kk
theorem xr_callV (C : Cx G p m c cc nL s args own) (w : Wd G A ws s H0 H locs) {b ci : Nat} {fs : List Value} {Cn : String} {T : u_T} {N : Nat}
    (hM : Met l y (ws_ y bytes maxL ret) rm (va_Pc (.ref b :: As) (PP G wc H.size RD)) (CQ G wc H.size w1 post) mc ms (va_A wc H.size))
    (hrc : va_P G.1 vwCl [(b, xO ci fs)] H) (hcl : vwCl[ci]? = some (Cn, T, N))
    (g1 : Cond.methodLink own index y ∈ lw_all) (g2 : Cond.instanceMethod y ∈ lw_all) (g3 : Cond.selects Cn y y ∈ lw_all) (g4 : Cond.initialized Cn ∈ lw_all) (g5 : Cond.code y bytes maxL ret ∈ lw_all) (hyc : y.cls = Cn) (hd : xHd y n) (hrm : xRm rm R maxL mc ms)
    (hbl : ∀ (U : State) (g : JFrame) (mk : MethodId) (a : Array Value), RD U → RD (U.calling g mk a)) (hRD : ∀ U : State, U.heap = H → s.WarmedH U.vm → RD U)
    (isC isR : List Nat) (hnC : va_nd isC = true) (hC : isC.map (fun i => ws[i]?) = wc.map some) (hR : isR.map (fun i => ws[i]?) = wr.map some) (hn : va_nd isR = true) (hdis : ∀ i ∈ isR, i ∉ isC)
    (hAn : As.length = n) (hls : ls.size = nL) (hst : st0 = As.reverse ++ .ref b :: rest) (hW : (rest.map fun v => v.category).sum ≤ 8) (hdg : decode cc pc = .ok (.invokevirtual index, 3)) (hf : cells + mc ≤ R.cells ∧ slots + ms ≤ R.slots)
    (kk : ∀ (u : α) (v : Option Value) (H1 : Heap) (locs1 : List Loc), post u v H1 → H.size ≤ H1.size → (∀ q : Nat, q < H.size → ¬ va_A wc H.size q → H1[q]? = H[q]?) → Wd G A (wr ++ w1 u) s H0 H1 locs1 → W p l e R s m args below meth c H1 locs1 (cells + mc) (slots + ms) Q (F0 m (pc + 3) ls (v.toList ++ rest))) : W p l e R s m args below meth c H locs cells slots Q (F0 m pc ls st0) :=
  xr_back w (va_runV ⟨C.1, C.2.1, C.2.2.1, C.2.2.2.1, C.2.2.2.2.1⟩ hM (cwV n C.2.2.2.2.1 (lw_V g1 g2 g3 g4 g5) rfl hrm.1 hrm.2.1 ⟨hyc, hd⟩ ⟨hrm.2.2.1, hrm.2.2.2⟩) ⟨xr_blind hbl, va_recv C.2.2.2.2.2 hrc hcl (q0 := 0) rfl, xr_pre (As := .ref b :: As) C w isC hnC hC hRD⟩ rfl hAn hls hst (lv_room hW) hdg hf) isC isR hC hR hn hdis kk
theorem xr_callV0 (C : Cx G p m c cc nL s args own) (w : Wd G A ws s H0 H locs) {b ci : Nat} {fs : List Value} {Cn : String} {T : u_T} {N : Nat}
    (hM : Met l y (ws_ y bytes maxL ret) rm (va_Pc (.ref b :: As) (PP G [] H.size RD)) (CQ0 post0) 0 0 (fun _ => False))
    (hrc : va_P G.1 vwCl [(b, xO ci fs)] H) (hcl : vwCl[ci]? = some (Cn, T, N))
    (g1 : Cond.methodLink own index y ∈ lw_all) (g2 : Cond.instanceMethod y ∈ lw_all) (g3 : Cond.selects Cn y y ∈ lw_all) (g4 : Cond.initialized Cn ∈ lw_all) (g5 : Cond.code y bytes maxL ret ∈ lw_all) (hyc : y.cls = Cn) (hd : xHd y n) (hrm : xRm rm R maxL 0 0)
    (hbl : ∀ (U : State) (g : JFrame) (mk : MethodId) (a : Array Value), RD U → RD (U.calling g mk a)) (hRD : ∀ U : State, U.heap = H → s.WarmedH U.vm → RD U)
    (hAn : As.length = n) (hls : ls.size = nL) (hst : st0 = As.reverse ++ .ref b :: rest) (hW : (rest.map fun v => v.category).sum ≤ 8) (hdg : decode cc pc = .ok (.invokevirtual index, 3)) (hf : cells + 0 ≤ R.cells ∧ slots + 0 ≤ R.slots)
    (kk : ∀ v : Option Value, post0 v → W p l e R s m args below meth c H locs cells slots Q (F0 m (pc + 3) ls (v.toList ++ rest))) : W p l e R s m args below meth c H locs cells slots Q (F0 m pc ls st0) :=
  xr_back0 (va_runV ⟨C.1, C.2.1, C.2.2.1, C.2.2.2.1, C.2.2.2.2.1⟩ hM (cwV n C.2.2.2.2.1 (lw_V g1 g2 g3 g4 g5) rfl hrm.1 hrm.2.1 ⟨hyc, hd⟩ ⟨hrm.2.2.1, hrm.2.2.2⟩) ⟨xr_blind hbl, va_recv C.2.2.2.2.2 hrc hcl (q0 := 0) rfl, xr_pre (As := .ref b :: As) C w [] rfl rfl hRD⟩ rfl hAn hls hst (lv_room hW) hdg hf) kk
end XR
