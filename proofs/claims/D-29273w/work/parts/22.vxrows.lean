/-! ROWS for methods that throw InvalidCipherTextException: padCount, doFinal -/
def XQ (P : Prop) (A : Nat → Prop) : String → State → State → Prop := vx_X (S := Unit) (fun _ => P) (fun E _ _ => E = xICE) A
section XV
variable {l : Launch} {G : GG} {wc : va_W} {sz : Nat} {RD : State → Prop}
theorem xv_met {y : MethodName} {cc : ByteArray} {nL : Nat} {ret : Option FieldType} {rm : Room} {av : List Value} {own : String} (hy : plainName y.cls = true) (hown : y.cls = own) (hlen : (lg_sl av).length ≤ nL) {Qc : Array Value → State → Outcome → State → Prop} {XC : String → State → State → Prop} {mc ms : Nat} {free : Addr → Prop}
    (body : ∀ (p : Program) (e : Env) (s : State) (m : MethodId) (args : Array Value) (below : List Frame) (meth : Method) (c : Code) (ls : Array Slot) (Q : State → Prop) (A : Nat → Prop), (∀ x ∈ c.exceptionTable.toList, False) → Cx G p m c cc nL s args own → meth.locks = false → meth.sig.returnType = ret → meth.name = y.name → s.heap.size = sz → A = va_A wc sz → Wd G A wc s s.heap s.heap [] → RD s → vx_MQ below Qc XC args s mc ms free = Q → lv_has ls nL (lv_args 0 av) → W p l e rm s m args below meth c s.heap [] 0 0 Q (F0 m 0 ls [])) :
    vx_Met l y (ws_ y cc nL ret) rm (va_Pc av (PP G wc sz RD)) Qc XC mc ms free := by
  refine vx_ofW (cc := cc) (maxL := nL) (ret := ret) hy rfl ?_
  intro p e s m args below meth c s₁ B hml hT hv
  obtain ⟨hargs, hsz, hP, hK, hD, hE, hR⟩ := hv
  have hts0 := atoms_spec (ws := ws_ y cc nL ret) B.pre
  have hts : ∀ w ∈ lw_all, w.before args s = true := fun w h => hts0 w (List.mem_cons_of_mem _ h)
  have hown' : s.vm.findClass own = some m.cls := by rw [← hown]; exact findClass_of_methodNamed B.named
  have hl := lv_entry av (n := nL) hlen
  have K := body p e s m args below meth c _ _ _ hT ⟨B.exec, B.bytes, hml, hown', hts, hK⟩ B.notSynchronized B.returns (name_of_methodNamed B.named B.method).1 hsz rfl ⟨hP, hD.self, va_S.rf, fun q h => Or.inr (by rw [← hsz]; exact h), hE⟩ hR rfl hl
  subst hargs
  rw [lg_entry_eq]
  exact K
theorem xv_metH {y : MethodName} {cc : ByteArray} {nL : Nat} {ret : Option FieldType} {hh : List (Nat × Nat × Nat × Nat)} {rm : Room} {av : List Value} {own : String} (hy : plainName y.cls = true) (hown : y.cls = own) (hlen : (lg_sl av).length ≤ nL) {Qc : Array Value → State → Outcome → State → Prop} {XC : String → State → State → Prop} {mc ms : Nat} {free : Addr → Prop}
    (body : ∀ (p : Program) (e : Env) (s : State) (m : MethodId) (args : Array Value) (below : List Frame) (meth : Method) (c : Code) (ls : Array Slot) (Q : State → Prop) (A : Nat → Prop), c.exceptionTable.toList = tableOf hh → Cx G p m c cc nL s args own → meth.locks = false → meth.sig.returnType = ret → meth.name = y.name → s.heap.size = sz → A = va_A wc sz → Wd G A wc s s.heap s.heap [] → RD s → vx_MQ below Qc XC args s mc ms free = Q → lv_has ls nL (lv_args 0 av) → W p l e rm s m args below meth c s.heap [] 0 0 Q (F0 m 0 ls [])) :
    vx_Met l y (wsW_ y cc nL ret hh) rm (va_Pc av (PP G wc sz RD)) Qc XC mc ms free := by
  refine vx_ofWH (cc := cc) (maxL := nL) (ret := ret) (hh := hh) hy rfl ?_
  intro p e s m args below meth c s₁ B hml hv
  obtain ⟨hargs, hsz, hP, hK, hD, hE, hR⟩ := hv
  have hts0 := atoms_spec (ws := wsW_ y cc nL ret hh) B.pre
  have hts : ∀ w ∈ lw_all, w.before args s = true := fun w h => hts0 w (List.mem_cons_of_mem _ h)
  have hT := vx_table (x := y) B (hts0 _ List.mem_cons_self)
  have hown' : s.vm.findClass own = some m.cls := by rw [← hown]; exact findClass_of_methodNamed B.named
  have hl := lv_entry av (n := nL) hlen
  have K := body p e s m args below meth c _ _ _ hT ⟨B.exec, B.bytes, hml, hown', hts, hK⟩ B.notSynchronized B.returns (name_of_methodNamed B.named B.method).1 hsz rfl ⟨hP, hD.self, va_S.rf, fun q h => Or.inr (by rw [← hsz]; exact h), hE⟩ hR rfl hl
  subst hargs
  rw [lg_entry_eq]
  exact K
end XV
section XU
variable {p : Program} {l : Launch} {e : Env} {R : Room} {s : State} {m : MethodId} {args : Array Value} {below : List Frame} {meth : Method} {c : Code} {H H0 : Heap} {locs : List Loc} {cells slots : Nat} {Q : State → Prop}
variable {cc : ByteArray} {pc nL : Nat} {own : String} {ls : Array Slot} {rest st0 : List Value} {G : GG} {A : Nat → Prop} {ws wc wr : va_W} {a : Nat}
variable {y : MethodName} {bytes : ByteArray} {index maxL mc ms n : Nat} {ret : Option FieldType} {rm : Room} {As : List Value} {RD : State → Prop} {sz : Nat}
variable {S : Type} {post : Int32 → S → Prop} {B : S → State → Prop} {XC : String → State → State → Prop}
theorem xv_iret (C : Cx G p m c cc nL s args own) (hlk : meth.locks = false) (hr : meth.sig.returnType = some .int) {v : Int32} (w : Wd G A ws s s.heap H locs) (hAe : A = va_A wc sz) (hQ : vx_MQ below (va_Qi post B (va_A wc sz)) XC args s mc ms (va_A wc sz) = Q) (hc : cells ≤ mc) (hs : slots ≤ ms) (u : S) (hp : post v u) (hB : ∀ t : State, t.heap = H → B u t) (hdg : decode cc pc = .ok (.ireturn, 1)) : W p l e R s m args below meth c H locs cells slots Q (F0 m pc ls [.int v]) := by
  subst hQ; subst hAe
  refine vx_ret (W.widen hc hs ?_)
  exact W.iret C.1 C.2.1 hr (fun t ht hW => ⟨⟨v, u, rfl, hp, hB t ht⟩, w.2.2.1.F ht⟩) w.2.2.1.2.2 hdg hlk
/-- a finally clause: it takes whatever comes -/
theorem xv_catchAny {q : Addr} {ce : Cell} {E : String} (pre : List ExceptionTableEntry) (x : ExceptionTableEntry) (suf : List ExceptionTableEntry) (hsplit : c.exceptionTable.toList = pre ++ x :: suf) (hpass : ∀ z ∈ pre, covers z pc = false) (hx : covers x pc = true) (h0 : x.catchType = 0) (hcell : H[q]? = some ce) (hv : ce.vm = .none) (hcl : s.vm.findClass E = some ce.cls)
    (kk : W p l e R s m args below meth c H locs cells slots Q (F0 m x.handlerPc ls [.ref q])) : vx_W p l e R s m args below meth c H locs cells slots Q (F0 m pc ls rest) q := by
  intro T hT X
  obtain ⟨vm', X', st⟩ := X.thenCaughtThrough q (g := F0 m pc ls rest) rfl (Steps.refl _) (by rw [hT]; exact hcell) (by rw [hv]; rfl) (by obtain ⟨k9, h9, -⟩ := Vm.findClass_spec hcl; exact ⟨k9, h9⟩) pre x suf hsplit
    (fun z hz => Or.inl (hpass z hz)) hx (Or.inl h0)
  obtain ⟨t, a1, b1⟩ := kk (T.setVm vm') hT X'
  exact ⟨t, st.trans a1, b1⟩
/-- an exception's cell is no array of bytes and no object of ours -/
theorem xw_neB (C : Cx G p m c cc nL s args own) {q n : Nat} {ce : Cell} {b : Nat → BitVec 8} (hP : va_P G.1 vwCl [(a, xB G n b)] H) (hq : H[q]? = some ce) (hE : s.vm.findClass xICE = some ce.cls) : a ≠ q := by
  rintro rfl
  have h1 : H[a]? = some (vp_cell G.2.1 (n, .inl fun j => sB (b j))) := hP 0 _ rfl
  have e := Option.some.inj (h1.symm.trans hq)
  have hcl : ce.cls = G.2.1 := by rw [← e]; rfl
  have h2 := (C.2.2.2.2.2.2 0 _ rfl).2
  rw [hcl] at hE
  obtain ⟨k1, hk1, hn1⟩ := Vm.findClass_spec hE
  obtain ⟨k2, hk2, hn2⟩ := Vm.findClass_spec (show s.vm.findClass "[B" = some G.2.1 from h2)
  cases Option.some.inj (hk1.symm.trans hk2)
  exact absurd (hn1.symm.trans hn2) (by decide +kernel)
theorem xw_neO (C : Cx G p m c cc nL s args own) {q ci : Nat} {ce : Cell} {fs : List Value} {Cn : String} {T : u_T} {N : Nat} (hP : va_P G.1 vwCl [(a, xO ci fs)] H) (hc : vwCl[ci]? = some (Cn, T, N)) (hne : xICE ≠ Cn) (hq : H[q]? = some ce) (hE : s.vm.findClass xICE = some ce.cls) : a ≠ q := by
  rintro rfl
  obtain ⟨r, h1, cell, q1, q2, q3, q4⟩ := hP 0 _ rfl
  have e := Option.some.inj (q1.symm.trans hq)
  have hcl : ce.cls = G.1.1 ci := by rw [← e]; exact q2
  have h2 := (C.2.2.2.2.2.1 ci _ hc).2.1
  rw [hcl] at hE
  obtain ⟨k1, hk1, hn1⟩ := Vm.findClass_spec hE
  obtain ⟨k2, hk2, hn2⟩ := Vm.findClass_spec h2
  cases Option.some.inj (hk1.symm.trans hk2)
  exact absurd (hn1.symm.trans hn2) hne
/-- a call through an interface of a method that reads only, and answers or throws -/
theorem xv_callF (C : Cx G p m c cc nL s args own) (w : Wd G A ws s H0 H locs) {b ci count : Nat} {fs : List Value} {Cn : String} {T : u_T} {N : Nat} {x : MethodName} {P : Prop} {post : Int32 → Unit → Prop}
    (hM : vx_Met l y (ws_ y bytes maxL ret) rm (va_Pc (.ref b :: As) (PP G [] H.size RD)) (va_Qi post (fun _ _ => True) (va_A [] H.size)) (XQ P (va_A [] H.size)) mc ms (va_A [] H.size))
    (hrc : va_P G.1 vwCl [(b, xO ci fs)] H) (hcl : vwCl[ci]? = some (Cn, T, N)) (hfw : (Cn, x, y) ∈ fwL)
    (g1 : Cond.methodLink own index x ∈ lw_all) (g2 : Cond.selects Cn x y ∈ lw_all) (g3 : Cond.instanceMethod y ∈ lw_all) (g4 : Cond.initialized y.cls ∈ lw_all) (g5 : Cond.code y bytes maxL ret ∈ lw_all) (hd : xHd x n) (hrm : xRm rm R maxL mc ms)
    (hbl : ∀ (U : State) (g : JFrame) (mk : MethodId) (a : Array Value), RD U → RD (U.calling g mk a)) (hRD : ∀ U : State, U.heap = H → s.WarmedH U.vm → RD U)
    (hAn : As.length = n) (hls : ls.size = nL) (hst : st0 = As.reverse ++ .ref b :: rest) (hW : (rest.map fun v => v.category).sum ≤ 8) (hdg : decode cc pc = .ok (.invokeinterface index count, 5)) (hf : cells + mc ≤ R.cells ∧ slots + ms ≤ R.slots)
    (kx : ∀ (ce : Cell) (q9 : Addr) (H1 : Heap) (locs1 : List Loc), P → Wd G A ws s H0 H1 locs1 → H1[q9]? = some ce → ce.vm = .none → s.vm.findClass xICE = some ce.cls → vx_W p l e R s m args below meth c H1 locs1 (cells + mc) (slots + ms) Q (F0 m pc ls rest) q9)
    (kk : ∀ (r : Int32) (H1 : Heap) (locs1 : List Loc), post r () → Wd G A ws s H0 H1 locs1 → W p l e R s m args below meth c H1 locs1 (cells + mc) (slots + ms) Q (F0 m (pc + 5) ls (.int r :: rest))) : W p l e R s m args below meth c H locs cells slots Q (F0 m pc ls st0) := by
  have hF : ∀ q, va_A [] H.size q → A q := w.free [] rfl
  have kW : ∀ (H1 : Heap) (locs1 : List Loc), H.size ≤ H1.size → (∀ q : Nat, q < H.size → ¬ va_A [] H.size q → H1[q]? = H[q]?) → va_S A H0 H1 locs1 → Wd G A ws s H0 H1 locs1 := fun H1 locs1 hz hk hS =>
    ⟨w.1.kept fun k q hq => hk q.1 ((w.1 k q hq).lt) (not_va_nil ((w.1 k q hq).lt)), w.2.1, hS, w.2.2.2⟩
  refine vx_callFi (vx_runF (C.2.2.2.2.2.1 ci _ hcl).2 ⟨C.1, C.2.1, C.2.2.1, C.2.2.2.1, C.2.2.2.2.1⟩ hM (va_cwF n C.2.2.2.2.1 (lw_F g1 g2 g3 g4 g5) rfl hrm.1 hrm.2.1 (w.2.2.2.2.2.2.1 _ hfw) hd ⟨hrm.2.2.1, hrm.2.2.2⟩) ⟨xr_blind hbl, va_recv C.2.2.2.2.2 hrc hcl (q0 := 0) rfl, xr_pre (As := .ref b :: As) C w [] rfl rfl hRD⟩ rfl hAn hls hst (lv_room hW) hdg hf) w.2.2.1 (fun q _ h => hF q h) (fun q h => hF q h) (fun q _ h => hF q h) ?_ ?_
  · intro E ce q9 u t H1 locs1 ht hvm hp hB hz hk hS hq hv hE
    subst hB
    exact kx ce q9 H1 locs1 hp (kW H1 locs1 hz hk hS) hq hv hE
  · intro r u t H1 locs1 ht hvm hp hB hz hk hS
    exact kk r H1 locs1 hp (kW H1 locs1 hz hk hS)
end XU
