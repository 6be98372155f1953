/-! ROWS, second part: a contract's start, its ends, calls by an interface and of inherited methods, statics, copies -/
section XM
variable {l : Launch} {G : GG} {wc : va_W} {sz : Nat} {RD : State → Prop}
/-- a contract's start -/
theorem xr_met {y : MethodName} {cc : ByteArray} {nL : Nat} {ret : Option FieldType} {rm : Room} {av : List Value} {own : String} (hy : plainName y.cls = true) (hown : y.cls = own) (hlen : (lg_sl av).length ≤ nL) {Qc : Array Value → State → Outcome → State → Prop} {mc ms : Nat} {free : Addr → Prop}
    (body : ∀ (p : Program) (e : Env) (s : State) (m : MethodId) (args : Array Value) (below : List Frame) (meth : Method) (c : Code) (ls : Array Slot) (Q : State → Prop) (A : Nat → Prop), Cx G p m c cc nL s args own → meth.locks = false → meth.sig.returnType = ret → meth.name = y.name → s.heap.size = sz → A = va_A wc sz → Wd G A wc s s.heap s.heap [] → RD s → MQ below Qc args s mc ms free = Q → lv_has ls nL (lv_args 0 av) → W p l e rm s m args below meth c s.heap [] 0 0 Q (F0 m 0 ls [])) :
    Met l y (ws_ y cc nL ret) rm (va_Pc av (PP G wc sz RD)) Qc mc ms free := by
  refine Met.ofW (cc := cc) (maxL := nL) (ret := ret) hy rfl ?_
  intro p e s m args below meth c s₁ B hml hv
  obtain ⟨hargs, hsz, hP, hK, hD, hE, hR⟩ := hv
  have hts0 := atoms_spec (ws := ws_ y cc nL ret) B.pre
  have hts : ∀ w ∈ lw_all, w.before args s = true := fun w h => hts0 w (List.mem_cons_of_mem _ h)
  have hown' : s.vm.findClass own = some m.cls := by rw [← hown]; exact findClass_of_methodNamed B.named
  have hl := lv_entry av (n := nL) hlen
  have K := body p e s m args below meth c _ _ _ ⟨B.exec, B.bytes, hml, hown', hts, hK⟩ B.notSynchronized B.returns (name_of_methodNamed B.named B.method).1 hsz rfl ⟨hP, hD.self, va_S.rf, fun q h => Or.inr (by rw [← hsz]; exact h), hE⟩ hR rfl hl
  subst hargs
  rw [lg_entry_eq]
  exact K
end XM
section XE
variable {p : Program} {l : Launch} {e : Env} {R : Room} {s : State} {m : MethodId} {args : Array Value} {below : List Frame} {meth : Method} {c : Code} {H H0 : Heap} {locs : List Loc} {cells slots : Nat} {Q : State → Prop}
variable {cc : ByteArray} {pc nL : Nat} {own : String} {ls : Array Slot} {rest st0 : List Value} {G : GG} {A : Nat → Prop} {ws wc wr : va_W} {a : Nat}
variable {y : MethodName} {bytes : ByteArray} {index maxL mc ms n : Nat} {ret : Option FieldType} {rm : Room} {As : List Value} {α : Type} {w1 : α → va_W} {post : α → Option Value → Heap → Prop} {post0 : Option Value → Prop} {RD : State → Prop} {sz : Nat}
/-! ends -/
theorem xr_iret (C : Cx G p m c cc nL s args own) (hlk : meth.locks = false) (hr : meth.sig.returnType = some .int) {v : Int32} (w : Wd G A ws s s.heap H locs) (hAe : A = va_A wc sz) (hQ : MQ below (CQ G wc sz w1 post) args s mc ms (va_A wc sz) = Q) (hc : cells ≤ mc) (hs : slots ≤ ms) (u : α) (hw : w1 u = ws) (hp : post u (some (.int v)) H) (hdg : decode cc pc = .ok (.ireturn, 1)) : W p l e R s m args below meth c H locs cells slots Q (F0 m pc ls [.int v]) := by
  subst hQ; subst hAe; subst hw
  refine W.widen hc hs ?_
  exact W.iret C.1 C.2.1 hr (fun t ht hW => ⟨⟨u, _, rfl, by rw [ht]; exact hp, by rw [ht]; exact w.1, w.2.1⟩, w.2.2.1.F ht⟩) w.2.2.1.2.2 hdg hlk
theorem xr_zret (C : Cx G p m c cc nL s args own) (hlk : meth.locks = false) (hr : meth.sig.returnType = some .boolean) {v : Int32} (hn : narrow .boolean (.int v) = .int v) (w : Wd G A ws s s.heap H locs) (hAe : A = va_A wc sz) (hQ : MQ below (CQ G wc sz w1 post) args s mc ms (va_A wc sz) = Q) (hc : cells ≤ mc) (hs : slots ≤ ms) (u : α) (hw : w1 u = ws) (hp : post u (some (.int v)) H) (hdg : decode cc pc = .ok (.ireturn, 1)) : W p l e R s m args below meth c H locs cells slots Q (F0 m pc ls [.int v]) := by
  subst hQ; subst hAe; subst hw
  refine W.widen hc hs ?_
  exact W.zret C.1 C.2.1 hr hn (fun t ht hW => ⟨⟨u, _, rfl, by rw [ht]; exact hp, by rw [ht]; exact w.1, w.2.1⟩, w.2.2.1.F ht⟩) w.2.2.1.2.2 hdg hlk
theorem xr_vret (C : Cx G p m c cc nL s args own) (hlk : meth.locks = false) (hr : meth.sig.returnType = none) (w : Wd G A ws s s.heap H locs) (hAe : A = va_A wc sz) (hQ : MQ below (CQ G wc sz w1 post) args s mc ms (va_A wc sz) = Q) (hc : cells ≤ mc) (hs : slots ≤ ms) (u : α) (hw : w1 u = ws) (hp : post u none H) (hdg : decode cc pc = .ok (.return_, 1)) : W p l e R s m args below meth c H locs cells slots Q (F0 m pc ls []) := by
  subst hQ; subst hAe; subst hw
  refine W.widen hc hs ?_
  exact W.vret C.1 C.2.1 hr (fun t ht hW => ⟨⟨u, _, rfl, by rw [ht]; exact hp, by rw [ht]; exact w.1, w.2.1⟩, w.2.2.1.F ht⟩) w.2.2.1.2.2 hdg hlk
theorem xr_aret (C : Cx G p m c cc nL s args own) (hlk : meth.locks = false) {rt : FieldType} (hr : meth.sig.returnType = some rt) (hrt : (∃ n, rt = .object n) ∨ ∃ t, rt = .array t) {v : Value} (hv : v = .null ∨ ∃ a, v = .ref a) (w : Wd G A ws s s.heap H locs) (hAe : A = va_A wc sz) (hQ : MQ below (CQ G wc sz w1 post) args s mc ms (va_A wc sz) = Q) (hc : cells ≤ mc) (hs : slots ≤ ms) (u : α) (hw : w1 u = ws) (hp : post u (some v) H) (hdg : decode cc pc = .ok (.areturn, 1)) : W p l e R s m args below meth c H locs cells slots Q (F0 m pc ls [v]) := by
  subst hQ; subst hAe; subst hw
  refine W.widen hc hs ?_
  exact W.aret C.1 C.2.1 hr hrt hv (fun t ht hW => ⟨⟨u, _, rfl, by rw [ht]; exact hp, by rw [ht]; exact w.1, w.2.1⟩, w.2.2.1.F ht⟩) w.2.2.1.2.2 hdg hlk
theorem xr_iret0 (C : Cx G p m c cc nL s args own) (hlk : meth.locks = false) (hr : meth.sig.returnType = some .int) {v : Int32} (hQ : MQ below (CQ0 post0) args s 0 0 (fun _ => False) = Q) (hp : post0 (some (.int v))) (hdg : decode cc pc = .ok (.ireturn, 1)) : W p l e R s m args below meth c s.heap [] 0 0 Q (F0 m pc ls [.int v]) := by
  subst hQ
  exact W.iret C.1 C.2.1 hr (fun t ht hW => ⟨⟨_, rfl, hp⟩, ht⟩) (fun q h => by cases h) hdg hlk
theorem xr_zret0 (C : Cx G p m c cc nL s args own) (hlk : meth.locks = false) (hr : meth.sig.returnType = some .boolean) {v : Int32} (hn : narrow .boolean (.int v) = .int v) (hQ : MQ below (CQ0 post0) args s 0 0 (fun _ => False) = Q) (hp : post0 (some (.int v))) (hdg : decode cc pc = .ok (.ireturn, 1)) : W p l e R s m args below meth c s.heap [] 0 0 Q (F0 m pc ls [.int v]) := by
  subst hQ
  exact W.zret C.1 C.2.1 hr hn (fun t ht hW => ⟨⟨_, rfl, hp⟩, ht⟩) (fun q h => by cases h) hdg hlk
theorem xr_vret0 (C : Cx G p m c cc nL s args own) (hlk : meth.locks = false) (hr : meth.sig.returnType = none) (hQ : MQ below (CQ0 post0) args s 0 0 (fun _ => False) = Q) (hp : post0 none) (hdg : decode cc pc = .ok (.return_, 1)) : W p l e R s m args below meth c s.heap [] 0 0 Q (F0 m pc ls []) := by
  subst hQ
  exact W.vret C.1 C.2.1 hr (fun t ht hW => ⟨⟨_, rfl, hp⟩, ht⟩) (fun q h => by cases h) hdg hlk
theorem xr_aret0 (C : Cx G p m c cc nL s args own) (hlk : meth.locks = false) {rt : FieldType} (hr : meth.sig.returnType = some rt) (hrt : (∃ n, rt = .object n) ∨ ∃ t, rt = .array t) {v : Value} (hv : v = .null ∨ ∃ a, v = .ref a) (hQ : MQ below (CQ0 post0) args s 0 0 (fun _ => False) = Q) (hp : post0 (some v)) (hdg : decode cc pc = .ok (.areturn, 1)) : W p l e R s m args below meth c s.heap [] 0 0 Q (F0 m pc ls [v]) := by
  subst hQ
  exact W.aret C.1 C.2.1 hr hrt hv (fun t ht hW => ⟨⟨_, rfl, hp⟩, ht⟩) (fun q h => by cases h) hdg hlk
/-! calls by an interface -/
theorem lw_F {own : String} {idx : Nat} {Cn : String} {x y : MethodName} {b : ByteArray} {L : Nat} {r : Option FieldType} (h1 : Cond.methodLink own idx x ∈ lw_all) (h2 : Cond.selects Cn x y ∈ lw_all) (h3 : Cond.instanceMethod y ∈ lw_all) (h4 : Cond.initialized y.cls ∈ lw_all) (h5 : Cond.code y b L r ∈ lw_all) : GoodIn lw_all (va_wsF own idx Cn x y (ws_ y b L r)) := by
  refine lw_app ?_ (lw_meth h5)
  intro w hw
  simp only [List.mem_cons, List.not_mem_nil, or_false] at hw
  rcases hw with e | e | e | e
  · rw [e]; exact h1
  · rw [e]; exact h2
  · rw [e]; exact h3
  · rw [e]; exact h4
theorem lw_U {own : String} {idx : Nat} {Cn owner : String} {x y : MethodName} {b : ByteArray} {L : Nat} {r : Option FieldType} (h1 : Cond.methodLink own idx x ∈ lw_all) (h6 : Cond.sameMethod x.cls owner x.name x.desc ∈ lw_all) (h2 : Cond.selects Cn x y ∈ lw_all) (h3 : Cond.instanceMethod y ∈ lw_all) (h4 : Cond.initialized y.cls ∈ lw_all) (h5 : Cond.code y b L r ∈ lw_all) : GoodIn lw_all (va_wsU own idx Cn owner x y (ws_ y b L r)) := by
  refine lw_app ?_ (lw_meth h5)
  intro w hw
  simp only [List.mem_cons, List.not_mem_nil, or_false] at hw
  rcases hw with e | e | e | e | e
  · rw [e]; exact h1
  · rw [e]; exact h6
  · rw [e]; exact h2
  · rw [e]; exact h3
  · rw [e]; exact h4
theorem xr_runF (C : Cx G p m c cc nL s args own) (w : Wd G A ws s H0 H locs) {b ci count : Nat} {fs : List Value} {Cn : String} {T : u_T} {N : Nat} {x : MethodName} {Qc : Array Value → State → Outcome → State → Prop} {free : Addr → Prop}
    (hM : Met l y (ws_ y bytes maxL ret) rm (va_Pc (.ref b :: As) (PP G wc H.size RD)) Qc mc ms free)
    (hrc : va_P G.1 vwCl [(b, xO ci fs)] H) (hcl : vwCl[ci]? = some (Cn, T, N)) (hfw : (Cn, x, y) ∈ fwL)
    (g1 : Cond.methodLink own index x ∈ lw_all) (g2 : Cond.selects Cn x y ∈ lw_all) (g3 : Cond.instanceMethod y ∈ lw_all) (g4 : Cond.initialized y.cls ∈ lw_all) (g5 : Cond.code y bytes maxL ret ∈ lw_all) (hd : xHd x n) (hrm : xRm rm R maxL mc ms)
    (hbl : ∀ (U : State) (g : JFrame) (mk : MethodId) (a : Array Value), RD U → RD (U.calling g mk a)) (hRD : ∀ U : State, U.heap = H → s.WarmedH U.vm → RD U)
    (isC : List Nat) (hnC : va_nd isC = true) (hC : isC.map (fun i => ws[i]?) = wc.map some)
    (hAn : As.length = n) (hls : ls.size = nL) (hst : st0 = As.reverse ++ .ref b :: rest) (hW : (rest.map fun v => v.category).sum ≤ 8) (hdg : decode cc pc = .ok (.invokeinterface index count, 5)) (hf : cells + mc ≤ R.cells ∧ slots + ms ≤ R.slots) :
    va_Run5 p l e R s m args below meth c H locs cells slots mc ms (F0 m pc ls st0) rest (Qc (Value.ref b :: As).toArray) free :=
  va_runF (C.2.2.2.2.2.1 ci _ hcl).2 ⟨C.1, C.2.1, C.2.2.1, C.2.2.2.1, C.2.2.2.2.1⟩ hM (va_cwF n C.2.2.2.2.1 (lw_F g1 g2 g3 g4 g5) rfl hrm.1 hrm.2.1 (w.2.2.2.2.2.2.1 _ hfw) hd ⟨hrm.2.2.1, hrm.2.2.2⟩) ⟨xr_blind hbl, va_recv C.2.2.2.2.2 hrc hcl (q0 := 0) rfl, xr_pre (As := .ref b :: As) C w isC hnC hC hRD⟩ rfl hAn hls hst (lv_room hW) hdg hf
theorem xr_callF (C : Cx G p m c cc nL s args own) (w : Wd G A ws s H0 H locs) {b ci count : Nat} {fs : List Value} {Cn : String} {T : u_T} {N : Nat} {x : MethodName}
    (hM : Met l y (ws_ y bytes maxL ret) rm (va_Pc (.ref b :: As) (PP G wc H.size RD)) (CQ G wc H.size w1 post) mc ms (va_A wc H.size))
    (hrc : va_P G.1 vwCl [(b, xO ci fs)] H) (hcl : vwCl[ci]? = some (Cn, T, N)) (hfw : (Cn, x, y) ∈ fwL)
    (g1 : Cond.methodLink own index x ∈ lw_all) (g2 : Cond.selects Cn x y ∈ lw_all) (g3 : Cond.instanceMethod y ∈ lw_all) (g4 : Cond.initialized y.cls ∈ lw_all) (g5 : Cond.code y bytes maxL ret ∈ lw_all) (hd : xHd x n) (hrm : xRm rm R maxL mc ms)
    (hbl : ∀ (U : State) (g : JFrame) (mk : MethodId) (a : Array Value), RD U → RD (U.calling g mk a)) (hRD : ∀ U : State, U.heap = H → s.WarmedH U.vm → RD U)
    (isC isR : List Nat) (hnC : va_nd isC = true) (hC : isC.map (fun i => ws[i]?) = wc.map some) (hR : isR.map (fun i => ws[i]?) = wr.map some) (hn : va_nd isR = true) (hdis : ∀ i ∈ isR, i ∉ isC)
    (hAn : As.length = n) (hls : ls.size = nL) (hst : st0 = As.reverse ++ .ref b :: rest) (hW : (rest.map fun v => v.category).sum ≤ 8) (hdg : decode cc pc = .ok (.invokeinterface index count, 5)) (hf : cells + mc ≤ R.cells ∧ slots + ms ≤ R.slots)
    (kk : ∀ (u : α) (v : Option Value) (H1 : Heap) (locs1 : List Loc), post u v H1 → H.size ≤ H1.size → (∀ q : Nat, q < H.size → ¬ va_A wc H.size q → H1[q]? = H[q]?) → Wd G A (wr ++ w1 u) s H0 H1 locs1 → W p l e R s m args below meth c H1 locs1 (cells + mc) (slots + ms) Q (F0 m (pc + 5) ls (v.toList ++ rest))) : W p l e R s m args below meth c H locs cells slots Q (F0 m pc ls st0) :=
  xr_back5 w (xr_runF C w hM hrc hcl hfw g1 g2 g3 g4 g5 hd hrm hbl hRD isC hnC hC hAn hls hst hW hdg hf) isC isR hC hR hn hdis kk
theorem xr_callF0 (C : Cx G p m c cc nL s args own) (w : Wd G A ws s H0 H locs) {b ci count : Nat} {fs : List Value} {Cn : String} {T : u_T} {N : Nat} {x : MethodName}
    (hM : Met l y (ws_ y bytes maxL ret) rm (va_Pc (.ref b :: As) (PP G [] H.size RD)) (CQ0 post0) 0 0 (fun _ => False))
    (hrc : va_P G.1 vwCl [(b, xO ci fs)] H) (hcl : vwCl[ci]? = some (Cn, T, N)) (hfw : (Cn, x, y) ∈ fwL)
    (g1 : Cond.methodLink own index x ∈ lw_all) (g2 : Cond.selects Cn x y ∈ lw_all) (g3 : Cond.instanceMethod y ∈ lw_all) (g4 : Cond.initialized y.cls ∈ lw_all) (g5 : Cond.code y bytes maxL ret ∈ lw_all) (hd : xHd x n) (hrm : xRm rm R maxL 0 0)
    (hbl : ∀ (U : State) (g : JFrame) (mk : MethodId) (a : Array Value), RD U → RD (U.calling g mk a)) (hRD : ∀ U : State, U.heap = H → s.WarmedH U.vm → RD U)
    (hAn : As.length = n) (hls : ls.size = nL) (hst : st0 = As.reverse ++ .ref b :: rest) (hW : (rest.map fun v => v.category).sum ≤ 8) (hdg : decode cc pc = .ok (.invokeinterface index count, 5)) (hf : cells + 0 ≤ R.cells ∧ slots + 0 ≤ R.slots)
    (kk : ∀ v : Option Value, post0 v → W p l e R s m args below meth c H locs cells slots Q (F0 m (pc + 5) ls (v.toList ++ rest))) : W p l e R s m args below meth c H locs cells slots Q (F0 m pc ls st0) :=
  xr_back50 (xr_runF C w hM hrc hcl hfw g1 g2 g3 g4 g5 hd hrm hbl hRD [] rfl rfl hAn hls hst hW hdg hf) kk
/-! calls of inherited methods -/
theorem xr_runU (C : Cx G p m c cc nL s args own) (w : Wd G A ws s H0 H locs) {b ci : Nat} {fs : List Value} {Cn owner : String} {T : u_T} {N : Nat} {x : MethodName} {Qc : Array Value → State → Outcome → State → Prop} {free : Addr → Prop}
    (hM : Met l y (ws_ y bytes maxL ret) rm (va_Pc (.ref b :: As) (PP G wc H.size RD)) Qc mc ms free)
    (hrc : va_P G.1 vwCl [(b, xO ci fs)] H) (hcl : vwCl[ci]? = some (Cn, T, N))
    (g1 : Cond.methodLink own index x ∈ lw_all) (g6 : Cond.sameMethod x.cls owner x.name x.desc ∈ lw_all) (g2 : Cond.selects Cn x y ∈ lw_all) (g3 : Cond.instanceMethod y ∈ lw_all) (g4 : Cond.initialized y.cls ∈ lw_all) (g5 : Cond.code y bytes maxL ret ∈ lw_all) (hyx : y = ⟨owner, x.name, x.desc⟩) (hd : xHd y n) (hrm : xRm rm R maxL mc ms)
    (hbl : ∀ (U : State) (g : JFrame) (mk : MethodId) (a : Array Value), RD U → RD (U.calling g mk a)) (hRD : ∀ U : State, U.heap = H → s.WarmedH U.vm → RD U)
    (isC : List Nat) (hnC : va_nd isC = true) (hC : isC.map (fun i => ws[i]?) = wc.map some)
    (hAn : As.length = n) (hls : ls.size = nL) (hst : st0 = As.reverse ++ .ref b :: rest) (hW : (rest.map fun v => v.category).sum ≤ 8) (hdg : decode cc pc = .ok (.invokevirtual index, 3)) (hf : cells + mc ≤ R.cells ∧ slots + ms ≤ R.slots) :
    va_Run p l e R s m args below meth c H locs cells slots mc ms (F0 m pc ls st0) rest (Qc (Value.ref b :: As).toArray) free := by
  have hd' : owner ≠ "java/lang/invoke/MethodHandle" ∧ owner ≠ "java/lang/invoke/VarHandle" ∧ (parseMethodDescriptor x.desc).map (fun d => d.parameters.length) = some n := by
    have h := hd
    unfold xHd at h
    rw [hyx] at h
    exact h
  exact va_runU ⟨C.1, C.2.1, C.2.2.1, C.2.2.2.1, C.2.2.2.2.1⟩ hM (va_cwU n C.2.2.2.2.1 (lw_U g1 g6 g2 g3 g4 g5) rfl hrm.1 hrm.2.1 hyx hd' ⟨hrm.2.2.1, hrm.2.2.2⟩) ⟨xr_blind hbl, va_recv C.2.2.2.2.2 hrc hcl (q0 := 0) rfl, xr_pre (As := .ref b :: As) C w isC hnC hC hRD⟩ rfl hAn hls hst (lv_room hW) hdg hf
theorem xr_callU (C : Cx G p m c cc nL s args own) (w : Wd G A ws s H0 H locs) {b ci : Nat} {fs : List Value} {Cn owner : String} {T : u_T} {N : Nat} {x : MethodName}
    (hM : Met l y (ws_ y bytes maxL ret) rm (va_Pc (.ref b :: As) (PP G wc H.size RD)) (CQ G wc H.size w1 post) mc ms (va_A wc H.size))
    (hrc : va_P G.1 vwCl [(b, xO ci fs)] H) (hcl : vwCl[ci]? = some (Cn, T, N))
    (g1 : Cond.methodLink own index x ∈ lw_all) (g6 : Cond.sameMethod x.cls owner x.name x.desc ∈ lw_all) (g2 : Cond.selects Cn x y ∈ lw_all) (g3 : Cond.instanceMethod y ∈ lw_all) (g4 : Cond.initialized y.cls ∈ lw_all) (g5 : Cond.code y bytes maxL ret ∈ lw_all) (hyx : y = ⟨owner, x.name, x.desc⟩) (hd : xHd y n) (hrm : xRm rm R maxL mc ms)
    (hbl : ∀ (U : State) (g : JFrame) (mk : MethodId) (a : Array Value), RD U → RD (U.calling g mk a)) (hRD : ∀ U : State, U.heap = H → s.WarmedH U.vm → RD U)
    (isC isR : List Nat) (hnC : va_nd isC = true) (hC : isC.map (fun i => ws[i]?) = wc.map some) (hR : isR.map (fun i => ws[i]?) = wr.map some) (hn : va_nd isR = true) (hdis : ∀ i ∈ isR, i ∉ isC)
    (hAn : As.length = n) (hls : ls.size = nL) (hst : st0 = As.reverse ++ .ref b :: rest) (hW : (rest.map fun v => v.category).sum ≤ 8) (hdg : decode cc pc = .ok (.invokevirtual index, 3)) (hf : cells + mc ≤ R.cells ∧ slots + ms ≤ R.slots)
    (kk : ∀ (u : α) (v : Option Value) (H1 : Heap) (locs1 : List Loc), post u v H1 → H.size ≤ H1.size → (∀ q : Nat, q < H.size → ¬ va_A wc H.size q → H1[q]? = H[q]?) → Wd G A (wr ++ w1 u) s H0 H1 locs1 → W p l e R s m args below meth c H1 locs1 (cells + mc) (slots + ms) Q (F0 m (pc + 3) ls (v.toList ++ rest))) : W p l e R s m args below meth c H locs cells slots Q (F0 m pc ls st0) :=
  xr_back w (xr_runU C w hM hrc hcl g1 g6 g2 g3 g4 g5 hyx hd hrm hbl hRD isC hnC hC hAn hls hst hW hdg hf) isC isR hC hR hn hdis kk
theorem xr_callU0 (C : Cx G p m c cc nL s args own) (w : Wd G A ws s H0 H locs) {b ci : Nat} {fs : List Value} {Cn owner : String} {T : u_T} {N : Nat} {x : MethodName}
    (hM : Met l y (ws_ y bytes maxL ret) rm (va_Pc (.ref b :: As) (PP G [] H.size RD)) (CQ0 post0) 0 0 (fun _ => False))
    (hrc : va_P G.1 vwCl [(b, xO ci fs)] H) (hcl : vwCl[ci]? = some (Cn, T, N))
    (g1 : Cond.methodLink own index x ∈ lw_all) (g6 : Cond.sameMethod x.cls owner x.name x.desc ∈ lw_all) (g2 : Cond.selects Cn x y ∈ lw_all) (g3 : Cond.instanceMethod y ∈ lw_all) (g4 : Cond.initialized y.cls ∈ lw_all) (g5 : Cond.code y bytes maxL ret ∈ lw_all) (hyx : y = ⟨owner, x.name, x.desc⟩) (hd : xHd y n) (hrm : xRm rm R maxL 0 0)
    (hbl : ∀ (U : State) (g : JFrame) (mk : MethodId) (a : Array Value), RD U → RD (U.calling g mk a)) (hRD : ∀ U : State, U.heap = H → s.WarmedH U.vm → RD U)
    (hAn : As.length = n) (hls : ls.size = nL) (hst : st0 = As.reverse ++ .ref b :: rest) (hW : (rest.map fun v => v.category).sum ≤ 8) (hdg : decode cc pc = .ok (.invokevirtual index, 3)) (hf : cells + 0 ≤ R.cells ∧ slots + 0 ≤ R.slots)
    (kk : ∀ v : Option Value, post0 v → W p l e R s m args below meth c H locs cells slots Q (F0 m (pc + 3) ls (v.toList ++ rest))) : W p l e R s m args below meth c H locs cells slots Q (F0 m pc ls st0) :=
  xr_back0 (xr_runU C w hM hrc hcl g1 g6 g2 g3 g4 g5 hyx hd hrm hbl hRD [] rfl rfl hAn hls hst hW hdg hf) kk
theorem xr_callI0 (C : Cx G p m c cc nL s args own) (w : Wd G A ws s H0 H locs) {b : Nat}
    (hM : Met l y (ws_ y bytes maxL none) rm (va_Pc (.ref b :: As) (PP G [] H.size RD)) (CQ0 post0) 0 0 (fun _ => False))
    (g1 : Cond.methodLink own index y ∈ lw_all) (g2 : Cond.instanceMethod y ∈ lw_all) (g3 : Cond.initialized y.cls ∈ lw_all) (g4 : Cond.code y bytes maxL none ∈ lw_all) (hy : y.name = "<init>") (hd : xHd y n) (hrm : xRm rm R maxL 0 0)
    (hbl : ∀ (U : State) (g : JFrame) (mk : MethodId) (a : Array Value), RD U → RD (U.calling g mk a)) (hRD : ∀ U : State, U.heap = H → s.WarmedH U.vm → RD U)
    (hAn : As.length = n) (hls : ls.size = nL) (hst : st0 = As.reverse ++ .ref b :: rest) (hW : (rest.map fun v => v.category).sum ≤ 8) (hdg : decode cc pc = .ok (.invokespecial index, 3)) (hf : cells + 0 ≤ R.cells ∧ slots + 0 ≤ R.slots)
    (kk : ∀ v : Option Value, post0 v → W p l e R s m args below meth c H locs cells slots Q (F0 m (pc + 3) ls (v.toList ++ rest))) : W p l e R s m args below meth c H locs cells slots Q (F0 m pc ls st0) :=
  xr_back0 (va_runI ⟨C.1, C.2.1, C.2.2.1, C.2.2.2.1, C.2.2.2.2.1⟩ hM (cwI n C.2.2.2.2.1 (lw_meth g4) rfl hrm.1 hrm.2.1 (C.2.2.2.2.1 _ g3) (C.2.2.2.2.1 _ g1) (C.2.2.2.2.1 _ g2) hy hd ⟨hrm.2.2.1, hrm.2.2.2⟩) ⟨xr_blind hbl, xr_pre (As := .ref b :: As) C w [] rfl rfl hRD⟩ rfl hAn hls hst (lv_room hW) hdg hf) kk
/-! statics of AESEngine -/
theorem xr_gets (C : Cx G p m c cc nL s args own) (w : Wd G A ws s s.heap H locs) {nm d : String} {t index : Nat} (hZ : va_Z "AESEngine" nm d (.ref t) A s s.heap) (hlink : Cond.fieldLink own index "AESEngine" nm d ∈ lw_all) (hdg : decode cc pc = .ok (.getstatic index, 3)) (kk : W p l e R s m args below meth c H locs cells slots Q (F0 m (pc + 3) ls (.ref t :: rest))) : W p l e R s m args below meth c H locs cells slots Q (F0 m pc ls rest) :=
  va_gets C.1 C.2.1 hZ w.2.2.1 C.2.2.2.1 (C.2.2.2.2.1 _ hlink) (fun _ h => h) hdg kk
theorem xr_tiald (C : Cx G p m c cc nL s args own) (w : Wd G A ws s s.heap H locs) {t i n : Nat} {f : Nat → Int32} (hT : va_T .int t n (fun j => .int (f j)) A s s.heap) (hi : i < n) (hn : n < 2 ^ 31) (hdg : decode cc pc = .ok (.iaload, 1)) (kk : W p l e R s m args below meth c H locs cells slots Q (F0 m (pc + 1) ls (.int (f i) :: rest))) : W p l e R s m args below meth c H locs cells slots Q (F0 m pc ls (.int (nI i) :: .ref t :: rest)) :=
  va_ti C.1 C.2.1 hT w.2.2.1 (vp_in_nI hi hn) (by rw [nI_clamp (Nat.lt_trans hi hn)]) hdg kk
theorem xr_tbald (C : Cx G p m c cc nL s args own) (w : Wd G A ws s s.heap H locs) {t i n : Nat} {f : Nat → Int32} (hT : va_T .byte t n (fun j => .int (f j)) A s s.heap) (hi : i < n) (hn : n < 2 ^ 31) (hdg : decode cc pc = .ok (.baload, 1)) (kk : W p l e R s m args below meth c H locs cells slots Q (F0 m (pc + 1) ls (.int (f i) :: rest))) : W p l e R s m args below meth c H locs cells slots Q (F0 m pc ls (.int (nI i) :: .ref t :: rest)) :=
  va_tb C.1 C.2.1 hT w.2.2.1 (vp_in_nI hi hn) (by rw [nI_clamp (Nat.lt_trans hi hn)]) hdg kk
/-! System.arraycopy between arrays of bytes: the source is any cell of the heap, apart from the one written -/
theorem va_cpy_sB (f g : Nat → BitVec 8) (sp dp n : Nat) : va_cpy (fun j => sB (f j)) (fun j => sB (g j)) sp dp n = fun j => sB (va_cpy f g sp dp n j) := by
  funext j
  unfold va_cpy
  split <;> rfl
theorem xr_copy (C : Cx G p m c cc nL s args own) (w : Wd G A ws s H0 H locs) (hlink : Cond.methodLink own index arraycopyName ∈ lw_all) (q1 : Nat) {a0 n0 n1 sp dp n : Nat} {f g : Nat → BitVec 8} (hP0 : va_P G.1 vwCl [(a0, xB G n0 f)] H) (ha1 : ws[q1]? = some (a, xB G n1 g)) (h4 : sp + n ≤ n0) (h5 : dp + n ≤ n1) (hb0 : n0 < 2 ^ 31) (hb1 : n1 < 2 ^ 31) (hls : ls.size = nL) (hframes : 1 ≤ R.frames) (hlocals : (rest.map fun v => v.category).sum + (nativeFrameWords "java/lang/System" "arraycopy" 5 + 11) ≤ R.locals) (hdg : decode cc pc = .ok (.invokestatic index, 3))
    (kk : ∀ (H1 : Heap) (locs1 : List Loc), Wd G A (ws.set q1 (a, xB G n1 (va_cpy f g sp dp n))) s H0 H1 locs1 → W p l e R s m args below meth c H1 locs1 cells slots Q (F0 m (pc + 3) ls rest)) : W p l e R s m args below meth c H locs cells slots Q (F0 m pc ls (.int (nI n) :: .int (nI dp) :: .ref a :: .int (nI sp) :: .ref a0 :: rest)) := by
  have hx := C.1
  have hb := C.2.1
  have hts := C.2.2.2.2.1
  have hK := C.2.2.2.2.2
  have hS := w.2.2.1
  intro T hT X
  have hc0 : H[a0]? = some (vp_cell G.2.1 (n0, .inl fun j => sB (f j))) := hP0 0 _ rfl
  have hc1 : H[a]? = some (vp_cell G.2.1 (n1, .inl fun j => sB (g j))) := w.1 q1 _ ha1
  obtain ⟨-, k0, hk0, cm0, hkk0⟩ := (hK.2 0 _ rfl).1 n0 (fun j => .int (sB (f j)))
  obtain ⟨-, k1, hk1, cm1, hkk1⟩ := (hK.2 0 _ rfl).1 n1 (fun j => .int (sB (g j)))
  have esp : (nI sp).toNatClampNeg = sp := nI_clamp (by omega)
  have edp : (nI dp).toNatClampNeg = dp := nI_clamp (by omega)
  have en : (nI n).toNatClampNeg = n := nI_clamp (by omega)
  obtain ⟨vm', X', step⟩ := X.arraycopy hx C.2.2.2.1 (hts _ hlink) (hts _ q246) (hts _ q245) (hts _ q22) (src := a0) (dst := a) (cs := vp_cell G.2.1 (n0, .inl fun j => sB (f j))) (cd := vp_cell G.2.1 (n1, .inl fun j => sB (g j))) (srcPos := nI sp) (destPos := nI dp) (n := nI n) (by rw [hT]; exact hc0) (by rw [hT]; exact hc1)
    (fun _ h => by cases h) (fun _ h => by cases h) (fun h => by cases h) (fun h => by cases h) hk0 hk1 hkk0 hkk1 (by rfl) (nI_pos (by omega)) (nI_pos (by omega)) (nI_pos (by omega))
    (by rw [nI_toInt (by omega), nI_toInt (by omega)]; show ¬ _ > ((arrV G.2.1 n0 (fun j => .int (sB (f j)))).slots.size : Int); rw [arrV_size]; omega)
    (by rw [nI_toInt (by omega), nI_toInt (by omega)]; show ¬ _ > ((arrV G.2.1 n1 (fun j => .int (sB (g j)))).slots.size : Int); rw [arrV_size]; omega)
    (fun vm₁ _ i hi => by
      rw [en] at hi
      have e : (vp_cell G.2.1 (n0, .inl fun j => sB (f j))).slots.getD ((nI sp).toNatClampNeg + i) .null = .int (sB (f (sp + i))) := by
        show (arrV G.2.1 n0 (fun j => .int (sB (f j)))).slots.getD _ _ = _
        rw [esp, Array.getD_eq_getD_getElem?, arrV_read _ _ (by omega)]
        rfl
      refine ⟨?_, ?_⟩
      · rw [e]
        exact fit_sB _
      · rw [e]
        exact trivial)
    (g := F0 m pc ls (.int (nI n) :: .int (nI dp) :: .ref a :: .int (nI sp) :: .ref a0 :: rest)) rfl (by rw [C.2.2.1]; exact hls) (rest := rest) rfl (by rw [hb]; exact hdg) hframes (by show 2 * 0 + _ + _ ≤ _; omega)
  have e1 : copied (vp_cell G.2.1 (n0, .inl fun j => sB (f j))) (vp_cell G.2.1 (n1, .inl fun j => sB (g j))) (nI sp) (nI dp) (nI n) = vp_cell G.2.1 (n1, .inl fun j => sB (va_cpy f g sp dp n j)) := by
    have h := va_copied (fun z => Value.int z) G.2.1 G.2.1 (n0 := n0) (n1 := n1) (sp := sp) (dp := dp) (n := n) (fun j => sB (f j)) (fun j => sB (g j)) h4
    rw [va_cpy_sB] at h
    unfold copied
    rw [esp, edp, en]
    exact h
  rw [e1] at X' step
  have hl : a < H.size := (Array.getElem?_eq_some_iff.mp hc1).1
  have hheap : ((T.setVm vm').setCell a (vp_cell G.2.1 (n1, .inl fun j => sB (va_cpy f g sp dp n j)))).heap = H.setIfInBounds a (vp_cell G.2.1 (n1, .inl fun j => sB (va_cpy f g sp dp n j))) := by rw [← hT]; rfl
  have oq : ∀ q : Nat, q ≠ a → (H.setIfInBounds a (vp_cell G.2.1 (n1, .inl fun j => sB (va_cpy f g sp dp n j))))[q]? = H[q]? := fun q hq => by simp [Array.getElem?_setIfInBounds, Ne.symm hq]
  obtain ⟨t, a1, b1⟩ := kk _ _ ⟨w.1.set w.2.1 ha1 (show (H.setIfInBounds a _)[a]? = some _ by simp [Array.getElem?_setIfInBounds, hl]) oq, w.2.1.set ha1, ⟨by simp; exact hS.1, fun q g1 g2 => by
      rw [oq q (fun e => g2 (by rw [e]; exact w.2.1.2 q1 _ ha1))]
      exact hS.2.1 q g1 g2, fun q hq => by
      rcases List.mem_append.mp hq with h | h
      · exact hS.2.2 q h
      · obtain ⟨z, -, hz⟩ := List.mem_map.mp h
        rw [← hz]
        exact w.2.1.2 q1 _ ha1⟩, w.2.2.2⟩ _ hheap X'
  exact ⟨t, step t a1, b1⟩
end XE
