/-! GRID: the int[][] of round keys: an outer array at w, its n rows at ad 0 .. ad (n-1), four ints each -/
def KW (G : GG) (w n : Nat) (ad : Nat → Nat) (k : Nat → Nat → Int32) (H : Heap) : Prop := va_P G.1 vwCl [(w, xR G n (fun r => some (ad r)))] H ∧ ∀ r, r < n → va_P G.1 vwCl [(ad r, xI G 4 (k r))] H
/-- its cells -/
def KWf (w n : Nat) (ad : Nat → Nat) (q : Nat) : Prop := q = w ∨ ∃ r, r < n ∧ q = ad r
/-- apart from the world, and its own to write -/
def KWd (A : Nat → Prop) (ws : va_W) (w n : Nat) (ad : Nat → Nat) : Prop := (∀ q, KWf w n ad q → A q) ∧ (∀ q, KWf w n ad q → ∀ (k : Nat) (e : Nat × va_E), ws[k]? = some e → e.1 ≠ q) ∧ (∀ i j, i < n → j < n → ad i = ad j → i = j) ∧ ∀ r, r < n → ad r ≠ w
def up2 (k : Nat → Nat → Int32) (r j : Nat) (x : Int32) : Nat → Nat → Int32 := va_up k r (va_up (k r) j x)
theorem KW.kept {G : GG} {w n : Nat} {ad : Nat → Nat} {k : Nat → Nat → Int32} {H H1 : Heap} (h : KW G w n ad k H) (hq : ∀ q, KWf w n ad q → q < H.size → H1[q]? = H[q]?) : KW G w n ad k H1 := by
  refine ⟨h.1.kept fun i q hi => ?_, fun r hr => (h.2 r hr).kept fun i q hi => ?_⟩
  · have hq0 : q.1 = w := by
      cases i with
      | zero => cases hi; rfl
      | succ i => simp at hi
    exact hq q.1 (Or.inl hq0) ((h.1 i q hi).lt)
  · have hq0 : q.1 = ad r := by
      cases i with
      | zero => cases hi; rfl
      | succ i => simp at hi
    exact hq q.1 (Or.inr ⟨r, hr, hq0⟩) ((h.2 r hr i q hi).lt)
theorem KW.lt {G : GG} {w n : Nat} {ad : Nat → Nat} {k : Nat → Nat → Int32} {H : Heap} (h : KW G w n ad k H) : ∀ q, KWf w n ad q → q < H.size := by
  rintro q (rfl | ⟨r, hr, rfl⟩)
  · exact (h.1 0 _ rfl).lt
  · exact (h.2 r hr 0 _ rfl).lt
theorem KW.ext {G : GG} {w n : Nat} {ad : Nat → Nat} {k k' : Nat → Nat → Int32} {H : Heap} (h : KW G w n ad k H) (hk : ∀ r, r < n → ∀ j, j < 4 → k r j = k' r j) : KW G w n ad k' H := by
  refine ⟨h.1, fun r hr i q hi => ?_⟩
  have h1 := h.2 r hr 0 _ rfl
  cases i with
  | zero =>
    cases hi
    have e : vp_cell G.2.2.1 (4, .inl (k r)) = vp_cell G.2.2.1 (4, .inl (k' r)) := by
      rw [vp_cell_i, vp_cell_i]
      exact arrV_ext _ fun j hj => by rw [hk r hr j hj]
    show H[ad r]? = some (vp_cell G.2.2.1 (4, .inl (k' r)))
    rw [← e]
    exact h1
  | succ i => simp at hi
theorem outerC_arrV (cA : ClassId) (N h0 : Nat) : ∀ i, Jvm.Free.Multi.outerC cA N h0 i = arrV cA N (fun j => if j < i then .ref (h0 + 1 + j) else .null)
  | 0 => by
    show ({ cls := cA, slots := Array.replicate N .null, vm := .none } : Cell) = _
    rw [arrV_new]
    rfl
  | i + 1 => by
    show (Jvm.Free.Multi.outerC cA N h0 i).setSlot i (.ref (h0 + 1 + i)) = _
    rw [outerC_arrV cA N h0 i, arrV_store]
    congr 1
    funext j
    unfold updV
    by_cases h1 : j = i
    · subst h1
      simp
    · by_cases h2 : j < i
      · have h3 : j < i + 1 := by omega
        simp [h1, h2, h3]
      · have h3 : ¬ j < i + 1 := by omega
        simp [h1, h2, h3]
section XG
variable {p : Program} {l : Launch} {e : Env} {R : Room} {s : State} {m : MethodId} {args : Array Value} {below : List Frame} {meth : Method} {c : Code} {H H0 : Heap} {locs : List Loc} {cells slots : Nat} {Q : State → Prop}
variable {cc : ByteArray} {pc nL : Nat} {own : String} {ls : Array Slot} {rest : List Value} {G : GG} {A : Nat → Prop} {ws : va_W} {a : Nat}
theorem xr_gst (C : Cx G p m c cc nL s args own) (w : Wd G A ws s H0 H locs) {wa n r j : Nat} {ad : Nat → Nat} {k : Nat → Nat → Int32} {x : Int32} (hK : KW G wa n ad k H) (hD : KWd A ws wa n ad) (hr : r < n) (hj : j < 4) (hdg : decode cc pc = .ok (.iastore, 1)) (kk : ∀ (H1 : Heap) (locs1 : List Loc), Wd G A ws s H0 H1 locs1 → KW G wa n ad (up2 k r j x) H1 → W p l e R s m args below meth c H1 locs1 cells slots Q (F0 m (pc + 1) ls rest)) : W p l e R s m args below meth c H locs cells slots Q (F0 m pc ls (.int x :: .int (nI j) :: .ref (ad r) :: rest)) := by
  have hc : H[ad r]? = some (vp_cell G.2.2.1 (4, .inl (k r))) := hK.2 r hr 0 _ rfl
  refine W.iast C.1 C.2.1 hc ((C.2.2.2.2.2.2 1 _ rfl).1 4 (fun j => .int (k r j))) (fun q => by cases q) (by show ¬ (_ ∨ (arrV _ _ _).slots.size ≤ _); rw [arrV_size]; exact vp_in_nI hj (show (4 : Nat) < 2 ^ 31 by decide)) rfl rfl hdg fun H1 e1 z oq => ?_
  have hne : ∀ (k : Nat) (q : Nat × va_E), ws[k]? = some q → q.1 ≠ ad r := fun k q hk => hD.2.1 _ (Or.inr ⟨r, hr, rfl⟩) k q hk
  refine kk H1 _ ⟨w.1.kept fun i q hi => oq q.1 (hne i q hi), w.2.1, w.2.2.1.put z oq (hD.1 _ (Or.inr ⟨r, hr, rfl⟩)), w.2.2.2⟩ ⟨hK.1.kept fun i q hi => oq q.1 ?_, fun r' hr' => ?_⟩
  · have hq0 : q.1 = wa := by
      cases i with
      | zero => cases hi; rfl
      | succ i => simp at hi
    rw [hq0]
    exact fun h => hD.2.2.2 r hr h.symm
  · by_cases h : r' = r
    · subst h
      intro i q hi
      cases i with
      | zero =>
        cases hi
        show H1[ad r']? = some (vp_cell _ _)
        rw [e1, vp_cell_i, vp_cell_i, arrV_store]
        congr 2
        funext q
        rw [nI_clamp (by omega)]
        unfold updV up2 va_up
        by_cases hq : q = j
        · simp [hq]
        · simp [hq]
      | succ i => simp at hi
    · have e2 : up2 k r j x r' = k r' := by unfold up2 va_up; simp [h]
      rw [e2]
      refine (hK.2 r' hr').kept fun i q hi => oq q.1 ?_
      have hq0 : q.1 = ad r' := by
        cases i with
        | zero => cases hi; rfl
        | succ i => simp at hi
      rw [hq0]
      exact fun h2 => h (hD.2.2.1 _ _ hr' hr h2)
theorem xr_grid (C : Cx G p m c cc nL s args own) (w : Wd G A ws s H0 H locs) {n index : Nat} (hn : n < 1000) (hcl : Cond.classLink own index "[[I" ∈ lw_all) (hcells : cells + (1 + n) ≤ R.cells) (hslots : slots + (n + n * 4) ≤ R.slots) (hdg : decode cc pc = .ok (.multianewarray index 2, 4))
    (kk : ∀ (q : Nat) (H1 : Heap), H.size ≤ q → Wd G A ws s H0 H1 locs → KW G q n (fun r => q + 1 + r) (fun _ _ => 0) H1 → KWd A ws q n (fun r => q + 1 + r) → W p l e R s m args below meth c H1 locs (cells + 1 + n) (slots + n + n * 4) Q (F0 m (pc + 4) ls (.ref q :: rest))) : W p l e R s m args below meth c H locs cells slots Q (F0 m pc ls (.int (nI 4) :: .int (nI n) :: rest)) := by
  have en : (nI n).toNatClampNeg = n := nI_clamp (by omega)
  have e4 : (nI 4).toNatClampNeg = 4 := nI_clamp (by decide)
  have hS := w.2.2.1
  intro T hT X
  obtain ⟨vm₁, cA, comp, hW1, hfA, hfC, -, -, X1, step⟩ := X.multianewarray2F C.1 (own := own) (index := index) (ty := .int) C.2.2.2.1 (C.2.2.2.2.1 _ hcl) w.2.2.2.2.2.2.2.2.1 (C.2.2.2.2.1 _ q544)
    (g := F0 m pc ls (.int (nI 4) :: .int (nI n) :: rest)) rfl (by rw [C.2.1]; exact hdg) (n := nI n) (k := nI 4) (rest := rest) rfl (nI_pos (by omega)) (nI_pos (by decide))
    (by rw [en]; omega) (by rw [e4]; decide) (by rw [e4]; decide) rfl rfl (by rw [en]; exact hcells) (by rw [en, e4]; exact hslots)
  rw [en, e4] at X1 step
  have hcA : cA = G.2.2.2 := Option.some.inj (hfA.symm.trans (C.2.2.2.2.2.2 2 _ rfl).2)
  have hco : comp = G.2.2.1 := Option.some.inj (hfC.symm.trans (C.2.2.2.2.2.2 1 _ rfl).2)
  subst hcA; subst hco
  have hsz : (T.setVm vm₁).heap.size = H.size := by show T.heap.size = _; rw [hT]
  obtain ⟨f1, f2, -, -⟩ := Jvm.Free.Multi.fill_facts (T.setVm vm₁) G.2.2.2 G.2.2.1 n 4 (defaultValue .int) n
  rw [hsz] at f1 f2
  have fo : ∀ q, q < H.size → (Jvm.Free.Multi.fill (T.setVm vm₁) G.2.2.2 G.2.2.1 n 4 (defaultValue .int) n).heap[q]? = H[q]? := fun q hq => by
    rw [Jvm.Free.Multi.fill_old (T.setVm vm₁) _ _ _ _ _ (by rw [hsz]; exact hq)]
    show T.heap[q]? = _
    rw [hT]
  have fi : ∀ j, j < n → (Jvm.Free.Multi.fill (T.setVm vm₁) G.2.2.2 G.2.2.1 n 4 (defaultValue .int) n).heap[H.size + 1 + j]? = some (Jvm.Free.Multi.innerC G.2.2.1 4 (defaultValue .int)) := fun j hj => by
    have h := Jvm.Free.Multi.fill_inner (T.setVm vm₁) G.2.2.2 G.2.2.1 n 4 (defaultValue .int) n j hj
    rw [hsz] at h
    exact h
  generalize hF : Jvm.Free.Multi.fill (T.setVm vm₁) G.2.2.2 G.2.2.1 n 4 (defaultValue .int) n = F at X1 step f1 f2 fo fi
  have hk : ∀ (k : Nat) (x : Nat × va_E), ws[k]? = some x → F.heap[x.1]? = H[x.1]? := fun k x hx => fo x.1 ((w.1 k x hx).lt)
  have hKW : KW G H.size n (fun r => H.size + 1 + r) (fun _ _ => 0) F.heap := by
    refine ⟨fun i q hi => ?_, fun r hr i q hi => ?_⟩
    · cases i with
      | zero =>
        cases hi
        show F.heap[H.size]? = some (vp_cell _ _)
        rw [f2, outerC_arrV, vp_cell_q]
        exact congrArg some (arrV_ext _ fun j hj => by simp [hj, va_rf])
      | succ i => simp at hi
    · cases i with
      | zero =>
        cases hi
        show F.heap[H.size + 1 + r]? = some (vp_cell _ _)
        rw [fi r hr, vp_cell_i]
        exact congrArg some (arrV_new _ _ _)
      | succ i => simp at hi
  have hKD : KWd A ws H.size n (fun r => H.size + 1 + r) := by
    refine ⟨fun q hq => ?_, fun q hq k x hx => ?_, fun i j _ _ h => by dsimp only at h; omega, fun r _ => by dsimp only; omega⟩
    · have := hS.1
      rcases hq with rfl | ⟨r, hr, rfl⟩
      · exact w.2.2.2.1 _ this
      · exact w.2.2.2.1 _ (by dsimp only; omega)
    · have hl := (w.1 k x hx).lt
      rcases hq with rfl | ⟨r, hr, rfl⟩ <;> (try dsimp only) <;> omega
  obtain ⟨t, a1, b1⟩ := kk H.size F.heap (Nat.le_refl _) ⟨w.1.kept hk, w.2.1, ⟨by rw [f1]; have := hS.1; omega, fun q h1 h2 => (fo q (Nat.lt_of_lt_of_le h1 hS.1)).trans (hS.2.1 q h1 h2), hS.2.2⟩, w.2.2.2⟩ hKW hKD F rfl X1
  refine ⟨t, step t ?_, b1⟩
  rw [hT]
  exact a1
end XG
