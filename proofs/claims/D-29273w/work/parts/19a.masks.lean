/-! the masks of padCount -/
theorem mk0 : ∀ x : BitVec 8, (((uB x ^^^ nI 0) - nI 1) >>> (nI 31 &&& 31)) = if x = 0 then (-1 : Int32) else 0 := by decide +kernel
theorem mk80 : ∀ x : BitVec 8, (((uB x ^^^ nI 128) - nI 1) >>> (nI 31 &&& 31)) = if x = 128 then (-1 : Int32) else 0 := by decide +kernel
theorem pk7a : ∀ x : BitVec 8, (((nI 16 - uB x) ||| (uB x - nI 1)) >>> (nI 31 &&& 31)) = if 1 ≤ x.toNat ∧ x.toNat ≤ 16 then (0 : Int32) else -1 := by decide +kernel
theorem pk7b : ∀ i : Fin 16, ∀ x : BitVec 8, (((nI i.val - (nI 16 - uB x)) >>> (nI 31 &&& 31)) ^^^ (-1 : Int32)) = if 16 ≤ i.val + x.toNat then (-1 : Int32) else 0 := by decide +kernel
