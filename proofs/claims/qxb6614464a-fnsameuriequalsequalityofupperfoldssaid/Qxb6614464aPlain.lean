namespace Go.Proofs.Qxb6614464a.plain

def low (b : UInt8) : UInt8 := if 65 ≤ b.toNat ∧ b.toNat ≤ 90 then UInt8.ofNat (b.toNat + 32) else b
def up (b : UInt8) : UInt8 := if 97 ≤ b.toNat ∧ b.toNat ≤ 122 then UInt8.ofNat (b.toNat - 32) else b
def isC (b : UInt8) : Bool := b == 58
def isE (b : UInt8) : Bool := b == 47 || b == 63 || b == 35
def isA (b : UInt8) : Bool := b == 64
def sk (b : UInt8) : UInt8 := if b == 58 || b == 47 || b == 63 || b == 35 || b == 64 then b else 0

theorem all_bytes {p : UInt8 → Prop} (h : ∀ n : Nat, n < 256 → p (UInt8.ofNat n)) (b : UInt8) : p b := by
  have := h b.toNat (UInt8.toNat_lt b)
  rwa [UInt8.ofNat_toNat] at this

theorem low_up (b : UInt8) : low (up b) = low b := all_bytes (p := fun b => low (up b) = low b) (by decide +kernel) b
theorem up_low (b : UInt8) : up (low b) = up b := all_bytes (p := fun b => up (low b) = up b) (by decide +kernel) b
theorem sk_low (b : UInt8) : sk (low b) = sk b := all_bytes (p := fun b => sk (low b) = sk b) (by decide +kernel) b
theorem sk_up (b : UInt8) : sk (up b) = sk b := all_bytes (p := fun b => sk (up b) = sk b) (by decide +kernel) b
theorem isC_sk (b : UInt8) : isC (sk b) = isC b := all_bytes (p := fun b => isC (sk b) = isC b) (by decide +kernel) b
theorem isE_sk (b : UInt8) : isE (sk b) = isE b := all_bytes (p := fun b => isE (sk b) = isE b) (by decide +kernel) b
theorem isA_sk (b : UInt8) : isA (sk b) = isA b := all_bytes (p := fun b => isA (sk b) = isA b) (by decide +kernel) b
theorem slash_sk (b : UInt8) : (sk b == 47) = (b == 47) := all_bytes (p := fun b => (sk b == 47) = (b == 47)) (by decide +kernel) b

/-- the place behind the last '@' (0: none) -/
def lastA (l : List UInt8) : Nat := l.length - l.reverse.findIdx isA
theorem lastA_nil : lastA [] = 0 := rfl
theorem lastA_le (l : List UInt8) : lastA l ≤ l.length := Nat.sub_le _ _
theorem lastA_snoc (l : List UInt8) (x : UInt8) : lastA (l ++ [x]) = if isA x then l.length + 1 else lastA l := by
  unfold lastA
  rw [List.reverse_append, List.reverse_singleton, List.singleton_append, List.findIdx_cons, List.length_append, List.length_singleton]
  cases isA x <;> simp

/-- do the bytes at c+1 and c+2 read '//'? -/
def hasSl (u : List UInt8) (c : Nat) : Bool := (u[c + 1]?.getD 0 == 47) && (u[c + 2]?.getD 0 == 47)

def reg (u : List UInt8) : Nat × Nat × Nat :=
  if u.findIdx isC < u.length then
    if hasSl u (u.findIdx isC) then
      (u.findIdx isC, u.findIdx isC + 3 + lastA ((u.drop (u.findIdx isC + 3)).take ((u.drop (u.findIdx isC + 3)).findIdx isE)), u.findIdx isC + 3 + (u.drop (u.findIdx isC + 3)).findIdx isE)
    else (u.findIdx isC, 0, 0)
  else (0, 0, 0)

def inR (r : Nat × Nat × Nat) (i : Nat) : Bool := decide (i < r.1 ∨ (r.2.1 ≤ i ∧ i < r.2.2))
def mapR (f : UInt8 → UInt8) (r : Nat × Nat × Nat) (u : List UInt8) : List UInt8 := u.mapIdx fun i b => if inR r i then f b else b

def upper (u : List UInt8) : List UInt8 := mapR up (reg u) u
def fold (u : List UInt8) : List UInt8 := mapR low (reg u) u

theorem findIdx_sk (p : UInt8 → Bool) (hp : ∀ b, p (sk b) = p b) (u : List UInt8) : (u.map sk).findIdx p = u.findIdx p := by
  rw [List.findIdx_map]
  congr 1
  funext b
  exact hp b

theorem lastA_sk (l : List UInt8) : lastA (l.map sk) = lastA l := by
  unfold lastA
  rw [← List.map_reverse, findIdx_sk _ isA_sk, List.length_map]

theorem getD_sk (u : List UInt8) (i : Nat) : ((u.map sk)[i]?.getD 0 == 47) = (u[i]?.getD 0 == 47) := by
  rw [List.getElem?_map]
  cases u[i]? with
  | none => rfl
  | some b => exact slash_sk b

theorem reg_sk (u : List UInt8) : reg (u.map sk) = reg u := by
  unfold reg
  rw [findIdx_sk _ isC_sk, List.length_map]
  have h1 : hasSl (u.map sk) (u.findIdx isC) = hasSl u (u.findIdx isC) := by
    unfold hasSl
    rw [getD_sk, getD_sk]
  rw [h1, ← List.map_drop, findIdx_sk _ isE_sk, ← List.map_take, lastA_sk]

theorem mapR_sk (f : UInt8 → UInt8) (hf : ∀ b, sk (f b) = sk b) (r : Nat × Nat × Nat) (u : List UInt8) : (mapR f r u).map sk = u.map sk := by
  unfold mapR
  apply List.ext_getElem
  · simp
  · intro i h1 h2
    simp only [List.getElem_map, List.getElem_mapIdx]
    split
    · exact hf _
    · rfl

theorem reg_mapR (f : UInt8 → UInt8) (hf : ∀ b, sk (f b) = sk b) (r : Nat × Nat × Nat) (u : List UInt8) : reg (mapR f r u) = reg u := by
  rw [← reg_sk, mapR_sk f hf, reg_sk]

theorem mapR_mapR (f g k : UInt8 → UInt8) (h : ∀ b, f (g b) = k b) (r : Nat × Nat × Nat) (u : List UInt8) : mapR f r (mapR g r u) = mapR k r u := by
  unfold mapR
  apply List.ext_getElem
  · simp
  · intro i h1 h2
    simp only [List.getElem_mapIdx]
    split
    · exact h _
    · rfl

theorem reg_fold (u : List UInt8) : reg (fold u) = reg u := reg_mapR low sk_low _ u
theorem reg_upper (u : List UInt8) : reg (upper u) = reg u := reg_mapR up sk_up _ u

theorem upper_of_fold (u : List UInt8) : mapR up (reg u) (fold u) = upper u := mapR_mapR up low up up_low _ u
theorem fold_of_upper (u : List UInt8) : mapR low (reg u) (upper u) = fold u := mapR_mapR low up low low_up _ u

theorem fold_upper (u : List UInt8) : fold (upper u) = fold u := by
  show mapR low (reg (upper u)) (upper u) = fold u
  rw [reg_upper, fold_of_upper]

theorem fold_iff (a b : List UInt8) : fold a = fold b ↔ upper a = upper b := by
  constructor
  · intro h
    have hr : reg a = reg b := by rw [← reg_fold a, h, reg_fold]
    rw [← upper_of_fold a, ← upper_of_fold b, h, hr]
  · intro h
    have hr : reg a = reg b := by rw [← reg_upper a, h, reg_upper]
    rw [← fold_of_upper a, ← fold_of_upper b, h, hr]

end Go.Proofs.Qxb6614464a.plain
