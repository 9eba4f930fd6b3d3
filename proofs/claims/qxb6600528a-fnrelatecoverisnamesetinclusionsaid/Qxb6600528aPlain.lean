namespace Go.Proofs.Qxb6600528a.plain

/-- the levels of a text: cut at every slash -/
def lv : List UInt8 → List (List UInt8)
  | [] => [[]]
  | b :: l => if b == 47 then [] :: lv l else
    match lv l with
    | [] => [[b]]
    | h :: t => (b :: h) :: t

def isS (b : UInt8) : Bool := b == 47

theorem lv_ne (l : List UInt8) : lv l ≠ [] := by
  cases l with
  | nil => simp [lv]
  | cons b l =>
    rw [lv]
    split
    · simp
    · split <;> simp

theorem lv_miss : ∀ (l : List UInt8), ¬ l.findIdx isS < l.length → lv l = [l]
  | [], _ => rfl
  | b :: l, h => by
    rw [List.findIdx_cons, List.length_cons] at h
    have hb : (b == 47) = false := by
      cases hb : isS b with
      | false => exact hb
      | true => rw [hb] at h; simp at h
    have hb' : isS b = false := hb
    rw [hb'] at h
    simp only [cond_false, Nat.add_lt_add_iff_right] at h
    rw [lv, hb, lv_miss l h]
    rfl

theorem lv_hit : ∀ (l : List UInt8), l.findIdx isS < l.length → lv l = l.take (l.findIdx isS) :: lv (l.drop (l.findIdx isS + 1))
  | [], h => by simp at h
  | b :: l, h => by
    rw [List.findIdx_cons, List.length_cons] at h
    rw [List.findIdx_cons, lv]
    cases hb : isS b with
    | true =>
      have hb' : (b == 47) = true := hb
      rw [hb']
      simp
    | false =>
      have hb' : (b == 47) = false := hb
      rw [hb] at h
      simp only [cond_false, Nat.add_lt_add_iff_right] at h
      rw [hb', lv_hit l h]
      simp

def hsh : List UInt8 := [35]
def plus : List UInt8 := [43]

/-- relate's walk over the levels of both filters -/
def rel (ov : Bool) : Bool → List (List UInt8) → List (List UInt8) → Bool
  | _, [], _ => false
  | _, _ :: _, [] => false
  | top, a :: fs, b :: gs =>
    if a == hsh && fs.isEmpty then true
    else if b == hsh && gs.isEmpty then ov || (top && a == plus && fs == [hsh])
    else if a == b || a == plus || (ov && b == plus) then
      if fs.isEmpty && gs.isEmpty then true
      else if gs.isEmpty then fs == [hsh]
      else if fs.isEmpty then ov && gs == [hsh]
      else rel ov false fs gs
    else false

def dollar (l : List UInt8) : Bool := l.head? == some 36
def wild (l : List UInt8) : Bool := l.head? == some 43 || l.head? == some 35

def relate (ov : Bool) (f g : List UInt8) : Bool :=
  if dollar g && wild f || dollar f && wild g then false else rel ov true (lv f) (lv g)

theorem rel_refl (ov : Bool) : ∀ (top : Bool) (fs : List (List UInt8)), fs ≠ [] → rel ov top fs fs = true
  | _, [], h => absurd rfl h
  | top, a :: fs, _ => by
    rw [rel]
    cases h1 : (a == hsh && fs.isEmpty) with
    | true => rfl
    | false =>
      have h2 : (a == a || a == plus || (ov && a == plus)) = true := by simp
      rw [h2]
      simp only [Bool.false_eq_true, if_false, if_true]
      cases fs with
      | nil => rfl
      | cons c cs =>
        have ih := rel_refl ov false (c :: cs) (by simp)
        simpa using ih

theorem beq_swap (a b : List UInt8) : (a == b) = (b == a) := by
  rw [Bool.eq_iff_iff, beq_iff_eq, beq_iff_eq]
  exact eq_comm

theorem rel_symm : ∀ (top : Bool) (fs gs : List (List UInt8)), rel true top fs gs = rel true top gs fs
  | _, [], [] => rfl
  | _, [], _ :: _ => by simp [rel]
  | _, _ :: _, [] => by simp [rel]
  | top, a :: fs, b :: gs => by
    have ih := rel_symm false fs gs
    rw [rel, rel, beq_swap b a]
    cases h1 : (a == hsh && fs.isEmpty) with
    | true =>
      cases h2 : (b == hsh && gs.isEmpty) <;> simp
    | false =>
      cases h2 : (b == hsh && gs.isEmpty) with
      | true => simp
      | false =>
        have h3 : (a == b || a == plus || (true && b == plus)) = (a == b || b == plus || (true && a == plus)) := by
          cases a == b <;> cases a == plus <;> cases b == plus <;> rfl
        rw [h3]
        simp only [Bool.false_eq_true, if_false]
        cases fs with
        | nil => cases gs <;> simp
        | cons c cs =>
          cases gs with
          | nil => simp
          | cons d ds => simp only [List.isEmpty_cons, Bool.and_self, Bool.false_eq_true, if_false, ih]

theorem rel_below : ∀ (top : Bool) (fs gs : List (List UInt8)), rel false top fs gs = true → rel true top fs gs = true
  | _, [], _, h => by simp [rel] at h
  | _, _ :: _, [], h => by simp [rel] at h
  | top, a :: fs, b :: gs, h => by
    have ih := rel_below false fs gs
    rw [rel] at h ⊢
    cases h1 : (a == hsh && fs.isEmpty) with
    | true => rfl
    | false =>
      rw [h1] at h
      simp only [Bool.false_eq_true, if_false] at h ⊢
      cases h2 : (b == hsh && gs.isEmpty) with
      | true => simp
      | false =>
        rw [h2] at h
        simp only [Bool.false_eq_true, if_false, Bool.false_and, Bool.or_false, Bool.true_and] at h ⊢
        cases h3 : (a == b || a == plus) with
        | false => rw [h3] at h; simp at h
        | true =>
          rw [h3] at h
          simp only [Bool.true_or, if_true] at h ⊢
          cases fs with
          | nil =>
            cases gs with
            | nil => rfl
            | cons d ds => simp at h
          | cons c cs =>
            cases gs with
            | nil => exact h
            | cons d ds =>
              simp only [List.isEmpty_cons, Bool.and_self, Bool.false_eq_true, if_false] at h ⊢
              exact ih h

theorem dollar_wild (f : List UInt8) : (dollar f && wild f) = false := by
  cases f with
  | nil => rfl
  | cons b l =>
    simp only [dollar, wild, List.head?_cons]
    by_cases h : b = 36
    · subst h; rfl
    · have : (some b == some (36 : UInt8)) = false := by simpa using h
      rw [this]
      rfl

theorem relate_refl (ov : Bool) (f : List UInt8) : relate ov f f = true := by
  unfold relate
  rw [dollar_wild f]
  exact rel_refl ov true (lv f) (lv_ne f)

theorem relate_symm (f g : List UInt8) : relate true f g = relate true g f := by
  unfold relate
  rw [rel_symm true (lv f) (lv g), Bool.or_comm]

theorem relate_below (f g : List UInt8) (h : relate false f g = true) : relate true f g = true := by
  unfold relate at h ⊢
  cases hc : (dollar g && wild f || dollar f && wild g) with
  | true => rw [hc] at h; simp at h
  | false =>
    rw [hc] at h
    exact rel_below true _ _ h

end Go.Proofs.Qxb6600528a.plain
