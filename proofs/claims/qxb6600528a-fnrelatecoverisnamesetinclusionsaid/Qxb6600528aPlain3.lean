import Derived.Test.Qxb6600528aPlain2
namespace Go.Proofs.Qxb6600528a.plain

def lit (o : Option (List UInt8)) : Option (List UInt8) :=
  match o with
  | some l => if wildL l then none else some l
  | none => none
def pick (x y : Option (List UInt8)) : List UInt8 :=
  match lit x with
  | some l => l
  | none => (lit y).getD [122]

/-- the candidate name of a length -/
def cn : Nat → List (List UInt8) → List (List UInt8) → List (List UInt8)
  | 0, _, _ => []
  | n + 1, fs, gs => pick fs.head? gs.head? :: cn n fs.tail gs.tail

theorem cn_length : ∀ n fs gs, (cn n fs gs).length = n
  | 0, _, _ => rfl
  | n + 1, fs, gs => by rw [cn, List.length_cons, cn_length n]

theorem cn_get : ∀ n fs gs i, i < n → (cn n fs gs)[i]? = some (pick fs[i]? gs[i]?)
  | 0, _, _, _, h => absurd h (Nat.not_lt_zero _)
  | n + 1, fs, gs, 0, _ => by
    rw [cn, List.getElem?_cons_zero, List.head?_eq_getElem?, List.head?_eq_getElem?]
  | n + 1, fs, gs, i + 1, h => by
    rw [cn, List.getElem?_cons_succ, cn_get n fs.tail gs.tail i (by omega), List.getElem?_tail, List.getElem?_tail]

/-- rlOverlapModel, on levels -/
def overlapG (fl gl : List (List UInt8)) : Bool :=
  [1, fl.length - 1, fl.length, gl.length - 1, gl.length].any fun n => decide (1 ≤ n) && (matches_ fl (cn n fl gl) && matches_ gl (cn n fl gl))

theorem wildL_iff (l : List UInt8) (h : (l == hsh) = false) : wildL l = (l == plus) := by
  unfold wildL
  rw [h, Bool.or_false]

theorem rel_of_mt : ∀ (fs gs nm : List (List UInt8)) (top : Bool), fs ≠ [] → gs ≠ [] → valid fs = true → valid gs = true → mtH fs nm = true → mtH gs nm = true → rel true top fs gs = true
  | [], _, _, _, h, _, _, _, _, _ => absurd rfl h
  | _ :: _, [], _, _, _, h, _, _, _, _ => absurd rfl h
  | a :: fs, b :: gs, nm, top, _, _, hvf, hvg, h1, h2 => by
    rw [rel]
    cases ha : (a == hsh) with
    | true =>
      have hah : a = hsh := by simpa using ha
      subst hah
      rw [valid_hash hvf]
      simp
    | false =>
      simp only [Bool.false_and, Bool.false_eq_true, if_false]
      cases hb : (b == hsh) with
      | true =>
        have hbh : b = hsh := by simpa using hb
        subst hbh
        rw [valid_hash hvg]
        simp
      | false =>
        simp only [Bool.false_and, Bool.false_eq_true, if_false, Bool.true_and]
        cases nm with
        | nil =>
          rw [mtH, ha] at h1
          simp at h1
        | cons n ns =>
          rw [mtH, ha] at h1
          rw [mtH, hb] at h2
          simp only [Bool.false_eq_true, if_false] at h1 h2
          have c1 : (a != plus && a != n) = false := by
            cases hc : (a != plus && a != n) with
            | false => rfl
            | true => rw [hc] at h1; simp at h1
          have c2 : (b != plus && b != n) = false := by
            cases hc : (b != plus && b != n) with
            | false => rfl
            | true => rw [hc] at h2; simp at h2
          rw [c1] at h1
          rw [c2] at h2
          simp only [Bool.false_eq_true, if_false] at h1 h2
          have hc : (a == b || a == plus || b == plus) = true := by
            cases e1 : (a == plus) with
            | true => simp
            | false =>
              cases e2 : (b == plus) with
              | true => simp
              | false =>
                have f1 : a = n := by simpa [bne, e1] using c1
                have f2 : b = n := by simpa [bne, e2] using c2
                simp [f1, f2]
          rw [hc]
          simp only [if_true]
          cases fs with
          | nil =>
            cases gs with
            | nil => rfl
            | cons d ds =>
              have hns : ns = [] := by simpa [mtH] using h1
              rw [hns, mtH_nil _ (valid_tail hvg) (by simp)] at h2
              simpa using h2
          | cons c cs =>
            cases gs with
            | nil =>
              have hns : ns = [] := by simpa [mtH] using h2
              rw [hns, mtH_nil _ (valid_tail hvf) (by simp)] at h1
              simpa using h1
            | cons d ds =>
              simp only [List.isEmpty_cons, Bool.and_self, Bool.false_eq_true, if_false]
              exact rel_of_mt (c :: cs) (d :: ds) ns false (by simp) (by simp) (valid_tail hvf) (valid_tail hvg) h1 h2

def el (fs : List (List UInt8)) : Nat := if hasH fs then fs.length - 1 else fs.length

theorem el_cons {a : List UInt8} {fs : List (List UInt8)} (ha : (a == hsh) = false) : el (a :: fs) = el fs + 1 := by
  unfold el
  cases fs with
  | nil =>
    have h1 : hasH [a] = false := by simpa [hasH] using ha
    have h2 : hasH [] = false := rfl
    rw [h1, h2]
    simp
  | cons c cs =>
    have h1 : hasH (a :: c :: cs) = hasH (c :: cs) := by simp [hasH]
    rw [h1]
    cases hasH (c :: cs) <;> simp

theorem dollar_lit (l : List UInt8) (h : (l.head? == some 36) = true) : wildL l = false := by
  cases l with
  | nil => simp at h
  | cons b l =>
    have hb : b = 36 := by simpa using h
    subst hb
    simp [wildL, plus, hsh]
theorem pick_lit {a : List UInt8} (y : Option (List UInt8)) (wa : wildL a = false) : pick (some a) y = a := by simp [pick, lit, wa]
theorem pick_wild {a b : List UInt8} (wa : wildL a = true) (wb : wildL b = false) : pick (some a) (some b) = b := by simp [pick, lit, wa, wb]
theorem pick_both {a b : List UInt8} (wa : wildL a = true) (wb : wildL b = true) : pick (some a) (some b) = [122] := by simp [pick, lit, wa, wb]
theorem pick_none {b : List UInt8} {x : Option (List UInt8)} (hx : lit x = none) (wb : wildL b = false) : pick x (some b) = b := by
  unfold pick
  rw [hx]
  simp [lit, wb]
theorem mtH_ok {a n : List UInt8} (fs ns : List (List UInt8)) (ha : (a == hsh) = false) (h : (a != plus && a != n) = false) : mtH (a :: fs) (n :: ns) = mtH fs ns := by
  rw [mtH, ha]
  simp only [Bool.false_eq_true, if_false]
  rw [h]
  rfl

/-- the head of the candidate name fits both -/
theorem head_ok {a b : List UInt8} (ha : (a == hsh) = false) (hb : (b == hsh) = false) (hc : (a == b || a == plus || b == plus) = true) :
    (a != plus && a != pick (some a) (some b)) = false ∧ (b != plus && b != pick (some a) (some b)) = false := by
  have wa := wildL_iff a ha
  have wb := wildL_iff b hb
  cases e1 : (a == plus) with
  | true =>
    have ea : a = plus := by simpa using e1
    cases e2 : (b == plus) with
    | true =>
      have eb : b = plus := by simpa using e2
      simp [ea, eb]
    | false =>
      rw [pick_wild (by rw [wa]; exact e1) (by rw [wb]; exact e2)]
      simp [ea]
  | false =>
    rw [pick_lit _ (by rw [wa]; exact e1)]
    refine ⟨by simp, ?_⟩
    cases e2 : (b == plus) with
    | true => simp [bne, e2]
    | false =>
      rw [e1, e2] at hc
      have : a = b := by simpa using hc
      simp [this]

theorem free_left : ∀ (gs x : List (List UInt8)), valid gs = true → (x = [] ∨ x = [hsh]) → mtH gs (cn (el gs) x gs) = true
  | [], x, _, _ => by simp [el, hasH, cn, mtH]
  | b :: gs, x, hv, hx => by
    cases hb : (b == hsh) with
    | true => simp only [mtH, hb, if_true]
    | false =>
      rw [el_cons hb, cn]
      simp only [List.head?_cons, List.tail_cons]
      have hp : (b != plus && b != pick x.head? (some b)) = false := by
        have wb := wildL_iff b hb
        have hl : lit x.head? = none := by rcases hx with h | h <;> subst h <;> rfl
        cases e2 : (b == plus) with
        | true => simp [bne, e2]
        | false =>
          rw [pick_none hl (by rw [wb]; exact e2)]
          simp
      rw [mtH_ok _ _ hb hp]
      exact free_left gs x.tail (valid_tail hv) (by rcases hx with h | h <;> subst h <;> exact .inl rfl)

theorem free_right : ∀ (fs x : List (List UInt8)), valid fs = true → mtH fs (cn (el fs) fs x) = true
  | [], x, _ => by simp [el, hasH, cn, mtH]
  | a :: fs, x, hv => by
    cases ha : (a == hsh) with
    | true => simp only [mtH, ha, if_true]
    | false =>
      rw [el_cons ha, cn]
      simp only [List.head?_cons, List.tail_cons]
      have hp : (a != plus && a != pick (some a) x.head?) = false := by
        have wa := wildL_iff a ha
        cases e1 : (a == plus) with
        | true => simp [bne, e1]
        | false =>
          rw [pick_lit _ (by rw [wa]; exact e1)]
          simp
      rw [mtH_ok _ _ ha hp]
      exact free_right fs x.tail (valid_tail hv)

theorem mt_of_rel : ∀ (fs gs : List (List UInt8)) (top : Bool), fs ≠ [] → gs ≠ [] → valid fs = true → valid gs = true → rel true top fs gs = true →
    ∃ N, (N = el fs ∨ N = el gs) ∧ mtH fs (cn N fs gs) = true ∧ mtH gs (cn N fs gs) = true
  | [], _, _, h, _, _, _, _ => absurd rfl h
  | _ :: _, [], _, _, h, _, _, _ => absurd rfl h
  | a :: fs, b :: gs, top, _, _, hvf, hvg, h => by
    cases ha : (a == hsh) with
    | true =>
      have hah : a = hsh := by simpa using ha
      subst hah
      have hfs := valid_hash hvf
      subst hfs
      exact ⟨_, .inr rfl, by simp [mtH], free_left (b :: gs) [hsh] hvg (.inr rfl)⟩
    | false =>
      cases hb : (b == hsh) with
      | true =>
        have hbh : b = hsh := by simpa using hb
        subst hbh
        have hgs := valid_hash hvg
        subst hgs
        exact ⟨_, .inl rfl, free_right (a :: fs) [hsh] hvf, by simp [mtH]⟩
      | false =>
        rw [rel, ha, hb] at h
        simp only [Bool.false_and, Bool.false_eq_true, if_false, Bool.true_and] at h
        cases hc : (a == b || a == plus || b == plus) with
        | false => rw [hc] at h; simp at h
        | true =>
          rw [hc] at h
          simp only [if_true] at h
          obtain ⟨k1, k2⟩ := head_ok ha hb hc
          cases fs with
          | nil =>
            refine ⟨1, .inl (by rw [el_cons ha]; rfl), ?_, ?_⟩
            · rw [cn]
              simp only [List.head?_cons, List.tail_cons]
              rw [mtH_ok _ _ ha k1]
              rfl
            · rw [cn]
              simp only [List.head?_cons, List.tail_cons]
              rw [mtH_ok _ _ hb k2]
              cases gs with
              | nil => rfl
              | cons d ds =>
                have : (d :: ds) = [hsh] := by simpa using h
                rw [this]
                rfl
          | cons c cs =>
            cases gs with
            | nil =>
              have e1 : (c :: cs) = [hsh] := by simpa using h
              refine ⟨1, .inr (by rw [el_cons hb]; rfl), ?_, ?_⟩
              · rw [cn]
                simp only [List.head?_cons, List.tail_cons]
                rw [mtH_ok _ _ ha k1, e1]
                rfl
              · rw [cn]
                simp only [List.head?_cons, List.tail_cons]
                rw [mtH_ok _ _ hb k2]
                rfl
            | cons d ds =>
              simp only [List.isEmpty_cons, Bool.and_self, Bool.false_eq_true, if_false] at h
              obtain ⟨N, hN, m1, m2⟩ := mt_of_rel (c :: cs) (d :: ds) false (by simp) (by simp) (valid_tail hvf) (valid_tail hvg) h
              refine ⟨N + 1, ?_, ?_, ?_⟩
              · rcases hN with hN | hN
                · exact .inl (by rw [el_cons ha, hN])
                · exact .inr (by rw [el_cons hb, hN])
              · rw [cn]
                simp only [List.head?_cons, List.tail_cons]
                rw [mtH_ok _ _ ha k1]
                exact m1
              · rw [cn]
                simp only [List.head?_cons, List.tail_cons]
                rw [mtH_ok _ _ hb k2]
                exact m2

theorem el_or (fs : List (List UInt8)) : el fs = fs.length - 1 ∨ el fs = fs.length := by
  unfold el
  cases hasH fs <;> simp

theorem overlap (f g : List UInt8) (hvf : valid (lv f) = true) (hvg : valid (lv g) = true) : relate true f g = overlapG (lv f) (lv g) := by
  obtain ⟨a, fs, hf, hdf, hwf⟩ := first_facts f hvf
  obtain ⟨b, gs, hg, hdg, hwg⟩ := first_facts g hvg
  have hfn : lv f ≠ [] := lv_ne f
  have hgn : lv g ≠ [] := lv_ne g
  have hfh : (lv f).headD [] = a := by rw [hf]; rfl
  have hgh : (lv g).headD [] = b := by rw [hg]; rfl
  have hdol : ∀ n, 1 ≤ n → dol (cn n (lv f) (lv g)) = ((pick (some a) (some b)).head? == some 36) := by
    intro n hn
    obtain ⟨m, rfl⟩ : ∃ m, n = m + 1 := ⟨n - 1, by omega⟩
    rw [cn, hf, hg]
    rfl
  unfold relate overlapG
  cases hguard : (dollar g && wild f || dollar f && wild g) with
  | true =>
    simp only [if_true]
    symm
    rw [List.any_eq_false]
    intro n _
    by_cases hn : 1 ≤ n
    · rw [decide_eq_true hn, Bool.true_and]
      rw [Bool.or_eq_true] at hguard
      unfold matches_
      rw [hfh, hgh, hdol n hn]
      rcases hguard with h | h
      · rw [Bool.and_eq_true, hdg, hwf] at h
        have wb : wildL b = false := dollar_lit b h.1
        rw [pick_wild h.2 wb, h.1, h.2]
        simp
      · rw [Bool.and_eq_true, hdf, hwg] at h
        have wa : wildL a = false := dollar_lit a h.1
        rw [pick_lit _ wa, h.1, h.2]
        simp
    · rw [decide_eq_false hn]
      simp
  | false =>
    simp only [Bool.false_eq_true, if_false]
    rw [Bool.or_eq_false_iff] at hguard
    have g1 := hguard.1
    have g2 := hguard.2
    rw [hdg, hwf] at g1
    rw [hdf, hwg] at g2
    have hno : ((pick (some a) (some b)).head? == some 36 && wildL a) = false ∧ ((pick (some a) (some b)).head? == some 36 && wildL b) = false := by
      cases wa : wildL a with
      | false =>
        rw [pick_lit _ wa]
        exact ⟨by simp, g2⟩
      | true =>
        cases wb : wildL b with
        | false =>
          rw [pick_wild wa wb]
          rw [wa] at g1
          exact ⟨g1, by simp⟩
        | true =>
          rw [pick_both wa wb]
          exact ⟨rfl, rfl⟩
    have hm1 : ∀ n, 1 ≤ n → matches_ (lv f) (cn n (lv f) (lv g)) = mtH (lv f) (cn n (lv f) (lv g)) := by
      intro n hn
      unfold matches_
      rw [hfh, hdol n hn, hno.1]
      rfl
    have hm2 : ∀ n, 1 ≤ n → matches_ (lv g) (cn n (lv f) (lv g)) = mtH (lv g) (cn n (lv f) (lv g)) := by
      intro n hn
      unfold matches_
      rw [hgh, hdol n hn, hno.2]
      rfl
    rw [Bool.eq_iff_iff]
    constructor
    · intro h
      rw [List.any_eq_true]
      obtain ⟨N, hN, m1, m2⟩ := mt_of_rel (lv f) (lv g) true hfn hgn hvf hvg h
      by_cases h1 : 1 ≤ N
      · refine ⟨N, ?_, ?_⟩
        · rcases hN with hN | hN
          · rcases el_or (lv f) with e | e <;> rw [e] at hN <;> rw [hN] <;> simp
          · rcases el_or (lv g) with e | e <;> rw [e] at hN <;> rw [hN] <;> simp
        · rw [decide_eq_true h1, hm1 N h1, hm2 N h1, m1, m2]
          rfl
      · have hN0 : N = 0 := by omega
        subst hN0
        rw [cn, mtH_nil _ hvf hfn] at m1
        rw [cn, mtH_nil _ hvg hgn] at m2
        have e1 : lv f = [hsh] := by simpa using m1
        have e2 : lv g = [hsh] := by simpa using m2
        refine ⟨1, by simp, ?_⟩
        rw [hm1 1 (Nat.le_refl _), hm2 1 (Nat.le_refl _), e1, e2]
        rfl
    · intro h
      rw [List.any_eq_true] at h
      obtain ⟨n, _, hn⟩ := h
      rw [Bool.and_eq_true, Bool.and_eq_true] at hn
      have h1 : 1 ≤ n := of_decide_eq_true hn.1
      rw [hm1 n h1, hm2 n h1] at hn
      exact rel_of_mt _ _ _ true hfn hgn hvf hvg hn.2.1 hn.2.2

end Go.Proofs.Qxb6600528a.plain
