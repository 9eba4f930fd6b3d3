import Derived.Test.Qxb6600528aPlain
namespace Go.Proofs.Qxb6600528a.plain

def wildL (l : List UInt8) : Bool := l == plus || l == hsh

/-- rlMatch's loop, on levels -/
def mtH : List (List UInt8) → List (List UInt8) → Bool
  | [], nm => nm.isEmpty
  | a :: fs, nm => if a == hsh then true else
    match nm with
    | [] => false
    | n :: ns => if a != plus && a != n then false else mtH fs ns

/-- does the first level begin with a dollar sign? -/
def dol (nm : List (List UInt8)) : Bool := (nm.headD []).head? == some 36

def matches_ (fl nm : List (List UInt8)) : Bool := if dol nm && wildL (fl.headD []) then false else mtH fl nm

def okL (l : List UInt8) (last : Bool) : Bool := (!l.contains 35 || (l == hsh && last)) && (!l.contains 43 || l == plus)
def valid : List (List UInt8) → Bool
  | [] => true
  | l :: ls => okL l ls.isEmpty && valid ls

theorem valid_tail {a : List UInt8} {fs : List (List UInt8)} (h : valid (a :: fs) = true) : valid fs = true := by
  rw [valid, Bool.and_eq_true] at h
  exact h.2

theorem valid_hash {fs : List (List UInt8)} (h : valid (hsh :: fs) = true) : fs = [] := by
  rw [valid, Bool.and_eq_true] at h
  have h1 := h.1
  unfold okL at h1
  cases fs with
  | nil => rfl
  | cons c cs => simp [hsh] at h1

/-- '#' can only stand alone at the end -/
theorem eq_hash {fs : List (List UInt8)} (h : valid fs = true) (hh : fs.head? = some hsh) : fs = [hsh] := by
  cases fs with
  | nil => simp at hh
  | cons a fs =>
    simp at hh
    subst hh
    rw [valid_hash h]

def bz (z l : List UInt8) : List UInt8 := if l == plus then z else l

/-- the names that stand for all names of g -/
def names (z : List UInt8) : List (List UInt8) → List (List (List UInt8))
  | [] => [[]]
  | b :: gs => if gs.isEmpty then (if b == hsh then [[], [z], [z, z]] else [[bz z b]]) else (names z gs).map (bz z b :: ·)

theorem names_ne (z : List UInt8) : ∀ gs, names z gs ≠ []
  | [] => by simp [names]
  | b :: gs => by
    rw [names]
    cases gs with
    | nil => simp only [List.isEmpty_nil, if_true]; split <;> simp
    | cons c cs =>
      simp only [List.isEmpty_cons, Bool.false_eq_true, if_false]
      intro h
      exact names_ne z (c :: cs) (List.map_eq_nil_iff.1 h)

theorem all_cons_f {fs : List (List UInt8)} {a b : List UInt8} (ha : (a == hsh) = false) (h : (a != plus && a != b) = true) (ns : List (List (List UInt8))) (hn : ns ≠ []) : (ns.map (b :: ·)).all (mtH (a :: fs)) = false := by
  cases ns with
  | nil => exact absurd rfl hn
  | cons x xs =>
    simp only [List.map_cons, List.all_cons]
    rw [mtH, ha]
    simp only [Bool.false_eq_true, if_false]
    rw [h]
    rfl

theorem all_cons_t {fs : List (List UInt8)} {a b : List UInt8} (ha : (a == hsh) = false) (h : (a != plus && a != b) = false) (ns : List (List (List UInt8))) : (ns.map (b :: ·)).all (mtH (a :: fs)) = ns.all (mtH fs) := by
  rw [List.all_map]
  congr 1
  funext x
  show mtH (a :: fs) (b :: x) = mtH fs x
  rw [mtH, ha]
  simp only [Bool.false_eq_true, if_false]
  rw [h]
  rfl

theorem mtH_nil (fs : List (List UInt8)) (hv : valid fs = true) (hne : fs ≠ []) : mtH fs [] = (fs == [hsh]) := by
  cases fs with
  | nil => exact absurd rfl hne
  | cons a fs =>
    rw [mtH]
    cases ha : (a == hsh) with
    | true =>
      have : a = hsh := by simpa using ha
      subst this
      rw [valid_hash hv]
      rfl
    | false =>
      have h2 : ((a :: fs) == [hsh]) = false := by
        rw [beq_eq_false_iff_ne]
        intro h
        injection h with h1
        subst h1
        simp at ha
      rw [h2]
      rfl

theorem all_nil_f (ns : List (List (List UInt8))) (h : ∃ x ∈ ns, x ≠ []) : ns.all (mtH []) = false := by
  obtain ⟨x, hx, hne⟩ := h
  rw [List.all_eq_false]
  refine ⟨x, hx, ?_⟩
  rw [mtH]
  cases x with
  | nil => exact absurd rfl hne
  | cons _ _ => simp

theorem names_long (z : List UInt8) : ∀ gs, gs ≠ [] → ∃ x ∈ names z gs, x ≠ []
  | [], h => absurd rfl h
  | b :: gs, _ => by
    rw [names]
    cases gs with
    | nil =>
      simp only [List.isEmpty_nil, if_true]
      split
      · exact ⟨[z], by simp, by simp⟩
      · exact ⟨[bz z b], by simp, by simp⟩
    | cons c cs =>
      simp only [List.isEmpty_cons, Bool.false_eq_true, if_false]
      obtain ⟨x, hx, _⟩ := names_long z (c :: cs) (by simp)
      exact ⟨bz z b :: x, List.mem_map.2 ⟨x, hx, rfl⟩, by simp⟩

theorem head_test (z a b : List UInt8) (hz : a ≠ z) : (a != plus && a != bz z b) = !(a == b || a == plus) := by
  unfold bz
  by_cases hb : b = plus
  · subst hb
    have h1 : (a != z) = true := by simpa using hz
    simp only [beq_self_eq_true, if_true, h1, Bool.and_true, Bool.or_self]
    rfl
  · have h1 : (b == plus) = false := by simpa using hb
    rw [h1]
    simp only [Bool.false_eq_true, if_false]
    cases h2 : a == b <;> cases h3 : a == plus <;> simp [bne, h2, h3]

/-- a filter below the top covers g exactly where it takes all the names that stand for g's -/
theorem cover_core (z : List UInt8) : ∀ (fs gs : List (List UInt8)), fs ≠ [] → gs ≠ [] → valid fs = true → valid gs = true → z ∉ fs →
    rel false false fs gs = (names z gs).all (mtH fs)
  | [], _, h, _, _, _, _ => absurd rfl h
  | _ :: _, [], _, h, _, _, _ => absurd rfl h
  | a :: fs, b :: gs, _, _, hvf, hvg, hz => by
    have haz : a ≠ z := fun h => hz (by rw [h]; exact List.mem_cons_self)
    have hzt : z ∉ fs := fun h => hz (List.mem_cons_of_mem _ h)
    rw [rel]
    cases ha : (a == hsh) with
    | true =>
      have hah : a = hsh := by simpa using ha
      subst hah
      rw [valid_hash hvf]
      simp only [List.isEmpty_nil, Bool.and_self, if_true]
      symm
      rw [List.all_eq_true]
      intro x _
      cases x <;> simp [mtH]
    | false =>
      simp only [Bool.false_and, Bool.false_eq_true, if_false]
      cases hb : (b == hsh) with
      | true =>
        have hbh : b = hsh := by simpa using hb
        subst hbh
        rw [valid_hash hvg]
        simp only [List.isEmpty_nil, Bool.and_self, if_true, Bool.or_false]
        rw [names]
        simp only [List.isEmpty_nil, if_true, beq_self_eq_true, List.all_cons]
        rw [mtH, ha]
        simp
      | false =>
        simp only [Bool.false_and, Bool.false_eq_true, if_false, Bool.or_false]
        have hht := head_test z a b haz
        cases hc : (a == b || a == plus) with
        | false =>
          rw [hc] at hht
          simp only [Bool.false_eq_true, if_false]
          rw [names]
          cases gs with
          | nil =>
            simp only [List.isEmpty_nil, if_true, hb, Bool.false_eq_true, if_false]
            exact (all_cons_f ha hht [[]] (by simp)).symm
          | cons d ds =>
            simp only [List.isEmpty_cons, Bool.false_eq_true, if_false]
            exact (all_cons_f ha hht _ (names_ne z _)).symm
        | true =>
          rw [hc] at hht
          simp only [if_true]
          rw [names]
          cases gs with
          | nil =>
            simp only [List.isEmpty_nil, if_true, hb, Bool.false_eq_true, if_false, Bool.and_true]
            have h2 := all_cons_t (fs := fs) ha hht [[]]
            simp only [List.map_cons, List.map_nil] at h2
            rw [h2]
            cases fs with
            | nil => simp [mtH]
            | cons c cs =>
              simp only [List.isEmpty_cons, Bool.false_eq_true, if_false, List.all_cons, List.all_nil, Bool.and_true]
              rw [mtH_nil _ (valid_tail hvf) (by simp)]
          | cons d ds =>
            simp only [List.isEmpty_cons, Bool.false_eq_true, if_false, Bool.and_false]
            rw [all_cons_t ha hht]
            cases fs with
            | nil =>
              simp only [List.isEmpty_nil, if_true]
              rw [all_nil_f _ (names_long z (d :: ds) (by simp))]
            | cons c cs =>
              simp only [List.isEmpty_cons, Bool.false_eq_true, if_false]
              exact cover_core z (c :: cs) (d :: ds) (by simp) (by simp) (valid_tail hvf) (valid_tail hvg) hzt


def baseOf (z : List UInt8) (gs : List (List UInt8)) : List (List UInt8) := gs.map (bz z)
def hasH (gs : List (List UInt8)) : Bool := gs.getLast? == some hsh

theorem names_plain (z : List UInt8) : ∀ gs, gs ≠ [] → hasH gs = false → names z gs = [baseOf z gs]
  | [], h, _ => absurd rfl h
  | b :: gs, _, h => by
    rw [names]
    cases gs with
    | nil =>
      have hb : (b == hsh) = false := by simpa [hasH] using h
      simp [hb, baseOf]
    | cons c cs =>
      have ih := names_plain z (c :: cs) (by simp) (by simpa [hasH] using h)
      simp only [List.isEmpty_cons, Bool.false_eq_true, if_false]
      rw [ih]
      rfl

theorem names_hash (z : List UInt8) : ∀ gs, gs ≠ [] → hasH gs = true → names z gs = [0, 1, 2].map fun e => (baseOf z gs).take (gs.length - 1) ++ List.replicate e z
  | [], h, _ => absurd rfl h
  | b :: gs, _, h => by
    rw [names]
    cases gs with
    | nil =>
      have hb : (b == hsh) = true := by simpa [hasH] using h
      simp [hb]
    | cons c cs =>
      have ih := names_hash z (c :: cs) (by simp) (by simpa [hasH] using h)
      simp only [List.isEmpty_cons, Bool.false_eq_true, if_false]
      rw [ih]
      simp [baseOf]

/-- rlCoversModel, on levels -/
def coversG (fl gl : List (List UInt8)) (z : List UInt8) : Bool :=
  if hasH gl then [0, 1, 2].all fun e => (gl.length - 1 + e == 0) || matches_ fl ((baseOf z gl).take (gl.length - 1) ++ List.replicate e z)
  else matches_ fl (baseOf z gl)

/-- what rlMatch is asked of: at the top the empty name is passed over -/
theorem rel_top (z : List UInt8) (fs gs : List (List UInt8)) (hf : fs ≠ []) (hg : gs ≠ []) (hvf : valid fs = true) (hvg : valid gs = true) (hz : z ∉ fs) :
    rel false true fs gs = (names z gs).all fun nm => nm.isEmpty || mtH fs nm := by
  by_cases hgh : gs = [hsh]
  · subst hgh
    rw [names]
    simp only [List.isEmpty_nil, if_true, beq_self_eq_true, List.all_cons, Bool.true_or, List.isEmpty_cons, Bool.false_or, List.all_nil, Bool.and_true, Bool.true_and]
    cases fs with
    | nil => exact absurd rfl hf
    | cons a fs =>
      have haz : a ≠ z := fun h => hz (by rw [h]; exact List.mem_cons_self)
      have hzt : z ∉ fs := fun h => hz (List.mem_cons_of_mem _ h)
      rw [rel]
      cases ha : (a == hsh) with
      | true =>
        have hah : a = hsh := by simpa using ha
        subst hah
        rw [valid_hash hvf]
        simp [mtH]
      | false =>
        simp only [Bool.false_and, Bool.false_eq_true, if_false, beq_self_eq_true, List.isEmpty_nil, Bool.and_self, if_true, Bool.false_or, Bool.true_and]
        have h1 : (a != z) = true := by simpa using haz
        cases hp : (a == plus) with
        | false =>
          have hp' : (a != plus) = true := by simp [bne, hp]
          simp [mtH, ha, hp', h1]
        | true =>
          have hp' : (a != plus) = false := by simp [bne, hp]
          simp only [mtH, ha, hp', Bool.false_and, Bool.false_eq_true, if_false, Bool.true_and]
          cases fs with
          | nil => simp [mtH]
          | cons c cs =>
            rw [mtH_nil _ (valid_tail hvf) (by simp)]
            cases hc : ((c :: cs) == [hsh]) with
            | false => simp
            | true =>
              have : (c :: cs) = [hsh] := by simpa using hc
              rw [this]
              simp [mtH]
  · have hne : ∀ nm ∈ names z gs, nm.isEmpty = false := by
      cases gs with
      | nil => exact absurd rfl hg
      | cons b gs =>
        rw [names]
        cases gs with
        | nil =>
          have hb : (b == hsh) = false := by
            rw [beq_eq_false_iff_ne]
            intro h
            exact hgh (by rw [h])
          simp [hb]
        | cons c cs =>
          simp only [List.isEmpty_cons, Bool.false_eq_true, if_false]
          intro nm hnm
          obtain ⟨x, _, rfl⟩ := List.mem_map.1 hnm
          rfl
    have h1 : ((names z gs).all fun nm => nm.isEmpty || mtH fs nm) = (names z gs).all (mtH fs) := by
      rw [Bool.eq_iff_iff, List.all_eq_true, List.all_eq_true]
      constructor
      · intro h x hx
        have := h x hx
        rw [hne x hx] at this
        exact this
      · intro h x hx
        rw [hne x hx]
        exact h x hx
    rw [h1, ← cover_core z fs gs hf hg hvf hvg hz]
    cases fs with
    | nil => exact absurd rfl hf
    | cons a fs =>
      cases gs with
      | nil => exact absurd rfl hg
      | cons b gs =>
        rw [rel, rel]
        cases hb : (b == hsh && gs.isEmpty) with
        | false => simp
        | true =>
          rw [Bool.and_eq_true] at hb
          have e1 : b = hsh := by simpa using hb.1
          have e2 : gs = [] := by simpa using hb.2
          exact absurd (by rw [e1, e2]) hgh

theorem okL_wild {l : List UInt8} {last : Bool} (h : okL l last = true) : wild l = wildL l := by
  unfold okL at h
  unfold wild wildL
  cases l with
  | nil => rfl
  | cons b l =>
    simp only [List.head?_cons]
    by_cases h1 : b = 43
    · subst h1
      rw [Bool.and_eq_true] at h
      have h2 := h.2
      have e : (43 :: l : List UInt8) = plus := by simpa using h2
      rw [e]
      rfl
    · by_cases h2 : b = 35
      · subst h2
        rw [Bool.and_eq_true] at h
        have h3 := h.1
        have e : (35 :: l : List UInt8) = hsh := by
          simp at h3
          exact h3.1
        rw [e]
        rfl
      · have e1 : (some b == some (43 : UInt8)) = false := by simpa using h1
        have e2 : (some b == some (35 : UInt8)) = false := by simpa using h2
        have e3 : ((b :: l : List UInt8) == plus) = false := by simp [plus, h1]
        have e4 : ((b :: l : List UInt8) == hsh) = false := by simp [hsh, h2]
        rw [e1, e2, e3, e4]

theorem lv_head (f : List UInt8) : ∃ a fs, lv f = a :: fs ∧ (a = [] ∨ a.head? = f.head?) ∧ (a = [] → dollar f = false ∧ wild f = false) := by
  cases f with
  | nil => exact ⟨[], [], rfl, .inl rfl, fun _ => ⟨rfl, rfl⟩⟩
  | cons b l =>
    rw [lv]
    by_cases hb : b = 47
    · subst hb
      exact ⟨[], lv l, rfl, .inl rfl, fun _ => ⟨rfl, rfl⟩⟩
    · have : (b == 47) = false := by simpa using hb
      rw [this]
      simp only [Bool.false_eq_true, if_false]
      split
      · exact ⟨[b], [], rfl, .inr rfl, fun h => by simp at h⟩
      · exact ⟨_, _, rfl, .inr rfl, fun h => by simp at h⟩

theorem first_facts (f : List UInt8) (hv : valid (lv f) = true) : ∃ a fs, lv f = a :: fs ∧ dollar f = (a.head? == some 36) ∧ wild f = wildL a := by
  obtain ⟨a, fs, h1, h2, h3⟩ := lv_head f
  rw [h1, valid, Bool.and_eq_true] at hv
  refine ⟨a, fs, h1, ?_, ?_⟩
  · by_cases ha : a = []
    · rw [(h3 ha).1, ha]
      rfl
    · rcases h2 with h2 | h2
      · exact absurd h2 ha
      · unfold dollar
        rw [h2]
  · by_cases ha : a = []
    · rw [(h3 ha).2, ha]
      rfl
    · rcases h2 with h2 | h2
      · exact absurd h2 ha
      · have : wild f = wild a := by unfold wild; rw [h2]
        rw [this, okL_wild hv.1]

theorem lv_len : ∀ (f : List UInt8), ∀ l ∈ lv f, l.length ≤ f.length
  | [], l, h => by simp [lv] at h; simp [h]
  | b :: f, l, h => by
    have ih := lv_len f
    rw [lv] at h
    split at h
    · rcases List.mem_cons.1 h with h | h
      · simp [h]
      · have := ih l h; simp; omega
    · split at h
      · simp at h; simp [h]
      · rename_i x t heq
        rcases List.mem_cons.1 h with h | h
        · have := ih x (by rw [heq]; exact List.mem_cons_self)
          simp [h]; omega
        · have := ih l (by rw [heq]; exact List.mem_cons_of_mem _ h)
          simp; omega

def fresh (f : List UInt8) : List UInt8 := List.replicate (f.length + 1) 122
theorem fresh_not (f : List UInt8) : fresh f ∉ lv f := by
  intro h
  have := lv_len f _ h
  simp [fresh] at this
  omega
theorem fresh_head (f : List UInt8) : (fresh f).head? = some 122 := by
  rw [fresh, List.replicate_succ]
  rfl

theorem all_congr' {p q : List (List UInt8) → Bool} (l : List (List (List UInt8))) (h : ∀ x ∈ l, p x = q x) : l.all p = l.all q := by
  induction l with
  | nil => rfl
  | cons x xs ih =>
    rw [List.all_cons, List.all_cons, h x List.mem_cons_self, ih fun y hy => h y (List.mem_cons_of_mem _ hy)]


theorem covers_names (fl gl : List (List UInt8)) (z : List UInt8) (hg : gl ≠ []) : coversG fl gl z = (names z gl).all fun nm => nm.isEmpty || matches_ fl nm := by
  unfold coversG
  cases hh : hasH gl with
  | false =>
    rw [names_plain z gl hg hh]
    have : (baseOf z gl).isEmpty = false := by
      cases gl with
      | nil => exact absurd rfl hg
      | cons _ _ => rfl
    simp [this]
  | true =>
    rw [names_hash z gl hg hh, List.all_map]
    simp only [if_true]
    congr 1
    funext e
    have hl : (baseOf z gl).length = gl.length := by simp [baseOf]
    have : ((baseOf z gl).take (gl.length - 1) ++ List.replicate e z).isEmpty = (gl.length - 1 + e == 0) := by
      rw [Bool.eq_iff_iff, List.isEmpty_iff_length_eq_zero, List.length_append, List.length_take, List.length_replicate, hl, beq_iff_eq]
      omega
    simp only [Function.comp]
    rw [this]

theorem names_head (z b : List UInt8) (gs : List (List UInt8)) (h : b :: gs ≠ [hsh]) : ∀ nm ∈ names z (b :: gs), ∃ r, nm = bz z b :: r := by
  intro nm hnm
  rw [names] at hnm
  cases gs with
  | nil =>
    have hb : (b == hsh) = false := by
      rw [beq_eq_false_iff_ne]
      intro hb
      exact h (by rw [hb])
    simp [hb] at hnm
    exact ⟨[], hnm⟩
  | cons c cs =>
    simp only [List.isEmpty_cons, Bool.false_eq_true, if_false] at hnm
    obtain ⟨x, _, rfl⟩ := List.mem_map.1 hnm
    exact ⟨x, rfl⟩

theorem cover (f g : List UInt8) (hvf : valid (lv f) = true) (hvg : valid (lv g) = true) : relate false f g = coversG (lv f) (lv g) (fresh f) := by
  obtain ⟨a, fs, hf, hdf, hwf⟩ := first_facts f hvf
  obtain ⟨b, gs, hg, hdg, hwg⟩ := first_facts g hvg
  have hz := fresh_not f
  have hzh := fresh_head f
  generalize fresh f = z at *
  have hfn : lv f ≠ [] := lv_ne f
  have hgn : lv g ≠ [] := lv_ne g
  rw [covers_names _ _ _ hgn]
  have htop := rel_top z (lv f) (lv g) hfn hgn hvf hvg hz
  unfold relate
  rw [htop]
  clear htop
  have haz : a ≠ z := fun h => hz (by rw [hf, h]; exact List.mem_cons_self)
  have hhd : (lv f).headD [] = a := by rw [hf]; rfl
  -- the head of a name
  have hhead : ∀ nm ∈ names z (lv g), nm = [] ∨ (∃ r, nm = z :: r) ∨ (∃ r, nm = b :: r ∧ b ≠ plus) := by
    intro nm hnm
    rw [hg] at hnm
    by_cases hgh : b :: gs = [hsh]
    · rw [hgh, names] at hnm
      simp at hnm
      rcases hnm with h | h | h
      · exact .inl h
      · exact .inr (.inl ⟨[], h⟩)
      · exact .inr (.inl ⟨[z], h⟩)
    · obtain ⟨r, hr⟩ := names_head z b gs hgh nm hnm
      unfold bz at hr
      by_cases hb : b = plus
      · rw [hb] at hr
        exact .inr (.inl ⟨r, by simpa using hr⟩)
      · have : (b == plus) = false := by simpa using hb
        rw [this] at hr
        exact .inr (.inr ⟨r, by simpa using hr, hb⟩)
  have hdz : ∀ r, dol (z :: r) = false := by
    intro r
    unfold dol
    rw [List.headD_cons, hzh]
    rfl
  obtain ⟨x0, hx0, hx0n⟩ := names_long z (lv g) hgn
  cases hguard : (dollar g && wild f || dollar f && wild g) with
  | false =>
    simp only [Bool.false_eq_true, if_false]
    refine all_congr' _ fun nm hnm => ?_
    have hd : (dol nm && wildL ((lv f).headD [])) = false := by
      rw [hhd]
      rcases hhead nm hnm with h | ⟨r, h⟩ | ⟨r, h, hb⟩
      · rw [h]; rfl
      · rw [h, hdz]; rfl
      · rw [Bool.or_eq_false_iff] at hguard
        have h1 := hguard.1
        rw [hdg, hwf] at h1
        rw [h]
        exact h1
    unfold matches_
    rw [hd]
    rfl
  | true =>
    simp only [if_true]
    symm
    rw [List.all_eq_false]
    refine ⟨x0, hx0, ?_⟩
    have hne : x0.isEmpty = false := by
      cases x0 with
      | nil => exact absurd rfl hx0n
      | cons _ _ => rfl
    rw [hne, Bool.false_or]
    rw [Bool.or_eq_true] at hguard
    unfold matches_
    rw [hhd]
    cases hd : (dol x0 && wildL a) with
    | true => simp
    | false =>
      simp only [Bool.false_eq_true, if_false]
      rcases hguard with h | h
      · -- g begins with a dollar sign, f with a wildcard
        rw [Bool.and_eq_true, hdg, hwf] at h
        rw [h.2, Bool.and_true] at hd
        have hbp : b ≠ plus := by
          intro hb
          rw [hb] at h
          simp [plus] at h
        have hbh : b :: gs ≠ [hsh] := by
          intro hb
          injection hb with hb1
          rw [hb1] at h
          simp [hsh] at h
        obtain ⟨r, hr⟩ := names_head z b gs hbh x0 (by rw [← hg]; exact hx0)
        have : (b == plus) = false := by simpa using hbp
        unfold bz at hr
        rw [this] at hr
        rw [hr] at hd
        have hd' : (b.head? == some 36) = false := hd
        rw [h.1] at hd'
        cases hd'
      · -- f begins with a dollar sign, g with a wildcard
        rw [Bool.and_eq_true, hdf, hwg] at h
        have hah : (a == hsh) = false := by
          rw [beq_eq_false_iff_ne]
          intro ha
          rw [ha] at h
          simp [hsh] at h
        have hap : (a != plus) = true := by
          rw [bne_iff_ne]
          intro ha
          rw [ha] at h
          simp [plus] at h
        have haz' : (a != z) = true := by simpa using haz
        have hzr : ∃ r, x0 = z :: r := by
          rcases hhead x0 hx0 with h1 | h1 | ⟨r, h1, hb⟩
          · exact absurd h1 hx0n
          · exact h1
          · exfalso
            have hw := h.2
            unfold wildL at hw
            have : (b == plus) = false := by simpa using hb
            rw [this, Bool.false_or] at hw
            have hbh : b = hsh := by simpa using hw
            have hgs : gs = [] := by
              rw [hg, hbh] at hvg
              exact valid_hash hvg
            rw [hg, hbh, hgs, names] at hx0
            simp at hx0
            rw [h1, hbh] at hx0
            rcases hx0 with hx | hx | hx
            · simp at hx
            · injection hx with hx1
              rw [← hx1] at hzh
              simp [hsh] at hzh
            · injection hx with hx1
              rw [← hx1] at hzh
              simp [hsh] at hzh
        obtain ⟨r, hr⟩ := hzr
        rw [hr, hf, mtH, hah]
        simp [hap, haz']

end Go.Proofs.Qxb6600528a.plain
