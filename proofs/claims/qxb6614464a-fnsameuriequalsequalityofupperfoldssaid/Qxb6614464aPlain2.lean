import Derived.Test.Qxb6614464aPlain
namespace Go.Proofs.Qxb6614464a.plain

def mapO (f : UInt8 → UInt8) (r : Nat × Nat × Nat) (off : Nat) (l : List UInt8) : List UInt8 := l.mapIdx fun i b => if inR r (i + off) then f b else b

theorem mapR_eq (f : UInt8 → UInt8) (r : Nat × Nat × Nat) (u : List UInt8) : mapR f r u = mapO f r 0 u := rfl

theorem mapO_append (f : UInt8 → UInt8) (r : Nat × Nat × Nat) (off : Nat) (x y : List UInt8) : mapO f r off (x ++ y) = mapO f r off x ++ mapO f r (off + x.length) y := by
  unfold mapO
  rw [List.mapIdx_append]
  congr 1
  apply List.ext_getElem
  · simp
  · intro i h1 h2
    simp only [List.getElem_mapIdx]
    rw [show i + x.length + off = i + (off + x.length) from by omega]

theorem mapO_in (f : UInt8 → UInt8) (r : Nat × Nat × Nat) (off : Nat) (l : List UInt8) (h : ∀ i, i < l.length → inR r (i + off) = true) : mapO f r off l = l.map f := by
  unfold mapO
  apply List.ext_getElem
  · simp
  · intro i h1 h2
    simp only [List.getElem_mapIdx, List.getElem_map]
    rw [if_pos (h i (by simpa using h1))]

theorem mapO_out (f : UInt8 → UInt8) (r : Nat × Nat × Nat) (off : Nat) (l : List UInt8) (h : ∀ i, i < l.length → inR r (i + off) = false) : mapO f r off l = l := by
  unfold mapO
  apply List.ext_getElem
  · simp
  · intro i h1 h2
    simp only [List.getElem_mapIdx]
    rw [if_neg (by rw [h i (by simpa using h1)]; simp)]

theorem inR_t {a b c i : Nat} (h : i < a ∨ (b ≤ i ∧ i < c)) : inR (a, b, c) i = true := by simp [inR, h]
theorem inR_f {a b c i : Nat} (h : ¬ (i < a ∨ (b ≤ i ∧ i < c))) : inR (a, b, c) i = false := by simp only [inR]; exact decide_eq_false h

theorem fold_none (u : List UInt8) (h : ¬ u.findIdx isC < u.length) : fold u = u := by
  have hr : reg u = (0, 0, 0) := by unfold reg; rw [if_neg h]
  unfold fold
  rw [hr, mapR_eq]
  exact mapO_out _ _ _ _ fun i hi => inR_f (by omega)

theorem at_find (u : List UInt8) (p : UInt8 → Bool) (h : u.findIdx p < u.length) : p u[u.findIdx p] = true := List.findIdx_getElem (w := h)

theorem split_colon (u : List UInt8) (h : u.findIdx isC < u.length) : u = u.take (u.findIdx isC) ++ ([58] ++ u.drop (u.findIdx isC + 1)) := by
  have h1 := at_find u isC h
  have h2 : u[u.findIdx isC] = 58 := by simpa [isC] using h1
  have h3 : u.drop (u.findIdx isC) = u[u.findIdx isC] :: u.drop (u.findIdx isC + 1) := List.drop_eq_getElem_cons h
  rw [h2] at h3
  rw [List.singleton_append, ← h3, List.take_append_drop]

theorem fold_short (u : List UInt8) (h : u.findIdx isC < u.length) (hs : hasSl u (u.findIdx isC) = false) :
    fold u = (u.take (u.findIdx isC)).map low ++ ([58] ++ u.drop (u.findIdx isC + 1)) := by
  have hr : reg u = (u.findIdx isC, 0, 0) := by
    unfold reg
    rw [if_pos h, hs]
    rfl
  have hsp := split_colon u h
  have hl : (u.take (u.findIdx isC)).length = u.findIdx isC := by rw [List.length_take]; omega
  unfold fold
  rw [hr, mapR_eq]
  generalize u.findIdx isC = c at *
  conv => lhs; rw [hsp]
  rw [mapO_append, mapO_in _ _ _ (u.take c) (fun i hi => inR_t (by omega)), mapO_out _ _ _ ([58] ++ _) (fun i hi => inR_f (by omega))]

theorem slash_at (u : List UInt8) (i : Nat) (h : (u[i]?.getD 0 == 47) = true) : ∃ hi : i < u.length, u[i] = 47 := by
  have h' : u[i]?.getD 0 = 47 := by simpa using h
  by_cases hi : i < u.length
  · refine ⟨hi, ?_⟩
    rw [List.getElem?_eq_getElem hi] at h'
    simpa using h'
  · rw [List.getElem?_eq_none (by omega)] at h'
    simp at h'

theorem drop3 (u : List UInt8) (c : Nat) (hs : hasSl u c = true) : u.drop (c + 1) = [47, 47] ++ u.drop (c + 3) := by
  unfold hasSl at hs
  rw [Bool.and_eq_true] at hs
  obtain ⟨h1, e1⟩ := slash_at u (c + 1) hs.1
  obtain ⟨h2, e2⟩ := slash_at u (c + 2) hs.2
  rw [List.drop_eq_getElem_cons h1, List.drop_eq_getElem_cons h2, e1, e2]
  rfl

theorem fold_long (u : List UInt8) (c e h : Nat) (a : List UInt8) (hc : u.findIdx isC = c) (hlt : c < u.length) (hs : hasSl u c = true) (ha : u.drop (c + 3) = a) (he : a.findIdx isE = e) (hh : lastA (a.take e) = h) :
    fold u = (u.take c).map low ++ ([58, 47, 47] ++ (a.take h ++ (((a.take e).drop h).map low ++ a.drop e))) := by
  have hr : reg u = (c, c + 3 + h, c + 3 + e) := by
    unfold reg
    rw [hc, if_pos hlt, hs, if_pos rfl, ha, he, hh]
  have hsp := split_colon u (by rw [hc]; exact hlt)
  rw [hc, drop3 u c hs, ha] at hsp
  have hel : e ≤ a.length := by rw [← he]; exact List.findIdx_le_length
  have hhe : h ≤ e := by
    have := lastA_le (a.take e)
    rw [hh, List.length_take] at this
    omega
  have hcut : a = a.take h ++ ((a.take e).drop h ++ a.drop e) := by
    rw [← List.append_assoc]
    have : a.take h ++ (a.take e).drop h = a.take e := by
      have h1 : a.take h = (a.take e).take h := by rw [List.take_take, Nat.min_eq_left hhe]
      rw [h1, List.take_append_drop]
    rw [this, List.take_append_drop]
  have hl : (u.take c).length = c := by rw [List.length_take]; omega
  have hl2 : (a.take h).length = h := by rw [List.length_take]; omega
  have hl3 : ((a.take e).drop h).length = e - h := by rw [List.length_drop, List.length_take]; omega
  unfold fold
  rw [hr, mapR_eq]
  have hu : u = u.take c ++ ([58, 47, 47] ++ (a.take h ++ ((a.take e).drop h ++ a.drop e))) := by
    rw [← hcut]
    exact hsp
  conv => lhs; rw [hu]
  rw [mapO_append, mapO_append, mapO_append, mapO_append]
  rw [mapO_in _ _ _ (u.take c) (fun i hi => inR_t (by omega)), mapO_out _ _ _ [58, 47, 47] (fun i hi => inR_f (by simp at hi; omega)),
    mapO_out _ _ _ (a.take h) (fun i hi => inR_f (by simp; omega)), mapO_in _ _ _ ((a.take e).drop h) (fun i hi => inR_t (by simp; omega)),
    mapO_out _ _ _ (a.drop e) (fun i hi => inR_f (by simp; omega))]

end Go.Proofs.Qxb6614464a.plain
