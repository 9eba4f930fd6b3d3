import Derived.Test.Qxb6003812aState
namespace Go.Proofs.Qxb6003812a.chain
open Go.RowKit
open Go.ChangeMaps (setBlock)

abbrev D (r0 : Nat) (ls : List Lev) (j : Nat) : Nat := (dirs r0 ls).getD j 0
abbrev S (ls : List Lev) (j : Nat) : Nat := (ls.map (·.sb)).getD j 0
abbrev Fl (ls : List Lev) (j : Nat) : Nat := (ls.map (·.fb)).getD j 0

theorem D_zero (r0 : Nat) (ls : List Lev) : D r0 ls 0 = r0 := by simp [D, dirs]
theorem D_mem (r0 : Nat) (ls : List Lev) (j : Nat) (h : j ≤ ls.length) : D r0 ls j ∈ dirs r0 ls := by
  have hl : j < (dirs r0 ls).length := by simp [dirs]; omega
  rw [D, List.getD_eq_getElem?_getD, List.getElem?_eq_getElem hl]
  exact List.getElem_mem hl
theorem S_mem (ls : List Lev) (j : Nat) (h : j < ls.length) : S ls j ∈ ls.map (·.sb) := by
  have hl : j < (ls.map (·.sb)).length := by simpa using h
  rw [S, List.getD_eq_getElem?_getD, List.getElem?_eq_getElem hl]
  exact List.getElem_mem hl

/-- the rows: what they hold -/
structure Fa (F : List ByteArray) (a : Option Addr) (bd bs bf bw r0 : Nat) (ls : List Lev) (w : World) : Prop where
  nc : 0 < F.length → ∃ b, a = some ⟨b, 0, none⟩ ∧ b < bd ∧ ∀ j, j < F.length → w.cell? ⟨b, j, none⟩ = some (.string (F.getD j ByteArray.empty))
  lt : bd < bs ∧ bs < bf ∧ bf < bw ∧ bw < w.heap.size
  rd : ∀ j, j ≤ F.length → w.cell? ⟨bd, j, none⟩ = some (ptr (D r0 ls j))
  rs : ∀ j, j < F.length → w.cell? ⟨bs, j, none⟩ = some (ptr (S ls j))
  rf : ∀ j, j < F.length → w.cell? ⟨bf, j, none⟩ = some (ptr (Fl ls j))
  rw_ : ∀ j, j ≤ F.length → w.cell? ⟨bw, j, none⟩ = some (.string (wantB F j))

theorem Fa.kept {F : List ByteArray} {a : Option Addr} {bd bs bf bw r0 : Nat} {ls : List Lev} {w w' : World} (h : Fa F a bd bs bf bw r0 ls w) (k : ∀ b, b ≤ bw → w'.heap[b]? = w.heap[b]?) (hs : w.heap.size ≤ w'.heap.size) : Fa F a bd bs bf bw r0 ls w' := by
  obtain ⟨nc, ⟨l1, l2, l3, l4⟩, rd, rs, rf, rw_⟩ := h
  have kc : ∀ b j, b ≤ bw → w'.cell? ⟨b, j, none⟩ = w.cell? ⟨b, j, none⟩ := fun b j hb => World.cell?_of_block (w := w) (a := ⟨b, j, none⟩) (k b hb)
  refine ⟨fun hp => ?_, ⟨l1, l2, l3, by omega⟩, fun j hj => (kc _ _ (by omega)).trans (rd j hj), fun j hj => (kc _ _ (by omega)).trans (rs j hj), fun j hj => (kc _ _ (by omega)).trans (rf j hj), fun j hj => (kc _ _ (by omega)).trans (rw_ j hj)⟩
  obtain ⟨b, h1, h2, h3⟩ := nc hp
  exact ⟨b, h1, h2, fun j hj => (kc _ _ (by omega)).trans (h3 j hj)⟩

theorem Fa.below {F : List ByteArray} {a : Option Addr} {bd bs bf bw r0 : Nat} {ls : List Lev} {w w' : World} (h : Fa F a bd bs bf bw r0 ls w) (bel : Below w.heap.size w w') : Fa F a bd bs bf bw r0 ls w' :=
  h.kept (fun b hb => bel.block b (by have := h.lt; omega)) bel.size

theorem map_getD (l : List Nat) (j : Nat) (h : j < l.length) : (l.map ptr).getD j .nilIface = ptr (l.getD j 0) := by
  simp [List.getD_eq_getElem?_getD, List.getElem?_eq_getElem h]

theorem St.fa {w0 : World} {F : List ByteArray} {a : Option Addr} {bd bs bf bw r0 : Nat} {ls : List Lev} {w : World} (h : St w0 F a bd bs bf bw r0 F.length ls w) : Fa F a bd bs bf bw r0 ls w := by
  obtain ⟨nc, o0, o1, o2, o3, rd, rs, rf, rw_, ch, nd, lo, len, nm, bel⟩ := h
  refine ⟨nc, ⟨o1, o2, o3, rw_.1⟩, fun j hj => ?_, fun j hj => ?_, fun j hj => ?_, fun j hj => ?_⟩
  · rw [rd.at (j := j) (by simp [dirs]; omega), map_getD _ _ (by simp [dirs]; omega)]
  · rw [rs.at (j := j) (by simp; omega), show (ls.map fun L => ptr L.sb) = (ls.map (·.sb)).map ptr by simp, map_getD _ _ (by simp; omega)]
  · rw [rf.at (j := j) (by simp; omega), show (ls.map fun L => ptr L.fb) = (ls.map (·.fb)).map ptr by simp, map_getD _ _ (by simp; omega)]
  · rw [rw_.at (j := j) (by rw [wants_len]; omega), wants_at F F.length j hj]

/-- the name of the j-th directory -/
theorem nm_dir : ∀ (ls : List Lev) (d : Nat) (j : Nat), (dirs d ls).Nodup → j ≤ ls.length → nm (D d ls j) d ls = some ((ls.take j).map (·.n.data.toList))
  | [], d, j, _, hj => by
    obtain rfl : j = 0 := by simpa using hj
    simp [nm, D, dirs]
  | L :: ls, d, 0, _, _ => by
    simp [nm, D, dirs]
  | L :: ls, d, j + 1, hnd, hj => by
    have e : D d (L :: ls) (j + 1) = D L.db ls j := by simp [D, dirs]
    have hj' : j ≤ ls.length := by simpa using hj
    have hnd' : (dirs L.db ls).Nodup := by
      simp only [dirs, List.map_cons] at hnd ⊢
      exact (List.nodup_cons.1 hnd).2
    have hne : d ≠ D L.db ls j := by
      intro e2
      have hm := D_mem L.db ls j hj'
      rw [← e2] at hm
      simp only [dirs, List.map_cons] at hnd hm
      exact (List.nodup_cons.1 hnd).1 hm
    rw [e]
    simp only [nm, if_neg hne]
    rw [nm_dir ls L.db j hnd' hj']
    simp

theorem nm_stranger (t : Nat) : ∀ (ls : List Lev) (d : Nat), t ∉ dirs d ls → nm t d ls = none
  | [], d, h => by
    simp only [dirs, List.map_nil, List.mem_singleton] at h
    simp [nm, Ne.symm h]
  | L :: ls, d, h => by
    simp only [dirs, List.map_cons, List.mem_cons, not_or] at h
    have ih := nm_stranger t ls L.db (by simp only [dirs, List.mem_cons, not_or]; exact h.2)
    simp only [nm, if_neg (Ne.symm h.1), ih]
    rfl

theorem names_dat {ls : List Lev} {F : List ByteArray} (h : ls.map (·.n) = F) (j : Nat) : (ls.take j).map (·.n.data.toList) = (F.take j).map (·.data.toList) := by
  rw [← h]
  simp [List.map_take, Function.comp_def]

theorem names_at {ls : List Lev} {F : List ByteArray} (h : ls.map (·.n) = F) (j : Nat) (L : Lev) (hL : ls[j]? = some L) : F.getD j ByteArray.empty = L.n := by
  rw [← h]
  simp [List.getD_eq_getElem?_getD, hL]

theorem D_next {r0 : Nat} {ls : List Lev} {j : Nat} {L : Lev} (hL : ls[j]? = some L) : D r0 ls (j + 1) = L.db := by
  simp [D, dirs, List.getD_eq_getElem?_getD, hL]
theorem S_at {ls : List Lev} {j : Nat} {L : Lev} (hL : ls[j]? = some L) : S ls j = L.sb := by
  simp [S, List.getD_eq_getElem?_getD, hL]
theorem Fl_at {ls : List Lev} {j : Nat} {L : Lev} (hL : ls[j]? = some L) : Fl ls j = L.fb := by
  simp [Fl, List.getD_eq_getElem?_getD, hL]

/-- all that the law asks ahead of the detaching -/
structure Be (F : List ByteArray) (r0 : Nat) (ls : List Lev) (w : World) : Prop where
  ch : Chain w r0 ls
  nd : (blks r0 ls).Nodup
  nm : ls.map (·.n) = F
  gd : ∀ x ∈ F, good x.data.toList = true
  tl : F.length + total F ≤ 1000000

theorem Be.below {F : List ByteArray} {r0 : Nat} {ls : List Lev} {w w' : World} (h : Be F r0 ls w) (bel : Below w.heap.size w w') : Be F r0 ls w' := ⟨h.ch.below bel, h.nd, h.nm, h.gd, h.tl⟩

theorem Be.len {F : List ByteArray} {r0 : Nat} {ls : List Lev} {w : World} (h : Be F r0 ls w) : ls.length = F.length := by rw [← h.nm]; simp

theorem Be.lens {F : List ByteArray} {r0 : Nat} {ls : List Lev} {w : World} (h : Be F r0 ls w) : lens ls ≤ 1000000 := by
  have h1 := h.tl
  have h2 := h.nm
  have : ∀ ls : List Lev, chain.lens ls = ls.length + total (ls.map (·.n)) := by
    intro ls
    induction ls with
    | nil => rfl
    | cons L ls ih =>
      simp only [chain.lens, total, List.map_cons, List.sum_cons, List.length_cons] at ih ⊢
      have : L.n.data.toList.length = L.n.size := (Lib.size_eq _).symm
      omega
  rw [this, h2, h.len]
  exact h1

theorem Be.good {F : List ByteArray} {r0 : Nat} {ls : List Lev} {w : World} (h : Be F r0 ls w) : ∀ L ∈ ls, good L.n.data.toList = true := fun L hL => h.gd _ (by rw [← h.nm]; exact List.mem_map.2 ⟨L, hL, rfl⟩)

theorem Be.name {F : List ByteArray} {r0 : Nat} {ls : List Lev} {w : World} (h : Be F r0 ls w) (j : Nat) (hj : j ≤ F.length) :
    Calls Try.prog 13 #[ptr r0, ptr (D r0 ls j)] w fun e w' => e = .returned (.tuple #[.string (wantB F j), .bool true]) ∧ Below w.heap.size w w' := by
  have hm := D_mem r0 ls j (by rw [h.len]; exact hj)
  obtain ⟨ent, hN⟩ := h.ch.dir_nd _ hm
  have hc := name_chain (D r0 ls j) ls r0 w h.ch (noLeaf_dir ls r0 _ h.nd hm) hN.bk h.good h.lens
  rw [nm_dir ls r0 j (dirs_nodup _ _ h.nd) (by rw [h.len]; exact hj), names_dat h.nm] at hc
  exact zname hc

theorem Be.removed {F : List ByteArray} {r0 : Nat} {ls : List Lev} {w : World} (h : Be F r0 ls w) (j : Nat) (hj : j ≤ F.length) :
    Calls Try.prog 14 #[ptr (D r0 ls j)] w fun e w' => e = .returned (.bool false) ∧ w' = w := by
  obtain ⟨ent, hN⟩ := h.ch.dir_nd _ (D_mem r0 ls j (by rw [h.len]; exact hj))
  exact zremoved w _ _ _ _ hN

theorem Be.stranger {F : List ByteArray} {r0 : Nat} {ls : List Lev} {w : World} (h : Be F r0 ls w) (t : Nat) (ht : t ∉ blks r0 ls) (hN : Nd w t DIR none false) :
    Calls Try.prog 13 #[ptr r0, ptr t] w fun e w' => e = .returned (.tuple #[.string ⟨#[]⟩, .bool false]) ∧ Below w.heap.size w w' := by
  have hl : NoLeaf t ls := by
    intro L hL
    have hb : ∀ ls d, ∀ M ∈ ls, M.sb ∈ blks d ls ∧ M.fb ∈ blks d ls := by
      intro ls
      induction ls with
      | nil => intro d M h; cases h
      | cons K ls ih =>
        intro d M h
        rcases List.mem_cons.1 h with rfl | h
        · simp [blks]
        · obtain ⟨x, y⟩ := ih K.db M h
          simp [blks, x, y]
    obtain ⟨x, y⟩ := hb ls r0 L hL
    exact ⟨fun e => ht (e ▸ x), fun e => ht (e ▸ y)⟩
  have hc := name_chain t ls r0 w h.ch hl hN.bk h.good h.lens
  rw [nm_stranger t ls r0 (fun hm => ht (touched_sub _ _ _ (dirs_touched _ _ _ hm)))] at hc
  exact zname hc

theorem Be.child {F : List ByteArray} {r0 : Nat} {ls : List Lev} {w : World} (h : Be F r0 ls w) (j : Nat) (hj : j < F.length) :
    Calls Try.prog 15 #[ptr (D r0 ls j), .string (F.getD j ByteArray.empty)] w fun e w' => e = .returned (.tuple #[ptr (D r0 ls (j + 1)), .nilIface]) ∧ w' = w := by
  have hl : j < ls.length := by rw [h.len]; exact hj
  have hL : ls[j]? = some ls[j] := List.getElem?_eq_getElem hl
  obtain ⟨b, hb, hN, hm, _, _⟩ := h.ch.at j _ hL
  have eD : D r0 ls j = b := by rw [D, List.getD_eq_getElem?_getD, hb]; rfl
  rw [eD, D_next hL, names_at h.nm j _ hL]
  exact zchild_found w b _ _ _ _ _ hN (run_get w _ _ _ _ 0 _ hm (find_name _))

theorem Be.noChild {F : List ByteArray} {r0 : Nat} {ls : List Lev} {w : World} (h : Be F r0 ls w) (j : Nat) (hj : j < F.length) :
    Calls Try.prog 15 #[ptr (D r0 ls j), .string (F.getD j ByteArray.empty ++ ⟨#[33]⟩)] w fun e w' => (∃ x, e = .returned (.tuple #[.pointer none, errno x])) ∧ w' = w := by
  have hl : j < ls.length := by rw [h.len]; exact hj
  have hL : ls[j]? = some ls[j] := List.getElem?_eq_getElem hl
  obtain ⟨b, hb, hN, hm, _, _⟩ := h.ch.at j _ hL
  have eD : D r0 ls j = b := by rw [D, List.getD_eq_getElem?_getD, hb]; rfl
  rw [eD, names_at h.nm j _ hL]
  exact zchild_none w b _ _ _ _ hN (run_get_none w _ _ _ _ hm (find_none _))

/-- all that the law asks behind the detaching -/
structure Af (n r0 : Nat) (ls : List Lev) (w : World) : Prop where
  dn : ∀ j, j ≤ n → Nd w (D r0 ls j) DIR none true
  sn : ∀ j, j < n → Nd w (S ls j) DIR none true
  fn : ∀ j, j < n → Nd w (Fl ls j) 0 none false
  ap : ∀ j, j ≤ n → j ≠ 0 → D r0 ls j ≠ r0

theorem Af.below {n r0 : Nat} {ls : List Lev} {w w' : World} (h : Af n r0 ls w) (bel : Below w.heap.size w w') : Af n r0 ls w' :=
  ⟨fun j hj => (h.dn j hj).of_blk (bel.block _ (h.dn j hj).lt), fun j hj => (h.sn j hj).of_blk (bel.block _ (h.sn j hj).lt), fun j hj => (h.fn j hj).of_blk (bel.block _ (h.fn j hj).lt), h.ap⟩

theorem fb_untouched : ∀ (ls : List Lev) (d : Nat), (blks d ls).Nodup → ∀ M ∈ ls, M.fb ∉ touched d ls
  | [], _, _, M, h => by cases h
  | L :: ls, d, nd, M, hM => by
    have hb : ∀ ls d, ∀ M ∈ ls, M.fb ∈ blks d ls := by
      intro ls
      induction ls with
      | nil => intro d M h; cases h
      | cons K ls ih =>
        intro d M h
        rcases List.mem_cons.1 h with rfl | h
        · simp [blks]
        · simp [blks, ih K.db M h]
    have hsub := touched_sub ls L.db
    simp only [blks, List.nodup_cons, List.mem_cons, not_or] at nd
    obtain ⟨⟨a1, a2, a3, a4⟩, ⟨b1, b2, b3⟩, ⟨c1, c2⟩, e1, nd'⟩ := nd
    simp only [touched, List.mem_cons, not_or]
    rcases List.mem_cons.1 hM with rfl | hM
    · exact ⟨Ne.symm a3, Ne.symm c1, fun h => e1 (hsub _ h)⟩
    · have := hb ls L.db M hM
      exact ⟨fun e => a4 (e ▸ this), fun e => c2 (e ▸ this), fb_untouched ls L.db nd' M hM⟩

theorem Be.detached {F : List ByteArray} {r0 : Nat} {ls : List Lev} {w w' : World} {B : Nat} (h : Be F r0 ls w) (d : Det B (touched r0 ls) w w') : Af F.length r0 ls w' := by
  obtain ⟨d1, d2, _⟩ := d
  refine ⟨fun j hj => d1 _ (dirs_touched _ _ _ (D_mem r0 ls j (by rw [h.len]; exact hj))), fun j hj => d1 _ (sides_touched _ _ _ (S_mem ls j (by rw [h.len]; exact hj))), fun j hj => ?_, fun j hj h0 => ?_⟩
  · have hl : j < ls.length := by rw [h.len]; exact hj
    have hL : ls[j]? = some ls[j] := List.getElem?_eq_getElem hl
    obtain ⟨b, hb, hN, hm, _, hf⟩ := h.ch.at j _ hL
    rw [Fl_at hL]
    exact hf.of_blk (d2 _ hf.lt (fb_untouched ls r0 h.nd _ (List.getElem_mem hl)))
  · have hl : j < (dirs r0 ls).length := by simp [dirs, h.len]; omega
    have nd := dirs_nodup _ _ h.nd
    intro e
    have e1 : (dirs r0 ls)[j] = (dirs r0 ls)[0]'(by omega) := by
      rw [D, List.getD_eq_getElem?_getD, List.getElem?_eq_getElem hl] at e
      simpa [dirs] using e
    exact h0 ((List.getElem_inj nd).1 e1)

theorem Af.name {n r0 : Nat} {ls : List Lev} {w : World} (h : Af n r0 ls w) (j : Nat) (hj : j ≤ n) :
    Calls Try.prog 13 #[ptr r0, ptr (D r0 ls j)] w fun e w' => e = .returned (.tuple #[.string (if j = 0 then ⟨#[47]⟩ else ⟨#[]⟩), .bool (decide (j = 0))]) ∧ Below w.heap.size w w' := by
  by_cases h0 : j = 0
  · subst h0
    rw [D_zero]
    simp only [if_true, decide_true]
    exact zname ((name_same w r0).mono fun e w' ⟨h1, h2⟩ => ⟨h1, by rw [h2]; exact Below.refl _ _⟩)
  · have hr := h.dn 0 (by omega)
    rw [D_zero] at hr
    simp only [if_neg h0, decide_eq_false h0]
    exact zname (name_leaf w r0 _ (Ne.symm (h.ap j hj h0)) DIR true hr (h.dn j hj).bk)

end Go.Proofs.Qxb6003812a.chain
