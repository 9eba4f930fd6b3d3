import Derived.Test.Qxb6003812aName
namespace Go.Proofs.Qxb6003812a.chain
open Go.RowKit
open Go.ChangeMaps (setBlock)

set_option maxHeartbeats 4000000 in
set_option maxRecDepth 100000 in
theorem name_step (t : Nat) (L : Lev) (ls : List Lev) (d : Nat) (w : World) (hdt : d ≠ t) (hd : Nd w d DIR (some L.mb) false) (hm : w.heap[L.mb]? = some (.map (ents L) 3))
    (hs : Nd w L.sb DIR none false) (hf : Nd w L.fb 0 none false) (ht : ∃ c, w.heap[t]? = some (.cells c 64 (0, 0))) (hst : L.sb ≠ t) (hft : L.fb ≠ t)
    (hg : good L.n.data.toList = true) (hgs : ∀ M ∈ ls, good M.n.data.toList = true) (hl : lens (L :: ls) ≤ 1000000)
    (ih : ∀ w', Below w.heap.size w w' → Calls Try.prog 32 #[ptr L.db, ptr t] w' fun e w'' => e = .returned (ans (nm t L.db ls)) ∧ Below w'.heap.size w' w'') :
    Calls Try.prog 32 #[ptr d, ptr t] w fun e w' => e = .returned (ans ((nm t L.db ls).map (L.n.data.toList :: ·))) ∧ Below w.heap.size w w' := by
  have hq := ptr_ne w d t hdt hd.bk ht
  have c8 := hd.c8
  have hr := run_range_map (P := Try.prog) w 62 9 27 L.mb (ents L) 3 Try.underlying62 hm
  have tlt : t < w.heap.size := by
    obtain ⟨c, hc⟩ := ht
    exact (Array.getElem?_eq_some_iff.1 hc).1
  have HS : Hid (∀ w', Below w.heap.size w w' → Calls Try.prog 32 #[ptr L.sb, ptr t] w' fun e w'' => e = .returned (.tuple #[.string ⟨#[]⟩, .bool false]) ∧ Below w'.heap.size w' w'') :=
    fun w' b => name_leaf w' L.sb t hst DIR false (hs.of_blk (b.block _ hs.lt)) (by rw [b.block _ tlt]; exact ht)
  have HF : Hid (∀ w', Below w.heap.size w w' → Calls Try.prog 32 #[ptr L.fb, ptr t] w' fun e w'' => e = .returned (.tuple #[.string ⟨#[]⟩, .bool false]) ∧ Below w'.heap.size w' w'') :=
    fun w' b => name_leaf w' L.fb t hft 0 false (hf.of_blk (b.block _ hf.lt)) (by rw [b.block _ tlt]; exact ht)
  have HI : Hid (∀ w', Below w.heap.size w w' → Calls Try.prog 32 #[ptr L.db, ptr t] w' fun e w'' => e = .returned (ans (nm t L.db ls)) ∧ Below w'.heap.size w' w'') := ih
  have hgn : ∀ ns, nm t L.db ls = some ns → (∀ e ∈ ns, good e = true) ∧ L.n.data.toList.length + (path ns).length ≤ 100000000 := fun ns h => by
    refine ⟨nm_good t ls L.db ns h hgs, ?_⟩
    have h1 := nm_lens t ls L.db ns h
    have h2 := path_len ns
    simp only [lens, List.map_cons, List.sum_cons] at hl h1
    omega
  have HG : Hid (∀ ns, nm t L.db ls = some ns → (∀ e ∈ ns, good e = true) ∧ L.n.data.toList.length + (path ns).length ≤ 100000000) := hgn
  have HQ : Hid (good L.n.data.toList = true) := hg
  have HA : Hid (At L w.heap.size (w.alloc (.mapIter (some L.mb) 3 #[] 3)) #[]) := At.start hm
  have HM : Hid (L.mb < w.heap.size) := (Array.getElem?_eq_some_iff.1 hm).1
  clear hd hm hs hf ht hst hft hg hgs hl ih hdt tlt hgn
  obtain ⟨n0, en⟩ : ∃ x, nm t L.db ls = x := ⟨_, rfl⟩
  rw [en] at HI ⊢
  go_enter Try.func32, Try.ntmps32
  go_wp2_with fail
  go_loopw [6] (fun _ wr => ∃ seen, At L w.heap.size wr seen ∧ Below w.heap.size w wr ∧ (seen.contains 0 = true → n0 = none)) (fun _ wr => wr.rangeLeft L.mb w.heap.size)
  case atStart => exact ⟨#[], HA.out, (Below.refl _ w).alloc (Nat.le_refl _) _, by simp⟩
  case round =>
    obtain ⟨seen, hat, bel, hsee⟩ := hrel
    have hat0 := hat
    have HB : Hid (Below w.heap.size w wr) := bel
    have HX : Hid (At L w.heap.size wr seen) := hat0
    have HE : Hid (seen.contains 0 = true → n0 = none) := hsee
    rcases hat.next 0 with ⟨hrun, h0, _⟩ | ⟨e, w2, hc, hcs, hrun, hen, hat2, hsz, hoth, hbl, hlt⟩
    · have hnn : n0 = none := hsee h0
      clear hat bel hsee hat0
      subst hnn
      go_wp2_with fail
      go_ret2
      exact ⟨rfl, HB.out⟩
    · have HB2 : Hid (Below w.heap.size w w2) := bel.trans (hbl _ (Nat.le_refl _))
      have HL : Hid (w2.rangeLeft L.mb w.heap.size < wr.rangeLeft L.mb w.heap.size) := hlt
      have H2 : Hid (At L w.heap.size w2 (seen.push e.born)) := hat2
      clear hat bel hsee hat0 hat2 hbl hlt hoth hsz hcs
      have HK : Hid (∀ w3, Below w2.heap.size w2 w3 → (e.born = 0 → n0 = none) → (∃ seen, At L w.heap.size w3 seen ∧ Below w.heap.size w w3 ∧ (seen.contains 0 = true → n0 = none)) ∧ w3.rangeLeft L.mb w.heap.size < wr.rangeLeft L.mb w.heap.size) := by
        intro w3 b3 hz
        have k3 : At L w.heap.size w3 (seen.push e.born) := H2.out.kept (b3.block _ H2.out.lt.1) (b3.block _ H2.out.lt.2)
        refine ⟨⟨_, k3, HB2.out.trans (b3.mono HB2.out.size), ?_⟩, ?_⟩
        · intro hs
          rw [contains_push, Bool.or_eq_true] at hs
          rcases hs with h | h
          · exact HE.out h
          · exact hz (by rw [beq_iff_eq] at h; exact h.symm)
        · rw [At.left H2.out k3]
          exact HL.out
      rcases hc with rfl | rfl | rfl
      · cases n0 with
        | none =>
          have HI' : Hid (Calls Try.prog 32 #[ptr L.db, ptr t] w2 fun e w'' => e = .returned (.tuple #[.string ⟨#[]⟩, .bool false]) ∧ Below w2.heap.size w2 w'') := HI.out w2 HB2.out
          clear HI HE HS HF HG HQ HA HX H2 HL
          go_wp2_with (go_at_call 32; refine (HI'.out).mono ?_; rintro e w3 ⟨rfl, hb3⟩)
          exact HK.out _ hb3 (by simp)
        | some ns =>
          have HI' : Hid (Calls Try.prog 32 #[ptr L.db, ptr t] w2 fun e w'' => e = .returned (.tuple #[.string ⟨(path ns).toArray⟩, .bool true]) ∧ Below w2.heap.size w2 w'') := HI.out w2 HB2.out
          obtain ⟨g1, g2⟩ := HG.out ns en
          have HJ : Hid (∀ w3 ty, Calls Try.prog 40 #[.slice (some ⟨w3.heap.size, 0, none⟩) 3 3] (w3.alloc (.cells #[.string ⟨#[47]⟩, .string L.n, .string ⟨(path ns).toArray⟩] ty)) fun e w' => e = .returned (.string ⟨(path (L.n.data.toList :: ns)).toArray⟩) ∧ Below w3.heap.size w3 w') :=
            fun w3 ty => join_at w3 L.n ns HQ.out g1 g2 ty
          clear HI HE HS HF HG HQ HA HX H2 HL HK g1 g2 en
          go_wp2_with (first | (go_at_call 32; refine (HI'.out).mono ?_; rintro e w3 ⟨rfl, hb3⟩) | (go_at_call 40; refine (HJ.out _ _).mono ?_; rintro e w4 ⟨rfl, hb4⟩))
          go_ret2
          exact ⟨rfl, HB2.out.trans ((hb3.mono HB2.out.size).trans (hb4.mono (Nat.le_trans HB2.out.size hb3.size)))⟩
      · have HI' : Hid (Calls Try.prog 32 #[ptr L.sb, ptr t] w2 fun e w'' => e = .returned (.tuple #[.string ⟨#[]⟩, .bool false]) ∧ Below w2.heap.size w2 w'') := HS.out w2 HB2.out
        clear HI HE HS HF HG HQ HA HX H2 HL
        go_wp2_with (go_at_call 32; refine (HI'.out).mono ?_; rintro e w3 ⟨rfl, hb3⟩)
        exact HK.out _ hb3 (fun h => by cases h)
      · have HI' : Hid (Calls Try.prog 32 #[ptr L.fb, ptr t] w2 fun e w'' => e = .returned (.tuple #[.string ⟨#[]⟩, .bool false]) ∧ Below w2.heap.size w2 w'') := HF.out w2 HB2.out
        clear HI HE HS HF HG HQ HA HX H2 HL
        go_wp2_with (go_at_call 32; refine (HI'.out).mono ?_; rintro e w3 ⟨rfl, hb3⟩)
        exact HK.out _ hb3 (fun h => by cases h)

theorem name_chain (t : Nat) : ∀ (ls : List Lev) (d : Nat) (w : World), Chain w d ls → NoLeaf t ls → (∃ c, w.heap[t]? = some (.cells c 64 (0, 0))) → (∀ L ∈ ls, good L.n.data.toList = true) → lens ls ≤ 1000000 →
    Calls Try.prog 32 #[ptr d, ptr t] w fun e w' => e = .returned (ans (nm t d ls)) ∧ Below w.heap.size w w'
  | [], d, w, h, _, ht, _, _ => by
    by_cases e : d = t
    · subst e
      simp only [nm, if_true]
      exact (name_same w d).mono fun e w' ⟨h1, h2⟩ => ⟨by rw [h1]; rfl, by rw [h2]; exact Below.refl _ _⟩
    · simp only [nm, if_neg e]
      exact name_leaf w d t e DIR false h ht
  | L :: ls, d, w, h, hn, ht, hg, hl => by
    by_cases e : d = t
    · subst e
      simp only [nm, if_true]
      exact (name_same w d).mono fun e w' ⟨h1, h2⟩ => ⟨by rw [h1]; rfl, by rw [h2]; exact Below.refl _ _⟩
    · simp only [nm, if_neg e]
      obtain ⟨h1, h2, h3, h4, h5⟩ := h
      have tlt : t < w.heap.size := by
        obtain ⟨c, hc⟩ := ht
        exact (Array.getElem?_eq_some_iff.1 hc).1
      refine name_step t L ls d w e h1 h2 h3 h4 ht (hn L (by simp)).1 (hn L (by simp)).2 (hg L (by simp)) (fun M hM => hg M (by simp [hM])) hl (fun w' b => ?_)
      exact name_chain t ls L.db w' (h5.below b) (fun M hM => hn M (by simp [hM])) (by rw [b.block _ tlt]; exact ht) (fun M hM => hg M (by simp [hM]))
        (by simp only [lens, List.map_cons, List.sum_cons] at hl ⊢; omega)

end Go.Proofs.Qxb6003812a.chain
