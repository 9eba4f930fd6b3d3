import Derived.Test.Qxb6600528aZZ
import Derived.Test.Qxb6600528aPlain3
import Derived.Maps.AppendAt
namespace Go.Proofs.Qxb6600528a.leaves
open Go.RowKit
open plain (lv isS hsh plus)

/-- v is a slice whose elements are the strings L, in a block that lies -/
def Strs (w : World) (v : Value) (L : List ByteArray) : Prop :=
  ∃ g cap, v = .slice (some ⟨g, 0, none⟩) L.length cap ∧ g < w.heap.size ∧ ∀ i, i < L.length → w.cell? ⟨g, i, none⟩ = some (.string (L.getD i ByteArray.empty))

theorem Strs.below {w w' : World} {v : Value} {L : List ByteArray} (h : Strs w v L) (hb : Below w.heap.size w w') : Strs w' v L := by
  obtain ⟨g, cap, hv, hg, hc⟩ := h
  exact ⟨g, cap, hv, Nat.lt_of_lt_of_le hg hb.size, fun i hi => (hb.cell (p := ⟨g, i, none⟩) hg).trans (hc i hi)⟩

theorem strs_of_owns {w : World} {base : Nat} {v : Value} {L : List ByteArray} (h : w.ownsRow base 9 1 v L.length (L.map Value.string)) (hn : 0 < L.length) : Strs w v L := by
  rcases h.2 with ⟨_, h0⟩ | ⟨g, cap, cur, hv, hb, hg, _⟩
  · omega
  · refine ⟨g, cap, hv, (Array.getElem?_eq_some_iff.1 hg).1, fun i hi => ?_⟩
    have hc := h
    rw [hv] at hc
    rw [hc.cellAt i (by omega)]
    simp [List.getD_eq_getElem?_getD, hi]

def dat (L : List ByteArray) : List (List UInt8) := L.map (·.data.toList)

theorem info9 : (Try.prog.info? 9).map (fun i => (i.zero, i.size, i.bytes)) = some (some (.string ByteArray.empty), 1, 16) := by kernel_rfl

/-- what holds after k bytes: the pieces cut so far, and where the next begins -/
structure Cut (l : List UInt8) (k st : Nat) (D : List ByteArray) : Prop where
  le : st ≤ k
  eq : lv l = dat D ++ lv (l.drop st)
  no : k - st ≤ (l.drop st).findIdx isS
  len : D.length ≤ k

theorem Cut.start (l : List UInt8) : Cut l 0 0 [] := ⟨Nat.le_refl _, by simp [dat], Nat.zero_le _, Nat.le_refl _⟩

theorem Cut.go_on {l : List UInt8} {k st : Nat} {D : List ByteArray} (h : Cut l k st D) (hk : k < l.length) (hb : isS l[k] = false) : Cut l (k + 1) st D := by
  refine ⟨by have := h.le; omega, h.eq, ?_, by have := h.len; omega⟩
  have hle := h.le
  have hno := h.no
  by_cases e : (l.drop st).findIdx isS = k - st
  · have hlt : (l.drop st).findIdx isS < (l.drop st).length := by rw [List.length_drop]; omega
    have h1 := List.findIdx_getElem (w := hlt)
    simp only [e, List.getElem_drop] at h1
    have h2 : st + (k - st) = k := by omega
    simp only [h2] at h1
    rw [hb] at h1
    cases h1
  · omega

theorem Cut.cut {s : ByteArray} {l : List UInt8} {k st : Nat} {D : List ByteArray} (hs : s.data.toList = l) (h : Cut l k st D) (hk : k < l.length) (hb : isS l[k] = true) : Cut l (k + 1) (k + 1) (D ++ [s.extract st k]) := by
  have hle := h.le
  have hno := h.no
  have hfi : (l.drop st).findIdx isS = k - st := by
    by_cases e : k - st < (l.drop st).findIdx isS
    · have h1 := List.not_of_lt_findIdx e
      rw [List.getElem_drop] at h1
      have h2 : st + (k - st) = k := by omega
      simp only [h2] at h1
      rw [hb] at h1
      cases h1
    · omega
  refine ⟨Nat.le_refl _, ?_, by simp, by have := h.len; simp; omega⟩
  rw [h.eq, plain.lv_hit (l.drop st) (by rw [hfi, List.length_drop]; omega), hfi, List.drop_drop]
  have e1 : st + (k - st + 1) = k + 1 := by omega
  rw [e1]
  simp [dat, hs]

theorem Cut.finish {s : ByteArray} {l : List UInt8} {st : Nat} {D : List ByteArray} (hs : s.data.toList = l) (h : Cut l l.length st D) : dat (D ++ [s.extract st s.size]) = lv l := by
  have hle := h.le
  have hno := h.no
  rw [h.eq, plain.lv_miss (l.drop st) (by rw [List.length_drop]; omega)]
  have hz : s.size = l.length := by rw [← hs]; exact Lib.size_eq s
  simp only [dat, List.map_append, List.map_cons, List.map_nil]
  rw [ext_list, hs, List.take_of_length_le (by rw [List.length_drop]; omega)]

theorem u8_eq (x : UInt8) (n : Nat) (hn : n < 256) : (((x.toNat : Nat) : Int) == (n : Int)) = (x == UInt8.ofNat n) := by
  rw [Bool.eq_iff_iff, beq_iff_eq, beq_iff_eq]
  constructor
  · intro h
    apply UInt8.toNat.inj
    rw [UInt8.toNat_ofNat']
    omega
  · intro h
    subst h
    rw [UInt8.toNat_ofNat']
    omega

theorem byte_at (s : ByteArray) (k : Nat) (h : k < s.size) (h' : k < s.data.toList.length) : s.data.toList[k] = s[k]'h := rfl

set_option maxHeartbeats 4000000 in
set_option maxRecDepth 100000 in
theorem split_any (s : ByteArray) (w : World) (hs : s.size ≤ 1048576) :
    Calls Try.prog 29 #[.string s] w fun e w' => ∃ (v : Value) (L : List ByteArray), e = .returned v ∧ dat L = lv s.data.toList ∧ w'.ownsRow w.heap.size 9 1 v L.length (L.map Value.string) ∧ L.length ≤ s.size + 1 ∧ Below w.heap.size w w' := by
  obtain ⟨i0, hi, hz0, hz1, hz2⟩ := info_parts info9
  have hlen : s.data.toList.length = s.size := (Lib.size_eq s).symm
  have hat := byte_at s
  obtain ⟨l, hl⟩ : ∃ l, s.data.toList = l := ⟨_, rfl⟩
  rw [hl] at hlen ⊢
  simp only [hl] at hat
  have HA : Hid (∀ (k : Nat) (h : k < s.size) (h' : k < l.length), l[k] = s[k]'h) := hat
  have HL : Hid (l.length = s.size) := hlen
  have HS : Hid (s.data.toList = l) := hl
  clear hl hlen hat
  go_enter Try.func29, Try.ntmps29
  go_wp2_with fail
  go_loopw [3, 4, 5] (fun v st i wr => ∃ (k t : Nat) (D : List ByteArray), k ≤ s.size ∧ i = .int .i64 k ∧ st = .int .i64 t ∧ Cut l k t D ∧ wr.ownsRow w.heap.size 9 1 v D.length (D.map Value.string) ∧ Below w.heap.size w wr) (fun _ _ i _ => s.size - (intOf i).toNat)
  case atStart => exact ⟨0, 0, [], by omega, rfl, rfl, Cut.start l, World.ownsRow_nil _ _ _ _, Below.refl _ _⟩
  case round =>
    obtain ⟨k, t, D, hk, rfl, rfl, hcut, hown, hbel⟩ := hrel
    have HC : Hid (Cut l k t D) := hcut
    have HB : Hid (Below w.heap.size w wr) := hbel
    have htk : t ≤ k := hcut.le
    have hdl : D.length ≤ k := hcut.len
    have hsz : w.heap.size ≤ wr.heap.size := hbel.size
    clear hcut hbel
    by_cases hlt : k < s.size
    · have hkl : k < l.length := by rw [HL.out]; exact hlt
      have hx := HA.out k hlt hkl
      cases hb : isS l[k]
      · have hbb : (((s[k]'hlt).toNat : Int) == 47) = false := by
          rw [show ((47 : Int)) = ((47 : Nat) : Int) from rfl, u8_eq _ 47 (by omega), ← hx]
          exact hb
        have HC2 : Hid (Cut l (k + 1) t D) := HC.out.go_on hkl hb
        clear hx hb
        go_wp2_with fail
        exact ⟨⟨k + 1, t, D, by omega, by go_num, rfl, HC2.out, hown, HB.out⟩, by simp [intOf]; omega⟩
      · have hbb : (((s[k]'hlt).toNat : Int) == 47) = true := by
          rw [show ((47 : Int)) = ((47 : Nat) : Int) from rfl, u8_eq _ 47 (by omega), ← hx]
          exact hb
        have HC2 : Hid (Cut l (k + 1) (k + 1) (D ++ [s.extract t k])) := HC.out.cut HS.out hkl hb
        clear hx hb
        have c1 : (t : Int) ≤ (k : Int) := by omega
        have c2 : (k : Int) ≤ (s.size : Int) := by omega
        go_wp2_with (at_builtin; refine wpList_append_own _ rfl _ _ 41 rfl w.heap.size 9 i0 (.string ByteArray.empty) 1 16 Try.underlying41 hi hz0 hz1 hz2 rfl (by decide) _ _ _ rfl (hown.alloc _) ⟨wr.heap.size, 0, none⟩ 1 1 [.string (s.extract t k)] rfl rfl (cell_one_new _ _ _) (fun x hx => by simp at hx; subst hx; rfl) (by unfold maxLen; omega) (by omega) (by simp; omega) ?_; intro v' w3 hown' hgrow3 hnil3)
        refine ⟨⟨k + 1, k + 1, D ++ [s.extract t k], by omega, by go_num, by go_num, HC2.out, ?_, ?_⟩, by simp [intOf]; omega⟩
        · rw [List.map_append, List.length_append]
          exact hown'
        · exact (HB.out.alloc hsz _).grown hgrow3 (by simp; omega) (fun q hq => (hown.lt q hq).1)
    · obtain rfl : k = s.size := by omega
      have HF : Hid (dat (D ++ [s.extract t s.size]) = lv l) := by
        have h := HC.out
        rw [← HL.out] at h
        exact h.finish HS.out
      have c1 : (t : Int) ≤ (s.size : Int) := by omega
      go_wp2_with (at_builtin; refine wpList_append_own _ rfl _ _ 41 rfl w.heap.size 9 i0 (.string ByteArray.empty) 1 16 Try.underlying41 hi hz0 hz1 hz2 rfl (by decide) _ _ _ rfl (hown.alloc _) ⟨wr.heap.size, 0, none⟩ 1 1 [.string (s.extract t s.size)] rfl rfl (cell_one_new _ _ _) (fun x hx => by simp at hx; subst hx; rfl) (by unfold maxLen; omega) (by omega) (by simp; omega) ?_; intro v' w3 hown' hgrow3 hnil3)
      go_ret
      refine ⟨v', D ++ [s.extract t s.size], rfl, HF.out, ?_, by simp; omega, ?_⟩
      · rw [List.map_append, List.length_append]
        exact hown'
      · exact (HB.out.alloc hsz _).grown hgrow3 (by simp; omega) (fun q hq => (hown.lt q hq).1)

theorem lv_len_pos (l : List UInt8) (L : List ByteArray) (h : dat L = lv l) : 0 < L.length := by
  cases L with
  | nil => exact absurd h.symm (plain.lv_ne l)
  | cons _ _ => simp

theorem split_strs (s : ByteArray) (w : World) (hs : s.size ≤ 1048576) :
    Calls Try.prog 29 #[.string s] w fun e w' => ∃ (v : Value) (L : List ByteArray), e = .returned v ∧ dat L = lv s.data.toList ∧ Strs w' v L ∧ 0 < L.length ∧ L.length ≤ s.size + 1 ∧ Below w.heap.size w w' :=
  (split_any s w hs).mono fun _ _ ⟨v, L, h1, h2, h3, h4, h5⟩ => ⟨v, L, h1, h2, strs_of_owns h3 (lv_len_pos _ L h2), lv_len_pos _ L h2, h4, h5⟩
end Go.Proofs.Qxb6600528a.leaves
