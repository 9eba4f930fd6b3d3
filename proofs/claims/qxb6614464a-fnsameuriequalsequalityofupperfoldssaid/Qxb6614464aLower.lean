import Derived.Test.Qxb6614464aAny
import Derived.Test.Qxb6614464aPlain2
import Derived.Laws.IdiomStrings
import Derived.Laws.BytesArg
namespace Go.Proofs.Qxb6614464a.leaves
open Go.RowKit
open plain (low up)

/-- block b of w holds the bytes l, none of them frozen -/
def Row (w : World) (b : Nat) (l : List UInt8) : Prop := ∀ j, j < l.length → w.cell? ⟨b, j, none⟩ = some (.int .u8 (((l.getD j 0).toNat : Nat) : Int)) ∧ w.frozen? ⟨b, j, none⟩ = false

theorem Row.set {w : World} {b : Nat} {l : List UInt8} (h : Row w b l) {k : Nat} (hk : k < l.length) (x : UInt8) : Row (w.setCell ⟨b, k, none⟩ (.int .u8 (x.toNat : Int))) b (l.set k x) := by
  intro j hj
  rw [List.length_set] at hj
  obtain ⟨h1, h2⟩ := h j hj
  refine ⟨?_, by rw [World.frozen?_setCell]; exact h2⟩
  by_cases e : j = k
  · subst e
    rw [World.cell?_setCell_same _ _ _ h1]
    simp [List.getD_eq_getElem?_getD, List.getElem?_set_self hk]
  · rw [World.cell?_setCell_other _ _ _ _ (by intro h; injection h; omega)]
    rw [h1]
    simp [List.getD_eq_getElem?_getD, List.getElem?_set_ne (Ne.symm e)]

def Lk (f : UInt8 → UInt8) (l : List UInt8) (k : Nat) : List UInt8 := (l.take k).map f ++ l.drop k
theorem Lk_length (f : UInt8 → UInt8) (l : List UInt8) (k : Nat) (h : k ≤ l.length) : (Lk f l k).length = l.length := by
  simp [Lk]; omega
theorem Lk_at (f : UInt8 → UInt8) (l : List UInt8) (k : Nat) (h : k < l.length) : (Lk f l k).getD k 0 = l.getD k 0 := by
  simp only [Lk, List.getD_eq_getElem?_getD]
  rw [List.getElem?_append_right (by simp; omega)]
  simp
  rw [show k - min k l.length = 0 from by omega, Nat.add_zero]
theorem Lk_succ (f : UInt8 → UInt8) (l : List UInt8) (k : Nat) (h : k < l.length) : (Lk f l k).set k (f l[k]) = Lk f l (k + 1) := by
  apply List.ext_getElem?
  intro j
  simp only [Lk]
  by_cases e : j = k
  · subst e
    rw [List.getElem?_set_self (by simp; omega)]
    rw [List.getElem?_append_left (by simp; omega)]
    simp [h]
  · rw [List.getElem?_set_ne (Ne.symm e)]
    by_cases hlt : j < k
    · rw [List.getElem?_append_left (by simp; omega), List.getElem?_append_left (by simp; omega)]
      simp [hlt, show j < k + 1 from by omega]
    · rw [List.getElem?_append_right (by simp; omega), List.getElem?_append_right (by simp; omega)]
      simp
      congr 1
      omega
theorem Lk_same (f : UInt8 → UInt8) (l : List UInt8) (k : Nat) (h : k < l.length) (hf : f l[k] = l[k]) : Lk f l (k + 1) = Lk f l k := by
  rw [← Lk_succ f l k h, hf]
  apply List.ext_getElem?
  intro j
  by_cases e : j = k
  · subst e
    rw [List.getElem?_set_self (by rw [Lk_length _ _ _ (by omega)]; exact h)]
    have := Lk_at f l j h
    simp only [List.getD_eq_getElem?_getD] at this
    rw [List.getElem?_eq_getElem h] at this
    rw [List.getElem?_eq_getElem (by rw [Lk_length _ _ _ (by omega)]; exact h)] at this ⊢
    simp at this
    rw [this]
  · rw [List.getElem?_set_ne (Ne.symm e)]
theorem Lk_zero (f : UInt8 → UInt8) (l : List UInt8) : Lk f l 0 = l := by simp [Lk]
theorem Lk_all (f : UInt8 → UInt8) (l : List UInt8) : Lk f l l.length = l.map f := by simp [Lk]

theorem toBytes (s : ByteArray) (w : World) : ∃ cap w1, (convert 9 22 (.string s)).run Try.prog w = .ok (.slice (some ⟨w.heap.size, 0, none⟩) s.size cap) w1 ∧ Row w1 w.heap.size s.data.toList ∧ Below w.heap.size w w1 := by
  refine ⟨_, _, run_bytes_of_string w 9 22 5 s Try.underlying9 Try.underlying22 Try.underlying5, ?_, ?_⟩
  · intro j hj
    have hj' : j < s.data.size := by simpa using hj
    refine ⟨?_, ?_⟩
    · have h1 := World.cell?_alloc_mark w.drew (bytesRow s (grownCap w s.size 0 5)) 5 ((bytesRow s (grownCap w s.size 0 5)).size, (bytesRow s (grownCap w s.size 0 5)).size + 1) j
      refine h1.trans ?_
      rw [bytesRow_at s _ j hj']
      simp only [List.getD_eq_getElem?_getD]
      rw [List.getElem?_eq_getElem hj]
      rfl
    · have h1 := World.frozen?_alloc_mark w.drew (bytesRow s (grownCap w s.size 0 5)) 5 (bytesRow s (grownCap w s.size 0 5)).size ((bytesRow s (grownCap w s.size 0 5)).size + 1) j
      refine h1.trans ?_
      have hz : s.size = s.data.size := rfl
      have : ¬ (bytesRow s (grownCap w s.size 0 5)).size ≤ j := by simp only [bytesRow, Array.size_append, Array.size_map, Array.size_replicate]; omega
      simp [this]
  · exact ((Below.refl _ _).drew).alloc (Nat.le_refl _) _

theorem fromBytes {w : World} {b : Nat} {l : List UInt8} (h : Row w b l) (n cap : Nat) (hn : n = l.length) : (convert 22 9 (.slice (some ⟨b, 0, none⟩) n cap)).run Try.prog w = .ok (.string ⟨l.toArray⟩) w := by
  subst hn
  refine run_convert_bytes_back w 22 9 5 ⟨b, 0, none⟩ cap l Try.underlying22 Try.underlying5 Try.underlying9 ?_
  intro j hj
  have h1 := (h j hj).1
  have ha : (⟨b, 0, none⟩ : Addr).add j = ⟨b, j, none⟩ := by
    simp only [Addr.add]
    split <;> simp_all
  rw [ha, h1]
  simp [List.getD_eq_getElem?_getD, hj]

theorem low_hi (x : UInt8) (h1 : 65 ≤ x.toNat) (h2 : x.toNat ≤ 90) : ((low x).toNat : Int) = (x.toNat : Int) + 32 := by
  unfold low
  rw [if_pos ⟨h1, h2⟩]
  simp
  omega
theorem low_id (x : UInt8) (h : ¬ (65 ≤ x.toNat ∧ x.toNat ≤ 90)) : low x = x := by
  unfold low
  rw [if_neg h]

set_option maxHeartbeats 1000000 in
set_option maxRecDepth 100000 in
theorem lower_any (s : ByteArray) (w : World) (hs : s.size ≤ 1048576) :
    Calls Try.prog 22 #[.string s] w fun e w' => e = .returned (.string ⟨(s.data.toList.map low).toArray⟩) ∧ Below w.heap.size w w' := by
  obtain ⟨cap, w1, hconv, hrow, hbel⟩ := toBytes s w
  have hlen : s.data.toList.length = s.size := (Lib.size_eq s).symm
  generalize s.data.toList = l at *
  have HR : Hid (Row w1 w.heap.size l) := hrow
  have HB : Hid (Below w.heap.size w w1) := hbel
  have HL : Hid (l.length = s.size) := hlen
  clear hrow hbel hlen
  go_enter Try.func22, Try.ntmps22
  go_wp2_with fail
  go_loopw [10] (fun i wr => ∃ k : Nat, k ≤ s.size ∧ i = .int .i64 k ∧ Row wr w.heap.size (Lk low l k) ∧ Below w.heap.size w wr) (fun i _ => s.size - (intOf i).toNat)
  case atStart => exact ⟨0, by omega, rfl, by rw [Lk_zero]; exact HR.out, HB.out⟩
  case round =>
    obtain ⟨k, hk, rfl, hrow, hbel⟩ := hrel
    by_cases hlt : k < s.size
    · have hkl : k < l.length := by rw [HL.out]; exact hlt
      obtain ⟨hcell, hfro⟩ := hrow k (by rw [Lk_length _ _ _ (by omega)]; exact hkl)
      rw [Lk_at _ _ _ hkl] at hcell
      have hx : l.getD k 0 = l[k] := by simp [List.getD_eq_getElem?_getD, hkl]
      have H1 : Hid (Row wr w.heap.size (Lk low l k)) := hrow
      have H2 : Hid (Below w.heap.size w wr) := hbel
      have H3 : Hid (l.getD k 0 = l[k]) := hx
      clear hrow hbel hx
      obtain ⟨x, hx⟩ : ∃ x, l[k] = x := ⟨_, rfl⟩
      rw [H3.out, hx] at hcell
      have HX : Hid (l[k] = x) := hx
      clear hx
      by_cases hc : 65 ≤ x.toNat ∧ x.toNat ≤ 90
      · obtain ⟨hc1, hc2⟩ := hc
        have H4 : Hid (((low x).toNat : Int) = (x.toNat : Int) + 32) := low_hi x hc1 hc2
        have hc1' : (65 : Int) ≤ (x.toNat : Int) := by omega
        have hc2' : (x.toNat : Int) ≤ 90 := by omega
        go_wp2_with fail
        refine ⟨⟨k + 1, by omega, by go_num, ?_, H2.out.setCell (Nat.le_refl _) _⟩, by simp [intOf]; omega⟩
        have h := H1.out.set (k := k) (by rw [Lk_length _ _ _ (by omega)]; exact hkl) (low x)
        rw [H4.out] at h
        rw [← Lk_succ low l k hkl, HX.out]
        have e : (x.toNat : Int) + 97 - 65 = (x.toNat : Int) + 32 := by omega
        rw [e]
        exact h
      · have H4 : Hid (low l[k] = l[k]) := low_id l[k] (by rw [HX.out]; exact hc)
        have hR : Hid (Row wr w.heap.size (Lk low l (k + 1))) := by
          rw [Lk_same low l k hkl H4.out]
          exact H1.out
        by_cases hc1 : 65 ≤ x.toNat
        · have hc1' : (65 : Int) ≤ (x.toNat : Int) := by omega
          have hc2' : ¬ (x.toNat : Int) ≤ 90 := by omega
          clear hc
          go_wp2_with fail
          exact ⟨⟨k + 1, by omega, by go_num, hR.out, H2.out⟩, by simp [intOf]; omega⟩
        · have hc1' : ¬ (65 : Int) ≤ (x.toNat : Int) := by omega
          clear hc
          go_wp2_with fail
          exact ⟨⟨k + 1, by omega, by go_num, hR.out, H2.out⟩, by simp [intOf]; omega⟩
    · obtain rfl : k = s.size := by omega
      rw [← HL.out, Lk_all] at hrow
      have hfb := fun cap => fromBytes hrow s.size cap (by rw [List.length_map]; exact HL.out.symm)
      clear hrow
      have H2 : Hid (Below w.heap.size w wr) := hbel
      clear hbel
      go_wp2_with fail
      go_ret
      exact ⟨rfl, H2.out⟩
end Go.Proofs.Qxb6614464a.leaves
