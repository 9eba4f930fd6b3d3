import Derived.Test.Qxb6600528aMatch
import Derived.Laws.IdiomStrings
import Derived.Laws.BytesArg
namespace Go.Proofs.Qxb6600528a.leaves
open Go.RowKit
open plain (lv isS hsh plus wildL okL valid mtH matches_ dol)

set_option maxHeartbeats 1000000 in
set_option maxRecDepth 100000 in
theorem match_no (vf vn : Value) (F N : List ByteArray) (w : World) (hF : Strs w vf F) (hN : Strs w vn N) (pF : 0 < F.length) (pN : 0 < N.length)
    (hd : (dol (dat N) && wildL ((dat F).headD [])) = true) :
    Calls Try.prog 32 #[vf, vn] w fun e w' => e = .returned (.bool false) ∧ w' = w := by
  obtain ⟨gf, cf, rfl, hgf, hcf⟩ := hF
  obtain ⟨gn, cn, rfl, hgn, hcn⟩ := hN
  have f0 := hcf 0 pF
  have n0 := hcn 0 pN
  have e1 := dat_drop N 0 pN
  have e2 := dat_drop F 0 pF
  rw [List.drop_zero] at e1 e2
  rw [e1, e2, Bool.and_eq_true] at hd
  have h1 : ((N.getD 0 ByteArray.empty).data.toList.head? == some 36) = true := hd.1
  have h2 : wildL (F.getD 0 ByteArray.empty).data.toList = true := hd.2
  clear hcf hcn hd e1 e2
  obtain ⟨y, hy⟩ : ∃ y, N.getD 0 ByteArray.empty = y := ⟨_, rfl⟩
  obtain ⟨x, hx⟩ : ∃ x, F.getD 0 ByteArray.empty = x := ⟨_, rfl⟩
  rw [hy] at n0 h1
  rw [hx] at f0 h2
  clear hy hx
  have p1 : (0 : Int) < (F.length : Int) := by omega
  have p2 : (0 : Int) < (N.length : Int) := by omega
  have hys : 0 < y.size := by
    rw [Lib.size_eq]
    cases h : y.data.toList with
    | nil => rw [h] at h1; simp at h1
    | cons _ _ => simp
  have hys' : (0 : Int) < (y.size : Int) := by omega
  have hh : ((((y[0]'hys).toNat : Int)) == 36) = true := by
    rw [show ((36 : Int)) = ((36 : Nat) : Int) from rfl, u8_eq _ 36 (by omega), ← h1]
    have hl : 0 < y.data.toList.length := by rw [← Lib.size_eq]; exact hys
    rw [List.head?_eq_getElem?, List.getElem?_eq_getElem hl]
    rfl
  have H2 : Hid (wildL x.data.toList = true) := h2
  clear h1 h2
  go_enter Try.func32, Try.ntmps32
  go_wp2_with (go_at_call 33; refine (wildL_any _ _).mono ?_; rintro e w' ⟨rfl, hw⟩; rw [hw, H2.out])
  go_ret
  exact ⟨rfl, rfl⟩

theorem match_any (vf vn : Value) (F N : List ByteArray) (w : World) (hF : Strs w vf F) (hN : Strs w vn N) (lF : F.length ≤ 2000000) (lN : N.length ≤ 2000000) (pF : 0 < F.length) (pN : 0 < N.length) :
    Calls Try.prog 32 #[vf, vn] w fun e w' => e = .returned (.bool (matches_ (dat F) (dat N))) ∧ Below w.heap.size w w' := by
  unfold matches_
  cases hd : (dol (dat N) && wildL ((dat F).headD []))
  · exact (match_loop vf vn F N w hF hN lF lN pF pN hd).mono fun e w' ⟨h1, n, h2⟩ => ⟨h1, by rw [h2]; exact below_drewN' w n⟩
  · exact (match_no vf vn F N w hF hN pF pN hd).mono fun e w' ⟨h1, h2⟩ => ⟨h1, by rw [h2]; exact Below.refl _ _⟩

def B (l : List UInt8) : ByteArray := ⟨l.toArray⟩
theorem B_data (x : ByteArray) : B x.data.toList = x := by
  cases x
  simp [B]
theorem dat_B (l : List (List UInt8)) : dat (l.map B) = l := by
  simp [dat, B, Function.comp_def]
theorem map_B_dat (L : List ByteArray) : (dat L).map B = L := by
  rw [dat, List.map_map]
  have h : (B ∘ fun x : ByteArray => x.data.toList) = id := by
    funext x
    exact B_data x
  rw [h, List.map_id]

/-- block b of w holds the strings l, none of them frozen -/
def RowS (w : World) (b : Nat) (l : List (List UInt8)) : Prop := ∀ j, j < l.length → w.cell? ⟨b, j, none⟩ = some (.string (B (l.getD j []))) ∧ w.frozen? ⟨b, j, none⟩ = false

theorem RowS.set {w : World} {b : Nat} {l : List (List UInt8)} (h : RowS w b l) {k : Nat} (hk : k < l.length) (x : List UInt8) : RowS (w.setCell ⟨b, k, none⟩ (.string (B x))) b (l.set k x) := by
  intro j hj
  rw [List.length_set] at hj
  obtain ⟨h1, h2⟩ := h j hj
  refine ⟨?_, by rw [World.frozen?_setCell]; exact h2⟩
  by_cases e : j = k
  · subst e
    rw [World.cell?_setCell_same _ _ _ h1]
    simp [List.getD_eq_getElem?_getD, List.getElem?_set_self hk]
  · rw [World.cell?_setCell_other _ _ _ _ (by intro h; injection h; omega)]
    rw [h1]
    simp [List.getD_eq_getElem?_getD, List.getElem?_set_ne (Ne.symm e)]

theorem RowS.strs {w : World} {b cap : Nat} {l : List (List UInt8)} (h : RowS w b l) (hn : 0 < l.length) : Strs w (.slice (some ⟨b, 0, none⟩) l.length cap) (l.map B) := by
  refine ⟨b, cap, by rw [List.length_map], ?_, fun i hi => ?_⟩
  · have hc := (h 0 hn).1
    exact World.block_lt_of_cell? w _ hc
  · rw [List.length_map] at hi
    rw [(h i hi).1]
    simp [List.getD_eq_getElem?_getD, hi]

theorem RowS.below {w w' : World} {b : Nat} {l : List (List UInt8)} (h : RowS w b l) (hb : Below w.heap.size w w') : RowS w' b l := by
  intro j hj
  obtain ⟨h1, h2⟩ := h j hj
  have hlt : b < w.heap.size := World.block_lt_of_cell? w _ h1
  exact ⟨(hb.cell (p := ⟨b, j, none⟩) hlt).trans h1, (hb.frozen (p := ⟨b, j, none⟩) hlt).trans h2⟩

theorem madeS (n : Nat) (w : World) (hn : n ≤ 2000000) : ∃ w1, (Instr.makeSlice 41 (.int .i64 n) (.int .i64 n)).run Try.prog w = .ok (.slice (some ⟨w.heap.size, 0, none⟩) n n) w1 ∧ RowS w1 w.heap.size (List.replicate n []) ∧ Below w.heap.size w w1 ∧ w.heap.size < w1.heap.size := by
  obtain ⟨i, hi, hz, hs, hb⟩ := info_parts info9
  have hr := run_make (P := Try.prog) w 41 9 i (.string ByteArray.empty) Try.underlying41 hi hz .i64 .i64 n n (by omega) (Int.le_refl _) (by rw [hb]; omega) (by omega)
  rw [hs] at hr
  simp only [Int.toNat_natCast, Nat.mul_one] at hr
  refine ⟨_, hr, ?_, (Below.refl _ _).alloc (Nat.le_refl _) _, by simp⟩
  intro j hj
  rw [List.length_replicate] at hj
  have hl := toList_madeCells_one (.string ByteArray.empty) n
  have hc : (madeCells (Value.string ByteArray.empty).cells n)[j]? = some (.string ByteArray.empty) := by
    rw [← Array.getElem?_toList]
    show (madeCells #[.string ByteArray.empty] n).toList[j]? = _
    rw [hl, List.getElem?_replicate, if_pos hj]
  refine ⟨?_, ?_⟩
  · have h1 := World.cell?_alloc_mark w (madeCells (Value.string ByteArray.empty).cells n) 9 (0, 0) j
    refine h1.trans ?_
    rw [hc]
    simp [List.getD_eq_getElem?_getD, hj]
    rfl
  · have h1 := World.frozen?_alloc_mark w (madeCells (Value.string ByteArray.empty).cells n) 9 0 0 j
    refine h1.trans ?_
    simp

/-- after k stores: the first k as they should be, the rest empty -/
def Pk (l : List (List UInt8)) (k : Nat) : List (List UInt8) := l.take k ++ List.replicate (l.length - k) []
theorem Pk_length (l : List (List UInt8)) (k : Nat) (h : k ≤ l.length) : (Pk l k).length = l.length := by
  simp [Pk]; omega
theorem Pk_succ (l : List (List UInt8)) (k : Nat) (h : k < l.length) (x : List UInt8) (hx : l[k] = x) : (Pk l k).set k x = Pk l (k + 1) := by
  apply List.ext_getElem?
  intro j
  simp only [Pk]
  by_cases e : j = k
  · subst e
    rw [List.getElem?_set_self (by simp; omega), List.getElem?_append_left (by simp; omega)]
    rw [List.getElem?_take, if_pos (by omega), List.getElem?_eq_getElem (by omega), hx]
  · rw [List.getElem?_set_ne (Ne.symm e)]
    by_cases hlt : j < k
    · rw [List.getElem?_append_left (by simp; omega), List.getElem?_append_left (by simp; omega)]
      simp [hlt, show j < k + 1 from by omega]
    · rw [List.getElem?_append_right (by simp; omega), List.getElem?_append_right (by simp; omega)]
      simp only [List.length_take, List.getElem?_replicate]
      by_cases hj : j < l.length
      · rw [if_pos (by omega), if_pos (by omega)]
      · rw [if_neg (by omega), if_neg (by omega)]
theorem Pk_zero (l : List (List UInt8)) : Pk l 0 = List.replicate l.length [] := by simp [Pk]
theorem Pk_all (l : List (List UInt8)) : Pk l l.length = l := by simp [Pk]

/-- one store of the row -/
theorem RowS.step {w : World} {b : Nat} {l : List (List UInt8)} {k : Nat} (h : RowS w b (Pk l k)) (hk : k < l.length) (v : ByteArray) (hv : v = B (l.getD k [])) : RowS (w.setCell ⟨b, k, none⟩ (.string v)) b (Pk l (k + 1)) := by
  subst hv
  have h2 := h.set (k := k) (by rw [Pk_length _ _ (by omega)]; exact hk) (l.getD k [])
  rw [Pk_succ l k hk (l.getD k []) (by simp [List.getD_eq_getElem?_getD, hk])] at h2
  exact h2

/-! the fresh level -/
def RowB (w : World) (b : Nat) (l : List UInt8) : Prop := ∀ j, j < l.length → w.cell? ⟨b, j, none⟩ = some (.int .u8 (((l.getD j 0).toNat : Nat) : Int)) ∧ w.frozen? ⟨b, j, none⟩ = false

theorem RowB.set {w : World} {b : Nat} {l : List UInt8} (h : RowB w b l) {k : Nat} (hk : k < l.length) (x : UInt8) : RowB (w.setCell ⟨b, k, none⟩ (.int .u8 (x.toNat : Int))) b (l.set k x) := by
  intro j hj
  rw [List.length_set] at hj
  obtain ⟨h1, h2⟩ := h j hj
  refine ⟨?_, by rw [World.frozen?_setCell]; exact h2⟩
  by_cases e : j = k
  · subst e
    rw [World.cell?_setCell_same _ _ _ h1]
    simp [List.getD_eq_getElem?_getD, List.getElem?_set_self hk]
  · rw [World.cell?_setCell_other _ _ _ _ (by intro h; injection h; omega)]
    rw [h1]
    simp [List.getD_eq_getElem?_getD, List.getElem?_set_ne (Ne.symm e)]

theorem info5 : (Try.prog.info? 5).map (fun i => (i.zero, i.size, i.bytes)) = some (some (.int .u8 0), 1, 1) := by kernel_rfl

theorem madeB (n : Nat) (w : World) (hn : n ≤ 2000000) : ∃ w1, (Instr.makeSlice 25 (.int .i64 n) (.int .i64 n)).run Try.prog w = .ok (.slice (some ⟨w.heap.size, 0, none⟩) n n) w1 ∧ RowB w1 w.heap.size (List.replicate n 0) ∧ Below w.heap.size w w1 := by
  obtain ⟨i, hi, hz, hs, hb⟩ := info_parts info5
  have hr := run_make (P := Try.prog) w 25 5 i (.int .u8 0) Try.underlying25 hi hz .i64 .i64 n n (by omega) (Int.le_refl _) (by rw [hb]; omega) (by omega)
  rw [hs] at hr
  simp only [Int.toNat_natCast, Nat.mul_one] at hr
  refine ⟨_, hr, ?_, (Below.refl _ _).alloc (Nat.le_refl _) _⟩
  intro j hj
  rw [List.length_replicate] at hj
  have hl := toList_madeCells_one (.int .u8 0) n
  have hc : (madeCells (Value.int .u8 0).cells n)[j]? = some (.int .u8 0) := by
    rw [← Array.getElem?_toList]
    show (madeCells #[.int .u8 0] n).toList[j]? = _
    rw [hl, List.getElem?_replicate, if_pos hj]
  refine ⟨?_, ?_⟩
  · have h1 := World.cell?_alloc_mark w (madeCells (Value.int .u8 0).cells n) 5 (0, 0) j
    refine h1.trans ?_
    rw [hc]
    simp [List.getD_eq_getElem?_getD, hj]
  · have h1 := World.frozen?_alloc_mark w (madeCells (Value.int .u8 0).cells n) 5 0 0 j
    refine h1.trans ?_
    simp

theorem fromBytes {w : World} {b : Nat} {l : List UInt8} (h : RowB w b l) (n cap : Nat) (hn : n = l.length) : (convert 25 9 (.slice (some ⟨b, 0, none⟩) n cap)).run Try.prog w = .ok (.string ⟨l.toArray⟩) w := by
  subst hn
  refine run_convert_bytes_back w 25 9 5 ⟨b, 0, none⟩ cap l Try.underlying25 Try.underlying5 Try.underlying9 ?_
  intro j hj
  have h1 := (h j hj).1
  have ha : (⟨b, 0, none⟩ : Addr).add j = ⟨b, j, none⟩ := by
    simp only [Addr.add]
    split <;> simp_all
  rw [ha, h1]
  simp [List.getD_eq_getElem?_getD, hj]

def Zk (n k : Nat) : List UInt8 := List.replicate k 122 ++ List.replicate (n - k) 0
theorem Zk_succ (n k : Nat) (h : k < n) : (Zk n k).set k 122 = Zk n (k + 1) := by
  apply List.ext_getElem?
  intro j
  simp only [Zk]
  by_cases e : j = k
  · subst e
    rw [List.getElem?_set_self (by simp; omega), List.getElem?_append_left (by simp)]
    simp
  · rw [List.getElem?_set_ne (Ne.symm e)]
    by_cases hlt : j < k
    · rw [List.getElem?_append_left (by simp; omega), List.getElem?_append_left (by simp; omega)]
      simp [hlt, show j < k + 1 from by omega]
    · rw [List.getElem?_append_right (by simp; omega), List.getElem?_append_right (by simp; omega)]
      simp only [List.length_replicate, List.getElem?_replicate]
      by_cases hj : j < n
      · rw [if_pos (by omega), if_pos (by omega)]
      · rw [if_neg (by omega), if_neg (by omega)]

set_option maxHeartbeats 1000000 in
set_option maxRecDepth 100000 in
theorem fresh_any (n : Nat) (w : World) (hn : n ≤ 2000000) :
    Calls Try.prog 31 #[.int .i64 n] w fun e w' => e = .returned (.string (B (List.replicate n 122))) ∧ Below w.heap.size w w' := by
  obtain ⟨w1, hmake, hrow, hbel⟩ := madeB n w hn
  have HR : Hid (RowB w1 w.heap.size (List.replicate n 0)) := hrow
  have HB : Hid (Below w.heap.size w w1) := hbel
  clear hrow hbel
  go_enter Try.func31, Try.ntmps31
  go_wp2_with fail
  go_loopw [4] (fun i wr => ∃ k : Nat, k ≤ n ∧ i = .int .i64 k ∧ RowB wr w.heap.size (Zk n k) ∧ Below w.heap.size w wr) (fun i _ => n - (intOf i).toNat)
  case atStart => exact ⟨0, by omega, rfl, by simpa [Zk] using HR.out, HB.out⟩
  case round =>
    obtain ⟨k, hk, rfl, hrow, hbel⟩ := hrel
    by_cases hlt : k < n
    · have hl : (Zk n k).length = n := by simp [Zk]; omega
      obtain ⟨hcell, hfro⟩ := hrow k (by rw [hl]; exact hlt)
      have H1 : Hid (RowB wr w.heap.size (Zk n k)) := hrow
      have H2 : Hid (Below w.heap.size w wr) := hbel
      clear hrow hbel
      go_wp2_with fail
      refine ⟨⟨k + 1, by omega, by go_num, ?_, H2.out.setCell (Nat.le_refl _) _⟩, by simp [intOf]; omega⟩
      rw [← Zk_succ n k hlt]
      exact H1.out.set (k := k) (by rw [hl]; exact hlt) 122
    · obtain rfl : k = n := by omega
      have hl : (Zk k k).length = k := by simp [Zk]
      have hfb := fun cap => fromBytes hrow k cap hl.symm
      have H2 : Hid (Below w.heap.size w wr) := hbel
      have HZ : Hid ((⟨(Zk k k).toArray⟩ : ByteArray) = B (List.replicate k 122)) := by simp [Hid, Zk, B]
      generalize (⟨(Zk k k).toArray⟩ : ByteArray) = z at *
      clear hrow hbel hl
      go_wp2_with fail
      go_ret
      exact ⟨by rw [← HZ.out]; rfl, H2.out⟩
end Go.Proofs.Qxb6600528a.leaves
