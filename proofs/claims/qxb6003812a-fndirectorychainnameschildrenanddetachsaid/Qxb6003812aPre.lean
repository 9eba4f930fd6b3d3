import Derived.Test.Qxb6003812aMake
import Derived.Test.Qxb6003812aPath
import Derived.Laws.MakeOwn
import Derived.OwnWalk
import Derived.Laws.IdiomCopy
import Derived.Lib.Strings
import Derived.Lib.Bytealg
import Derived.Lib.SliceRun
namespace Go.Proofs.Qxb6003812a.chain
open Go.RowKit

/-- block b holds the values l, none of them frozen -/
def Rw (w : World) (b : Nat) (l : List Value) : Prop := b < w.heap.size ∧ ∀ j, j < l.length → w.cell? ⟨b, j, none⟩ = some (l.getD j .nilIface) ∧ w.frozen? ⟨b, j, none⟩ = false

theorem Rw.of_blk {w w' : World} {b : Nat} {l : List Value} (h : Rw w b l) (e : w'.heap[b]? = w.heap[b]?) (hs : b < w'.heap.size) : Rw w' b l :=
  ⟨hs, fun j hj => ⟨(World.cell?_of_block (w := w) (a := ⟨b, j, none⟩) e).trans (h.2 j hj).1, (World.frozen?_of_block (w := w) (a := ⟨b, j, none⟩) e).trans (h.2 j hj).2⟩⟩

theorem Rw.below {w w' : World} {b : Nat} {l : List Value} {B : Nat} (h : Rw w b l) (e : Below B w w') (hB : b < B) : Rw w' b l :=
  h.of_blk (e.block b hB) (Nat.lt_of_lt_of_le h.1 e.size)

theorem Rw.set {w : World} {b : Nat} {l : List Value} (h : Rw w b l) {k : Nat} (hk : k < l.length) (v : Value) : Rw (w.setCell ⟨b, k, none⟩ v) b (l.set k v) := by
  refine ⟨by rw [size_setCell]; exact h.1, fun j hj => ?_⟩
  rw [List.length_set] at hj
  obtain ⟨h1, h2⟩ := h.2 j hj
  refine ⟨?_, by rw [World.frozen?_setCell]; exact h2⟩
  by_cases e : j = k
  · subst e
    rw [World.cell?_setCell_same _ _ _ h1]
    simp [List.getD_eq_getElem?_getD, List.getElem?_set_self hk]
  · rw [World.cell?_setCell_other _ _ _ _ (by intro h; injection h; omega)]
    rw [h1]
    simp [List.getD_eq_getElem?_getD, List.getElem?_set_ne (Ne.symm e)]

theorem info9 : (Try.prog.info? 9).map (fun i => (i.zero, i.size, i.bytes)) = some (some (.string ByteArray.empty), 1, 16) := by kernel_rfl
theorem info27 : (Try.prog.info? 27).map (fun i => (i.zero, i.size, i.bytes)) = some (some (.pointer none), 1, 8) := by kernel_rfl

theorem made (t e : TypeId) (z : Value) (bytes : Nat) (hu : Try.prog.underlying t = some (.slice e)) (hinfo : (Try.prog.info? e).map (fun i => (i.zero, i.size, i.bytes)) = some (some z, 1, bytes)) (hb16 : bytes ≤ 16) (hzc : z.cells = #[z]) (n : Nat) (w : World) (hn : n ≤ 2000000) :
    ∃ w1, (Instr.makeSlice t (.int .i64 n) (.int .i64 n)).run Try.prog w = .ok (.slice (some ⟨w.heap.size, 0, none⟩) n n) w1 ∧ Rw w1 w.heap.size (List.replicate n z) ∧ Below w.heap.size w w1 ∧ w1.heap.size = w.heap.size + 1 := by
  obtain ⟨i, hi, hz, hs, hb⟩ := info_parts hinfo
  have hm : bytes * n ≤ 16 * 2000000 := Nat.mul_le_mul hb16 hn
  have hmm : ((bytes : Int) * (n : Int)) = ((bytes * n : Nat) : Int) := by simp
  have hr := run_make (P := Try.prog) w t e i z hu hi hz .i64 .i64 n n (by omega) (Int.le_refl _) (by rw [hb]; omega) (by omega)
  rw [hs, hzc] at hr
  simp only [Int.toNat_natCast, Nat.mul_one] at hr
  refine ⟨_, hr, ⟨by simp, ?_⟩, (Below.refl _ _).alloc (Nat.le_refl _) _, by simp⟩
  intro j hj
  rw [List.length_replicate] at hj
  have hl := toList_madeCells_one z n
  have hc : (madeCells #[z] n)[j]? = some z := by
    rw [← Array.getElem?_toList, hl, List.getElem?_replicate, if_pos hj]
  refine ⟨?_, ?_⟩
  · have h1 := World.cell?_alloc_mark w (madeCells #[z] n) e (0, 0) j
    refine h1.trans ?_
    rw [hc]
    simp [List.getD_eq_getElem?_getD, hj]
  · have h1 := World.frozen?_alloc_mark w (madeCells #[z] n) e 0 0 j
    refine h1.trans ?_
    simp

theorem madeS (n : Nat) (w : World) (hn : n ≤ 2000000) : ∃ w1, (Instr.makeSlice 22 (.int .i64 n) (.int .i64 n)).run Try.prog w = .ok (.slice (some ⟨w.heap.size, 0, none⟩) n n) w1 ∧ Rw w1 w.heap.size (List.replicate n (.string ByteArray.empty)) ∧ Below w.heap.size w w1 ∧ w1.heap.size = w.heap.size + 1 :=
  made 22 9 _ 16 Try.underlying22 info9 (by omega) rfl n w hn
theorem madeP (n : Nat) (w : World) (hn : n ≤ 2000000) : ∃ w1, (Instr.makeSlice 26 (.int .i64 n) (.int .i64 n)).run Try.prog w = .ok (.slice (some ⟨w.heap.size, 0, none⟩) n n) w1 ∧ Rw w1 w.heap.size (List.replicate n (.pointer none)) ∧ Below w.heap.size w w1 ∧ w1.heap.size = w.heap.size + 1 :=
  made 26 27 _ 8 Try.underlying26 info27 (by omega) rfl n w hn

/-- a Boolean comes back; where it is true, p holds -/
def Yes (e : Ending) (p : Prop) : Prop := ∃ b, e = .returned (.bool b) ∧ (b = true → p)
theorem Yes.no {p : Prop} : Yes (.returned (.bool false)) p := ⟨false, rfl, fun h => by cases h⟩
theorem Yes.yes {p : Prop} (h : p) : Yes (.returned (.bool true)) p := ⟨true, rfl, fun _ => h⟩

/-- the slice names: her strings, wherever they lie -/
def Nm (w : World) (a : Option Addr) (F : List ByteArray) : Prop :=
  0 < F.length → ∃ b o, a = some ⟨b, o, none⟩ ∧ b < w.heap.size ∧ ∀ i, i < F.length → w.cell? ⟨b, o + i, none⟩ = some (.string (F.getD i ByteArray.empty))

theorem byte_at (s : ByteArray) (k : Nat) (h : k < s.size) (h' : k < s.data.toList.length) : s.data.toList[k] = s[k]'h := by
  rfl

theorem no_slash (s : ByteArray) (h : ∀ j (hj : j < s.size), s[j]'hj ≠ 47) : 47 ∉ s.data.toList := by
  intro hm
  obtain ⟨j, hj, e⟩ := List.getElem_of_mem hm
  have hj' : j < s.size := by rw [Lib.size_eq]; exact hj
  exact h j hj' ((byte_at s j hj' hj).symm.trans e)

set_option maxHeartbeats 1000000 in
set_option maxRecDepth 100000 in
theorem valid_any (n : ByteArray) (w : World) (hs : n.size ≤ 2000000) : Calls Try.prog 8 #[.string n] w fun e w' => Yes e (good n.data.toList = true) ∧ w' = w := by
  obtain ⟨t0, h0⟩ : ∃ t, (n.toList == []) = t := ⟨_, rfl⟩
  obtain ⟨t1, h1⟩ : ∃ t, (n.toList == [46]) = t := ⟨_, rfl⟩
  obtain ⟨t2, h2⟩ : ∃ t, (n.toList == [46, 46]) = t := ⟨_, rfl⟩
  have HG : Hid ((t0 || t1 || t2) = false → (∀ j (hj : j < n.size), n[j]'hj ≠ 47) → good n.data.toList = true) := by
    intro hf hn
    rw [Lib.toList_data] at h0 h1 h2
    simp only [Bool.or_eq_false_iff] at hf
    obtain ⟨⟨rfl, rfl⟩, rfl⟩ := hf
    have hm := no_slash n hn
    have e3 : (n.data.toList.contains 47) = false := by
      rw [List.contains_eq_mem]; simpa using hm
    unfold good
    rw [bne, bne, bne, h0, h1, h2, e3]
    rfl
  cases t0
  · cases t1
    · cases t2
      · go_enter Try.func8, Try.ntmps8
        go_wp2_with fail
        go_loop [3] (fun i => ∃ k : Nat, k ≤ n.size ∧ i = .int .i64 k ∧ ∀ j (hj : j < n.size), j < k → n[j]'hj ≠ 47) (fun i => n.size - (intOf i).toNat)
        case atStart => exact ⟨0, by omega, rfl, fun j _ h => by omega⟩
        case round =>
          obtain ⟨k, hk, rfl, hrk⟩ := hrel
          have HK : Hid (∀ j (hj : j < n.size), j < k → n[j]'hj ≠ 47) := hrk
          clear hrk
          by_cases hlt : k < n.size
          · cases hb : ((((n[k]'hlt).toNat : Int)) == 47)
            · have HN : Hid (n[k]'hlt ≠ 47) := by
                intro e
                rw [e] at hb
                exact absurd hb (by decide)
              go_wp2_with fail
              refine ⟨⟨k + 1, by omega, by go_num, fun j hj hjk => ?_⟩, by simp [intOf]; omega⟩
              by_cases e : j = k
              · subst e; exact HN.out
              · exact HK.out j hj (by omega)
            · go_wp2_with fail
              go_ret
              exact ⟨Yes.no, rfl⟩
          · have HN : Hid (good n.data.toList = true) := HG.out rfl (fun j hj => HK.out j hj (by omega))
            go_wp2_with fail
            go_ret
            exact ⟨Yes.yes HN.out, rfl⟩
      · go_enter Try.func8, Try.ntmps8
        go_wp2_with fail
        go_ret
        exact ⟨Yes.no, rfl⟩
    · go_enter Try.func8, Try.ntmps8
      go_wp2_with fail
      go_ret
      exact ⟨Yes.no, rfl⟩
  · go_enter Try.func8, Try.ntmps8
    go_wp2_with fail
    go_ret
    exact ⟨Yes.no, rfl⟩

def total (F : List ByteArray) : Nat := (F.map (·.size)).sum

theorem total_take (F : List ByteArray) (k : Nat) (h : k < F.length) : total (F.take (k + 1)) = total (F.take k) + (F.getD k ByteArray.empty).size := by
  unfold total
  rw [List.take_add_one, List.map_append, List.sum_append, List.getElem?_eq_getElem h, List.getD_eq_getElem?_getD, List.getElem?_eq_getElem h]
  simp

theorem total_le (F : List ByteArray) (k : Nat) : total (F.take k) ≤ total F := by
  have : total F = total (F.take k) + total (F.drop k) := by
    unfold total
    rw [← List.sum_append, ← List.map_append, List.take_append_drop]
  omega

set_option maxHeartbeats 1000000 in
set_option maxRecDepth 100000 in
theorem zz_any (a : Option Addr) (cap : Nat) (F : List ByteArray) (w : World) (hF : Nm w a F) (hcap : F.length ≤ 9223372036854775807) (hz : ∀ x ∈ F, x.size ≤ 9223372036854775807) :
    Calls Try.prog 7 #[.slice a F.length cap] w fun e w' => Yes e (F.length + total F ≤ 1048576) ∧ w' = w := by
  have HF : Hid (Nm w a F) := hF
  have HZ : Hid (∀ k, k < F.length → (F.getD k ByteArray.empty).size ≤ 9223372036854775807) := fun k hk => hz _ (by
    rw [List.getD_eq_getElem?_getD, List.getElem?_eq_getElem hk]
    exact List.getElem_mem hk)
  clear hF hz
  by_cases hbig : 1048576 < F.length
  · go_enter Try.func7, Try.ntmps7
    go_wp2_with fail
    go_ret
    exact ⟨Yes.no, rfl⟩
  · go_enter Try.func7, Try.ntmps7
    go_wp2_with fail
    go_loop [3, 4] (fun z i => ∃ k : Nat, k ≤ F.length ∧ i = .int .i64 k ∧ z = .int .i64 ((F.length + total (F.take k) : Nat) : Int) ∧ F.length + total (F.take k) ≤ 1048576) (fun _ i => F.length - (intOf i).toNat)
    case atStart => exact ⟨0, by omega, rfl, by simp [total], by simp [total]; omega⟩
    case round =>
      obtain ⟨k, hk, rfl, rfl, hle⟩ := hrel
      by_cases hlt : k < F.length
      · obtain ⟨b, o, ha, hb, hc⟩ := HF.out (by omega)
        subst ha
        have hcell := hc k hlt
        have hsz := HZ.out k hlt
        have HT : Hid _ := total_take F k hlt
        have HT' : Hid (total (F.take (k + 1)) = total (F.take k) + (F.getD k ByteArray.empty).size) := HT
        obtain ⟨x, hx⟩ : ∃ x, F.getD k ByteArray.empty = x := ⟨_, rfl⟩
        obtain ⟨m, hm⟩ : ∃ x, total (F.take k) = x := ⟨_, rfl⟩
        rw [hx] at hcell hsz HT'
        rw [hm] at hle HT' ⊢
        clear hx hm hc hb HT
        by_cases h1 : 1048576 < x.size
        · go_wp2_with fail
          go_ret
          exact ⟨Yes.no, rfl⟩
        · by_cases h2 : 1048576 < F.length + m + x.size
          · go_wp2_with fail
            go_ret
            exact ⟨Yes.no, rfl⟩
          · go_wp2_with fail
            refine ⟨⟨k + 1, by omega, by go_num, ?_, ?_⟩, by simp [intOf]; omega⟩
            · rw [HT'.out]; go_num
            · rw [HT'.out]; omega
      · obtain rfl : k = F.length := by omega
        have HL : Hid (F.length + total F ≤ 1048576) := by
          rw [List.take_length] at hle
          exact hle
        go_wp2_with fail
        go_ret
        exact ⟨Yes.yes HL.out, rfl⟩

end Go.Proofs.Qxb6003812a.chain
