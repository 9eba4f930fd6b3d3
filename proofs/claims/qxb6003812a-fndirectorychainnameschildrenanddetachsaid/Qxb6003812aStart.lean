import Derived.Test.Qxb6003812aFacts
namespace Go.Proofs.Qxb6003812a.chain
open Go.RowKit

theorem sum_names : ∀ F : List ByteArray, (F.map fun e => e.data.toList.length + 1).sum = F.length + total F
  | [] => rfl
  | x :: F => by
    have ih := sum_names F
    simp only [total, List.map_cons, List.sum_cons, List.length_cons] at ih ⊢
    have : x.data.toList.length = x.size := (Lib.size_eq _).symm
    omega

theorem wantB_size (F : List ByteArray) (j : Nat) : (wantB F j).size ≤ F.length + total F + 1 := by
  have h1 := path_len ((F.take j).map (·.data.toList))
  have h2 := sum_names (F.take j)
  have h3 := total_le F j
  have h4 : (wantB F j).size = (path ((F.take j).map (·.data.toList))).length := by
    rw [Lib.size_eq]
    rfl
  rw [List.map_map] at h1
  have h5 : (F.take j).length ≤ F.length := by rw [List.length_take]; omega
  simp only [Function.comp_def] at h1
  omega

theorem name_size (F : List ByteArray) (j : Nat) (h : j < F.length) : (F.getD j ByteArray.empty).size ≤ total F := by
  have e1 := total_take F j h
  have e2 := total_le F (j + 1)
  omega

theorem fill_nil (n : Nat) (z : Value) : List.replicate n z = fill [] n z := by simp [fill]

theorem St.start {w w1 w2 w3 w4 w5 w6 : World} {F : List ByteArray} {a' : Option Addr} (hN : Nc w1 w.heap.size a' F ∧ Below w.heap.size w w1)
    (hM : Rw w2 w1.heap.size (List.replicate (F.length + 1) (.pointer none)) ∧ Below w1.heap.size w1 w2 ∧ w2.heap.size = w1.heap.size + 1)
    (hNN : Rw w3 w2.heap.size (List.replicate F.length (.pointer none)) ∧ Below w2.heap.size w2 w3 ∧ w3.heap.size = w2.heap.size + 1)
    (hO : Rw w4 w3.heap.size (List.replicate F.length (.pointer none)) ∧ Below w3.heap.size w3 w4 ∧ w4.heap.size = w3.heap.size + 1)
    (hP : Rw w5 w4.heap.size (List.replicate (F.length + 1) (.string ByteArray.empty)) ∧ Below w4.heap.size w4 w5 ∧ w5.heap.size = w4.heap.size + 1)
    (hd6 : Nd w6 w5.heap.size DIR none false) (hb6 : Below w5.heap.size w5 w6) :
    (∃ v, w6.cell? ⟨w1.heap.size, 0, none⟩ = some v) ∧ w6.frozen? ⟨w1.heap.size, 0, none⟩ = false ∧
    (∃ v, (w6.setCell ⟨w1.heap.size, 0, none⟩ (ptr w5.heap.size)).cell? ⟨w4.heap.size, 0, none⟩ = some v) ∧ (w6.setCell ⟨w1.heap.size, 0, none⟩ (ptr w5.heap.size)).frozen? ⟨w4.heap.size, 0, none⟩ = false ∧
    St w F a' w1.heap.size w2.heap.size w3.heap.size w4.heap.size w5.heap.size 0 [] ((w6.setCell ⟨w1.heap.size, 0, none⟩ (ptr w5.heap.size)).setCell ⟨w4.heap.size, 0, none⟩ (.string ⟨#[47]⟩)) := by
  obtain ⟨n1, n2⟩ := hN
  obtain ⟨a1, a2, a3⟩ := hM
  obtain ⟨b1, b2, b3⟩ := hNN
  obtain ⟨c1, c2, c3⟩ := hO
  obtain ⟨d1, d2, d3⟩ := hP
  have hsz := n2.size
  rw [fill_nil] at a1 b1 c1 d1
  have A : Rw w6 w1.heap.size (fill [] (F.length + 1) (.pointer none)) := (((a1.below b2 (by omega)).below c2 (by omega)).below d2 (by omega)).below hb6 (by omega)
  have B : Rw w6 w2.heap.size (fill [] F.length (.pointer none)) := ((b1.below c2 (by omega)).below d2 (by omega)).below hb6 (by omega)
  have C : Rw w6 w3.heap.size (fill [] F.length (.pointer none)) := (c1.below d2 (by omega)).below hb6 (by omega)
  have E : Rw w6 w4.heap.size (fill [] (F.length + 1) (.string ByteArray.empty)) := d1.below hb6 (by omega)
  have A' := A.put (ptr w5.heap.size)
  have E' := (E.other w1.heap.size 0 (by omega) (ptr w5.heap.size)).put (.string ⟨#[47]⟩)
  have E0 := (E.other w1.heap.size 0 (by omega) (ptr w5.heap.size)).next
  have bel16 : Below w1.heap.size w1 w6 := a2.trans ((b2.mono (by omega)).trans ((c2.mono (by omega)).trans ((d2.mono (by omega)).trans (hb6.mono (by omega)))))
  refine ⟨A.next.1, A.next.2, E0.1, E0.2, ?_⟩
  refine ⟨?_, by omega, by omega, by omega, by omega, ?_, ?_, ?_, ?_, ?_, by simp [blks], ?_, rfl, by simp, ?_⟩
  · intro hp
    obtain ⟨b, h1, h2, h3, h4⟩ := n1 hp
    refine ⟨b, h1, h3, fun j hj => ?_⟩
    rw [World.cell?_setCell_other _ _ _ _ (by intro h; injection h; omega), World.cell?_setCell_other _ _ _ _ (by intro h; injection h; omega), bel16.cell (p := ⟨b, j, none⟩) h3]
    exact h4 j hj
  · exact A'.other w4.heap.size 0 (by omega) _
  · exact (B.other w1.heap.size 0 (by omega) _).other w4.heap.size 0 (by omega) _
  · exact (C.other w1.heap.size 0 (by omega) _).other w4.heap.size 0 (by omega) _
  · exact E'
  · exact (hd6.of_blk (Below.heap_setCell _ _ _ _ (show w5.heap.size ≠ w1.heap.size by omega))).of_blk (Below.heap_setCell _ _ _ _ (show w5.heap.size ≠ w4.heap.size by omega))
  · intro b hb
    simp only [blks, List.mem_singleton] at hb
    omega
  · exact ((n2.trans (bel16.mono (by omega))).setCell (p := ⟨w1.heap.size, 0, none⟩) (by exact hsz) _).setCell (p := ⟨w4.heap.size, 0, none⟩) (show w.heap.size ≤ w4.heap.size by omega) _

/-- the facts of one round of the building, at every world on its way -/
theorem St.cells {w0 : World} {F : List ByteArray} {a : Option Addr} {bd bs bf bw r0 i : Nat} {ls : List Lev} {w : World} (h : St w0 F a bd bs bf bw r0 i ls w) (hi : i < F.length) {W : World} (kb : Below (bw + 1) w W) :
    ∃ b, a = some ⟨b, 0, none⟩ ∧ b < bd ∧ W.cell? ⟨b, i, none⟩ = some (.string (F.getD i ByteArray.empty)) ∧ W.cell? ⟨bd, i, none⟩ = some (ptr (last r0 ls)) := by
  obtain ⟨nc, o0, o1, o2, o3, rd, rs, rf, rw_, ch, nd, lo, len, nm, bel⟩ := h
  obtain ⟨b, h1, h2, h3⟩ := nc (by omega)
  refine ⟨b, h1, h2, (kb.cell (p := ⟨b, i, none⟩) (show b < bw + 1 by omega)).trans (h3 i hi), ?_⟩
  rw [kb.cell (p := ⟨bd, i, none⟩) (show bd < bw + 1 by omega), rd.at (j := i) (by simp [dirs, len])]
  have e : ∀ (ls : List Lev) (d : Nat), (dirs d ls).getD ls.length 0 = last d ls := by
    intro ls
    induction ls with
    | nil => intro d; simp [dirs, last]
    | cons L ls ih =>
      intro d
      have := ih L.db
      simpa [dirs, last] using this
  rw [map_getD _ _ (by simp [dirs, len]), ← len, e]

/-- what the stores of the round's end find -/
theorem St.stores {w0 : World} {F : List ByteArray} {a : Option Addr} {bd bs bf bw r0 i : Nat} {ls : List Lev} {w : World} (h : St w0 F a bd bs bf bw r0 i ls w) (hi : i < F.length) {W : World} (kb : Below (bw + 1) w W) (x y z : Value) :
    ((∃ v, W.cell? ⟨bd, i + 1, none⟩ = some v) ∧ W.frozen? ⟨bd, i + 1, none⟩ = false) ∧
    ((∃ v, (W.setCell ⟨bd, i + 1, none⟩ x).cell? ⟨bs, i, none⟩ = some v) ∧ (W.setCell ⟨bd, i + 1, none⟩ x).frozen? ⟨bs, i, none⟩ = false) ∧
    ((∃ v, ((W.setCell ⟨bd, i + 1, none⟩ x).setCell ⟨bs, i, none⟩ y).cell? ⟨bf, i, none⟩ = some v) ∧ ((W.setCell ⟨bd, i + 1, none⟩ x).setCell ⟨bs, i, none⟩ y).frozen? ⟨bf, i, none⟩ = false) ∧
    ((∃ v, (((W.setCell ⟨bd, i + 1, none⟩ x).setCell ⟨bs, i, none⟩ y).setCell ⟨bf, i, none⟩ z).cell? ⟨bw, i + 1, none⟩ = some v) ∧ (((W.setCell ⟨bd, i + 1, none⟩ x).setCell ⟨bs, i, none⟩ y).setCell ⟨bf, i, none⟩ z).frozen? ⟨bw, i + 1, none⟩ = false) ∧
    (((W.setCell ⟨bd, i + 1, none⟩ x).setCell ⟨bs, i, none⟩ y).setCell ⟨bf, i, none⟩ z).cell? ⟨bw, i, none⟩ = some (.string (wantB F i)) ∧
    ∀ b, a = some ⟨b, 0, none⟩ → (((W.setCell ⟨bd, i + 1, none⟩ x).setCell ⟨bs, i, none⟩ y).setCell ⟨bf, i, none⟩ z).cell? ⟨b, i, none⟩ = some (.string (F.getD i ByteArray.empty)) := by
  have hc := h.cells hi kb
  obtain ⟨nc, o0, o1, o2, o3, rd, rs, rf, rw_, ch, nd, lo, len, nm, bel⟩ := h
  have em : F.length - i = (F.length - (i + 1)) + 1 := by omega
  have ld : ((dirs r0 ls).map ptr).length = i + 1 := by simp [dirs, len]
  have lsd : (ls.map fun L => ptr L.sb).length = i := by simp [len]
  have lfd : (ls.map fun L => ptr L.fb).length = i := by simp [len]
  have lwd : (wants F i).length = i + 1 := wants_len F i
  rw [em] at rd rs rf rw_
  have r1 := (rd.below kb (by omega)).next
  have r2 := ((rs.below kb (by omega)).other bd (i + 1) (by omega) x).next
  have r3 := (((rf.below kb (by omega)).other bd (i + 1) (by omega) x).other bs i (by omega) y).next
  have R4 := ((((rw_.below kb (by omega)).other bd (i + 1) (by omega) x).other bs i (by omega) y).other bf i (by omega) z)
  have r4 := R4.next
  have r5 := R4.at (j := i) (by rw [lwd]; omega)
  rw [ld] at r1
  rw [lsd] at r2
  rw [lfd] at r3
  rw [lwd] at r4
  rw [wants_at F i i (Nat.le_refl _)] at r5
  refine ⟨r1, r2, r3, r4, r5, fun b hb => ?_⟩
  obtain ⟨b', h1, h2, h3, _⟩ := hc
  rw [h1] at hb
  cases hb
  rw [World.cell?_setCell_other _ _ _ _ (by intro h; injection h; omega), World.cell?_setCell_other _ _ _ _ (by intro h; injection h; omega), World.cell?_setCell_other _ _ _ _ (by intro h; injection h; omega)]
  exact h3

end Go.Proofs.Qxb6003812a.chain
