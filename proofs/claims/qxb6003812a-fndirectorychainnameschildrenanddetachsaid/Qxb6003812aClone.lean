import Derived.Test.Qxb6003812aPre
namespace Go.Proofs.Qxb6003812a.chain
open Go.RowKit

/-- the copy: her strings, in a new block, from its start -/
def Nc (w : World) (base : Nat) (a : Option Addr) (F : List ByteArray) : Prop :=
  0 < F.length → ∃ b, a = some ⟨b, 0, none⟩ ∧ base ≤ b ∧ b < w.heap.size ∧ ∀ i, i < F.length → w.cell? ⟨b, i, none⟩ = some (.string (F.getD i ByteArray.empty))

theorem Nc.below {w w' : World} {base : Nat} {a : Option Addr} {F : List ByteArray} (h : Nc w base a F) (bel : Below w.heap.size w w') : Nc w' base a F := fun hp => by
  obtain ⟨b, h1, h2, h3, h4⟩ := h hp
  exact ⟨b, h1, h2, Nat.lt_of_lt_of_le h3 bel.size, fun i hi => (bel.cell (p := ⟨b, i, none⟩) h3).trans (h4 i hi)⟩

theorem below_setCells (b : Nat) : ∀ (vs : List Value) (o : Nat) (B : Nat) (a w : World), Below B a w → B ≤ b → Below B a (w.setCells b o vs)
  | [], _, _, _, _, h, _ => h
  | v :: vs, o, B, a, _, h, hB => below_setCells b vs (o + 1) B a _ (h.setCell hB v) hB

set_option maxHeartbeats 1000000 in
set_option maxRecDepth 100000 in
theorem clone_nil (w : World) (cap : Nat) : Calls Try.prog 9 #[.slice none 0 cap] w fun e w' => e = .returned (.slice none 0 0) ∧ w' = w := by
  have hq := Lib.run_eql_slice_nil (P := Try.prog) w 22 9 none 0 cap 0 0 Try.underlying22
  go_enter Try.func9, Try.ntmps9
  go_wp2_with fail
  go_ret
  exact ⟨rfl, rfl⟩

set_option maxHeartbeats 1000000 in
set_option maxRecDepth 100000 in
theorem clone_zero (w : World) (x : Addr) (cap : Nat) : Calls Try.prog 9 #[.slice (some x) 0 cap] w fun e w' => (∃ a c, e = .returned (.slice a 0 c)) ∧ Below w.heap.size w w' := by
  have hq := Lib.run_eql_slice_nil (P := Try.prog) w 22 9 (some x) 0 cap 0 0 Try.underlying22
  obtain ⟨w1, h1, h2, h3, h4⟩ := madeS 0 w (by omega)
  have hc := fun ty => run_copy_none (P := Try.prog) w1 22 22 ty 9 (some ⟨w.heap.size, 0, none⟩) (some x) 0 0 0 cap Try.underlying22 (by kernel_rfl) rfl
  have HB : Hid (Below w.heap.size w w1) := h3
  have h1' : (Instr.makeSlice 22 (.int .i64 0) (.int .i64 0)).run Try.prog w = .ok (.slice (some ⟨w.heap.size, 0, none⟩) 0 0) w1 := h1
  clear h1 h2 h3 h4
  go_enter Try.func9, Try.ntmps9
  go_wp2_with fail
  go_ret
  exact ⟨⟨_, _, rfl⟩, HB.out⟩

set_option maxHeartbeats 1000000 in
set_option maxRecDepth 100000 in
theorem clone_some (w : World) (b o cap : Nat) (F : List ByteArray) (hn : F.length ≤ 2000000) (hcell : ∀ i, i < F.length → w.cell? ⟨b, o + i, none⟩ = some (.string (F.getD i ByteArray.empty))) (hb : b < w.heap.size) :
    Calls Try.prog 9 #[.slice (some ⟨b, o, none⟩) F.length cap] w fun e w' => (∃ a c, e = .returned (.slice a F.length c) ∧ Nc w' w.heap.size a F) ∧ Below w.heap.size w w' := by
  have hq := Lib.run_eql_slice_nil (P := Try.prog) w 22 9 (some ⟨b, o, none⟩) F.length cap 0 0 Try.underlying22
  obtain ⟨w1, h1, h2, h3, h4⟩ := madeS F.length w hn
  have hlen : (F.map Value.string).length = F.length := by simp
  have hc1 : ∀ j, j < (F.map Value.string).length → (w1.cell? ⟨w.heap.size, 0 + j, none⟩).isSome = true := fun j hj => by
    rw [Nat.zero_add, (h2.2 j (by simpa using hj)).1]; rfl
  have hc2 : ∀ j, j < (F.map Value.string).length → w1.frozen? ⟨w.heap.size, 0 + j, none⟩ = false := fun j hj => by
    rw [Nat.zero_add]; exact (h2.2 j (by simpa using hj)).2
  have hc := fun ty => run_copy_cells (P := Try.prog) w1 22 22 ty 9 w.heap.size 0 F.length F.length ⟨b, o, none⟩ F.length cap (F.map Value.string) Try.underlying22 (by kernel_rfl) (by rw [hlen]; exact (Nat.min_self _).symm)
    (fun j v hj => by
      have hjl : j < F.length := by
        have := (List.getElem?_eq_some_iff.1 hj).1
        simpa using this
      rw [show (⟨b, o, none⟩ : Addr).add j = ⟨b, o + j, none⟩ by simp [Addr.add]]
      rw [h3.cell (p := ⟨b, o + j, none⟩) hb, hcell j hjl, ← hj]
      simp [List.getD_eq_getElem?_getD, List.getElem?_eq_getElem hjl]) hc1 hc2
    (fun v hv => by
      obtain ⟨x, _, rfl⟩ := List.mem_map.1 hv
      rfl)
  have HN : Hid (Nc (w1.setCells w.heap.size 0 (F.map Value.string)) w.heap.size (some ⟨w.heap.size, 0, none⟩) F) := by
    intro _
    refine ⟨w.heap.size, rfl, Nat.le_refl _, ?_, fun i hi => ?_⟩
    · have := (below_setCells w.heap.size (F.map Value.string) 0 0 w1 w1 (Below.refl _ _) (Nat.zero_le _)).size
      omega
    · have := World.cell?_setCells_in w.heap.size (F.map Value.string) 0 w1 hc1 i (by rw [hlen]; exact hi)
      rw [Nat.zero_add] at this
      rw [this]
      simp [List.getD_eq_getElem?_getD, List.getElem?_eq_getElem hi]
  have HB : Hid (Below w.heap.size w (w1.setCells w.heap.size 0 (F.map Value.string))) := below_setCells _ _ _ _ _ _ h3 (Nat.le_refl _)
  clear h2 h3 h4 hlen hc1 hc2 hcell hb
  go_enter Try.func9, Try.ntmps9
  go_wp2_with fail
  go_ret
  exact ⟨⟨_, _, rfl, HN.out⟩, HB.out⟩

theorem clone_any (w : World) (a : Option Addr) (cap : Nat) (F : List ByteArray) (hF : Nm w a F) (hn : F.length ≤ 2000000) :
    Calls Try.prog 9 #[.slice a F.length cap] w fun e w' => (∃ a' c, e = .returned (.slice a' F.length c) ∧ Nc w' w.heap.size a' F) ∧ Below w.heap.size w w' := by
  by_cases hp : 0 < F.length
  · obtain ⟨b, o, rfl, hb, hc⟩ := hF hp
    exact clone_some w b o cap F hn hc hb
  · have h0 : F.length = 0 := by omega
    rw [h0]
    cases a with
    | none => exact (clone_nil w cap).mono fun e w' ⟨h1, h2⟩ => ⟨⟨none, 0, h1, fun h => absurd h hp⟩, by rw [h2]; exact Below.refl _ _⟩
    | some x => exact (clone_zero w x cap).mono fun e w' ⟨⟨a', c, h1⟩, h2⟩ => ⟨⟨a', c, h1, fun h => absurd h hp⟩, h2⟩

end Go.Proofs.Qxb6003812a.chain
