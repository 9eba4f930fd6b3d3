import Derived.Test.Qxb6003812aName
namespace Go.Proofs.Qxb6003812a.chain
open Go.RowKit
open Go.ChangeMaps (setBlock)

def Det (B : Nat) (T : List Nat) (w w' : World) : Prop :=
  (∀ b ∈ T, Nd w' b DIR none true) ∧ (∀ b, b < w.heap.size → b ∉ T → w'.heap[b]? = w.heap[b]?) ∧ Below B w w'

theorem nd_done {w : World} {d : Nat} {ent : Option Nat} (h : Nd w d DIR ent false) : Nd ((w.setCell ⟨d, 8, none⟩ (.map none)).setCell ⟨d, 9, none⟩ (.bool true)) d DIR none true :=
  (h.setEnt none).setRem true

theorem heap_done (w : World) (d : Nat) (u v : Value) (b : Nat) (h : b ≠ d) : ((w.setCell ⟨d, 8, none⟩ u).setCell ⟨d, 9, none⟩ v).heap[b]? = w.heap[b]? := by
  rw [Below.heap_setCell _ _ _ _ h, Below.heap_setCell _ _ _ _ h]

set_option maxHeartbeats 1000000 in
set_option maxRecDepth 100000 in
theorem det_file (w : World) (d : Nat) (rem : Bool) (ent : Option Nat) (h : Nd w d 0 ent rem) : Calls Try.prog 34 #[ptr d] w fun e w' => e = .returned (.tuple #[]) ∧ w' = w := by
  have c0 := h.c0
  clear h
  go_enter Try.func34, Try.ntmps34
  go_wp2
  all_goals first | go_end0 | refine bodyPost_ret (results_none rfl _ _ _) rfl ?_
  exact ⟨rfl, rfl⟩

set_option maxHeartbeats 1000000 in
set_option maxRecDepth 100000 in
theorem isDir_dir (w : World) (d : Nat) (c0 : w.cell? ⟨d, 0, none⟩ = some (.int .u32 DIR)) : Calls Try.prog 42 #[ptr d] w fun e w' => e = .returned (.bool true) ∧ w' = w := by
  go_enter Try.func42, Try.ntmps42
  go_wp2
  all_goals go_ret
  exact ⟨rfl, rfl⟩

set_option maxHeartbeats 1000000 in
set_option maxRecDepth 100000 in
theorem det_leaf (B : Nat) (w : World) (d : Nat) (h : Nd w d DIR none false) (hB : B ≤ d) : Calls Try.prog 34 #[ptr d] w fun e w' => e = .returned (.tuple #[]) ∧ Det B [d] w w' := by
  have c0 := h.c0
  have c8 := h.c8
  have hlt := h.lt
  have hr := run_range_nilMap (P := Try.prog) w 62 9 27 Try.underlying62
  have hn := fun ty => run_next_nilMap (P := Try.prog) w ty 0 0 #[]
  have h1 : Nd (w.alloc (.mapIter none 0 #[] 0)) d DIR none false := h.of_blk (heap_alloc_old _ _ hlt)
  have a8 := h1.c8
  have b8 := h1.f8
  have h2 := h1.setEnt none
  have a9 := h2.c9
  have b9 := h2.f9
  have HH : Hid (Det B [d] w (((w.alloc (.mapIter none 0 #[] 0)).setCell ⟨d, 8, none⟩ (.map none)).setCell ⟨d, 9, none⟩ (.bool true))) := by
    refine ⟨?_, ?_, ?_⟩
    · intro b hb
      obtain rfl := List.mem_singleton.1 hb
      exact nd_done h1
    · intro b hb hne
      rw [heap_done _ _ _ _ _ (by simpa using hne)]
      exact heap_alloc_old _ _ hb
    · exact (((Below.refl B w).alloc (by omega) _).setCell hB _).setCell hB _
  clear h h1 h2 hlt hB
  go_enter Try.func34, Try.ntmps34
  go_wp2_with (go_at_call 42; refine (isDir_dir _ _ c0).mono ?_; rintro e w' ⟨rfl, hw⟩; rw [hw])
  go_loopw [3] (fun _ wr => wr = w.alloc (.mapIter none 0 #[] 0)) (fun _ _ => 0)
  case atStart => rfl
  case round =>
    obtain rfl := hrel
    go_wp2_with fail
    go_end0
    exact ⟨rfl, HH.out⟩

end Go.Proofs.Qxb6003812a.chain
