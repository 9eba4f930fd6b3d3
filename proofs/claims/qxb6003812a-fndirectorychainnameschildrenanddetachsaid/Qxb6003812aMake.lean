import Derived.Test.Qxb6003812aMem
import Derived.Laws.IdiomMaps
import Derived.Carry
import Derived.WalkSpells
namespace Go.Proofs.Qxb6003812a.chain
open Go.RowKit
open Go.ChangeMaps (setBlock)

theorem nd_alloc (w : World) (m : Int) (c1 c2 c3 c4 c5 c6 c7 : Value) : Nd (w.alloc (.cells #[.int .u32 m, c1, c2, c3, c4, c5, c6, c7, .map none, .bool false] 64)) w.heap.size m none false := by
  refine ⟨?_, ?_, ?_, ?_, ?_, ⟨_, heap_alloc_new _ _⟩⟩
  · rw [World.cell?_alloc_new]; rfl
  · rw [World.cell?_alloc_new]; rfl
  · rw [World.cell?_alloc_new]; rfl
  · simp only [World.frozen?]
    rw [heap_alloc_new]
    rfl
  · simp only [World.frozen?]
    rw [heap_alloc_new]
    rfl

set_option maxHeartbeats 1000000 in
set_option maxRecDepth 100000 in
theorem newDir_any (w : World) : Calls Try.prog 10 #[] w fun e w' => e = .returned (ptr w.heap.size) ∧ Nd w' w.heap.size DIR none false ∧ w'.heap.size = w.heap.size + 1 ∧ Below w.heap.size w w' := by
  go_enter Try.func10, Try.ntmps10
  go_wp2
  go_ret
  refine ⟨rfl, nd_alloc _ _ _ _ _ _ _ _ _, by simp, (Below.refl _ w).alloc (Nat.le_refl _) _⟩

set_option maxHeartbeats 1000000 in
set_option maxRecDepth 100000 in
theorem newFile_any (w : World) : Calls Try.prog 11 #[] w fun e w' => e = .returned (ptr w.heap.size) ∧ Nd w' w.heap.size 0 none false ∧ w'.heap.size = w.heap.size + 1 ∧ Below w.heap.size w w' := by
  go_enter Try.func11, Try.ntmps11
  go_wp2
  go_ret
  refine ⟨rfl, nd_alloc _ _ _ _ _ _ _ _ _, by simp, (Below.refl _ w).alloc (Nat.le_refl _) _⟩

theorem run_put (w : World) (b : Nat) (es : Array MapEntry) (clock : Nat) (n : ByteArray) (v : Value) (hb : w.heap[b]? = some (.map es clock)) (hf : Instr.findNow .string (.string n) es.toList 0 = some none) :
    (Instr.mapUpdate 62 (.map (some b)) (.string n) v).run Try.prog w = .ok () (setBlock w b (.map (es.push ⟨.string n, v, clock⟩) (clock + 1))) := by
  simp [Instr.mapUpdate, run_underlying Try.underlying62, MapKept.run_getObj_map hb, MapKept.run_checkKey Try.underlying9 (k := .string n) (by simp [MapKept.IsKey]), MapKept.run_findKey Try.underlying9 hf, MapKept.run_setObj_map _ hb, Result.andThen, setBlock]

theorem run_get (w : World) (b : Nat) (es : Array MapEntry) (clock : Nat) (n : ByteArray) (j : Nat) (v : Value) (hb : w.heap[b]? = some (.map es clock)) (hf : Instr.findNow .string (.string n) es.toList 0 = some (some (j, v))) :
    (Instr.lookup 62 (.map (some b)) (.string n) false).run Try.prog w = .ok v w := by
  simp [Instr.lookup, run_underlying Try.underlying62, MapKept.run_getObj_map hb, MapKept.run_checkKey Try.underlying9 (k := .string n) (by simp [MapKept.IsKey]), MapKept.run_findKey Try.underlying9 hf, Result.andThen]

theorem run_get_none (w : World) (b : Nat) (es : Array MapEntry) (clock : Nat) (n : ByteArray) (hb : w.heap[b]? = some (.map es clock)) (hf : Instr.findNow .string (.string n) es.toList 0 = some none) :
    (Instr.lookup 62 (.map (some b)) (.string n) false).run Try.prog w = .ok (.pointer none) w := by
  simp [Instr.lookup, run_underlying Try.underlying62, MapKept.run_getObj_map hb, MapKept.run_checkKey Try.underlying9 (k := .string n) (by simp [MapKept.IsKey]), MapKept.run_findKey Try.underlying9 hf, Result.andThen]

theorem run_get_nil (w : World) (n : ByteArray) :
    (Instr.lookup 62 (.map none) (.string n) false).run Try.prog w = .ok (.pointer none) w := by
  simp [Instr.lookup, run_underlying Try.underlying62, MapKept.run_checkKey Try.underlying9 (k := .string n) (by simp [MapKept.IsKey]), MapKept.run_findKey (l := []) Try.underlying9 (k := .string n) (a := none) rfl, Result.andThen]

theorem below_setBlock {B : Nat} {a w : World} (h : Below B a w) {b : Nat} (hb : B ≤ b) (o : Obj) : Below B a (setBlock w b o) :=
  h.trans ⟨rfl, rfl, rfl, by simp [setBlock], fun k hk => by simp only [setBlock]; rw [Array.getElem?_setIfInBounds_ne (by omega)]⟩

theorem heap_set_ne (w : World) (b : Nat) (o : Obj) (i : Nat) (h : i ≠ b) : (setBlock w b o).heap[i]? = w.heap[i]? := by
  simp only [setBlock]
  rw [Array.getElem?_setIfInBounds_ne (Ne.symm h)]

set_option maxHeartbeats 1000000 in
set_option maxRecDepth 100000 in
theorem link_more (w : World) (d : Nat) (mb : Nat) (rem : Bool) (es : Array MapEntry) (clock : Nat) (n : ByteArray) (c : Nat) (hn : Nd w d DIR (some mb) rem) (hb : w.heap[mb]? = some (.map es clock))
    (hf : Instr.findNow .string (.string n) es.toList 0 = some none) :
    Calls Try.prog 12 #[ptr d, .string n, ptr c] w fun e w' => e = .returned (.tuple #[]) ∧ w' = setBlock w mb (.map (es.push ⟨.string n, ptr c, clock⟩) (clock + 1)) := by
  have c8 := hn.c8
  have hrun := run_put w mb es clock n (ptr c) hb hf
  have hq := run_eql_map_nil w 62 9 27 (some mb) Try.underlying62
  clear hn hb hf
  go_enter Try.func12, Try.ntmps12
  go_wp2
  go_end0
  exact ⟨rfl, rfl⟩

theorem bk_set {w : World} {d : Nat} (h : ∃ c, w.heap[d]? = some (.cells c 64 (0, 0))) (o : Nat) (v : Value) : ∃ c, (w.setCell ⟨d, o, none⟩ v).heap[d]? = some (.cells c 64 (0, 0)) := by
  obtain ⟨c, hc⟩ := h
  simp only [World.setCell, Array.getElem?_modify, if_true, hc, Option.map_some]
  exact ⟨_, rfl⟩

theorem Nd.setEnt {w : World} {d : Nat} {m : Int} {ent : Option Nat} {rem : Bool} (h : Nd w d m ent rem) (x : Option Nat) : Nd (w.setCell ⟨d, 8, none⟩ (.map x)) d m x rem := by
  refine ⟨?_, World.cell?_setCell_same _ _ _ h.c8, ?_, by rw [World.frozen?_setCell]; exact h.f8, by rw [World.frozen?_setCell]; exact h.f9, bk_set h.bk _ _⟩
  · rw [World.cell?_setCell_other _ _ _ _ (by intro h; injection h; omega)]; exact h.c0
  · rw [World.cell?_setCell_other _ _ _ _ (by intro h; injection h; omega)]; exact h.c9

theorem Nd.setRem {w : World} {d : Nat} {m : Int} {ent : Option Nat} {rem : Bool} (h : Nd w d m ent rem) (x : Bool) : Nd (w.setCell ⟨d, 9, none⟩ (.bool x)) d m ent x := by
  refine ⟨?_, ?_, World.cell?_setCell_same _ _ _ h.c9, by rw [World.frozen?_setCell]; exact h.f8, by rw [World.frozen?_setCell]; exact h.f9, bk_set h.bk _ _⟩
  · rw [World.cell?_setCell_other _ _ _ _ (by intro h; injection h; omega)]; exact h.c0
  · rw [World.cell?_setCell_other _ _ _ _ (by intro h; injection h; omega)]; exact h.c8

theorem size_setCell (w : World) (a : Addr) (v : Value) : (w.setCell a v).heap.size = w.heap.size := by simp [World.setCell]
theorem size_setBlock (w : World) (b : Nat) (o : Obj) : (setBlock w b o).heap.size = w.heap.size := by simp [setBlock]

set_option maxHeartbeats 1000000 in
set_option maxRecDepth 100000 in
theorem link_new (w : World) (d : Nat) (rem : Bool) (n : ByteArray) (c : Nat) (hn : Nd w d DIR none rem) :
    Calls Try.prog 12 #[ptr d, .string n, ptr c] w fun e w' => e = .returned (.tuple #[]) ∧ Nd w' d DIR (some w.heap.size) rem ∧ w'.heap.size = w.heap.size + 1 ∧
      w'.heap[w.heap.size]? = some (.map #[⟨.string n, ptr c, 0⟩] 1) ∧ (∀ b, b < w.heap.size → b ≠ d → w'.heap[b]? = w.heap[b]?) ∧ (∀ B, B ≤ d → Below B w w') := by
  have hlt := hn.lt
  have c8 := hn.c8
  have h1 : Nd (w.alloc (.map #[] 0)) d DIR none rem := hn.of_blk (Below.heap_alloc _ _ _ hlt)
  have d8 := h1.c8
  have g8 := h1.f8
  have h2 := h1.setEnt (some w.heap.size)
  have e8 := h2.c8
  have hm : ((w.alloc (.map #[] 0)).setCell ⟨d, 8, none⟩ (.map (some w.heap.size))).heap[w.heap.size]? = some (.map #[] 0) := by
    rw [Below.heap_setCell _ _ _ _ (show w.heap.size ≠ d by omega)]
    exact heap_alloc_new _ _
  have hrun := run_put _ _ _ _ n (ptr c) hm rfl
  have hq := run_eql_map_nil w 62 9 27 none Try.underlying62
  have hmm := @run_makeMap Try.prog
  have HH : Hid (_ ∧ _ ∧ _) := ⟨h2, hm, hlt⟩
  clear hn h1 h2 hm hlt
  go_enter Try.func12, Try.ntmps12
  go_wp2
  go_end0
  obtain ⟨h2, hm, hlt⟩ := HH.out
  refine ⟨rfl, h2.of_blk (heap_set_ne _ _ _ _ (by omega)), ?_, ?_, ?_, ?_⟩
  · rw [size_setBlock, size_setCell]; simp
  · exact (MapKept.heap_set hm).1
  · intro b hb hbd
    rw [heap_set_ne _ _ _ _ (by omega), Below.heap_setCell _ _ _ _ hbd, Below.heap_alloc _ _ _ hb]
  · intro B hB
    exact below_setBlock ((((Below.refl B w).alloc (by omega) _)).setCell hB _) (by omega) _

end Go.Proofs.Qxb6003812a.chain
