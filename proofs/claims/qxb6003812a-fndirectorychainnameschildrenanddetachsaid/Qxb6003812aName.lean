import Derived.Test.Qxb6003812aMake
import Derived.Test.Qxb6003812aPath
import Derived.Test.Qxb6003812aShelf
import Derived.LaidEqlPtr
import Derived.Maps.Range
namespace Go.Proofs.Qxb6003812a.chain
open Go.RowKit
open Go.ChangeMaps (setBlock)

def nm (t : Nat) : Nat → List Lev → Option (List (List UInt8))
  | d, [] => if d = t then some [] else none
  | d, L :: ls => if d = t then some [] else (nm t L.db ls).map (L.n.data.toList :: ·)

def ansS : Option (List (List UInt8)) → ByteArray
  | none => ⟨#[]⟩
  | some ns => ⟨(path ns).toArray⟩
abbrev ans (o : Option (List (List UInt8))) : Value := .tuple #[.string (ansS o), .bool o.isSome]

theorem info64k : (Try.prog.info? 64).map (fun i => i.size == 0) = some false := by kernel_rfl
theorem info64 : ∃ j, Try.prog.info? 64 = some j ∧ j.size ≠ 0 := by
  obtain ⟨i, hi, hz⟩ := Option.map_eq_some_iff.1 info64k
  exact ⟨i, hi, by intro e; rw [e] at hz; cases hz⟩

theorem ptr_eq (w : World) (a : Nat) : (binOp .eql 27 (ptr a) (ptr a)).run Try.prog w = .ok (.bool true) w := by
  obtain ⟨j, hj, _⟩ := info64
  exact run_eql_ptr_same w _ Try.underlying27 hj

theorem ptr_ne (w : World) (a b : Nat) (h : a ≠ b) (ha : ∃ c, w.heap[a]? = some (.cells c 64 (0, 0))) (hb : ∃ c, w.heap[b]? = some (.cells c 64 (0, 0))) : (binOp .eql 27 (ptr a) (ptr b)).run Try.prog w = .ok (.bool false) w := by
  obtain ⟨j, hj, hs⟩ := info64
  obtain ⟨c, hc⟩ := ha
  obtain ⟨c', hc'⟩ := hb
  exact run_eql_ptr_other w Try.underlying27 hj hs (by intro e; injection e; contradiction) hc hc'

set_option maxHeartbeats 1000000 in
set_option maxRecDepth 100000 in
theorem name_same (w : World) (t : Nat) : Calls Try.prog 32 #[ptr t, ptr t] w fun e w' => e = .returned (.tuple #[.string ⟨#[47]⟩, .bool true]) ∧ w' = w := by
  have hq := ptr_eq w t
  go_enter Try.func32, Try.ntmps32
  go_wp2
  go_ret2
  exact ⟨rfl, rfl⟩

set_option maxHeartbeats 1000000 in
set_option maxRecDepth 100000 in
theorem name_leaf (w : World) (d t : Nat) (h : d ≠ t) (m : Int) (rem : Bool) (hd : Nd w d m none rem) (ht : ∃ c, w.heap[t]? = some (.cells c 64 (0, 0))) :
    Calls Try.prog 32 #[ptr d, ptr t] w fun e w' => e = .returned (.tuple #[.string ⟨#[]⟩, .bool false]) ∧ Below w.heap.size w w' := by
  have hq := ptr_ne w d t h hd.bk ht
  have c8 := hd.c8
  have hr := run_range_nilMap (P := Try.prog) w 62 9 27 Try.underlying62
  have hn := fun ty => run_next_nilMap (P := Try.prog) w ty 0 0 #[]
  clear hd ht h
  go_enter Try.func32, Try.ntmps32
  go_wp2_with fail
  go_loopw [6] (fun _ wr => wr = w.alloc (.mapIter none 0 #[] 0)) (fun _ _ => 0)
  case atStart => rfl
  case round =>
    obtain rfl := hrel
    go_wp2_with fail
    go_ret2
    exact ⟨rfl, (Below.refl _ w).alloc (Nat.le_refl _) _⟩

theorem left_is {w : World} {mb r : Nat} {es : Array MapEntry} {cl : Nat} {x : Option Nat} {s : Nat} {seen : Array Nat} {c : Nat} (h1 : w.heap[mb]? = some (.map es cl)) (h2 : w.heap[r]? = some (.mapIter x s seen c)) : w.rangeLeft mb r = (leftOf es seen).size := by
  simp only [World.rangeLeft, h1, h2]

theorem step_world {wr w1 : World} {r : Nat} {old : Obj} (hal : w1 = wr ∨ w1 = wr.drew) (hit : wr.heap[r]? = some old) (o : Obj) :
    ∃ w2, setBlock w1 r o = w2 ∧ w2.heap[r]? = some o ∧ (∀ b, b ≠ r → w2.heap[b]? = wr.heap[b]?) ∧ w2.heap.size = wr.heap.size ∧ (∀ B, B ≤ r → Below B wr w2) := by
  have e1 : w1.heap = wr.heap := by rcases hal with rfl | rfl <;> rfl
  refine ⟨_, rfl, ?_, ?_, ?_, ?_⟩
  · exact (MapKept.heap_set (w := w1) (by rw [e1]; exact hit)).1
  · intro b hb
    rw [heap_set_ne _ _ _ _ hb, e1]
  · rw [size_setBlock, e1]
  · intro B hB
    refine below_setBlock ?_ hB o
    rcases hal with rfl | rfl
    · exact Below.refl _ _
    · exact (Below.refl _ _).drew

theorem ents_old (L : Lev) : ∀ x ∈ (ents L).toList, x.born < 3 := by
  intro x hx
  simp only [ents, List.mem_cons, List.not_mem_nil, or_false] at hx
  rcases hx with rfl | rfl | rfl <;> simp

theorem ents_born (L : Lev) : ((ents L).toList.map (·.born)).Nodup := by simp [ents]

theorem ents_cases {L : Lev} {e : MapEntry} (h : e ∈ (ents L).toList) : e = ⟨.string L.n, ptr L.db, 0⟩ ∨ e = ⟨.string (L.n ++ ⟨#[35]⟩), ptr L.sb, 1⟩ ∨ e = ⟨.string (L.n ++ ⟨#[126]⟩), ptr L.fb, 2⟩ := by
  simpa [ents] using h

/-- where the loop over the entries of L stands -/
def At (L : Lev) (r : Nat) (wr : World) (seen : Array Nat) : Prop :=
  (∃ c0, wr.heap[r]? = some (.mapIter (some L.mb) 3 seen c0) ∧ 3 ≤ c0) ∧ wr.heap[L.mb]? = some (.map (ents L) 3)

/-- one step of the loop: nothing is left, or an entry comes -/
theorem At.next {L : Lev} {r : Nat} {wr : World} {seen : Array Nat} (h : At L r wr seen) (ty : TypeId) :
    ((Instr.next (ptr r) false ty).run Try.prog wr = .ok (.tuple #[.bool false]) wr ∧ seen.contains 0 = true ∧ seen.contains 1 = true) ∨
    ∃ (e : MapEntry) (w2 : World), (e = ⟨.string L.n, ptr L.db, 0⟩ ∨ e = ⟨.string (L.n ++ ⟨#[35]⟩), ptr L.sb, 1⟩ ∨ e = ⟨.string (L.n ++ ⟨#[126]⟩), ptr L.fb, 2⟩) ∧ seen.contains e.born = false ∧
      (Instr.next (ptr r) false ty).run Try.prog wr = .ok (.tuple #[.bool true, e.key, e.val]) w2 ∧ (Instr.entry (ptr r)).run Try.prog w2 = .ok (.tuple #[e.key, e.val]) w2 ∧
      At L r w2 (seen.push e.born) ∧ w2.heap.size = wr.heap.size ∧ (∀ b, b ≠ r → w2.heap[b]? = wr.heap[b]?) ∧ (∀ B, B ≤ r → Below B wr w2) ∧ w2.rangeLeft L.mb r < wr.rangeLeft L.mb r := by
  obtain ⟨⟨c0, hit, hc0⟩, hmb⟩ := h
  have hne : L.mb ≠ r := by
    intro e
    rw [e, hit] at hmb
    cases hmb
  rcases run_next_at (P := Try.prog) wr ty r L.mb 3 c0 seen (ents L) 3 hit hmb (ents_old L) hc0 with ⟨h0, hrun⟩ | ⟨e, he, w1, hal, hrun⟩
  · have ha := all_seen _ _ h0
    exact Or.inl ⟨hrun, ha ⟨.string L.n, ptr L.db, 0⟩ (by simp [ents]), ha ⟨.string (L.n ++ ⟨#[35]⟩), ptr L.sb, 1⟩ (by simp [ents])⟩
  · obtain ⟨hem, hes⟩ := mem_left he
    obtain ⟨w2, e2, hr2, ho2, hs2, hb2⟩ := step_world hal hit (.mapIter (some L.mb) 3 (seen.push e.born) 3)
    have hmb2 : w2.heap[L.mb]? = some (.map (ents L) 3) := (ho2 _ hne).trans hmb
    refine Or.inr ⟨e, w2, ents_cases hem, hes, by rw [hrun, e2], run_entry_at _ r L.mb 3 seen (ents L) 3 e hr2 hmb2 hem (ents_born L), ⟨⟨3, hr2, Nat.le_refl _⟩, hmb2⟩, hs2, ho2, hb2, ?_⟩
    rw [left_is hmb2 hr2, left_is hmb hit]
    exact left_shrinks _ _ _ he

theorem At.kept {L : Lev} {r : Nat} {wr w' : World} {seen : Array Nat} (h : At L r wr seen) (h1 : w'.heap[r]? = wr.heap[r]?) (h2 : w'.heap[L.mb]? = wr.heap[L.mb]?) : At L r w' seen := by
  obtain ⟨⟨c0, hit, hc0⟩, b1⟩ := h
  exact ⟨⟨c0, h1.trans hit, hc0⟩, h2.trans b1⟩

theorem At.lt {L : Lev} {r : Nat} {wr : World} {seen : Array Nat} (h : At L r wr seen) : r < wr.heap.size ∧ L.mb < wr.heap.size := by
  obtain ⟨⟨c0, hit, hc0⟩, b1⟩ := h
  exact ⟨(Array.getElem?_eq_some_iff.1 hit).1, (Array.getElem?_eq_some_iff.1 b1).1⟩

theorem At.left {L : Lev} {r : Nat} {wr w' : World} {seen : Array Nat} (h : At L r wr seen) (h' : At L r w' seen) : w'.rangeLeft L.mb r = wr.rangeLeft L.mb r := by
  obtain ⟨⟨_, h1, _⟩, b1⟩ := h
  obtain ⟨⟨_, h2, _⟩, b2⟩ := h'
  rw [left_is b2 h2, left_is b1 h1]

theorem At.start {w : World} {L : Lev} (hm : w.heap[L.mb]? = some (.map (ents L) 3)) : At L w.heap.size (w.alloc (.mapIter (some L.mb) 3 #[] 3)) #[] :=
  ⟨⟨3, heap_alloc_new _ _, Nat.le_refl _⟩, (heap_alloc_old w _ (Array.getElem?_eq_some_iff.1 hm).1).trans hm⟩

def lens (ls : List Lev) : Nat := (ls.map fun L => L.n.data.toList.length + 1).sum

theorem nm_lens (t : Nat) : ∀ ls d ns, nm t d ls = some ns → (ns.map fun e => e.length + 1).sum ≤ lens ls
  | [], d, ns, h => by
    simp only [nm] at h
    split at h
    · cases h; simp
    · cases h
  | L :: ls, d, ns, h => by
    simp only [nm] at h
    split at h
    · cases h; simp
    · obtain ⟨ms, h1, h2⟩ := Option.map_eq_some_iff.1 h
      have := nm_lens t ls L.db ms h1
      subst h2
      simp only [lens, List.map_cons, List.sum_cons] at this ⊢
      omega

theorem nm_good (t : Nat) : ∀ ls d ns, nm t d ls = some ns → (∀ L ∈ ls, good L.n.data.toList = true) → ∀ e ∈ ns, good e = true
  | [], d, ns, h, _ => by
    simp only [nm] at h
    split at h
    · cases h; simp
    · cases h
  | L :: ls, d, ns, h, hg => by
    simp only [nm] at h
    split at h
    · cases h; simp
    · obtain ⟨ms, h1, h2⟩ := Option.map_eq_some_iff.1 h
      have := nm_good t ls L.db ms h1 (fun M hM => hg M (by simp [hM]))
      subst h2
      intro e he
      rcases List.mem_cons.1 he with rfl | he
      · exact hg L (by simp)
      · exact this e he

theorem join_at (w : World) (n : ByteArray) (ns : List (List UInt8)) (hn : good n.data.toList = true) (hs : ∀ e ∈ ns, good e = true) (hl : n.data.toList.length + (path ns).length ≤ 100000000) (ty : TypeId) :
    Calls Try.prog 40 #[.slice (some ⟨w.heap.size, 0, none⟩) 3 3] (w.alloc (.cells #[.string ⟨#[47]⟩, .string n, .string ⟨(path ns).toArray⟩] ty)) fun e w' => e = .returned (.string ⟨(path (n.data.toList :: ns)).toArray⟩) ∧ Below w.heap.size w w' := by
  have hc := Try.path_Join_rules w.heap.size 0 3 [⟨#[47]⟩, n, ⟨(path ns).toArray⟩] (w.alloc (.cells #[.string ⟨#[47]⟩, .string n, .string ⟨(path ns).toArray⟩] ty))
    (fun j x hj => by
      rw [World.cell?_alloc_new, Nat.zero_add]
      match j, hj with
      | 0, hj => cases hj; rfl
      | 1, hj => cases hj; rfl
      | 2, hj => cases hj; rfl
      | j + 3, hj => simp at hj)
    (by simp)
    (by
      simp only [List.map_cons, List.map_nil, Lib.Pa.lens, List.length_cons, List.length_nil, List.sum_cons, List.sum_nil]
      omega)
  refine hc.mono fun e w' ⟨h1, h2⟩ => ⟨?_, (((Below.refl _ w).alloc (Nat.le_refl _) _)).trans (h2.mono (by simp))⟩
  rw [h1]
  simp only [List.map_cons, List.map_nil]
  rw [join_path _ _ hn hs]

end Go.Proofs.Qxb6003812a.chain
