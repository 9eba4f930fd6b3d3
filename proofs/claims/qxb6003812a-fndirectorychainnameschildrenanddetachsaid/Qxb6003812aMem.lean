import Derived.Test.Qxb6003812aRows
import Derived.WalkKit
import Derived.Below
import Derived.Maps.RangeRun
import Derived.Laws.Strings3
namespace Go.Proofs.Qxb6003812a.chain
open Go.RowKit
open Go.ChangeMaps (setBlock)

abbrev ptr (b : Nat) : Value := .pointer (some ⟨b, 0, none⟩)

/-- block b is a node: her mode, her entries, the mark 'removed' -/
structure Nd (w : World) (b : Nat) (m : Int) (ent : Option Nat) (rem : Bool) : Prop where
  c0 : w.cell? ⟨b, 0, none⟩ = some (.int .u32 m)
  c8 : w.cell? ⟨b, 8, none⟩ = some (.map ent)
  c9 : w.cell? ⟨b, 9, none⟩ = some (.bool rem)
  f8 : w.frozen? ⟨b, 8, none⟩ = false
  f9 : w.frozen? ⟨b, 9, none⟩ = false
  bk : ∃ c, w.heap[b]? = some (.cells c 64 (0, 0))

theorem Nd.of_blk {w w' : World} {b : Nat} {m : Int} {ent : Option Nat} {rem : Bool} (h : Nd w b m ent rem) (e : w'.heap[b]? = w.heap[b]?) : Nd w' b m ent rem :=
  ⟨(World.cell?_of_block (w := w) e).trans h.c0, (World.cell?_of_block (w := w) e).trans h.c8, (World.cell?_of_block (w := w) e).trans h.c9,
   (World.frozen?_of_block (w := w) e).trans h.f8, (World.frozen?_of_block (w := w) e).trans h.f9, by rw [e]; exact h.bk⟩

theorem Nd.lt {w : World} {b : Nat} {m : Int} {ent : Option Nat} {rem : Bool} (h : Nd w b m ent rem) : b < w.heap.size := World.block_lt_of_cell? w _ h.c8

/-- one storey: the name, the map's block, the side's, the file's, the next directory's -/
structure Lev where
  n : ByteArray
  mb : Nat
  sb : Nat
  fb : Nat
  db : Nat

abbrev DIR : Int := 2147484141
def ext (n : ByteArray) (c : UInt8) : ByteArray := n ++ ⟨#[c]⟩

def ents (L : Lev) : Array MapEntry := #[⟨.string L.n, ptr L.db, 0⟩, ⟨.string (L.n ++ ⟨#[35]⟩), ptr L.sb, 1⟩, ⟨.string (L.n ++ ⟨#[126]⟩), ptr L.fb, 2⟩]

def Chain (w : World) : Nat → List Lev → Prop
  | d, [] => Nd w d DIR none false
  | d, L :: ls => Nd w d DIR (some L.mb) false ∧ w.heap[L.mb]? = some (.map (ents L) 3) ∧ Nd w L.sb DIR none false ∧ Nd w L.fb 0 none false ∧ Chain w L.db ls

def blks : Nat → List Lev → List Nat
  | d, [] => [d]
  | d, L :: ls => d :: L.mb :: L.sb :: L.fb :: blks L.db ls

def touched : Nat → List Lev → List Nat
  | d, [] => [d]
  | d, L :: ls => d :: L.sb :: touched L.db ls

def last : Nat → List Lev → Nat
  | d, [] => d
  | _, L :: ls => last L.db ls

theorem touched_sub : ∀ ls d b, b ∈ touched d ls → b ∈ blks d ls
  | [], _, _, h => h
  | L :: ls, d, b, h => by
    simp only [touched, blks, List.mem_cons] at h ⊢
    rcases h with h | h | h
    · exact Or.inl h
    · exact Or.inr (Or.inr (Or.inl h))
    · exact Or.inr (Or.inr (Or.inr (Or.inr (touched_sub ls L.db b h))))

theorem Chain.kept {w w' : World} : ∀ {ls d}, Chain w d ls → (∀ b ∈ blks d ls, w'.heap[b]? = w.heap[b]?) → Chain w' d ls
  | [], d, h, k => Nd.of_blk h (k d (by simp [blks]))
  | L :: ls, d, h, k => by
    obtain ⟨h1, h2, h3, h4, h5⟩ := h
    exact ⟨h1.of_blk (k _ (by simp [blks])), (k _ (by simp [blks])).trans h2, h3.of_blk (k _ (by simp [blks])), h4.of_blk (k _ (by simp [blks])),
      h5.kept fun b hb => k b (by simp [blks, hb])⟩

theorem Chain.lt {w : World} : ∀ {ls d}, Chain w d ls → ∀ b ∈ blks d ls, b < w.heap.size
  | [], d, h, b, hb => by
    simp only [blks, List.mem_singleton] at hb
    subst hb
    exact Nd.lt h
  | L :: ls, d, h, b, hb => by
    obtain ⟨h1, h2, h3, h4, h5⟩ := h
    simp only [blks, List.mem_cons] at hb
    rcases hb with rfl | rfl | rfl | rfl | hb
    · exact h1.lt
    · exact (Array.getElem?_eq_some_iff.1 h2).1
    · exact h3.lt
    · exact h4.lt
    · exact h5.lt b hb

theorem Chain.below {w w' : World} {ls : List Lev} {d : Nat} (h : Chain w d ls) (bel : Below w.heap.size w w') : Chain w' d ls :=
  h.kept fun b hb => bel.block b (h.lt b hb)

theorem Chain.root {w : World} {ls : List Lev} {d : Nat} (h : Chain w d ls) : ∃ ent, Nd w d DIR ent false := by
  cases ls with
  | nil => exact ⟨_, h⟩
  | cons L ls => exact ⟨_, h.1⟩

theorem blks_snoc (L : Lev) : ∀ ls d, blks d (ls ++ [L]) = blks d ls ++ [L.mb, L.sb, L.fb, L.db]
  | [], _ => rfl
  | M :: ls, d => by
    simp only [List.cons_append, blks, blks_snoc L ls]

theorem last_snoc (L : Lev) : ∀ ls d, last d (ls ++ [L]) = L.db
  | [], _ => rfl
  | M :: ls, d => by
    simp only [List.cons_append, last, last_snoc L ls]

theorem last_mem : ∀ ls d, last d ls ∈ blks d ls
  | [], d => by simp [last, blks]
  | M :: ls, d => by
    simp only [last, blks, List.mem_cons]
    exact Or.inr (Or.inr (Or.inr (Or.inr (last_mem ls M.db))))

theorem Chain.last_nd {w : World} : ∀ {ls d}, Chain w d ls → Nd w (last d ls) DIR none false
  | [], _, h => h
  | L :: ls, _, h => by
    have h5 : Chain w L.db ls := h.2.2.2.2
    exact h5.last_nd

theorem Chain.snoc {w w' : World} (L : Lev) : ∀ {ls d}, Chain w d ls → (blks d ls).Nodup → (∀ b ∈ blks d ls, b ≠ last d ls → w'.heap[b]? = w.heap[b]?) →
    Nd w' (last d ls) DIR (some L.mb) false → w'.heap[L.mb]? = some (.map (ents L) 3) → Nd w' L.sb DIR none false → Nd w' L.fb 0 none false → Nd w' L.db DIR none false → Chain w' d (ls ++ [L])
  | [], _, _, _, _, h1, h2, h3, h4, h5 => ⟨h1, h2, h3, h4, h5⟩
  | M :: ls, d, h, nd, k, h1, h2, h3, h4, h5 => by
    obtain ⟨g1, g2, g3, g4, g5⟩ := h
    simp only [blks, List.nodup_cons, List.mem_cons, not_or] at nd
    obtain ⟨⟨a1, a2, a3, a4⟩, ⟨b1, b2, b3⟩, ⟨c1, c2⟩, e1, nd'⟩ := nd
    have hl := last_mem ls M.db
    have k' : ∀ b ∈ blks d (M :: ls), b ∉ blks M.db ls → w'.heap[b]? = w.heap[b]? := fun b hb hn => k b hb (fun e => hn (by rw [e]; exact hl))
    refine ⟨g1.of_blk (k' _ (by simp [blks]) a4), (k' _ (by simp [blks]) b3).trans g2, g3.of_blk (k' _ (by simp [blks]) c2), g4.of_blk (k' _ (by simp [blks]) e1), ?_⟩
    exact g5.snoc L nd' (fun b hb hne => k b (by simp [blks, hb]) hne) h1 h2 h3 h4 h5

/-- the directories, from the root on -/
def dirs (d : Nat) (ls : List Lev) : List Nat := d :: ls.map (·.db)

theorem dirs_touched : ∀ ls d b, b ∈ dirs d ls → b ∈ touched d ls
  | [], _, _, h => h
  | L :: ls, d, b, h => by
    simp only [dirs, List.map_cons, touched, List.mem_cons] at h ⊢
    rcases h with h | h | h
    · exact Or.inl h
    · exact Or.inr (Or.inr (dirs_touched ls L.db b (by simp [dirs, h])))
    · exact Or.inr (Or.inr (dirs_touched ls L.db b (by simp only [dirs, List.mem_cons]; exact Or.inr h)))

theorem sides_touched : ∀ ls d b, b ∈ ls.map (·.sb) → b ∈ touched d ls
  | [], _, _, h => by cases h
  | L :: ls, d, b, h => by
    simp only [List.map_cons, touched, List.mem_cons] at h ⊢
    rcases h with h | h
    · exact Or.inr (Or.inl h)
    · exact Or.inr (Or.inr (sides_touched ls L.db b h))

theorem dirs_nodup : ∀ ls d, (blks d ls).Nodup → (dirs d ls).Nodup
  | [], _, _ => by simp [dirs]
  | L :: ls, d, h => by
    simp only [blks, List.nodup_cons, List.mem_cons, not_or] at h
    have ih := dirs_nodup ls L.db h.2.2.2.2
    simp only [dirs, List.map_cons] at ih ⊢
    refine List.nodup_cons.2 ⟨fun hm => h.1.2.2.2 (touched_sub _ _ _ (dirs_touched ls L.db d (by simpa [dirs] using hm))), ih⟩

theorem Chain.dir_nd {w : World} : ∀ {ls d}, Chain w d ls → ∀ b ∈ dirs d ls, ∃ ent, Nd w b DIR ent false
  | [], d, h, b, hb => by
    simp only [dirs, List.map_nil, List.mem_singleton] at hb
    subst hb
    exact ⟨_, h⟩
  | L :: ls, d, h, b, hb => by
    simp only [dirs, List.map_cons, List.mem_cons] at hb
    rcases hb with rfl | hb
    · exact ⟨_, h.1⟩
    · exact h.2.2.2.2.dir_nd b (by simpa [dirs] using hb)

/-- the storey below the i-th directory -/
theorem Chain.at {w : World} : ∀ {ls d}, Chain w d ls → ∀ (i : Nat) (L : Lev), ls[i]? = some L → ∃ b, (dirs d ls)[i]? = some b ∧ Nd w b DIR (some L.mb) false ∧ w.heap[L.mb]? = some (.map (ents L) 3) ∧ Nd w L.sb DIR none false ∧ Nd w L.fb 0 none false
  | [], _, _, i, L, h => by simp at h
  | M :: ls, d, h, 0, L, hi => by
    simp only [List.getElem?_cons_zero, Option.some.injEq] at hi
    subst hi
    exact ⟨d, rfl, h.1, h.2.1, h.2.2.1, h.2.2.2.1⟩
  | M :: ls, d, h, i + 1, L, hi => by
    simp only [List.getElem?_cons_succ] at hi
    obtain ⟨b, hb, rest⟩ := h.2.2.2.2.at i L hi
    exact ⟨b, by simpa [dirs] using hb, rest⟩

/-- no leaf is the target -/
def NoLeaf (t : Nat) (ls : List Lev) : Prop := ∀ L ∈ ls, L.sb ≠ t ∧ L.fb ≠ t

theorem noLeaf_dir : ∀ ls d t, (blks d ls).Nodup → t ∈ dirs d ls → NoLeaf t ls
  | [], _, _, _, _ => fun L h => by cases h
  | L :: ls, d, t, h, ht => by
    have hd : ∀ b ∈ dirs L.db ls, b ∈ blks L.db ls := fun b hb => touched_sub _ _ _ (dirs_touched _ _ _ hb)
    simp only [blks, List.nodup_cons, List.mem_cons, not_or] at h
    obtain ⟨⟨a1, a2, a3, a4⟩, ⟨b1, b2, b3⟩, ⟨c1, c2⟩, e1, nd'⟩ := h
    have ht' : t = d ∨ t ∈ dirs L.db ls := by simpa [dirs] using ht
    have hb : ∀ ls d, ∀ M ∈ ls, M.sb ∈ blks d ls ∧ M.fb ∈ blks d ls := by
      intro ls
      induction ls with
      | nil => intro d M h; cases h
      | cons K ls ih =>
        intro d M h
        rcases List.mem_cons.1 h with rfl | h
        · simp [blks]
        · obtain ⟨x, y⟩ := ih K.db M h
          simp [blks, x, y]
    intro M hM
    rcases ht' with rfl | ht'
    · rcases List.mem_cons.1 hM with rfl | hM
      · exact ⟨Ne.symm a2, Ne.symm a3⟩
      · obtain ⟨x, y⟩ := hb ls L.db M hM
        exact ⟨fun e => a4 (e ▸ x), fun e => a4 (e ▸ y)⟩
    · rcases List.mem_cons.1 hM with rfl | hM
      · exact ⟨fun e => c2 (by rw [e]; exact hd _ ht'), fun e => e1 (by rw [e]; exact hd _ ht')⟩
      · exact noLeaf_dir ls L.db t nd' ht' M hM

/-! ### the runs -/

theorem ne_ext (n : ByteArray) (c : UInt8) : (n ++ ⟨#[c]⟩ == n) = false := by
  rw [Bool.eq_false_iff]
  intro h
  rw [MapKept.bytes_beq] at h
  have h2 := congrArg ByteArray.size h
  rw [ByteArray.size_append] at h2
  have h3 : (⟨#[c]⟩ : ByteArray).size = 1 := rfl
  omega

end Go.Proofs.Qxb6003812a.chain
