import Derived.Lib.CleanSame
import Derived.Lib.JoinSame2
namespace Go.Proofs.Qxb6003812a.chain
open Go.Lib

/-- an element that path.Join keeps -/
def good (e : List UInt8) : Bool := e != [] && e != [46] && e != [46, 46] && !e.contains 47

def path (ns : List (List UInt8)) : List UInt8 := if ns = [] then [47] else ns.flatMap (47 :: ·)

theorem good_parts {e : List UInt8} (h : good e = true) : e ≠ [] ∧ e ≠ [46] ∧ e ≠ [46, 46] ∧ 47 ∉ e := by
  unfold good at h
  simp only [Bool.and_eq_true, bne_iff_ne, ne_eq, Bool.not_eq_true', List.contains_eq_mem, decide_eq_false_iff_not] at h
  exact ⟨h.1.1.1, h.1.1.2, h.1.2, h.2⟩

theorem els_no : ∀ e : List UInt8, 47 ∉ e → Pa.els e = [e]
  | [], _ => rfl
  | c :: t, h => by
    simp only [List.mem_cons, not_or] at h
    rw [Pa.els, if_neg (fun e => h.1 e.symm), els_no t h.2]

theorem els_flat : ∀ ns : List (List UInt8), (∀ e ∈ ns, good e = true) → Pa.els (ns.flatMap (47 :: ·)) = [] :: ns ∨ ns = []
  | [], _ => Or.inr rfl
  | [e], h => by
    left
    have := (good_parts (h e (by simp))).2.2.2
    simp only [List.flatMap_cons, List.flatMap_nil, List.append_nil]
    rw [Pa.els, if_pos rfl, els_no e this]
  | e :: f :: ns, h => by
    left
    have g := (good_parts (h e (by simp))).2.2.2
    have ih := els_flat (f :: ns) (fun x hx => h x (by simp [hx]))
    have ih' : Pa.els ((f :: ns).flatMap (47 :: ·)) = [] :: f :: ns := by
      rcases ih with ih | ih
      · exact ih
      · cases ih
    have e1 : (e :: f :: ns).flatMap (47 :: ·) = 47 :: (e ++ 47 :: (f ++ ns.flatMap (47 :: ·))) := by simp
    have e2 : (f :: ns).flatMap (47 :: ·) = 47 :: (f ++ ns.flatMap (47 :: ·)) := by simp
    rw [e2, Pa.els, if_pos rfl] at ih'
    rw [e1, Pa.els, if_pos rfl, Pa.els_app, els_no e g]
    injection ih' with _ h2
    rw [h2]
    rfl

theorem fold_good : ∀ (ns st : List (List UInt8)), (∀ e ∈ ns, good e = true) → ns.foldl (Pa.cleanStep true) st = ns.reverse ++ st
  | [], st, _ => rfl
  | e :: ns, st, h => by
    obtain ⟨h1, h2, h3, _⟩ := good_parts (h e (by simp))
    rw [List.foldl_cons, fold_good ns _ (fun x hx => h x (by simp [hx]))]
    simp [Pa.cleanStep, h1, h2, h3]

theorem inter_path : ∀ (e : List UInt8) (ns : List (List UInt8)), 47 :: ([47] : List UInt8).intercalate (e :: ns) = (e :: ns).flatMap (47 :: ·)
  | e, [] => by simp [List.intercalate]
  | e, f :: ns => by
    rw [Pa.J_cons, inter_path f ns]
    simp

theorem path_ne (ns : List (List UInt8)) : path ns ≠ [] := by
  unfold path
  cases ns with
  | nil => simp
  | cons e ns => simp

theorem fold_skip (st : List (List UInt8)) : Pa.cleanStep true st [] = st := by simp [Pa.cleanStep]

theorem els_path (ns : List (List UInt8)) (h : ∀ e ∈ ns, good e = true) (st : List (List UInt8)) : (Pa.els (path ns)).foldl (Pa.cleanStep true) st = ns.reverse ++ st := by
  unfold path
  cases ns with
  | nil =>
    simp only [if_true]
    have : Pa.els [47] = [[], []] := by decide
    rw [this]
    simp [Pa.cleanStep]
  | cons e ns =>
    rw [if_neg (by simp)]
    rcases els_flat (e :: ns) h with h1 | h1
    · rw [h1, List.foldl_cons, fold_skip, fold_good _ _ h]
    · cases h1

theorem join_path (e : List UInt8) (ns : List (List UInt8)) (he : good e = true) (h : ∀ x ∈ ns, good x = true) : Pa.join [[47], e, path ns] = path (e :: ns) := by
  obtain ⟨g1, _, _, g4⟩ := good_parts he
  have hf : [[47], e, path ns].filter (· ≠ []) = [[47], e, path ns] := by
    simp [g1, path_ne]
  unfold Pa.join
  rw [hf, if_neg (by simp), Pa.clean_eq_cleanEls, Pa.cleanEls_abs _ (by simp [List.intercalate]) (by simp [List.intercalate]), Pa.els_J]
  simp only [List.flatMap_cons, List.flatMap_nil, List.append_nil, List.foldl_append]
  have e1 : Pa.els [47] = [[], []] := by decide
  rw [e1, els_no e g4, els_path ns h]
  have e2 : List.foldl (Pa.cleanStep true) (List.foldl (Pa.cleanStep true) [] [[], []]) [e] = [e] := by
    rw [fold_good [e] _ (by simpa using he)]
    simp [Pa.cleanStep]
  rw [e2]
  simp only [List.reverse_append, List.reverse_reverse, List.reverse_cons, List.reverse_nil, List.nil_append, List.singleton_append]
  rw [inter_path]
  simp [path]

theorem path_snoc (ns : List (List UInt8)) (e : List UInt8) (h : ns ≠ []) : path (ns ++ [e]) = path ns ++ 47 :: e := by
  unfold path
  rw [if_neg (by simp), if_neg h]
  simp

theorem path_len : ∀ ns : List (List UInt8), (path ns).length ≤ (ns.map fun e => e.length + 1).sum + 1 := by
  intro ns
  unfold path
  split
  · simp
  · rename_i h
    clear h
    induction ns with
    | nil => simp
    | cons e ns ih =>
      simp only [List.flatMap_cons, List.length_append, List.length_cons, List.map_cons, List.sum_cons]
      omega

end Go.Proofs.Qxb6003812a.chain
