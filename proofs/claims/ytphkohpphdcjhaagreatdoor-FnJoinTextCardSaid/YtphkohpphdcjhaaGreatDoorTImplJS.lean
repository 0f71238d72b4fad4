/- What is joined is short. -/
import Derived.Test.YtphkohpphdcjhaaGreatDoorTImplJT
namespace Go.Proofs.YtphkohpphdcjhaaGreatDoor
open U (L S)

theorem joinAll_len50 (f : U.B) (l : List U.B) (hle : ∀ e ∈ l, e.length ≤ 50) : (U.joinAll f l).length ≤ f.length + 1 + 51 * l.length := by
  have h : ∀ (l : List U.B) (a : U.B), (∀ e ∈ l, e.length ≤ 50) → (l.foldl (fun a e => a ++ 47 :: e) a).length ≤ a.length + 51 * l.length := by
    intro l
    induction l with
    | nil => intro a _; simp
    | cons e es ih =>
      intro a he
      have h1 := ih (a ++ 47 :: e) (fun x hx => he x (List.mem_cons_of_mem _ hx))
      have h2 := he e List.mem_cons_self
      simp only [List.foldl_cons, List.length_append, List.length_cons] at h1 ⊢
      omega
  have := h l (47 :: f) hle
  simp only [List.length_cons] at this
  unfold U.joinAll
  omega
theorem joinPath_len (f : U.B) (l : List U.B) (hle : ∀ e ∈ l, e.length ≤ 50) : (U.joinPath f l).length ≤ f.length + 4 + 51 * l.length := by
  have h1 := joinAll_len50 f l hle
  have h2 := clean_len (U.joinAll f l)
  have h3 : (if f.head? = some 47 then U.clean (U.joinAll f l) else (U.clean (U.joinAll f l)).drop 1).length ≤ (U.clean (U.joinAll f l)).length := by
    split
    · exact Nat.le_refl _
    · simp
  have key : ∀ (p : U.B) (c : Prop) [Decidable c], (if c then p ++ [47] else p).length ≤ p.length + 1 := by
    intro p c _
    split <;> simp
  exact Nat.le_trans (key (if f.head? = some 47 then U.clean (U.joinAll f l) else (U.clean (U.joinAll f l)).drop 1) _) (by omega)
theorem join_sm {v : V} {l : List U.B} (hv : v.Sm 300) (hn : l.length ≤ 10) (hle : ∀ e ∈ l, e.length ≤ 50) : (U.join v l).1.Sm 4000 := by
  unfold U.join
  refine setPath_sm hv ?_
  have h1 := joinPath_len (U.escPath v) l hle
  have h2 := escPath_300 hv
  rw [U.size_S]
  omega
end Go.Proofs.YtphkohpphdcjhaaGreatDoor
