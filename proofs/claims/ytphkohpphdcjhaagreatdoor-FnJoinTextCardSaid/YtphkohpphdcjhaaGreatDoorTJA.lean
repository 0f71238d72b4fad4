/- How long the elements of a path are together. -/
import Derived.Test.YtphkohpphdcjhaaGreatDoorTK13
namespace Go.Proofs.YtphkohpphdcjhaaGreatDoor
open U (L S)

theorem els_sum : ∀ l : U.B, ((U.els l).map (fun e => e.length + 1)).sum = l.length + 1
  | [] => rfl
  | c :: t => by
    have ih := els_sum t
    unfold U.els at ih ⊢
    show ((if c = 47 then [] :: Lib.Pa.els t else match Lib.Pa.els t with
        | e :: r => (c :: e) :: r
        | [] => [[c]]).map (fun e => e.length + 1)).sum = _
    by_cases hc : c = 47
    · rw [if_pos hc, List.map_cons, List.sum_cons, ih]
      simp
      omega
    · rw [if_neg hc]
      have hne := U.els_ne t
      unfold U.els at hne
      cases h : Lib.Pa.els t with
      | nil => exact absurd h hne
      | cons e r =>
        rw [h] at ih
        rw [List.map_cons, List.sum_cons] at ih
        have ih' : (e.length + 1) + (r.map (fun x : U.B => x.length + 1)).sum = t.length + 1 := ih
        show ((c :: e).length + 1) + (r.map (fun x : U.B => x.length + 1)).sum = t.length + 1 + 1
        rw [List.length_cons]
        omega
end Go.Proofs.YtphkohpphdcjhaaGreatDoor
