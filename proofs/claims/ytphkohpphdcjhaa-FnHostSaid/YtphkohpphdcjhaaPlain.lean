/- Plain words on lists of bytes: figures, ports. No program stands here. -/
namespace Go.Proofs.Ytphkohpphdcjhaa.U

/-- A text as its bytes. -/
abbrev B := List UInt8
def digit (c : UInt8) : Bool := decide (48 ≤ c.toNat) && decide (c.toNat ≤ 57)
/-- Empty, or a colon and figures. -/
def port : B → Bool
  | [] => true
  | c :: r => decide (c.toNat = 58) && r.all digit

theorem drop_at {α : Type} (l : List α) (k : Nat) (h : k < l.length) : l.drop k = l[k] :: l.drop (k + 1) := List.drop_eq_getElem_cons h

end Go.Proofs.Ytphkohpphdcjhaa.U
