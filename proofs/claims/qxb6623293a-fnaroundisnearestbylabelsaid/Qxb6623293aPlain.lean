/- The plain functions: no Go here. -/
namespace Go.Proofs.Qxb6623293a.Pl

def g (l : List Int) (i : Int) : Int := l.getD i.toNat 0

def closer (P : List Int) (c x bv av : Int) : Int × Int :=
  if g P x < c then (if bv = 0 ∨ g P bv < g P x then (x, av) else (bv, av))
  else (if av = 0 ∨ g P x < g P av then (bv, x) else (bv, av))

def nxt (P X L R : List Int) (c n : Int) : Int := if g P (g X n) < c then g R n else g L n

def walkF (P X L R : List Int) (c : Int) : Nat → Int → Int → Int → Int × Int
  | 0, _, bv, av => (bv, av)
  | f + 1, n, bv, av =>
    if n = 0 then (bv, av)
    else walkF P X L R c f (nxt P X L R c n) (closer P c (g X n) bv av).1 (closer P c (g X n) bv av).2

def okPath (P X L R : List Int) (c : Int) : Nat → Int → Prop
  | 0, n => n = 0
  | f + 1, n => n = 0 ∨ (0 < n ∧ n < X.length ∧ 0 < g X n ∧ g X n < P.length ∧ okPath P X L R c f (nxt P X L R c n))

end Go.Proofs.Qxb6623293a.Pl
