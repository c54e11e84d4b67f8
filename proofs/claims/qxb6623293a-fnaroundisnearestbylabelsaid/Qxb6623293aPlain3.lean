/- What holds at each round of the search of the whole tree: no Go here. -/
import Derived.Test.Qxb6623293aPlain2
namespace Go.Proofs.Qxb6623293a.Pl

/-- V: looked at; S: on the stack; sn: the marks -/
structure Inv (P X L R : List Int) (first rest : Int) (V S : List Fr) (sn : List Bool) : Prop where
  good : ∀ f, f ∈ V → Good P X first f
  left : ∀ f, f ∈ V → g L f.node ≠ 0 → lf P X L f ∈ V ∨ lf P X L f ∈ S
  right : ∀ f, f ∈ V → g R f.node ≠ 0 → rf P X R f ∈ V ∨ rf P X R f ∈ S
  rng : ∀ f, f ∈ S → 0 < f.node ∧ f.node < X.length
  root : (⟨rest, 0, 0, false, false⟩ : Fr) ∈ V ∨ (⟨rest, 0, 0, false, false⟩ : Fr) ∈ S
  desc : ∀ f, f ∈ V ∨ f ∈ S → ∃ d, f.node ∈ sub L R d rest
  snl : sn.length = X.length
  cnt : sn.count false + S.length + V.length ≤ X.length

/-- a child: none, or a new one -/
def Push (nt : Nat) (c : Int) (fr : Fr) (S : List Fr) (sn : List Bool) (S1 : List Fr) (sn1 : List Bool) : Prop :=
  (c = 0 ∧ S1 = S ∧ sn1 = sn) ∨ (0 < c ∧ c < nt ∧ sn.getD c.toNat true = false ∧ S1 = S ++ [fr] ∧ sn1 = sn.set c.toNat true)

theorem count_set : ∀ (l : List Bool) (i : Nat), l.getD i true = false → (l.set i true).count false + 1 = l.count false := by
  intro l
  induction l with
  | nil => intro i h; simp at h
  | cons b l ih =>
    intro i h
    cases i with
    | zero => simp at h; subst h; simp
    | succ i =>
      have := ih i (by simpa using h)
      rw [List.set_cons_succ, List.count_cons, List.count_cons]
      omega

theorem count_replicate (n : Nat) : (List.replicate n false).count false = n := by simp

theorem Push.mem {nt : Nat} {c : Int} {fr : Fr} {S S1 : List Fr} {sn sn1 : List Bool} (h : Push nt c fr S sn S1 sn1) : (∀ f, f ∈ S → f ∈ S1) ∧ (c ≠ 0 → fr ∈ S1) ∧ (∀ f, f ∈ S1 → f ∈ S ∨ (f = fr ∧ 0 < c ∧ c < nt)) := by
  rcases h with ⟨h0, rfl, rfl⟩ | ⟨h0, h1, h2, rfl, rfl⟩
  · exact ⟨fun _ h => h, fun h => absurd h0 h, fun _ h => .inl h⟩
  · refine ⟨fun f h => List.mem_append_left _ h, fun _ => List.mem_append_right _ (by simp), fun f h => ?_⟩
    rcases List.mem_append.1 h with h | h
    · exact .inl h
    · simp at h; exact .inr ⟨h, h0, h1⟩

theorem Push.nums {nt : Nat} {c : Int} {fr : Fr} {S S1 : List Fr} {sn sn1 : List Bool} (h : Push nt c fr S sn S1 sn1) :
    sn1.length = sn.length ∧ sn1.count false + S1.length = sn.count false + S.length ∧ 2 * sn1.count false + S1.length ≤ 2 * sn.count false + S.length ∧ S1.length ≤ S.length + 1 := by
  rcases h with ⟨h0, rfl, rfl⟩ | ⟨h0, h1, h2, rfl, rfl⟩
  · simp
  · have := count_set sn c.toNat h2
    rw [List.length_append, List.length_set]
    simp
    omega

theorem Inv.step {P X L R : List Int} {first rest : Int} {V S S1 S2 : List Fr} {sn sn1 sn2 : List Bool} {f : Fr} (h : Inv P X L R first rest V (S ++ [f]) sn) (gf : Good P X first f)
    (p1 : Push X.length (g L f.node) (lf P X L f) S sn S1 sn1) (p2 : Push X.length (g R f.node) (rf P X R f) S1 sn1 S2 sn2) :
    Inv P X L R first rest (V ++ [f]) S2 sn2 ∧ 2 * sn2.count false + S2.length < 2 * sn.count false + (S ++ [f]).length := by
  have m1 := p1.mem
  have m2 := p2.mem
  have n1 := p1.nums
  have n2 := p2.nums
  have up : ∀ k, k ∈ S ++ [f] → k ∈ V ++ [f] ∨ k ∈ S2 := by
    intro k hk
    rcases List.mem_append.1 hk with hk | hk
    · exact .inr (m2.1 k (m1.1 k hk))
    · exact .inl (List.mem_append_right _ hk)
  have upV : ∀ k, k ∈ V ∨ k ∈ S ++ [f] → k ∈ V ++ [f] ∨ k ∈ S2 := by
    intro k hk
    rcases hk with hk | hk
    · exact .inl (List.mem_append_left _ hk)
    · exact up k hk
  have hfd : ∃ d, f.node ∈ sub L R d rest := h.desc f (.inr (List.mem_append_right _ (by simp)))
  refine ⟨⟨?_, ?_, ?_, ?_, upV _ h.root, ?_, ?_, ?_⟩, ?_⟩
  · intro k hk
    rcases List.mem_append.1 hk with hk | hk
    · exact h.good k hk
    · simp at hk; subst hk; exact gf
  · intro k hk h0
    rcases List.mem_append.1 hk with hk | hk
    · exact upV _ (h.left k hk h0)
    · simp at hk; subst hk; exact .inr (m2.1 _ (m1.2.1 h0))
  · intro k hk h0
    rcases List.mem_append.1 hk with hk | hk
    · exact upV _ (h.right k hk h0)
    · simp at hk; subst hk; exact .inr (m2.2.1 h0)
  · intro k hk
    rcases m2.2.2 k hk with hk | ⟨rfl, q0, q1⟩
    · rcases m1.2.2 k hk with hk | ⟨rfl, q0, q1⟩
      · exact h.rng k (List.mem_append_left _ hk)
      · exact ⟨q0, q1⟩
    · exact ⟨q0, q1⟩
  · intro k hk
    rcases hk with hk | hk
    · rcases List.mem_append.1 hk with hk | hk
      · exact h.desc k (.inl hk)
      · simp at hk; subst hk; exact hfd
    · rcases m2.2.2 k hk with hk | ⟨rfl, q0, q1⟩
      · rcases m1.2.2 k hk with hk | ⟨rfl, q0, q1⟩
        · exact h.desc k (.inr (List.mem_append_left _ hk))
        · obtain ⟨d, hd⟩ := hfd
          exact ⟨d + 1, sub_child d _ _ _ hd (.inl rfl) (by show g L f.node ≠ 0; omega)⟩
      · obtain ⟨d, hd⟩ := hfd
        exact ⟨d + 1, sub_child d _ _ _ hd (.inr rfl) (by show g R f.node ≠ 0; omega)⟩
  · rw [n2.1, n1.1]; exact h.snl
  · have := h.cnt
    simp at this ⊢
    omega
  · simp
    omega

theorem Inv.start {P X L R : List Int} {first rest : Int} (h0 : 0 < rest) (h1 : rest < X.length) :
    Inv P X L R first rest [] [⟨rest, 0, 0, false, false⟩] ((List.replicate X.length false).set rest.toNat true) := by
  refine ⟨by simp, by simp, by simp, ?_, .inr (by simp), ?_, by simp, ?_⟩
  · intro f hf; simp at hf; subst hf; exact ⟨h0, h1⟩
  · intro f hf
    simp at hf; subst hf
    exact ⟨1, by rw [sub, if_neg (by show rest ≠ 0; omega)]; simp⟩
  · have := count_set (List.replicate X.length false) rest.toNat (by
      rw [List.getD_eq_getElem?_getD, List.getElem?_replicate, if_pos (by omega)]; rfl)
    simp at this ⊢
    omega

theorem Inv.closed {P X L R : List Int} {first rest : Int} {V : List Fr} {sn : List Bool} (h : Inv P X L R first rest V [] sn) (h0 : rest ≠ 0) : Closed P X L R first rest V :=
  ⟨h.good, fun f hf q => by simpa using h.left f hf q, fun f hf q => by simpa using h.right f hf q, fun _ => by simpa using h.root, fun f hf => h.desc f (.inl hf), fun e => absurd e h0⟩

theorem closed_none {P X L R : List Int} {first : Int} : Closed P X L R first 0 [] :=
  ⟨by simp, by simp, by simp, fun h => absurd rfl h, by simp, fun _ => rfl⟩
end Go.Proofs.Qxb6623293a.Pl
