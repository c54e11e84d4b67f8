/- The scan of the candidates one by one: no Go here. -/
import Derived.Test.Qxb6623293aPlain3
namespace Go.Proofs.Qxb6623293a.Pl

def SB (P : List Int) (c : Int) (l : List Int) (hb : Bool) (lb wb : Int) : Prop :=
  (hb = false ∧ wb = 0 ∧ ∀ x, x ∈ l → ¬ g P x < c) ∨ (hb = true ∧ 0 < wb ∧ wb ∈ l ∧ g P wb = lb ∧ lb < c ∧ ∀ x, x ∈ l → g P x < c → g P x ≤ lb)
def SA (P : List Int) (c : Int) (l : List Int) (ha : Bool) (la wa : Int) : Prop :=
  (ha = false ∧ wa = 0 ∧ ∀ x, x ∈ l → g P x < c) ∨ (ha = true ∧ 0 < wa ∧ wa ∈ l ∧ g P wa = la ∧ c ≤ la ∧ ∀ x, x ∈ l → c ≤ g P x → la ≤ g P x)

theorem SB.near {P : List Int} {c : Int} {l : List Int} {hb : Bool} {lb wb : Int} (h : SB P c l hb lb wb) : NearB P c (fun y => y ∈ l) wb := by
  rcases h with ⟨_, h1, h2⟩ | ⟨_, h1, h2, h3, h4, h5⟩
  · exact .inl ⟨h1, h2⟩
  · subst h3; exact .inr ⟨h1, h2, h4, h5⟩
theorem SA.near {P : List Int} {c : Int} {l : List Int} {ha : Bool} {la wa : Int} (h : SA P c l ha la wa) : NearA P c (fun y => y ∈ l) wa := by
  rcases h with ⟨_, h1, h2⟩ | ⟨_, h1, h2, h3, h4, h5⟩
  · exact .inl ⟨h1, h2⟩
  · subst h3; exact .inr ⟨h1, h2, h4, h5⟩

theorem SB.nil {P : List Int} {c : Int} : SB P c [] false 0 0 := .inl ⟨rfl, rfl, by simp⟩
theorem SA.nil {P : List Int} {c : Int} : SA P c [] false 0 0 := .inl ⟨rfl, rfl, by simp⟩

theorem SB.skip {P : List Int} {c : Int} {l : List Int} {hb : Bool} {lb wb x : Int} (h : SB P c l hb lb wb) (hx : ¬ g P x < c ∨ (hb = true ∧ g P x ≤ lb)) : SB P c (l ++ [x]) hb lb wb := by
  rcases h with ⟨h0, h1, h2⟩ | ⟨h0, h1, h2, h3, h4, h5⟩
  · refine .inl ⟨h0, h1, fun y hy => ?_⟩
    rcases List.mem_append.1 hy with hy | hy
    · exact h2 y hy
    · simp at hy; subst hy
      rcases hx with q | ⟨q, _⟩
      · exact q
      · rw [h0] at q; cases q
  · refine .inr ⟨h0, h1, List.mem_append_left _ h2, h3, h4, fun y hy hc => ?_⟩
    rcases List.mem_append.1 hy with hy | hy
    · exact h5 y hy hc
    · simp at hy; subst hy
      rcases hx with q | ⟨_, q⟩
      · exact absurd hc q
      · exact q
theorem SB.take {P : List Int} {c : Int} {l : List Int} {hb : Bool} {lb wb x : Int} (h : SB P c l hb lb wb) (h0 : 0 < x) (hc : g P x < c) (hx : hb = false ∨ lb < g P x) : SB P c (l ++ [x]) true (g P x) x := by
  refine .inr ⟨rfl, h0, List.mem_append_right _ (by simp), rfl, hc, fun y hy hcy => ?_⟩
  rcases List.mem_append.1 hy with hy | hy
  · rcases h with ⟨q0, q1, q2⟩ | ⟨q0, q1, q2, q3, q4, q5⟩
    · exact absurd hcy (q2 y hy)
    · have := q5 y hy hcy
      rcases hx with q | q
      · rw [q0] at q; cases q
      · omega
  · simp at hy; subst hy; exact Int.le_refl _
theorem SA.skip {P : List Int} {c : Int} {l : List Int} {hb : Bool} {lb wb x : Int} (h : SA P c l hb lb wb) (hx : g P x < c ∨ (hb = true ∧ lb ≤ g P x)) : SA P c (l ++ [x]) hb lb wb := by
  rcases h with ⟨h0, h1, h2⟩ | ⟨h0, h1, h2, h3, h4, h5⟩
  · refine .inl ⟨h0, h1, fun y hy => ?_⟩
    rcases List.mem_append.1 hy with hy | hy
    · exact h2 y hy
    · simp at hy; subst hy
      rcases hx with q | ⟨q, _⟩
      · exact q
      · rw [h0] at q; cases q
  · refine .inr ⟨h0, h1, List.mem_append_left _ h2, h3, h4, fun y hy hc => ?_⟩
    rcases List.mem_append.1 hy with hy | hy
    · exact h5 y hy hc
    · simp at hy; subst hy
      rcases hx with q | ⟨_, q⟩
      · omega
      · exact q
theorem SA.take {P : List Int} {c : Int} {l : List Int} {hb : Bool} {lb wb x : Int} (h : SA P c l hb lb wb) (h0 : 0 < x) (hc : c ≤ g P x) (hx : hb = false ∨ g P x < lb) : SA P c (l ++ [x]) true (g P x) x := by
  refine .inr ⟨rfl, h0, List.mem_append_right _ (by simp), rfl, hc, fun y hy hcy => ?_⟩
  rcases List.mem_append.1 hy with hy | hy
  · rcases h with ⟨q0, q1, q2⟩ | ⟨q0, q1, q2, q3, q4, q5⟩
    · have := q2 y hy; omega
    · have := q5 y hy hcy
      rcases hx with q | q
      · rw [q0] at q; cases q
      · omega
  · simp at hy; subst hy; exact Int.le_refl _

theorem take_snoc (l : List Int) (k : Nat) (h : k < l.length) : l.take (k + 1) = l.take k ++ [l.getD k 0] := by
  rw [List.take_succ_eq_append_getElem h]
  simp [List.getD_eq_getElem?_getD, h]

/-- each candidate is a place -/
theorem Closed.cands_rng {P X L R : List Int} {first rest : Int} {V : List Fr} (h : Closed P X L R first rest V) (f0 : 0 ≤ first) (f1 : first < P.length) : ∀ x, x ∈ cands X first V → 0 < x ∧ x < P.length := by
  intro x hx
  unfold cands at hx
  rw [List.mem_append, List.mem_map] at hx
  rcases hx with hx | ⟨f, f1, rfl⟩
  · by_cases h0 : first = 0
    · rw [if_pos h0] at hx; simp at hx
    · rw [if_neg h0] at hx; simp at hx; subst hx; omega
  · exact (h.good f f1).2.1

theorem Closed.node_rng {P X L R : List Int} {first rest : Int} {V : List Fr} (h : Closed P X L R first rest V) (j : Nat) (hj : j < V.length) : 0 < (V.map fun f => f.node).getD j 0 ∧ (V.map fun f => f.node).getD j 0 < X.length := by
  have e : (V.map fun f => f.node).getD j 0 = V[j].node := by simp [List.getD_eq_getElem?_getD, hj]
  rw [e]
  exact (h.good V[j] (List.getElem_mem hj)).1

def c0 (first : Int) : List Int := if first = 0 then [] else [first]
def tl (X : List Int) (V : List Fr) : List Int := V.map fun f => g X f.node
theorem cands_eq (X : List Int) (first : Int) (V : List Fr) : cands X first V = c0 first ++ tl X V := rfl
theorem tl_at (X : List Int) (V : List Fr) (j : Nat) (hj : j < V.length) : (tl X V).getD j 0 = g X ((V.map fun f => f.node).getD j 0) := by
  simp [tl, List.getD_eq_getElem?_getD, hj]
theorem tl_length (X : List Int) (V : List Fr) : (tl X V).length = V.length := by simp [tl]
theorem c0_length (first : Int) : (c0 first).length ≤ 1 := by unfold c0; split <;> simp

/-- the law: both ways come to the same pair -/
theorem Closed.same {P X L R : List Int} {first rest : Int} {V : List Fr} (h : Closed P X L R first rest V) (c : Int) (f0 : 0 ≤ first) {hb ha : Bool} {lb wb la wa bv av : Int}
    (sb : SB P c (cands X first V) hb lb wb) (sa : SA P c (cands X first V) ha la wa)
    (e : (bv, av) = walkF P X L R c V.length rest (if first = 0 then (0, 0) else closer P c first 0 0).1 (if first = 0 then (0, 0) else closer P c first 0 0).2) : bv = wb ∧ av = wa := by
  have n := h.near c f0
  rw [← e] at n
  exact ⟨n.1.unique h.cands_inj sb.near, n.2.unique h.cands_inj sa.near⟩
end Go.Proofs.Qxb6623293a.Pl
