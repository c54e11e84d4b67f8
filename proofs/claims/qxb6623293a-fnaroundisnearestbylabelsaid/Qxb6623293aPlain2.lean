/- The plain law of the search tree: no Go here. -/
import Derived.Test.Qxb6623293aPlain
namespace Go.Proofs.Qxb6623293a.Pl

structure Fr where
  node : Int
  lo : Int
  hi : Int
  hl : Bool
  hh : Bool

def lab (P X : List Int) (n : Int) : Int := g P (g X n)

def Good (P X : List Int) (first : Int) (f : Fr) : Prop :=
  (0 < f.node ∧ f.node < X.length) ∧ (0 < g X f.node ∧ g X f.node < P.length) ∧ (f.hl = true → f.lo < lab P X f.node) ∧ (f.hh = true → lab P X f.node < f.hi) ∧ (first ≠ 0 → lab P X f.node ≠ g P first)

def lf (P X L : List Int) (f : Fr) : Fr := ⟨g L f.node, f.lo, lab P X f.node, f.hl, true⟩
def rf (P X R : List Int) (f : Fr) : Fr := ⟨g R f.node, lab P X f.node, f.hi, true, f.hh⟩

def sub (L R : List Int) : Nat → Int → List Int
  | 0, _ => []
  | d + 1, n => if n = 0 then [] else n :: (sub L R d (g L n) ++ sub L R d (g R n))

/-- what the search of the whole tree has found: V: the frames that were looked at; closed under children -/
structure Closed (P X L R : List Int) (first rest : Int) (V : List Fr) : Prop where
  good : ∀ f, f ∈ V → Good P X first f
  left : ∀ f, f ∈ V → g L f.node ≠ 0 → lf P X L f ∈ V
  right : ∀ f, f ∈ V → g R f.node ≠ 0 → rf P X R f ∈ V
  root : rest ≠ 0 → (⟨rest, 0, 0, false, false⟩ : Fr) ∈ V
  desc : ∀ f, f ∈ V → ∃ d, f.node ∈ sub L R d rest
  none : rest = 0 → V = []

theorem sub_zero (L R : List Int) (d : Nat) : sub L R d 0 = [] := by cases d <;> simp [sub]

theorem sub_mem {L R : List Int} {d : Nat} {n m : Int} (h : m ∈ sub L R (d + 1) n) : n ≠ 0 ∧ (m = n ∨ m ∈ sub L R d (g L n) ∨ m ∈ sub L R d (g R n)) := by
  by_cases e : n = 0
  · subst e; simp [sub] at h
  · refine ⟨e, ?_⟩
    simpa [sub, e] using h

theorem sub_succ {L R : List Int} : ∀ (d : Nat) (n m : Int), m ∈ sub L R d n → m ∈ sub L R (d + 1) n := by
  intro d
  induction d with
  | zero => intro n m h; simp [sub] at h
  | succ d ih =>
    intro n m h
    obtain ⟨hn, h⟩ := sub_mem h
    rw [sub, if_neg hn]
    rcases h with rfl | h | h
    · exact List.mem_cons_self
    · exact List.mem_cons_of_mem _ (List.mem_append_left _ (ih _ _ h))
    · exact List.mem_cons_of_mem _ (List.mem_append_right _ (ih _ _ h))

theorem sub_add {L R : List Int} (k d : Nat) (n m : Int) (h : m ∈ sub L R d n) : m ∈ sub L R (d + k) n := by
  induction k with
  | zero => exact h
  | succ k ih => exact sub_succ _ _ _ ih

/-- a child of what is reached is reached -/
theorem sub_child {L R : List Int} : ∀ (d : Nat) (r n c : Int), n ∈ sub L R d r → (c = g L n ∨ c = g R n) → c ≠ 0 → c ∈ sub L R (d + 1) r := by
  intro d
  induction d with
  | zero => intro r n c h; simp [sub] at h
  | succ d ih =>
    intro r n c h hc h0
    obtain ⟨hr, h⟩ := sub_mem h
    rw [sub, if_neg hr]
    rcases h with rfl | h | h
    · rcases hc with rfl | rfl
      · refine List.mem_cons_of_mem _ (List.mem_append_left _ ?_)
        rw [sub, if_neg h0]; exact List.mem_cons_self
      · refine List.mem_cons_of_mem _ (List.mem_append_right _ ?_)
        rw [sub, if_neg h0]; exact List.mem_cons_self
    · exact List.mem_cons_of_mem _ (List.mem_append_left _ (ih _ _ _ h hc h0))
    · exact List.mem_cons_of_mem _ (List.mem_append_right _ (ih _ _ _ h hc h0))

section
variable {P X L R : List Int} {first rest : Int} {V : List Fr}

/-- every node below a frame lies in its bounds -/
theorem Closed.bounds (h : Closed P X L R first rest V) : ∀ (d : Nat) (f : Fr), f ∈ V → ∀ m, m ∈ sub L R d f.node → (f.hl = true → f.lo < lab P X m) ∧ (f.hh = true → lab P X m < f.hi) := by
  intro d
  induction d with
  | zero => intro f _ m hm; simp [sub] at hm
  | succ d ih =>
    intro f hf m hm
    obtain ⟨_, hm⟩ := sub_mem hm
    have gf := h.good f hf
    rcases hm with rfl | hm | hm
    · exact ⟨gf.2.2.1, gf.2.2.2.1⟩
    · have h0 : g L f.node ≠ 0 := by
        intro e; rw [e, sub_zero] at hm; simp at hm
      have q := ih _ (h.left f hf h0) m hm
      refine ⟨q.1, fun e => ?_⟩
      have q2 : lab P X m < lab P X f.node := q.2 rfl
      have := gf.2.2.2.1 e
      omega
    · have h0 : g R f.node ≠ 0 := by
        intro e; rw [e, sub_zero] at hm; simp at hm
      have q := ih _ (h.right f hf h0) m hm
      refine ⟨fun e => ?_, q.2⟩
      have q2 : lab P X f.node < lab P X m := q.1 rfl
      have := gf.2.2.1 e
      omega

theorem Closed.below (h : Closed P X L R first rest V) {f : Fr} (hf : f ∈ V) {d : Nat} {m : Int} (hm : m ∈ sub L R d (g L f.node)) : lab P X m < lab P X f.node := by
  have h0 : g L f.node ≠ 0 := by
    intro e; rw [e, sub_zero] at hm; simp at hm
  exact (h.bounds d _ (h.left f hf h0) m hm).2 rfl

theorem Closed.above (h : Closed P X L R first rest V) {f : Fr} (hf : f ∈ V) {d : Nat} {m : Int} (hm : m ∈ sub L R d (g R f.node)) : lab P X f.node < lab P X m := by
  have h0 : g R f.node ≠ 0 := by
    intro e; rw [e, sub_zero] at hm; simp at hm
  exact (h.bounds d _ (h.right f hf h0) m hm).1 rfl

/-- labels tell nodes apart -/
theorem Closed.inj (h : Closed P X L R first rest V) : ∀ (d : Nat) (f : Fr), f ∈ V → ∀ m n, m ∈ sub L R d f.node → n ∈ sub L R d f.node → lab P X m = lab P X n → m = n := by
  intro d
  induction d with
  | zero => intro f _ m n hm; simp [sub] at hm
  | succ d ih =>
    intro f hf m n hm hn e
    obtain ⟨_, hm⟩ := sub_mem hm
    obtain ⟨_, hn⟩ := sub_mem hn
    rcases hm with rfl | hm | hm
    · rcases hn with rfl | hn | hn
      · rfl
      · have := h.below hf hn; omega
      · have := h.above hf hn; omega
    · rcases hn with rfl | hn | hn
      · have := h.below hf hm; omega
      · have h0 : g L f.node ≠ 0 := by
          intro e; rw [e, sub_zero] at hm; simp at hm
        exact ih _ (h.left f hf h0) m n hm hn e
      · have := h.below hf hm; have := h.above hf hn; omega
    · rcases hn with rfl | hn | hn
      · have := h.above hf hm; omega
      · have := h.above hf hm; have := h.below hf hn; omega
      · have h0 : g R f.node ≠ 0 := by
          intro e; rw [e, sub_zero] at hm; simp at hm
        exact ih _ (h.right f hf h0) m n hm hn e

theorem Closed.inj' (h : Closed P X L R first rest V) {f k : Fr} (hf : f ∈ V) (hk : k ∈ V) (e : lab P X f.node = lab P X k.node) : f.node = k.node := by
  have hr : rest ≠ 0 := by intro e0; rw [h.none e0] at hf; simp at hf
  obtain ⟨d1, h1⟩ := h.desc f hf
  obtain ⟨d2, h2⟩ := h.desc k hk
  have q1 := sub_add d2 _ _ _ h1
  have q2 := sub_add d1 _ _ _ h2
  rw [Nat.add_comm] at q2
  exact h.inj _ _ (h.root hr) _ _ q1 q2 e
end

theorem countP_lt {α : Type} (p q : α → Bool) : ∀ (l : List α) (a : α), (∀ x, x ∈ l → p x = true → q x = true) → a ∈ l → q a = true → p a = false → l.countP p < l.countP q := by
  intro l
  induction l with
  | nil => intro a _ h; simp at h
  | cons b l ih =>
    intro a hpq ha hq hp
    have hmono : l.countP p ≤ l.countP q := List.countP_mono_left (fun x hx h => hpq x (List.mem_cons_of_mem _ hx) h)
    rw [List.countP_cons, List.countP_cons]
    rcases List.mem_cons.1 ha with rfl | ha
    · rw [hq, hp]; simp; omega
    · have := ih a (fun x hx => hpq x (List.mem_cons_of_mem _ hx)) ha hq hp
      have hb := hpq b List.mem_cons_self
      cases e : p b
      · simp; split <;> omega
      · rw [hb e]; simp; omega

/-- inside a frame's bounds -/
def inside (P X : List Int) (f k : Fr) : Bool := (!f.hl || decide (f.lo < lab P X k.node)) && (!f.hh || decide (lab P X k.node < f.hi))

section
variable {P X L R : List Int} {first rest : Int} {V : List Fr}

theorem Closed.self_inside (h : Closed P X L R first rest V) {f : Fr} (hf : f ∈ V) : inside P X f f = true := by
  have gf := h.good f hf
  unfold inside
  have h1 := gf.2.2.1
  have h2 := gf.2.2.2.1
  cases e1 : f.hl <;> cases e2 : f.hh <;> simp [e1, e2] at h1 h2 ⊢ <;> omega

theorem left_inside (f : Fr) (k : Fr) (gf : f.hh = true → lab P X f.node < f.hi) (h : inside P X (lf P X L f) k = true) : inside P X f k = true := by
  unfold inside lf at *
  cases e1 : f.hl <;> cases e2 : f.hh <;> simp [e1, e2] at h gf ⊢ <;> omega

theorem right_inside (f : Fr) (k : Fr) (gf : f.hl = true → f.lo < lab P X f.node) (h : inside P X (rf P X R f) k = true) : inside P X f k = true := by
  unfold inside rf at *
  cases e1 : f.hl <;> cases e2 : f.hh <;> simp [e1, e2] at h gf ⊢ <;> omega

theorem Closed.okPath' (h : Closed P X L R first rest V) (c : Int) : ∀ (k : Nat) (f : Fr), f ∈ V → V.countP (inside P X f) ≤ k → okPath P X L R c k f.node := by
  intro k
  induction k with
  | zero =>
    intro f hf hk
    have : 0 < V.countP (inside P X f) := List.countP_pos_iff.2 ⟨f, hf, h.self_inside hf⟩
    omega
  | succ k ih =>
    intro f hf hk
    have gf := h.good f hf
    refine Or.inr ⟨gf.1.1, gf.1.2, gf.2.1.1, gf.2.1.2, ?_⟩
    unfold nxt
    by_cases hc : g P (g X f.node) < c
    · rw [if_pos hc]
      by_cases h0 : g R f.node = 0
      · rw [h0]
        cases k with
        | zero => rfl
        | succ k => exact Or.inl rfl
      · refine ih (rf P X R f) (h.right f hf h0) ?_
        have := countP_lt (inside P X (rf P X R f)) (inside P X f) V f (fun x _ hx => right_inside f x gf.2.2.1 hx) hf (h.self_inside hf) (by unfold inside rf; simp)
        omega
    · rw [if_neg hc]
      by_cases h0 : g L f.node = 0
      · rw [h0]
        cases k with
        | zero => rfl
        | succ k => exact Or.inl rfl
      · refine ih (lf P X L f) (h.left f hf h0) ?_
        have := countP_lt (inside P X (lf P X L f)) (inside P X f) V f (fun x _ hx => left_inside f x gf.2.2.2.1 hx) hf (h.self_inside hf) (by unfold inside lf; simp)
        omega

theorem Closed.okPath (h : Closed P X L R first rest V) (c : Int) : okPath P X L R c V.length rest := by
  by_cases h0 : rest = 0
  · rw [h.none h0, h0]; rfl
  · exact h.okPath' c _ _ (h.root h0) List.countP_le_length
end

/-- bv is the place of the greatest label under c, among those of T; 0: there is none -/
def NearB (P : List Int) (c : Int) (T : Int → Prop) (bv : Int) : Prop :=
  (bv = 0 ∧ ∀ x, T x → ¬ g P x < c) ∨ (0 < bv ∧ T bv ∧ g P bv < c ∧ ∀ x, T x → g P x < c → g P x ≤ g P bv)
/-- av is the place of the least label from c on, among those of T; 0: there is none -/
def NearA (P : List Int) (c : Int) (T : Int → Prop) (av : Int) : Prop :=
  (av = 0 ∧ ∀ x, T x → g P x < c) ∨ (0 < av ∧ T av ∧ c ≤ g P av ∧ ∀ x, T x → c ≤ g P x → g P av ≤ g P x)

theorem closer_near {P : List Int} {c x bv av : Int} {T : Int → Prop} (hx : 0 < x) (hb : NearB P c T bv) (ha : NearA P c T av) :
    NearB P c (fun y => T y ∨ y = x) (closer P c x bv av).1 ∧ NearA P c (fun y => T y ∨ y = x) (closer P c x bv av).2 := by
  unfold closer
  by_cases hc : g P x < c
  · rw [if_pos hc]
    have hA : NearA P c (fun y => T y ∨ y = x) av := by
      rcases ha with ⟨h0, h1⟩ | ⟨h0, h1, h2, h3⟩
      · exact .inl ⟨h0, fun y hy => by rcases hy with hy | rfl; exact h1 y hy; exact hc⟩
      · exact .inr ⟨h0, .inl h1, h2, fun y hy hcy => by rcases hy with hy | rfl; exact h3 y hy hcy; omega⟩
    by_cases hb2 : bv = 0 ∨ g P bv < g P x
    · rw [if_pos hb2]
      refine ⟨.inr ⟨hx, .inr rfl, hc, fun y hy hcy => ?_⟩, hA⟩
      rcases hy with hy | rfl
      · rcases hb with ⟨h0, h1⟩ | ⟨h0, h1, h2, h3⟩
        · exact absurd hcy (h1 y hy)
        · have := h3 y hy hcy
          show g P y ≤ g P x
          rcases hb2 with e | e <;> omega
      · exact Int.le_refl _
    · rw [if_neg hb2]
      refine ⟨?_, hA⟩
      rcases hb with ⟨h0, h1⟩ | ⟨h0, h1, h2, h3⟩
      · exact absurd (Or.inl h0) hb2
      · refine .inr ⟨h0, .inl h1, h2, fun y hy hcy => ?_⟩
        rcases hy with hy | rfl
        · exact h3 y hy hcy
        · show g P y ≤ g P bv
          omega
  · rw [if_neg hc]
    have hB : NearB P c (fun y => T y ∨ y = x) bv := by
      rcases hb with ⟨h0, h1⟩ | ⟨h0, h1, h2, h3⟩
      · exact .inl ⟨h0, fun y hy => by rcases hy with hy | rfl; exact h1 y hy; exact hc⟩
      · exact .inr ⟨h0, .inl h1, h2, fun y hy hcy => by rcases hy with hy | rfl; exact h3 y hy hcy; omega⟩
    by_cases ha2 : av = 0 ∨ g P x < g P av
    · rw [if_pos ha2]
      refine ⟨hB, .inr ⟨hx, .inr rfl, by show c ≤ g P x; omega, fun y hy hcy => ?_⟩⟩
      rcases hy with hy | rfl
      · rcases ha with ⟨h0, h1⟩ | ⟨h0, h1, h2, h3⟩
        · have := h1 y hy; omega
        · have := h3 y hy hcy
          show g P x ≤ g P y
          rcases ha2 with e | e <;> omega
      · exact Int.le_refl _
    · rw [if_neg ha2]
      refine ⟨hB, ?_⟩
      rcases ha with ⟨h0, h1⟩ | ⟨h0, h1, h2, h3⟩
      · exact absurd (Or.inl h0) ha2
      · refine .inr ⟨h0, .inl h1, h2, fun y hy hcy => ?_⟩
        rcases hy with hy | rfl
        · exact h3 y hy hcy
        · show g P av ≤ g P y
          omega

/-- more may be looked at, if each of it is no nearer than one that was -/
theorem NearB.more {P : List Int} {c bv : Int} {T U : Int → Prop} (h : NearB P c T bv) (hU : ∀ y, U y → ¬ g P y < c ∨ ∃ x, T x ∧ g P x < c ∧ g P y ≤ g P x) : NearB P c (fun y => T y ∨ U y) bv := by
  rcases h with ⟨h0, h1⟩ | ⟨h0, h1, h2, h3⟩
  · refine .inl ⟨h0, fun y hy => ?_⟩
    rcases hy with hy | hy
    · exact h1 y hy
    · rcases hU y hy with q | ⟨x, q1, q2, q3⟩
      · exact q
      · exact absurd q2 (h1 x q1)
  · refine .inr ⟨h0, .inl h1, h2, fun y hy hcy => ?_⟩
    rcases hy with hy | hy
    · exact h3 y hy hcy
    · rcases hU y hy with q | ⟨x, q1, q2, q3⟩
      · exact absurd hcy q
      · have := h3 x q1 q2; show g P y ≤ g P bv; omega

theorem NearA.more {P : List Int} {c av : Int} {T U : Int → Prop} (h : NearA P c T av) (hU : ∀ y, U y → g P y < c ∨ ∃ x, T x ∧ c ≤ g P x ∧ g P x ≤ g P y) : NearA P c (fun y => T y ∨ U y) av := by
  rcases h with ⟨h0, h1⟩ | ⟨h0, h1, h2, h3⟩
  · refine .inl ⟨h0, fun y hy => ?_⟩
    rcases hy with hy | hy
    · exact h1 y hy
    · rcases hU y hy with q | ⟨x, q1, q2, q3⟩
      · exact q
      · have := h1 x q1; omega
  · refine .inr ⟨h0, .inl h1, h2, fun y hy hcy => ?_⟩
    rcases hy with hy | hy
    · exact h3 y hy hcy
    · rcases hU y hy with q | ⟨x, q1, q2, q3⟩
      · omega
      · have := h3 x q1 q2; show g P av ≤ g P y; omega

theorem NearB.congr {P : List Int} {c bv : Int} {T U : Int → Prop} (h : NearB P c T bv) (e : ∀ y, T y ↔ U y) : NearB P c U bv := by
  have : T = U := funext fun y => propext (e y)
  rw [← this]; exact h
theorem NearA.congr {P : List Int} {c av : Int} {T U : Int → Prop} (h : NearA P c T av) (e : ∀ y, T y ↔ U y) : NearA P c U av := by
  have : T = U := funext fun y => propext (e y)
  rw [← this]; exact h

theorem NearB.unique {P : List Int} {c a b : Int} {T : Int → Prop} (inj : ∀ x y, T x → T y → g P x = g P y → x = y) (h : NearB P c T a) (k : NearB P c T b) : a = b := by
  rcases h with ⟨h0, h1⟩ | ⟨h0, h1, h2, h3⟩
  · rcases k with ⟨k0, k1⟩ | ⟨k0, k1, k2, k3⟩
    · omega
    · exact absurd k2 (h1 b k1)
  · rcases k with ⟨k0, k1⟩ | ⟨k0, k1, k2, k3⟩
    · exact absurd h2 (k1 a h1)
    · refine inj a b h1 k1 ?_
      have := h3 b k1 k2
      have := k3 a h1 h2
      omega
theorem NearA.unique {P : List Int} {c a b : Int} {T : Int → Prop} (inj : ∀ x y, T x → T y → g P x = g P y → x = y) (h : NearA P c T a) (k : NearA P c T b) : a = b := by
  rcases h with ⟨h0, h1⟩ | ⟨h0, h1, h2, h3⟩
  · rcases k with ⟨k0, k1⟩ | ⟨k0, k1, k2, k3⟩
    · omega
    · have := h1 b k1; omega
  · rcases k with ⟨k0, k1⟩ | ⟨k0, k1, k2, k3⟩
    · have := k1 a h1; omega
    · refine inj a b h1 k1 ?_
      have := h3 b k1 k2
      have := k3 a h1 h2
      omega

section
variable {P X L R : List Int} {first rest : Int} {V : List Fr}

theorem Closed.walk (h : Closed P X L R first rest V) (c : Int) : ∀ (k : Nat) (n bv av : Int) (T : Int → Prop), (n = 0 ∨ ∃ f, f ∈ V ∧ f.node = n) → Pl.okPath P X L R c k n → NearB P c T bv → NearA P c T av →
    NearB P c (fun y => T y ∨ ∃ d m, m ∈ sub L R d n ∧ y = g X m) (walkF P X L R c k n bv av).1 ∧ NearA P c (fun y => T y ∨ ∃ d m, m ∈ sub L R d n ∧ y = g X m) (walkF P X L R c k n bv av).2 := by
  intro k
  induction k with
  | zero =>
    intro n bv av T _ hok hb ha
    have hn : n = 0 := hok
    subst hn
    have e : ∀ y, T y ↔ (T y ∨ ∃ d m, m ∈ sub L R d 0 ∧ y = g X m) := fun y => ⟨.inl, fun q => by
      rcases q with q | ⟨d, m, q, _⟩
      · exact q
      · rw [sub_zero] at q; simp at q⟩
    exact ⟨hb.congr e, ha.congr e⟩
  | succ k ih =>
    intro n bv av T hn hok hb ha
    by_cases n0 : n = 0
    · subst n0
      have e : ∀ y, T y ↔ (T y ∨ ∃ d m, m ∈ sub L R d 0 ∧ y = g X m) := fun y => ⟨.inl, fun q => by
        rcases q with q | ⟨d, m, q, _⟩
        · exact q
        · rw [sub_zero] at q; simp at q⟩
      rw [walkF, if_pos rfl]
      exact ⟨hb.congr e, ha.congr e⟩
    · rcases hn with hn | ⟨f, hf, rfl⟩
      · exact absurd hn n0
      rcases hok with hok | ⟨_, _, hx0, _, hok⟩
      · exact absurd hok n0
      have q := closer_near hx0 hb ha
      rw [walkF, if_neg n0]
      have hlab : ∀ m, lab P X m = g P (g X m) := fun _ => rfl
      by_cases hc : g P (g X f.node) < c
      · have en : nxt P X L R c f.node = g R f.node := by unfold nxt; rw [if_pos hc]
        rw [en] at hok ⊢
        have hnext : g R f.node = 0 ∨ ∃ f', f' ∈ V ∧ f'.node = g R f.node := by
          by_cases h0 : g R f.node = 0
          · exact .inl h0
          · exact .inr ⟨_, h.right f hf h0, rfl⟩
        have r := ih (g R f.node) _ _ _ hnext hok q.1 q.2
        have e : ∀ y, (((T y ∨ y = g X f.node) ∨ ∃ d m, m ∈ sub L R d (g R f.node) ∧ y = g X m) ∨ ∃ d m, m ∈ sub L R d (g L f.node) ∧ y = g X m) ↔ (T y ∨ ∃ d m, m ∈ sub L R d f.node ∧ y = g X m) := by
          intro y
          constructor
          · rintro (((q | q) | ⟨d, m, q1, q2⟩) | ⟨d, m, q1, q2⟩)
            · exact .inl q
            · exact .inr ⟨1, f.node, by rw [sub, if_neg n0]; exact List.mem_cons_self, q⟩
            · exact .inr ⟨d + 1, m, by rw [sub, if_neg n0]; exact List.mem_cons_of_mem _ (List.mem_append_right _ q1), q2⟩
            · exact .inr ⟨d + 1, m, by rw [sub, if_neg n0]; exact List.mem_cons_of_mem _ (List.mem_append_left _ q1), q2⟩
          · rintro (q | ⟨d, m, q1, q2⟩)
            · exact .inl (.inl (.inl q))
            · cases d with
              | zero => simp [sub] at q1
              | succ d =>
                obtain ⟨_, q1⟩ := sub_mem q1
                rcases q1 with rfl | q1 | q1
                · exact .inl (.inl (.inr q2))
                · exact .inr ⟨d, m, q1, q2⟩
                · exact .inl (.inr ⟨d, m, q1, q2⟩)
        refine ⟨(r.1.more (U := fun y => ∃ d m, m ∈ sub L R d (g L f.node) ∧ y = g X m) ?_).congr e, (r.2.more (U := fun y => ∃ d m, m ∈ sub L R d (g L f.node) ∧ y = g X m) ?_).congr e⟩
        · rintro y ⟨d, m, q1, rfl⟩
          have := h.below hf q1
          rw [hlab, hlab] at this
          exact .inr ⟨g X f.node, .inl (.inr rfl), hc, by omega⟩
        · rintro y ⟨d, m, q1, rfl⟩
          have := h.below hf q1
          rw [hlab, hlab] at this
          exact .inl (by omega)
      · have en : nxt P X L R c f.node = g L f.node := by unfold nxt; rw [if_neg hc]
        rw [en] at hok ⊢
        have hnext : g L f.node = 0 ∨ ∃ f', f' ∈ V ∧ f'.node = g L f.node := by
          by_cases h0 : g L f.node = 0
          · exact .inl h0
          · exact .inr ⟨_, h.left f hf h0, rfl⟩
        have r := ih (g L f.node) _ _ _ hnext hok q.1 q.2
        have e : ∀ y, (((T y ∨ y = g X f.node) ∨ ∃ d m, m ∈ sub L R d (g L f.node) ∧ y = g X m) ∨ ∃ d m, m ∈ sub L R d (g R f.node) ∧ y = g X m) ↔ (T y ∨ ∃ d m, m ∈ sub L R d f.node ∧ y = g X m) := by
          intro y
          constructor
          · rintro (((q | q) | ⟨d, m, q1, q2⟩) | ⟨d, m, q1, q2⟩)
            · exact .inl q
            · exact .inr ⟨1, f.node, by rw [sub, if_neg n0]; exact List.mem_cons_self, q⟩
            · exact .inr ⟨d + 1, m, by rw [sub, if_neg n0]; exact List.mem_cons_of_mem _ (List.mem_append_left _ q1), q2⟩
            · exact .inr ⟨d + 1, m, by rw [sub, if_neg n0]; exact List.mem_cons_of_mem _ (List.mem_append_right _ q1), q2⟩
          · rintro (q | ⟨d, m, q1, q2⟩)
            · exact .inl (.inl (.inl q))
            · cases d with
              | zero => simp [sub] at q1
              | succ d =>
                obtain ⟨_, q1⟩ := sub_mem q1
                rcases q1 with rfl | q1 | q1
                · exact .inl (.inl (.inr q2))
                · exact .inl (.inr ⟨d, m, q1, q2⟩)
                · exact .inr ⟨d, m, q1, q2⟩
        refine ⟨(r.1.more (U := fun y => ∃ d m, m ∈ sub L R d (g R f.node) ∧ y = g X m) ?_).congr e, (r.2.more (U := fun y => ∃ d m, m ∈ sub L R d (g R f.node) ∧ y = g X m) ?_).congr e⟩
        · rintro y ⟨d, m, q1, rfl⟩
          have := h.above hf q1
          rw [hlab, hlab] at this
          exact .inl (by omega)
        · rintro y ⟨d, m, q1, rfl⟩
          have := h.above hf q1
          rw [hlab, hlab] at this
          exact .inr ⟨g X f.node, .inl (.inr rfl), by omega, by omega⟩

/-- what is reached below a frame is a frame's node -/
theorem Closed.back (h : Closed P X L R first rest V) : ∀ (d : Nat) (f : Fr), f ∈ V → ∀ m, m ∈ sub L R d f.node → ∃ k, k ∈ V ∧ k.node = m := by
  intro d
  induction d with
  | zero => intro f _ m hm; simp [sub] at hm
  | succ d ih =>
    intro f hf m hm
    obtain ⟨_, hm⟩ := sub_mem hm
    rcases hm with rfl | hm | hm
    · exact ⟨f, hf, rfl⟩
    · have h0 : g L f.node ≠ 0 := by
        intro e; rw [e, sub_zero] at hm; simp at hm
      exact ih _ (h.left f hf h0) m hm
    · have h0 : g R f.node ≠ 0 := by
        intro e; rw [e, sub_zero] at hm; simp at hm
      exact ih _ (h.right f hf h0) m hm

/-- the places that are looked at one by one -/
def cands (X : List Int) (first : Int) (V : List Fr) : List Int := (if first = 0 then [] else [first]) ++ V.map fun f => g X f.node

theorem Closed.near (h : Closed P X L R first rest V) (c : Int) (hf0 : 0 ≤ first) :
    NearB P c (fun y => y ∈ cands X first V) (walkF P X L R c V.length rest (if first = 0 then (0, 0) else closer P c first 0 0).1 (if first = 0 then (0, 0) else closer P c first 0 0).2).1 ∧
    NearA P c (fun y => y ∈ cands X first V) (walkF P X L R c V.length rest (if first = 0 then (0, 0) else closer P c first 0 0).1 (if first = 0 then (0, 0) else closer P c first 0 0).2).2 := by
  have start : NearB P c (fun y => first ≠ 0 ∧ y = first) (if first = 0 then (0, 0) else closer P c first 0 0).1 ∧ NearA P c (fun y => first ≠ 0 ∧ y = first) (if first = 0 then (0, 0) else closer P c first 0 0).2 := by
    by_cases h0 : first = 0
    · rw [if_pos h0]
      exact ⟨.inl ⟨rfl, fun y hy => absurd h0 hy.1⟩, .inl ⟨rfl, fun y hy => absurd h0 hy.1⟩⟩
    · rw [if_neg h0]
      have q := closer_near (P := P) (c := c) (x := first) (bv := 0) (av := 0) (T := fun _ => False) (by omega) (.inl ⟨rfl, fun _ hy => hy.elim⟩) (.inl ⟨rfl, fun _ hy => hy.elim⟩)
      have e : ∀ y, (False ∨ y = first) ↔ (first ≠ 0 ∧ y = first) := fun y => ⟨fun q => by rcases q with q | q; exact q.elim; exact ⟨h0, q⟩, fun q => .inr q.2⟩
      exact ⟨q.1.congr e, q.2.congr e⟩
  have hrest : rest = 0 ∨ ∃ f, f ∈ V ∧ f.node = rest := by
    by_cases h0 : rest = 0
    · exact .inl h0
    · exact .inr ⟨_, h.root h0, rfl⟩
  have r := h.walk c V.length rest _ _ _ hrest (h.okPath c) start.1 start.2
  have e : ∀ y, ((first ≠ 0 ∧ y = first) ∨ ∃ d m, m ∈ sub L R d rest ∧ y = g X m) ↔ y ∈ cands X first V := by
    intro y
    unfold cands
    rw [List.mem_append, List.mem_map]
    constructor
    · rintro (⟨q1, q2⟩ | ⟨d, m, q1, q2⟩)
      · left; rw [if_neg q1]; simp [q2]
      · right
        have hr : rest ≠ 0 := by intro e0; rw [e0, sub_zero] at q1; simp at q1
        obtain ⟨k, k1, k2⟩ := h.back d _ (h.root hr) m q1
        exact ⟨k, k1, by rw [k2, q2]⟩
    · rintro (q | ⟨f, q1, q2⟩)
      · left
        by_cases h0 : first = 0
        · rw [if_pos h0] at q; simp at q
        · rw [if_neg h0] at q; simp at q; exact ⟨h0, q⟩
      · right
        obtain ⟨d, hd⟩ := h.desc f q1
        exact ⟨d, f.node, hd, q2.symm⟩
  exact ⟨r.1.congr e, r.2.congr e⟩

theorem Closed.cands_inj (h : Closed P X L R first rest V) : ∀ x y, x ∈ cands X first V → y ∈ cands X first V → g P x = g P y → x = y := by
  intro x y hx hy e
  unfold cands at hx hy
  rw [List.mem_append, List.mem_map] at hx hy
  rcases hx with hx | ⟨f, f1, rfl⟩
  · by_cases h0 : first = 0
    · rw [if_pos h0] at hx; simp at hx
    rw [if_neg h0] at hx hy; simp at hx
    subst hx
    rcases hy with hy | ⟨k, k1, rfl⟩
    · simp at hy; exact hy.symm
    · exact absurd e.symm ((h.good k k1).2.2.2.2 h0)
  · rcases hy with hy | ⟨k, k1, rfl⟩
    · by_cases h0 : first = 0
      · rw [if_pos h0] at hy; simp at hy
      rw [if_neg h0] at hy; simp at hy
      subst hy
      exact absurd e ((h.good f f1).2.2.2.2 h0)
    · rw [h.inj' f1 k1 e]
end
end Go.Proofs.Qxb6623293a.Pl
