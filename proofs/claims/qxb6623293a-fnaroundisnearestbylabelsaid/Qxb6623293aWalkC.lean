import Derived.Test.Qxb6623293aWalkB
import Derived.Test.Qxb6623293aPlain
namespace Go.Proofs.Qxb6623293a
open Go.RowKit
set_option linter.unusedVariables false

/-- the memory of one run of 'around': H: the heap's size when it began -/
structure St (w : World) (H bj bt bp np cp nt ct : Nat) (P X L R : List Int) (c bv av : Int) : Prop where
  lb : w.cell? ⟨H, 0, none⟩ = some (.pointer (some ⟨bj, 0, none⟩))
  tr : w.cell? ⟨bj, 3, none⟩ = some (.slice (some ⟨bt, 0, none⟩) nt ct)
  pl : w.cell? ⟨bj, 5, none⟩ = some (.slice (some ⟨bp, 0, none⟩) np cp)
  ac : w.cell? ⟨H + 4, 0, none⟩ = some (.int .u64 c)
  bc : w.cell? ⟨H + 2, 0, none⟩ = some (.int .i32 bv)
  cc : w.cell? ⟨H + 3, 0, none⟩ = some (.int .i32 av)
  bf : w.frozen? ⟨H + 2, 0, none⟩ = false
  cf : w.frozen? ⟨H + 3, 0, none⟩ = false
  pc : ∀ k, k < np → w.cell? ⟨bp, k * 3, none⟩ = some (.int .u64 (P.getD k 0))
  xc : ∀ k, k < nt → w.cell? ⟨bt, k * 4, none⟩ = some (.int .i32 (X.getD k 0))
  lc : ∀ k, k < nt → w.cell? ⟨bt, k * 4 + 1, none⟩ = some (.int .i32 (L.getD k 0))
  rc : ∀ k, k < nt → w.cell? ⟨bt, k * 4 + 2, none⟩ = some (.int .i32 (R.getD k 0))
  jl : bj < H
  tl : bt < H
  ql : bp < H
  b0 : 0 ≤ bv
  bn : bv < np
  a0 : 0 ≤ av
  an : av < np

theorem St.drewN {w : World} {H bj bt bp np cp nt ct : Nat} {P X L R : List Int} {c bv av : Int} (h : St w H bj bt bp np cp nt ct P X L R c bv av) (n : Nat) :
    St (w.drewN n) H bj bt bp np cp nt ct P X L R c bv av :=
  ⟨h.lb, h.tr, h.pl, h.ac, h.bc, h.cc, h.bf, h.cf, h.pc, h.xc, h.lc, h.rc, h.jl, h.tl, h.ql, h.b0, h.bn, h.a0, h.an⟩

theorem cell_set_ne (w : World) (b d o p : Nat) (v : Value) (h : b ≠ d) : (w.setCell ⟨b, o, none⟩ v).cell? ⟨d, p, none⟩ = w.cell? ⟨d, p, none⟩ :=
  World.cell?_setCell_other _ _ _ _ (by intro e; cases e; exact h rfl)

theorem St.setB {w : World} {H bj bt bp np cp nt ct : Nat} {P X L R : List Int} {c bv av : Int} (h : St w H bj bt bp np cp nt ct P X L R c bv av) (x : Nat) (hx : x < np) :
    St (w.setCell ⟨H + 2, 0, none⟩ (.int .i32 x)) H bj bt bp np cp nt ct P X L R c x av := by
  have h1 := h.jl; have h2 := h.tl; have h3 := h.ql
  refine ⟨?_, ?_, ?_, ?_, ?_, ?_, ?_, ?_, ?_, ?_, ?_, ?_, h.jl, h.tl, h.ql, by omega, by omega, h.a0, h.an⟩
  · rw [cell_set_ne _ _ _ _ _ _ (by omega)]; exact h.lb
  · rw [cell_set_ne _ _ _ _ _ _ (by omega)]; exact h.tr
  · rw [cell_set_ne _ _ _ _ _ _ (by omega)]; exact h.pl
  · rw [cell_set_ne _ _ _ _ _ _ (by omega)]; exact h.ac
  · exact World.cell?_setCell_same _ _ _ h.bc
  · rw [cell_set_ne _ _ _ _ _ _ (by omega)]; exact h.cc
  · rw [World.frozen?_setCell]; exact h.bf
  · rw [World.frozen?_setCell]; exact h.cf
  · intro k hk; rw [cell_set_ne _ _ _ _ _ _ (by omega)]; exact h.pc k hk
  · intro k hk; rw [cell_set_ne _ _ _ _ _ _ (by omega)]; exact h.xc k hk
  · intro k hk; rw [cell_set_ne _ _ _ _ _ _ (by omega)]; exact h.lc k hk
  · intro k hk; rw [cell_set_ne _ _ _ _ _ _ (by omega)]; exact h.rc k hk

theorem St.setA {w : World} {H bj bt bp np cp nt ct : Nat} {P X L R : List Int} {c bv av : Int} (h : St w H bj bt bp np cp nt ct P X L R c bv av) (x : Nat) (hx : x < np) :
    St (w.setCell ⟨H + 3, 0, none⟩ (.int .i32 x)) H bj bt bp np cp nt ct P X L R c bv x := by
  have h1 := h.jl; have h2 := h.tl; have h3 := h.ql
  refine ⟨?_, ?_, ?_, ?_, ?_, ?_, ?_, ?_, ?_, ?_, ?_, ?_, h.jl, h.tl, h.ql, h.b0, h.bn, by omega, by omega⟩
  · rw [cell_set_ne _ _ _ _ _ _ (by omega)]; exact h.lb
  · rw [cell_set_ne _ _ _ _ _ _ (by omega)]; exact h.tr
  · rw [cell_set_ne _ _ _ _ _ _ (by omega)]; exact h.pl
  · rw [cell_set_ne _ _ _ _ _ _ (by omega)]; exact h.ac
  · rw [cell_set_ne _ _ _ _ _ _ (by omega)]; exact h.bc
  · exact World.cell?_setCell_same _ _ _ h.cc
  · rw [World.frozen?_setCell]; exact h.bf
  · rw [World.frozen?_setCell]; exact h.cf
  · intro k hk; rw [cell_set_ne _ _ _ _ _ _ (by omega)]; exact h.pc k hk
  · intro k hk; rw [cell_set_ne _ _ _ _ _ _ (by omega)]; exact h.xc k hk
  · intro k hk; rw [cell_set_ne _ _ _ _ _ _ (by omega)]; exact h.lc k hk
  · intro k hk; rw [cell_set_ne _ _ _ _ _ _ (by omega)]; exact h.rc k hk

theorem closer_any {w : World} {H bj bt bp np cp nt ct : Nat} {P X L R : List Int} {c bv av : Int} (h : St w H bj bt bp np cp nt ct P X L R c bv av) (x : Int) (hx0 : 0 < x) (hx : x < np) :
    Calls Try.prog 9 #[.int .i32 x, .pointer (some ⟨H, 0, none⟩), .pointer (some ⟨H + 4, 0, none⟩), .pointer (some ⟨H + 2, 0, none⟩), .pointer (some ⟨H + 3, 0, none⟩)] w
      fun e w' => e = .returned (.tuple #[]) ∧ St w' H bj bt bp np cp nt ct P X L R c (Pl.closer P c x bv av).1 (Pl.closer P c x bv av).2 ∧ Below (H + 2) w w' := by
  obtain ⟨k, rfl⟩ := Int.eq_ofNat_of_zero_le (show 0 ≤ x by omega)
  obtain ⟨v, rfl⟩ := Int.eq_ofNat_of_zero_le h.b0
  obtain ⟨u, rfl⟩ := Int.eq_ofNat_of_zero_le h.a0
  have hk : k < np := by omega
  have hv : v < np := by have := h.bn; omega
  have hu : u < np := by have := h.an; omega
  have gk : Pl.g P k = P.getD k 0 := rfl
  have gv : Pl.g P v = P.getD v 0 := rfl
  have gu : Pl.g P u = P.getD u 0 := rfl
  by_cases hlt : P.getD k 0 < c
  · by_cases h0 : v = 0
    · subst h0
      have e : Pl.closer P c k ((0 : Nat) : Int) u = ((k : Int), (u : Int)) := by simp only [Pl.closer, gk]; rw [if_pos hlt, if_pos (Or.inl Int.natCast_zero)]
      rw [e]
      refine (closer_b0 H bj bp np cp (H + 4) (H + 2) (H + 3) k 0 c (P.getD k 0) 0 w h.lb h.pl h.ac h.bc h.bf hk (h.pc k hk) hlt).mono ?_
      rintro e w' ⟨rfl, n, rfl⟩
      exact ⟨rfl, (h.setB k hk).drewN n, below_drewN ((Below.refl _ _).setCell (by simp) _) n⟩
    · by_cases hb : P.getD v 0 < P.getD k 0
      · have e : Pl.closer P c k v u = ((k : Int), (u : Int)) := by simp only [Pl.closer, gk, gv]; rw [if_pos hlt, if_pos (Or.inr hb)]
        rw [e]
        refine (closer_by H bj bp np cp (H + 4) (H + 2) (H + 3) k v c (P.getD k 0) (P.getD v 0) w h.lb h.pl h.ac h.bc h.bf hk (h.pc k hk) hlt (by omega) hv (h.pc v hv) hb).mono ?_
        rintro e w' ⟨rfl, n, rfl⟩
        exact ⟨rfl, (h.setB k hk).drewN n, below_drewN ((Below.refl _ _).setCell (by simp) _) n⟩
      · have e : Pl.closer P c k v u = ((v : Int), (u : Int)) := by simp only [Pl.closer, gk, gv]; rw [if_pos hlt, if_neg (by omega)]
        rw [e]
        refine (closer_bn H bj bp np cp (H + 4) (H + 2) (H + 3) k v c (P.getD k 0) (P.getD v 0) w h.lb h.pl h.ac h.bc h.bf hk (h.pc k hk) hlt (by omega) hv (h.pc v hv) (by omega)).mono ?_
        rintro e w' ⟨rfl, n, rfl⟩
        exact ⟨rfl, h.drewN n, below_drewN (Below.refl _ _) n⟩
  · by_cases h0 : u = 0
    · subst h0
      have e : Pl.closer P c k v ((0 : Nat) : Int) = ((v : Int), (k : Int)) := by simp only [Pl.closer, gk]; rw [if_neg hlt, if_pos (Or.inl Int.natCast_zero)]
      rw [e]
      refine (closer_a0 H bj bp np cp (H + 4) (H + 2) (H + 3) k 0 c (P.getD k 0) 0 w h.lb h.pl h.ac h.cc h.cf hk (h.pc k hk) (by omega)).mono ?_
      rintro e w' ⟨rfl, n, rfl⟩
      exact ⟨rfl, (h.setA k hk).drewN n, below_drewN ((Below.refl _ _).setCell (by simp) _) n⟩
    · by_cases hb : P.getD k 0 < P.getD u 0
      · have e : Pl.closer P c k v u = ((v : Int), (k : Int)) := by simp only [Pl.closer, gk, gu]; rw [if_neg hlt, if_pos (Or.inr hb)]
        rw [e]
        refine (closer_ay H bj bp np cp (H + 4) (H + 2) (H + 3) k u c (P.getD k 0) (P.getD u 0) w h.lb h.pl h.ac h.cc h.cf hk (h.pc k hk) (by omega) (by omega) hu (h.pc u hu) hb).mono ?_
        rintro e w' ⟨rfl, n, rfl⟩
        exact ⟨rfl, (h.setA k hk).drewN n, below_drewN ((Below.refl _ _).setCell (by simp) _) n⟩
      · have e : Pl.closer P c k v u = ((v : Int), (u : Int)) := by simp only [Pl.closer, gk, gu]; rw [if_neg hlt, if_neg (by omega)]
        rw [e]
        refine (closer_an H bj bp np cp (H + 4) (H + 2) (H + 3) k u c (P.getD k 0) (P.getD u 0) w h.lb h.pl h.ac h.cc h.cf hk (h.pc k hk) (by omega) (by omega) hu (h.pc u hu) (by omega)).mono ?_
        rintro e w' ⟨rfl, n, rfl⟩
        exact ⟨rfl, h.drewN n, below_drewN (Below.refl _ _) n⟩
end Go.Proofs.Qxb6623293a
