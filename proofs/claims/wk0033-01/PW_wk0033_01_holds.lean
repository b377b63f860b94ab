import PyProof.Rows.All
import Wide.All
import OpenK.AllK
import Wide.FinOn
import PyProof.MinMaxWalk
import PyProof.MeetsSeq
import PyProof.DictWalks
import PyProof.EnumStmt
import PyProof.SeqInW
import PyProof.Rows.EqNone
import PyProof.ZipIter
import PyProof.Rows.SetFrom
import KE.KLcTest
import KE.KMinBuiltin
import KE.KStopIter
import Lean
import PySem.Challenge.RW_wk0033_01
set_option Elab.async false
set_option maxRecDepth 100000
set_option linter.unusedVariables false
section
namespace Mine.Cake
/-- a worth on stretches of a row of m -/
structure Wor (m : Nat) (u : Nat → Nat → Int) : Prop where
  mono : ∀ a b c d, a ≤ b → b ≤ c → c ≤ d → d ≤ m → u b c ≤ u a d
  zero : ∀ a b, b ≤ a → u a b = 0
noncomputable def lessN (u : Nat → Nat → Int) (f e : Nat) : Int := if f = e then 0 else min (u (f + 1) e) (u f (e - 1))
noncomputable def Ok (m : Nat) (u : Nat → Nat → Int) (f s : Nat) (x : Int) : Prop := lessN u 0 f ≤ x ∧ lessN u f s ≤ x ∧ lessN u s m ≤ x
noncomputable def Sol (m : Nat) (U : Fin 3 → Nat → Nat → Int) : Prop := ∃ f s, f ≤ s ∧ s ≤ m ∧ ∃ i j k : Fin 3, i ≠ j ∧ i ≠ k ∧ j ≠ k ∧ Ok m (U i) f s (U i 0 f) ∧ Ok m (U j) f s (U j f s) ∧ Ok m (U k) f s (U k s m)
section
variable {m : Nat} {u : Nat → Nat → Int}
theorem Wor.pos (h : Wor m u) {f e : Nat} (hf : f ≤ e) (he : e ≤ m) : 0 ≤ u f e := by
  rw [← h.zero f f (Nat.le_refl _)]; exact h.mono f f f e (Nat.le_refl _) (Nat.le_refl _) hf he
theorem less_self (h : Wor m u) {f e : Nat} (hf : f ≤ e) (he : e ≤ m) : lessN u f e ≤ u f e := by
  unfold lessN
  split
  · exact h.pos hf he
  · have := h.mono f (f + 1) e e (by first | assumption | exact Nat.le_refl _ | exact Nat.le_succ _ | exact Nat.zero_le _ | omega) (by first | assumption | exact Nat.le_refl _ | exact Nat.le_succ _ | exact Nat.zero_le _ | omega) (Nat.le_refl _) he; omega
theorem less_left (h : Wor m u) {f e : Nat} (hf : f ≤ e) (he : e ≤ m) {x : Int} (hx : f < e → u (f + 1) e ≤ x) (h0 : 0 ≤ x) : lessN u f e ≤ x := by
  unfold lessN
  split
  · exact h0
  · have := hx (by first | assumption | exact Nat.le_refl _ | exact Nat.le_succ _ | exact Nat.zero_le _ | omega); omega
theorem less_right (h : Wor m u) {f e : Nat} (hf : f ≤ e) (he : e ≤ m) {x : Int} (hx : f < e → u f (e - 1) ≤ x) (h0 : 0 ≤ x) : lessN u f e ≤ x := by
  unfold lessN
  split
  · exact h0
  · have := hx (by first | assumption | exact Nat.le_refl _ | exact Nat.le_succ _ | exact Nat.zero_le _ | omega); omega
end
noncomputable def G (m : Nat) (u : Nat → Nat → Int) (p s : Nat) : Prop := u s m ≤ u p s
section
variable {m : Nat} {u : Nat → Nat → Int}
theorem G.up (h : Wor m u) {p s s' : Nat} (hp : p ≤ s) (hs : s ≤ s') (hm : s' ≤ m) (g : G m u p s) : G m u p s' := by
  have a := h.mono s s' m m hs hm (Nat.le_refl _) (Nat.le_refl _)
  have b := h.mono p p s s' (Nat.le_refl _) hp hs hm
  unfold G at *; omega
theorem G.down (h : Wor m u) {p p' s : Nat} (hp : p ≤ p') (hs : p' ≤ s) (hm : s ≤ m) (g : G m u p' s) : G m u p s := by
  have b := h.mono p p' s s hp hs (Nat.le_refl _) hm
  unfold G at *; omega
end
section
variable {m : Nat} {U : Fin 3 → Nat → Nat → Int}
noncomputable def Maj (m : Nat) (U : Fin 3 → Nat → Nat → Int) (p t : Nat) : Prop := ∀ i j : Fin 3, i ≠ j → G m (U i) p (t + 1) ∨ G m (U j) p (t + 1)
theorem fin3 : ∀ i j j' k' : Fin 3, i ≠ j → j' ≠ k' → j' = i ∨ j' = j ∨ k' = i ∨ k' = j := by decide
theorem others : ∀ i : Fin 3, ∃ j k : Fin 3, i ≠ j ∧ i ≠ k ∧ j ≠ k := by decide
theorem cover : ∀ i j k x : Fin 3, i ≠ j → i ≠ k → j ≠ k → x = i ∨ x = j ∨ x = k := by decide
theorem third : ∀ j k : Fin 3, j ≠ k → ∃ i : Fin 3, i ≠ j ∧ i ≠ k := by decide
theorem others_of : ∀ i x : Fin 3, i ≠ x → ∃ y, i ≠ y ∧ x ≠ y := by decide
theorem not_maj {p t : Nat} (h : ¬ Maj m U p t) {j k : Fin 3} (hjk : j ≠ k) : ¬ G m (U j) p (t + 1) ∨ ¬ G m (U k) p (t + 1) := by
  have : ∃ i i' : Fin 3, i ≠ i' ∧ ¬ G m (U i) p (t + 1) ∧ ¬ G m (U i') p (t + 1) := by
    refine Classical.byContradiction fun hn => h fun i i' hii => ?_
    refine Classical.byContradiction fun hh => hn ⟨i, i', hii, fun g => hh (.inl g), fun g => hh (.inr g)⟩
  obtain ⟨i, i', hii, a, b⟩ := this
  rcases fin3 i i' j k hii hjk with rfl | rfl | rfl | rfl
  · exact .inl a
  · exact .inl b
  · exact .inr a
  · exact .inr b
noncomputable def IsR (m : Nat) (U : Fin 3 → Nat → Nat → Int) (p r : Nat) : Prop := p ≤ r ∧ r < m ∧ Maj m U p r ∧ ∀ t, p ≤ t → t < r → ¬ Maj m U p t
theorem least (P : Nat → Prop) : ∀ n p, P (p + n) → ∃ r, p ≤ r ∧ r ≤ p + n ∧ P r ∧ ∀ t, p ≤ t → t < r → ¬ P t
  | 0, p, h => ⟨p, Nat.le_refl _, Nat.le_refl _, h, fun t a b => absurd b (by first | assumption | exact Nat.le_refl _ | exact Nat.le_succ _ | exact Nat.zero_le _ | omega)⟩
  | n + 1, p, h => by
    by_cases hp : P p
    · exact ⟨p, Nat.le_refl _, by omega, hp, fun t a b => absurd b (by first | assumption | exact Nat.le_refl _ | exact Nat.le_succ _ | exact Nat.zero_le _ | omega)⟩
    · obtain ⟨r, a, b, c, d⟩ := least P n (p + 1) (by rw [show p + 1 + n = p + (n + 1) by omega]; exact h)
      refine ⟨r, by omega, by omega, c, fun t h1 h2 => ?_⟩
      rcases Nat.eq_or_lt_of_le h1 with rfl | h1
      · exact hp
      · exact d t h1 h2
theorem exR (hU : ∀ i, Wor m (U i)) {p : Nat} (hp : p < m) : ∃ r, IsR m U p r := by
  have : Maj m U p (p + (m - 1 - p)) := fun i j _ => .inl (by
    unfold G
    rw [show p + (m - 1 - p) + 1 = m by omega, (hU i).zero m m (Nat.le_refl _)]
    exact (hU i).pos (by first | assumption | exact Nat.le_refl _ | exact Nat.le_succ _ | exact Nat.zero_le _ | omega) (Nat.le_refl _))
  obtain ⟨r, a, b, c, d⟩ := least (Maj m U p) _ _ this
  exact ⟨r, a, by omega, c, d⟩
theorem IsR.le (hU : ∀ i, Wor m (U i)) {a r r' : Nat} (h : IsR m U a r) (h' : IsR m U (a + 1) r') : r ≤ r' := by
  rcases Nat.lt_or_ge r' r with hl | hl
  · refine absurd (fun i j hij => ?_) (h.2.2.2 r' (by have := h'.1; omega) hl)
    exact (h'.2.2.1 i j hij).imp (G.down (hU _) (by first | assumption | exact Nat.le_refl _ | exact Nat.le_succ _ | exact Nat.zero_le _ | omega) (by have := h'.1; omega) (by have := h'.2.1; omega)) (G.down (hU _) (by first | assumption | exact Nat.le_refl _ | exact Nat.le_succ _ | exact Nat.zero_le _ | omega) (by have := h'.1; omega) (by have := h'.2.1; omega))
  · exact hl
/-- of two guests one likes the right part of [p, m) cut at r -/
theorem IsR.right (hU : ∀ i, Wor m (U i)) {p r : Nat} (h : IsR m U p r) {j k : Fin 3} (hjk : j ≠ k) : U j p r ≤ U j r m ∨ U k p r ≤ U k r m := by
  rcases Nat.eq_or_lt_of_le h.1 with rfl | hl
  · left; rw [(hU j).zero p p (Nat.le_refl _)]; exact (hU j).pos (by have := h.2.1; omega) (Nat.le_refl _)
  · have := not_maj (h.2.2.2 (r - 1) (by first | assumption | exact Nat.le_refl _ | exact Nat.le_succ _ | exact Nat.zero_le _ | omega) (by first | assumption | exact Nat.le_refl _ | exact Nat.le_succ _ | exact Nat.zero_le _ | omega)) hjk
    rw [show r - 1 + 1 = r by omega] at this
    unfold G at this; omega
noncomputable def Shout (m : Nat) (u : Nat → Nat → Int) (l p q : Nat) : Prop := u p q ≤ u 0 l ∧ u (q + 1) m ≤ u 0 l
noncomputable def NS (m : Nat) (U : Fin 3 → Nat → Nat → Int) (l p q : Nat) : Prop := ∀ i, ¬ Shout m (U i) l p q
theorem NS.lt {l p q : Nat} (h : NS m U l p q) (i : Fin 3) : U i 0 l < U i p q ∨ U i 0 l < U i (q + 1) m := by
  have := h i; unfold Shout at this; omega
/-- I -/
theorem case1 (hU : ∀ i, Wor m (U i)) {l r : Nat} (hr : IsR m U l r) (hp : l = 0 ∨ NS m U (l - 1) l r) {i : Fin 3} (hi : Shout m (U i) l l r) : Sol m U := by
  obtain ⟨j, k, hij, hik, hjk⟩ := others i
  obtain ⟨h1, h2, h3, h4⟩ := hr
  have hr := (show IsR m U l r from ⟨h1, h2, h3, h4⟩).right hU hjk
  have hg := h3 j k hjk
  obtain ⟨s1, s2⟩ := hi
  -- what a guest has of the first block
  have hA : ∀ x : Fin 3, ∀ v : Int, U x l r ≤ v → U x (r + 1) m ≤ v → lessN (U x) 0 l ≤ v := fun x v a b => by
    have := (hU x).pos (f := l) (e := r) h1 (by first | assumption | exact Nat.le_refl _ | exact Nat.le_succ _ | exact Nat.zero_le _ | omega)
    refine less_right (hU x) (by first | assumption | exact Nat.le_refl _ | exact Nat.le_succ _ | exact Nat.zero_le _ | omega) (by first | assumption | exact Nat.le_refl _ | exact Nat.le_succ _ | exact Nat.zero_le _ | omega) (fun h => ?_) (by first | assumption | exact Nat.le_refl _ | exact Nat.le_succ _ | exact Nat.zero_le _ | omega)
    rcases hp with hp | hp
    · omega
    · have := hp.lt x; omega
  have m1 : ∀ x : Fin 3, U x (r + 1) m ≤ U x r m := fun x => (hU x).mono r (r + 1) m m (by first | assumption | exact Nat.le_refl _ | exact Nat.le_succ _ | exact Nat.zero_le _ | omega) (by first | assumption | exact Nat.le_refl _ | exact Nat.le_succ _ | exact Nat.zero_le _ | omega) (by first | assumption | exact Nat.le_refl _ | exact Nat.le_succ _ | exact Nat.zero_le _ | omega) (by first | assumption | exact Nat.le_refl _ | exact Nat.le_succ _ | exact Nat.zero_le _ | omega)
  have m2 : ∀ x : Fin 3, U x l r ≤ U x l (r + 1) := fun x => (hU x).mono l l r (r + 1) (by first | assumption | exact Nat.le_refl _ | exact Nat.le_succ _ | exact Nat.zero_le _ | omega) (by first | assumption | exact Nat.le_refl _ | exact Nat.le_succ _ | exact Nat.zero_le _ | omega) (by first | assumption | exact Nat.le_refl _ | exact Nat.le_succ _ | exact Nat.zero_le _ | omega) (by first | assumption | exact Nat.le_refl _ | exact Nat.le_succ _ | exact Nat.zero_le _ | omega)
  have p1 : ∀ x : Fin 3, 0 ≤ U x l r := fun x => (hU x).pos (by first | assumption | exact Nat.le_refl _ | exact Nat.le_succ _ | exact Nat.zero_le _ | omega) (by first | assumption | exact Nat.le_refl _ | exact Nat.le_succ _ | exact Nat.zero_le _ | omega)
  have p2 : ∀ x : Fin 3, 0 ≤ U x (r + 1) m := fun x => (hU x).pos (by first | assumption | exact Nat.le_refl _ | exact Nat.le_succ _ | exact Nat.zero_le _ | omega) (by first | assumption | exact Nat.le_refl _ | exact Nat.le_succ _ | exact Nat.zero_le _ | omega)
  have p3 : ∀ x : Fin 3, 0 ≤ U x 0 l := fun x => (hU x).pos (by first | assumption | exact Nat.le_refl _ | exact Nat.le_succ _ | exact Nat.zero_le _ | omega) (by first | assumption | exact Nat.le_refl _ | exact Nat.le_succ _ | exact Nat.zero_le _ | omega)
  have lB0 : ∀ x : Fin 3, lessN (U x) l r ≤ U x l r := fun x => less_self (hU x) (by first | assumption | exact Nat.le_refl _ | exact Nat.le_succ _ | exact Nat.zero_le _ | omega) (by first | assumption | exact Nat.le_refl _ | exact Nat.le_succ _ | exact Nat.zero_le _ | omega)
  have lB1 : ∀ x : Fin 3, lessN (U x) l (r + 1) ≤ U x l r := fun x => less_right (hU x) (by first | assumption | exact Nat.le_refl _ | exact Nat.le_succ _ | exact Nat.zero_le _ | omega) (by first | assumption | exact Nat.le_refl _ | exact Nat.le_succ _ | exact Nat.zero_le _ | omega) (fun _ => Int.le_refl _) (p1 x)
  have lC0 : ∀ x : Fin 3, lessN (U x) r m ≤ U x (r + 1) m := fun x => less_left (hU x) (by first | assumption | exact Nat.le_refl _ | exact Nat.le_succ _ | exact Nat.zero_le _ | omega) (by first | assumption | exact Nat.le_refl _ | exact Nat.le_succ _ | exact Nat.zero_le _ | omega) (fun _ => Int.le_refl _) (p2 x)
  have lC1 : ∀ x : Fin 3, lessN (U x) (r + 1) m ≤ U x (r + 1) m := fun x => less_self (hU x) (by first | assumption | exact Nat.le_refl _ | exact Nat.le_succ _ | exact Nat.zero_le _ | omega) (by first | assumption | exact Nat.le_refl _ | exact Nat.le_succ _ | exact Nat.zero_le _ | omega)
  have lA : ∀ x : Fin 3, lessN (U x) 0 l ≤ U x 0 l := fun x => less_self (hU x) (by first | assumption | exact Nat.le_refl _ | exact Nat.le_succ _ | exact Nat.zero_le _ | omega) (by first | assumption | exact Nat.le_refl _ | exact Nat.le_succ _ | exact Nat.zero_le _ | omega)
  have i0 : Ok m (U i) l r (U i 0 l) := ⟨lA i, by have := lB0 i; omega, by have := lC0 i; omega⟩
  have i1 : Ok m (U i) l (r + 1) (U i 0 l) := ⟨lA i, by have := lB1 i; omega, by have := lC1 i; omega⟩
  -- the ways to be content
  have B0 : ∀ x : Fin 3, U x (r + 1) m ≤ U x l r → Ok m (U x) l r (U x l r) := fun x h => ⟨hA x _ (Int.le_refl _) h, lB0 x, by have := lC0 x; omega⟩
  have C0 : ∀ x : Fin 3, U x l r ≤ U x r m → Ok m (U x) l r (U x r m) := fun x h => ⟨hA x _ h (m1 x), by have := lB0 x; omega, less_self (hU x) (by first | assumption | exact Nat.le_refl _ | exact Nat.le_succ _ | exact Nat.zero_le _ | omega) (by first | assumption | exact Nat.le_refl _ | exact Nat.le_succ _ | exact Nat.zero_le _ | omega)⟩
  have B1 : ∀ x : Fin 3, U x (r + 1) m ≤ U x l (r + 1) → Ok m (U x) l (r + 1) (U x l (r + 1)) := fun x h => ⟨hA x _ (m2 x) h, less_self (hU x) (by first | assumption | exact Nat.le_refl _ | exact Nat.le_succ _ | exact Nat.zero_le _ | omega) (by first | assumption | exact Nat.le_refl _ | exact Nat.le_succ _ | exact Nat.zero_le _ | omega), by have := lC1 x; omega⟩
  have C1 : ∀ x : Fin 3, U x l r ≤ U x (r + 1) m → Ok m (U x) l (r + 1) (U x (r + 1) m) := fun x h => ⟨hA x _ h (Int.le_refl _), by have := lB1 x; omega, lC1 x⟩
  have key : ∀ j k : Fin 3, i ≠ j → i ≠ k → j ≠ k → U k l r ≤ U k r m → G m (U j) l (r + 1) → Sol m U := fun j k hij hik hjk hk hj => by
    by_cases h : U j (r + 1) m ≤ U j l r
    · exact ⟨l, r, h1, by omega, i, j, k, hij, hik, hjk, i0, B0 j h, C0 k hk⟩
    · by_cases h' : U k l r ≤ U k (r + 1) m
      · exact ⟨l, r + 1, by omega, by omega, i, j, k, hij, hik, hjk, i1, B1 j hj, C1 k h'⟩
      · refine ⟨l, r + 1, by omega, by omega, i, k, j, hik, hij, Ne.symm hjk, i1, B1 k ?_, C1 j (by first | assumption | exact Nat.le_refl _ | exact Nat.le_succ _ | exact Nat.zero_le _ | omega)⟩
        have := m2 k; omega
  have key2 : ∀ j k : Fin 3, i ≠ j → i ≠ k → j ≠ k → U k l r ≤ U k r m → G m (U k) l (r + 1) → Sol m U := fun j k hij hik hjk hk hgk => by
    by_cases h : U j (r + 1) m ≤ U j l r
    · exact ⟨l, r, h1, by omega, i, j, k, hij, hik, hjk, i0, B0 j h, C0 k hk⟩
    · exact ⟨l, r + 1, by omega, by omega, i, k, j, hik, hij, Ne.symm hjk, i1, B1 k hgk, C1 j (by first | assumption | exact Nat.le_refl _ | exact Nat.le_succ _ | exact Nat.zero_le _ | omega)⟩
  rcases hr with hr | hr <;> rcases hg with hg | hg
  · exact key2 k j hik hij (Ne.symm hjk) hr hg
  · exact key k j hik hij (Ne.symm hjk) hr hg
  · exact key j k hij hik hjk hr hg
  · exact key2 j k hij hik hjk hr hg
/-- II, for given j, k that do not shout before -/
theorem case2 (hU : ∀ i, Wor m (U i)) {a q : Nat} (haq : a + 1 ≤ q) (hq : q < m) {i j k : Fin 3} (hij : i ≠ j) (hik : i ≠ k) (hjk : j ≠ k)
    (hi : Shout m (U i) a (a + 1) q) (hj : U j 0 a < U j (a + 1) (q - 1) ∨ U j 0 a < U j q m) (hk : U k 0 a < U k (a + 1) (q - 1) ∨ U k 0 a < U k q m)
    (hX : G m (U j) a q) (hY : U k (a + 1) q ≤ U k q m) : Sol m U := by
  obtain ⟨s1, s2⟩ := hi
  have hq1 : a + 1 ≤ q - 1 ∨ q = a + 1 := by omega
  have lt : ∀ x : Fin 3, (U x 0 a < U x (a + 1) (q - 1) ∨ U x 0 a < U x q m) → U x 0 a < U x (a + 1) q ∨ U x 0 a < U x q m := fun x h => by
    rcases h with h | h
    · rcases hq1 with h1 | h1
      · have := (hU x).mono (a + 1) (a + 1) (q - 1) q (by first | assumption | exact Nat.le_refl _ | exact Nat.le_succ _ | exact Nat.zero_le _ | omega) (by first | assumption | exact Nat.le_refl _ | exact Nat.le_succ _ | exact Nat.zero_le _ | omega) (by first | assumption | exact Nat.le_refl _ | exact Nat.le_succ _ | exact Nat.zero_le _ | omega) (by first | assumption | exact Nat.le_refl _ | exact Nat.le_succ _ | exact Nat.zero_le _ | omega); omega
      · have h2 := (hU x).zero (a + 1) (q - 1) (by first | assumption | exact Nat.le_refl _ | exact Nat.le_succ _ | exact Nat.zero_le _ | omega)
        have h3 := (hU x).pos (f := 0) (e := a) (by first | assumption | exact Nat.le_refl _ | exact Nat.le_succ _ | exact Nat.zero_le _ | omega) (by first | assumption | exact Nat.le_refl _ | exact Nat.le_succ _ | exact Nat.zero_le _ | omega)
        omega
    · exact .inr h
  have m1 : ∀ x : Fin 3, U x (a + 1) q ≤ U x a q := fun x => (hU x).mono a (a + 1) q q (by first | assumption | exact Nat.le_refl _ | exact Nat.le_succ _ | exact Nat.zero_le _ | omega) (by first | assumption | exact Nat.le_refl _ | exact Nat.le_succ _ | exact Nat.zero_le _ | omega) (by first | assumption | exact Nat.le_refl _ | exact Nat.le_succ _ | exact Nat.zero_le _ | omega) (by first | assumption | exact Nat.le_refl _ | exact Nat.le_succ _ | exact Nat.zero_le _ | omega)
  have lA : ∀ x : Fin 3, lessN (U x) 0 a ≤ U x 0 a := fun x => less_self (hU x) (by first | assumption | exact Nat.le_refl _ | exact Nat.le_succ _ | exact Nat.zero_le _ | omega) (by first | assumption | exact Nat.le_refl _ | exact Nat.le_succ _ | exact Nat.zero_le _ | omega)
  have p1 : ∀ x : Fin 3, 0 ≤ U x (a + 1) q := fun x => (hU x).pos (by first | assumption | exact Nat.le_refl _ | exact Nat.le_succ _ | exact Nat.zero_le _ | omega) (by first | assumption | exact Nat.le_refl _ | exact Nat.le_succ _ | exact Nat.zero_le _ | omega)
  have p2 : ∀ x : Fin 3, 0 ≤ U x (q + 1) m := fun x => (hU x).pos (by first | assumption | exact Nat.le_refl _ | exact Nat.le_succ _ | exact Nat.zero_le _ | omega) (by first | assumption | exact Nat.le_refl _ | exact Nat.le_succ _ | exact Nat.zero_le _ | omega)
  have lB : ∀ x : Fin 3, lessN (U x) a q ≤ U x (a + 1) q := fun x => less_left (hU x) (by first | assumption | exact Nat.le_refl _ | exact Nat.le_succ _ | exact Nat.zero_le _ | omega) (by first | assumption | exact Nat.le_refl _ | exact Nat.le_succ _ | exact Nat.zero_le _ | omega) (fun _ => Int.le_refl _) (p1 x)
  have lC : ∀ x : Fin 3, lessN (U x) q m ≤ U x (q + 1) m := fun x => less_left (hU x) (by first | assumption | exact Nat.le_refl _ | exact Nat.le_succ _ | exact Nat.zero_le _ | omega) (by first | assumption | exact Nat.le_refl _ | exact Nat.le_succ _ | exact Nat.zero_le _ | omega) (fun _ => Int.le_refl _) (p2 x)
  have lC' : ∀ x : Fin 3, lessN (U x) q m ≤ U x q m := fun x => less_self (hU x) (by first | assumption | exact Nat.le_refl _ | exact Nat.le_succ _ | exact Nat.zero_le _ | omega) (by first | assumption | exact Nat.le_refl _ | exact Nat.le_succ _ | exact Nat.zero_le _ | omega)
  unfold G at hX
  refine ⟨a, q, by omega, by omega, i, j, k, hij, hik, hjk, ⟨lA i, ?_, ?_⟩, ⟨?_, ?_, ?_⟩, ⟨?_, ?_, lC' k⟩⟩
  · have := lB i; omega
  · have := lC i; omega
  · have := lA j; have := lt j hj; have := m1 j; omega
  · have := lB j; have := m1 j; omega
  · have := lC' j; omega
  · have := lA k; have := lt k hk; omega
  · have := lB k; omega
/-- III -/
theorem case3 (hU : ∀ i, Wor m (U i)) {a r r' : Nat} (ham : a + 1 < m) (hr : IsR m U a r) (hr' : IsR m U (a + 1) r') (ns : NS m U a a r) {i : Fin 3}
    (hi : Shout m (U i) a (a + 1) r) : Sol m U ∨ (r + 1 ≤ r' ∧ NS m U a (a + 1) (r + 1)) := by
  obtain ⟨j, k, hij, hik, hjk⟩ := others i
  have hrr := hr.right hU hjk
  have hle := hr.le hU hr'
  obtain ⟨h1, h2, h3, h4⟩ := hr
  have hg := h3 j k hjk
  obtain ⟨s1, s2⟩ := hi
  have p0 : ∀ x : Fin 3, 0 ≤ U x 0 a := fun x => (hU x).pos (by first | assumption | exact Nat.le_refl _ | exact Nat.le_succ _ | exact Nat.zero_le _ | omega) (by first | assumption | exact Nat.le_refl _ | exact Nat.le_succ _ | exact Nat.zero_le _ | omega)
  have lA : ∀ x : Fin 3, lessN (U x) 0 a ≤ U x 0 a := fun x => less_self (hU x) (by first | assumption | exact Nat.le_refl _ | exact Nat.le_succ _ | exact Nat.zero_le _ | omega) (by first | assumption | exact Nat.le_refl _ | exact Nat.le_succ _ | exact Nat.zero_le _ | omega)
  have mid : ∀ x : Fin 3, ∀ v : Int, 0 ≤ v → U x (a + 1) r ≤ v → lessN (U x) a r ≤ v := fun x v h0 h => less_left (hU x) (by first | assumption | exact Nat.le_refl _ | exact Nat.le_succ _ | exact Nat.zero_le _ | omega) (by first | assumption | exact Nat.le_refl _ | exact Nat.le_succ _ | exact Nat.zero_le _ | omega) (fun _ => h) h0
  have m0 : ∀ x : Fin 3, U x (a + 1) r ≤ U x a r := fun x => by
    rcases Nat.eq_or_lt_of_le h1 with rfl | hl
    · rw [(hU x).zero _ _ (by first | assumption | exact Nat.le_refl _ | exact Nat.le_succ _ | exact Nat.zero_le _ | omega)]; exact (hU x).pos (by first | assumption | exact Nat.le_refl _ | exact Nat.le_succ _ | exact Nat.zero_le _ | omega) (by first | assumption | exact Nat.le_refl _ | exact Nat.le_succ _ | exact Nat.zero_le _ | omega)
    · exact (hU x).mono a (a + 1) r r (by first | assumption | exact Nat.le_refl _ | exact Nat.le_succ _ | exact Nat.zero_le _ | omega) (by first | assumption | exact Nat.le_refl _ | exact Nat.le_succ _ | exact Nat.zero_le _ | omega) (by first | assumption | exact Nat.le_refl _ | exact Nat.le_succ _ | exact Nat.zero_le _ | omega) (by first | assumption | exact Nat.le_refl _ | exact Nat.le_succ _ | exact Nat.zero_le _ | omega)
  have m1 : ∀ x : Fin 3, U x (r + 1) m ≤ U x r m := fun x => (hU x).mono r (r + 1) m m (by first | assumption | exact Nat.le_refl _ | exact Nat.le_succ _ | exact Nat.zero_le _ | omega) (by first | assumption | exact Nat.le_refl _ | exact Nat.le_succ _ | exact Nat.zero_le _ | omega) (by first | assumption | exact Nat.le_refl _ | exact Nat.le_succ _ | exact Nat.zero_le _ | omega) (by first | assumption | exact Nat.le_refl _ | exact Nat.le_succ _ | exact Nat.zero_le _ | omega)
  have m2 : ∀ x : Fin 3, U x a r ≤ U x a (r + 1) := fun x => (hU x).mono a a r (r + 1) (by first | assumption | exact Nat.le_refl _ | exact Nat.le_succ _ | exact Nat.zero_le _ | omega) (by first | assumption | exact Nat.le_refl _ | exact Nat.le_succ _ | exact Nat.zero_le _ | omega) (by first | assumption | exact Nat.le_refl _ | exact Nat.le_succ _ | exact Nat.zero_le _ | omega) (by first | assumption | exact Nat.le_refl _ | exact Nat.le_succ _ | exact Nat.zero_le _ | omega)
  have m3 : ∀ x : Fin 3, U x (a + 1) r ≤ U x (a + 1) (r + 1) := fun x => by
    rcases Nat.eq_or_lt_of_le h1 with rfl | hl
    · rw [(hU x).zero _ _ (by first | assumption | exact Nat.le_refl _ | exact Nat.le_succ _ | exact Nat.zero_le _ | omega)]; exact (hU x).pos (by first | assumption | exact Nat.le_refl _ | exact Nat.le_succ _ | exact Nat.zero_le _ | omega) (by first | assumption | exact Nat.le_refl _ | exact Nat.le_succ _ | exact Nat.zero_le _ | omega)
    · exact (hU x).mono (a + 1) (a + 1) r (r + 1) (by first | assumption | exact Nat.le_refl _ | exact Nat.le_succ _ | exact Nat.zero_le _ | omega) (by first | assumption | exact Nat.le_refl _ | exact Nat.le_succ _ | exact Nat.zero_le _ | omega) (by first | assumption | exact Nat.le_refl _ | exact Nat.le_succ _ | exact Nat.zero_le _ | omega) (by first | assumption | exact Nat.le_refl _ | exact Nat.le_succ _ | exact Nat.zero_le _ | omega)
  have m4 : ∀ x : Fin 3, U x (a + 1) (r + 1) ≤ U x a (r + 1) := fun x => (hU x).mono a (a + 1) (r + 1) (r + 1) (by first | assumption | exact Nat.le_refl _ | exact Nat.le_succ _ | exact Nat.zero_le _ | omega) (by first | assumption | exact Nat.le_refl _ | exact Nat.le_succ _ | exact Nat.zero_le _ | omega) (by first | assumption | exact Nat.le_refl _ | exact Nat.le_succ _ | exact Nat.zero_le _ | omega) (by first | assumption | exact Nat.le_refl _ | exact Nat.le_succ _ | exact Nat.zero_le _ | omega)
  have m5 : ∀ x : Fin 3, U x 0 a ≤ U x 0 (a + 1) := fun x => (hU x).mono 0 0 a (a + 1) (by first | assumption | exact Nat.le_refl _ | exact Nat.le_succ _ | exact Nat.zero_le _ | omega) (by first | assumption | exact Nat.le_refl _ | exact Nat.le_succ _ | exact Nat.zero_le _ | omega) (by first | assumption | exact Nat.le_refl _ | exact Nat.le_succ _ | exact Nat.zero_le _ | omega) (by first | assumption | exact Nat.le_refl _ | exact Nat.le_succ _ | exact Nat.zero_le _ | omega)
  have p1 : ∀ x : Fin 3, 0 ≤ U x a r := fun x => (hU x).pos (by first | assumption | exact Nat.le_refl _ | exact Nat.le_succ _ | exact Nat.zero_le _ | omega) (by first | assumption | exact Nat.le_refl _ | exact Nat.le_succ _ | exact Nat.zero_le _ | omega)
  have p2 : ∀ x : Fin 3, 0 ≤ U x (r + 1) m := fun x => (hU x).pos (by first | assumption | exact Nat.le_refl _ | exact Nat.le_succ _ | exact Nat.zero_le _ | omega) (by first | assumption | exact Nat.le_refl _ | exact Nat.le_succ _ | exact Nat.zero_le _ | omega)
  have p3 : ∀ x : Fin 3, 0 ≤ U x r m := fun x => (hU x).pos (by first | assumption | exact Nat.le_refl _ | exact Nat.le_succ _ | exact Nat.zero_le _ | omega) (by first | assumption | exact Nat.le_refl _ | exact Nat.le_succ _ | exact Nat.zero_le _ | omega)
  have p4 : ∀ x : Fin 3, 0 ≤ U x (a + 1) (r + 1) := fun x => (hU x).pos (by first | assumption | exact Nat.le_refl _ | exact Nat.le_succ _ | exact Nat.zero_le _ | omega) (by first | assumption | exact Nat.le_refl _ | exact Nat.le_succ _ | exact Nat.zero_le _ | omega)
  have lB : ∀ x : Fin 3, lessN (U x) a r ≤ U x a r := fun x => less_self (hU x) (by first | assumption | exact Nat.le_refl _ | exact Nat.le_succ _ | exact Nat.zero_le _ | omega) (by first | assumption | exact Nat.le_refl _ | exact Nat.le_succ _ | exact Nat.zero_le _ | omega)
  have lC : ∀ x : Fin 3, lessN (U x) r m ≤ U x (r + 1) m := fun x => less_left (hU x) (by first | assumption | exact Nat.le_refl _ | exact Nat.le_succ _ | exact Nat.zero_le _ | omega) (by first | assumption | exact Nat.le_refl _ | exact Nat.le_succ _ | exact Nat.zero_le _ | omega) (fun _ => Int.le_refl _) (p2 x)
  have lC' : ∀ x : Fin 3, lessN (U x) r m ≤ U x r m := fun x => less_self (hU x) (by first | assumption | exact Nat.le_refl _ | exact Nat.le_succ _ | exact Nat.zero_le _ | omega) (by first | assumption | exact Nat.le_refl _ | exact Nat.le_succ _ | exact Nat.zero_le _ | omega)
  -- s = r
  have i0 : Ok m (U i) a r (U i 0 a) := ⟨lA i, mid i _ (p0 i) s1, by have := lC i; omega⟩
  have B0 : ∀ x : Fin 3, U x (r + 1) m ≤ U x a r → Ok m (U x) a r (U x a r) := fun x h => ⟨by have := lA x; have := ns.lt x; omega, lB x, by have := lC x; omega⟩
  have C0 : ∀ x : Fin 3, U x a r ≤ U x r m → Ok m (U x) a r (U x r m) := fun x h => ⟨by have := lA x; have := ns.lt x; have := m1 x; omega, by have := lB x; omega, lC' x⟩
  by_cases hj : U j (r + 1) m ≤ U j a r
  · by_cases hk : U k a r ≤ U k r m
    · exact .inl ⟨a, r, h1, by omega, i, j, k, hij, hik, hjk, i0, B0 j hj, C0 k hk⟩
    · refine .inl ⟨a, r, h1, by omega, i, k, j, hik, hij, Ne.symm hjk, i0, B0 k (by have := m1 k; omega), C0 j (by first | assumption | exact Nat.le_refl _ | exact Nat.le_succ _ | exact Nat.zero_le _ | omega)⟩
  by_cases hk : U k (r + 1) m ≤ U k a r
  · exact .inl ⟨a, r, h1, by omega, i, k, j, hik, hij, Ne.symm hjk, i0, B0 k hk, C0 j (by have := m1 j; omega)⟩
  have nsj : U j 0 a < U j (r + 1) m := by have := ns.lt j; omega
  have nsk : U k 0 a < U k (r + 1) m := by have := ns.lt k; omega
  -- (a+1, r+1)
  have b1 : ∀ x y : Fin 3, i ≠ x → i ≠ y → x ≠ y → U x 0 a < U x (r + 1) m → U y 0 a < U y (r + 1) m → U y a r < U y (r + 1) m → U x (r + 1) m ≤ U x (a + 1) (r + 1) → Sol m U := fun x y hix hiy hxy nx ny hy hx => by
    have q1 := m0 i; have q2 := m5 i; have q3 := p0 i; have q4 := p2 i; have q5 := p2 y; have q6 := m0 y
    have hB : ∀ z : Fin 3, ∀ v : Int, 0 ≤ v → U z (a + 1) r ≤ v → lessN (U z) (a + 1) (r + 1) ≤ v := fun z v h0 h => less_right (hU z) (by first | assumption | exact Nat.le_refl _ | exact Nat.le_succ _ | exact Nat.zero_le _ | omega) (by first | assumption | exact Nat.le_refl _ | exact Nat.le_succ _ | exact Nat.zero_le _ | omega) (fun _ => h) h0
    have hA : ∀ z : Fin 3, ∀ v : Int, U z 0 a ≤ v → lessN (U z) 0 (a + 1) ≤ v := fun z v h => less_right (hU z) (by first | assumption | exact Nat.le_refl _ | exact Nat.le_succ _ | exact Nat.zero_le _ | omega) (by first | assumption | exact Nat.le_refl _ | exact Nat.le_succ _ | exact Nat.zero_le _ | omega) (fun _ => h) (by have := p0 z; omega)
    have hC : ∀ z : Fin 3, lessN (U z) (r + 1) m ≤ U z (r + 1) m := fun z => less_self (hU z) (by first | assumption | exact Nat.le_refl _ | exact Nat.le_succ _ | exact Nat.zero_le _ | omega) (by first | assumption | exact Nat.le_refl _ | exact Nat.le_succ _ | exact Nat.zero_le _ | omega)
    refine ⟨a + 1, r + 1, by omega, by omega, i, x, y, hix, hiy, hxy, ⟨hA i _ q2, hB i _ (by first | assumption | exact Nat.le_refl _ | exact Nat.le_succ _ | exact Nat.zero_le _ | omega) (by first | assumption | exact Nat.le_refl _ | exact Nat.le_succ _ | exact Nat.zero_le _ | omega), ?_⟩, ⟨hA x _ (by first | assumption | exact Nat.le_refl _ | exact Nat.le_succ _ | exact Nat.zero_le _ | omega), hB x _ (p4 x) (m3 x), ?_⟩, ⟨hA y _ (by first | assumption | exact Nat.le_refl _ | exact Nat.le_succ _ | exact Nat.zero_le _ | omega), hB y _ q5 (by first | assumption | exact Nat.le_refl _ | exact Nat.le_succ _ | exact Nat.zero_le _ | omega), hC y⟩⟩
    · have := hC i; omega
    · have := hC x; omega
  by_cases hj1 : U j (r + 1) m ≤ U j (a + 1) (r + 1)
  · exact .inl (b1 j k hij hik hjk nsj nsk (by first | assumption | exact Nat.le_refl _ | exact Nat.le_succ _ | exact Nat.zero_le _ | omega) hj1)
  by_cases hk1 : U k (r + 1) m ≤ U k (a + 1) (r + 1)
  · exact .inl (b1 k j hik hij (Ne.symm hjk) nsk nsj (by first | assumption | exact Nat.le_refl _ | exact Nat.le_succ _ | exact Nat.zero_le _ | omega) hk1)
  have hr1 : r + 1 ≤ r' := by
    rcases Nat.eq_or_lt_of_le hle with rfl | hl
    · have := hr'.2.2.1 j k hjk
      unfold G at this; omega
    · exact hl
  have hr1m := hr'.2.1
  by_cases hi1 : Shout m (U i) a (a + 1) (r + 1)
  · left
    rcases hg with hg | hg
    · exact case2 hU (by first | assumption | exact Nat.le_refl _ | exact Nat.le_succ _ | exact Nat.zero_le _ | omega) (by first | assumption | exact Nat.le_refl _ | exact Nat.le_succ _ | exact Nat.zero_le _ | omega) hij hik hjk hi1 (.inr nsj) (.inr nsk) hg (by first | assumption | exact Nat.le_refl _ | exact Nat.le_succ _ | exact Nat.zero_le _ | omega)
    · exact case2 hU (by first | assumption | exact Nat.le_refl _ | exact Nat.le_succ _ | exact Nat.zero_le _ | omega) (by first | assumption | exact Nat.le_refl _ | exact Nat.le_succ _ | exact Nat.zero_le _ | omega) hik hij (Ne.symm hjk) hi1 (.inr nsk) (.inr nsj) hg (by first | assumption | exact Nat.le_refl _ | exact Nat.le_succ _ | exact Nat.zero_le _ | omega)
  have hi2 : U i 0 a < U i (a + 1) (r + 1) := by
    have h := (hU i).mono (r + 1) (r + 1 + 1) m m (by first | assumption | exact Nat.le_refl _ | exact Nat.le_succ _ | exact Nat.zero_le _ | omega) (by first | assumption | exact Nat.le_refl _ | exact Nat.le_succ _ | exact Nat.zero_le _ | omega) (by first | assumption | exact Nat.le_refl _ | exact Nat.le_succ _ | exact Nat.zero_le _ | omega) (by first | assumption | exact Nat.le_refl _ | exact Nat.le_succ _ | exact Nat.zero_le _ | omega)
    unfold Shout at hi1; omega
  have b2 : ∀ x y : Fin 3, i ≠ x → i ≠ y → x ≠ y → Shout m (U x) a (a + 1) (r + 1) → U y 0 a < U y (r + 1) m → U y (a + 1) (r + 1) < U y (r + 1) m → Sol m U := fun x y hix hiy hxy sx ny hy => by
    obtain ⟨sx1, sx2⟩ := sx
    have hB : ∀ z : Fin 3, ∀ v : Int, U z (a + 1) (r + 1) ≤ v → lessN (U z) a (r + 1) ≤ v := fun z v h => less_left (hU z) (by first | assumption | exact Nat.le_refl _ | exact Nat.le_succ _ | exact Nat.zero_le _ | omega) (by first | assumption | exact Nat.le_refl _ | exact Nat.le_succ _ | exact Nat.zero_le _ | omega) (fun _ => h) (by have := p4 z; omega)
    have hC : ∀ z : Fin 3, ∀ v : Int, 0 ≤ v → U z (r + 1 + 1) m ≤ v → lessN (U z) (r + 1) m ≤ v := fun z v h0 h => less_left (hU z) (by first | assumption | exact Nat.le_refl _ | exact Nat.le_succ _ | exact Nat.zero_le _ | omega) (by first | assumption | exact Nat.le_refl _ | exact Nat.le_succ _ | exact Nat.zero_le _ | omega) (fun _ => h) h0
    have hC' : ∀ z : Fin 3, lessN (U z) (r + 1) m ≤ U z (r + 1) m := fun z => less_self (hU z) (by first | assumption | exact Nat.le_refl _ | exact Nat.le_succ _ | exact Nat.zero_le _ | omega) (by first | assumption | exact Nat.le_refl _ | exact Nat.le_succ _ | exact Nat.zero_le _ | omega)
    have q1 := m4 i; have q2 := p2 y
    refine ⟨a, r + 1, by omega, by omega, x, i, y, Ne.symm hix, hxy, hiy, ⟨lA x, hB x _ sx1, hC x _ (p0 x) sx2⟩, ⟨?_, hB i _ q1, ?_⟩, ⟨?_, hB y _ (by first | assumption | exact Nat.le_refl _ | exact Nat.le_succ _ | exact Nat.zero_le _ | omega), hC' y⟩⟩
    · have := lA i; omega
    · have := hC' i; omega
    · have := lA y; omega
  by_cases sj : Shout m (U j) a (a + 1) (r + 1)
  · exact .inl (b2 j k hij hik hjk sj nsk (by first | assumption | exact Nat.le_refl _ | exact Nat.le_succ _ | exact Nat.zero_le _ | omega))
  by_cases sk : Shout m (U k) a (a + 1) (r + 1)
  · exact .inl (b2 k j hik hij (Ne.symm hjk) sk nsj (by first | assumption | exact Nat.le_refl _ | exact Nat.le_succ _ | exact Nat.zero_le _ | omega))
  refine .inr ⟨hr1, fun x => ?_⟩
  rcases cover i j k x hij hik hjk with rfl | rfl | rfl
  · exact hi1
  · exact sj
  · exact sk
/-- II, in full -/
theorem case2' (hU : ∀ i, Wor m (U i)) {a q r r' : Nat} (hr : IsR m U a r) (hr' : IsR m U (a + 1) r') (h1 : r < q) (h2 : q ≤ r') (ns : NS m U a (a + 1) (q - 1)) {i : Fin 3} (hi : Shout m (U i) a (a + 1) q) : Sol m U := by
  obtain ⟨j, k, hij, hik, hjk⟩ := others i
  have ha := hr.1
  have hq : q < m := Nat.lt_of_le_of_lt h2 hr'.2.1
  have hX : G m (U j) a q ∨ G m (U k) a q := (hr.2.2.1 j k hjk).imp (G.up (hU _) (by first | assumption | exact Nat.le_refl _ | exact Nat.le_succ _ | exact Nat.zero_le _ | omega) (by first | assumption | exact Nat.le_refl _ | exact Nat.le_succ _ | exact Nat.zero_le _ | omega) (by first | assumption | exact Nat.le_refl _ | exact Nat.le_succ _ | exact Nat.zero_le _ | omega)) (G.up (hU _) (by first | assumption | exact Nat.le_refl _ | exact Nat.le_succ _ | exact Nat.zero_le _ | omega) (by first | assumption | exact Nat.le_refl _ | exact Nat.le_succ _ | exact Nat.zero_le _ | omega) (by first | assumption | exact Nat.le_refl _ | exact Nat.le_succ _ | exact Nat.zero_le _ | omega))
  have hY : U j (a + 1) q ≤ U j q m ∨ U k (a + 1) q ≤ U k q m := by
    rcases Nat.eq_or_lt_of_le (show a + 1 ≤ q by omega) with rfl | hl
    · left; rw [(hU j).zero _ _ (Nat.le_refl _)]; exact (hU j).pos (by first | assumption | exact Nat.le_refl _ | exact Nat.le_succ _ | exact Nat.zero_le _ | omega) (Nat.le_refl _)
    · have := not_maj (hr'.2.2.2 (q - 1) (by first | assumption | exact Nat.le_refl _ | exact Nat.le_succ _ | exact Nat.zero_le _ | omega) (by first | assumption | exact Nat.le_refl _ | exact Nat.le_succ _ | exact Nat.zero_le _ | omega)) hjk
      rw [show q - 1 + 1 = q by omega] at this
      unfold G at this; omega
  have hXY : ∀ x : Fin 3, G m (U x) a q ∨ U x (a + 1) q ≤ U x q m := fun x => by
    have := (hU x).mono a (a + 1) q q (by first | assumption | exact Nat.le_refl _ | exact Nat.le_succ _ | exact Nat.zero_le _ | omega) (by first | assumption | exact Nat.le_refl _ | exact Nat.le_succ _ | exact Nat.zero_le _ | omega) (by first | assumption | exact Nat.le_refl _ | exact Nat.le_succ _ | exact Nat.zero_le _ | omega) (by first | assumption | exact Nat.le_refl _ | exact Nat.le_succ _ | exact Nat.zero_le _ | omega)
    unfold G; omega
  have lt : ∀ x : Fin 3, U x 0 a < U x (a + 1) (q - 1) ∨ U x 0 a < U x q m := fun x => by
    have := ns.lt x; rw [show q - 1 + 1 = q by omega] at this; exact this
  have go := fun (j k : Fin 3) hij hik hjk => case2 (j := j) (k := k) hU (by omega : a + 1 ≤ q) hq hij hik hjk hi (lt j) (lt k)
  rcases hX with hX | hX
  · rcases hY with hY | hY
    · rcases hXY k with h | h
      · exact go k j hik hij (Ne.symm hjk) h hY
      · exact go j k hij hik hjk hX h
    · exact go j k hij hik hjk hX hY
  · rcases hY with hY | hY
    · exact go k j hik hij (Ne.symm hjk) hX hY
    · rcases hXY j with h | h
      · exact go j k hij hik hjk h hY
      · exact go k j hik hij (Ne.symm hjk) hX h
theorem NS_or (l p q : Nat) : NS m U l p q ∨ ∃ i, Shout m (U i) l p q := by
  by_cases h : ∃ i, Shout m (U i) l p q
  · exact .inr h
  · exact .inl fun i hi => h ⟨i, hi⟩
/-- along the states (a, a+1, q) -/
theorem along (hU : ∀ i, Wor m (U i)) {a r r' : Nat} (hr : IsR m U a r) (hr' : IsR m U (a + 1) r') : ∀ n q, r ≤ q → q + n = r' → NS m U a (a + 1) q → Sol m U ∨ NS m U a (a + 1) r'
  | 0, q, _, e, h => .inr (by rw [← e]; exact h)
  | n + 1, q, hq, e, h => by
    rcases NS_or (m := m) (U := U) a (a + 1) (q + 1) with h' | ⟨i, hi⟩
    · exact along hU hr hr' n (q + 1) (by first | assumption | exact Nat.le_refl _ | exact Nat.le_succ _ | exact Nat.zero_le _ | omega) (by first | assumption | exact Nat.le_refl _ | exact Nat.le_succ _ | exact Nat.zero_le _ | omega) h'
    · exact .inl (case2' hU hr hr' (show r < q + 1 by omega) (by first | assumption | exact Nat.le_refl _ | exact Nat.le_succ _ | exact Nat.zero_le _ | omega) h hi)
theorem walk (hU : ∀ i, Wor m (U i)) : ∀ a r, a < m → IsR m U a r → Sol m U ∨ NS m U a a r
  | 0, r, ha, hr => by
    rcases NS_or (m := m) (U := U) 0 0 r with h | ⟨i, hi⟩
    · exact .inr h
    · exact .inl (case1 hU hr (.inl rfl) hi)
  | a + 1, r', ha, hr' => by
    obtain ⟨r, hr⟩ := exR hU (p := a) (by first | assumption | exact Nat.le_refl _ | exact Nat.le_succ _ | exact Nat.zero_le _ | omega)
    have hle := hr.le hU hr'
    rcases walk hU a r (by first | assumption | exact Nat.le_refl _ | exact Nat.le_succ _ | exact Nat.zero_le _ | omega) hr with h | ns
    · exact .inl h
    have step : Sol m U ∨ NS m U a (a + 1) r' := by
      rcases NS_or (m := m) (U := U) a (a + 1) r with h | ⟨i, hi⟩
      · exact along hU hr hr' (r' - r) r (Nat.le_refl _) (by first | assumption | exact Nat.le_refl _ | exact Nat.le_succ _ | exact Nat.zero_le _ | omega) h
      · rcases case3 hU ha hr hr' ns hi with h | ⟨h1, h2⟩
        · exact .inl h
        · exact along hU hr hr' (r' - (r + 1)) (r + 1) (by first | assumption | exact Nat.le_refl _ | exact Nat.le_succ _ | exact Nat.zero_le _ | omega) (by first | assumption | exact Nat.le_refl _ | exact Nat.le_succ _ | exact Nat.zero_le _ | omega) h2
    rcases step with h | ns'
    · exact .inl h
    rcases NS_or (m := m) (U := U) (a + 1) (a + 1) r' with h | ⟨i, hi⟩
    · exact .inr h
    · exact .inl (case1 hU hr' (.inr ns') hi)
theorem cake (hm : 1 ≤ m) (hU : ∀ i, Wor m (U i)) : Sol m U := by
  obtain ⟨r, hr⟩ := exR hU (p := m - 1) (by first | assumption | exact Nat.le_refl _ | exact Nat.le_succ _ | exact Nat.zero_le _ | omega)
  rcases walk hU (m - 1) r (by first | assumption | exact Nat.le_refl _ | exact Nat.le_succ _ | exact Nat.zero_le _ | omega) hr with h | ns
  · exact h
  · have h1 := hr.1
    have h2 := hr.2.1
    have e : r = m - 1 := by omega
    subst e
    refine absurd ⟨?_, ?_⟩ (ns 0)
    · rw [(hU 0).zero _ _ (Nat.le_refl _)]; exact (hU 0).pos (by first | assumption | exact Nat.le_refl _ | exact Nat.le_succ _ | exact Nat.zero_le _ | omega) (by first | assumption | exact Nat.le_refl _ | exact Nat.le_succ _ | exact Nat.zero_le _ | omega)
    · rw [(hU 0).zero _ _ (by first | assumption | exact Nat.le_refl _ | exact Nat.le_succ _ | exact Nat.zero_le _ | omega)]; exact (hU 0).pos (by first | assumption | exact Nat.le_refl _ | exact Nat.le_succ _ | exact Nat.zero_le _ | omega) (by first | assumption | exact Nat.le_refl _ | exact Nat.le_succ _ | exact Nat.zero_le _ | omega)
end
end Mine.Cake
end
section
open PySem PySem.W PyProof.Rows
namespace Mine
noncomputable abbrev pw : Program := PySem.Challenge.pw_wk0033_01
noncomputable def cell (i : Nat) : Stmt := (pw.main.body[i]?).getD default
noncomputable def stP : Stmt → Arguments
  | .FunctionDef (args := a) .. => a
  | _ => default
noncomputable def stB : Stmt → List Stmt
  | .FunctionDef (body := b) .. => b
  | _ => []
noncomputable def stS : Stmt → Scope
  | .FunctionDef (scope := s) .. => s
  | _ => default
noncomputable def fnP (i : Nat) : Arguments := stP (cell i)
noncomputable def fnB (i : Nat) : List Stmt := stB (cell i)
noncomputable def fnS (i : Nat) : Scope := stS (cell i)
noncomputable def o2 (P : Params) : Obj := ⟨Value.none, none, .dict [⟨(PyData.keyHash P (Str.ofString "type.__subclasses__.Exception.0")), Value.str (Str.ofString "type.__subclasses__.Exception.0") 227, Value.int 38 0⟩, ⟨(PyData.keyHash P (Str.ofString "type.__subclasses__.Exception.n")), Value.str (Str.ofString "type.__subclasses__.Exception.n") 228, Value.int 1 0⟩].toArray 2, #[]⟩
noncomputable def o3 (P : Params) : Obj := ⟨Value.type "dict", none, .dict [⟨(PyData.keyHash P (Str.ofString "__name__")), Value.str (Str.ofString "__name__") 165, Value.str (Str.ofString "law_wk0033_01") 2286⟩, ⟨(PyData.keyHash P (Str.ofString "__doc__")), Value.str (Str.ofString "__doc__") 166, Value.none⟩, ⟨(PyData.keyHash P (Str.ofString "__package__")), Value.str (Str.ofString "__package__") 167, Value.none⟩, ⟨(PyData.keyHash P (Str.ofString "__loader__")), Value.str (Str.ofString "__loader__") 168, Value.builtin "__main__.__loader__#opaque"⟩, ⟨(PyData.keyHash P (Str.ofString "__spec__")), Value.str (Str.ofString "__spec__") 169, Value.none⟩, ⟨(PyData.keyHash P (Str.ofString "__annotations__")), Value.str (Str.ofString "__annotations__") 170, Value.ref 6⟩, ⟨(PyData.keyHash P (Str.ofString "__builtins__")), Value.str (Str.ofString "__builtins__") 171, Value.ref 4⟩, ⟨(PyData.keyHash P (Str.ofString "__file__")), Value.str (Str.ofString "__file__") 173, Value.str (Str.ofString "/claim/cut.py") 172⟩, ⟨(PyData.keyHash P (Str.ofString "__cached__")), Value.str (Str.ofString "__cached__") 174, Value.none⟩, ⟨(PyData.keyHash P (Str.ofString "_parse_varint")), Value.str (Str.ofString "_parse_varint") 197, Value.ref 21⟩, ⟨(PyData.keyHash P (Str.ofString "_NO_LINENO")), Value.str (Str.ofString "_NO_LINENO") 199, Value.str (Str.ofString "  --") 198⟩, ⟨(PyData.keyHash P (Str.ofString "_get_lineno_width")), Value.str (Str.ofString "_get_lineno_width") 208, Value.ref 28⟩, ⟨(PyData.keyHash P (Str.ofString "Error")), Value.str (Str.ofString "Error") 230, Value.ref 38⟩, ⟨(PyData.keyHash P (Str.ofString "error_reply")), Value.str (Str.ofString "error_reply") 246, Value.ref 51⟩, ⟨(PyData.keyHash P (Str.ofString "parse257")), Value.str (Str.ofString "parse257") 257, Value.ref 60⟩, ⟨(PyData.keyHash P (Str.ofString "b1_set")), Value.str (Str.ofString "b1_set") 319, Value.ref 68⟩, ⟨(PyData.keyHash P (Str.ofString "in_table_b1")), Value.str (Str.ofString "in_table_b1") 326, Value.ref 78⟩, ⟨(PyData.keyHash P (Str.ofString "b3_exceptions")), Value.str (Str.ofString "b3_exceptions") 2277, Value.ref 79⟩, ⟨(PyData.keyHash P (Str.ofString "map_table_b3")), Value.str (Str.ofString "map_table_b3") 2285, Value.ref 124⟩, ⟨(PyData.keyHash P (Str.ofString "_law_sign")), Value.str (Str.ofString "_law_sign") 2297, Value.ref 131⟩, ⟨(PyData.keyHash P (Str.ofString "_law_row")), Value.str (Str.ofString "_law_row") 2313, Value.ref 138⟩, ⟨(PyData.keyHash P (Str.ofString "_law_line")), Value.str (Str.ofString "_law_line") 2319, Value.ref 143⟩, ⟨(PyData.keyHash P (Str.ofString "_law_width")), Value.str (Str.ofString "_law_width") 2325, Value.ref 148⟩, ⟨(PyData.keyHash P (Str.ofString "_law_heard")), Value.str (Str.ofString "_law_heard") 2331, Value.ref 153⟩, ⟨(PyData.keyHash P (Str.ofString "_law_told")), Value.str (Str.ofString "_law_told") 2337, Value.ref 158⟩, ⟨(PyData.keyHash P (Str.ofString "_law_less")), Value.str (Str.ofString "_law_less") 2346, Value.ref 165⟩, ⟨(PyData.keyHash P (Str.ofString "_law_dealt")), Value.str (Str.ofString "_law_dealt") 2352, Value.ref 170⟩, ⟨(PyData.keyHash P (Str.ofString "law")), Value.str (Str.ofString "law") 2360, Value.ref 177⟩].toArray 28, #[]⟩
noncomputable def o6 (P : Params) : Obj := ⟨Value.type "dict", none, .dict [].toArray 0, #[]⟩
noncomputable def o15 (P : Params) : Obj := ⟨Value.type "tuple", none, .seq #[] 0, #[]⟩
noncomputable def o17 (P : Params) : Obj := ⟨Value.type "tuple", none, .seq #[Value.str (Str.ofString "iterator") 192, Value.str (Str.ofString "b") 193, Value.str (Str.ofString "val") 194] 0, #[]⟩
noncomputable def o18 (P : Params) : Obj := ⟨Value.type "tuple", none, .seq #[] 0, #[]⟩
noncomputable def o20 (P : Params) : Obj := ⟨Value.type "code", none, .fields #[Value.str (Str.ofString "_parse_varint") 189, Value.str (Str.ofString "_parse_varint") 190, Value.str (Str.ofString "/claim/cut.py") 191, Value.int 2 0, Value.int 1 0, Value.int 0 0, Value.int 0 0, Value.int 3 0, Value.ref 15, Value.bool true, Value.int 181 0, Value.ref 16, Value.none, Value.ref 17, Value.ref 18, Value.ref 19, Value.int 195 0, Value.int 2 0, Value.str (Str.ofString "/claim/cut.py") 196], #[]⟩
noncomputable def o21 (P : Params) : Obj := ⟨Value.type "function", none, .func ⟨(Str.ofString "_parse_varint"), (Str.ofString "_parse_varint"), fnP 1, .stmts (fnB 1), fnS 1, 3, [], Value.none, Value.none, Value.none, Value.str (Str.ofString "cpy313.dis") 187, none, Value.ref 20, Value.none, 0⟩, #[]⟩
noncomputable def o22 (P : Params) : Obj := ⟨Value.type "tuple", none, .seq #[] 0, #[]⟩
noncomputable def o24 (P : Params) : Obj := ⟨Value.type "tuple", none, .seq #[Value.str (Str.ofString "linestarts") 203, Value.str (Str.ofString "maxlineno") 204, Value.str (Str.ofString "lineno_width") 205] 0, #[]⟩
noncomputable def o25 (P : Params) : Obj := ⟨Value.type "tuple", none, .seq #[] 0, #[]⟩
noncomputable def o27 (P : Params) : Obj := ⟨Value.type "code", none, .fields #[Value.str (Str.ofString "_get_lineno_width") 200, Value.str (Str.ofString "_get_lineno_width") 201, Value.str (Str.ofString "/claim/cut.py") 202, Value.int 11 0, Value.int 1 0, Value.int 0 0, Value.int 0 0, Value.int 3 0, Value.ref 22, Value.bool true, Value.int 181 0, Value.ref 23, Value.none, Value.ref 24, Value.ref 25, Value.ref 26, Value.int 206 0, Value.int 11 0, Value.str (Str.ofString "/claim/cut.py") 207], #[]⟩
noncomputable def o28 (P : Params) : Obj := ⟨Value.type "function", none, .func ⟨(Str.ofString "_get_lineno_width"), (Str.ofString "_get_lineno_width"), fnP 3, .stmts (fnB 3), fnS 3, 3, [], Value.none, Value.none, Value.none, Value.str (Str.ofString "cpy313.dis") 187, none, Value.ref 27, Value.none, 0⟩, #[]⟩
noncomputable def o29 (P : Params) : Obj := ⟨Value.type "tuple", none, .seq #[Value.type "Exception"] 0, #[]⟩
noncomputable def o36 (P : Params) : Obj := ⟨Value.type "tuple", none, .seq #[] 0, #[]⟩
noncomputable def o37 (P : Params) : Obj := ⟨Value.type "dict", none, .dict [⟨(PyData.keyHash P (Str.ofString "__module__")), Value.str (Str.ofString "__module__") 218, Value.str (Str.ofString "cpy313.ftplib") 209⟩, ⟨(PyData.keyHash P (Str.ofString "__firstlineno__")), Value.str (Str.ofString "__firstlineno__") 222, Value.int 22 221⟩, ⟨(PyData.keyHash P (Str.ofString "__static_attributes__")), Value.str (Str.ofString "__static_attributes__") 223, Value.ref 36⟩, ⟨(PyData.keyHash P (Str.ofString "__weakref__")), Value.str (Str.ofString "__weakref__") 225, Value.ref 39⟩, ⟨(PyData.keyHash P (Str.ofString "__doc__")), Value.str (Str.ofString "__doc__") 226, Value.none⟩].toArray 3, #[]⟩
noncomputable def o38 (P : Params) : Obj := ⟨Value.type "type", none, .cls ⟨(Str.ofString "Error"), [Value.type "Exception"], [Value.ref 38, Value.type "Exception", Value.type "BaseException", Value.type "object"], 37, (Str.ofString "Error"), true, [], [Value.ref 51], false, none, false⟩, #[(some (Value.ref 29)), none, (some (Value.str (Str.ofString "Error") 211)), (some (Value.str (Str.ofString "Error") 219)), (some (Value.builtin "Exception.__new__")), (some (Value.bool true))]⟩
noncomputable def o39 (P : Params) : Obj := ⟨Value.type "getset_descriptor", none, .fields #[Value.str (Str.ofString "__weakref__") 224, Value.ref 38, Value.builtin "ExceptionGroup.__weakref__", Value.none], #[]⟩
noncomputable def o42 (P : Params) : Obj := ⟨Value.type "tuple", none, .seq #[Value.ref 38] 0, #[]⟩
noncomputable def o49 (P : Params) : Obj := ⟨Value.type "tuple", none, .seq #[] 0, #[]⟩
noncomputable def o50 (P : Params) : Obj := ⟨Value.type "dict", none, .dict [⟨(PyData.keyHash P (Str.ofString "__module__")), Value.str (Str.ofString "__module__") 238, Value.str (Str.ofString "cpy313.ftplib") 209⟩, ⟨(PyData.keyHash P (Str.ofString "__firstlineno__")), Value.str (Str.ofString "__firstlineno__") 242, Value.int 24 241⟩, ⟨(PyData.keyHash P (Str.ofString "__static_attributes__")), Value.str (Str.ofString "__static_attributes__") 243, Value.ref 49⟩, ⟨(PyData.keyHash P (Str.ofString "__doc__")), Value.str (Str.ofString "__doc__") 244, Value.none⟩].toArray 2, #[]⟩
noncomputable def o51 (P : Params) : Obj := ⟨Value.type "type", none, .cls ⟨(Str.ofString "error_reply"), [Value.ref 38], [Value.ref 51, Value.ref 38, Value.type "Exception", Value.type "BaseException", Value.type "object"], 50, (Str.ofString "error_reply"), true, [], [], false, none, false⟩, #[(some (Value.ref 42)), none, (some (Value.str (Str.ofString "error_reply") 231)), (some (Value.str (Str.ofString "error_reply") 239)), (some (Value.builtin "Exception.__new__")), (some (Value.bool true))]⟩
noncomputable def o54 (P : Params) : Obj := ⟨Value.type "tuple", none, .seq #[] 0, #[]⟩
noncomputable def o56 (P : Params) : Obj := ⟨Value.type "tuple", none, .seq #[Value.str (Str.ofString "resp") 250, Value.str (Str.ofString "dirname") 251, Value.str (Str.ofString "i") 252, Value.str (Str.ofString "n") 253, Value.str (Str.ofString "c") 254] 0, #[]⟩
noncomputable def o57 (P : Params) : Obj := ⟨Value.type "tuple", none, .seq #[] 0, #[]⟩
noncomputable def o59 (P : Params) : Obj := ⟨Value.type "code", none, .fields #[Value.str (Str.ofString "parse257") 247, Value.str (Str.ofString "parse257") 248, Value.str (Str.ofString "/claim/cut.py") 249, Value.int 26 0, Value.int 1 0, Value.int 0 0, Value.int 0 0, Value.int 3 0, Value.ref 54, Value.bool true, Value.int 181 0, Value.ref 55, Value.none, Value.ref 56, Value.ref 57, Value.ref 58, Value.int 255 0, Value.int 26 0, Value.str (Str.ofString "/claim/cut.py") 256], #[]⟩
noncomputable def o60 (P : Params) : Obj := ⟨Value.type "function", none, .func ⟨(Str.ofString "parse257"), (Str.ofString "parse257"), fnP 7, .stmts (fnB 7), fnS 7, 3, [], Value.none, Value.none, Value.none, Value.str (Str.ofString "cpy313.ftplib") 209, none, Value.ref 59, Value.none, 0⟩, #[]⟩
noncomputable def o68 (P : Params) : Obj := ⟨Value.type "set", none, .set #[(65024, Value.int 65024 276), (65025, Value.int 65025 277), (65026, Value.int 65026 278), (65027, Value.int 65027 279), (65028, Value.int 65028 280), (65029, Value.int 65029 281), (6150, Value.int 6150 262), (65030, Value.int 65030 282), (65031, Value.int 65031 283), (65032, Value.int 65032 284), (65033, Value.int 65033 285), (6155, Value.int 6155 263), (6156, Value.int 6156 264), (6157, Value.int 6157 265), (8203, Value.int 8203 266), (8204, Value.int 8204 267), (8205, Value.int 8205 268), (65034, Value.int 65034 286), (65035, Value.int 65035 287), (65036, Value.int 65036 288), (65037, Value.int 65037 289), (65038, Value.int 65038 290), (65039, Value.int 65039 291), (173, Value.int 173 260), (847, Value.int 847 261), (8288, Value.int 8288 269), (65279, Value.int 65279 270)] 29 ⟨127, #[0, 1, 2, 3, 4, 5, 6, 7, 8, 9, 10, 11, 12, 13, 14, 15, 16, 17, 18, 19, 20, 21, 22, 45, 79, 96, 127], #[], 0, !P.followText "set-order", 2, true⟩, #[]⟩
noncomputable def o72 (P : Params) : Obj := ⟨Value.type "tuple", none, .seq #[] 0, #[]⟩
noncomputable def o74 (P : Params) : Obj := ⟨Value.type "tuple", none, .seq #[Value.str (Str.ofString "code") 323] 0, #[]⟩
noncomputable def o75 (P : Params) : Obj := ⟨Value.type "tuple", none, .seq #[] 0, #[]⟩
noncomputable def o77 (P : Params) : Obj := ⟨Value.type "code", none, .fields #[Value.str (Str.ofString "in_table_b1") 320, Value.str (Str.ofString "in_table_b1") 321, Value.str (Str.ofString "/claim/cut.py") 322, Value.int 45 0, Value.int 1 0, Value.int 0 0, Value.int 0 0, Value.int 3 0, Value.ref 72, Value.bool true, Value.int 181 0, Value.ref 73, Value.none, Value.ref 74, Value.ref 75, Value.ref 76, Value.int 324 0, Value.int 45 0, Value.str (Str.ofString "/claim/cut.py") 325], #[]⟩
noncomputable def o78 (P : Params) : Obj := ⟨Value.type "function", none, .func ⟨(Str.ofString "in_table_b1"), (Str.ofString "in_table_b1"), fnP 10, .stmts (fnB 10), fnS 10, 3, [], Value.none, Value.none, Value.none, Value.str (Str.ofString "cpy313.stringprep") 258, none, Value.ref 77, Value.none, 0⟩, #[]⟩
noncomputable def o118 (P : Params) : Obj := ⟨Value.type "tuple", none, .seq #[] 0, #[]⟩
noncomputable def o120 (P : Params) : Obj := ⟨Value.type "tuple", none, .seq #[Value.str (Str.ofString "code") 2281, Value.str (Str.ofString "r") 2282] 0, #[]⟩
noncomputable def o121 (P : Params) : Obj := ⟨Value.type "tuple", none, .seq #[] 0, #[]⟩
noncomputable def o123 (P : Params) : Obj := ⟨Value.type "code", none, .fields #[Value.str (Str.ofString "map_table_b3") 2278, Value.str (Str.ofString "map_table_b3") 2279, Value.str (Str.ofString "/claim/cut.py") 2280, Value.int 48 0, Value.int 1 0, Value.int 0 0, Value.int 0 0, Value.int 3 0, Value.ref 118, Value.bool true, Value.int 181 0, Value.ref 119, Value.none, Value.ref 120, Value.ref 121, Value.ref 122, Value.int 2283 0, Value.int 48 0, Value.str (Str.ofString "/claim/cut.py") 2284], #[]⟩
noncomputable def o124 (P : Params) : Obj := ⟨Value.type "function", none, .func ⟨(Str.ofString "map_table_b3"), (Str.ofString "map_table_b3"), fnP 12, .stmts (fnB 12), fnS 12, 3, [], Value.none, Value.none, Value.none, Value.str (Str.ofString "cpy313.stringprep") 258, none, Value.ref 123, Value.none, 0⟩, #[]⟩
noncomputable def o125 (P : Params) : Obj := ⟨Value.type "tuple", none, .seq #[] 0, #[]⟩
noncomputable def o127 (P : Params) : Obj := ⟨Value.type "tuple", none, .seq #[Value.str (Str.ofString "figure") 2291, Value.str (Str.ofString "kind") 2292, Value.str (Str.ofString "rest") 2293, Value.str (Str.ofString "beside") 2294] 0, #[]⟩
noncomputable def o128 (P : Params) : Obj := ⟨Value.type "tuple", none, .seq #[] 0, #[]⟩
noncomputable def o130 (P : Params) : Obj := ⟨Value.type "code", none, .fields #[Value.str (Str.ofString "_law_sign") 2288, Value.str (Str.ofString "_law_sign") 2289, Value.str (Str.ofString "/claim/cut.py") 2290, Value.int 54 0, Value.int 1 0, Value.int 0 0, Value.int 0 0, Value.int 3 0, Value.ref 125, Value.bool true, Value.int 181 0, Value.ref 126, Value.none, Value.ref 127, Value.ref 128, Value.ref 129, Value.int 2295 0, Value.int 54 0, Value.str (Str.ofString "/claim/cut.py") 2296], #[]⟩
noncomputable def o131 (P : Params) : Obj := ⟨Value.type "function", none, .func ⟨(Str.ofString "_law_sign"), (Str.ofString "_law_sign"), fnP 14, .stmts (fnB 14), fnS 14, 3, [], Value.none, Value.none, Value.none, Value.str (Str.ofString "law_wk0033_01") 2286, none, Value.ref 130, Value.none, 0⟩, #[]⟩
noncomputable def o132 (P : Params) : Obj := ⟨Value.type "tuple", none, .seq #[] 0, #[]⟩
noncomputable def o134 (P : Params) : Obj := ⟨Value.type "tuple", none, .seq #[Value.str (Str.ofString "script") 2301, Value.str (Str.ofString "drawn") 2302, Value.str (Str.ofString "place") 2303, Value.str (Str.ofString "row") 2304, Value.str (Str.ofString "number") 2305, Value.str (Str.ofString "text") 2306, Value.str (Str.ofString "plain") 2307, Value.str (Str.ofString "figures") 2308, Value.str (Str.ofString "sign") 2309, Value.str (Str.ofString "small") 2310] 0, #[]⟩
noncomputable def o135 (P : Params) : Obj := ⟨Value.type "tuple", none, .seq #[] 0, #[]⟩
noncomputable def o137 (P : Params) : Obj := ⟨Value.type "code", none, .fields #[Value.str (Str.ofString "_law_row") 2298, Value.str (Str.ofString "_law_row") 2299, Value.str (Str.ofString "/claim/cut.py") 2300, Value.int 72 0, Value.int 1 0, Value.int 0 0, Value.int 0 0, Value.int 3 0, Value.ref 132, Value.bool true, Value.int 181 0, Value.ref 133, Value.none, Value.ref 134, Value.ref 135, Value.ref 136, Value.int 2311 0, Value.int 72 0, Value.str (Str.ofString "/claim/cut.py") 2312], #[]⟩
noncomputable def o138 (P : Params) : Obj := ⟨Value.type "function", none, .func ⟨(Str.ofString "_law_row"), (Str.ofString "_law_row"), fnP 15, .stmts (fnB 15), fnS 15, 3, [], Value.none, Value.none, Value.none, Value.str (Str.ofString "law_wk0033_01") 2286, none, Value.ref 137, Value.none, 0⟩, #[]⟩
noncomputable def o139 (P : Params) : Obj := ⟨Value.type "tuple", none, .seq #[] 0, #[]⟩
noncomputable def o142 (P : Params) : Obj := ⟨Value.type "code", none, .fields #[Value.str (Str.ofString "_law_line") 2314, Value.str (Str.ofString "_law_line") 2315, Value.str (Str.ofString "/claim/cut.py") 2316, Value.int 84 0, Value.int 1 0, Value.int 0 0, Value.int 0 0, Value.int 3 0, Value.ref 139, Value.bool true, Value.int 181 0, Value.ref 140, Value.none, Value.none, Value.none, Value.ref 141, Value.int 2317 0, Value.int 84 0, Value.str (Str.ofString "/claim/cut.py") 2318], #[]⟩
noncomputable def o143 (P : Params) : Obj := ⟨Value.type "function", none, .func ⟨(Str.ofString "_law_line"), (Str.ofString "_law_line"), fnP 16, .stmts (fnB 16), fnS 16, 3, [], Value.none, Value.none, Value.none, Value.str (Str.ofString "law_wk0033_01") 2286, none, Value.ref 142, Value.none, 0⟩, #[]⟩
noncomputable def o144 (P : Params) : Obj := ⟨Value.type "tuple", none, .seq #[] 0, #[]⟩
noncomputable def o147 (P : Params) : Obj := ⟨Value.type "code", none, .fields #[Value.str (Str.ofString "_law_width") 2320, Value.str (Str.ofString "_law_width") 2321, Value.str (Str.ofString "/claim/cut.py") 2322, Value.int 91 0, Value.int 1 0, Value.int 0 0, Value.int 0 0, Value.int 3 0, Value.ref 144, Value.bool true, Value.int 181 0, Value.ref 145, Value.none, Value.none, Value.none, Value.ref 146, Value.int 2323 0, Value.int 91 0, Value.str (Str.ofString "/claim/cut.py") 2324], #[]⟩
noncomputable def o148 (P : Params) : Obj := ⟨Value.type "function", none, .func ⟨(Str.ofString "_law_width"), (Str.ofString "_law_width"), fnP 17, .stmts (fnB 17), fnS 17, 3, [], Value.none, Value.none, Value.none, Value.str (Str.ofString "law_wk0033_01") 2286, none, Value.ref 147, Value.none, 0⟩, #[]⟩
noncomputable def o149 (P : Params) : Obj := ⟨Value.type "tuple", none, .seq #[] 0, #[]⟩
noncomputable def o152 (P : Params) : Obj := ⟨Value.type "code", none, .fields #[Value.str (Str.ofString "_law_heard") 2326, Value.str (Str.ofString "_law_heard") 2327, Value.str (Str.ofString "/claim/cut.py") 2328, Value.int 96 0, Value.int 1 0, Value.int 0 0, Value.int 0 0, Value.int 3 0, Value.ref 149, Value.bool true, Value.int 181 0, Value.ref 150, Value.none, Value.none, Value.none, Value.ref 151, Value.int 2329 0, Value.int 96 0, Value.str (Str.ofString "/claim/cut.py") 2330], #[]⟩
noncomputable def o153 (P : Params) : Obj := ⟨Value.type "function", none, .func ⟨(Str.ofString "_law_heard"), (Str.ofString "_law_heard"), fnP 18, .stmts (fnB 18), fnS 18, 3, [], Value.none, Value.none, Value.none, Value.str (Str.ofString "law_wk0033_01") 2286, none, Value.ref 152, Value.none, 0⟩, #[]⟩
noncomputable def o154 (P : Params) : Obj := ⟨Value.type "tuple", none, .seq #[] 0, #[]⟩
noncomputable def o157 (P : Params) : Obj := ⟨Value.type "code", none, .fields #[Value.str (Str.ofString "_law_told") 2332, Value.str (Str.ofString "_law_told") 2333, Value.str (Str.ofString "/claim/cut.py") 2334, Value.int 109 0, Value.int 1 0, Value.int 0 0, Value.int 0 0, Value.int 3 0, Value.ref 154, Value.bool true, Value.int 181 0, Value.ref 155, Value.none, Value.none, Value.none, Value.ref 156, Value.int 2335 0, Value.int 109 0, Value.str (Str.ofString "/claim/cut.py") 2336], #[]⟩
noncomputable def o158 (P : Params) : Obj := ⟨Value.type "function", none, .func ⟨(Str.ofString "_law_told"), (Str.ofString "_law_told"), fnP 19, .stmts (fnB 19), fnS 19, 3, [], Value.none, Value.none, Value.none, Value.str (Str.ofString "law_wk0033_01") 2286, none, Value.ref 157, Value.none, 0⟩, #[]⟩
noncomputable def o159 (P : Params) : Obj := ⟨Value.type "tuple", none, .seq #[] 0, #[]⟩
noncomputable def o161 (P : Params) : Obj := ⟨Value.type "tuple", none, .seq #[Value.str (Str.ofString "worth") 2341, Value.str (Str.ofString "front") 2342, Value.str (Str.ofString "end") 2343] 0, #[]⟩
noncomputable def o162 (P : Params) : Obj := ⟨Value.type "tuple", none, .seq #[] 0, #[]⟩
noncomputable def o164 (P : Params) : Obj := ⟨Value.type "code", none, .fields #[Value.str (Str.ofString "_law_less") 2338, Value.str (Str.ofString "_law_less") 2339, Value.str (Str.ofString "/claim/cut.py") 2340, Value.int 126 0, Value.int 3 0, Value.int 0 0, Value.int 0 0, Value.int 3 0, Value.ref 159, Value.bool true, Value.int 181 0, Value.ref 160, Value.none, Value.ref 161, Value.ref 162, Value.ref 163, Value.int 2344 0, Value.int 126 0, Value.str (Str.ofString "/claim/cut.py") 2345], #[]⟩
noncomputable def o165 (P : Params) : Obj := ⟨Value.type "function", none, .func ⟨(Str.ofString "_law_less"), (Str.ofString "_law_less"), fnP 20, .stmts (fnB 20), fnS 20, 3, [], Value.none, Value.none, Value.none, Value.str (Str.ofString "law_wk0033_01") 2286, none, Value.ref 164, Value.none, 0⟩, #[]⟩
noncomputable def o166 (P : Params) : Obj := ⟨Value.type "tuple", none, .seq #[] 0, #[]⟩
noncomputable def o169 (P : Params) : Obj := ⟨Value.type "code", none, .fields #[Value.str (Str.ofString "_law_dealt") 2347, Value.str (Str.ofString "_law_dealt") 2348, Value.str (Str.ofString "/claim/cut.py") 2349, Value.int 130 0, Value.int 1 0, Value.int 0 0, Value.int 0 0, Value.int 3 0, Value.ref 166, Value.bool true, Value.int 181 0, Value.ref 167, Value.none, Value.none, Value.none, Value.ref 168, Value.int 2350 0, Value.int 130 0, Value.str (Str.ofString "/claim/cut.py") 2351], #[]⟩
noncomputable def o170 (P : Params) : Obj := ⟨Value.type "function", none, .func ⟨(Str.ofString "_law_dealt"), (Str.ofString "_law_dealt"), fnP 21, .stmts (fnB 21), fnS 21, 3, [], Value.none, Value.none, Value.none, Value.str (Str.ofString "law_wk0033_01") 2286, none, Value.ref 169, Value.none, 0⟩, #[]⟩
noncomputable def o171 (P : Params) : Obj := ⟨Value.type "tuple", none, .seq #[] 0, #[]⟩
noncomputable def o173 (P : Params) : Obj := ⟨Value.type "tuple", none, .seq #[Value.str (Str.ofString "script") 2356, Value.str (Str.ofString "told") 2357] 0, #[]⟩
noncomputable def o174 (P : Params) : Obj := ⟨Value.type "tuple", none, .seq #[] 0, #[]⟩
noncomputable def o176 (P : Params) : Obj := ⟨Value.type "code", none, .fields #[Value.str (Str.ofString "law") 2353, Value.str (Str.ofString "law") 2354, Value.str (Str.ofString "/claim/cut.py") 2355, Value.int 141 0, Value.int 1 0, Value.int 0 0, Value.int 0 0, Value.int 3 0, Value.ref 171, Value.bool true, Value.int 181 0, Value.ref 172, Value.none, Value.ref 173, Value.ref 174, Value.ref 175, Value.int 2358 0, Value.int 141 0, Value.str (Str.ofString "/claim/cut.py") 2359], #[]⟩
noncomputable def o177 (P : Params) : Obj := ⟨Value.type "function", none, .func ⟨(Str.ofString "law"), (Str.ofString "law"), fnP 22, .stmts (fnB 22), fnS 22, 3, [], Value.none, Value.none, Value.none, Value.str (Str.ofString "law_wk0033_01") 2286, none, Value.ref 176, Value.none, 0⟩, #[]⟩
noncomputable def b3L : List (Int × String) := [(181, "μ"), (223, "ss"), (304, "i̇"), (329, "ʼn"), (383, "s"), (496, "ǰ"), (837, "ι"), (890, " ι"), (912, "ΐ"), (944, "ΰ"), (962, "σ"), (976, "β"), (977, "θ"), (978, "υ"), (979, "ύ"), (980, "ϋ"), (981, "φ"), (982, "π"), (1008, "κ"), (1009, "ρ"), (1010, "σ"), (1013, "ε"), (1415, "եւ"), (7830, "ẖ"), (7831, "ẗ"), (7832, "ẘ"), (7833, "ẙ"), (7834, "aʾ"), (7835, "ṡ"), (8016, "ὐ"), (8018, "ὒ"), (8020, "ὔ"), (8022, "ὖ"), (8064, "ἀι"), (8065, "ἁι"), (8066, "ἂι"), (8067, "ἃι"), (8068, "ἄι"), (8069, "ἅι"), (8070, "ἆι"), (8071, "ἇι"), (8072, "ἀι"), (8073, "ἁι"), (8074, "ἂι"), (8075, "ἃι"), (8076, "ἄι"), (8077, "ἅι"), (8078, "ἆι"), (8079, "ἇι"), (8080, "ἠι"), (8081, "ἡι"), (8082, "ἢι"), (8083, "ἣι"), (8084, "ἤι"), (8085, "ἥι"), (8086, "ἦι"), (8087, "ἧι"), (8088, "ἠι"), (8089, "ἡι"), (8090, "ἢι"), (8091, "ἣι"), (8092, "ἤι"), (8093, "ἥι"), (8094, "ἦι"), (8095, "ἧι"), (8096, "ὠι"), (8097, "ὡι"), (8098, "ὢι"), (8099, "ὣι"), (8100, "ὤι"), (8101, "ὥι"), (8102, "ὦι"), (8103, "ὧι"), (8104, "ὠι"), (8105, "ὡι"), (8106, "ὢι"), (8107, "ὣι"), (8108, "ὤι"), (8109, "ὥι"), (8110, "ὦι"), (8111, "ὧι"), (8114, "ὰι"), (8115, "αι"), (8116, "άι"), (8118, "ᾶ"), (8119, "ᾶι"), (8124, "αι"), (8126, "ι"), (8130, "ὴι"), (8131, "ηι"), (8132, "ήι"), (8134, "ῆ"), (8135, "ῆι"), (8140, "ηι"), (8146, "ῒ"), (8147, "ΐ"), (8150, "ῖ"), (8151, "ῗ"), (8162, "ῢ"), (8163, "ΰ"), (8164, "ῤ"), (8166, "ῦ"), (8167, "ῧ"), (8178, "ὼι"), (8179, "ωι"), (8180, "ώι"), (8182, "ῶ"), (8183, "ῶι"), (8188, "ωι"), (8360, "rs"), (8450, "c"), (8451, "°c"), (8455, "ɛ"), (8457, "°f"), (8459, "h"), (8460, "h"), (8461, "h"), (8464, "i"), (8465, "i"), (8466, "l"), (8469, "n"), (8470, "no"), (8473, "p"), (8474, "q"), (8475, "r"), (8476, "r"), (8477, "r"), (8480, "sm"), (8481, "tel"), (8482, "tm"), (8484, "z"), (8488, "z"), (8492, "b"), (8493, "c"), (8496, "e"), (8497, "f"), (8499, "m"), (8510, "γ"), (8511, "π"), (8517, "d"), (13169, "hpa"), (13171, "au"), (13173, "ov"), (13184, "pa"), (13185, "na"), (13186, "μa"), (13187, "ma"), (13188, "ka"), (13189, "kb"), (13190, "mb"), (13191, "gb"), (13194, "pf"), (13195, "nf"), (13196, "μf"), (13200, "hz"), (13201, "khz"), (13202, "mhz"), (13203, "ghz"), (13204, "thz"), (13225, "pa"), (13226, "kpa"), (13227, "mpa"), (13228, "gpa"), (13236, "pv"), (13237, "nv"), (13238, "μv"), (13239, "mv"), (13240, "kv"), (13241, "mv"), (13242, "pw"), (13243, "nw"), (13244, "μw"), (13245, "mw"), (13246, "kw"), (13247, "mw"), (13248, "kω"), (13249, "mω"), (13251, "bq"), (13254, "c∕kg"), (13255, "co."), (13256, "db"), (13257, "gy"), (13259, "hp"), (13261, "kk"), (13262, "km"), (13271, "ph"), (13273, "ppm"), (13274, "pr"), (13276, "sv"), (13277, "wb"), (64256, "ff"), (64257, "fi"), (64258, "fl"), (64259, "ffi"), (64260, "ffl"), (64261, "st"), (64262, "st"), (64275, "մն"), (64276, "մե"), (64277, "մի"), (64278, "վն"), (64279, "մխ"), (119808, "a"), (119809, "b"), (119810, "c"), (119811, "d"), (119812, "e"), (119813, "f"), (119814, "g"), (119815, "h"), (119816, "i"), (119817, "j"), (119818, "k"), (119819, "l"), (119820, "m"), (119821, "n"), (119822, "o"), (119823, "p"), (119824, "q"), (119825, "r"), (119826, "s"), (119827, "t"), (119828, "u"), (119829, "v"), (119830, "w"), (119831, "x"), (119832, "y"), (119833, "z"), (119860, "a"), (119861, "b"), (119862, "c"), (119863, "d"), (119864, "e"), (119865, "f"), (119866, "g"), (119867, "h"), (119868, "i"), (119869, "j"), (119870, "k"), (119871, "l"), (119872, "m"), (119873, "n"), (119874, "o"), (119875, "p"), (119876, "q"), (119877, "r"), (119878, "s"), (119879, "t"), (119880, "u"), (119881, "v"), (119882, "w"), (119883, "x"), (119884, "y"), (119885, "z"), (119912, "a"), (119913, "b"), (119914, "c"), (119915, "d"), (119916, "e"), (119917, "f"), (119918, "g"), (119919, "h"), (119920, "i"), (119921, "j"), (119922, "k"), (119923, "l"), (119924, "m"), (119925, "n"), (119926, "o"), (119927, "p"), (119928, "q"), (119929, "r"), (119930, "s"), (119931, "t"), (119932, "u"), (119933, "v"), (119934, "w"), (119935, "x"), (119936, "y"), (119937, "z"), (119964, "a"), (119966, "c"), (119967, "d"), (119970, "g"), (119973, "j"), (119974, "k"), (119977, "n"), (119978, "o"), (119979, "p"), (119980, "q"), (119982, "s"), (119983, "t"), (119984, "u"), (119985, "v"), (119986, "w"), (119987, "x"), (119988, "y"), (119989, "z"), (120016, "a"), (120017, "b"), (120018, "c"), (120019, "d"), (120020, "e"), (120021, "f"), (120022, "g"), (120023, "h"), (120024, "i"), (120025, "j"), (120026, "k"), (120027, "l"), (120028, "m"), (120029, "n"), (120030, "o"), (120031, "p"), (120032, "q"), (120033, "r"), (120034, "s"), (120035, "t"), (120036, "u"), (120037, "v"), (120038, "w"), (120039, "x"), (120040, "y"), (120041, "z"), (120068, "a"), (120069, "b"), (120071, "d"), (120072, "e"), (120073, "f"), (120074, "g"), (120077, "j"), (120078, "k"), (120079, "l"), (120080, "m"), (120081, "n"), (120082, "o"), (120083, "p"), (120084, "q"), (120086, "s"), (120087, "t"), (120088, "u"), (120089, "v"), (120090, "w"), (120091, "x"), (120092, "y"), (120120, "a"), (120121, "b"), (120123, "d"), (120124, "e"), (120125, "f"), (120126, "g"), (120128, "i"), (120129, "j"), (120130, "k"), (120131, "l"), (120132, "m"), (120134, "o"), (120138, "s"), (120139, "t"), (120140, "u"), (120141, "v"), (120142, "w"), (120143, "x"), (120144, "y"), (120172, "a"), (120173, "b"), (120174, "c"), (120175, "d"), (120176, "e"), (120177, "f"), (120178, "g"), (120179, "h"), (120180, "i"), (120181, "j"), (120182, "k"), (120183, "l"), (120184, "m"), (120185, "n"), (120186, "o"), (120187, "p"), (120188, "q"), (120189, "r"), (120190, "s"), (120191, "t"), (120192, "u"), (120193, "v"), (120194, "w"), (120195, "x"), (120196, "y"), (120197, "z"), (120224, "a"), (120225, "b"), (120226, "c"), (120227, "d"), (120228, "e"), (120229, "f"), (120230, "g"), (120231, "h"), (120232, "i"), (120233, "j"), (120234, "k"), (120235, "l"), (120236, "m"), (120237, "n"), (120238, "o"), (120239, "p"), (120240, "q"), (120241, "r"), (120242, "s"), (120243, "t"), (120244, "u"), (120245, "v"), (120246, "w"), (120247, "x"), (120248, "y"), (120249, "z"), (120276, "a"), (120277, "b"), (120278, "c"), (120279, "d"), (120280, "e"), (120281, "f"), (120282, "g"), (120283, "h"), (120284, "i"), (120285, "j"), (120286, "k"), (120287, "l"), (120288, "m"), (120289, "n"), (120290, "o"), (120291, "p"), (120292, "q"), (120293, "r"), (120294, "s"), (120295, "t"), (120296, "u"), (120297, "v"), (120298, "w"), (120299, "x"), (120300, "y"), (120301, "z"), (120328, "a"), (120329, "b"), (120330, "c"), (120331, "d"), (120332, "e"), (120333, "f"), (120334, "g"), (120335, "h"), (120336, "i"), (120337, "j"), (120338, "k"), (120339, "l"), (120340, "m"), (120341, "n"), (120342, "o"), (120343, "p"), (120344, "q"), (120345, "r"), (120346, "s"), (120347, "t"), (120348, "u"), (120349, "v"), (120350, "w"), (120351, "x"), (120352, "y"), (120353, "z"), (120380, "a"), (120381, "b"), (120382, "c"), (120383, "d"), (120384, "e"), (120385, "f"), (120386, "g"), (120387, "h"), (120388, "i"), (120389, "j"), (120390, "k"), (120391, "l"), (120392, "m"), (120393, "n"), (120394, "o"), (120395, "p"), (120396, "q"), (120397, "r"), (120398, "s"), (120399, "t"), (120400, "u"), (120401, "v"), (120402, "w"), (120403, "x"), (120404, "y"), (120405, "z"), (120432, "a"), (120433, "b"), (120434, "c"), (120435, "d"), (120436, "e"), (120437, "f"), (120438, "g"), (120439, "h"), (120440, "i"), (120441, "j"), (120442, "k"), (120443, "l"), (120444, "m"), (120445, "n"), (120446, "o"), (120447, "p"), (120448, "q"), (120449, "r"), (120450, "s"), (120451, "t"), (120452, "u"), (120453, "v"), (120454, "w"), (120455, "x"), (120456, "y"), (120457, "z"), (120488, "α"), (120489, "β"), (120490, "γ"), (120491, "δ"), (120492, "ε"), (120493, "ζ"), (120494, "η"), (120495, "θ"), (120496, "ι"), (120497, "κ"), (120498, "λ"), (120499, "μ"), (120500, "ν"), (120501, "ξ"), (120502, "ο"), (120503, "π"), (120504, "ρ"), (120505, "θ"), (120506, "σ"), (120507, "τ"), (120508, "υ"), (120509, "φ"), (120510, "χ"), (120511, "ψ"), (120512, "ω"), (120531, "σ"), (120546, "α"), (120547, "β"), (120548, "γ"), (120549, "δ"), (120550, "ε"), (120551, "ζ"), (120552, "η"), (120553, "θ"), (120554, "ι"), (120555, "κ"), (120556, "λ"), (120557, "μ"), (120558, "ν"), (120559, "ξ"), (120560, "ο"), (120561, "π"), (120562, "ρ"), (120563, "θ"), (120564, "σ"), (120565, "τ"), (120566, "υ"), (120567, "φ"), (120568, "χ"), (120569, "ψ"), (120570, "ω"), (120589, "σ"), (120604, "α"), (120605, "β"), (120606, "γ"), (120607, "δ"), (120608, "ε"), (120609, "ζ"), (120610, "η"), (120611, "θ"), (120612, "ι"), (120613, "κ"), (120614, "λ"), (120615, "μ"), (120616, "ν"), (120617, "ξ"), (120618, "ο"), (120619, "π"), (120620, "ρ"), (120621, "θ"), (120622, "σ"), (120623, "τ"), (120624, "υ"), (120625, "φ"), (120626, "χ"), (120627, "ψ"), (120628, "ω"), (120647, "σ"), (120662, "α"), (120663, "β"), (120664, "γ"), (120665, "δ"), (120666, "ε"), (120667, "ζ"), (120668, "η"), (120669, "θ"), (120670, "ι"), (120671, "κ"), (120672, "λ"), (120673, "μ"), (120674, "ν"), (120675, "ξ"), (120676, "ο"), (120677, "π"), (120678, "ρ"), (120679, "θ"), (120680, "σ"), (120681, "τ"), (120682, "υ"), (120683, "φ"), (120684, "χ"), (120685, "ψ"), (120686, "ω"), (120705, "σ"), (120720, "α"), (120721, "β"), (120722, "γ"), (120723, "δ"), (120724, "ε"), (120725, "ζ"), (120726, "η"), (120727, "θ"), (120728, "ι"), (120729, "κ"), (120730, "λ"), (120731, "μ"), (120732, "ν"), (120733, "ξ"), (120734, "ο"), (120735, "π"), (120736, "ρ"), (120737, "θ"), (120738, "σ"), (120739, "τ"), (120740, "υ"), (120741, "φ"), (120742, "χ"), (120743, "ψ"), (120744, "ω"), (120763, "σ")]
noncomputable def b3ent (t : Nat) : List (Int × String) → List DictEntry
  | [] => []
  | (k, v) :: r => ⟨k, .int k t, .str (Str.ofString v) (t + 1)⟩ :: b3ent (t + 3) r
noncomputable def b3last (t : Nat) : List (Int × String) → List DictEntry
  | [] => []
  | (k, v) :: r => ⟨k, .int k t, .str (Str.ofString v) (t + 1)⟩ :: b3last (t + 2) r
noncomputable def b3es : List DictEntry := b3ent 327 (b3L.take 646) ++ b3last 2265 (b3L.drop 646)
noncomputable def o79 (_ : Params) : Obj := ⟨Value.type "dict", none, .dict b3es.toArray 650, #[]⟩
noncomputable def K (P : Params) : Frag := (nat_lit 2, o2 P) :: (nat_lit 3, o3 P) :: (nat_lit 6, o6 P) :: (nat_lit 15, o15 P) :: (nat_lit 17, o17 P) :: (nat_lit 18, o18 P) :: (nat_lit 20, o20 P) :: (nat_lit 21, o21 P) :: (nat_lit 22, o22 P) :: (nat_lit 24, o24 P) :: (nat_lit 25, o25 P) :: (nat_lit 27, o27 P) :: (nat_lit 28, o28 P) :: (nat_lit 29, o29 P) :: (nat_lit 36, o36 P) :: (nat_lit 37, o37 P) :: (nat_lit 38, o38 P) :: (nat_lit 39, o39 P) :: (nat_lit 42, o42 P) :: (nat_lit 49, o49 P) :: (nat_lit 50, o50 P) :: (nat_lit 51, o51 P) :: (nat_lit 54, o54 P) :: (nat_lit 56, o56 P) :: (nat_lit 57, o57 P) :: (nat_lit 59, o59 P) :: (nat_lit 60, o60 P) :: (nat_lit 68, o68 P) :: (nat_lit 72, o72 P) :: (nat_lit 74, o74 P) :: (nat_lit 75, o75 P) :: (nat_lit 77, o77 P) :: (nat_lit 78, o78 P) :: (nat_lit 79, o79 P) :: (nat_lit 118, o118 P) :: (nat_lit 120, o120 P) :: (nat_lit 121, o121 P) :: (nat_lit 123, o123 P) :: (nat_lit 124, o124 P) :: (nat_lit 125, o125 P) :: (nat_lit 127, o127 P) :: (nat_lit 128, o128 P) :: (nat_lit 130, o130 P) :: (nat_lit 131, o131 P) :: (nat_lit 132, o132 P) :: (nat_lit 134, o134 P) :: (nat_lit 135, o135 P) :: (nat_lit 137, o137 P) :: (nat_lit 138, o138 P) :: (nat_lit 139, o139 P) :: (nat_lit 142, o142 P) :: (nat_lit 143, o143 P) :: (nat_lit 144, o144 P) :: (nat_lit 147, o147 P) :: (nat_lit 148, o148 P) :: (nat_lit 149, o149 P) :: (nat_lit 152, o152 P) :: (nat_lit 153, o153 P) :: (nat_lit 154, o154 P) :: (nat_lit 157, o157 P) :: (nat_lit 158, o158 P) :: (nat_lit 159, o159 P) :: (nat_lit 161, o161 P) :: (nat_lit 162, o162 P) :: (nat_lit 164, o164 P) :: (nat_lit 165, o165 P) :: (nat_lit 166, o166 P) :: (nat_lit 169, o169 P) :: (nat_lit 170, o170 P) :: (nat_lit 171, o171 P) :: (nat_lit 173, o173 P) :: (nat_lit 174, o174 P) :: (nat_lit 176, o176 P) :: (nat_lit 177, o177 P) :: []
end Mine
end
section
open PySem PySem.W PyProof.Rows
namespace Mine
noncomputable def tmpD (j : Nat) : Obj := if j == 38 then ⟨Value.type "dict", none, .dict (b3last 2265 (b3L.drop 646)).toArray 4, #[]⟩ else ⟨Value.type "dict", none, .dict (b3ent (327 + 51 * j) ((b3L.drop (17 * j)).take 17)).toArray 17, #[]⟩
noncomputable def g3v9 (P : Params) : Obj := ⟨Value.type "dict", none, .dict [⟨(PyData.keyHash P (Str.ofString "__name__")), Value.str (Str.ofString "__name__") 165, Value.str (Str.ofString "cpy313.stringprep") 258⟩, ⟨(PyData.keyHash P (Str.ofString "__doc__")), Value.str (Str.ofString "__doc__") 166, Value.none⟩, ⟨(PyData.keyHash P (Str.ofString "__package__")), Value.str (Str.ofString "__package__") 167, Value.none⟩, ⟨(PyData.keyHash P (Str.ofString "__loader__")), Value.str (Str.ofString "__loader__") 168, Value.builtin "__main__.__loader__#opaque"⟩, ⟨(PyData.keyHash P (Str.ofString "__spec__")), Value.str (Str.ofString "__spec__") 169, Value.none⟩, ⟨(PyData.keyHash P (Str.ofString "__annotations__")), Value.str (Str.ofString "__annotations__") 170, Value.ref 6⟩, ⟨(PyData.keyHash P (Str.ofString "__builtins__")), Value.str (Str.ofString "__builtins__") 171, Value.ref 4⟩, ⟨(PyData.keyHash P (Str.ofString "__file__")), Value.str (Str.ofString "__file__") 173, Value.str (Str.ofString "/claim/cut.py") 172⟩, ⟨(PyData.keyHash P (Str.ofString "__cached__")), Value.str (Str.ofString "__cached__") 174, Value.none⟩, ⟨(PyData.keyHash P (Str.ofString "_parse_varint")), Value.str (Str.ofString "_parse_varint") 197, Value.ref 21⟩, ⟨(PyData.keyHash P (Str.ofString "_NO_LINENO")), Value.str (Str.ofString "_NO_LINENO") 199, Value.str (Str.ofString "  --") 198⟩, ⟨(PyData.keyHash P (Str.ofString "_get_lineno_width")), Value.str (Str.ofString "_get_lineno_width") 208, Value.ref 28⟩, ⟨(PyData.keyHash P (Str.ofString "Error")), Value.str (Str.ofString "Error") 230, Value.ref 38⟩, ⟨(PyData.keyHash P (Str.ofString "error_reply")), Value.str (Str.ofString "error_reply") 246, Value.ref 51⟩, ⟨(PyData.keyHash P (Str.ofString "parse257")), Value.str (Str.ofString "parse257") 257, Value.ref 60⟩].toArray 15, #[]⟩
noncomputable def g3v11 (P : Params) : Obj := ⟨Value.type "dict", none, .dict [⟨(PyData.keyHash P (Str.ofString "__name__")), Value.str (Str.ofString "__name__") 165, Value.str (Str.ofString "cpy313.stringprep") 258⟩, ⟨(PyData.keyHash P (Str.ofString "__doc__")), Value.str (Str.ofString "__doc__") 166, Value.none⟩, ⟨(PyData.keyHash P (Str.ofString "__package__")), Value.str (Str.ofString "__package__") 167, Value.none⟩, ⟨(PyData.keyHash P (Str.ofString "__loader__")), Value.str (Str.ofString "__loader__") 168, Value.builtin "__main__.__loader__#opaque"⟩, ⟨(PyData.keyHash P (Str.ofString "__spec__")), Value.str (Str.ofString "__spec__") 169, Value.none⟩, ⟨(PyData.keyHash P (Str.ofString "__annotations__")), Value.str (Str.ofString "__annotations__") 170, Value.ref 6⟩, ⟨(PyData.keyHash P (Str.ofString "__builtins__")), Value.str (Str.ofString "__builtins__") 171, Value.ref 4⟩, ⟨(PyData.keyHash P (Str.ofString "__file__")), Value.str (Str.ofString "__file__") 173, Value.str (Str.ofString "/claim/cut.py") 172⟩, ⟨(PyData.keyHash P (Str.ofString "__cached__")), Value.str (Str.ofString "__cached__") 174, Value.none⟩, ⟨(PyData.keyHash P (Str.ofString "_parse_varint")), Value.str (Str.ofString "_parse_varint") 197, Value.ref 21⟩, ⟨(PyData.keyHash P (Str.ofString "_NO_LINENO")), Value.str (Str.ofString "_NO_LINENO") 199, Value.str (Str.ofString "  --") 198⟩, ⟨(PyData.keyHash P (Str.ofString "_get_lineno_width")), Value.str (Str.ofString "_get_lineno_width") 208, Value.ref 28⟩, ⟨(PyData.keyHash P (Str.ofString "Error")), Value.str (Str.ofString "Error") 230, Value.ref 38⟩, ⟨(PyData.keyHash P (Str.ofString "error_reply")), Value.str (Str.ofString "error_reply") 246, Value.ref 51⟩, ⟨(PyData.keyHash P (Str.ofString "parse257")), Value.str (Str.ofString "parse257") 257, Value.ref 60⟩, ⟨(PyData.keyHash P (Str.ofString "b1_set")), Value.str (Str.ofString "b1_set") 319, Value.ref 68⟩, ⟨(PyData.keyHash P (Str.ofString "in_table_b1")), Value.str (Str.ofString "in_table_b1") 326, Value.ref 78⟩].toArray 17, #[]⟩
noncomputable def g3v12 (P : Params) : Obj := ⟨Value.type "dict", none, .dict [⟨(PyData.keyHash P (Str.ofString "__name__")), Value.str (Str.ofString "__name__") 165, Value.str (Str.ofString "cpy313.stringprep") 258⟩, ⟨(PyData.keyHash P (Str.ofString "__doc__")), Value.str (Str.ofString "__doc__") 166, Value.none⟩, ⟨(PyData.keyHash P (Str.ofString "__package__")), Value.str (Str.ofString "__package__") 167, Value.none⟩, ⟨(PyData.keyHash P (Str.ofString "__loader__")), Value.str (Str.ofString "__loader__") 168, Value.builtin "__main__.__loader__#opaque"⟩, ⟨(PyData.keyHash P (Str.ofString "__spec__")), Value.str (Str.ofString "__spec__") 169, Value.none⟩, ⟨(PyData.keyHash P (Str.ofString "__annotations__")), Value.str (Str.ofString "__annotations__") 170, Value.ref 6⟩, ⟨(PyData.keyHash P (Str.ofString "__builtins__")), Value.str (Str.ofString "__builtins__") 171, Value.ref 4⟩, ⟨(PyData.keyHash P (Str.ofString "__file__")), Value.str (Str.ofString "__file__") 173, Value.str (Str.ofString "/claim/cut.py") 172⟩, ⟨(PyData.keyHash P (Str.ofString "__cached__")), Value.str (Str.ofString "__cached__") 174, Value.none⟩, ⟨(PyData.keyHash P (Str.ofString "_parse_varint")), Value.str (Str.ofString "_parse_varint") 197, Value.ref 21⟩, ⟨(PyData.keyHash P (Str.ofString "_NO_LINENO")), Value.str (Str.ofString "_NO_LINENO") 199, Value.str (Str.ofString "  --") 198⟩, ⟨(PyData.keyHash P (Str.ofString "_get_lineno_width")), Value.str (Str.ofString "_get_lineno_width") 208, Value.ref 28⟩, ⟨(PyData.keyHash P (Str.ofString "Error")), Value.str (Str.ofString "Error") 230, Value.ref 38⟩, ⟨(PyData.keyHash P (Str.ofString "error_reply")), Value.str (Str.ofString "error_reply") 246, Value.ref 51⟩, ⟨(PyData.keyHash P (Str.ofString "parse257")), Value.str (Str.ofString "parse257") 257, Value.ref 60⟩, ⟨(PyData.keyHash P (Str.ofString "b1_set")), Value.str (Str.ofString "b1_set") 319, Value.ref 68⟩, ⟨(PyData.keyHash P (Str.ofString "in_table_b1")), Value.str (Str.ofString "in_table_b1") 326, Value.ref 78⟩, ⟨(PyData.keyHash P (Str.ofString "b3_exceptions")), Value.str (Str.ofString "b3_exceptions") 2277, Value.ref 79⟩].toArray 18, #[]⟩
noncomputable def g11va (P : Params) : Obj := ⟨Value.type "tuple", none, .seq #[] 0, #[]⟩
noncomputable def g12va (P : Params) : Obj := ⟨Value.none, none, .fields #[], #[]⟩
noncomputable def g12v9 (P : Params) : Obj := ⟨Value.none, none, .fields #[Value.int 2 0, Value.int 0 0, Value.ref 20, Value.int 11 0, Value.int 0 0, Value.ref 27, Value.int 22 0, Value.int 0 0, Value.ref 34, Value.int 24 0, Value.int 0 0, Value.ref 47, Value.int 26 0, Value.int 0 0, Value.ref 59], #[]⟩
noncomputable def g12v11 (P : Params) : Obj := ⟨Value.none, none, .fields #[Value.int 2 0, Value.int 0 0, Value.ref 20, Value.int 11 0, Value.int 0 0, Value.ref 27, Value.int 22 0, Value.int 0 0, Value.ref 34, Value.int 24 0, Value.int 0 0, Value.ref 47, Value.int 26 0, Value.int 0 0, Value.ref 59, Value.int 45 0, Value.int 0 0, Value.ref 77], #[]⟩
noncomputable def g12v23 (P : Params) : Obj := ⟨Value.none, none, .fields #[Value.int 2 0, Value.int 0 0, Value.ref 20, Value.int 11 0, Value.int 0 0, Value.ref 27, Value.int 22 0, Value.int 0 0, Value.ref 34, Value.int 24 0, Value.int 0 0, Value.ref 47, Value.int 26 0, Value.int 0 0, Value.ref 59, Value.int 45 0, Value.int 0 0, Value.ref 77, Value.int 48 0, Value.int 0 0, Value.ref 123, Value.int 54 0, Value.int 0 0, Value.ref 130, Value.int 72 0, Value.int 0 0, Value.ref 137, Value.int 84 0, Value.int 0 0, Value.ref 142, Value.int 91 0, Value.int 0 0, Value.ref 147, Value.int 96 0, Value.int 0 0, Value.ref 152, Value.int 109 0, Value.int 0 0, Value.ref 157, Value.int 126 0, Value.int 0 0, Value.ref 164, Value.int 130 0, Value.int 0 0, Value.ref 169, Value.int 141 0, Value.int 0 0, Value.ref 176], #[]⟩
noncomputable def g13va (P : Params) : Obj := ⟨Value.type "code", none, .fields #[Value.str (Str.ofString "<module>") 182, Value.str (Str.ofString "<module>") 183, Value.str (Str.ofString "/claim/cut.py") 184, Value.int 1 0, Value.int 0 0, Value.int 0 0, Value.int 0 0, Value.int 0 0, Value.ref 11, Value.bool false, Value.int 181 0, Value.ref 12, Value.none, Value.none, Value.none, Value.none, Value.int 185 0, Value.int 1 0, Value.str (Str.ofString "/claim/cut.py") 186], #[]⟩
noncomputable def g14va (P : Params) : Obj := ⟨Value.type "frame", none, .plain, #[(some (Value.ref 13)), (some (Value.ref 3)), (some (Value.ref 3)), none, (some (Value.str (Str.ofString "__main__") 164)), none, (some (Value.ref 0))]⟩
noncomputable def g16v9 (P : Params) : Obj := ⟨Value.none, none, .fields #[], #[]⟩
noncomputable def g19v9 (P : Params) : Obj := ⟨Value.none, none, .func ⟨(Str.ofString "_parse_varint"), (Str.ofString "_parse_varint"), fnP 1, .stmts (fnB 1), fnS 1, 0, [], Value.none, Value.none, Value.none, Value.none, none, Value.none, Value.none, 0⟩, #[]⟩
noncomputable def g23v9 (P : Params) : Obj := ⟨Value.none, none, .fields #[], #[]⟩
noncomputable def g26v9 (P : Params) : Obj := ⟨Value.none, none, .func ⟨(Str.ofString "_get_lineno_width"), (Str.ofString "_get_lineno_width"), fnP 3, .stmts (fnB 3), fnS 3, 0, [], Value.none, Value.none, Value.none, Value.none, none, Value.none, Value.none, 0⟩, #[]⟩
noncomputable def g30v9 (P : Params) : Obj := ⟨Value.type "builtin_function_or_method", none, .fields #[Value.builtin "type.__prepare__", Value.type "type"], #[]⟩
noncomputable def g31v9 (P : Params) : Obj := ⟨Value.type "dict", none, .dict [⟨(PyData.keyHash P (Str.ofString "__module__")), Value.str (Str.ofString "__module__") 218, Value.str (Str.ofString "cpy313.ftplib") 209⟩, ⟨(PyData.keyHash P (Str.ofString "__qualname__")), Value.str (Str.ofString "__qualname__") 220, Value.str (Str.ofString "Error") 219⟩, ⟨(PyData.keyHash P (Str.ofString "__firstlineno__")), Value.str (Str.ofString "__firstlineno__") 222, Value.int 22 221⟩, ⟨(PyData.keyHash P (Str.ofString "__static_attributes__")), Value.str (Str.ofString "__static_attributes__") 223, Value.ref 36⟩].toArray 4, #[]⟩
noncomputable def g32v9 (P : Params) : Obj := ⟨Value.type "tuple", none, .seq #[] 0, #[]⟩
noncomputable def g33v9 (P : Params) : Obj := ⟨Value.none, none, .fields #[], #[]⟩
noncomputable def g34v9 (P : Params) : Obj := ⟨Value.type "code", none, .fields #[Value.str (Str.ofString "Error") 213, Value.str (Str.ofString "Error") 214, Value.str (Str.ofString "/claim/cut.py") 215, Value.int 22 0, Value.int 0 0, Value.int 0 0, Value.int 0 0, Value.int 0 0, Value.ref 32, Value.bool false, Value.int 181 0, Value.ref 33, Value.none, Value.none, Value.none, Value.none, Value.int 216 0, Value.int 22 0, Value.str (Str.ofString "/claim/cut.py") 217], #[]⟩
noncomputable def g35v9 (P : Params) : Obj := ⟨Value.type "frame", none, .plain, #[(some (Value.ref 34)), (some (Value.ref 3)), (some (Value.ref 31)), none, (some (Value.str (Str.ofString "cpy313.ftplib") 209)), none, (some (Value.ref 0))]⟩
noncomputable def g40v9 (P : Params) : Obj := ⟨Value.type "super", none, .fields #[Value.ref 38, Value.ref 38, Value.ref 38], #[]⟩
noncomputable def g41v9 (P : Params) : Obj := ⟨Value.type "builtin_function_or_method", none, .fields #[Value.builtin "object.__init_subclass__", Value.ref 38], #[]⟩
noncomputable def g43v9 (P : Params) : Obj := ⟨Value.type "builtin_function_or_method", none, .fields #[Value.builtin "type.__prepare__", Value.type "type"], #[]⟩
noncomputable def g44v9 (P : Params) : Obj := ⟨Value.type "dict", none, .dict [⟨(PyData.keyHash P (Str.ofString "__module__")), Value.str (Str.ofString "__module__") 238, Value.str (Str.ofString "cpy313.ftplib") 209⟩, ⟨(PyData.keyHash P (Str.ofString "__qualname__")), Value.str (Str.ofString "__qualname__") 240, Value.str (Str.ofString "error_reply") 239⟩, ⟨(PyData.keyHash P (Str.ofString "__firstlineno__")), Value.str (Str.ofString "__firstlineno__") 242, Value.int 24 241⟩, ⟨(PyData.keyHash P (Str.ofString "__static_attributes__")), Value.str (Str.ofString "__static_attributes__") 243, Value.ref 49⟩].toArray 4, #[]⟩
noncomputable def g45v9 (P : Params) : Obj := ⟨Value.type "tuple", none, .seq #[] 0, #[]⟩
noncomputable def g46v9 (P : Params) : Obj := ⟨Value.none, none, .fields #[], #[]⟩
noncomputable def g47v9 (P : Params) : Obj := ⟨Value.type "code", none, .fields #[Value.str (Str.ofString "error_reply") 233, Value.str (Str.ofString "error_reply") 234, Value.str (Str.ofString "/claim/cut.py") 235, Value.int 24 0, Value.int 0 0, Value.int 0 0, Value.int 0 0, Value.int 0 0, Value.ref 45, Value.bool false, Value.int 181 0, Value.ref 46, Value.none, Value.none, Value.none, Value.none, Value.int 236 0, Value.int 24 0, Value.str (Str.ofString "/claim/cut.py") 237], #[]⟩
noncomputable def g48v9 (P : Params) : Obj := ⟨Value.type "frame", none, .plain, #[(some (Value.ref 47)), (some (Value.ref 3)), (some (Value.ref 44)), none, (some (Value.str (Str.ofString "cpy313.ftplib") 209)), none, (some (Value.ref 0))]⟩
noncomputable def g52v9 (P : Params) : Obj := ⟨Value.type "super", none, .fields #[Value.ref 51, Value.ref 51, Value.ref 51], #[]⟩
noncomputable def g53v9 (P : Params) : Obj := ⟨Value.type "builtin_function_or_method", none, .fields #[Value.builtin "object.__init_subclass__", Value.ref 51], #[]⟩
noncomputable def g55v9 (P : Params) : Obj := ⟨Value.none, none, .fields #[], #[]⟩
noncomputable def g58v9 (P : Params) : Obj := ⟨Value.none, none, .func ⟨(Str.ofString "parse257"), (Str.ofString "parse257"), fnP 7, .stmts (fnB 7), fnS 7, 0, [], Value.none, Value.none, Value.none, Value.none, none, Value.none, Value.none, 0⟩, #[]⟩
noncomputable def g61v11 (P : Params) : Obj := ⟨Value.type "list", none, .seq #[Value.int 173 260, Value.int 847 261, Value.int 6150 262, Value.int 6155 263, Value.int 6156 264, Value.int 6157 265, Value.int 8203 266, Value.int 8204 267, Value.int 8205 268, Value.int 8288 269, Value.int 65279 270] 0, #[]⟩
noncomputable def g62v11 (P : Params) : Obj := ⟨Value.type "range", none, .fields #[Value.int 65024 271, Value.int 65040 272, Value.int 1 273], #[]⟩
noncomputable def g63v11 (P : Params) : Obj := ⟨Value.type "list", none, .seq #[Value.int 65024 276, Value.int 65025 277, Value.int 65026 278, Value.int 65027 279, Value.int 65028 280, Value.int 65029 281, Value.int 65030 282, Value.int 65031 283, Value.int 65032 284, Value.int 65033 285, Value.int 65034 286, Value.int 65035 287, Value.int 65036 288, Value.int 65037 289, Value.int 65038 290, Value.int 65039 291] 18, #[]⟩
noncomputable def g64v11 (P : Params) : Obj := ⟨Value.type "range_iterator", none, .fields #[Value.int 65040 0, Value.int 0 0, Value.int 1 0], #[]⟩
noncomputable def g65v11 (P : Params) : Obj := ⟨Value.type "tuple", none, .seq #[] 0, #[]⟩
noncomputable def g66v11 (P : Params) : Obj := ⟨Value.type "StopIteration", none, .fields #[Value.ref 65, Value.none, Value.none, Value.none, Value.bool false, Value.none], #[]⟩
noncomputable def g67v11 (P : Params) : Obj := ⟨Value.type "list", none, .seq #[Value.int 173 260, Value.int 847 261, Value.int 6150 262, Value.int 6155 263, Value.int 6156 264, Value.int 6157 265, Value.int 8203 266, Value.int 8204 267, Value.int 8205 268, Value.int 8288 269, Value.int 65279 270, Value.int 65024 276, Value.int 65025 277, Value.int 65026 278, Value.int 65027 279, Value.int 65028 280, Value.int 65029 281, Value.int 65030 282, Value.int 65031 283, Value.int 65032 284, Value.int 65033 285, Value.int 65034 286, Value.int 65035 287, Value.int 65036 288, Value.int 65037 289, Value.int 65038 290, Value.int 65039 291] 0, #[]⟩
noncomputable def g69v11 (P : Params) : Obj := ⟨Value.type "list_iterator", none, .fields #[Value.none, Value.int 27 0], #[]⟩
noncomputable def g70v11 (P : Params) : Obj := ⟨Value.type "tuple", none, .seq #[] 0, #[]⟩
noncomputable def g71v11 (P : Params) : Obj := ⟨Value.type "StopIteration", none, .fields #[Value.ref 70, Value.none, Value.none, Value.none, Value.bool false, Value.none], #[]⟩
noncomputable def g73v11 (P : Params) : Obj := ⟨Value.none, none, .fields #[], #[]⟩
noncomputable def g76v11 (P : Params) : Obj := ⟨Value.none, none, .func ⟨(Str.ofString "in_table_b1"), (Str.ofString "in_table_b1"), fnP 10, .stmts (fnB 10), fnS 10, 0, [], Value.none, Value.none, Value.none, Value.none, none, Value.none, Value.none, 0⟩, #[]⟩
noncomputable def g119v23 (P : Params) : Obj := ⟨Value.none, none, .fields #[], #[]⟩
noncomputable def g122v23 (P : Params) : Obj := ⟨Value.none, none, .func ⟨(Str.ofString "map_table_b3"), (Str.ofString "map_table_b3"), fnP 12, .stmts (fnB 12), fnS 12, 0, [], Value.none, Value.none, Value.none, Value.none, none, Value.none, Value.none, 0⟩, #[]⟩
noncomputable def g126v23 (P : Params) : Obj := ⟨Value.none, none, .fields #[], #[]⟩
noncomputable def g129v23 (P : Params) : Obj := ⟨Value.none, none, .func ⟨(Str.ofString "_law_sign"), (Str.ofString "_law_sign"), fnP 14, .stmts (fnB 14), fnS 14, 0, [], Value.none, Value.none, Value.none, Value.none, none, Value.none, Value.none, 0⟩, #[]⟩
noncomputable def g133v23 (P : Params) : Obj := ⟨Value.none, none, .fields #[], #[]⟩
noncomputable def g136v23 (P : Params) : Obj := ⟨Value.none, none, .func ⟨(Str.ofString "_law_row"), (Str.ofString "_law_row"), fnP 15, .stmts (fnB 15), fnS 15, 0, [], Value.none, Value.none, Value.none, Value.none, none, Value.none, Value.none, 0⟩, #[]⟩
noncomputable def g140v23 (P : Params) : Obj := ⟨Value.none, none, .fields #[], #[]⟩
noncomputable def g141v23 (P : Params) : Obj := ⟨Value.none, none, .func ⟨(Str.ofString "_law_line"), (Str.ofString "_law_line"), fnP 16, .stmts (fnB 16), fnS 16, 0, [], Value.none, Value.none, Value.none, Value.none, none, Value.none, Value.none, 0⟩, #[]⟩
noncomputable def g145v23 (P : Params) : Obj := ⟨Value.none, none, .fields #[], #[]⟩
noncomputable def g146v23 (P : Params) : Obj := ⟨Value.none, none, .func ⟨(Str.ofString "_law_width"), (Str.ofString "_law_width"), fnP 17, .stmts (fnB 17), fnS 17, 0, [], Value.none, Value.none, Value.none, Value.none, none, Value.none, Value.none, 0⟩, #[]⟩
noncomputable def g150v23 (P : Params) : Obj := ⟨Value.none, none, .fields #[], #[]⟩
noncomputable def g151v23 (P : Params) : Obj := ⟨Value.none, none, .func ⟨(Str.ofString "_law_heard"), (Str.ofString "_law_heard"), fnP 18, .stmts (fnB 18), fnS 18, 0, [], Value.none, Value.none, Value.none, Value.none, none, Value.none, Value.none, 0⟩, #[]⟩
noncomputable def g155v23 (P : Params) : Obj := ⟨Value.none, none, .fields #[], #[]⟩
noncomputable def g156v23 (P : Params) : Obj := ⟨Value.none, none, .func ⟨(Str.ofString "_law_told"), (Str.ofString "_law_told"), fnP 19, .stmts (fnB 19), fnS 19, 0, [], Value.none, Value.none, Value.none, Value.none, none, Value.none, Value.none, 0⟩, #[]⟩
noncomputable def g160v23 (P : Params) : Obj := ⟨Value.none, none, .fields #[], #[]⟩
noncomputable def g163v23 (P : Params) : Obj := ⟨Value.none, none, .func ⟨(Str.ofString "_law_less"), (Str.ofString "_law_less"), fnP 20, .stmts (fnB 20), fnS 20, 0, [], Value.none, Value.none, Value.none, Value.none, none, Value.none, Value.none, 0⟩, #[]⟩
noncomputable def g167v23 (P : Params) : Obj := ⟨Value.none, none, .fields #[], #[]⟩
noncomputable def g168v23 (P : Params) : Obj := ⟨Value.none, none, .func ⟨(Str.ofString "_law_dealt"), (Str.ofString "_law_dealt"), fnP 21, .stmts (fnB 21), fnS 21, 0, [], Value.none, Value.none, Value.none, Value.none, none, Value.none, Value.none, 0⟩, #[]⟩
noncomputable def g172v23 (P : Params) : Obj := ⟨Value.none, none, .fields #[], #[]⟩
noncomputable def g175v23 (P : Params) : Obj := ⟨Value.none, none, .func ⟨(Str.ofString "law"), (Str.ofString "law"), fnP 22, .stmts (fnB 22), fnS 22, 0, [], Value.none, Value.none, Value.none, Value.none, none, Value.none, Value.none, 0⟩, #[]⟩
noncomputable def ta (P : Params) : BT := (.node (boot_o_0 P) (.node (boot_o_1 P) (.node (boot_o_3 P) (.node (boot_o_7 P) .nil .nil) (.node (g11va P) .nil .nil)) (.node (boot_o_5 P) (.node (boot_o_9 P) .nil .nil) (.node (g13va P) .nil .nil))) (.node (boot_o_2 P) (.node (boot_o_4 P) (.node (boot_o_8 P) .nil .nil) (.node (g12va P) .nil .nil)) (.node (boot_o_6 P) (.node (boot_o_10 P) .nil .nil) (.node (g14va P) .nil .nil))))
noncomputable def heapa (P : Params) : Heap := ⟨⟨(boot_o_0 P) :: (boot_o_1 P) :: (boot_o_2 P) :: (boot_o_3 P) :: (boot_o_4 P) :: (boot_o_5 P) :: (boot_o_6 P) :: (boot_o_7 P) :: (boot_o_8 P) :: (boot_o_9 P) :: (boot_o_10 P) :: (g11va P) :: (g12va P) :: (g13va P) :: (g14va P) :: []⟩, {}⟩
noncomputable def t9 (P : Params) : BT := (.node (boot_o_0 P) (.node (boot_o_1 P) (.node (g3v9 P) (.node (boot_o_7 P) (.node (o15 P) (.node (g31v9 P) .nil .nil) (.node (g47v9 P) .nil .nil)) (.node (g23v9 P) (.node (o39 P) .nil .nil) (.node (g55v9 P) .nil .nil))) (.node (g11va P) (.node (g19v9 P) (.node (g35v9 P) .nil .nil) (.node (o51 P) .nil .nil)) (.node (o27 P) (.node (g43v9 P) .nil .nil) (.node (o59 P) .nil .nil)))) (.node (boot_o_5 P) (.node (boot_o_9 P) (.node (o17 P) (.node (g33v9 P) .nil .nil) (.node (o49 P) .nil .nil)) (.node (o25 P) (.node (g41v9 P) .nil .nil) (.node (o57 P) .nil .nil))) (.node (g13va P) (.node (o21 P) (.node (o37 P) .nil .nil) (.node (g53v9 P) .nil .nil)) (.node (o29 P) (.node (g45v9 P) .nil .nil) .nil)))) (.node (o2 P) (.node (boot_o_4 P) (.node (boot_o_8 P) (.node (g16v9 P) (.node (g32v9 P) .nil .nil) (.node (g48v9 P) .nil .nil)) (.node (o24 P) (.node (g40v9 P) .nil .nil) (.node (o56 P) .nil .nil))) (.node (g12v9 P) (.node (o20 P) (.node (o36 P) .nil .nil) (.node (g52v9 P) .nil .nil)) (.node (o28 P) (.node (g44v9 P) .nil .nil) (.node (o60 P) .nil .nil)))) (.node (boot_o_6 P) (.node (boot_o_10 P) (.node (o18 P) (.node (g34v9 P) .nil .nil) (.node (o50 P) .nil .nil)) (.node (g26v9 P) (.node (o42 P) .nil .nil) (.node (g58v9 P) .nil .nil))) (.node (g14va P) (.node (o22 P) (.node (o38 P) .nil .nil) (.node (o54 P) .nil .nil)) (.node (g30v9 P) (.node (g46v9 P) .nil .nil) .nil)))))
noncomputable def t11 (P : Params) : BT := (.node (boot_o_0 P) (.node (boot_o_1 P) (.node (g3v11 P) (.node (boot_o_7 P) (.node (o15 P) (.node (g31v9 P) (.node (g63v11 P) .nil .nil) .nil) (.node (g47v9 P) .nil .nil)) (.node (g23v9 P) (.node (o39 P) (.node (g71v11 P) .nil .nil) .nil) (.node (g55v9 P) .nil .nil))) (.node (g11va P) (.node (g19v9 P) (.node (g35v9 P) (.node (g67v11 P) .nil .nil) .nil) (.node (o51 P) .nil .nil)) (.node (o27 P) (.node (g43v9 P) (.node (o75 P) .nil .nil) .nil) (.node (o59 P) .nil .nil)))) (.node (boot_o_5 P) (.node (boot_o_9 P) (.node (o17 P) (.node (g33v9 P) (.node (g65v11 P) .nil .nil) .nil) (.node (o49 P) .nil .nil)) (.node (o25 P) (.node (g41v9 P) (.node (g73v11 P) .nil .nil) .nil) (.node (o57 P) .nil .nil))) (.node (g13va P) (.node (o21 P) (.node (o37 P) (.node (g69v11 P) .nil .nil) .nil) (.node (g53v9 P) .nil .nil)) (.node (o29 P) (.node (g45v9 P) (.node (o77 P) .nil .nil) .nil) (.node (g61v11 P) .nil .nil))))) (.node (o2 P) (.node (boot_o_4 P) (.node (boot_o_8 P) (.node (g16v9 P) (.node (g32v9 P) (.node (g64v11 P) .nil .nil) .nil) (.node (g48v9 P) .nil .nil)) (.node (o24 P) (.node (g40v9 P) (.node (o72 P) .nil .nil) .nil) (.node (o56 P) .nil .nil))) (.node (g12v11 P) (.node (o20 P) (.node (o36 P) (.node (o68 P) .nil .nil) .nil) (.node (g52v9 P) .nil .nil)) (.node (o28 P) (.node (g44v9 P) (.node (g76v11 P) .nil .nil) .nil) (.node (o60 P) .nil .nil)))) (.node (boot_o_6 P) (.node (boot_o_10 P) (.node (o18 P) (.node (g34v9 P) (.node (g66v11 P) .nil .nil) .nil) (.node (o50 P) .nil .nil)) (.node (g26v9 P) (.node (o42 P) (.node (o74 P) .nil .nil) .nil) (.node (g58v9 P) .nil .nil))) (.node (g14va P) (.node (o22 P) (.node (o38 P) (.node (g70v11 P) .nil .nil) .nil) (.node (o54 P) .nil .nil)) (.node (g30v9 P) (.node (g46v9 P) (.node (o78 P) .nil .nil) .nil) (.node (g62v11 P) .nil .nil))))))
noncomputable def t12 (P : Params) : BT := (.node (boot_o_0 P) (.node (boot_o_1 P) (.node (g3v12 P) (.node (boot_o_7 P) (.node (o15 P) (.node (g31v9 P) (.node (g63v11 P) .nil .nil) (.node (tmpD 16) .nil .nil)) (.node (g47v9 P) (.node (o79 P) .nil .nil) (.node (tmpD 32) .nil .nil))) (.node (g23v9 P) (.node (o39 P) (.node (g71v11 P) .nil .nil) (.node (tmpD 24) .nil .nil)) (.node (g55v9 P) (.node (tmpD 8) .nil .nil) .nil))) (.node (g11va P) (.node (g19v9 P) (.node (g35v9 P) (.node (g67v11 P) .nil .nil) (.node (tmpD 20) .nil .nil)) (.node (o51 P) (.node (tmpD 4) .nil .nil) (.node (tmpD 36) .nil .nil))) (.node (o27 P) (.node (g43v9 P) (.node (o75 P) .nil .nil) (.node (tmpD 28) .nil .nil)) (.node (o59 P) (.node (tmpD 12) .nil .nil) .nil)))) (.node (boot_o_5 P) (.node (boot_o_9 P) (.node (o17 P) (.node (g33v9 P) (.node (g65v11 P) .nil .nil) (.node (tmpD 18) .nil .nil)) (.node (o49 P) (.node (tmpD 2) .nil .nil) (.node (tmpD 34) .nil .nil))) (.node (o25 P) (.node (g41v9 P) (.node (g73v11 P) .nil .nil) (.node (tmpD 26) .nil .nil)) (.node (o57 P) (.node (tmpD 10) .nil .nil) .nil))) (.node (g13va P) (.node (o21 P) (.node (o37 P) (.node (g69v11 P) .nil .nil) (.node (tmpD 22) .nil .nil)) (.node (g53v9 P) (.node (tmpD 6) .nil .nil) (.node (tmpD 38) .nil .nil))) (.node (o29 P) (.node (g45v9 P) (.node (o77 P) .nil .nil) (.node (tmpD 30) .nil .nil)) (.node (g61v11 P) (.node (tmpD 14) .nil .nil) .nil))))) (.node (o2 P) (.node (boot_o_4 P) (.node (boot_o_8 P) (.node (g16v9 P) (.node (g32v9 P) (.node (g64v11 P) .nil .nil) (.node (tmpD 17) .nil .nil)) (.node (g48v9 P) (.node (tmpD 1) .nil .nil) (.node (tmpD 33) .nil .nil))) (.node (o24 P) (.node (g40v9 P) (.node (o72 P) .nil .nil) (.node (tmpD 25) .nil .nil)) (.node (o56 P) (.node (tmpD 9) .nil .nil) .nil))) (.node (g12v11 P) (.node (o20 P) (.node (o36 P) (.node (o68 P) .nil .nil) (.node (tmpD 21) .nil .nil)) (.node (g52v9 P) (.node (tmpD 5) .nil .nil) (.node (tmpD 37) .nil .nil))) (.node (o28 P) (.node (g44v9 P) (.node (g76v11 P) .nil .nil) (.node (tmpD 29) .nil .nil)) (.node (o60 P) (.node (tmpD 13) .nil .nil) .nil)))) (.node (boot_o_6 P) (.node (boot_o_10 P) (.node (o18 P) (.node (g34v9 P) (.node (g66v11 P) .nil .nil) (.node (tmpD 19) .nil .nil)) (.node (o50 P) (.node (tmpD 3) .nil .nil) (.node (tmpD 35) .nil .nil))) (.node (g26v9 P) (.node (o42 P) (.node (o74 P) .nil .nil) (.node (tmpD 27) .nil .nil)) (.node (g58v9 P) (.node (tmpD 11) .nil .nil) .nil))) (.node (g14va P) (.node (o22 P) (.node (o38 P) (.node (g70v11 P) .nil .nil) (.node (tmpD 23) .nil .nil)) (.node (o54 P) (.node (tmpD 7) .nil .nil) .nil)) (.node (g30v9 P) (.node (g46v9 P) (.node (o78 P) .nil .nil) (.node (tmpD 31) .nil .nil)) (.node (g62v11 P) (.node (tmpD 15) .nil .nil) .nil))))))
noncomputable def t23 (P : Params) : BT := (.node (boot_o_0 P) (.node (boot_o_1 P) (.node (o3 P) (.node (boot_o_7 P) (.node (o15 P) (.node (g31v9 P) (.node (g63v11 P) (.node (o127 P) .nil .nil) .nil) (.node (tmpD 16) (.node (o159 P) .nil .nil) .nil)) (.node (g47v9 P) (.node (o79 P) (.node (o143 P) .nil .nil) .nil) (.node (tmpD 32) (.node (g175v23 P) .nil .nil) .nil))) (.node (g23v9 P) (.node (o39 P) (.node (g71v11 P) (.node (o135 P) .nil .nil) .nil) (.node (tmpD 24) (.node (g167v23 P) .nil .nil) .nil)) (.node (g55v9 P) (.node (tmpD 8) (.node (g151v23 P) .nil .nil) .nil) (.node (g119v23 P) .nil .nil)))) (.node (g11va P) (.node (g19v9 P) (.node (g35v9 P) (.node (g67v11 P) (.node (o131 P) .nil .nil) .nil) (.node (tmpD 20) (.node (g163v23 P) .nil .nil) .nil)) (.node (o51 P) (.node (tmpD 4) (.node (o147 P) .nil .nil) .nil) (.node (tmpD 36) .nil .nil))) (.node (o27 P) (.node (g43v9 P) (.node (o75 P) (.node (o139 P) .nil .nil) .nil) (.node (tmpD 28) (.node (o171 P) .nil .nil) .nil)) (.node (o59 P) (.node (tmpD 12) (.node (g155v23 P) .nil .nil) .nil) (.node (o123 P) .nil .nil))))) (.node (boot_o_5 P) (.node (boot_o_9 P) (.node (o17 P) (.node (g33v9 P) (.node (g65v11 P) (.node (g129v23 P) .nil .nil) .nil) (.node (tmpD 18) (.node (o161 P) .nil .nil) .nil)) (.node (o49 P) (.node (tmpD 2) (.node (g145v23 P) .nil .nil) .nil) (.node (tmpD 34) (.node (o177 P) .nil .nil) .nil))) (.node (o25 P) (.node (g41v9 P) (.node (g73v11 P) (.node (o137 P) .nil .nil) .nil) (.node (tmpD 26) (.node (o169 P) .nil .nil) .nil)) (.node (o57 P) (.node (tmpD 10) (.node (o153 P) .nil .nil) .nil) (.node (o121 P) .nil .nil)))) (.node (g13va P) (.node (o21 P) (.node (o37 P) (.node (g69v11 P) (.node (g133v23 P) .nil .nil) .nil) (.node (tmpD 22) (.node (o165 P) .nil .nil) .nil)) (.node (g53v9 P) (.node (tmpD 6) (.node (o149 P) .nil .nil) .nil) (.node (tmpD 38) .nil .nil))) (.node (o29 P) (.node (g45v9 P) (.node (o77 P) (.node (g141v23 P) .nil .nil) .nil) (.node (tmpD 30) (.node (o173 P) .nil .nil) .nil)) (.node (g61v11 P) (.node (tmpD 14) (.node (o157 P) .nil .nil) .nil) (.node (o125 P) .nil .nil)))))) (.node (o2 P) (.node (boot_o_4 P) (.node (boot_o_8 P) (.node (g16v9 P) (.node (g32v9 P) (.node (g64v11 P) (.node (o128 P) .nil .nil) .nil) (.node (tmpD 17) (.node (g160v23 P) .nil .nil) .nil)) (.node (g48v9 P) (.node (tmpD 1) (.node (o144 P) .nil .nil) .nil) (.node (tmpD 33) (.node (o176 P) .nil .nil) .nil))) (.node (o24 P) (.node (g40v9 P) (.node (o72 P) (.node (g136v23 P) .nil .nil) .nil) (.node (tmpD 25) (.node (g168v23 P) .nil .nil) .nil)) (.node (o56 P) (.node (tmpD 9) (.node (o152 P) .nil .nil) .nil) (.node (o120 P) .nil .nil)))) (.node (g12v23 P) (.node (o20 P) (.node (o36 P) (.node (o68 P) (.node (o132 P) .nil .nil) .nil) (.node (tmpD 21) (.node (o164 P) .nil .nil) .nil)) (.node (g52v9 P) (.node (tmpD 5) (.node (o148 P) .nil .nil) .nil) (.node (tmpD 37) .nil .nil))) (.node (o28 P) (.node (g44v9 P) (.node (g76v11 P) (.node (g140v23 P) .nil .nil) .nil) (.node (tmpD 29) (.node (g172v23 P) .nil .nil) .nil)) (.node (o60 P) (.node (tmpD 13) (.node (g156v23 P) .nil .nil) .nil) (.node (o124 P) .nil .nil))))) (.node (boot_o_6 P) (.node (boot_o_10 P) (.node (o18 P) (.node (g34v9 P) (.node (g66v11 P) (.node (o130 P) .nil .nil) .nil) (.node (tmpD 19) (.node (o162 P) .nil .nil) .nil)) (.node (o50 P) (.node (tmpD 3) (.node (g146v23 P) .nil .nil) .nil) (.node (tmpD 35) .nil .nil))) (.node (g26v9 P) (.node (o42 P) (.node (o74 P) (.node (o138 P) .nil .nil) .nil) (.node (tmpD 27) (.node (o170 P) .nil .nil) .nil)) (.node (g58v9 P) (.node (tmpD 11) (.node (o154 P) .nil .nil) .nil) (.node (g122v23 P) .nil .nil)))) (.node (g14va P) (.node (o22 P) (.node (o38 P) (.node (g70v11 P) (.node (o134 P) .nil .nil) .nil) (.node (tmpD 23) (.node (o166 P) .nil .nil) .nil)) (.node (o54 P) (.node (tmpD 7) (.node (g150v23 P) .nil .nil) .nil) (.node (o118 P) .nil .nil))) (.node (g30v9 P) (.node (g46v9 P) (.node (o78 P) (.node (o142 P) .nil .nil) .nil) (.node (tmpD 31) (.node (o174 P) .nil .nil) .nil)) (.node (g62v11 P) (.node (tmpD 15) (.node (o158 P) .nil .nil) .nil) (.node (g126v23 P) .nil .nil)))))))
noncomputable def heap23 (P : Params) : Heap := ⟨⟨(boot_o_0 P) :: (boot_o_1 P) :: (o2 P) :: (o3 P) :: (boot_o_4 P) :: (boot_o_5 P) :: (boot_o_6 P) :: (boot_o_7 P) :: (boot_o_8 P) :: (boot_o_9 P) :: (boot_o_10 P) :: (g11va P) :: (g12v23 P) :: (g13va P) :: (g14va P) :: (o15 P) :: (g16v9 P) :: (o17 P) :: (o18 P) :: (g19v9 P) :: (o20 P) :: (o21 P) :: (o22 P) :: (g23v9 P) :: (o24 P) :: (o25 P) :: (g26v9 P) :: (o27 P) :: (o28 P) :: (o29 P) :: (g30v9 P) :: (g31v9 P) :: (g32v9 P) :: (g33v9 P) :: (g34v9 P) :: (g35v9 P) :: (o36 P) :: (o37 P) :: (o38 P) :: (o39 P) :: (g40v9 P) :: (g41v9 P) :: (o42 P) :: (g43v9 P) :: (g44v9 P) :: (g45v9 P) :: (g46v9 P) :: (g47v9 P) :: (g48v9 P) :: (o49 P) :: (o50 P) :: (o51 P) :: (g52v9 P) :: (g53v9 P) :: (o54 P) :: (g55v9 P) :: (o56 P) :: (o57 P) :: (g58v9 P) :: (o59 P) :: (o60 P) :: (g61v11 P) :: (g62v11 P) :: (g63v11 P) :: (g64v11 P) :: (g65v11 P) :: (g66v11 P) :: (g67v11 P) :: (o68 P) :: (g69v11 P) :: (g70v11 P) :: (g71v11 P) :: (o72 P) :: (g73v11 P) :: (o74 P) :: (o75 P) :: (g76v11 P) :: (o77 P) :: (o78 P) :: (o79 P) :: (tmpD 1) :: (tmpD 2) :: (tmpD 3) :: (tmpD 4) :: (tmpD 5) :: (tmpD 6) :: (tmpD 7) :: (tmpD 8) :: (tmpD 9) :: (tmpD 10) :: (tmpD 11) :: (tmpD 12) :: (tmpD 13) :: (tmpD 14) :: (tmpD 15) :: (tmpD 16) :: (tmpD 17) :: (tmpD 18) :: (tmpD 19) :: (tmpD 20) :: (tmpD 21) :: (tmpD 22) :: (tmpD 23) :: (tmpD 24) :: (tmpD 25) :: (tmpD 26) :: (tmpD 27) :: (tmpD 28) :: (tmpD 29) :: (tmpD 30) :: (tmpD 31) :: (tmpD 32) :: (tmpD 33) :: (tmpD 34) :: (tmpD 35) :: (tmpD 36) :: (tmpD 37) :: (tmpD 38) :: (o118 P) :: (g119v23 P) :: (o120 P) :: (o121 P) :: (g122v23 P) :: (o123 P) :: (o124 P) :: (o125 P) :: (g126v23 P) :: (o127 P) :: (o128 P) :: (g129v23 P) :: (o130 P) :: (o131 P) :: (o132 P) :: (g133v23 P) :: (o134 P) :: (o135 P) :: (g136v23 P) :: (o137 P) :: (o138 P) :: (o139 P) :: (g140v23 P) :: (g141v23 P) :: (o142 P) :: (o143 P) :: (o144 P) :: (g145v23 P) :: (g146v23 P) :: (o147 P) :: (o148 P) :: (o149 P) :: (g150v23 P) :: (g151v23 P) :: (o152 P) :: (o153 P) :: (o154 P) :: (g155v23 P) :: (g156v23 P) :: (o157 P) :: (o158 P) :: (o159 P) :: (g160v23 P) :: (o161 P) :: (o162 P) :: (g163v23 P) :: (o164 P) :: (o165 P) :: (o166 P) :: (g167v23 P) :: (g168v23 P) :: (o169 P) :: (o170 P) :: (o171 P) :: (g172v23 P) :: (o173 P) :: (o174 P) :: (g175v23 P) :: (o176 P) :: (o177 P) :: []⟩, {}⟩

noncomputable def env0 : Env := { scope := pw.main.scope, locals := mainNs, globals := mainNs, cells := [], code := .ref 13, frame := some 14 }
noncomputable def body0 : List Stmt := behindTheImports pw
noncomputable def stA : List Stmt := body0.take 9
noncomputable def stB9 : List Stmt := (body0.drop 9).take 2
noncomputable def stD : List Stmt := (body0.drop 11).take 1
noncomputable def stC : List Stmt := body0.drop 12
noncomputable def code0 : Code := .body body0 env0
noncomputable def q0 : Pos := ⟨0, 0, 0, 0⟩
end Mine
end
section
open PySem PySem.W PyProof.Rows
namespace Mine
set_option maxHeartbeats 0 in
theorem hA (w : World) (os : OsState) : segRunT treeTable pw w 11 (some (.ref 6)) 1 600 ⟨ta w.params, 15, {}, #[], {}, 187, os⟩ (piecesOf stA env0 code0 q0 [topFrame q0]) = some (.next, ⟨t9 w.params, 61, {}, #[], {}, 260, os⟩, code0, ⟨43, 0, 43, 8⟩) := by
  unfold piecesOf
  rw [PySem.W.Fast.te10110043849684766642, PySem.W.Fast.te14364793385576792824, PySem.W.Fast.te12563942051412417395]
  kernel_rfl
end Mine
end
section
open PySem PySem.W PyProof.Rows
namespace Mine
noncomputable def goalB (w : World) : Prop := ∀ os : OsState, segRunT treeTable pw w 11 (some (.ref 6)) 1 1100 ⟨t9 w.params, 61, {}, #[], {}, 260, os⟩ (piecesOf stB9 env0 code0 ⟨43, 0, 43, 8⟩ [topFrame q0]) = some (.next, ⟨t11 w.params, 79, {}, #[], {}, 327, os⟩, code0, ⟨45, 0, 46, 30⟩)
set_option maxHeartbeats 0 in
theorem hB0 (w : World) : goalB ((w.withFollow "special-get-raises" false).withFollow "set-order" false) := by
  intro os
  unfold piecesOf
  rw [PySem.W.Fast.te10110043849684766642, PySem.W.Fast.te14364793385576792824, PySem.W.Fast.te12563942051412417395]
  kernel_rfl
set_option maxHeartbeats 0 in
theorem hB1 (w : World) : goalB ((w.withFollow "special-get-raises" true).withFollow "set-order" false) := by
  intro os
  unfold piecesOf
  rw [PySem.W.Fast.te10110043849684766642, PySem.W.Fast.te14364793385576792824, PySem.W.Fast.te12563942051412417395]
  kernel_rfl
set_option maxHeartbeats 0 in
theorem hB2 (w : World) : goalB ((w.withFollow "special-get-raises" false).withFollow "set-order" true) := by
  intro os
  unfold piecesOf
  rw [PySem.W.Fast.te10110043849684766642, PySem.W.Fast.te14364793385576792824, PySem.W.Fast.te12563942051412417395]
  kernel_rfl
set_option maxHeartbeats 0 in
theorem hB3 (w : World) : goalB ((w.withFollow "special-get-raises" true).withFollow "set-order" true) := by
  intro os
  unfold piecesOf
  rw [PySem.W.Fast.te10110043849684766642, PySem.W.Fast.te14364793385576792824, PySem.W.Fast.te12563942051412417395]
  kernel_rfl
theorem hB (w : World) : goalB w := by
  refine byRow2 "set-order" (P := goalB) ?_ ?_ w
  · exact byRow2 "special-get-raises" (P := fun w => goalB (w.withFollow "set-order" false)) hB0 hB1
  · exact byRow2 "special-get-raises" (P := fun w => goalB (w.withFollow "set-order" true)) hB2 hB3
end Mine
end
section
open PySem PySem.W PyProof.Rows
namespace Mine
set_option maxHeartbeats 0 in
theorem hC (w : World) (os : OsState) : segRunT treeTable pw w 11 (some (.ref 6)) 1 600 ⟨t12 w.params, 118, {}, #[], {}, 2278, os⟩ (piecesOf stC env0 code0 ⟨47, 0, 47, 13⟩ [topFrame q0]) = some (.next, ⟨t23 w.params, 178, {}, #[], {}, 2361, os⟩, code0, ⟨141, 0, 143, 48⟩) := by
  unfold piecesOf
  rw [PySem.W.Fast.te10110043849684766642, PySem.W.Fast.te14364793385576792824, PySem.W.Fast.te12563942051412417395]
  kernel_rfl
set_option maxHeartbeats 0 in
theorem hPre (w : World) (os : OsState) : topGo treeTable pw w 11 (some (.ref 6)) 12 ⟨boot_heap w.params, #[], boot_drawn, boot_toks, os⟩ (topStub pw) = some (⟨heapa w.params, #[], {}, 187, os⟩, ⟨denote treeTable code0, code0, q0, [topFrame q0]⟩) := by
  kernel_rfl
set_option maxHeartbeats 0 in
theorem hBlock (w : World) (os : OsState) : segRun treeTable pw w 11 (some (.ref 6)) 1 1 ⟨heapa w.params, #[], {}, 187, os⟩ (blockOf body0 env0 code0 q0 [topFrame q0]) = some (.next, SharedT.abs ⟨ta w.params, 15, {}, #[], {}, 187, os⟩, code0, q0) := by
  kernel_rfl
set_option maxHeartbeats 0 in
theorem hFin (w : World) (os : OsState) : topRun treeTable pw w 11 (some (.ref 6)) 2 (SharedT.abs ⟨t23 w.params, 178, {}, #[], {}, 2361, os⟩) ⟨doneF .next, code0, ⟨141, 0, 143, 48⟩, [topFrame q0]⟩ = some ⟨heap23 w.params, #[], {}, 2361, os⟩ := by
  kernel_rfl
theorem hSize (w : World) : ((boot_heap w.params).isNs mainGlobals && (#[] : Array GenState).size == 0, (boot_heap w.params).objs.size, (boot_heap w.params).nsMap mainGlobals "__annotations__") = (true, 11, some (.ref 6)) := by
  kernel_rfl
end Mine
end
section
open PySem PySem.W PyProof.Rows
namespace Mine
noncomputable def keep0 : List Nat := [1, 2, 3, 5, 6, 7, 10, 12, 14, 15, 16, 17, 18, 19, 20, 21, 22]
noncomputable def q1 : Program := view pw keep0
noncomputable def loose1 : List Str := [Str.ofString "b1_set", Str.ofString "b3_exceptions"]
noncomputable def Xt1 (s : Shared) : Bool := xlAt q1 [] s && recOk (RowW.records PySem.Challenge.rw_wk0033_01.row.toRowW) s
noncomputable def mods1 : List Str := importedModules pw.main.body
set_option maxHeartbeats 0 in
theorem look1 (w : World) (os : OsState) : (staticsOk mods1 (boot_heap w.params) (heap23 w.params) && namesBound pw (heap23 w.params) && gensDone ⟨heap23 w.params, #[], {}, 2361, os⟩ && laidKept (boot_heap w.params) (heap23 w.params)) = true := by
  kernel_rfl
set_option maxHeartbeats 0 in
theorem look2 (w : World) (os : OsState) : openSeen q1 loose1 mods1 Xt1 true ⟨heap23 w.params, #[], {}, 2361, os⟩ = openGood q1 loose1 := by
  kernel_rfl
end Mine
end
section
open PySem PySem.W PyProof.Rows
namespace Mine
/-! The dict of the top, by a calculus on runs. -/
noncomputable abbrev Th (x : Sem Fin) (p : Pos) : Thread := ⟨x, code0, p, [topFrame q0]⟩
noncomputable def Go (w : World) (n : Nat) (s : Shared) (t : Thread) : Option (Shared × Thread) := segGo treeTable pw w 11 (some (.ref 6)) 1 n s t
noncomputable def Ev {α : Type} (w : World) (n : Nat) (t : Sem α) (s : Shared) (p : Pos) (a : α) (s' : Shared) (p' : Pos) : Prop :=
  ∀ (K : α → Sem Fin) (H : Value → Sem Fin) (gd : Bool → Bool) (lv : List Value → List Value), Go w n s (Th (t.wrap K H gd lv) p) = some (s', Th (K a) p')
section
variable {α β : Type} {w : World}
theorem go_add : ∀ {n k : Nat} {s s1 : Shared} {t t1 : Thread}, Go w n s t = some (s1, t1) → Go w (n + k) s t = Go w k s1 t1
  | 0, k, s, s1, t, t1, h => by
    obtain ⟨rfl, rfl⟩ : s = s1 ∧ t = t1 := by simpa [Go, segGo] using h
    rw [Nat.zero_add]
  | n + 1, k, s, s1, t, t1, h => by
    rw [show n + 1 + k = n + k + 1 by omega]
    show (match endAt 1 t with
      | some _ => none
      | none => match stepOk 11 (some (.ref 6)) t with
        | false => none
        | true => match step (denote treeTable) pw w s t with
          | .go s' t' => Go w (n + k) s' t'
          | .halt _ _ => none) = Go w k s1 t1
    replace h : (match endAt 1 t with
      | some _ => none
      | none => match stepOk 11 (some (.ref 6)) t with
        | false => none
        | true => match step (denote treeTable) pw w s t with
          | .go s' t' => Go w n s' t'
          | .halt _ _ => none) = some (s1, t1) := h
    cases he : endAt 1 t with
    | some f => rw [he] at h; cases h
    | none =>
      rw [he] at h
      cases hk : stepOk 11 (some (.ref 6)) t with
      | false => rw [hk] at h; cases h
      | true =>
        rw [hk] at h
        cases hs : step (denote treeTable) pw w s t with
        | halt o s₂ => rw [hs] at h; cases h
        | go s₂ t₂ => rw [hs] at h; exact go_add (n := n) h
theorem Ev.pure {a : α} {s : Shared} {p : Pos} : Ev w 0 (Sem.pure a) s p a s p := fun _ _ _ _ => rfl
theorem Ev.pure' {a : α} {s : Shared} {p : Pos} : Ev w 0 (Pure.pure a : Sem α) s p a s p := fun _ _ _ _ => rfl
theorem Ev.bind' {m : Sem α} {f : α → Sem β} {n k : Nat} {s s1 s2 : Shared} {p p1 p2 : Pos} {a : α} {b : β} (h1 : Ev w n m s p a s1 p1) (h2 : Ev w k (f a) s1 p1 b s2 p2) : Ev w (n + k) (m.bind f) s p b s2 p2 := by
  intro K H gd lv
  rw [Sem.bind_eq_wrap, Sem.wrap_wrap, go_add (h1 _ _ _ _)]
  exact h2 K H gd lv
theorem Ev.bind {m : Sem α} {f : α → Sem β} {n k : Nat} {s s1 s2 : Shared} {p p1 p2 : Pos} {a : α} {b : β} (h1 : Ev w n m s p a s1 p1) (h2 : Ev w k (f a) s1 p1 b s2 p2) : Ev w (n + k) (m >>= f) s p b s2 p2 := Ev.bind' h1 h2
theorem Ev.keep {m : Sem α} {n : Nat} {s s1 : Shared} {p p1 : Pos} {a : α} {vs : List Value} (h : Ev w n m s p a s1 p1) : Ev w n (m.keep vs) s p a s1 p1 := by
  intro K H gd lv
  rw [Sem.keep_eq_wrap, Sem.wrap_wrap]
  exact h _ _ _ _
theorem Ev.holding {m : Sem α} {n : Nat} {s s1 : Shared} {p p1 : Pos} {a : α} {vs : List Value} (h : Ev w n m s p a s1 p1) : Ev w n (holding vs m) s p a s1 p1 := by
  unfold PySem.holding
  split
  · exact h
  · exact h.keep
theorem Ev.onRaise {m : Sem α} {n : Nat} {s s1 : Shared} {p p1 : Pos} {a : α} {k : Value → Sem Unit} (h : Ev w n m s p a s1 p1) : Ev w n (m.onRaise k) s p a s1 p1 := by
  intro K H gd lv
  rw [Sem.onRaise_eq_wrap, Sem.wrap_wrap]
  exact h _ _ _ _
theorem Ev.fresh {s : Shared} {p : Pos} : Ev w 1 PySem.fresh s p s.toks { s with toks := s.toks + 1 } p := by
  intro K H gd lv; obtain ⟨h, g, d, t, o⟩ := s; rfl
theorem Ev.rule {s : Shared} {p : Pos} {x : String} : Ev w 1 (PySem.rule x) s p () s p := by
  intro K H gd lv; obtain ⟨h, g, d, t, o⟩ := s; rfl
theorem Ev.at {s : Shared} {p p' : Pos} : Ev w 1 (standAt p') s p () s p' := by
  intro K H gd lv; obtain ⟨h, g, d, t, o⟩ := s; rfl
theorem Ev.point {s : Shared} {p : Pos} : Ev w 1 PySem.point s p () s p := by
  intro K H gd lv; obtain ⟨h, g, d, t, o⟩ := s; rfl
theorem Ev.ask {s : Shared} {p : Pos} : Ev w 1 PySem.ask s p ⟨pw, w.params⟩ s p := by
  intro K H gd lv; obtain ⟨h, g, d, t, o⟩ := s; rfl
theorem Ev.alloc {s : Shared} {p : Pos} {o : Obj} : Ev w 1 (PySem.alloc o) s p s.heap.objs.size { s with heap := s.heap.push o } p := by
  intro K H gd lv; obtain ⟨h, g, d, t, o⟩ := s; rfl
theorem Ev.load {s : Shared} {p : Pos} {a : Addr} {part : Option Value} {o : Obj} (h : s.heap.get? a = some o) : Ev w 1 (Sem.load a part Sem.pure) s p o s p := by
  intro K H gd lv
  obtain ⟨hp, g, d, t, os⟩ := s
  have : step (denote treeTable) pw w ⟨hp, g, d, t, os⟩ (Th ((Sem.load a part Sem.pure).wrap K H gd lv) p) = .go ⟨hp, g, d, t, os⟩ (Th (K o) p) := by
    have h' : hp.get? a = some o := h
    simp only [Th, Sem.wrap, step, h']
  show (match step (denote treeTable) pw w ⟨hp, g, d, t, os⟩ (Th ((Sem.load a part Sem.pure).wrap K H gd lv) p) with | .go s' t' => some (s', t') | .halt _ _ => none) = _
  rw [this]
theorem Ev.update {s : Shared} {p : Pos} {a : Addr} {part : Option Value} {f : Obj → Obj} {o : Obj} (h : s.heap.get? a = some o) (ha : 11 ≤ a) : Ev w 1 (Sem.update a part f Sem.pure) s p () { s with heap := s.heap.update a f } p := by
  intro K H gd lv
  obtain ⟨hp, g, d, t, os⟩ := s
  have hs : step (denote treeTable) pw w ⟨hp, g, d, t, os⟩ (Th ((Sem.update a part f Sem.pure).wrap K H gd lv) p) = .go ⟨hp.update a f, g, d, t, os⟩ (Th (K ()) p) := by
    show (if (hp.get? a).isSome = true then _ else _) = _
    rw [show hp.get? a = some o from h]
    rfl
  have hk : stepOk 11 (some (.ref 6)) (Th ((Sem.update a part f Sem.pure).wrap K H gd lv) p) = true := by
    show (true && (Nat.ble 11 a || a == mainNs || a == cStatics || some (Value.ref 6) == some (.ref a))) = true
    rw [Nat.ble_eq_true_of_le ha]; rfl
  show (match stepOk 11 (some (.ref 6)) (Th ((Sem.update a part f Sem.pure).wrap K H gd lv) p) with | false => none | true => (match step (denote treeTable) pw w ⟨hp, g, d, t, os⟩ (Th ((Sem.update a part f Sem.pure).wrap K H gd lv) p) with | .go s' t' => some (s', t') | .halt _ _ => none)) = _
  rw [hk, hs]
end
end Mine
end
section
open PySem PySem.W PyProof.Rows
namespace Mine
noncomputable def goalHash (w : World) : Prop := ∀ (k : Int) (t : Tok) (s : Shared) (p : Pos) (K : Int → Sem Fin) (H : Value → Sem Fin) (gd : Bool → Bool) (lv : List Value → List Value),
  segGo treeTable pw w 11 (some (.ref 6)) 1 5 s (Th ((pyHash (.int k t)).wrap K H gd lv) p) = some (⟨s.heap, s.gens, s.drawn, s.toks + 1, s.os⟩, Th ((pyHashByItsType.reduced (rawHash k)).wrap K H gd lv) p)
set_option maxHeartbeats 0 in
theorem go_hash (w : World) : goalHash w := by
  refine byRow2 "special-get-raises" (P := goalHash) ?_ ?_ w
  · intro w k t s p K H gd lv
    obtain ⟨h, g, d, tk, o⟩ := s
    kernel_rfl
  · intro w k t s p K H gd lv
    obtain ⟨h, g, d, tk, o⟩ := s
    kernel_rfl
theorem reduced_raw (k : Int) : pyHashByItsType.reduced (rawHash k) = Sem.pure (hashInt k) := by
  have hr := rawHash_range k
  unfold pyHashByItsType.reduced
  rw [if_pos (by rw [decide_eq_true hr.1, decide_eq_true hr.2]; rfl)]
  rfl
theorem ev_hash {w : World} {k : Int} {t : Tok} {s : Shared} {p : Pos} : Ev w 5 (pyHash (.int k t)) s p (hashInt k) { s with toks := s.toks + 1 } p := by
  intro K H gd lv
  have h := go_hash w k t s p K H gd lv
  rw [reduced_raw] at h
  exact h
end Mine
end
section
open PySem PySem.W PyProof.Rows
namespace Mine
noncomputable abbrev dOf (es : List DictEntry) : Obj := ⟨Value.type "dict", none, .dict es.toArray es.length, #[]⟩
noncomputable def SS (base : List Obj) (ds : List (List DictEntry)) (tk : Nat) (os : OsState) : Shared := ⟨⟨(base ++ ds.map dOf).toArray, {}⟩, #[], {}, tk, os⟩
section
variable {w : World} {base : List Obj} {ds : List (List DictEntry)} {tk : Nat} {os : OsState} {p : Pos} {j n : Nat} {es : List DictEntry}
theorem ss_get (hb : base.length = n) (hj : ds[j]? = some es) : (SS base ds tk os).heap.get? (n + j) = some (dOf es) := by
  unfold Heap.get?
  have : (SS base ds tk os).heap.objs[n + j]? = some (dOf es) := by
    show ((base ++ ds.map dOf).toArray)[n + j]? = _
    rw [List.getElem?_toArray, List.getElem?_append_right (by omega), hb, Nat.add_sub_cancel_left, List.getElem?_map, hj]
    rfl
  rw [this]
theorem ss_push (tk : Nat) : (SS base ds tk os).heap.push (dOf []) = (SS base (ds ++ [[]]) tk os).heap := by
  have key : (base ++ ds.map dOf).toArray.push (dOf []) = (base ++ (ds ++ [[]]).map dOf).toArray := by
    rw [List.push_toArray, List.map_append, List.append_assoc]; rfl
  show Heap.mk _ _ = Heap.mk _ _
  exact congrArg (Heap.mk · {}) key
theorem ss_size (hb : base.length = n) : (SS base ds tk os).heap.objs.size = n + ds.length := by
  show ((base ++ ds.map dOf).toArray).size = _
  rw [List.size_toArray, List.length_append, List.length_map, hb]
theorem ss_update (hb : base.length = n) (hj : ds[j]? = some es) (f : Obj → Obj) (es' : List DictEntry) (hf : f (dOf es) = dOf es') : (SS base ds tk os).heap.update (n + j) f = (SS base (ds.set j es') tk os).heap := by
  have hl : j < ds.length := (List.getElem?_eq_some_iff.mp hj).1
  have key : (base ++ ds.map dOf).toArray.modify (n + j) f = (base ++ (ds.set j es').map dOf).toArray := by
    apply Array.ext_getElem?
    intro i
    rw [Array.getElem?_modify, List.getElem?_toArray, List.getElem?_toArray]
    by_cases hi : n + j = i
    · subst hi
      rw [if_pos rfl, List.getElem?_append_right (by omega), List.getElem?_append_right (by omega), hb, Nat.add_sub_cancel_left, List.getElem?_map, List.getElem?_map, hj, List.getElem?_set_self hl]
      show some (f (dOf es)) = _
      rw [hf]; rfl
    · rw [if_neg hi]
      by_cases h2 : i < base.length
      · rw [List.getElem?_append_left h2, List.getElem?_append_left h2]
      · have h3 : base.length ≤ i := Nat.le_of_not_lt h2
        have h4 : j ≠ i - base.length := by omega
        rw [List.getElem?_append_right h3, List.getElem?_append_right h3, List.getElem?_map, List.getElem?_map, List.getElem?_set_ne h4]
  show Heap.mk _ _ = Heap.mk _ _
  exact congrArg (Heap.mk · {}) key
theorem places_nil {es : List DictEntry} {h : Int} (hn : ∀ e ∈ es, e.hash ≠ h) : placesWithHash es.toArray.size (fun i => es.toArray[i]?.map (·.hash)) h = [] := by
  unfold placesWithHash
  rw [List.filter_eq_nil_iff]
  intro i hi
  show ¬ ((es.toArray[i]?.map (·.hash)) == some h) = true
  rw [List.getElem?_toArray]
  cases he : es[i]? with
  | none => simp
  | some e =>
    have := hn e (List.mem_of_getElem? he)
    simpa using this
/-- a fresh int key: it is not found -/
theorem ev_find {d : Addr} {k : Int} {t : Tok} {s : Shared} (hd : s.heap.get? d = some (dOf es)) {h : Int} (hn : ∀ e ∈ es, e.hash ≠ h) : Ev w 1 (dictFind d (.int k t) h) s p none s p := by
  unfold dictFind
  refine Ev.holding ?_
  refine Ev.bind (n := 1) (k := 0) (a := es.toArray) (s1 := s) (p1 := p) ?_ ?_
  · unfold dictEntries
    exact Ev.bind (n := 1) (k := 0) (f := fun o => (match o.data with | .dict es _ => Pure.pure es | _ => unsupported "internal:not-a-dict" : Sem (Array DictEntry))) (Ev.load hd) (Ev.pure' (a := es.toArray))
  · dsimp only
    rw [places_nil hn]
    exact Ev.pure'
/-- the keys' update: an entry at the end -/
theorem ev_keys (hb : base.length = n) (hn : 11 ≤ n) (hj : ds[j]? = some es) (hz : es.length < 1000) (e : DictEntry) (part : Option Value) : Ev w 3 (updateDictKeys (n + j) (·.push e) part) (SS base ds tk os) p () (SS base (ds.set j (es ++ [e])) tk os) p := by
  unfold updateDictKeys
  refine Ev.bind (n := 1) (k := 2) (Ev.load (ss_get hb hj)) ?_
  dsimp only
  have hu := Ev.update (w := w) (p := p) (part := part) (f := Obj.mapDictKeys (·.push e)) (ss_get (tk := tk) (os := os) hb hj) (Nat.le_trans hn (Nat.le_add_right n j))
  rw [ss_update hb hj _ (es ++ [e]) (by show Obj.mk _ _ _ _ = Obj.mk _ _ _ _; simp [List.push_toArray])] at hu
  refine Ev.bind (n := 1) (k := 1) hu ?_
  have hl : j < ds.length := (List.getElem?_eq_some_iff.mp hj).1
  have hg : (SS base (ds.set j (es ++ [e])) tk os).heap.get? (n + j) = some (dOf (es ++ [e])) := ss_get hb (List.getElem?_set_self hl)
  unfold lookBehind
  refine Ev.bind (n := 1) (k := 0) (Ev.load hg) ?_
  have hp : (dOf (es ++ [e])).data.pastItsLine = none := by
    show (if (es ++ [e]).toArray.size > sizeLine + 1 then _ else _) = _
    rw [if_neg]
    have : sizeLine = 16777216 := by decide
    rw [List.size_toArray, List.length_append, List.length_singleton]
    omega
  dsimp only
  rw [hp]
  exact Ev.pure'
end
end Mine
end
section
open PySem PySem.W PyProof.Rows
namespace Mine
section
variable {w : World} {base : List Obj} {ds : List (List DictEntry)} {tk : Nat} {os : OsState} {p : Pos} {j n : Nat} {es : List DictEntry}
/-- an item put under a fresh int key -/
theorem ev_set (hb : base.length = n) (hn : 11 ≤ n) (hj : ds[j]? = some es) (hz : es.length < 1000) {k : Int} {t u : Tok} {v : Str} (hk : ∀ e ∈ es, e.hash ≠ hashInt k) :
    Ev w 10 (dictSet (n + j) (.int k t) (.str v u)) (SS base ds tk os) p () (SS base (ds.set j (es ++ [⟨hashInt k, .int k t, .str v u⟩])) (tk + 1) os) p := by
  unfold dictSet
  refine Ev.holding ?_
  refine Ev.bind (n := 5) (k := 5) ev_hash ?_
  show Ev w 5 (dictSetHashed (n + j) (.int k t) (hashInt k) (.str v u)) (SS base ds (tk + 1) os) p _ _ _
  unfold dictSetHashed
  refine Ev.holding ?_
  refine Ev.bind (n := 1) (k := 4) (ev_find (ss_get hb hj) hk) ?_
  exact Ev.bind (n := 1) (k := 3) Ev.rule (ev_keys hb hn hj hz _ _)
/-- the two texts of a pair of the display, as they are asked -/
noncomputable abbrev semK (k : Int) : Sem Value := mkInt k
noncomputable abbrev semV (v : Str) (q : Pos) : Sem Value := do let x ← mkText v; standAt q; pure x
theorem ev_semK {k : Int} : Ev w 1 (semK k) (SS base ds tk os) p (.int k tk) (SS base ds (tk + 1) os) p :=
  Ev.bind (n := 1) (k := 0) Ev.fresh Ev.pure'
theorem ev_semV {v : Str} {q : Pos} : Ev w 2 (semV v q) (SS base ds tk os) p (.str v tk) (SS base ds (tk + 1) os) q :=
  Ev.bind (n := 1) (k := 1) (Ev.bind (n := 1) (k := 0) Ev.fresh Ev.pure') (Ev.bind (n := 1) (k := 0) Ev.at Ev.pure')
noncomputable def chunkE (t : Nat) : List (Int × Str) → List DictEntry
  | [] => []
  | (k, v) :: r => ⟨hashInt k, .int k t, .str v (t + 1)⟩ :: chunkE (t + 3) r
theorem chunkE_length : ∀ (l : List (Int × Str)) (t : Nat), (chunkE t l).length = l.length
  | [], _ => rfl
  | (k, v) :: r, t => by rw [chunkE, List.length_cons, chunkE_length r, List.length_cons]
noncomputable def pairsE (q : Pos) (l : List (Int × Str)) : List (Sem Value × Sem Value) := l.map fun x => (semK x.1, semV x.2 q)
noncomputable def Fresh (es : List DictEntry) : List (Int × Str) → Prop
  | [] => True
  | (k, v) :: r => (∀ e ∈ es, e.hash ≠ hashInt k) ∧ (∀ x ∈ r, hashInt x.1 ≠ hashInt k) ∧ Fresh es r
theorem Fresh.push {es : List DictEntry} {k : Int} {a b : Value} : ∀ {r : List (Int × Str)}, (∀ x ∈ r, hashInt x.1 ≠ hashInt k) → Fresh es r → Fresh (es ++ [⟨hashInt k, a, b⟩]) r
  | [], _, _ => trivial
  | (k', v) :: r, h, ⟨h1, h2, h3⟩ => by
    refine ⟨fun e he => ?_, h2, Fresh.push (fun x hx => h x (.tail _ hx)) h3⟩
    rcases List.mem_append.mp he with he | he
    · exact h1 e he
    · rw [List.mem_singleton] at he
      subst he
      exact fun q => h (k', v) (.head _) q.symm
/-- the loop of a long run of the display -/
theorem ev_long (hb : base.length = n) (hn : 11 ≤ n) (q : Pos) : ∀ (l : List (Int × Str)) (ds : List (List DictEntry)) (es : List DictEntry) (tk : Nat), ds[j]? = some es → es.length + l.length < 1000 → Fresh es l →
    Ev w (13 * l.length) (forIn (m := Sem) (pairsE q l) PUnit.unit fun x _ => match x with | (k, v) => do
        let kv ← k
        let vv ← holding [kv] v
        holding [kv, vv] (dictSet (n + j) kv vv)
        pure (ForInStep.yield PUnit.unit)) (SS base ds tk os) q PUnit.unit (SS base (ds.set j (es ++ chunkE tk l)) (tk + 3 * l.length) os) q
  | [], ds, es, tk, hj, _, _ => by
    have hl := (List.getElem?_eq_some_iff.mp hj)
    have : ds.set j (es ++ chunkE tk []) = ds := by
      rw [chunkE, List.append_nil, ← hl.2, List.set_getElem_self]
    rw [this]
    exact Ev.pure'
  | (k, v) :: r, ds, es, tk, hj, hz, hf => by
    have hl : j < ds.length := (List.getElem?_eq_some_iff.mp hj).1
    have ih := ev_long hb hn q r (ds.set j (es ++ [⟨hashInt k, .int k tk, .str v (tk + 1)⟩])) _ (tk + 3) (List.getElem?_set_self hl)
      (by rw [List.length_append, List.length_singleton]; rw [List.length_cons] at hz; omega) (Fresh.push hf.2.1 hf.2.2)
    rw [List.set_set, List.append_assoc] at ih
    have e1 : 13 * ((k, v) :: r).length = 13 + 13 * r.length := by rw [List.length_cons]; omega
    have e2 : tk + 3 * ((k, v) :: r).length = tk + 3 + 3 * r.length := by rw [List.length_cons]; omega
    rw [e1, e2]
    show Ev w _ (forIn (m := Sem) ((semK k, semV v q) :: pairsE q r) PUnit.unit _) _ _ _ _ _
    rw [List.forIn_cons]
    refine Ev.bind (n := 13) (k := 13 * r.length) (a := ForInStep.yield PUnit.unit) (s1 := SS base (ds.set j (es ++ [⟨hashInt k, .int k tk, .str v (tk + 1)⟩])) (tk + 3) os) (p1 := q) ?_ ih
    refine Ev.bind (n := 1) (k := 12) ev_semK ?_
    refine Ev.bind (n := 2) (k := 10) (Ev.holding ev_semV) ?_
    exact Ev.bind (n := 10) (k := 0) (Ev.holding (ev_set hb hn hj (by omega) hf.1)) Ev.pure'
end
end Mine
end
section
open PySem PySem.W PyProof.Rows
namespace Mine
section
variable {w : World} {base : List Obj} {ds : List (List DictEntry)} {tk : Nat} {os : OsState} {p : Pos} {j n : Nat} {es : List DictEntry}
theorem ev_new (hb : base.length = n) : Ev w 1 (PySem.alloc { cls := .type "dict", data := .dict #[] }) (SS base ds tk os) p (n + ds.length) (SS base (ds ++ [[]]) tk os) p := by
  have h := Ev.alloc (w := w) (s := SS base ds tk os) (p := p) (o := dOf [])
  rw [ss_push, ss_size hb] at h
  exact h
theorem set_last {α : Type} (ds : List α) (x y : α) : (ds ++ [x]).set ds.length y = ds ++ [y] := by simp
theorem pairsE_length (q : Pos) (l : List (Int × Str)) : (pairsE q l).length = l.length := List.length_map ..
theorem ev_sub17 (hb : base.length = n) (hn : 11 ≤ n) (q : Pos) {l : List (Int × Str)} (hl : l.length = 17) (hf : Fresh [] l) :
    Ev w 223 (subDict (pairsE q l)) (SS base ds tk os) q (n + ds.length) (SS base (ds ++ [chunkE tk l]) (tk + 51) os) q := by
  unfold subDict
  refine Ev.bind (n := 1) (k := 222) (ev_new hb) ?_
  refine Ev.bind (n := 222) (k := 0) (a := ()) (s1 := SS base (ds ++ [chunkE tk l]) (tk + 51) os) (p1 := q) (Ev.holding ?_) Ev.pure'
  rw [if_neg (by rw [pairsE_length, hl]; decide)]
  refine Ev.bind (n := 1) (k := 221) Ev.rule ?_
  refine Ev.bind (n := 221) (k := 0) (a := PUnit.unit) (s1 := SS base (ds ++ [chunkE tk l]) (tk + 51) os) (p1 := q) ?_ Ev.pure'
  have h := ev_long (w := w) (os := os) (j := ds.length) hb hn q l (ds ++ [[]]) [] tk (by rw [List.getElem?_append_right (Nat.le_refl _), Nat.sub_self]; rfl) (by rw [hl]; decide) hf
  rw [hl, set_last, List.nil_append] at h
  exact h
noncomputable def shortE (t : Nat) : List (Int × Str) → List DictEntry
  | [] => []
  | (k, v) :: r => ⟨hashInt k, .int k t, .str v (t + 1)⟩ :: shortE (t + 2) r
noncomputable def valsE (t : Nat) : List (Int × Str) → List (Value × Value)
  | [] => []
  | (k, v) :: r => (.int k t, .str v (t + 1)) :: valsE (t + 2) r
theorem ev_pairs (q : Pos) : ∀ (l : List (Int × Str)) (tk : Nat), Ev w (3 * l.length) (evalPairs (pairsE q l)) (SS base ds tk os) q (valsE tk l) (SS base ds (tk + 2 * l.length) os) q
  | [], tk => Ev.pure'
  | (k, v) :: r, tk => by
    have ih := ev_pairs q r (tk + 2)
    rw [show 3 * ((k, v) :: r).length = 1 + (2 + (3 * r.length + 0)) by rw [List.length_cons]; omega, show tk + 2 * ((k, v) :: r).length = tk + 2 + 2 * r.length by rw [List.length_cons]; omega]
    show Ev w _ (evalPairs ((semK k, semV v q) :: pairsE q r)) _ _ _ _ _
    unfold evalPairs
    refine Ev.bind ev_semK ?_
    refine Ev.bind (Ev.holding ev_semV) ?_
    exact Ev.bind (Ev.holding ih) Ev.pure'
theorem ev_short (hb : base.length = n) (hn : 11 ≤ n) (q : Pos) : ∀ (l : List (Int × Str)) (t0 : Nat) (ds : List (List DictEntry)) (es : List DictEntry) (tk : Nat), ds[j]? = some es → es.length + l.length < 1000 → Fresh es l →
    Ev w (10 * l.length) (forIn (m := Sem) (valsE t0 l) PUnit.unit fun x _ => match x with | (k, v) => do
        dictSet (n + j) k v
        pure (ForInStep.yield PUnit.unit)) (SS base ds tk os) q PUnit.unit (SS base (ds.set j (es ++ shortE t0 l)) (tk + l.length) os) q
  | [], t0, ds, es, tk, hj, _, _ => by
    have hl := (List.getElem?_eq_some_iff.mp hj)
    have : ds.set j (es ++ shortE t0 []) = ds := by rw [shortE, List.append_nil, ← hl.2, List.set_getElem_self]
    rw [this]
    exact Ev.pure'
  | (k, v) :: r, t0, ds, es, tk, hj, hz, hf => by
    have hl : j < ds.length := (List.getElem?_eq_some_iff.mp hj).1
    have ih := ev_short hb hn q r (t0 + 2) (ds.set j (es ++ [⟨hashInt k, .int k t0, .str v (t0 + 1)⟩])) _ (tk + 1) (List.getElem?_set_self hl)
      (by rw [List.length_append, List.length_singleton]; rw [List.length_cons] at hz; omega) (Fresh.push hf.2.1 hf.2.2)
    rw [List.set_set, List.append_assoc] at ih
    rw [show 10 * ((k, v) :: r).length = (10 + 0) + 10 * r.length by rw [List.length_cons]; omega, show tk + ((k, v) :: r).length = tk + 1 + r.length by rw [List.length_cons]; omega]
    show Ev w _ (forIn (m := Sem) ((Value.int k t0, Value.str v (t0 + 1)) :: valsE (t0 + 2) r) PUnit.unit _) _ _ _ _ _
    rw [List.forIn_cons]
    refine Ev.bind (a := ForInStep.yield PUnit.unit) (s1 := SS base (ds.set j (es ++ [⟨hashInt k, .int k t0, .str v (t0 + 1)⟩])) (tk + 1) os) (p1 := q) ?_ ih
    exact Ev.bind (ev_set hb hn hj (by omega) hf.1) Ev.pure'
theorem ev_sub4 (hb : base.length = n) (hn : 11 ≤ n) (q : Pos) {l : List (Int × Str)} (hl : l.length = 4) (hf : Fresh [] l) :
    Ev w 53 (subDict (pairsE q l)) (SS base ds tk os) q (n + ds.length) (SS base (ds ++ [shortE tk l]) (tk + 12) os) q := by
  unfold subDict
  refine Ev.bind (n := 1) (k := 52) (ev_new hb) ?_
  refine Ev.bind (n := 52) (k := 0) (a := ()) (s1 := SS base (ds ++ [shortE tk l]) (tk + 12) os) (p1 := q) (Ev.holding ?_) Ev.pure'
  rw [if_pos (by rw [pairsE_length, hl]; decide)]
  have hp := ev_pairs (w := w) (base := base) (ds := ds ++ [[]]) (os := os) q l tk
  rw [hl] at hp
  refine Ev.bind (n := 12) (k := 40) hp ?_
  refine Ev.holding ?_
  refine Ev.bind (n := 40) (k := 0) (a := PUnit.unit) (s1 := SS base (ds ++ [shortE tk l]) (tk + 12) os) (p1 := q) ?_ Ev.pure'
  have h := ev_short (w := w) (os := os) (j := ds.length) hb hn q l tk (ds ++ [[]]) [] (tk + 2 * 4) (by rw [List.getElem?_append_right (Nat.le_refl _), Nat.sub_self]; rfl) (by rw [hl]; decide) hf
  rw [hl, set_last, List.nil_append] at h
  exact h
theorem sub_dict : isSubtype (.type "dict") (.type "dict") = Sem.pure true := by kernel_rfl
theorem iter_dict : typeLookup (.type "dict") "__iter__" = Sem.pure (some (.builtin "dict.__iter__")) := by kernel_rfl
theorem ev_isDict {s : Shared} {a : Addr} (h : s.heap.get? a = some (dOf es)) : Ev w 1 (isInstance (.ref a) (.type "dict")) s p true s p := by
  unfold isInstance
  refine Ev.bind (n := 1) (k := 0) (a := Value.type "dict") (s1 := s) (p1 := p) (Ev.bind (n := 1) (k := 0) (Ev.load h) Ev.pure') ?_
  rw [sub_dict]; exact Ev.pure
theorem ev_iterOf {s : Shared} {a : Addr} (h : s.heap.get? a = some (dOf es)) : Ev w 1 (specialOf (.ref a) "__iter__") s p (some (.builtin "dict.__iter__")) s p := by
  unfold specialOf
  refine Ev.bind (n := 1) (k := 0) (a := Value.type "dict") (s1 := s) (p1 := p) (Ev.bind (n := 1) (k := 0) (Ev.load h) Ev.pure') ?_
  rw [iter_dict]; exact Ev.pure
theorem ev_entries {s : Shared} {a : Addr} {part : Option Value} (h : s.heap.get? a = some (dOf es)) : Ev w 1 (dictEntries a part) s p es.toArray s p := by
  unfold dictEntries
  exact Ev.bind (n := 1) (k := 0) (f := fun o => (match o.data with | .dict es _ => Pure.pure es | _ => unsupported "internal:not-a-dict" : Sem (Array DictEntry))) (Ev.load h) (Ev.pure' (a := es.toArray))
theorem ev_epoch {s : Shared} {a : Addr} {part : Option Value} (h : s.heap.get? a = some (dOf es)) : Ev w 1 (dictEpoch a part) s p es.length s p := by
  unfold dictEpoch
  exact Ev.bind (n := 1) (k := 0) (f := fun o => (match o.data with | .dict _ n => Pure.pure n | _ => unsupported "internal:not-a-dict" : Sem Nat)) (Ev.load h) (Ev.pure' (a := es.length))
end
end Mine
end
section
open PySem PySem.W PyProof.Rows
namespace Mine
noncomputable def FreshE (es : List DictEntry) : List DictEntry → Prop
  | [] => True
  | x :: r => (∃ k t, x.key = .int k t) ∧ (∀ e ∈ es, e.hash ≠ x.hash) ∧ (∀ y ∈ r, y.hash ≠ x.hash) ∧ FreshE es r
theorem FreshE.push {es : List DictEntry} {x : DictEntry} : ∀ {r : List DictEntry}, (∀ y ∈ r, y.hash ≠ x.hash) → FreshE es r → FreshE (es ++ [x]) r
  | [], _, _ => trivial
  | y :: r, h, ⟨h0, h1, h2, h3⟩ => by
    refine ⟨h0, fun e he => ?_, h2, FreshE.push (fun z hz => h z (.tail _ hz)) h3⟩
    rcases List.mem_append.mp he with he | he
    · exact h1 e he
    · rw [List.mem_singleton] at he
      subst he
      exact fun q => h y (.head _) q.symm
section
variable {w : World} {base : List Obj} {tk : Nat} {os : OsState} {p : Pos} {n : Nat}
theorem ev_put {ds : List (List DictEntry)} {main : List DictEntry} (hb : base.length = n) (hn : 11 ≤ n) (h0 : ds[0]? = some main) (hz : main.length < 1000) {x : DictEntry} (hx : ∃ k t, x.key = .int k t) (hf : ∀ e ∈ main, e.hash ≠ x.hash) :
    Ev w 4 (dictPut (n + 0) x.hash x.key x.val) (SS base ds tk os) p () (SS base (ds.set 0 (main ++ [x])) tk os) p := by
  obtain ⟨h, key, v⟩ := x
  obtain ⟨k, t, hk⟩ := hx
  dsimp only at hk hf
  subst hk
  unfold dictPut
  exact Ev.bind (n := 1) (k := 3) (ev_find (ss_get hb h0) hf) (ev_keys hb hn h0 hz _ _)
theorem ev_mergeLoop (hb : base.length = n) (hn : 11 ≤ n) {j : Nat} (hj0 : 0 ≠ j) {sub : List DictEntry} : ∀ (rest pre : List DictEntry) (ds : List (List DictEntry)) (main : List DictEntry), sub = pre ++ rest → ds[0]? = some main → ds[j]? = some sub → main.length + rest.length < 1000 → FreshE main rest →
    Ev w (6 * rest.length) (forIn (m := Sem) (List.range' pre.length rest.length) PUnit.unit fun i _ => do
          let es ← dictEntries (n + j)
          match es[i]? with
            | some e => do
              holding [e.key, e.val] (dictPut (n + 0) e.hash e.key e.val)
              let ep ← dictEpoch (n + j)
              if (ep != sub.length) = true then do
                  (unsupported "dict.changed-during-merge" : Sem PUnit)
                  pure (ForInStep.yield PUnit.unit)
                else pure (ForInStep.yield PUnit.unit)
            | _ => do
              (unsupported "dict.changed-during-merge" : Sem PUnit)
              pure (ForInStep.yield PUnit.unit)) (SS base ds tk os) p PUnit.unit (SS base (ds.set 0 (main ++ rest)) tk os) p
  | [], pre, ds, main, _, h0, _, _, _ => by
    have hl := (List.getElem?_eq_some_iff.mp h0)
    have : ds.set 0 (main ++ []) = ds := by rw [List.append_nil, ← hl.2, List.set_getElem_self]
    rw [this]
    exact Ev.pure'
  | x :: rest, pre, ds, main, hs, h0, hj, hz, hf => by
    have hl : 0 < ds.length := (List.getElem?_eq_some_iff.mp h0).1
    have hj' : (ds.set 0 (main ++ [x]))[j]? = some sub := by rw [List.getElem?_set_ne hj0]; exact hj
    have ih := ev_mergeLoop hb hn hj0 rest (pre ++ [x]) (ds.set 0 (main ++ [x])) (main ++ [x]) (by rw [hs, List.append_assoc]; rfl) (List.getElem?_set_self hl) hj'
      (by rw [List.length_append, List.length_singleton]; rw [List.length_cons] at hz; omega) (FreshE.push hf.2.2.1 hf.2.2.2)
    rw [List.set_set, List.append_assoc, List.length_append, List.length_singleton] at ih
    rw [show 6 * (x :: rest).length = (1 + (4 + (1 + 0))) + 6 * rest.length by rw [List.length_cons]; omega, List.length_cons, List.range'_succ, List.forIn_cons]
    refine Ev.bind (a := ForInStep.yield PUnit.unit) (s1 := SS base (ds.set 0 (main ++ [x])) tk os) (p1 := p) ?_ ih
    refine Ev.bind (ev_entries (ss_get hb hj)) ?_
    have hx : sub.toArray[pre.length]? = some x := by
      rw [List.getElem?_toArray, hs, List.getElem?_append_right (Nat.le_refl _), Nat.sub_self]; rfl
    rw [hx]
    dsimp only
    refine Ev.bind (Ev.holding (ev_put hb hn h0 (by omega) hf.1 hf.2.1)) ?_
    refine Ev.bind (ev_epoch (ss_get hb hj')) ?_
    rw [if_neg (by simp)]
    exact Ev.pure'
theorem ev_merge (hb : base.length = n) (hn : 11 ≤ n) {j : Nat} (hj0 : 0 ≠ j) {sub main : List DictEntry} {ds : List (List DictEntry)} (h0 : ds[0]? = some main) (hm : main ≠ []) (hj : ds[j]? = some sub) (hz : main.length + sub.length < 1000) (hf : FreshE main sub) :
    Ev w (5 + 6 * sub.length) (mergeMapping (n + 0) (.ref (n + j)) false) (SS base ds tk os) p () (SS base (ds.set 0 (main ++ sub)) tk os) p := by
  unfold mergeMapping
  rw [show 5 + 6 * sub.length = 1 + ((1 + 0) + (1 + (1 + (1 + (6 * sub.length + 0))))) by omega]
  refine Ev.bind (ev_isDict (ss_get hb hj)) ?_
  dsimp only
  rw [if_pos rfl]
  rw [Nat.add_assoc]
  refine Ev.bind (ev_iterOf (ss_get hb hj)) ?_
  refine Ev.bind (n := 0) (a := true) (s1 := SS base ds tk os) (p1 := p) ?_ ?_
  · rw [show ((some (Value.builtin "dict.__iter__") == some (Value.builtin "dict.__iter__")) : Bool) = true by decide]
    exact Ev.pure'
  dsimp only
  have hs : ((n + j == sysModules) : Bool) = false := by
    have : sysModules = 1 := rfl
    rw [this]; simp; omega
  rw [hs, if_neg Bool.false_ne_true]
  refine Ev.bind (ev_entries (ss_get hb h0)) ?_
  have he : main.toArray.isEmpty = false := by
    cases main with
    | nil => exact absurd rfl hm
    | cons a b => simp
  rw [he, if_neg Bool.false_ne_true]
  refine Ev.bind (ev_entries (ss_get hb hj)) ?_
  refine Ev.bind (ev_epoch (ss_get hb hj)) ?_
  have h := ev_mergeLoop (w := w) (base := base) (tk := tk) (os := os) (p := p) hb hn hj0 sub [] ds main rfl h0 hj hz hf
  rw [List.range_eq_range', List.size_toArray]
  exact Ev.bind h Ev.pure'
end
end Mine
end
section
open PySem PySem.W PyProof.Rows
namespace Mine
noncomputable abbrev Pair := Sem Value × Sem Value
noncomputable abbrev DSt := Option Addr × List Pair
noncomputable def flushD (run : List Pair) (main : Option Addr) : Sem (Option Addr) :=
  if run.isEmpty = true then pure main
  else match main with
    | none => do
      let r ← subDict run
      pure (some r)
    | some d => do
      let sub ← holding [Value.ref d] (subDict run)
      (holding [Value.ref d, Value.ref sub] (mergeMapping d (Value.ref sub) false)).onRaise fun x => do
          let _ ← holding [Value.ref d, x] (runValue (Code.builtin "proto.let_go" { }))
          pure ()
      pure (some d)
noncomputable def IsBody (F : Option (Sem Value) × Sem Value → DSt → Sem (ForInStep DSt)) : Prop :=
  ∀ (k v : Sem Value) (main : Option Addr) (run : List Pair), F (some k, v) (main, run) =
    (if ((run ++ [(k, v)]).length == 17) = true then (do let m ← flushD (run ++ [(k, v)]) main; pure (ForInStep.yield (m, []))) else pure (ForInStep.yield (main, run ++ [(k, v)])))
noncomputable def optP (x : Pair) : Option (Sem Value) × Sem Value := (some x.1, x.2)
theorem loop_few {F} (hF : IsBody F) (main : Option Addr) : ∀ (c : List Pair) (run : List Pair), run.length + c.length < 17 → forIn (m := Sem) (c.map optP) (main, run) F = Sem.pure (main, run ++ c)
  | [], run, _ => by rw [List.append_nil]; rfl
  | x :: c, run, h => by
    rw [List.length_cons] at h
    have ih := loop_few hF main c (run ++ [x]) (by rw [List.length_append, List.length_singleton]; omega)
    rw [List.append_assoc] at ih
    rw [List.map_cons, List.forIn_cons]
    have hx : F (optP x) (main, run) = Sem.pure (ForInStep.yield (main, run ++ [x])) := by
      show F (some x.1, x.2) (main, run) = _
      rw [hF, if_neg (by rw [List.length_append, List.length_singleton]; simp; omega)]; rfl
    rw [hx]
    exact ih
theorem loop_full {F} (hF : IsBody F) (main : Option Addr) (rest : List (Option (Sem Value) × Sem Value)) : ∀ (c : List Pair) (run : List Pair), run.length + c.length = 17 → c ≠ [] →
    forIn (m := Sem) (c.map optP ++ rest) (main, run) F = (flushD (run ++ c) main).bind fun m => forIn (m := Sem) rest (m, []) F
  | [], _, _, h => absurd rfl h
  | [x], run, h, _ => by
    show forIn (m := Sem) ((some x.1, x.2) :: rest) (main, run) F = _
    rw [List.forIn_cons, hF, if_pos (by rw [List.length_append, List.length_singleton]; rw [List.length_singleton] at h; simp; omega)]
    show ((flushD (run ++ [x]) main).bind fun m => Sem.pure (ForInStep.yield (m, ([] : List Pair)))).bind _ = _
    rw [Sem.bind_eq_wrap, Sem.bind_eq_wrap, Sem.wrap_wrap, Sem.bind_eq_wrap]
    rfl
  | x :: y :: c, run, h, _ => by
    have ih := loop_full hF main rest (y :: c) (run ++ [x]) (by rw [List.length_append, List.length_singleton]; rw [List.length_cons] at h; omega) (by simp)
    rw [List.append_assoc] at ih
    show forIn (m := Sem) ((some x.1, x.2) :: ((y :: c).map optP ++ rest)) (main, run) F = _
    rw [List.forIn_cons, hF, if_neg (by rw [List.length_append, List.length_singleton]; rw [List.length_cons, List.length_cons] at h; simp; omega)]
    exact ih
end Mine
end
section
open PySem PySem.W PyProof.Rows
namespace Mine
noncomputable abbrev LS := List (Int × Str)
noncomputable def Asc (l : LS) : Prop := l.Pairwise fun a b => hashInt a.1 < hashInt b.1
structure GoodL (m : List DictEntry) (l : LS) : Prop where
  lt : ∀ e ∈ m, ∀ x ∈ l, e.hash < hashInt x.1
  asc : Asc l
theorem mem_chunkE {e : DictEntry} : ∀ {l : LS} {t : Nat}, e ∈ chunkE t l → ∃ x ∈ l, e.hash = hashInt x.1
  | (k, v) :: r, t, h => by
    rcases List.mem_cons.mp h with rfl | h
    · exact ⟨_, .head _, rfl⟩
    · obtain ⟨x, hx, e⟩ := mem_chunkE h; exact ⟨x, .tail _ hx, e⟩
theorem mem_shortE {e : DictEntry} : ∀ {l : LS} {t : Nat}, e ∈ shortE t l → ∃ x ∈ l, e.hash = hashInt x.1
  | (k, v) :: r, t, h => by
    rcases List.mem_cons.mp h with rfl | h
    · exact ⟨_, .head _, rfl⟩
    · obtain ⟨x, hx, e⟩ := mem_shortE h; exact ⟨x, .tail _ hx, e⟩
theorem GoodL.fresh {m : List DictEntry} : ∀ {l : LS}, GoodL m l → Fresh m l
  | [], _ => trivial
  | (k, v) :: r, h => ⟨fun e he => Int.ne_of_lt (h.lt e he _ (.head _)), fun x hx => fun q => absurd (List.rel_of_pairwise_cons h.asc hx) (by rw [q]; exact Int.lt_irrefl _),
      GoodL.fresh ⟨fun e he x hx => h.lt e he x (.tail _ hx), List.Pairwise.of_cons h.asc⟩⟩
theorem GoodL.freshE {m : List DictEntry} : ∀ {l : LS} (t : Nat), GoodL m l → FreshE m (chunkE t l)
  | [], _, _ => trivial
  | (k, v) :: r, t, h => ⟨⟨_, _, rfl⟩, fun e he => Int.ne_of_lt (h.lt e he _ (.head _)), fun y hy => by
      obtain ⟨x, hx, e⟩ := mem_chunkE hy
      rw [e]; exact fun q => absurd (List.rel_of_pairwise_cons h.asc hx) (by rw [q]; exact Int.lt_irrefl _),
      GoodL.freshE (t + 3) ⟨fun e he x hx => h.lt e he x (.tail _ hx), List.Pairwise.of_cons h.asc⟩⟩
theorem GoodL.freshS {m : List DictEntry} : ∀ {l : LS} (t : Nat), GoodL m l → FreshE m (shortE t l)
  | [], _, _ => trivial
  | (k, v) :: r, t, h => ⟨⟨_, _, rfl⟩, fun e he => Int.ne_of_lt (h.lt e he _ (.head _)), fun y hy => by
      obtain ⟨x, hx, e⟩ := mem_shortE hy
      rw [e]; exact fun q => absurd (List.rel_of_pairwise_cons h.asc hx) (by rw [q]; exact Int.lt_irrefl _),
      GoodL.freshS (t + 2) ⟨fun e he x hx => h.lt e he x (.tail _ hx), List.Pairwise.of_cons h.asc⟩⟩
theorem GoodL.left {m : List DictEntry} {c r : LS} (h : GoodL m (c ++ r)) : GoodL m c := ⟨fun e he x hx => h.lt e he x (List.mem_append_left _ hx), (List.pairwise_append.mp h.asc).1⟩
theorem GoodL.none {m : List DictEntry} {c : LS} (h : GoodL m c) : GoodL [] c := ⟨fun e he => (nomatch he), h.asc⟩
theorem GoodL.next {m : List DictEntry} {c r : LS} (t : Nat) (h : GoodL m (c ++ r)) : GoodL (m ++ chunkE t c) r := by
  refine ⟨fun e he x hx => ?_, (List.pairwise_append.mp h.asc).2.1⟩
  rcases List.mem_append.mp he with he | he
  · exact h.lt e he x (List.mem_append_right _ hx)
  · obtain ⟨y, hy, q⟩ := mem_chunkE he
    rw [q]; exact (List.pairwise_append.mp h.asc).2.2 y hy x hx
section
variable {w : World} {base : List Obj} {os : OsState} {n : Nat}
theorem pairsE_ne {q : Pos} {c : LS} {k : Nat} (h : c.length = k + 1) : (pairsE q c).isEmpty = false := by
  cases c with
  | nil => simp at h
  | cons a b => rfl
theorem ev_flush0 (hb : base.length = n) (hn : 11 ≤ n) (q : Pos) (tk : Nat) {c : LS} (hc : c.length = 17) (hg : GoodL [] c) : Ev w 223 (flushD (pairsE q c) none) (SS base [] tk os) q (some (n + 0)) (SS base [chunkE tk c] (tk + 51) os) q := by
  unfold flushD
  rw [pairsE_ne hc, if_neg Bool.false_ne_true]
  exact Ev.bind (n := 223) (k := 0) (ev_sub17 (ds := []) hb hn q hc hg.fresh) Ev.pure'
theorem ev_flush1 (hb : base.length = n) (hn : 11 ≤ n) (q : Pos) (tk : Nat) {c : LS} (hc : c.length = 17) {m : List DictEntry} {subs : List (List DictEntry)} (hm : m ≠ []) (hz : m.length + 17 < 1000) (hg : GoodL m c) :
    Ev w 330 (flushD (pairsE q c) (some (n + 0))) (SS base (m :: subs) tk os) q (some (n + 0)) (SS base ((m ++ chunkE tk c) :: (subs ++ [chunkE tk c])) (tk + 51) os) q := by
  unfold flushD
  rw [pairsE_ne hc, if_neg Bool.false_ne_true]
  refine Ev.bind (n := 223) (k := 107) (Ev.holding (ev_sub17 hb hn q hc hg.none.fresh)) ?_
  have hl : (chunkE tk c).length = 17 := by rw [chunkE_length, hc]
  have h := ev_merge (w := w) (tk := tk + 51) (os := os) (p := q) (ds := (m :: subs) ++ [chunkE tk c]) (main := m) (sub := chunkE tk c) (j := (m :: subs).length) hb hn (by simp) rfl hm (by rw [List.getElem?_append_right (Nat.le_refl _), Nat.sub_self]; rfl) (by rw [hl]; exact hz) (hg.freshE tk)
  rw [hl] at h
  exact Ev.bind (n := 107) (k := 0) (Ev.onRaise (Ev.holding h)) Ev.pure'
theorem shortE_length : ∀ (l : LS) (t : Nat), (shortE t l).length = l.length
  | [], _ => rfl
  | (k, v) :: r, t => by rw [shortE, List.length_cons, shortE_length r, List.length_cons]
theorem ev_flush2 (hb : base.length = n) (hn : 11 ≤ n) (q : Pos) (tk : Nat) {c : LS} (hc : c.length = 4) {m : List DictEntry} {subs : List (List DictEntry)} (hm : m ≠ []) (hz : m.length + 4 < 1000) (hg : GoodL m c) :
    Ev w 82 (flushD (pairsE q c) (some (n + 0))) (SS base (m :: subs) tk os) q (some (n + 0)) (SS base ((m ++ shortE tk c) :: (subs ++ [shortE tk c])) (tk + 12) os) q := by
  unfold flushD
  rw [pairsE_ne hc, if_neg Bool.false_ne_true]
  refine Ev.bind (n := 53) (k := 29) (Ev.holding (ev_sub4 hb hn q hc hg.none.fresh)) ?_
  have hl : (shortE tk c).length = 4 := by rw [shortE_length, hc]
  have h := ev_merge (w := w) (tk := tk + 12) (os := os) (p := q) (ds := (m :: subs) ++ [shortE tk c]) (main := m) (sub := shortE tk c) (j := (m :: subs).length) hb hn (by simp) rfl hm (by rw [List.getElem?_append_right (Nat.le_refl _), Nat.sub_self]; rfl) (by rw [hl]; exact hz) (hg.freshS tk)
  rw [hl] at h
  exact Ev.bind (n := 29) (k := 0) (Ev.onRaise (Ev.holding h)) Ev.pure'
noncomputable def mainE (tk : Nat) (m : List DictEntry) : List LS → List DictEntry
  | [] => m
  | c :: cs => mainE (tk + 51) (m ++ chunkE tk c) cs
noncomputable def subsE (tk : Nat) : List LS → List (List DictEntry)
  | [] => []
  | c :: cs => chunkE tk c :: subsE (tk + 51) cs
theorem ev_mid {F} (hF : IsBody F) (hb : base.length = n) (hn : 11 ≤ n) (q : Pos) {c4 : LS} (h4 : c4.length = 4) : ∀ (cs : List LS) (m : List DictEntry) (subs : List (List DictEntry)) (tk : Nat), (∀ c ∈ cs, c.length = 17) → m ≠ [] → m.length + 17 * cs.length + 4 < 1000 → GoodL m (cs.flatten ++ c4) →
    Ev w (330 * cs.length) (forIn (m := Sem) ((pairsE q (cs.flatten ++ c4)).map optP) (some (n + 0), []) F) (SS base (m :: subs) tk os) q (some (n + 0), pairsE q c4) (SS base (mainE tk m cs :: (subs ++ subsE tk cs)) (tk + 51 * cs.length) os) q
  | [], m, subs, tk, _, hm, hz, hg => by
    have h := loop_few hF (some (n + 0)) (pairsE q c4) [] (by rw [pairsE_length, h4]; decide)
    show Ev w _ (forIn (m := Sem) ((pairsE q c4).map optP) (some (n + 0), []) F) _ _ _ _ _
    rw [h, subsE, List.append_nil]
    exact Ev.pure
  | c :: cs, m, subs, tk, hc, hm, hz, hg => by
    have hc0 := hc c (.head _)
    rw [List.flatten_cons, List.append_assoc] at hg
    rw [List.length_cons] at hz
    have ih := ev_mid hF hb hn q h4 cs (m ++ chunkE tk c) (subs ++ [chunkE tk c]) (tk + 51) (fun d hd => hc d (.tail _ hd)) (by simp [hm]) (by rw [List.length_append, chunkE_length, hc0]; omega) (hg.next tk)
    rw [List.append_assoc] at ih
    have hsplit : (pairsE q ((c :: cs).flatten ++ c4)).map optP = (pairsE q c).map optP ++ (pairsE q (cs.flatten ++ c4)).map optP := by
      rw [List.flatten_cons, List.append_assoc]; unfold pairsE; rw [List.map_append, List.map_append]
    rw [hsplit, loop_full hF (some (n + 0)) _ (pairsE q c) [] (by rw [pairsE_length, hc0]; rfl) (by intro e; rw [← List.length_eq_zero_iff, pairsE_length, hc0] at e; cases e),
      show 330 * (c :: cs).length = 330 + 330 * cs.length by rw [List.length_cons]; omega, show tk + 51 * (c :: cs).length = tk + 51 + 51 * cs.length by rw [List.length_cons]; omega]
    exact Ev.bind' (ev_flush1 hb hn q tk hc0 hm (by omega) hg.left) ih
theorem ev_display (hb : base.length = n) (hn : 11 ≤ n) (q : Pos) (tk : Nat) {c0 : LS} {cs : List LS} {c4 : LS} (h0 : c0.length = 17) (hc : ∀ c ∈ cs, c.length = 17) (h4 : c4.length = 4) (hz : 17 + 17 * cs.length + 4 < 1000) (ha : Asc (c0 ++ (cs.flatten ++ c4))) :
    Ev w (223 + (330 * cs.length + 82)) (dictDisplay ((pairsE q (c0 ++ (cs.flatten ++ c4))).map optP)) (SS base [] tk os) q (.ref (n + 0))
      (SS base ((mainE (tk + 51) (chunkE tk c0) cs ++ shortE (tk + 51 + 51 * cs.length) c4) :: (subsE (tk + 51) cs ++ [shortE (tk + 51 + 51 * cs.length) c4])) (tk + 51 + 51 * cs.length + 12) os) q := by
  have hg : GoodL [] (c0 ++ (cs.flatten ++ c4)) := ⟨fun e he => (nomatch he), ha⟩
  have hl0 : (chunkE tk c0).length = 17 := by rw [chunkE_length, h0]
  have hm0 : chunkE tk c0 ≠ [] := by intro e; rw [e] at hl0; cases hl0
  have hg1 : GoodL (chunkE tk c0) (cs.flatten ++ c4) := hg.next tk
  have hmain : ∀ (cs : List LS) (tk : Nat) (m : List DictEntry), m ≠ [] → mainE tk m cs ≠ [] := by
    intro cs
    induction cs with
    | nil => intro tk m h; exact h
    | cons c cs ih => intro tk m h; exact ih _ _ (by simp [h])
  have hlen : ∀ (cs : List LS) (tk : Nat) (m : List DictEntry), (∀ c ∈ cs, c.length = 17) → (mainE tk m cs).length = m.length + 17 * cs.length := by
    intro cs
    induction cs with
    | nil => intro tk m _; rfl
    | cons c cs ih => intro tk m h; rw [mainE, ih _ _ (fun d hd => h d (.tail _ hd)), List.length_append, chunkE_length, h c (.head _), List.length_cons]; omega
  have hgl : ∀ (cs : List LS) (tk : Nat) (m : List DictEntry), GoodL m (cs.flatten ++ c4) → GoodL (mainE tk m cs) c4 := by
    intro cs
    induction cs with
    | nil => intro tk m h; exact h
    | cons c cs ih => intro tk m h; rw [List.flatten_cons, List.append_assoc] at h; exact ih _ _ (h.next tk)
  unfold dictDisplay
  refine Ev.bind (n := 223 + 330 * cs.length) (k := 82) (a := (some (n + 0), pairsE q c4)) (s1 := SS base (mainE (tk + 51) (chunkE tk c0) cs :: subsE (tk + 51) cs) (tk + 51 + 51 * cs.length) os) (p1 := q) ?_ ?_
  · have hsplit : (pairsE q (c0 ++ (cs.flatten ++ c4))).map optP = (pairsE q c0).map optP ++ (pairsE q (cs.flatten ++ c4)).map optP := by
      unfold pairsE; rw [List.map_append, List.map_append]
    have hne : pairsE q c0 ≠ [] := by intro e; rw [← List.length_eq_zero_iff, pairsE_length, h0] at e; cases e
    have h17 : ([] : List Pair).length + (pairsE q c0).length = 17 := by rw [pairsE_length, h0]; rfl
    rw [hsplit]
    refine Eq.mpr (congrArg (fun t => Ev w _ t _ _ _ _ _) (loop_full ?hF none _ (pairsE q c0) [] h17 hne)) ?_
    case hF => exact fun k v main run => rfl
    refine Ev.bind' (ev_flush0 hb hn q tk h0 hg.left) ?_
    refine ev_mid ?hF hb hn q h4 cs (chunkE tk c0) [] (tk + 51) hc hm0 ?hz hg1
    case hz => rw [hl0]; omega
    case hF => exact fun k v main run => rfl
  · exact Ev.bind (n := 82) (k := 0) (ev_flush2 hb hn q _ h4 (hmain _ _ _ hm0) (by rw [hlen _ _ _ hc, hl0]; omega) (hgl _ _ _ hg1)) Ev.pure'
end
end Mine
end
section
open PySem PySem.W PyProof.Rows
namespace Mine
noncomputable def b3S : LS := b3L.map fun x => (x.1, Str.ofString x.2)
noncomputable def chunk0 : LS := b3S.take 17
noncomputable def chunks : List LS := (List.range 37).map fun i => (b3S.drop (17 * (i + 1))).take 17
noncomputable def chunk4 : LS := b3S.drop 646
noncomputable def ascB : Int → LS → Bool
  | _, [] => true
  | h, (k, _) :: r => decide (h < hashInt k) && ascB (hashInt k) r
theorem ascB_lt : ∀ {l : LS} {h : Int}, ascB h l = true → ∀ x ∈ l, h < hashInt x.1
  | (k, v) :: r, h, e, x, hx => by
    obtain ⟨e1, e2⟩ := Bool.and_eq_true_iff.mp e
    have e1 := of_decide_eq_true e1
    rcases List.mem_cons.mp hx with rfl | hx
    · exact e1
    · exact Int.lt_trans e1 (ascB_lt e2 x hx)
theorem asc_of : ∀ {l : LS} {h : Int}, ascB h l = true → Asc l
  | [], _, _ => List.Pairwise.nil
  | (k, v) :: r, h, e => List.Pairwise.cons (fun x hx => ascB_lt (Bool.and_eq_true_iff.mp e).2 x hx) (asc_of (Bool.and_eq_true_iff.mp e).2)
set_option maxHeartbeats 0 in
theorem b3_asc : Asc (chunk0 ++ (chunks.flatten ++ chunk4)) := asc_of (h := -1) (by decide +kernel)
noncomputable def dictE : Expr := match cell 11 with | .Assign _ v _ => v | _ => default
noncomputable def tgtE : List Expr := match cell 11 with | .Assign ts _ _ => ts | _ => []
noncomputable def posE : Pos := match cell 11 with | .Assign _ _ p => p | _ => default
noncomputable def posDict : Pos := match dictE with | .Dict _ _ p => p | _ => default
noncomputable def restD (v : Value) : Sem Flow := do
  match ← (do assignStores env0 v (← swappedStores tgtE dictE env0) ((assignEach tgtE env0).map (·.2))) with
  | .next => execs [] env0
  | f => pure f
noncomputable def keysD : List (Option Expr) := match dictE with | .Dict ks _ _ => ks | _ => []
noncomputable def valsD : List Expr := match dictE with | .Dict _ vs _ => vs | _ => []
set_option maxHeartbeats 0 in
theorem items_eq : (evalEachOpt keysD env0).zip ((evalEach valsD env0).map fun v => do let x ← v; standAt posDict; pure x) = (pairsE posDict (chunk0 ++ (chunks.flatten ++ chunk4))).map optP := by
  kernel_rfl
end Mine
end
section
open PySem PySem.W PyProof.Rows
namespace Mine
noncomputable def asgD (v : Value) : Sem Flow := do assignStores env0 v (← swappedStores tgtE dictE env0) ((assignEach tgtE env0).map (·.2))
noncomputable def nextD (f : Flow) : Sem Flow := match f with
  | .next => execs [] env0
  | f => pure f
noncomputable def restW (v : Value) : Sem Fin := (asgD v).wrap (fun f => (nextD f).wrap doneF deadEnd id id) deadEnd id id
theorem exec_at : exec (cell 11) env0 = .at posE fun _ => (eval dictE env0).bind asgD := by kernel_rfl
theorem execs_at : execs stD env0 = (exec (cell 11) env0).bind nextD := by kernel_rfl
theorem bind2_wrap {α β γ : Type} (m : Sem α) (f : α → Sem β) (g : β → Sem γ) (K : γ → Sem Fin) (H : Value → Sem Fin) :
    ((m.bind f).bind g).wrap K H id id = m.wrap (fun a => (f a).wrap (fun b => (g b).wrap K H id id) H id id) H id id := by
  rw [Sem.bind_eq_wrap (m.bind f) g, Sem.bind_eq_wrap m f, Sem.wrap_wrap, Sem.wrap_wrap]
  rfl
theorem exec_wrap : (execs stD env0).wrap doneF deadEnd id id = .at posE fun _ => (eval dictE env0).wrap restW deadEnd id id := by
  rw [execs_at, exec_at]
  exact congrArg (Sem.at posE) (funext fun _ => bind2_wrap (eval dictE env0) asgD nextD doneF deadEnd)
theorem eval_at : eval dictE env0 = .at posDict fun _ => dictDisplay ((evalEachOpt keysD env0).zip ((evalEach valsD env0).map fun v => do let x ← v; standAt posDict; pure x)) := by kernel_rfl
noncomputable def baseD (P : Params) : List Obj := (t11 P).list 79
theorem base_len (P : Params) : (baseD P).length = 79 := by unfold baseD BT.list; rw [List.length_map, List.length_range]
theorem ss_start (P : Params) (os : OsState) : SharedT.abs ⟨t11 P, 79, {}, #[], {}, 327, os⟩ = SS (baseD P) [] 327 os := by
  unfold SS SharedT.abs absHeap baseD
  rw [List.map_nil, List.append_nil]
noncomputable abbrev itemsD : List (Option (Sem Value) × Sem Value) := (pairsE posDict (chunk0 ++ (chunks.flatten ++ chunk4))).map optP
noncomputable def dsEnd : List (List DictEntry) := (mainE (327 + 51) (chunkE 327 chunk0) chunks ++ shortE (327 + 51 + 51 * 37) chunk4) :: (subsE (327 + 51) chunks ++ [shortE (327 + 51 + 51 * 37) chunk4])
theorem ev_all (w : World) (os : OsState) : Ev w 12515 (dictDisplay itemsD) (SS (baseD w.params) [] 327 os) posDict (.ref 79) (SS (baseD w.params) dsEnd 2277 os) posDict :=
  ev_display (w := w) (os := os) (base_len w.params) (by decide : 11 ≤ 79) posDict 327 (c0 := chunk0) (cs := chunks) (c4 := chunk4) (by decide +kernel) (by decide +kernel) (by decide +kernel) (by decide +kernel) b3_asc
theorem go_dict (w : World) (os : OsState) : Go w 12517 (SS (baseD w.params) [] 327 os) (Th ((execs stD env0).wrap doneF deadEnd id id) ⟨45, 0, 46, 30⟩) = some (SS (baseD w.params) dsEnd 2277 os, Th (restW (.ref 79)) posDict) := by
  rw [exec_wrap, eval_at, items_eq]
  have h1 : Go w 2 (SS (baseD w.params) [] 327 os) (Th (.at posE fun _ => (Sem.at posDict fun _ => dictDisplay itemsD).wrap restW deadEnd id id) ⟨45, 0, 46, 30⟩) = some (SS (baseD w.params) [] 327 os, Th ((dictDisplay itemsD).wrap restW deadEnd id id) posDict) := rfl
  exact (go_add (n := 2) (k := 12515) h1).trans (ev_all w os restW deadEnd id id)
end Mine
end
section
open PySem PySem.W PyProof.Rows
namespace Mine
noncomputable def t12b (P : Params) : BT := (t12 P).set 3 fun _ => g3v11 P
set_option maxHeartbeats 0 in
theorem ss_end (P : Params) (os : OsState) : SS (baseD P) dsEnd 2277 os = SharedT.abs ⟨t12b P, 118, {}, #[], {}, 2277, os⟩ := by
  kernel_rfl
set_option maxHeartbeats 0 in
theorem end_dict (w : World) (os : OsState) : segRunT treeTable pw w 11 (some (.ref 6)) 1 20 ⟨t12b w.params, 118, {}, #[], {}, 2277, os⟩ (Th (restW (.ref 79)) posDict) = some (.next, ⟨t12 w.params, 118, {}, #[], {}, 2278, os⟩, code0, ⟨47, 0, 47, 13⟩) := by
  kernel_rfl
theorem hD (w : World) (os : OsState) : segRun treeTable pw w 11 (some (.ref 6)) 1 12537 (SharedT.abs ⟨t11 w.params, 79, {}, #[], {}, 327, os⟩) (piecesOf stD env0 code0 ⟨45, 0, 46, 30⟩ [topFrame q0]) = some (.next, SharedT.abs ⟨t12 w.params, 118, {}, #[], {}, 2278, os⟩, code0, ⟨47, 0, 47, 13⟩) := by
  have h := go_dict w os
  rw [ss_end, ← ss_start] at h
  exact seg_go (n := 12517) (N := 20) h (segRun_of (end_dict w os))
end Mine
end
section
open PySem PySem.W PyProof.Rows

namespace Mine
theorem body_split : behindTheImports pw = stA ++ (stB9 ++ (stD ++ (stC ++ []))) := by kernel_rfl
theorem hRun (w : World) (os : OsState) : topRun treeTable pw w 11 (some (.ref 6)) (12 + (1 + (600 + (1100 + (12537 + (600 + 2)))))) ⟨boot_heap w.params, #[], boot_drawn, boot_toks, os⟩ (topStub pw) = some ⟨heap23 w.params, #[], {}, 2361, os⟩ := by
  refine go_top (hPre w os) ?_
  refine piece_block (q := q0) (b := body0) (env := env0) (hBlock w os) ?_
  have e : body0 = stA ++ (stB9 ++ (stD ++ (stC ++ []))) := body_split
  rw [e]
  refine piece_app (q := q0) (segRun_of (hA w os)) ?_
  refine piece_app (q := q0) (segRun_of (hB w os)) ?_
  refine piece_app (q := q0) (hD w os) ?_
  refine piece_app (q := q0) (segRun_of (hC w os)) ?_
  exact piece_nil (q := q0) (hFin w os)
end Mine
end
section
open PySem PySem.W PyProof.Rows

namespace Mine
noncomputable def asK : List Addr := [2, 3, 6, 15, 17, 18, 20, 21, 22, 24, 25, 27, 28, 29, 36, 37, 38, 39, 42, 49, 50, 51, 54, 56, 57, 59, 60, 68, 72, 74, 75, 77, 78, 79, 118, 120, 121, 123, 124, 125, 127, 128, 130, 131, 132, 134, 135, 137, 138, 139, 142, 143, 144, 147, 148, 149, 152, 153, 154, 157, 158, 159, 161, 162, 164, 165, 166, 169, 170, 171, 173, 174, 176, 177]
theorem asK_eq : ∀ P : Params, asK = (K P).map (·.1) := fun _ => by kernel_rfl
noncomputable def HK : Hook := kHook K asK asK_eq
set_option maxHeartbeats 0 in
theorem look3 (w : World) (os : OsState) : HK.obs ⟨heap23 w.params, #[], {}, 2361, os⟩ = HK.val w := by kernel_rfl
set_option maxHeartbeats 0 in
theorem hOpen : opening pw = plainProg pw.main.scope.names := by kernel_rfl
theorem hLeft : LeftO pw q1 loose1 Xt1 HK.obs HK.val 30000 :=
  LeftO.of_pieces (H₀ := boot_heap) (H₁ := heap23) (gs₀ := Array.mk []) (gs₁ := #[]) (d₀ := boot_drawn) (d₁ := {}) (k₀ := boot_toks) (k₁ := 2361) (m₀ := 11) (ann := some (.ref 6)) (M := 12 + (1 + (600 + (1100 + (12537 + (600 + 2))))))
    (boot_open hOpen (by decide) fun s => rfl) hSize hRun (by decide)
    fun w => funext fun os => by
      show ((_ : Bool), _, _) = _
      rw [show (staticsOk (importedModules pw.main.body) (boot_heap w.params) (heap23 w.params) && namesBound pw (heap23 w.params) && gensDone ⟨heap23 w.params, #[], {}, 2361, os⟩ && laidKept (boot_heap w.params) (heap23 w.params)) = true from look1 w os,
        show openSeen q1 loose1 (importedModules pw.main.body) Xt1 true ⟨heap23 w.params, #[], {}, 2361, os⟩ = openGood q1 loose1 from look2 w os, look3 w os]
end Mine
end
namespace Mine
local macro_rules | `(tactic| walk_at $s:str) => `(tactic| k_extra $s)
section
open PySem PySem.W PyProof.Rows
theorem rulesV1x0 : True := by
  k_with_none
  trivial
noncomputable abbrev rp : Program := PySem.Challenge.rw_wk0033_01.row.prog
noncomputable abbrev VP := Value → Shared → Prop
noncomputable abbrev Led := List (Addr × Obj)
/-- a def's call, told once: what it hands on, for every caller -/
noncomputable def Con (w : World) (p : Program) (loose : List Str) (mean : ExcName → Option Value) (mg mb : Str → Option Value) (f : Addr) (vs : List Value) (news : Led) (R : Heap → Addr → (Str → Option Value) → Shared → VP → Prop) : Prop :=
  ∀ (dp un : Nat) (gd : Option (List Code)) (cn : Str) (cs : Scope) (a : Addr) (ccd : Value) (cl : List (Str × Addr)) (outer : List Env) (A₀ : Around) (base h₀ : Heap) (L : Addr) (m : Str → Option Value) (s : Shared) (Q E : VP),
    Below A₀ base outer h₀ → Fr h₀ L s.heap m → (K w.params).In h₀ → News h₀ L s.heap news → Top p loose mean mg mb h₀ → cs.kind = .function → dp + 40 < recursionLimit → un + 400 < cLine →
    R h₀ L m s Q → wpAny (model PySem.Challenge.rw_wk0033_01.row.prog w) (ktrTop dp un gd cn cs L a ccd cl outer) (call (.ref f) vs) Q E s
/-- hands on a plain value, the ledger as it was -/
noncomputable def RetV (v : Nat → Value) (news : Led) (h₀ : Heap) (L : Addr) (m : Str → Option Value) (s : Shared) (Q : VP) : Prop :=
  ∀ (t : Nat) (h' : Heap) (tk' : Nat), Fr h₀ L h' m → News h₀ L h' news → Q (v t) { s with heap := h', toks := tk' }
noncomputable def b1L : List Int := [173, 847, 6150, 6155, 6156, 6157, 8203, 8204, 8205, 8288, 65279, 65024, 65025, 65026, 65027, 65028, 65029, 65030, 65031, 65032, 65033, 65034, 65035, 65036, 65037, 65038, 65039]
theorem Con.use {w : World} {p : Program} {loose : List Str} {mean : ExcName → Option Value} {mg mb : Str → Option Value} {f : Addr} {vs : List Value} {news : Led} {R : Heap → Addr → (Str → Option Value) → Shared → VP → Prop} (c : Con w p loose mean mg mb f vs news R)
    {dp un : Nat} {gd : Option (List Code)} {cn : Str} {cs : Scope} {a : Addr} {ccd : Value} {cl : List (Str × Addr)} {outer : List Env} {A₀ : Around} {base h₀ : Heap} {L : Addr} {m : Str → Option Value} {s : Shared} {Q E : VP}
    (B : Below A₀ base outer h₀) (F : Fr h₀ L s.heap m) (X : (K w.params).In h₀) (N : News h₀ L s.heap news) (T : Top p loose mean mg mb h₀) (hk : cs.kind = .function) (hd : dp + 40 < recursionLimit) (hu : un + 400 < cLine) (hR : R h₀ L m s Q) :
    wpAny (model PySem.Challenge.rw_wk0033_01.row.prog w) (ktrTop dp un gd cn cs L a ccd cl outer) (call (.ref f) vs) Q E s := c _ _ _ _ _ _ _ _ _ _ _ _ _ _ _ _ _ B F X N T hk hd hu hR
noncomputable def inB1 (k : Int) : Bool := b1L.contains k
section
variable {prog : Program} {w : World}
noncomputable def es68 : List (Int × Value) := [(65024, Value.int 65024 276), (65025, Value.int 65025 277), (65026, Value.int 65026 278), (65027, Value.int 65027 279), (65028, Value.int 65028 280), (65029, Value.int 65029 281), (6150, Value.int 6150 262), (65030, Value.int 65030 282), (65031, Value.int 65031 283), (65032, Value.int 65032 284), (65033, Value.int 65033 285), (6155, Value.int 6155 263), (6156, Value.int 6156 264), (6157, Value.int 6157 265), (8203, Value.int 8203 266), (8204, Value.int 8204 267), (8205, Value.int 8205 268), (65034, Value.int 65034 286), (65035, Value.int 65035 287), (65036, Value.int 65036 288), (65037, Value.int 65037 289), (65038, Value.int 65038 290), (65039, Value.int 65039 291), (173, Value.int 173 260), (847, Value.int 847 261), (8288, Value.int 8288 269), (65279, Value.int 65279 270)]
noncomputable def okE (e : Int × Value) : Bool := match e.2 with
  | .int k _ => e.1 == hashInt k
  | _ => false
noncomputable def keyOf (e : Int × Value) : Int := match e.2 with
  | .int k _ => k
  | _ => 0
theorem es68_ok : es68.all okE = true := by decide +kernel
theorem es68_keys : (es68.map keyOf).all b1L.contains = true ∧ b1L.all (es68.map keyOf).contains = true := by decide +kernel
theorem isInt_iff {k i : Int} {t : Tok} : Value.isInt k (.int i t) = true ↔ i = k := by simp [Value.isInt]
theorem set68 {h : Heap} (X : (K w.params).In h) : h.SetOf (intKind prog w) 68 inB1 27 := by
  refine ⟨o68 w.params, es68.toArray, _, _, X 68 _ rfl, ⟨rfl, rfl, rfl⟩, rfl, ?_, ?_, by decide, by rfl, rfl⟩
  · intro e he
    have hk := List.all_eq_true.mp es68_ok e he
    obtain ⟨a, v⟩ := e
    cases v <;> simp only [okE] at hk <;> try cases hk
    rename_i i t
    exact ⟨⟨i, isInt_iff (t := t).mpr rfl, beq_iff_eq.mp hk⟩, rfl⟩
  · intro k
    constructor
    · intro hk
      have h1 := List.all_eq_true.mp es68_keys.2 k (by simpa [inB1, List.contains_iff_mem] using hk)
      have h2 : k ∈ es68.map keyOf := by simpa [List.contains_iff_mem] using h1
      obtain ⟨e, he, hek⟩ := List.mem_map.mp h2
      refine ⟨e, he, ?_⟩
      have ho := List.all_eq_true.mp es68_ok e he
      obtain ⟨a, v⟩ := e
      cases v <;> simp only [okE] at ho <;> try cases ho
      rename_i i t
      exact isInt_iff (t := t).mpr hek
    · rintro ⟨e, he, hk⟩
      have h1 : keyOf e ∈ es68.map keyOf := List.mem_map.mpr ⟨e, he, rfl⟩
      have h2 := List.all_eq_true.mp es68_keys.1 _ h1
      have ho := List.all_eq_true.mp es68_ok e he
      obtain ⟨a, v⟩ := e
      cases v <;> simp only [okE] at ho <;> try cases ho
      rename_i i t
      have : i = k := (isInt_iff (t := t)).mp hk
      subst this
      exact h2
end
theorem rulesV1x1 : True := by
  (k_with "compareOp In" => (k_here; (with_reducible show wpAny _ _ (compareOp CmpOp.In (Value.int _ _) (Value.ref 68)) _ _ _); k_dflt (refine' wpAny_inSet_of (knd := intKind _ _) ?k1 ?k2 ?k3 ?_; (case k1 => exact intKind_is _ _ _ _); (case k2 => exact rfl); (case k3 => exact set68 (Frag.In.keeps (by k_asm) (Fr.keep (by k_asm)))))))
  trivial
set_option maxHeartbeats 4000000 in
theorem inb1_con (w : World) (p : Program) (loose : List Str) (mean : ExcName → Option Value) (mg mb : Str → Option Value) (c : Nat) (tk : Tok) (news : Led) :
    Con w p loose mean mg mb 78 [.str ⟨#[c]⟩ tk] news (RetV (fun _ => .bool (inB1 c)) news) := by
  intro dp un gd cn cs a ccd cl outer A₀ base h₀ L m s Q E B F X N T hk hd hu R
  revert X; k_fill; intro X
  refine wpAny_call ?_
  k_dflt cell_enter
  k_steps
  all_goals exact R 0 _ _ (by k_asm) (by k_asm)
end
section
open PySem PySem.W PyProof.Rows
theorem rulesV2x0 : True := by
  k_with_none
  trivial
/-- the law's sign of a figure: its code, and how it is prepared -/
noncomputable def sgnC (f : Nat) : Nat :=
  if f % 5 = 0 then 97 + f / 5 % 26 else if f % 5 = 1 then 65 + f / 5 % 26
  else if f % 5 = 2 then (if f / 5 > 10 then 65013 + f / 5 else [173, 847, 6150, 6155, 6156, 6157, 8203, 8204, 8205, 8288, 65279].getD (f / 5) 0)
  else if f % 5 = 4 then [174, 848, 6151, 6158, 8206, 8289, 65280, 65040].getD (f / 5 % 8) 0
  else if f / 5 < 9 then 34 else if f / 5 < 18 then 223 else 119790 + f / 5
noncomputable def sgnL (f : Nat) : List Nat :=
  if f % 5 = 0 then [97 + f / 5 % 26] else if f % 5 = 1 then [97 + f / 5 % 26]
  else if f % 5 = 2 then []
  else if f % 5 = 4 then [[174, 848, 6151, 6158, 8206, 8289, 65280, 65040].getD (f / 5 % 8) 0]
  else if f / 5 < 9 then [34] else if f / 5 < 18 then [115, 115] else [79 + f / 5]
noncomputable def sgnT (f : Nat) : Str := ⟨#[sgnC f]⟩
noncomputable def smlT (f : Nat) : Str := ⟨(sgnL f).toArray⟩
noncomputable abbrev tupOf (its : List Value) : Obj := { cls := .type "tuple", data := .seq its.toArray 0 }
noncomputable def RetSign (f : Nat) (news : Led) (h₀ : Heap) (L : Addr) (m : Str → Option Value) (s : Shared) (Q : VP) : Prop :=
  ∀ (b : Addr) (h' : Heap) (tk' t1 t2 : Nat), Fr h₀ L h' m → News h₀ L h' ((b, tupOf [.str (sgnT f) t1, .str (smlT f) t2]) :: news) → (∀ q ∈ news, q.1 < b) → Q (.ref b) { s with heap := h', toks := tk' }
theorem sign_end {f : Nat} {news rest : Led} {h₀ h' : Heap} {L b : Addr} {m : Str → Option Value} {s : Shared} {Q : VP} {tk' t1 t2 : Nat} {x y : Str} (R : RetSign f news h₀ L m s Q)
    (F : Fr h₀ L h' m) (N : News h₀ L h' rest) (hb : (b, tupOf [.str x t1, .str y t2]) ∈ rest) (hs : ∀ q ∈ news, q ∈ rest) (hl : ∀ q ∈ news, q.1 < b) (hx : x = sgnT f) (hy : y = smlT f) : Q (.ref b) { s with heap := h', toks := tk' } := by
  subst hx hy
  refine R b h' tk' t1 t2 F (fun q hq => ?_) hl
  rcases List.mem_cons.mp hq with rfl | hq
  · exact N _ hb
  · exact N _ (hs _ hq)

theorem fin135 {P : Nat → Prop} (h : ∀ f : Fin 135, P f.val) {f : Nat} (hf : f < 135) : P f := h ⟨f, hf⟩
theorem strE {a b : Nat} (h : a = b) : (⟨#[a]⟩ : Str) = ⟨#[b]⟩ := by rw [h]
noncomputable abbrev t11L : List Int := [173, 847, 6150, 6155, 6156, 6157, 8203, 8204, 8205, 8288, 65279]
noncomputable abbrev t8L : List Int := [174, 848, 6151, 6158, 8206, 8289, 65280, 65040]
set_option maxHeartbeats 0 in
theorem sg0 : ∀ f : Fin 135, (f.val : Int).fmod 5 = 0 → (97 + ((f.val : Int).fdiv 5).fmod 26).toNat = sgnC f.val ∧ sgnL f.val = [(97 + ((f.val : Int).fdiv 5).fmod 26).toNat] := by decide +kernel
theorem sg1 : ∀ f : Fin 135, (f.val : Int).fmod 5 = 1 → (65 + ((f.val : Int).fdiv 5).fmod 26).toNat = sgnC f.val ∧ sgnL f.val = [(97 + ((f.val : Int).fdiv 5).fmod 26).toNat] := by decide +kernel
theorem sg2 : ∀ f : Fin 135, (f.val : Int).fmod 5 = 2 → 10 < (f.val : Int).fdiv 5 → (65013 + (f.val : Int).fdiv 5).toNat = sgnC f.val ∧ sgnL f.val = [] := by decide +kernel
theorem sg3 : ∀ f : Fin 135, (f.val : Int).fmod 5 = 2 → ¬ 10 < (f.val : Int).fdiv 5 → (t11L.getD ((f.val : Int).fdiv 5).toNat 0).toNat = sgnC f.val ∧ sgnL f.val = [] := by decide +kernel
theorem sg4 : ∀ f : Fin 135, (f.val : Int).fmod 5 = 4 → (t8L.getD (((f.val : Int).fdiv 5).fmod 8).toNat 0).toNat = sgnC f.val ∧ sgnL f.val = [(t8L.getD (((f.val : Int).fdiv 5).fmod 8).toNat 0).toNat] := by decide +kernel
theorem sg5 : ∀ f : Fin 135, (f.val : Int).fmod 5 ≠ 0 → (f.val : Int).fmod 5 ≠ 1 → (f.val : Int).fmod 5 ≠ 2 → (f.val : Int).fmod 5 ≠ 4 → (f.val : Int).fdiv 5 < 9 → 34 = sgnC f.val ∧ sgnL f.val = [34] := by decide +kernel
theorem sg6 : ∀ f : Fin 135, (f.val : Int).fmod 5 ≠ 0 → (f.val : Int).fmod 5 ≠ 1 → (f.val : Int).fmod 5 ≠ 2 → (f.val : Int).fmod 5 ≠ 4 → ¬ (f.val : Int).fdiv 5 < 9 → (f.val : Int).fdiv 5 < 18 → 223 = sgnC f.val ∧ sgnL f.val = [115, 115] := by decide +kernel
theorem sg7 : ∀ f : Fin 135, ((f.val : Int).fmod 5 ≠ 0 ∧ (f.val : Int).fmod 5 ≠ 1 ∧ (f.val : Int).fmod 5 ≠ 2) → ((f.val : Int).fmod 5 ≠ 4 ∧ ¬ (f.val : Int).fdiv 5 < 9 ∧ ¬ (f.val : Int).fdiv 5 < 18) → (119790 + (f.val : Int).fdiv 5).toNat = sgnC f.val ∧ sgnL f.val = [(79 + (f.val : Int).fdiv 5).toNat] := by decide +kernel
section
variable {f : Nat} (hf : f < 135)
include hf
theorem sx0 (h : (f : Int).fmod 5 = 0) : (⟨#[(97 + ((f : Int).fdiv 5).fmod 26).toNat]⟩ : Str) = sgnT f ∧ (⟨#[(97 + ((f : Int).fdiv 5).fmod 26).toNat]⟩ : Str) = smlT f := by
  have q := sg0 ⟨f, hf⟩ h; exact ⟨strE q.1, by unfold smlT; rw [q.2]⟩
theorem sx1 (h : (f : Int).fmod 5 = 1) : (⟨#[(65 + ((f : Int).fdiv 5).fmod 26).toNat]⟩ : Str) = sgnT f ∧ (⟨#[(97 + ((f : Int).fdiv 5).fmod 26).toNat]⟩ : Str) = smlT f := by
  have q := sg1 ⟨f, hf⟩ h; exact ⟨strE q.1, by unfold smlT; rw [q.2]⟩
theorem sx2 (h : (f : Int).fmod 5 = 2) (h2 : 10 < (f : Int).fdiv 5) : (⟨#[(65013 + (f : Int).fdiv 5).toNat]⟩ : Str) = sgnT f ∧ Str.ofString "" = smlT f := by
  have q := sg2 ⟨f, hf⟩ h h2; exact ⟨strE q.1, by unfold smlT; rw [q.2]; decide⟩
theorem sx3 (h : (f : Int).fmod 5 = 2) (h2 : ¬ 10 < (f : Int).fdiv 5) : (⟨#[(t11L.getD ((f : Int).fdiv 5).toNat 0).toNat]⟩ : Str) = sgnT f ∧ Str.ofString "" = smlT f := by
  have q := sg3 ⟨f, hf⟩ h h2; exact ⟨strE q.1, by unfold smlT; rw [q.2]; decide⟩
theorem sx4 (h : (f : Int).fmod 5 = 4) : (⟨#[(t8L.getD (((f : Int).fdiv 5).fmod 8).toNat 0).toNat]⟩ : Str) = sgnT f ∧ (⟨#[(t8L.getD (((f : Int).fdiv 5).fmod 8).toNat 0).toNat]⟩ : Str) = smlT f := by
  have q := sg4 ⟨f, hf⟩ h; exact ⟨strE q.1, by unfold smlT; rw [q.2]⟩
theorem sx5 (h0 : (f : Int).fmod 5 ≠ 0) (h1 : (f : Int).fmod 5 ≠ 1) (h2 : (f : Int).fmod 5 ≠ 2) (h4 : (f : Int).fmod 5 ≠ 4) (h : (f : Int).fdiv 5 < 9) : Str.ofString "\"" = sgnT f ∧ Str.ofString "\"" = smlT f := by
  have q := sg5 ⟨f, hf⟩ h0 h1 h2 h4 h; exact ⟨(by decide : Str.ofString "\"" = ⟨#[34]⟩).trans (strE q.1), by unfold smlT; rw [q.2]; decide⟩
theorem sx6 (h0 : (f : Int).fmod 5 ≠ 0) (h1 : (f : Int).fmod 5 ≠ 1) (h2 : (f : Int).fmod 5 ≠ 2) (h4 : (f : Int).fmod 5 ≠ 4) (h : ¬ (f : Int).fdiv 5 < 9) (h' : (f : Int).fdiv 5 < 18) : (⟨#[(223 : Int).toNat]⟩ : Str) = sgnT f ∧ Str.ofString "ss" = smlT f := by
  have q := sg6 ⟨f, hf⟩ h0 h1 h2 h4 h h'; exact ⟨strE q.1, by unfold smlT; rw [q.2]; decide⟩
theorem sx7 (h0 : (f : Int).fmod 5 ≠ 0) (h1 : (f : Int).fmod 5 ≠ 1) (h2 : (f : Int).fmod 5 ≠ 2) (h4 : (f : Int).fmod 5 ≠ 4) (h : ¬ (f : Int).fdiv 5 < 9) (h' : ¬ (f : Int).fdiv 5 < 18) : (⟨#[(119790 + (f : Int).fdiv 5).toNat]⟩ : Str) = sgnT f ∧ (⟨#[(79 + (f : Int).fdiv 5).toNat]⟩ : Str) = smlT f := by
  have q := sg7 ⟨f, hf⟩ ⟨h0, h1, h2⟩ ⟨h4, h, h'⟩; exact ⟨strE q.1, by unfold smlT; rw [q.2]⟩
theorem rng3 : 0 ≤ t11L.getD ((f : Int).fdiv 5).toNat 0 ∧ t11L.getD ((f : Int).fdiv 5).toNat 0 ≤ 1114111 := fin135 (P := fun f => 0 ≤ t11L.getD ((f : Int).fdiv 5).toNat 0 ∧ t11L.getD ((f : Int).fdiv 5).toNat 0 ≤ 1114111) (by decide +kernel) hf
theorem rng4 : 0 ≤ t8L.getD (((f : Int).fdiv 5).fmod 8).toNat 0 ∧ t8L.getD (((f : Int).fdiv 5).fmod 8).toNat 0 ≤ 1114111 := fin135 (P := fun f => 0 ≤ t8L.getD (((f : Int).fdiv 5).fmod 8).toNat 0 ∧ t8L.getD (((f : Int).fdiv 5).fmod 8).toNat 0 ≤ 1114111) (by decide +kernel) hf
end
theorem all_of_allLt {d : Addr} {l : Led} (h : AllLt d l) : ∀ p ∈ l, p.1 < d := by
  induction l with
  | nil => exact fun p hp => (nomatch hp)
  | cons a r ih =>
    obtain ⟨h1, h2⟩ := h
    intro p hp
    rcases List.mem_cons.mp hp with e | hp
    · rw [e]; exact h1
    · exact ih h2 p hp
theorem rulesV2x1 : True := by
  (k_with "LT9" => first | assumption | exact all_of_allLt (by assumption) | (refine' all_of_allLt (And.right ?z9); (case z9 => assumption)) | (refine' all_of_allLt (And.right (And.right ?z9)); (case z9 => assumption)) | (refine' all_of_allLt (And.right (And.right (And.right ?z9))); (case z9 => assumption)))
  (k_with "call builtin:chr" => (k_here; first | refine chr_of_range (by omega) (by omega) ?_ | refine chr_of_range (rng3 (by assumption)).1 (rng3 (by assumption)).2 ?_ | refine chr_of_range (rng4 (by assumption)).1 (rng4 (by assumption)).2 ?_))
  (k_with "SG9" => first | exact (sx0 (by assumption) (by assumption)).1 | exact (sx0 (by assumption) (by assumption)).2 | exact (sx1 (by assumption) (by assumption)).1 | exact (sx1 (by assumption) (by assumption)).2 | exact (sx2 (by assumption) (by assumption) (by assumption)).1 | exact (sx2 (by assumption) (by assumption) (by assumption)).2 | exact (sx3 (by assumption) (by assumption) (by assumption)).1 | exact (sx3 (by assumption) (by assumption) (by assumption)).2 | exact (sx4 (by assumption) (by assumption)).1 | exact (sx4 (by assumption) (by assumption)).2 | exact (sx5 (by assumption) (by assumption) (by assumption) (by assumption) (by assumption) (by assumption)).1 | exact (sx5 (by assumption) (by assumption) (by assumption) (by assumption) (by assumption) (by assumption)).2 | exact (sx6 (by assumption) (by assumption) (by assumption) (by assumption) (by assumption) (by assumption) (by assumption)).1 | exact (sx6 (by assumption) (by assumption) (by assumption) (by assumption) (by assumption) (by assumption) (by assumption)).2 | exact (sx7 (by assumption) (by assumption) (by assumption) (by assumption) (by assumption) (by assumption) (by assumption)).1 | exact (sx7 (by assumption) (by assumption) (by assumption) (by assumption) (by assumption) (by assumption) (by assumption)).2)
  trivial
set_option maxHeartbeats 4000000 in
theorem sign_con (w : World) (p : Program) (loose : List Str) (mean : ExcName → Option Value) (mg mb : Str → Option Value) (f : Nat) (hf : f < 135) (tk : Tok) (news : Led) :
    Con w p loose mean mg mb 131 [.int (f : Int) tk] news (RetSign f news) := by
  intro dp un gd cn cs a ccd cl outer A₀ base h₀ L m s Q E B F X N T hk hd hu R
  revert X; k_fill; intro X
  refine wpAny_call ?_
  k_dflt cell_enter
  k_steps
  all_goals (refine sign_end (f := f) R (by k_asm) (by k_asm) (by k_mem) ?_ ?_ ?_ ?_)
  all_goals first | exact fun q hq => .tail _ (.tail _ hq) | exact fun q hq => .tail _ (.tail _ (.tail _ hq)) | walk_at "LT9" | walk_at "SG9" | skip
  all_goals trace_state
end
section
open PySem PySem.W PyProof.Rows
theorem rulesV3x0 : True := by
  k_with_none
  trivial
noncomputable def lookB3 (k : Int) : Option Value := (b3es.find? fun e => Value.isInt k e.key).map (·.val)
noncomputable def mapB3 (c : Nat) : Str := match lookB3 c with
  | some (.str s _) => s
  | _ => Txt.lower ⟨#[c]⟩
noncomputable def okD (e : DictEntry) : Bool := match e.key with
  | .int k _ => e.hash == hashInt k && (match e.val with | .str _ _ => true | _ => false)
  | _ => false
theorem b3es_ok : b3es.all okD = true := by decide +kernel
theorem findBy_b3 (k : Int) : findBy Value.isInt b3es.toArray k = lookB3 k := by
  unfold findBy lookB3
  rw [List.find?_toArray]
theorem map79 {prog : Program} {w : World} {h : Heap} (X : (K w.params).In h) : h.MapOf (intKind prog w) 79 lookB3 :=
  ⟨_, b3es.toArray, 650, X 79 _ rfl, ⟨rfl, rfl, rfl⟩, rfl, fun e he => by
    have hk := List.all_eq_true.mp b3es_ok e (Array.mem_toList_iff.mpr he)
    obtain ⟨hs, k, v⟩ := e
    cases k <;> simp only [okD] at hk <;> try cases hk
    rename_i i t
    exact ⟨i, isInt_iff (t := t).mpr rfl, beq_iff_eq.mp (Bool.and_eq_true_iff.mp hk).1⟩, findBy_b3⟩
theorem lookB3_str {k : Int} {v : Value} (h : lookB3 k = some v) : ∃ s t, v = .str s t := by
  unfold lookB3 at h
  obtain ⟨e, he, rfl⟩ := Option.map_eq_some_iff.mp h
  have hk := List.all_eq_true.mp b3es_ok e (List.mem_of_find?_eq_some he)
  obtain ⟨hs, k, v⟩ := e
  cases k <;> simp only [okD] at hk <;> try cases hk
  cases v <;> simp only [Bool.and_false] at hk <;> try cases hk
  exact ⟨_, _, rfl⟩
section
variable {w : World} {A : Around} {E : Value → Shared → Prop} {s : Shared}
theorem get_b3 {prog : Program} {c : Int} {t : Tok} {Q : VP} (X : (K w.params).In s.heap) (h0 : lookB3 c = none → Q .none { s with toks := s.toks + 1 }) (h1 : ∀ x u, lookB3 c = some (.str x u) → Q (.str x u) { s with toks := s.toks + 1 }) :
    wpAny (model prog w) A (call (.builtin "dict.get") [.ref 79, .int c t]) Q E s := by
  have hm := map79 (prog := prog) X
  refine call_meetsIn PySem.F.slot_dict_get hm.typeIs PySem.F.entry_dict_get (PySem.F.args_dict_get_2 _ _) (meets_dict_get (intKind prog w) 79 (intKind_is prog w c t) rfl) ⟨_, hm, ?_⟩
  cases hl : lookB3 c with
  | none => exact h0 hl
  | some v =>
    obtain ⟨x, u, rfl⟩ := lookB3_str hl
    exact h1 x u hl
theorem meth_b3 {prog : Program} {pl : Sem Bool} {Q : Value × List Value → Shared → Prop} (X : (K w.params).In s.heap) (h : Q (.builtin "dict.get", [.ref 79]) s) : wpAny (model prog w) A (getMethod (.ref 79) "get" pl) Q E s := by
  have hm := map79 (prog := prog) X
  exact getMethod_builtin hm.typeIs PySem.F.plainAttrs_dict PySem.F.slot_dict_get PySem.F.type_dict_get hm.noDict h
end
/-- the signs that are asked of map_table_b3, and what it tells of them -/
noncomputable def okSigns : List (Nat × List Nat) := ((List.range 26).map fun i => (97 + i, [97 + i])) ++ ((List.range 26).map fun i => (65 + i, [97 + i])) ++ [(34, [34]), (223, [115, 115])] ++ ((List.range 9).map fun i => (119808 + i, [97 + i])) ++ ([174, 848, 6151, 6158, 8206, 8289, 65280, 65040].map fun c => (c, [c]))
noncomputable def okMap (p : Nat × List Nat) : Bool := match lookB3 p.1 with
  | some (.str s _) => s == ⟨p.2.toArray⟩
  | _ => Txt.lower ⟨#[p.1]⟩ == ⟨p.2.toArray⟩
set_option maxHeartbeats 0 in
theorem okSigns_ok : okSigns.all okMap = true := by decide +kernel
theorem ok_of {c : Nat} {d : List Nat} (h : (c, d) ∈ okSigns) : okMap (c, d) = true := List.all_eq_true.mp okSigns_ok _ h
theorem b3_low {c : Nat} {d : List Nat} (h : (c, d) ∈ okSigns) (hl : lookB3 c = none) : Txt.lower ⟨#[c]⟩ = ⟨d.toArray⟩ := by
  have q := ok_of h
  simp only [okMap, hl] at q
  exact beq_iff_eq.mp q
theorem b3_some {c : Nat} {d : List Nat} {x : Str} {u : Nat} (h : (c, d) ∈ okSigns) (hl : lookB3 c = some (.str x u)) : x = ⟨d.toArray⟩ := by
  have q := ok_of h
  simp only [okMap, hl] at q
  exact beq_iff_eq.mp q
theorem okSigns_short : okSigns.all (fun p => decide (p.2.length ≤ 2)) = true := by decide +kernel
theorem short_of {c : Nat} {d : List Nat} (h : (c, d) ∈ okSigns) : d.length ≤ 2 := of_decide_eq_true (List.all_eq_true.mp okSigns_short _ h)
theorem rulesV3x1 : True := by
  (k_with "getMethod ref" => (k_here; (with_reducible show wpAny _ _ (getMethod (Value.ref 79) _ _) _ _ _); k_dflt (refine' meth_b3 ?k1 ?_; (case k1 => exact (Frag.In.keeps (by k_asm) (Fr.keep (by k_asm)))))))
  (k_with "call builtin:dict.get" => (k_here; (with_reducible show wpAny _ _ (call (Value.builtin "dict.get") [Value.ref 79, Value.int _ _]) _ _ _); k_dflt (refine' get_b3 ?k1 ?_ ?_; (case k1 => exact (Frag.In.keeps (by k_asm) (Fr.keep (by k_asm))))); intro _))
  trivial
theorem lower_b3 {prog : Program} {w : World} {A : Around} {E : Value → Shared → Prop} {s : Shared} {c : Nat} {d : List Nat} {t : Tok} {Q : VP} (hcd : (c, d) ∈ okSigns) (hl : lookB3 c = none) (h : Q (.str ⟨d.toArray⟩ s.toks) { s with toks := s.toks + 1 }) :
    wpAny (model prog w) A (call (.builtin "str.lower") [.str ⟨#[c]⟩ t]) Q E s :=
  PyProof.Rows.SCL.lower (by show (1 : Nat) ≤ 5592405; decide) fun _ => by rw [b3_low hcd hl]; exact h
theorem mapb3_end {c : Nat} {d : List Nat} {x : Str} {u : Nat} {news : Led} {h₀ h' : Heap} {L : Addr} {m : Str → Option Value} {s : Shared} {Q : VP} {tk' : Nat} (R : RetV (fun t => .str ⟨d.toArray⟩ t) news h₀ L m s Q) (hcd : (c, d) ∈ okSigns) (hl : lookB3 c = some (.str x u)) (F : Fr h₀ L h' m) (N : News h₀ L h' news) :
    Q (.str x u) { s with heap := h', toks := tk' } := by
  rw [b3_some hcd hl]; exact R u h' tk' F N
theorem rulesV3x2 : True := by
  (k_with "call builtin:str.lower" => (k_here; (try dsimp only); refine lower_b3 (by assumption) (by assumption) ?_))
  trivial
set_option maxHeartbeats 4000000 in
theorem mapb3_con (w : World) (p : Program) (loose : List Str) (mean : ExcName → Option Value) (mg mb : Str → Option Value) (c : Nat) (d : List Nat) (hcd : (c, d) ∈ okSigns) (tk : Tok) (news : Led) :
    Con w p loose mean mg mb 124 [.str ⟨#[c]⟩ tk] news (RetV (fun t => .str ⟨d.toArray⟩ t) news) := by
  intro dp un gd cn cs a ccd cl outer A₀ base h₀ L m s Q E B F X N T hk hd hu R
  revert X; k_fill; intro X
  refine wpAny_call ?_
  k_dflt cell_enter
  k_steps
  · exact R _ _ _ (by k_asm) (by k_asm)
  · exact mapb3_end R hcd (by assumption) (by k_asm) (by k_asm)
end
section
open PySem PySem.W PyProof.Rows
theorem rulesV4x0 : True := by
  k_with_none
  trivial
noncomputable def RowIn (news : Led) (a : Addr) (r : Int → Int) : Prop := ∃ (its : Array Value) (k : Nat), (a, listOf its k) ∈ news ∧ ∀ j : Int, 0 ≤ j → j < 6 → ∃ t, its[j.toNat]? = some (.int (r j) t)
noncomputable def TabIn (news : Led) (a : Addr) (W : Int → Int → Int) : Prop := ∃ (its : Array Value) (k : Nat), (a, listOf its k) ∈ news ∧ ∀ i : Int, 0 ≤ i → i < 6 → ∃ ra, its[i.toNat]? = some (.ref ra) ∧ RowIn news ra (W i)
theorem RowIn.mono {news news' : Led} {a : Addr} {r : Int → Int} (h : RowIn news a r) (s : ∀ q ∈ news, q ∈ news') : RowIn news' a r := let ⟨its, k, h1, h2⟩ := h; ⟨its, k, s _ h1, h2⟩
theorem TabIn.mono {news news' : Led} {a : Addr} {W : Int → Int → Int} (h : TabIn news a W) (s : ∀ q ∈ news, q ∈ news') : TabIn news' a W :=
  let ⟨its, k, h1, h2⟩ := h; ⟨its, k, s _ h1, fun i hi hi' => let ⟨ra, e, r⟩ := h2 i hi hi'; ⟨ra, e, r.mono s⟩⟩
section
variable {prog : Program} {w : World} {A : Around} {E : Value → Shared → Prop} {s : Shared} {h₀ : Heap} {L : Addr} {news : Led}
theorem sub_tab {value slice : Expr} {a : Addr} {W : Int → Int → Int} {i : Int} {u : Tok} {Q : VP} (N : News h₀ L s.heap news) (T : TabIn news a W) (h0 : 0 ≤ i) (h1 : i < 6) (h : ∀ ra, RowIn news ra (W i) → Q (.ref ra) s)
    (hs : subscripted slice false (.ref a) (.int i u) = operate [.ref a, .int i u] (getItem (.ref a) (.int i u)) := by with_unfolding_all rfl) :
    wpAny (model prog w) A (subscriptTail value slice (.ref a) (.int i u)) Q E s := by
  obtain ⟨its, k, hm, hr⟩ := T
  obtain ⟨ra, e, r⟩ := hr i h0 h1
  have hl : s.heap.IsList a its := ⟨_, (N _ hm).1, rfl, k, rfl⟩
  exact tail_any hl.typeIs slot_list_getitem.lookup (wpAny_getItem_list hl h0 (by omega) e (h ra r)) hs
theorem sub_row {value slice : Expr} {a : Addr} {r : Int → Int} {i : Int} {u : Tok} {Q : VP} (N : News h₀ L s.heap news) (T : RowIn news a r) (h0 : 0 ≤ i) (h1 : i < 6) (h : ∀ t, Q (.int (r i) t) s)
    (hs : subscripted slice false (.ref a) (.int i u) = operate [.ref a, .int i u] (getItem (.ref a) (.int i u)) := by with_unfolding_all rfl) :
    wpAny (model prog w) A (subscriptTail value slice (.ref a) (.int i u)) Q E s := by
  obtain ⟨its, k, hm, hr⟩ := T
  obtain ⟨t, e⟩ := hr i h0 h1
  have hl : s.heap.IsList a its := ⟨_, (N _ hm).1, rfl, k, rfl⟩
  exact tail_any hl.typeIs slot_list_getitem.lookup (wpAny_getItem_list hl h0 (by omega) e (h t)) hs
end
theorem retI_end {x y : Int} {t tk' : Nat} {news rest : Led} {h₀ h' : Heap} {L : Addr} {m : Str → Option Value} {s : Shared} {Q : VP} (R : RetV (fun t => .int x t) news h₀ L m s Q) (e : y = x) (F : Fr h₀ L h' m) (N : News h₀ L h' rest) (hs : ∀ q ∈ news, q ∈ rest) :
    Q (.int y t) { s with heap := h', toks := tk' } := by
  subst e; exact R t h' tk' F fun q hq => N q (hs q hq)
noncomputable def lessF (W : Int → Int → Int) (f e : Int) : Int := if f = e then 0 else min (W (f + 1) e) (W f (e - 1))
theorem rulesV4x1 : True := by
  (k_with "subscriptTail" => (k_here; (with_reducible show wpAny _ _ (subscriptTail _ _ (Value.ref _) (Value.int _ _)) _ _ _); k_dflt (first | (refine' sub_tab ?N ?T ?h0 ?h1 ?_; (case N => k_asm); (case T => with_reducible assumption); (case h0 => omega); (case h1 => omega); intro raz9 hRz9) | (refine' sub_row ?N ?T ?h0 ?h1 ?_; (case N => k_asm); (case T => with_reducible assumption); (case h0 => omega); (case h1 => omega); intro tz9))))
  trivial
set_option maxHeartbeats 4000000 in
theorem less_con (w : World) (p : Program) (loose : List Str) (mean : ExcName → Option Value) (mg mb : Str → Option Value) (wa : Addr) (W : Int → Int → Int) (fr en : Int) (t1 t2 : Tok) (news : Led) (TW : TabIn news wa W) (h0 : 0 ≤ fr) (h1 : fr ≤ en) (h2 : en ≤ 5) :
    Con w p loose mean mg mb 165 [.ref wa, .int fr t1, .int en t2] news (RetV (fun t => .int (lessF W fr en) t) news) := by
  intro dp un gd cn cs a ccd cl outer A₀ base h₀ L m s Q E B F X N T hk hd hu R
  revert X; k_fill; intro X
  refine wpAny_call ?_
  k_dflt cell_enter
  k_steps
  all_goals (refine retI_end R ?_ (by k_asm) (by k_asm) (fun q hq => hq); unfold lessF; (repeat' split) <;> omega)
end
section
open PySem PySem.W PyProof.Rows
theorem rulesV5x0 : True := by
  k_with_none
  trivial
/-- a text whose quotation marks are doubled -/
noncomputable def dbl : List Nat → List Nat
  | [] => []
  | c :: r => if c = 34 then 34 :: 34 :: dbl r else c :: dbl r
theorem dbl_cons (c : Nat) (r : List Nat) : dbl (c :: r) = (if c = 34 then [34, 34] else [c]) ++ dbl r := by
  show (if c = 34 then _ else _) = _
  split <;> rfl
theorem dbl_append (a b : List Nat) : dbl (a ++ b) = dbl a ++ dbl b := by
  induction a with
  | nil => rfl
  | cons c a ih => rw [List.cons_append, dbl_cons, dbl_cons, ih, List.append_assoc]
noncomputable def tail257 : List Nat := [34, 32, 105, 115, 32, 119, 104, 97, 116, 32, 116, 104, 101, 114, 101, 32, 105, 115]
noncomputable def head257 : List Nat := [50, 53, 55, 32, 34]
noncomputable def resp (d : List Nat) : List Nat := head257 ++ (dbl d ++ tail257)
noncomputable def respT (d : List Nat) : Str := ⟨(resp d).toArray⟩
theorem resp_len (d : List Nat) : (respT d).length = 23 + (dbl d).length := by
  show (resp d).toArray.size = _
  simp [resp, head257, tail257]; omega
theorem resp_at (d : List Nat) (k : Nat) : (resp d)[5 + k]? = (dbl d ++ tail257)[k]? := by
  unfold resp
  rw [List.getElem?_append_right (by simp [head257])]
  congr 1
  simp [head257]
/-- at the sign after j signs of the name -/
theorem resp_sign {d : List Nat} {j c : Nat} (h : d[j]? = some c) : (resp d)[5 + (dbl (d.take j)).length]? = some c ∧ (c = 34 → (resp d)[5 + ((dbl (d.take j)).length + 1)]? = some 34) ∧
    (dbl (d.take (j + 1))).length = (dbl (d.take j)).length + (if c = 34 then 2 else 1) := by
  have hl : j < d.length := (List.getElem?_eq_some_iff.mp h).1
  have he : d[j] = c := (List.getElem?_eq_some_iff.mp h).2
  have hd : d = d.take j ++ (c :: d.drop (j + 1)) := by
    rw [← he, List.getElem_cons_drop]; exact (List.take_append_drop j d).symm
  have hD : dbl d ++ tail257 = dbl (d.take j) ++ (dbl (c :: d.drop (j + 1)) ++ tail257) := by
    rw [← List.append_assoc, ← dbl_append, ← hd]
  refine ⟨?_, ?_, ?_⟩
  · rw [resp_at, hD, List.getElem?_append_right (Nat.le_refl _), Nat.sub_self]
    rw [dbl_cons]
    split
    · rename_i e; rw [e]; rfl
    · rfl
  · intro hc
    rw [resp_at, hD, List.getElem?_append_right (Nat.le_add_right _ _), Nat.add_sub_cancel_left]
    rw [dbl_cons, if_pos hc]; rfl
  · have : d.take (j + 1) = d.take j ++ [c] := by rw [List.take_succ_eq_append_getElem hl, he]
    rw [this, dbl_append, List.length_append]
    congr 1
    rw [dbl_cons]
    split <;> rfl
theorem resp_end (d : List Nat) : (resp d)[5 + (dbl d).length]? = some 34 ∧ (resp d)[5 + ((dbl d).length + 1)]? = some 32 := by
  refine ⟨?_, ?_⟩
  · rw [resp_at, List.getElem?_append_right (Nat.le_refl _), Nat.sub_self]; rfl
  · rw [resp_at, List.getElem?_append_right (Nat.le_add_right _ _), Nat.add_sub_cancel_left]; rfl
section
variable {prog : Program} {w : World} {A : Around} {E : Value → Shared → Prop} {s : Shared}
theorem str_item {value slice : Expr} {x : Str} {t u : Tok} {i : Int} {c : Nat} {Q : VP} (h0 : 0 ≤ i) (h1 : i < 2 ^ 63) (hx : x.cps[i.toNat]? = some c) (h : ∀ t' tk', Q (.str ⟨#[c]⟩ t') { s with toks := tk' })
    (hs : subscripted slice false (.str x t) (.int i u) = operate [.str x t, .int i u] (getItem (.str x t) (.int i u)) := by with_unfolding_all rfl) :
    wpAny (model prog w) A (subscriptTail value slice (.str x t) (.int i u)) Q E s := by
  refine tail_any (typeIs_str s x t) F.slot_str_getitem.lookup (P.getItem_str (c := c) ?_ ?_ (h _ _)) hs
  · have a1 : ¬ i < -(2 ^ 63 : Int) := by omega
    have a2 : ¬ i ≥ 2 ^ 63 := by omega
    rw [decide_eq_false a1, decide_eq_false a2]; rfl
  · have hl : i.toNat < x.length := by
      have := (Array.getElem?_eq_some_iff.mp hx).1
      exact this
    have : seqIndex? i x.length = some i.toNat := by
      have h3 : ¬ i < 0 := by omega
      have h4 : i < (x.length : Int) := by omega
      unfold seqIndex?
      simp only [if_neg h3, decide_eq_true h0, decide_eq_true h4, Bool.and_self, if_true]
    rw [this]; exact hx
end
end
section
open PySem PySem.W PyProof.Rows
theorem rulesV6x0 : True := by
  k_with_none
  trivial
theorem dbl_le : ∀ d : List Nat, (dbl d).length ≤ 2 * d.length
  | [] => Nat.le_refl _
  | c :: r => by
    have := dbl_le r
    rw [dbl_cons, List.length_append, List.length_cons]
    split
    · show 2 + _ ≤ _; omega
    · show 1 + _ ≤ _; omega
theorem resp_h3 (d : List Nat) : Txt.slice (respT d) none (some 3) = Str.ofString "257" := by
  refine (StrLaws.sliceText_to (x := respT d) (j := 3) ⟨by decide, ?_⟩).trans ?_
  · show (3 : Int) ≤ ((resp d).length : Int); simp [resp, head257]; omega
  · show (⟨(((resp d).drop 0).take 3).toArray⟩ : Str) = _
    rw [show ((resp d).drop 0).take 3 = [50, 53, 55] from rfl]; decide
theorem resp_h5 (d : List Nat) : Txt.slice (respT d) (some 3) (some 5) = Str.ofString " \"" := by
  refine (StrLaws.sliceText_plain (x := respT d) (i := 3) (j := 5) ⟨by decide, by decide, ?_⟩).trans ?_
  · show (5 : Int) ≤ ((resp d).length : Int); simp [resp, head257]; omega
  · show (⟨(((resp d).drop 3).take 2).toArray⟩ : Str) = _
    rw [show ((resp d).drop 3).take 2 = [32, 34] from rfl]; decide
noncomputable def mP (d : List Nat) (tk : Tok) (j t1 t2 t3 : Nat) (cv : Option Value) : Str → Option Value := fun y =>
  if y = Str.ofString "dirname" then some (.str ⟨(d.take j).toArray⟩ t1)
  else if y = Str.ofString "i" then some (.int (5 + ((dbl (d.take j)).length : Int)) t2)
  else if y = Str.ofString "c" then cv
  else if y = Str.ofString "n" then some (.int (23 + ((dbl d).length : Int)) t3)
  else if y = Str.ofString "resp" then some (.str (respT d) tk) else none
theorem mP_of {f : Str → Option Value} {d : List Nat} {tk : Tok} {j t1 t2 t3 : Nat} {cv : Option Value}
    (h0 : f (Str.ofString "dirname") = some (.str ⟨(d.take j).toArray⟩ t1)) (h1 : f (Str.ofString "i") = some (.int (5 + ((dbl (d.take j)).length : Int)) t2)) (h2 : f (Str.ofString "c") = cv) (h3 : f (Str.ofString "n") = some (.int (23 + ((dbl d).length : Int)) t3)) (h4 : f (Str.ofString "resp") = some (.str (respT d) tk))
    (he : ∀ y, ¬ y = Str.ofString "dirname" → ¬ y = Str.ofString "i" → ¬ y = Str.ofString "c" → ¬ y = Str.ofString "n" → ¬ y = Str.ofString "resp" → f y = none) : f = mP d tk j t1 t2 t3 cv := by
  funext y
  unfold mP
  by_cases a0 : y = Str.ofString "dirname"
  · subst a0; exact h0
  rw [if_neg a0]
  by_cases a1 : y = Str.ofString "i"
  · subst a1; exact h1
  rw [if_neg a1]
  by_cases a2 : y = Str.ofString "c"
  · subst a2; exact h2
  rw [if_neg a2]
  by_cases a3 : y = Str.ofString "n"
  · subst a3; exact h3
  rw [if_neg a3]
  by_cases a4 : y = Str.ofString "resp"
  · subst a4; exact h4
  rw [if_neg a4]
  exact he y a0 a1 a2 a3 a4
noncomputable def JP (d : List Nat) (tk : Tok) (news : Led) (n : Nat) (m₁ : Str → Option Value) (news₁ : Led) : Prop :=
  ∃ j t1 t2 t3 cv, j ≤ d.length ∧ n = d.length - j ∧ news₁ = news ∧ m₁ = mP d tk j t1 t2 t3 cv
theorem rulesV6x1 : True := by
  (k_with "subscriptTail Name Slice str ref" => (k_here; (with_reducible rename Fr _ _ _ _ => fF); (with_reducible rename News _ _ _ _ => fN); first | (refine slice_strN_ns fF fN ?_ (hsz := by size_fits); intro _ _ _ _ _; rw [resp_h3]) | (refine slice_strN_ss fF fN ?_ (hsz := by size_fits); intro _ _ _ _ _; rw [resp_h5])))
  trivial
theorem while_brk {h₀ : Heap} {L : Addr} {s s₃ : Shared} {J : Nat → (Str → Option Value) → List (Addr × Obj) → Prop} {Q : Flow → Shared → Prop} {n : Nat} (h : Q .next s₃) : WhileStep2 h₀ L s J Q n .brk s₃ := h
/-- the walk stops here -/
noncomputable def Stop (P : Prop) : Prop := P
theorem Stop.out {P : Prop} (h : Stop P) : P := h
theorem rulesV6x2 : True := by
  (k_with "exec While Compare cons nil" => (k_here; refine Stop.out ?_))
  (k_with "subscriptTail Name Name str int" => (k_here; refine str_item (by omega) (by omega) (by assumption) ?_; intro _ _))
  trivial
theorem lookup_none {y a : Str} {v : Value} (h : y ≠ a) : List.lookup y [(a, v)] = none := by
  rw [List.lookup_cons, beq_eq_false_iff_ne.mpr h]; rfl
theorem mP0 {d : List Nat} {tk : Tok} {t1 t2 t3 : Nat} {f : Str → Option Value} (h : ∀ y, f y = mP d tk 0 t1 t2 t3 none y) : f = mP d tk 0 t1 t2 t3 none := funext h
theorem respA {d : List Nat} {k c : Nat} (h : (resp d)[5 + k]? = some c) : (respT d).cps[(5 + (k : Int)).toNat]? = some c := by
  have : (5 + (k : Int)).toNat = 5 + k := by omega
  rw [this]; simpa [respT] using h
theorem respB {d : List Nat} {k c : Nat} (h : (resp d)[5 + (k + 1)]? = some c) : (respT d).cps[(5 + (k : Int) + 1).toNat]? = some c := by
  have : (5 + (k : Int) + 1).toNat = 5 + (k + 1) := by omega
  rw [this]; simpa [respT] using h
theorem one_ne {c : Nat} (h : c ≠ 34) : ((⟨#[c]⟩ : Str) == Str.ofString "\"") = false := by
  rw [beq_eq_false_iff_ne]
  intro e
  have : (⟨#[c]⟩ : Str).cps = #[34] := by rw [e]; decide
  simp at this; exact h this
theorem take_snoc {d : List Nat} {j c : Nat} (hc : d[j]? = some c) : (⟨(d.take j).toArray⟩ ++ ⟨#[c]⟩ : Str) = ⟨(d.take (j + 1)).toArray⟩ := by
  have hl : j < d.length := (List.getElem?_eq_some_iff.mp hc).1
  have he : d[j] = c := (List.getElem?_eq_some_iff.mp hc).2
  rw [List.take_succ_eq_append_getElem hl, he]
  show (⟨(d.take j).toArray ++ #[c]⟩ : Str) = _
  simp
set_option maxHeartbeats 4000000 in
theorem parse_con (w : World) (p : Program) (loose : List Str) (mean : ExcName → Option Value) (mg mb : Str → Option Value) (d : List Nat) (hd3 : d.length ≤ 3) (tkA : Tok) (news : Led) :
    Con w p loose mean mg mb 60 [.str (respT d) tkA] news (RetV (fun t => .str ⟨d.toArray⟩ t) news) := by
  intro dp un gd cn cs a ccd cl outer A₀ base h₀ L m s Q E B F X N T hk hd hu R
  have hlen2 := resp_len d
  have hdl : (dbl d).length ≤ 6 := by have := dbl_le d; omega
  have hlen : (respT d).length ≤ 100 := by omega
  revert X; k_fill; intro X
  refine wpAny_call ?_
  k_dflt cell_enter
  k_steps
  unfold Stop
  refine While_inv2 (JP d tkA news) (n₀ := d.length) (by k_asm) (by k_asm) ?_ ?_ (by passes_own)
  · refine ⟨0, ?_, ?_, ?_, none, Nat.zero_le _, rfl, rfl, ?_⟩
    rotate_right
    · funext y
      by_cases h1 : y = Str.ofString "dirname"
      · subst h1; rfl
      by_cases h2 : y = Str.ofString "i"
      · subst h2; rfl
      by_cases h3 : y = Str.ofString "c"
      · subst h3; rfl
      by_cases h4 : y = Str.ofString "n"
      · subst h4; rw [hlen2]; rfl
      by_cases h5 : y = Str.ofString "resp"
      · subst h5; rfl
      simp only [mP, if_neg h1, if_neg h2, if_neg h3, if_neg h4, if_neg h5]
      exact lookup_none h5
  · intro n m₁ news₁ h₁ tk₁ F1 N1 J1
    obtain ⟨j, t1, t2, t3, cv, hj, hn, e1, e2⟩ := J1
    subst e1 e2
    unfold mP at F1
    by_cases hlt : j < d.length
    · obtain ⟨c, hc⟩ : ∃ c, d[j]? = some c := ⟨d[j], List.getElem?_eq_getElem hlt⟩
      obtain ⟨r1, r2, r3⟩ := resp_sign hc
      have hl6 : (dbl (d.take j)).length ≤ 2 * 3 := by have := dbl_le (d.take j); simp [List.length_take] at this; omega
      have hla : (⟨(d.take j).toArray⟩ : Str).length ≤ 3 := by show (d.take j).toArray.size ≤ 3; simp [List.length_take]; omega
      by_cases h34 : c = 34
      · subst h34
        have q1 := respA r1
        have q2 := respB (r2 rfl)
        k_steps
        refine ⟨_, _, _, _, d.length - (j + 1), rfl, by k_asm, by k_asm, by omega, ⟨j + 1, ?_, ?_, ?_, some (.str ⟨#[34]⟩ ?_), by omega, rfl, rfl, ?_⟩⟩
        rotate_right
        · have eS : (⟨(d.take j).toArray⟩ ++ Str.ofString "\"" : Str) = ⟨(d.take (j + 1)).toArray⟩ := take_snoc hc
          have eI : (5 + ((dbl (d.take j)).length : Int) + 1 + 1 : Int) = 5 + ((dbl (d.take (j + 1))).length : Int) := by rw [r3, if_pos rfl]; omega
          refine' mP_of ?q0 ?q1 ?q2 ?q3 ?q4 ?qe
          case q0 => exact congrArg (fun z => some (Value.str z _)) eS
          case q1 => exact congrArg (fun z => some (Value.int z _)) eI
          case q2 => rfl
          case q3 => rfl
          case q4 => rfl
          case qe => ((intro y a0 a1 a2 a3 a4); (repeat (refine (if_neg (by with_reducible assumption)).trans ?_)); exact rfl)
      · have q1 := respA r1
        have q3 : ((⟨#[c]⟩ : Str) == Str.ofString "\"") = false := one_ne h34
        k_steps
        refine ⟨_, _, _, _, d.length - (j + 1), rfl, by k_asm, by k_asm, by omega, ⟨j + 1, ?_, ?_, ?_, some (.str ⟨#[c]⟩ ?_), by omega, rfl, rfl, ?_⟩⟩
        rotate_right
        · have eS : (⟨(d.take j).toArray⟩ ++ ⟨#[c]⟩ : Str) = ⟨(d.take (j + 1)).toArray⟩ := take_snoc hc
          have eI : (5 + ((dbl (d.take j)).length : Int) + 1 : Int) = 5 + ((dbl (d.take (j + 1))).length : Int) := by rw [r3, if_neg h34]; omega
          refine' mP_of ?q0 ?q1 ?q2 ?q3 ?q4 ?qe
          case q0 => exact congrArg (fun z => some (Value.str z _)) eS
          case q1 => exact congrArg (fun z => some (Value.int z _)) eI
          case q2 => rfl
          case q3 => rfl
          case q4 => rfl
          case qe => ((intro y a0 a1 a2 a3 a4); (repeat (refine (if_neg (by with_reducible assumption)).trans ?_)); exact rfl)
    · obtain ⟨r1, r2⟩ := resp_end d
      have hjd : d.take j = d := List.take_of_length_le (Nat.le_of_not_lt hlt)
      rw [hjd] at F1
      have q1 := respA r1
      have q2 := respB r2
      k_steps
      dsimp only
      refine while_brk ?_
      dsimp only
      k_steps
      all_goals exact R _ _ _ (by k_asm) (by k_asm)
end
section
open PySem PySem.W PySem.Calls PyProof.Rows PySem.Spec
theorem rulesV7x0 : True := by
  k_with_none
  trivial
/-- an iterator over a list -/
noncomputable def LiIter (o : Obj) (l : Addr) (i : Nat) : Prop := o.cls = .type "list_iterator" ∧ o.data = .fields #[.ref l, .int i 0]
section
variable {prog : Program} {w : World} {A : Around} {E : Value → Shared → Prop} {s : Shared} {h₀ : Heap} {L l it : Addr} {m : Str → Option Value} {news : List (Addr × Obj)} {g : Obj → List (Addr × Obj)} {io : Obj} {items : Array Value} {x : Value} {i : Nat}
theorem li_iter {Q : Value → Shared → Prop} (F : Fr h₀ L s.heap m) (N : News h₀ L s.heap news) (hl : s.heap.IsList l items)
    (h : ∀ (I : Addr) h' oI, Fr h₀ L h' m → News h₀ L h' ((I, oI) :: news) → LiIter oI l 0 → (∀ p ∈ news, p.1 < I) → Q (.ref I) { s with heap := h' }) :
    wpAny (model prog w) A (call (.builtin "iter") [.ref l]) Q E s := by
  refine call_function_entry (by decide +kernel) (by decide +kernel) kdk_entry_iter (kdk_args_iter _) ?_
  unfold Builtin.«iter»
  refine wpAny_bind (m := someArgs "iter" 1 2 _) (wpAny_of_eq (a := [Value.ref l]) (by first | rfl | kernel_rfl!) ?_)
  show wpAny _ _ (pyIter (.ref l) >>= _) _ _ _
  refine wpAny_bind (wpAny_pyIter_list hl ?_)
  exact wpAny_pure ⟨_, rfl, h _ _ _ (F.push _) (News.push F N _ rfl) ⟨rfl, rfl⟩ (fun q hq => Heap.lt_size (N q hq).1)⟩
theorem li_next {Q : Value → Shared → Prop} (F : Fr h₀ L s.heap m) (N : News h₀ L s.heap news) (U : UpdF it io news g) (hi : LiIter io l i) (hl : s.heap.IsList l items) (hx : items[i]? = some x)
    (h : ∀ h' o', Fr h₀ L h' m → News h₀ L h' (g o') → LiIter o' l (i + 1) → Q x { s with heap := h' }) :
    wpAny (model prog w) A (call (.builtin "next") [.ref it]) Q E s := by
  obtain ⟨pre, post, hl', hg, a, b⟩ := U.split
  have hmem : (it, io) ∈ news := by rw [hl']; exact List.mem_append_right _ (.head _)
  have hm := N (it, io) hmem
  obtain ⟨hc, hd⟩ := hi
  have ho := hm.1
  have hT : s.TypeIs (.ref it) "list_iterator" := ⟨_, ho, hc⟩
  obtain ⟨ol, hol, _, nl, hdl⟩ := hl
  refine call_function_entry (by decide +kernel) (by decide +kernel) kdk_entry_next (kdk_args_next _) ?_
  unfold Builtin.«next»
  refine wpAny_bind (m := someArgs "next" 1 2 _) (wpAny_of_eq (a := [Value.ref it]) (by first | rfl | kernel_rfl!) ?_)
  dsimp only
  refine wpAny_bind (wpAny_specialOf (name := Str.ofString "__next__") hT slot_listiter_next.lookup ?_)
  refine wpAny_ite_split (fun hab => absurd hab (by decide)) (fun _ => ?_)
  refine wpAny_bind (wpAny_callSpecial?_slot (name := Str.ofString "__next__") hT slot_listiter_next
    (wpAny_call_entry slot_listiter_next hT entry_listiter_next ?_ (args_listiter_next _)))
  show wpAny _ _ (field (.ref it) 0 >>= _) _ _ s
  refine wpAny_bind (wpAny_field ho hd (x := .ref l) rfl ?_)
  show wpAny _ _ (if (Value.ref l == Value.none) = true then _ else _) _ _ s
  rw [if_neg (show ¬ ((Value.ref l == Value.none) = true) from Bool.false_ne_true)]
  show wpAny _ _ (field (.ref it) 1 >>= _) _ _ s
  refine wpAny_bind (wpAny_field ho hd (x := .int i 0) rfl ?_)
  show wpAny _ _ (seqItems? (.ref l) >>= _) _ _ s
  refine wpAny_bind (wpAny_seqItems hol hdl ?_)
  simp only [Int.toNat_natCast, hx]
  refine wpAny_bind (wpAny_setField ho hd (by simp) (wpAny_pure ⟨x, rfl, ?_⟩))
  have hs : Heap.SameBut it s.heap (s.heap.update it (Obj.mapFields (·.setIfInBounds 1 (rawInt ((i : Int) + 1))))) := Heap.SameBut.update ..
  have ho' := Heap.get?_update_self (Obj.mapFields (·.setIfInBounds 1 (rawInt ((i : Int) + 1)))) ho (Obj.isFreed_of_fields (Obj.data_mapFields hd _))
  exact wpAny_pure ⟨_, rfl, h _ _ (F.change hs hm.2.1 hm.2.2) (hg _ ▸ (show News h₀ L s.heap (pre ++ (it, io) :: post) from hl' ▸ N).setIn a b hs ho')
    ⟨(Obj.cls_mapFields ..).trans hc, by rw [Obj.data_mapFields hd]; simp [rawInt]⟩⟩
theorem li_stop {Q : Value → Shared → Prop} (hh : A.handled = none) (F : Fr h₀ L s.heap m) (N : News h₀ L s.heap news) (U : UpdF it io news g) (hi : LiIter io l i) (hl : s.heap.IsList l items) (hx : items[i]? = none)
    (h : ∀ h₁ h' o' e, Fr h₀ L h₁ m → News h₀ L h₁ (g o') → Heap.MadeExc h₁ h' e "StopIteration" [] → E (.ref e) { s with heap := h' }) :
    wpAny (model prog w) A (call (.builtin "next") [.ref it]) Q E s := by
  obtain ⟨pre, post, hl', hg, a, b⟩ := U.split
  have hmem : (it, io) ∈ news := by rw [hl']; exact List.mem_append_right _ (.head _)
  have hm := N (it, io) hmem
  obtain ⟨hc, hd⟩ := hi
  have ho := hm.1
  have hT : s.TypeIs (.ref it) "list_iterator" := ⟨_, ho, hc⟩
  obtain ⟨ol, hol, _, nl, hdl⟩ := hl
  refine call_function_entry (by decide +kernel) (by decide +kernel) kdk_entry_next (kdk_args_next _) ?_
  unfold Builtin.«next»
  refine wpAny_bind (m := someArgs "next" 1 2 _) (wpAny_of_eq (a := [Value.ref it]) (by first | rfl | kernel_rfl!) ?_)
  dsimp only
  refine wpAny_bind (wpAny_specialOf (name := Str.ofString "__next__") hT slot_listiter_next.lookup ?_)
  refine wpAny_ite_split (fun hab => absurd hab (by decide)) (fun _ => ?_)
  refine wpAny_bind (wpAny_callSpecial?_slot (name := Str.ofString "__next__") hT slot_listiter_next
    (wpAny_call_entry slot_listiter_next hT entry_listiter_next ?_ (args_listiter_next _)))
  show wpAny _ _ (field (.ref it) 0 >>= _) _ _ s
  refine wpAny_bind (wpAny_field ho hd (x := .ref l) rfl ?_)
  show wpAny _ _ (if (Value.ref l == Value.none) = true then _ else _) _ _ s
  rw [if_neg (show ¬ ((Value.ref l == Value.none) = true) from Bool.false_ne_true)]
  show wpAny _ _ (field (.ref it) 1 >>= _) _ _ s
  refine wpAny_bind (wpAny_field ho hd (x := .int i 0) rfl ?_)
  show wpAny _ _ (seqItems? (.ref l) >>= _) _ _ s
  refine wpAny_bind (wpAny_seqItems hol hdl ?_)
  simp only [Int.toNat_natCast, hx]
  refine wpAny_bind (wpAny_rule (wpAny_bind (wpAny_setField ho hd (by simp) ?_)))
  show wpAny _ _ (newExc (.type "StopIteration") [] >>= _) _ _ _
  refine wpAny_bind ?_
  simp only [newExc, newTuple]
  refine wpAny_bind (wpAny_newObj_type ?_ (by size_fits))
  refine wpAny_bind (m := firstArgMember _ _) (wpAny_of_eq (a := Value.none) (by first | rfl | (simp only [firstArgMember]; rfl)) ?_)
  refine wpAny_newObj_type ?_ (by size_fits)
  simp only [raiseNew]
  refine wpAny_bind (wpAny_handled ?_)
  rw [show A.in1.handled = none from hh]
  refine wpAny_bind (wpAny_pure (wpAny_throw ?_))
  have hs : Heap.SameBut it s.heap (s.heap.update it (Obj.mapFields (·.setIfInBounds 0 Value.none))) := Heap.SameBut.update ..
  have ho' := Heap.get?_update_self (Obj.mapFields (·.setIfInBounds 0 Value.none)) ho (Obj.isFreed_of_fields (Obj.data_mapFields hd _))
  refine h _ _ _ _ (F.change hs hm.2.1 hm.2.2) (hg _ ▸ (show News h₀ L s.heap (pre ++ (it, io) :: post) from hl' ▸ N).setIn a b hs ho') ?_
  refine ⟨fun b o hb => Heap.get?_push_of_some _ (Heap.get?_push_of_some _ hb), Heap.get?_none_of_le (by simp), _, ?_, Heap.get?_none_of_le (Nat.le_refl _), ?_⟩
  · exact Heap.get?_push_size _ rfl
  · exact Heap.get?_push_of_some _ (Heap.get?_push_size _ rfl)
end
end
section
open PySem PySem.W PyProof.Rows
theorem rulesV8x0 : True := by
  k_with_none
  trivial
noncomputable def ListOb (o : Obj) (items : Array Value) : Prop := o.cls = .type "list" ∧ ∃ n, o.data = .seq items n
theorem ListOb.at {o : Obj} {items : Array Value} {h : Heap} {l : Addr} (x : ListOb o items) (ho : h.get? l = some o) : h.IsList l items := ⟨o, ho, x.1, x.2⟩
section
variable {prog : Program} {w : World} {A : Around} {E : Value → Shared → Prop} {s : Shared} {h₀ : Heap} {L l it : Addr} {m : Str → Option Value} {news : List (Addr × Obj)} {g : Obj → List (Addr × Obj)} {io lo : Obj} {items : Array Value} {x : Value} {i : Nat}
theorem li_nextB {Q : Value → Shared → Prop} (F : Fr h₀ L s.heap m) (N : News h₀ L s.heap news) (U : UpdF it io news g) (hi : LiIter io l i) (hp : (l, lo) ∈ news) (hl : ListOb lo items) (hx : items[i]? = some x)
    (h : ∀ h' o', Fr h₀ L h' m → News h₀ L h' (g o') → LiIter o' l (i + 1) → Q x { s with heap := h' }) :
    wpAny (model prog w) A (call (.builtin "next") [.ref it]) Q E s := li_next F N U hi (hl.at (N _ hp).1) hx h
theorem li_stopB {Q : Value → Shared → Prop} (hh : A.handled = none) (F : Fr h₀ L s.heap m) (N : News h₀ L s.heap news) (U : UpdF it io news g) (hi : LiIter io l i) (hp : (l, lo) ∈ news) (hl : ListOb lo items) (hx : items[i]? = none)
    (h : ∀ h₁ h' o' e, Fr h₀ L h₁ m → News h₀ L h₁ (g o') → Heap.MadeExc h₁ h' e "StopIteration" [] → E (.ref e) { s with heap := h' }) :
    wpAny (model prog w) A (call (.builtin "next") [.ref it]) Q E s := li_stop hh F N U hi (hl.at (N _ hp).1) hx h
end
theorem rulesV8x1 : True := by
  (k_with "exec While BinOp cons nil" => (k_here; refine Stop.out ?_))
  (k_with "inplaceOp LShift int int" => (k_here; refine ilshift_int_small (by decide) (by decide) (by omega) ?_))
  (k_with "inplaceOp BitOr int int" => (k_here; refine ior_int ?_))
  (k_with "call builtin:next" => (k_here; (with_reducible show wpAny _ _ (call (Value.builtin "next") [Value.ref _]) _ _ _); k_dflt (first | ((refine' li_nextB ?liF ?liN ?liU ?liI ?liP ?liL ?liX ?_; (case liF => k_asm); (case liN => k_asm); (case liU => exact UpdF.head (by assumption)); (case liI => assumption); (case liL => assumption); (case liP => k_mem); (case liX => assumption)); intro hz9 oz9 Fz9 Nz9 hiz9; (try dsimp only at Nz9)) | ((refine' li_stopB ?liH ?liF ?liN ?liU ?liI ?liP ?liL ?liX ?_; (case liH => rfl); (case liF => k_asm); (case liN => k_asm); (case liU => exact UpdF.head (by assumption)); (case liI => assumption); (case liL => assumption); (case liP => k_mem); (case liX => assumption)); intro h₁z9 hz9 oz9 ez9 Fz9 Nz9 mez9; (try dsimp only at Nz9)))))
  trivial
/-- the number that codes write to the base 64 -/
noncomputable def vgo : Nat → Nat → List Nat → Option Nat
  | v, c, [] => if c / 64 % 2 = 0 then some v else none
  | v, c, d :: r => if c / 64 % 2 = 0 then some v else vgo (v * 64 + d % 64) d r
noncomputable def vint : List Nat → Option Nat
  | [] => none
  | c :: r => vgo (c % 64) c r
theorem vgo_stop {v c : Nat} {r : List Nat} (h : c / 64 % 2 = 0) : vgo v c r = some v := by
  cases r <;> simp [vgo, h]
theorem vgo_on {v c d : Nat} {r : List Nat} (h : ¬ c / 64 % 2 = 0) : vgo v c (d :: r) = vgo (v * 64 + d % 64) d r := by simp [vgo, h]
theorem vgo_none {v c : Nat} (h : ¬ c / 64 % 2 = 0) : vgo v c [] = none := by simp [vgo, h]
theorem land64 (c : Nat) : c &&& 2 ^ 6 = c / 64 % 2 * 64 := by
  have ht : c.testBit 6 = decide (c / 2 ^ 6 % 2 = 1) := Nat.testBit_eq_decide_div_mod_eq
  have hc : c / 2 ^ 6 % 2 = 0 ∨ c / 2 ^ 6 % 2 = 1 := by omega
  apply Nat.eq_of_testBit_eq
  intro i
  rw [Nat.testBit_and, Nat.testBit_two_pow]
  rcases hc with h | h
  · rw [h] at ht
    rw [show c / 64 % 2 = 0 from h, Nat.zero_mul, Nat.zero_testBit]
    by_cases hi : 6 = i
    · subst hi; rw [ht]; rfl
    · simp [hi]
  · rw [h] at ht
    rw [show c / 64 % 2 = 1 from h, Nat.one_mul, show 64 = 2 ^ 6 from rfl, Nat.testBit_two_pow]
    by_cases hi : 6 = i
    · subst hi; rw [ht]; rfl
    · simp [hi]
theorem and64 (c : Nat) : Builtin.bitAnd (c : Int) 64 = ((c / 64 % 2 * 64 : Nat) : Int) := by
  rw [bitAnd_pp (by omega) (by decide)]
  show ((c &&& 2 ^ 6 : Nat) : Int) = _
  rw [land64]
theorem and64_ne {c : Nat} (h : Builtin.bitAnd (c : Int) 64 ≠ 0) : ¬ c / 64 % 2 = 0 := fun q => h (by rw [and64, q]; rfl)
theorem and64_eq {c : Nat} (h : Builtin.bitAnd (c : Int) 64 = 0) : c / 64 % 2 = 0 := by rw [and64] at h; omega
theorem and63 (c : Nat) : Builtin.bitAnd (c : Int) 63 = ((c % 64 : Nat) : Int) := by rw [bitAnd_m6]; omega
theorem land_zero {v y : Nat} (h : y < 2 ^ 6) : (2 ^ 6 * v) &&& y = 0 := by
  apply Nat.eq_of_testBit_eq
  intro i
  rw [Nat.testBit_and, Nat.testBit_two_pow_mul, Nat.zero_testBit]
  by_cases hi : i ≥ 6
  · rw [Nat.testBit_lt_two_pow (Nat.lt_of_lt_of_le h (Nat.pow_le_pow_right (by decide) hi)), Bool.and_false]
  · simp [hi]
theorem or63 (v c : Nat) : Builtin.bitOr ((v : Int) * 2 ^ (6 : Int).toNat) (Builtin.bitAnd (c : Int) 63) = ((v * 64 + c % 64 : Nat) : Int) := by
  rw [and63, bitOr_and]
  have e : (v : Int) * 2 ^ (6 : Int).toNat = ((2 ^ 6 * v : Nat) : Int) := by
    show (v : Int) * 64 = _; omega
  rw [e, bitAnd_pp (by omega) (by omega), Int.toNat_natCast, Int.toNat_natCast, land_zero (by omega)]
  omega
noncomputable def CodesAre (items : Array Value) (cs : List Nat) : Prop := items.size = cs.length ∧ ∀ k c : Nat, cs[k]? = some c → ∃ t : Tok, items[k]? = some (Value.int (c : Int) t)
noncomputable def mV (it : Addr) (v c : Nat) (t1 t2 : Nat) : Str → Option Value := fun y => if y = Str.ofString "val" then some (.int (v : Int) t1) else if y = Str.ofString "b" then some (.int (c : Int) t2) else if y = Str.ofString "iterator" then some (.ref it) else none
noncomputable def JV (it l : Addr) (lo : Obj) (rest : Led) (cs : List Nat) (n : Nat) (m₁ : Str → Option Value) (news₁ : Led) : Prop :=
  ∃ (io : Obj) (i c v t1 t2 : Nat) (r : List Nat), LiIter io l (i + 1) ∧ cs.drop i = c :: r ∧ n = r.length ∧ v < 64 ^ (i + 1) ∧ vgo v c r = vint cs ∧ news₁ = (it, io) :: (l, lo) :: rest ∧ m₁ = mV it v c t1 t2
/-- what _parse_varint does -/
noncomputable def VCon (w : World) (p : Program) (loose : List Str) (mean : ExcName → Option Value) (mg mb : Str → Option Value) (it l : Addr) (lo : Obj) (rest : Led) (codes : List Nat) (news : Led) : Prop :=
    ∀ (dp un : Nat) (gd : Option (List Code)) (cn : Str) (cs : Scope) (a : Addr) (ccd : Value) (cl : List (Str × Addr)) (outer : List Env) (A₀ : Around) (base h₀ : Heap) (L : Addr) (m : Str → Option Value) (s : Shared) (Q E : Value → Shared → Prop)
    (B : Below A₀ base outer h₀) (F : Fr h₀ L s.heap m) (X : (K w.params).In h₀) (N : News h₀ L s.heap news) (T : Top p loose mean mg mb h₀) (hk : cs.kind = .function) (hd : dp + 40 < recursionLimit) (hu : un + 400 < cLine)
    (hQ : ∀ v, vint codes = some v → ∀ t h' tk' io', Fr h₀ L h' m → News h₀ L h' ((it, io') :: (l, lo) :: rest) → Q (.int (v : Int) t) { s with heap := h', toks := tk' })
    (hE : vint codes = none → ∀ e t G h' tk' io', Fr h₀ L G m → RaisedS base G (envX cn cs L a ccd cl :: outer) e (.type "StopIteration") t [] ((it, io') :: (l, lo) :: rest) h' → G.UpToSlots h' → E (.ref e) { s with heap := h', toks := tk' }),
    wpAny (model PySem.Challenge.rw_wk0033_01.row.prog w) (ktrTop dp un gd cn cs L a ccd cl outer) (call (.ref 21) [.ref it]) Q E s
set_option maxHeartbeats 4000000 in
theorem varint_con (w : World) (p : Program) (loose : List Str) (mean : ExcName → Option Value) (mg mb : Str → Option Value) (it l : Addr) (io lo : Obj) (items : Array Value) (rest : Led) (codes : List Nat)
    (hi : LiIter io l 0) (hall : ∀ q ∈ (l, lo) :: rest, q.1 ≠ it) (hlo : ListOb lo items) (hcs : CodesAre items codes) (h1 : 1 ≤ codes.length) (h3 : codes.length ≤ 3) :
    VCon w p loose mean mg mb it l lo rest codes ((it, io) :: (l, lo) :: rest) := by
  intro dp un gd cn cs a ccd cl outer A₀ base h₀ L m s Q E B F X N T hk hd hu hQ hE
  obtain ⟨c₀, r₀, rfl⟩ : ∃ c r, codes = c :: r := by cases codes with | nil => simp at h1 | cons c r => exact ⟨c, r, rfl⟩
  obtain ⟨hsz, hcs⟩ := hcs
  obtain ⟨t₀, hx⟩ := hcs 0 c₀ rfl
  have D0 : KtsDicts [] h₀ := ktsDicts_nil
  revert X; k_fill; intro X
  refine wpAny_call ?_
  k_dflt cell_enter
  k_steps
  unfold Stop
  refine While_inv2 (JV it l lo rest (c₀ :: r₀)) (n₀ := r₀.length) (by k_asm) (by k_asm) ?_ ?_ (by passes_own)
  · refine ⟨_, 0, c₀, c₀ % 64, ?_, ?_, r₀, by assumption, rfl, rfl, by omega, rfl, rfl, ?_⟩
    rotate_right
    · funext y
      by_cases h1 : y = Str.ofString "val"
      · subst h1; exact congrArg (fun z => some (Value.int z _)) (and63 c₀)
      by_cases h2 : y = Str.ofString "b"
      · subst h2; rfl
      by_cases h3 : y = Str.ofString "iterator"
      · subst h3; rfl
      simp only [mV, if_neg h1, if_neg h2, if_neg h3]
      exact lookup_none h3
  · intro n m₁ news₁ h₁ tk₁ F1 N1 J1
    obtain ⟨io₁, i, c, v, t1, t2, r, hi₁, hdr, hn, hv, hgo, e1, e2⟩ := J1
    subst e1 e2
    unfold mV at F1
    have hil : i < (c₀ :: r₀).length := by
      rcases Nat.lt_or_ge i (c₀ :: r₀).length with h | h
      · exact h
      · rw [List.drop_eq_nil_of_le h] at hdr; cases hdr
    have hv' : v < 262144 := by
      have : i + 1 ≤ 3 := by omega
      have := Nat.pow_le_pow_right (n := 64) (by decide) this
      omega
    cases r with
    | nil =>
      have hx1 : items[i + 1]? = none := by
        rw [Array.getElem?_eq_none]
        have := congrArg List.length hdr
        simp at this hsz; omega
      k_steps
      · exact hE (by rw [← hgo]; exact vgo_none (and64_ne (by assumption))) _ _ _ _ _ _ (by assumption) (by assumption) (by assumption)
      · exact hQ v (by rw [← hgo]; exact vgo_stop (and64_eq (by assumption))) _ _ _ _ (by k_asm) (by k_asm)
    | cons d r =>
      obtain ⟨t3, hx1⟩ : ∃ t, items[i + 1]? = some (Value.int (d : Int) t) := by
        refine hcs _ _ ?_
        have := congrArg (fun l => l[1]?) hdr
        simpa [List.getElem?_drop] using this
      k_steps
      · have hd0 : ¬ c / 64 % 2 = 0 := and64_ne (by assumption)
        refine ⟨_, _, _, _, r.length, rfl, by k_asm, by k_asm, by rw [hn]; exact Nat.lt_succ_self _, ⟨_, i + 1, d, v * 64 + d % 64, ?_, ?_, r, by assumption, ?_, rfl, ?_, ?_, rfl, ?_⟩⟩
        rotate_left 2
        · have := congrArg (List.drop 1) hdr
          simpa [List.drop_drop] using this
        · have : 64 ^ (i + 1 + 1) = 64 ^ (i + 1) * 64 := rfl
          have hm := Nat.mul_le_mul_right 64 (Nat.succ_le_of_lt hv)
          rw [this]; omega
        · rw [← hgo]; exact (vgo_on hd0).symm
        · funext y
          by_cases h1 : y = Str.ofString "val"
          · subst h1; exact congrArg (fun z => some (Value.int z _)) (or63 v d)
          by_cases h2 : y = Str.ofString "b"
          · subst h2; rfl
          by_cases h3 : y = Str.ofString "iterator"
          · subst h3; rfl
          simp only [mV, if_neg h1, if_neg h2, if_neg h3]
      · exact hQ v (by rw [← hgo]; exact vgo_stop (and64_eq (by assumption))) _ _ _ _ (by k_asm) (by k_asm)
end
section
open PySem PySem.W PySem.Calls PyProof.Rows
theorem rulesV9x0 : True := by
  k_with_none
  trivial
namespace FF
theorem slot_filter_init : Slot "filter" "__init__" "object.__init__" :=
  .of (owner := "object") (n := "__init__") (by rw [typeLookup_type, builtinLookup_eq_fast]; kernel_rfl) (by decide +kernel) (by decide +kernel) (by decide +kernel)
    (by first | exact .inl (by decide +kernel) | exact .inr (by decide +kernel)) (by rw [isSubtype_type]; kernel_rfl)
theorem slot_filter_iter : Slot "filter" "__iter__" "filter.__iter__" :=
  .of (owner := "filter") (n := "__iter__") (by rw [typeLookup_type, builtinLookup_eq_fast]; kernel_rfl) (by decide +kernel) (by decide +kernel) (by decide +kernel)
    (by first | exact .inl (by decide +kernel) | exact .inr (by decide +kernel)) (by rw [isSubtype_type]; kernel_rfl)
theorem slot_filter_next : Slot "filter" "__next__" "filter.__next__" :=
  .of (owner := "filter") (n := "__next__") (by rw [typeLookup_type, builtinLookup_eq_fast]; kernel_rfl) (by decide +kernel) (by decide +kernel) (by decide +kernel)
    (by first | exact .inl (by decide +kernel) | exact .inr (by decide +kernel)) (by rw [isSubtype_type]; kernel_rfl)
theorem args_filter_iter (a : Value) : argsOk "filter.__iter__" ⟨[a], []⟩ := by unfold argsOk; kernel_rfl
theorem args_filter_next (a : Value) : argsOk "filter.__next__" ⟨[a], []⟩ := by unfold argsOk; kernel_rfl
theorem entry_filter_next : entryFor table "filter.__next__" = some Builtin.«filter.__next__» := entryFor_of_fast (by kernel_rfl)
theorem entry_filter_new : entryFor table "filter.__new__" = some Builtin.«filter.__new__» := entryFor_of_fast (by kernel_rfl)
theorem plain_filter_next : plainId "filter.__next__" = true := by decide +kernel
theorem entry_filter_iter : entryFor table "filter.__iter__" = some Builtin.«dict_keyiterator.__iter__» :=
  entryFor_alias (id' := "dict_keyiterator.__iter__") (by kernel_rfl) (by first | rfl | decide +kernel | (unfold String.splitOn; simp +decide [String.splitOnAux])) (by decide +kernel) (by kernel_rfl)
theorem mro_filter : mroOf (.type "filter") = pure [.type "filter", .type "object"] := by rw [mroOf_type]; kernel_rfl
theorem lookup_filter_new : typeLookup (.type "filter") "__new__" = pure (some (.builtin "filter.__new__")) := by rw [typeLookup_type, builtinLookup_eq_fast]; kernel_rfl
theorem sub_filter : isSubtype (.type "filter") (.type "filter") = pure true := by rw [isSubtype_type]; kernel_rfl
theorem called_filter : TypeCalled "filter" "filter.__new__" "object.__init__" :=
  ⟨by decide +kernel, by decide +kernel, ⟨_, _, mro_filter⟩, madeBy_type mro_filter lookup_filter_new (by decide +kernel), by decide +kernel, sub_filter, slot_filter_init⟩
theorem typeCall_filter_2 (a b : Value) : checkTypeCall "filter" ⟨[a, b], []⟩ = pure () := by kernel_rfl
theorem newCall_filter_2 (a b : Value) : checkBuiltinCall "filter.__new__" ⟨[.type "filter", a, b], []⟩ = pure () := by kernel_rfl
end FF
section
variable {prog : Program} {w : World} {K : Type} [DecidableEq K] {knd : KeyKind prog w K} {A : Around} {E : Value → Shared → Prop} {s : Shared}
theorem vi_item {it d : Addr} {i ep : Nat} {kvs : List (K × Value)} {k : K} {v : Value} {Q : Option Value → Shared → Prop} (hit : s.heap.IsValIter it d i kvs.length ep)
    (hm : s.heap.DictAt knd d kvs ep) (hx : kvs[i]? = some (k, v))
    (hQ : ∀ h', h'.IsValIter it d (i + 1) kvs.length ep → Heap.SameBut it s.heap h' → Q (some v) { s with heap := h' }) :
    wpAny (model prog w) A (callSpecial? (.ref it) (Str.ofString "__next__")) Q E s := by
  obtain ⟨o, ho, hc, hd⟩ := id hit
  obtain ⟨od, es, hod, hcd, hdd, hk, hp, hn⟩ := id hm
  refine wpAny_callSpecial?_slot (name := Str.ofString "__next__") hit.typeIs PySem.F.slot_dict_valueiterator_next
    (wpAny_call_entry PySem.F.slot_dict_valueiterator_next hit.typeIs PySem.F.entry_dict_valueiterator_next ?_ (PySem.F.args_dict_valueiterator_next_1 _))
  refine wpAny_bind (wpAny_pure ?_)
  refine wpAny_bind ?_
  refine wpAny_bind ?_
  first | refine wpAny_bind (wpAny_typeNameOfWhole_valiter hit.typeIs (wpAny_pure ?_)) | refine wpAny_bind (wpAny_typeNameOf_valiter hit.typeIs (wpAny_pure ?_))
  refine wpAny_bind (wpAny_fieldsOf ho hd ?_)
  have hown : Builtin.Dict_items.ownsTuple "dict_valueiterator" = false := by decide
  simp only [hown, Bool.false_eq_true, if_false]
  show wpAny _ _ (if (Value.ref d == Value.none) = true then _ else _) _ _ s
  rw [if_neg (show ¬ ((Value.ref d == Value.none) = true) from Bool.false_ne_true)]
  refine wpAny_bind (wpAny_pure ?_)
  refine wpAny_bind (wpAny_dictEntries hod hdd ?_)
  have hsz : es.size = kvs.length := by rw [← hp.length]; simp
  rw [if_neg (by rw [hsz]; simp)]
  refine wpAny_bind (wpAny_pure ?_)
  refine wpAny_bind (wpAny_dictEpoch hod hdd ?_)
  rw [if_neg (by simp)]
  refine wpAny_pure ?_
  have hlt : i < kvs.length := by
    rcases Nat.lt_or_ge i kvs.length with h | h
    · exact h
    · simp [List.getElem?_eq_none h] at hx
  have hlt' : i < es.size := by rw [hsz]; exact hlt
  have hval : es[i].val = v := (hp.get? (e := es[i]) (by simp [hlt']) hx).2
  simp only [show ¬ ((i : Int) < 0) from by omega, if_false, Int.toNat_natCast, Array.getElem?_eq_getElem hlt']
  refine wpAny_bind ?_
  first | refine wpAny_bind (wpAny_typeNameOfWhole_valiter hit.typeIs (wpAny_pure ?_)) | refine wpAny_bind (wpAny_typeNameOf_valiter hit.typeIs (wpAny_pure ?_))
  refine wpAny_bind (wpAny_isOneOf_valiter hit.typeIs ?_)
  show wpAny _ _ (setField (.ref it) 1 (rawInt ((i : Int) + 1)) >>= _) _ _ s
  refine wpAny_bind (wpAny_setField ho hd (by simp) ?_)
  have hit' : (s.heap.update it (Obj.mapFields (·.setIfInBounds 1 (rawInt ((i : Int) + 1))))).IsValIter it d (i + 1) kvs.length ep :=
    ⟨_, Heap.get?_update_self _ ho (Obj.isFreed_of_fields (Obj.data_mapFields hd _)), (Obj.cls_mapFields ..).trans hc, by rw [Obj.data_mapFields hd]; simp [rawInt]⟩
  refine wpAny_bind (wpAny_holding ?_)
  refine wpAny_bind (wpAny_isOneOf_valiter (s := { s with heap := s.heap.update it (Obj.mapFields (·.setIfInBounds 1 (rawInt ((i : Int) + 1)))) }) hit'.typeIs ?_)
  refine wpAny_bind (wpAny_isOneOf_valiter (s := { s with heap := s.heap.update it (Obj.mapFields (·.setIfInBounds 1 (rawInt ((i : Int) + 1)))) }) hit'.typeIs ?_)
  show wpAny _ _ (pure es[i].val) _ _ _
  exact wpAny_pure (wpAny_pure ⟨_, rfl, hval ▸ hQ _ hit' (Heap.SameBut.update ..)⟩)
theorem vi_end {it d : Addr} {i ep : Nat} {kvs : List (K × Value)} {Q : Option Value → Shared → Prop} (hh : A.handled = none) (hit : s.heap.IsValIter it d i kvs.length ep)
    (hm : s.heap.DictAt knd d kvs ep) (hx : kvs[i]? = none)
    (hE : ∀ h' e, Heap.ExtBut it s.heap h' → (∃ o, h'.get? e = some o ∧ o.cls = .type "StopIteration") → E (.ref e) { s with heap := h' }) : wpAny (model prog w) A (callSpecial? (.ref it) (Str.ofString "__next__")) Q E s := by
  obtain ⟨o, ho, hc, hd⟩ := id hit
  obtain ⟨od, es, hod, hcd, hdd, hk, hp, hn⟩ := id hm
  refine wpAny_callSpecial?_slot (name := Str.ofString "__next__") hit.typeIs PySem.F.slot_dict_valueiterator_next
    (wpAny_call_entry PySem.F.slot_dict_valueiterator_next hit.typeIs PySem.F.entry_dict_valueiterator_next ?_ (PySem.F.args_dict_valueiterator_next_1 _))
  refine wpAny_bind (wpAny_pure ?_)
  refine wpAny_bind ?_
  refine wpAny_bind ?_
  first | refine wpAny_bind (wpAny_typeNameOfWhole_valiter hit.typeIs (wpAny_pure ?_)) | refine wpAny_bind (wpAny_typeNameOf_valiter hit.typeIs (wpAny_pure ?_))
  refine wpAny_bind (wpAny_fieldsOf ho hd ?_)
  have hown : Builtin.Dict_items.ownsTuple "dict_valueiterator" = false := by decide
  simp only [hown, Bool.false_eq_true, if_false]
  show wpAny _ _ (if (Value.ref d == Value.none) = true then _ else _) _ _ s
  rw [if_neg (show ¬ ((Value.ref d == Value.none) = true) from Bool.false_ne_true)]
  refine wpAny_bind (wpAny_pure ?_)
  refine wpAny_bind (wpAny_dictEntries hod hdd ?_)
  have hsz : es.size = kvs.length := by rw [← hp.length]; simp
  rw [if_neg (by rw [hsz]; simp)]
  refine wpAny_bind (wpAny_pure ?_)
  refine wpAny_bind (wpAny_dictEpoch hod hdd ?_)
  rw [if_neg (by simp)]
  refine wpAny_pure ?_
  have hge : es.size ≤ i := by rw [hsz]; simpa using hx
  simp only [show ¬ ((i : Int) < 0) from by omega, if_false, Int.toNat_natCast, Array.getElem?_eq_none hge]
  refine wpAny_bind ?_
  first | refine wpAny_bind (wpAny_typeNameOfWhole_valiter hit.typeIs (wpAny_pure ?_)) | refine wpAny_bind (wpAny_typeNameOf_valiter hit.typeIs (wpAny_pure ?_))
  show wpAny _ _ (setField (.ref it) 0 .none >>= _) _ _ s
  refine wpAny_bind (wpAny_setField ho hd (by simp) ?_)
  show wpAny _ _ (newExc (.type "StopIteration") [] >>= _) _ _ _
  refine wpAny_bind ?_
  simp only [newExc, newTuple]
  refine wpAny_bind (wpAny_newObj_type ?_ (by size_fits))
  refine wpAny_bind (m := firstArgMember _ _) (wpAny_of_eq (a := Value.none) (by first | rfl | (simp only [firstArgMember]; rfl)) ?_)
  refine wpAny_newObj_type ?_ (by size_fits)
  simp only [raiseNew]
  refine wpAny_bind (wpAny_handled ?_)
  rw [show A.in1.handled = none from hh]
  refine wpAny_bind (wpAny_pure (wpAny_throw ?_))
  exact hE _ _ (((Heap.SameBut.update ..).extBut.push _).push _) ⟨_, Heap.get?_push_size _ rfl, rfl⟩
noncomputable def truthV : Value → Bool
  | .none => false
  | .int n _ => n != 0
  | _ => true
noncomputable def NoneInt (v : Value) : Prop := v = .none ∨ ∃ n t, v = .int n t
theorem truthy_ni {v : Value} (hv : NoneInt v) {Q : Bool → Shared → Prop} (h : Q (truthV v) s) : wpAny (model prog w) A (truthy v) Q E s := by
  rcases hv with rfl | ⟨n, t, rfl⟩
  · exact PyProof.Rows.truthy_none h
  · exact PyProof.Rows.truthy_int h
noncomputable def fl (kvs : List (K × Value)) (i : Nat) : List Value := ((kvs.drop i).map (·.2)).filter truthV
theorem fl_end {kvs : List (K × Value)} {i : Nat} (h : kvs[i]? = none) : fl kvs i = [] := by
  unfold fl; rw [List.drop_eq_nil_of_le (by simpa using h)]; rfl
theorem fl_on {kvs : List (K × Value)} {i : Nat} {k : K} {v : Value} (h : kvs[i]? = some (k, v)) : fl kvs i = if truthV v then v :: fl kvs (i + 1) else fl kvs (i + 1) := by
  unfold fl
  obtain ⟨hl, he⟩ := List.getElem?_eq_some_iff.mp h
  rw [List.drop_eq_getElem_cons hl, he, List.map_cons, List.filter_cons]
noncomputable def FilAt (knd : KeyKind prog w K) (f I d : Addr) (kvs : List (K × Value)) (ep i : Nat) (h : Heap) : Prop :=
  h.get? f = some { cls := .type "filter", data := .fields #[.none, .ref I] } ∧ h.IsValIter I d i kvs.length ep ∧ h.DictAt knd d kvs ep
theorem FilAt.next {f I d : Addr} {kvs : List (K × Value)} {ep i j : Nat} {h h' : Heap} (x : FilAt knd f I d kvs ep i h) (hf : f ≠ I) (hd : d ≠ I) (hi : h'.IsValIter I d j kvs.length ep) (hs : Heap.SameBut I h h') : FilAt knd f I d kvs ep j h' :=
  ⟨hs.extBut f _ hf x.1, hi, x.2.2.extBut hs.extBut hd⟩
theorem fil_body {f I d : Addr} {kvs : List (K × Value)} {ep : Nat} {R : Result → Shared → Prop} (hh : A.handled = none) (hf : f ≠ I) (hd : d ≠ I) (hni : ∀ p ∈ kvs, NoneInt p.2) :
    ∀ (k i : Nat) (s : Shared), kvs.length - i = k → FilAt knd f I d kvs ep i s.heap →
    (∀ x r, fl kvs i = x :: r → ∀ h' j, FilAt knd f I d kvs ep j h' → fl kvs j = r → Heap.SameBut I s.heap h' → R (.ok (.ret x)) { s with heap := h' }) →
    (fl kvs i = [] → ∀ h' e, Heap.ExtBut I s.heap h' → (∃ o, h'.get? e = some o ∧ o.cls = .type "StopIteration") → R (.error (.ref e)) { s with heap := h' }) →
    wpAny (model prog w) A.in1 (Builtin.«filter.__next__» ⟨[.ref f], []⟩) (fun fin s' => match fin with | .done f => R (.ok f) s' | .again c' => c'.quiet = true ∧ codeAny (model prog w) A c' R s') (fun e s' => R (.error e) s') s := by
  intro k
  induction k with
  | zero =>
    intro i s hk st hR hE
    have hx : kvs[i]? = none := by simp; omega
    unfold Builtin.«filter.__next__»
    refine wpAny_bind (m := slotArgs "__next__" 0 _) (wpAny_of_eq (a := (Value.ref f, [])) (by first | rfl | kernel_rfl!) ?_)
    dsimp only
    refine wpAny_bind (wpAny_field st.1 rfl (x := .none) rfl ?_)
    refine wpAny_bind (wpAny_field st.1 rfl (x := .ref I) rfl ?_)
    refine wpAny_bind (vi_end hh st.2.1 st.2.2 hx fun h' e he ho => ?_)
    exact hE (fl_end hx) h' e he ho
  | succ k ih =>
    intro i s hk st hR hE
    obtain ⟨⟨k', v⟩, hx⟩ : ∃ p, kvs[i]? = some p := ⟨kvs[i], by simp [show i < kvs.length by omega]⟩
    have hv : NoneInt v := hni _ (List.mem_of_getElem? hx)
    unfold Builtin.«filter.__next__»
    refine wpAny_bind (m := slotArgs "__next__" 0 _) (wpAny_of_eq (a := (Value.ref f, [])) (by first | rfl | kernel_rfl!) ?_)
    dsimp only
    refine wpAny_bind (wpAny_field st.1 rfl (x := .none) rfl ?_)
    refine wpAny_bind (wpAny_field st.1 rfl (x := .ref I) rfl ?_)
    refine wpAny_bind (vi_item st.2.1 st.2.2 hx fun h' hit' hs' => ?_)
    have st' := st.next hf hd hit' hs'
    refine wpAny_bind (wpAny_holding ?_)
    rw [if_pos (by rfl)]
    refine wpAny_bind (wpAny_rule ?_)
    refine truthy_ni hv ?_
    cases ht : truthV v with
    | true =>
      rw [if_pos rfl]
      refine wpAny_pure (hR v (fl kvs (i + 1)) (by rw [fl_on hx, ht]; rfl) h' (i + 1) st' rfl hs')
    | false =>
      rw [if_neg (by simp)]
      have hfl : fl kvs i = fl kvs (i + 1) := by rw [fl_on hx, ht]; rfl
      refine wpAny_pure ⟨plainId_quiet FF.plain_filter_next _, codeAny_builtin FF.entry_filter_next ?_⟩
      rw [Around.under_plainId FF.plain_filter_next _]
      refine ih (i + 1) _ (by omega) st' (fun x r hxr h'' j stj hj hs'' => ?_) (fun he h'' e hex ho => ?_)
      · exact hR x r (by rw [hfl]; exact hxr) h'' j stj hj (hs'.trans hs'')
      · exact hE (by rw [hfl]; exact he) h'' e (hs'.extBut.trans hex) ho
end
end
section
open PySem PySem.W PySem.Calls PyProof.Rows
set_option linter.unusedSectionVars false
theorem rulesV10x0 : True := by
  k_with_none
  trivial
section
variable {prog : Program} {w : World} {K : Type} [DecidableEq K] {knd : KeyKind prog w K} {A : Around} {E : Value → Shared → Prop} {s : Shared}
theorem FilAt.typeIs {f I d : Addr} {kvs : List (K × Value)} {ep i : Nat} (x : FilAt knd f I d kvs ep i s.heap) : s.TypeIs (.ref f) "filter" := ⟨_, x.1, rfl⟩
theorem fil_special {f I d : Addr} {kvs : List (K × Value)} {ep i : Nat} {Q : Option Value → Shared → Prop} (hh : A.handled = none) (hf : f ≠ I) (hd : d ≠ I) (hni : ∀ p ∈ kvs, NoneInt p.2) (st : FilAt knd f I d kvs ep i s.heap)
    (hR : ∀ x r, fl kvs i = x :: r → ∀ h' j, FilAt knd f I d kvs ep j h' → fl kvs j = r → Heap.SameBut I s.heap h' → Q (some x) { s with heap := h' })
    (hE : fl kvs i = [] → ∀ h' e, Heap.ExtBut I s.heap h' → (∃ o, h'.get? e = some o ∧ o.cls = .type "StopIteration") → E (.ref e) { s with heap := h' }) :
    wpAny (model prog w) A (callSpecial? (.ref f) (Str.ofString "__next__")) Q E s := by
  have hT := st.typeIs
  refine wpAny_callSpecial?_slot hT FF.slot_filter_next (wpAny_call (codeAny_call_builtin FF.slot_filter_next.plain FF.entry_filter_next (FF.slot_filter_next.check _ _ _ _ _ _ _ _ hT (FF.args_filter_next _) ?_)))
  exact fil_body (A := A) (R := fun r s' => match r with | .ok (.ret v) => Q (some v) s' | .ok _ => False | .error e => E e s') hh hf hd hni _ i s rfl st hR hE
theorem wpAny_pyNext_fil {f I d : Addr} {kvs : List (K × Value)} {ep i : Nat} {Q : Option Value → Shared → Prop} (hh : A.handled = none) (hf : f ≠ I) (hd : d ≠ I) (hni : ∀ p ∈ kvs, NoneInt p.2) (st : FilAt knd f I d kvs ep i s.heap)
    (hR : ∀ x r, fl kvs i = x :: r → ∀ h' j, FilAt knd f I d kvs ep j h' → fl kvs j = r → Heap.SameBut I s.heap h' → Q (some x) { s with heap := h' })
    (hE : fl kvs i = [] → ∀ h', Heap.ExtBut I s.heap h' → Q none { s with heap := h' }) :
    wpAny (model prog w) A (pyNext (.ref f)) Q E s := by
  unfold pyNext
  refine wpAny_bind (wpAny_attempt (fil_special hh hf hd hni st (fun x r hx h' j st' hj hs => ?_) (fun he h' e hex ho => ?_)))
  · exact wpAny_pure (hR x r hx h' j st' hj hs)
  · refine wpAny_bind (wpAny_isInstance (T := "StopIteration") (b := true) ho isSubtype_stop ?_)
    exact wpAny_pure (hE he h' hex)
theorem Walks.filter (hh : A.handled = none) (f I d : Addr) (hf : f ≠ I) (hd : d ≠ I) (kvs : List (K × Value)) (ep : Nat) (hni : ∀ p ∈ kvs, NoneInt p.2) :
    Walks prog w A f [f, I, d] [I] (fl kvs 0).length (fun i v => (fl kvs 0)[i]? = some v) (fun i h => ∃ j, FilAt knd f I d kvs ep j h ∧ fl kvs j = (fl kvs 0).drop i) where
  sub := fun b hb => by simp at hb; simp [hb]
  frame := fun _ _ _ st hk => by
    obtain ⟨j, ⟨s1, s2, s3⟩, hj⟩ := st
    exact ⟨j, ⟨hk f (by simp) _ s1, s2.at fun o e => hk I (by simp) o e, s3.at' fun o e => hk d (by simp) o e⟩, hj⟩
  item := fun i s Q E hi st hQ => by
    obtain ⟨j, st, hj⟩ := st
    have hdr := List.drop_eq_getElem_cons hi
    refine wpAny_pyNext_fil hh hf hd hni st (fun x r hx h' j' st' hj' hs => ?_) (fun he => ?_)
    · rw [hj, hdr] at hx
      injection hx with hx1 hx2
      exact hQ x h' s.toks (by rw [← hx1]; exact List.getElem?_eq_getElem hi) ⟨j', st', by rw [hj', ← hx2]⟩ fun b o hb e => hs.extBut b o (fun h => hb (by simp [h])) e
    · rw [hj, hdr] at he; cases he
  done := fun s Q E st hQ => by
    obtain ⟨j, st, hj⟩ := st
    rw [List.drop_length] at hj
    refine wpAny_pyNext_fil hh hf hd hni st (fun x r hx => ?_) (fun he h' hex => ?_)
    · rw [hj] at hx; cases hx
    · exact hQ h' s.toks fun b o hb e => hex b o (fun h => hb (by simp [h])) e
  self := fun _ s Q E st hQ => by
    obtain ⟨j, st, hj⟩ := st
    refine wpAny_pyIter_slot st.typeIs FF.slot_filter_iter (wpAny_call_entry FF.slot_filter_iter st.typeIs FF.entry_filter_iter ?_ (FF.args_filter_iter _))
    show wpAny _ _ (ret (.ref f)) _ _ s
    exact wpAny_pure ⟨_, rfl, "filter", _, st.typeIs, FF.slot_filter_next.lookup, hQ⟩
theorem fil_new {v d : Addr} {kvs : List (K × Value)} {ep : Nat} {Q : Value → Shared → Prop} (hv : s.heap.IsValuesView v d) (hm : s.heap.DictAt knd d kvs ep)
    (h : Q (.ref (s.heap.objs.size + 1)) { s with heap := (s.heap.push { cls := .type "dict_valueiterator", data := .fields #[.ref d, .int 0 0, .int kvs.length 0, .int ep 0] }).push { cls := .type "filter", data := .fields #[.none, .ref s.heap.objs.size] } }) :
    wpAny (model prog w) A (call (.type "filter") [.none, .ref v]) Q E s := by
  have ho : ((s.heap.push { cls := .type "dict_valueiterator", data := .fields #[.ref d, .int 0 0, .int kvs.length 0, .int ep 0] }).push { cls := .type "filter", data := .fields #[.none, .ref s.heap.objs.size] }).get? (s.heap.objs.size + 1) = some { cls := .type "filter", data := .fields #[.none, .ref s.heap.objs.size] } := by
    have := Heap.get?_push_size (s.heap.push { cls := .type "dict_valueiterator", data := .fields #[.ref d, .int 0 0, .int kvs.length 0, .int ep 0] })
      (o := { cls := .type "filter", data := .fields #[.none, .ref s.heap.objs.size] }) rfl
    rw [Heap.size_push] at this; exact this
  refine callType_newIn FF.called_filter (by decide) (FF.typeCall_filter_2 _ _) (FF.newCall_filter_2 _ _) (fun obj => PySem.F.args_object_init_3 obj _ _) FF.entry_filter_new
    (S := fun A R s => (s.heap.IsValuesView v d ∧ s.heap.DictAt knd d kvs ep) ∧ R (.ok (.ret (.ref (s.heap.objs.size + 1)))) { s with heap := (s.heap.push { cls := .type "dict_valueiterator", data := .fields #[.ref d, .int 0 0, .int kvs.length 0, .int ep 0] }).push { cls := .type "filter", data := .fields #[.none, .ref s.heap.objs.size] } })
    (.of_wp fun A R s hS => ?_) ⟨⟨hv, hm⟩, ⟨_, ho, rfl⟩, h⟩
  obtain ⟨⟨hv, hm⟩, hR⟩ := hS
  have hsub := FF.sub_filter
  obtain ⟨hp, g, dr, tk, os⟩ := s
  have hv' : Heap.IsValuesView (Shared.heap ⟨hp, g, dr, tk, os⟩) v d := hv
  have hm' : Heap.DictAt knd (Shared.heap ⟨hp, g, dr, tk, os⟩) d kvs ep := hm
  wp_walk using wpAny_pyIter_values hv' hm'
  refine ⟨_, rfl, ?_⟩
  rw [Heap.size_push]
  exact hR
end
noncomputable abbrev kwD (d : Value) : List (Str × Value) := [(Str.ofString "default", d)]
section
variable {prog : Program} {w : World} {A : Around} {R : Result → Shared → Prop} {I : Addr} {fp wr : List Addr} {n : Nat} {P : Nat → Value → Prop} {St : Nat → Heap → Prop}
theorem maxd_loop (dv : Value) (W : Walks prog w A.in1 I fp wr n P St) (bt : Nat → Nat → Bool) (hcmp : CmpOf prog w A.in1 .Gt P bt) (S : Addr) (hSf : S ∉ fp) :
    ∀ (k j : Nat) (s : Shared) (vb : Value) (c : Nat), n - (j + 1) = k → j + 1 ≤ n → St (j + 1) s.heap → P (argBest bt j) vb →
    s.heap.get? S = some { cls := .type "list", dict := none, data := .seq #[vb, vb] c, slots := #[] } →
    (∀ v h' tk, P (argBest bt (n - 1)) v → (∀ b o, b ∉ wr → b ≠ S → s.heap.get? b = some o → h'.get? b = some o) → R (.ok (.ret v)) { s with heap := h', toks := tk }) →
    codeAny (model prog w) A (.builtin "max.loop" ⟨[.ref I, .none, .ref S], kwD dv⟩) R s := by
  have hSw : S ∉ wr := fun h => hSf (W.sub _ h)
  have hname : (toString "max" ++ toString ".loop" : String) = "max.loop" := by decide
  intro k
  induction k with
  | zero =>
    intro j s vb c hk hj hst hPb hS hR
    have hin : j + 1 = n := by omega
    refine codeAny_builtin PySem.F.entry_max_loop ?_
    rw [Around.under_plainId PySem.F.plain_max_loop _]
    show wpAny _ A.in1 (seqItems? (.ref S) >>= _) _ _ s
    refine wpAny_bind (wpAny_seqItems hS rfl ?_)
    show wpAny _ A.in1 (tryCatch (pyNext (.ref I)) _ >>= _) _ _ s
    refine wpAny_bind (wpAny_tryCatch (W.done s _ _ (hin ▸ hst) fun h' tk hk' => ?_))
    have hS' := hk' S _ hSw hS
    show wpAny _ A.in1 (updateSeq S (fun _ => #[]) >>= _) _ _ _
    refine wpAny_bind ?_
    refine wpAny_updateSeq hS' rfl (wpAny_bind (wpAny_letGo (wpAny_pure ?_)))
    refine hR vb _ tk (by rw [← hin]; exact hPb) fun b o hbw hbS e => (Heap.get?_update_other _ _ (Ne.symm hbS)).trans (hk' b o hbw e)
  | succ k ih =>
    intro j s vb c hk hj hst hPb hS hR
    have hlt : j + 1 < n := by omega
    refine codeAny_builtin PySem.F.entry_max_loop ?_
    rw [Around.under_plainId PySem.F.plain_max_loop _]
    show wpAny _ A.in1 (seqItems? (.ref S) >>= _) _ _ s
    refine wpAny_bind (wpAny_seqItems hS rfl ?_)
    show wpAny _ A.in1 (tryCatch (pyNext (.ref I)) _ >>= _) _ _ s
    refine wpAny_bind (wpAny_tryCatch (W.item (j + 1) s _ _ hlt hst fun v h' tk hP hst' hk' => ?_))
    have hS' := hk' S _ hSw hS
    show wpAny _ A.in1 (tryCatch (holding [v, v] (richCompare .Gt v vb >>= _)) _ >>= _) _ _ _
    refine wpAny_bind (wpAny_tryCatch (wpAny_holding (wpAny_bind (hcmp (j + 1) (argBest bt j) v vb _ _ _ hP hPb ?_))))
    refine wpAny_bind (wpAny_holding (wpAny_truthy_bool ?_))
    refine wpAny_bind (wpAny_letGo (wpAny_pure ?_))
    cases hb : bt (j + 1) (argBest bt j) with
    | true =>
      simp only [if_true]
      refine wpAny_bind ?_
      refine wpAny_updateSeq hS' rfl (wpAny_bind (wpAny_letGo ?_))
      rw [hname]
      refine wpAny_pure ⟨plainId_quiet PySem.F.plain_max_loop _, ih (j + 1) _ v _ (by omega) hlt (W.frame _ _ _ hst' fun b hbf o e => ?_) (by simp only [argBest, hb, if_true]; exact hP) (Heap.get?_update_self _ hS' rfl)
        fun v' h'' tk'' hP' hk'' => ?_⟩
      · exact (Heap.get?_update_other _ _ (fun h : S = b => hSf (by rw [h]; exact hbf))).trans e
      · exact hR v' h'' tk'' hP' fun b o hbw hbS e => hk'' b o hbw hbS ((Heap.get?_update_other _ _ (Ne.symm hbS)).trans (hk' b o hbw e))
    | false =>
      simp only [Bool.false_eq_true, if_false]
      refine wpAny_bind (wpAny_letGo ?_)
      rw [hname]
      refine wpAny_pure ⟨plainId_quiet PySem.F.plain_max_loop _, ih (j + 1) _ vb c (by omega) hlt hst' (by simp only [argBest, hb, Bool.false_eq_true, if_false]; exact hPb) hS' fun v' h'' tk'' hP' hk'' => ?_⟩
      exact hR v' h'' tk'' hP' fun b o hbw hbS e => hk'' b o hbw hbS (hk' b o hbw e)
theorem maxd_first (dv : Value) (W : Walks prog w A.in1 I fp wr n P St) (bt : Nat → Nat → Bool) (hcmp : CmpOf prog w A.in1 .Gt P bt) (S : Addr) (hSf : S ∉ fp) {s : Shared} {c : Nat} (hst : St 0 s.heap)
    (hS : s.heap.get? S = some { cls := .type "list", dict := none, data := .seq #[] c, slots := #[] })
    (hR : 0 < n → ∀ v h' tk, P (argBest bt (n - 1)) v → (∀ b o, b ∉ wr → b ≠ S → s.heap.get? b = some o → h'.get? b = some o) → R (.ok (.ret v)) { s with heap := h', toks := tk })
    (h0 : n = 0 → ∀ h' tk, (∀ b o, b ∉ wr → b ≠ S → s.heap.get? b = some o → h'.get? b = some o) → R (.ok (.ret dv)) { s with heap := h', toks := tk }) :
    codeAny (model prog w) A (.builtin "max.loop" ⟨[.ref I, .none, .ref S], kwD dv⟩) R s := by
  have hSw : S ∉ wr := fun h => hSf (W.sub _ h)
  have hname : (toString "max" ++ toString ".loop" : String) = "max.loop" := by decide
  refine codeAny_builtin PySem.F.entry_max_loop ?_
  rw [Around.under_plainId PySem.F.plain_max_loop _]
  show wpAny _ A.in1 (seqItems? (.ref S) >>= _) _ _ s
  refine wpAny_bind (wpAny_seqItems hS rfl ?_)
  show wpAny _ A.in1 (tryCatch (pyNext (.ref I)) _ >>= _) _ _ s
  by_cases hn : 0 < n
  · refine wpAny_bind (wpAny_tryCatch (W.item 0 s _ _ hn hst fun v h' tk hP hst' hk' => ?_))
    have hS' := hk' S _ hSw hS
    show wpAny _ A.in1 (updateSeq S (fun _ => #[v, v]) >>= _) _ _ _
    refine wpAny_bind ?_
    refine wpAny_updateSeq hS' rfl ?_
    rw [hname]
    refine wpAny_pure ⟨plainId_quiet PySem.F.plain_max_loop _, maxd_loop dv W bt hcmp S hSf _ 0 _ v _ rfl hn (W.frame _ _ _ hst' fun b hbf o e => ?_) hP (Heap.get?_update_self _ hS' rfl) fun v' h'' tk'' hP' hk'' => ?_⟩
    · exact (Heap.get?_update_other _ _ (fun h : S = b => hSf (by rw [h]; exact hbf))).trans e
    · exact hR hn v' h'' tk'' hP' fun b o hbw hbS e => hk'' b o hbw hbS ((Heap.get?_update_other _ _ (Ne.symm hbS)).trans (hk' b o hbw e))
  · have hn0 : n = 0 := by omega
    refine wpAny_bind (wpAny_tryCatch (W.done s _ _ (hn0.symm ▸ hst) fun h' tk hk' => ?_))
    refine wpAny_bind (wpAny_rule ?_)
    refine wpAny_pure ?_
    exact h0 hn0 h' tk fun b o hbw _ e => hk' b o hbw e
theorem maxd_args (x d : Value) : argsOk "max" ⟨[x], kwD d⟩ := by unfold argsOk; kernel_rfl
theorem maxd_bind (d : Value) : Builtin.Builtins.bindParams "max" ["key", "default"] 0 ⟨[], kwD d⟩ = pure [none, some d] := rfl
theorem call_maxd {x dv : Value} {s : Shared} {Q E : Value → Shared → Prop}
    (h : wpAny (model prog w) A.in1 (pyIter x) (fun it s₂ => ∃ I fp wr n P St bt, it = .ref I ∧ Walks prog w A.in1 I fp wr n P St ∧ St 0 s₂.heap ∧ (∀ b ∈ fp, b < s₂.heap.objs.size) ∧ CmpOf prog w A.in1 .Gt P bt ∧
      (0 < n → ∀ v h' tk, P (argBest bt (n - 1)) v → (∀ b o, b ∉ wr → s₂.heap.get? b = some o → h'.get? b = some o) → Q v { s₂ with heap := h', toks := tk }) ∧
      (n = 0 → ∀ h' tk, (∀ b o, b ∉ wr → s₂.heap.get? b = some o → h'.get? b = some o) → Q dv { s₂ with heap := h', toks := tk })) E s) :
    wpAny (model prog w) A (call (.builtin "max") [x] (kwD dv)) Q E s := by
  have hname : (toString "max" ++ toString ".loop" : String) = "max.loop" := by decide
  refine kmb_tree PySem.F.kind_max PySem.F.plain_max PySem.F.entry_max (maxd_args _ _) ?_
  show wpAny _ A.in1 (Builtin.Builtins.bindParams "max" ["key", "default"] 0 ⟨[], kwD dv⟩ >>= _) _ _ s
  refine wpAny_bind (wpAny_of_eq (maxd_bind dv) ?_)
  refine wpAny_bind (wpAny_pure ?_)
  refine wpAny_bind (wpAny_mono h (fun it s₂ h₂ => ?_) fun _ _ e => e)
  obtain ⟨I, fp, wr, n, P, St, bt, rfl, W, hst, hfp, hcmp, hQ, h0⟩ := h₂
  refine wpAny_bind (wpAny_newObj_type ?_)
  have hSf : s₂.heap.objs.size ∉ fp := fun hm => Nat.lt_irrefl _ (hfp _ hm)
  rw [hname]
  refine wpAny_pure ⟨plainId_quiet PySem.F.plain_max_loop _, maxd_first dv W bt hcmp s₂.heap.objs.size hSf (W.frame _ _ _ hst fun b _ o e => Heap.get?_push_of_some _ e) (Heap.get?_push_size _ rfl) (fun hn v h' tk hP hk => ?_) (fun hn h' tk hk => ?_)⟩
  · exact hQ hn v h' tk hP fun b o hbw e => hk b o hbw (Nat.ne_of_lt (Heap.lt_size e)) (Heap.get?_push_of_some _ e)
  · exact h0 hn h' tk fun b o hbw e => hk b o hbw (Nat.ne_of_lt (Heap.lt_size e)) (Heap.get?_push_of_some _ e)
end
end
section
open PySem PySem.W PySem.Calls PyProof.Rows
set_option linter.unusedSectionVars false
theorem rulesV11x0 : True := by
  k_with_none
  trivial
noncomputable def isNone : Value → Bool | .none => true | _ => false
theorem eqNone {v : Value} (hv : NoneInt v) : MeetsSeq.EqGives v .none (isNone v) := by
  intro prog w A E s Q h
  rcases hv with rfl | ⟨n, t, rfl⟩
  · unfold eqBool
    refine wpAny_holding ?_
    rw [if_pos (by rfl)]
    exact wpAny_bind (wpAny_rule (wpAny_pure h))
  · unfold eqBool
    refine wpAny_holding ?_
    rw [if_neg (by show ¬ (Value.int n t == Value.none) = true; exact Bool.false_ne_true)]
    exact wpAny_bind (PySem.EqNone.eq_int_none (wpAny_truthy_bool h))
section
variable {prog : Program} {w : World} {A : Around} {I : Addr} {fp wr : List Addr} {n : Nat} {P : Nat → Value → Prop} {St : Nat → Heap → Prop}
theorem entry_citer : entryFor table "proto.contains_iter" = some Builtin.«proto.contains_iter» := entryFor_of_fast (by kernel_rfl)
theorem plain_citer : plainId "proto.contains_iter" = true := by decide +kernel
theorem citer_loop {R : Result → Shared → Prop} {x : Value} (W : Walks prog w A.in1 I fp wr n P St) (e : Value → Bool) (he : ∀ i v, P i v → MeetsSeq.EqGives v x (e v)) (vals : Nat → Bool) (hvals : ∀ i v, P i v → e v = vals i) :
    ∀ (k i : Nat) (s : Shared), n - i = k → i ≤ n → St i s.heap →
    (∀ b h' tk, b = (List.range' i (n - i)).any vals → (∀ a o, a ∉ wr → s.heap.get? a = some o → h'.get? a = some o) → R (.ok (.ret (.bool b))) { s with heap := h', toks := tk }) →
    codeAny (model prog w) A (.builtin "proto.contains_iter" ⟨[.ref I, x], []⟩) R s := by
  intro k
  induction k with
  | zero =>
    intro i s hk hi st hR
    have hin : i = n := by omega
    refine codeAny_builtin entry_citer ?_
    rw [Around.under_plainId plain_citer _]
    show wpAny _ A.in1 (pyNext (.ref I) >>= _) _ _ s
    refine wpAny_bind (W.done s _ _ (hin ▸ st) fun h' tk hk' => ?_)
    refine wpAny_bind (wpAny_rule (wpAny_pure ?_))
    exact hR false h' tk (by rw [hk]; rfl) hk'
  | succ k ih =>
    intro i s hk hi st hR
    have hlt : i < n := by omega
    refine codeAny_builtin entry_citer ?_
    rw [Around.under_plainId plain_citer _]
    show wpAny _ A.in1 (pyNext (.ref I) >>= _) _ _ s
    refine wpAny_bind (W.item i s _ _ hlt st fun v h' tk hP st' hk' => ?_)
    refine wpAny_bind (he i v hP _ _ _ _ _ _ ?_)
    have hr : List.range' i (n - i) = i :: List.range' (i + 1) (n - (i + 1)) := by rw [hk, show n - (i + 1) = k by omega]; rfl
    cases hb : e v with
    | true =>
      rw [if_pos rfl]
      refine wpAny_bind (wpAny_rule (wpAny_pure ?_))
      exact hR true h' tk (by rw [hr, List.any_cons, ← hvals i v hP, hb]; rfl) hk'
    | false =>
      rw [if_neg (by simp)]
      refine wpAny_pure ⟨plainId_quiet plain_citer _, ih (i + 1) _ (by omega) (by omega) st' fun b h'' tk'' hb' hk'' => ?_⟩
      exact hR b h'' tk'' (by rw [hr, List.any_cons, ← hvals i v hP, hb, hb']; rfl) fun a o ha e => hk'' a o ha (hk' a o ha e)
end
section
variable {prog : Program} {w : World} {K : Type} [DecidableEq K] {knd : KeyKind prog w K} {A : Around} {E : Value → Shared → Prop} {s : Shared}
theorem nocontains_values : typeLookup (.type "dict_values") "__contains__" = pure none := by rw [typeLookup_type, builtinLookup_eq_fast]; kernel_rfl
theorem in_values {v d : Addr} {kvs : List (K × Value)} {ep : Nat} {Q : Value → Shared → Prop} (hh : A.handled = none) (hv : s.heap.IsValuesView v d) (hm : s.heap.DictAt knd d kvs ep) (hni : ∀ p ∈ kvs, NoneInt p.2)
    (h : ∀ h' tk, (∀ a o, s.heap.get? a = some o → h'.get? a = some o) → Q (.bool (kvs.any fun p => isNone p.2)) { s with heap := h', toks := tk }) :
    wpAny (model prog w) A (compareOp .In .none (.ref v)) Q E s := by
  show wpAny _ A (do return .bool (← contains (.ref v) .none)) Q E s
  refine wpAny_bind ?_
  unfold contains
  refine wpAny_holding ?_
  show wpAny _ _ (specialOf (.ref v) "__contains__" >>= _) _ _ _
  refine wpAny_bind (wpAny_specialOf hv.typeIs nocontains_values ?_)
  rw [if_neg (by decide)]
  refine wpAny_bind (wpAny_callSpecialUnlessNone?_none hv.typeIs nocontains_values ?_)
  refine wpAny_bind (wpAny_rule ?_)
  refine wpAny_bind (wpAny_tryCatch (wpAny_pyIter_values hv hm ?_))
  have hd : d < s.heap.objs.size := by obtain ⟨o, es, ho, _⟩ := hm; exact Heap.lt_size ho
  have W := Walks.dictValues (prog := prog) (w := w) (A := A.in1) (knd := knd) hh s.heap.objs.size d (Nat.ne_of_lt hd) kvs ep
  refine wpAny_bind (wpAny_runValue ?_)
  refine citer_loop (e := isNone) W (fun i x hx => ?_) (fun i => ((kvs[i]?.map fun p => isNone p.2)).getD false) (fun i x hx => ?_) kvs.length 0 _ rfl (Nat.zero_le _) ⟨⟨_, Heap.get?_push_size _ rfl, rfl, rfl⟩, hm.push _⟩ fun b h' tk hb hk => ?_
  · obtain ⟨k, hx⟩ := hx
    exact eqNone (hni _ (List.mem_of_getElem? hx))
  · obtain ⟨k, hx⟩ := hx
    rw [hx]; rfl
  · refine wpAny_pure (wpAny_pure ?_)
    have hbv : b = kvs.any fun p => isNone p.2 := by
      rw [hb]
      rw [Bool.eq_iff_iff, List.any_eq_true, List.any_eq_true]
      constructor
      · rintro ⟨i, hi, hv⟩
        cases hx : kvs[i]? with
        | none => rw [hx] at hv; cases hv
        | some p => rw [hx] at hv; exact ⟨p, List.mem_of_getElem? hx, hv⟩
      · rintro ⟨p, hp, hv⟩
        obtain ⟨i, hi⟩ := List.getElem?_of_mem hp
        refine ⟨i, ?_, by rw [hi]; exact hv⟩
        have := (List.getElem?_eq_some_iff.mp hi).1
        simp; omega
    rw [hbv]
    exact h h' tk fun a o e => hk a o (fun hm => by rw [List.mem_singleton.mp hm] at e; exact Nat.lt_irrefl _ (Heap.lt_size e)) (Heap.get?_push_of_some _ e)
theorem max_fil {f I d : Addr} {kvs : List (K × Value)} {ep : Nat} {c : Int} {t : Tok} {Q : Value → Shared → Prop} (hh : A.handled = none) (hf : f ≠ I) (hd : d ≠ I) (hni : ∀ p ∈ kvs, NoneInt p.2) (st : FilAt knd f I d kvs ep 0 s.heap)
    (hQ : ∀ n u h' tk, (∃ p ∈ kvs, ∃ u', p.2 = .int n u') → (n ≠ 0) → (∀ p ∈ kvs, ∀ n' u', p.2 = .int n' u' → n' ≠ 0 → n' ≤ n) → (∀ b o, b ≠ I → s.heap.get? b = some o → h'.get? b = some o) → Q (.int n u) { s with heap := h', toks := tk })
    (h0 : (∀ p ∈ kvs, ∀ n u, p.2 = .int n u → n = 0) → ∀ h' tk, (∀ b o, b ≠ I → s.heap.get? b = some o → h'.get? b = some o) → Q (.int c t) { s with heap := h', toks := tk }) :
    wpAny (model prog w) A (call (.builtin "max") [.ref f] (kwD (.int c t))) Q E s := by
  have W := Walks.filter (prog := prog) (w := w) (A := A.in1) (knd := knd) hh f I d hf hd kvs ep hni
  have hmem : ∀ x, x ∈ fl kvs 0 ↔ (∃ p ∈ kvs, p.2 = x) ∧ truthV x = true := by
    intro x; unfold fl; rw [List.mem_filter, List.mem_map, List.drop_zero]
  have hint : ∀ x ∈ fl kvs 0, ∃ n u, x = .int n u ∧ n ≠ 0 := by
    intro x hx
    obtain ⟨⟨p, hp, rfl⟩, ht⟩ := (hmem x).mp hx
    rcases hni p hp with e | ⟨n, u, e⟩
    · rw [e] at ht; cases ht
    · refine ⟨n, u, e, ?_⟩
      rw [e] at ht
      simpa [truthV] using ht
  let num : Nat → Int := fun i => match (fl kvs 0)[i]? with | some (.int n _) => n | _ => 0
  have hval : ∀ i v, (fl kvs 0)[i]? = some v → ∃ t, v = Value.int (num i) t := by
    intro i v hv
    obtain ⟨n, u, rfl, _⟩ := hint v (List.mem_of_getElem? hv)
    exact ⟨u, by simp only [num, hv]⟩
  refine call_maxd ?_
  refine W.self 0 s _ _ ⟨0, st, rfl⟩ ?_
  refine ⟨f, _, _, _, _, _, _, rfl, W, ⟨0, st, rfl⟩, fun b hb => ?_, CmpOf.ints_gt num hval, fun hn v h' tk hP hk => ?_, fun hn h' tk hk => ?_⟩
  · obtain ⟨s1, ⟨oI, s2, _⟩, ⟨od, es, s3, _⟩⟩ := st
    simp only [List.mem_cons, List.not_mem_nil, or_false] at hb
    rcases hb with rfl | rfl | rfl
    · exact Heap.lt_size s1
    · exact Heap.lt_size s2
    · exact Heap.lt_size s3
  · obtain ⟨hle, hbest⟩ := argBest_gt num ((fl kvs 0).length - 1)
    have hP' := hP
    obtain ⟨t', rfl⟩ := hval _ v hP
    obtain ⟨n, u, e, hn0⟩ := hint _ (List.mem_of_getElem? hP)
    injection e with e1 e2
    obtain ⟨⟨p, hp, hpe⟩, _⟩ := (hmem _).mp (List.mem_of_getElem? hP)
    refine hQ _ _ h' tk ⟨p, hp, _, hpe⟩ (by rw [e1]; exact hn0) (fun q hq n' u' hqe hn' => ?_) fun b o hb e => hk b o (fun hm => hb (List.mem_singleton.mp hm)) e
    have hin : (Value.int n' u' : Value) ∈ fl kvs 0 := (hmem _).mpr ⟨⟨q, hq, hqe⟩, by simpa [truthV] using hn'⟩
    obtain ⟨j, hj⟩ := List.getElem?_of_mem hin
    have hjl := (List.getElem?_eq_some_iff.mp hj).1
    have := hbest j (by omega)
    have hnj : num j = n' := by simp only [num, hj]
    rw [hnj] at this; exact this
  · refine h0 (fun p hp n u hpe => ?_) h' tk fun b o hb e => hk b o (fun hm => hb (List.mem_singleton.mp hm)) e
    by_cases hz : n = 0
    · exact hz
    · have hin : (Value.int n u : Value) ∈ fl kvs 0 := (hmem _).mpr ⟨⟨p, hp, hpe⟩, by simpa [truthV] using hz⟩
      have : fl kvs 0 = [] := List.eq_nil_of_length_eq_zero hn
      rw [this] at hin; cases hin
end
end
section
open PySem PySem.W PyProof.Rows
set_option linter.unusedSectionVars false
theorem rulesV12x0 : True := by
  k_with_none
  trivial
/-- a place of the row's table: None, or a line -/
noncomputable def LineIs : Value → Option Nat → Prop
  | .none, none => True
  | .int n _, some k => n = (k : Int)
  | _, _ => False
inductive LinesAre : List Value → List (Option Nat) → Prop
  | nil : LinesAre [] []
  | none {vs ls} : LinesAre vs ls → LinesAre (Value.none :: vs) (Option.none :: ls)
  | int {vs ls} (n : Nat) (t : Tok) : LinesAre vs ls → LinesAre (Value.int (n : Int) t :: vs) (some n :: ls)
theorem LinesAre.ni {vs : List Value} {ls : List (Option Nat)} (x : LinesAre vs ls) : ∀ v ∈ vs, NoneInt v := by
  induction x with
  | nil => intro v hv; cases hv
  | none _ ih =>
    intro v hv
    rcases List.mem_cons.mp hv with rfl | hv
    · exact .inl rfl
    · exact ih v hv
  | int n t _ ih =>
    intro v hv
    rcases List.mem_cons.mp hv with rfl | hv
    · exact .inr ⟨_, _, rfl⟩
    · exact ih v hv
theorem LinesAre.mem_int {vs : List Value} {ls : List (Option Nat)} (x : LinesAre vs ls) : ∀ {n : Int} {t : Tok}, Value.int n t ∈ vs → ∃ k : Nat, n = (k : Int) ∧ some k ∈ ls := by
  induction x with
  | nil => intro n t hv; cases hv
  | none _ ih => intro n t hv; rcases List.mem_cons.mp hv with e | hv; cases e; obtain ⟨k, e, h⟩ := ih hv; exact ⟨k, e, .tail _ h⟩
  | int m u _ ih =>
    intro n t hv
    rcases List.mem_cons.mp hv with e | hv
    · injection e with e; exact ⟨m, e, .head _⟩
    · obtain ⟨k, e, h⟩ := ih hv; exact ⟨k, e, .tail _ h⟩
theorem LinesAre.int_mem {vs : List Value} {ls : List (Option Nat)} (x : LinesAre vs ls) : ∀ {k : Nat}, some k ∈ ls → ∃ t, Value.int (k : Int) t ∈ vs := by
  induction x with
  | nil => intro k hv; cases hv
  | none _ ih => intro k hv; rcases List.mem_cons.mp hv with e | hv; cases e; obtain ⟨t, h⟩ := ih hv; exact ⟨t, .tail _ h⟩
  | int m u _ ih =>
    intro k hv
    rcases List.mem_cons.mp hv with e | hv
    · injection e with e; subst e; exact ⟨u, .head _⟩
    · obtain ⟨t, h⟩ := ih hv; exact ⟨t, .tail _ h⟩
theorem LinesAre.anyNone {vs : List Value} {ls : List (Option Nat)} (x : LinesAre vs ls) : vs.any isNone = ls.any Option.isNone := by
  induction x with
  | nil => rfl
  | none _ ih => rfl
  | int m u _ ih => rw [List.any_cons, List.any_cons, ih]; rfl
/-- the highest line -/
noncomputable def topN : List (Option Nat) → Nat
  | [] => 0
  | none :: r => topN r
  | some n :: r => max n (topN r)
theorem topN_ge : ∀ {ls : List (Option Nat)} {k : Nat}, some k ∈ ls → k ≤ topN ls
  | some n :: r, k, h => by
    rcases List.mem_cons.mp h with e | h
    · injection e with e; subst e; exact Nat.le_max_left _ _
    · exact Nat.le_trans (topN_ge h) (Nat.le_max_right _ _)
  | none :: r, k, h => by
    rcases List.mem_cons.mp h with e | h
    · cases e
    · exact topN_ge (ls := r) h
theorem topN_mem : ∀ {ls : List (Option Nat)}, topN ls ≠ 0 → some (topN ls) ∈ ls
  | [], h => absurd rfl h
  | none :: r, h => .tail _ (topN_mem (ls := r) h)
  | some n :: r, h => by
    rcases Nat.le_total n (topN r) with hle | hle
    · have e : topN (some n :: r) = topN r := Nat.max_eq_right hle
      rw [e] at h ⊢
      exact .tail _ (topN_mem h)
    · have e : topN (some n :: r) = n := Nat.max_eq_left hle
      rw [e]; exact .head _
noncomputable def topI (ls : List (Option Nat)) : Int := if topN ls = 0 then -1 else (topN ls : Int)
section
variable {prog : Program} {w : World} {K : Type} [DecidableEq K] {knd : KeyKind prog w K} {A : Around} {E : Value → Shared → Prop} {s : Shared} {h₀ : Heap} {L d : Addr} {m : Str → Option Value} {news : Led} {o : Obj} {kvs : List (K × Value)}
noncomputable abbrev vwObj (d : Addr) : Obj := { cls := .type "dict_values", data := .fields #[.ref d] }
noncomputable abbrev fiObj (I : Addr) : Obj := { cls := .type "filter", data := .fields #[.none, .ref I] }
theorem fil_newN {v : Addr} {Q : Value → Shared → Prop} (F : Fr h₀ L s.heap m) (N : News h₀ L s.heap news) (hv : (v, vwObj d) ∈ news) (hd : (d, o) ∈ news) (hdo : o.IsDictOf knd kvs)
    (h : ∀ (f I : Addr) (h' : Heap) (io : Obj) (ep : Nat), Fr h₀ L h' m → News h₀ L h' ((f, fiObj I) :: (I, io) :: news) → (∀ q ∈ news, q.1 < I) → I < f → (io.cls = .type "dict_valueiterator" ∧ io.data = .fields #[.ref d, .int 0 0, .int kvs.length 0, .int ep 0]) → KdkAt knd o kvs ep → Q (.ref f) { s with heap := h' }) :
    wpAny (model prog w) A (call (.type "filter") [.none, .ref v]) Q E s := by
  obtain ⟨ep, ha⟩ := KdkAt.of hdo
  refine fil_new (ep := ep) ⟨_, (N _ hv).1, rfl, rfl⟩ (ha.dictAt (N _ hd).1) ?_
  have F1 := F.push { cls := .type "dict_valueiterator", data := .fields #[.ref d, .int 0 0, .int kvs.length 0, .int ep 0] }
  have N1 := News.push F N { cls := .type "dict_valueiterator", data := .fields #[.ref d, .int 0 0, .int kvs.length 0, .int ep 0] } rfl
  have F2 := F1.push (fiObj s.heap.objs.size)
  have N2 := News.push F1 N1 (fiObj s.heap.objs.size) rfl
  rw [Heap.size_push] at N2
  exact h _ _ _ _ ep F2 N2 (fun q hq => Heap.lt_size (N q hq).1) (Nat.lt_succ_self _) ⟨rfl, rfl⟩ ha
theorem max_filN {f I : Addr} {io : Obj} {ep : Nat} {c : Int} {t : Tok} {ls : List (Option Nat)} {Q : Value → Shared → Prop} (hh : A.handled = none) (F : Fr h₀ L s.heap m) (N : News h₀ L s.heap ((f, fiObj I) :: (I, io) :: news)) (hd : (d, o) ∈ news)
    (hlt : ∀ q ∈ news, q.1 < I) (hIf : I < f) (hio : io.cls = .type "dict_valueiterator" ∧ io.data = .fields #[.ref d, .int 0 0, .int kvs.length 0, .int ep 0]) (ha : KdkAt knd o kvs ep) (hls : LinesAre (kvs.map (·.2)) ls)
    (hc : c = -1) (h : ∀ u h' tk, Fr h₀ L h' m → News h₀ L h' news → Q (.int (topI ls) u) { s with heap := h', toks := tk }) :
    wpAny (model prog w) A (call (.builtin "max") [.ref f] (kwD (.int c t))) Q E s := by
  subst hc
  have nI := N (I, io) (.tail _ (.head _))
  have nf := N (f, fiObj I) (.head _)
  have hni : ∀ p ∈ kvs, NoneInt p.2 := fun p hp => hls.ni p.2 (List.mem_map.mpr ⟨p, hp, rfl⟩)
  have keep : ∀ h' tk, (∀ b o, b ≠ I → s.heap.get? b = some o → h'.get? b = some o) → ∀ v u, v = topI ls → Q (.int v u) { s with heap := h', toks := tk } := by
    intro h' tk hk v u e
    subst e
    refine h u h' tk (kmb_fr F (I := I) (fun b o hb e => hk b o (fun q => hb (by rw [q]; exact .head _)) e) nI.2.1 nI.2.2) fun q hq => ?_
    have nq := N q (.tail _ (.tail _ hq))
    exact ⟨hk _ _ (Nat.ne_of_lt (hlt q hq)) nq.1, nq.2⟩
  refine max_fil (d := d) (ep := ep) hh (Nat.ne_of_gt hIf) (Nat.ne_of_lt (hlt _ hd)) hni ⟨nf.1, ⟨_, nI.1, hio.1, hio.2⟩, ha.dictAt (N _ (.tail _ (.tail _ hd))).1⟩ (fun n u h' tk hin hn0 hmax hk => ?_) (fun hz h' tk hk => ?_)
  · refine keep h' tk hk n u ?_
    obtain ⟨p, hp, u', hpe⟩ := hin
    obtain ⟨k, hk1, hk2⟩ := hls.mem_int (List.mem_map.mpr ⟨p, hp, hpe⟩)
    have hge := topN_ge hk2
    have hk0 : k ≠ 0 := fun z => hn0 (by rw [hk1, z]; rfl)
    have ht0 : topN ls ≠ 0 := by omega
    obtain ⟨t', ht'⟩ := hls.int_mem (topN_mem ht0)
    obtain ⟨q, hq, hqe⟩ := List.mem_map.mp ht'
    have := hmax q hq _ _ hqe (by omega)
    unfold topI
    rw [if_neg ht0]; omega
  · refine keep h' tk hk (-1) t ?_
    have ht0 : topN ls = 0 := by
      by_cases ht0 : topN ls = 0
      · exact ht0
      · obtain ⟨t', ht'⟩ := hls.int_mem (topN_mem ht0)
        obtain ⟨q, hq, hqe⟩ := List.mem_map.mp ht'
        have := hz q hq _ _ hqe
        omega
    unfold topI
    rw [if_pos ht0]
theorem in_valuesN {v : Addr} {ls : List (Option Nat)} {Q : Value → Shared → Prop} (hh : A.handled = none) (F : Fr h₀ L s.heap m) (N : News h₀ L s.heap news) (hv : (v, vwObj d) ∈ news) (hd : (d, o) ∈ news) (hdo : o.IsDictOf knd kvs) (hls : LinesAre (kvs.map (·.2)) ls)
    (h : ∀ h' tk, Fr h₀ L h' m → News h₀ L h' news → Q (.bool (ls.any Option.isNone)) { s with heap := h', toks := tk }) :
    wpAny (model prog w) A (compareOp .In .none (.ref v)) Q E s := by
  obtain ⟨ep, ha⟩ := KdkAt.of hdo
  refine in_values hh ⟨_, (N _ hv).1, rfl, rfl⟩ (ha.dictAt (N _ hd).1) (fun p hp => hls.ni p.2 (List.mem_map.mpr ⟨p, hp, rfl⟩)) fun h' tk hk => ?_
  have e : (kvs.any fun p => isNone p.2) = ls.any Option.isNone := by rw [← hls.anyNone, List.any_map]; rfl
  rw [e]
  exact h h' tk (F.kept hk) fun q hq => ⟨hk _ _ (N q hq).1, (N q hq).2⟩
end
end
section
open PySem PySem.W PyProof.Rows
theorem rulesV13x0 : True := by
  k_with_none
  trivial
noncomputable def digitsN (t : Nat) : Nat := if t < 1000 then 3 else if t < 10000 then 4 else if t < 100000 then 5 else 6
/-- the width of a stretch of lines -/
noncomputable def widthN (ls : List (Option Nat)) : Nat := if topN ls = 0 then 0 else max (digitsN (topN ls)) (if ls.any Option.isNone then 4 else 3)
theorem rulesV13x1 : True := by
  (k_with "mem in" => first | assumption | exact List.Mem.head _ | (refine List.Mem.tail _ ?_; walk_at "mem in"))
  (k_with "getMethod ref" => (k_here; (with_reducible show wpAny _ _ (getMethod (Value.ref _) (Str.ofString "values") _) _ _ _); k_dflt (refine' kdl_method (knd := PySem.intKind _ _) PySem.F.slot_dict_values PySem.F.type_dict_values ?wfN ?wfD ?wfO ?_; (case wfN => k_asm); (case wfO => assumption); (case wfD => walk_at "mem in"))))
  (k_with "call type:filter" => (k_here; k_dflt (refine' fil_newN (knd := PySem.intKind _ _) ?wfF ?wfN ?wfV ?wfD ?wfO ?_; (case wfF => k_asm); (case wfN => k_asm); (case wfV => walk_at "mem in"); (case wfO => assumption); (case wfD => walk_at "mem in")); intro fz9 Iz9 hz9 ioz9 epz9 Fz9 Nz9 l1z9 l2z9 hioz9 haz9))
  (k_with "call builtin:dict.values" => (k_here; k_dflt (refine' kdl_view_values (knd := PySem.intKind _ _) ?wfF ?wfN ?wfD ?wfO ?wfL ?_; (case wfF => k_asm); (case wfN => k_asm); (case wfO => assumption); (case wfD => walk_at "mem in"); (case wfL => assumption)); intro Dz9 hz9 Fz9 Nz9 l1z9))
  (k_with "call builtin:max" => (k_here; k_dflt (refine' max_filN (knd := PySem.intKind _ _) ?wfH ?wfF ?wfN ?wfD ?wf1 ?wf2 ?wf3 ?wf4 ?wf5 ?wf6 ?_; (case wfH => rfl); (case wfF => k_asm); (case wfN => k_asm); (case wf4 => assumption); (case wfD => walk_at "mem in"); (case wf1 => assumption); (case wf2 => assumption); (case wf3 => assumption); (case wf5 => assumption); (case wf6 => rfl)); intro uz9 hz9 tkz9 Fz9 Nz9))
  (k_with "compareOp In none ref" => (k_here; k_dflt (refine' in_valuesN (knd := PySem.intKind _ _) ?wfH ?wfF ?wfN ?wfV ?wfD ?wfO ?wfS ?_; (case wfH => rfl); (case wfF => k_asm); (case wfN => k_asm); (case wfV => exact List.Mem.head _); (case wfO => assumption); (case wfD => walk_at "mem in"); (case wfS => assumption)); intro hz9 tkz9 Fz9 Nz9))
  trivial
theorem strlen (n : Nat) : (Str.ofString (toString (n : Int))).length = (Nat.toDigits 10 n).length := by
  have := text_ofNat n
  rw [show (n : Int) = Int.ofNat n from rfl, this]
  show (((Nat.toDigits 10 n).map Char.toNat).toArray).size = _
  simp
theorem dig_key {ls : List (Option Nat)} (h : topI ls ≠ -1) (ht : topN ls < 262144) :
    (if (((Str.ofString (toString (topI ls))).length : Nat) : Int) > 3 then (((Str.ofString (toString (topI ls))).length : Nat) : Int) else 3) = ((digitsN (topN ls) : Nat) : Int) ∧ topN ls ≠ 0 := by
  have h0 : topN ls ≠ 0 := fun z => h (by unfold topI; rw [if_pos z])
  have e : topI ls = ((topN ls : Nat) : Int) := by unfold topI; rw [if_neg h0]
  refine ⟨?_, h0⟩
  rw [e, strlen]
  generalize hn : topN ls = n at *
  have key : ∀ k : Nat, 3 ≤ k → (Nat.toDigits 10 n).length = k → (if (((Nat.toDigits 10 n).length : Nat) : Int) > 3 then (((Nat.toDigits 10 n).length : Nat) : Int) else 3) = (k : Int) := fun k hk e => by
    rw [e]
    by_cases h : k = 3
    · rw [h, if_neg (by decide)]; rfl
    · rw [if_pos (by omega)]
  unfold digitsN
  by_cases q3 : n < 1000
  · rw [if_pos q3]
    have a1 : (Nat.toDigits 10 n).length ≤ 3 := digits10_le (k := 3) (n := n) (by decide) q3
    rw [if_neg (by omega)]; rfl
  rw [if_neg q3]
  by_cases q4 : n < 10000
  · rw [if_pos q4]
    exact key 4 (by decide) (Nat.le_antisymm (digits10_le (k := 4) (n := n) (by decide) q4) (digits10_ge (k := 3) (n := n) (Nat.le_of_not_lt q3)))
  rw [if_neg q4]
  by_cases q5 : n < 100000
  · rw [if_pos q5]
    exact key 5 (by decide) (Nat.le_antisymm (digits10_le (k := 5) (n := n) (by decide) q5) (digits10_ge (k := 4) (n := n) (Nat.le_of_not_lt q4)))
  rw [if_neg q5]
  exact key 6 (by decide) (Nat.le_antisymm (digits10_le (k := 6) (n := n) (by decide) (Nat.lt_of_lt_of_le ht (by decide))) (digits10_ge (k := 5) (n := n) (Nat.le_of_not_lt q5)))
theorem widthN_pos {ls : List (Option Nat)} (h : topN ls ≠ 0) : widthN ls = max (digitsN (topN ls)) (if ls.any Option.isNone then 4 else 3) := if_neg h
theorem digitsN_ge (n : Nat) : 3 ≤ digitsN n := by unfold digitsN; (repeat' split) <;> omega
set_option maxHeartbeats 4000000 in
theorem width_con (w : World) (p : Program) (loose : List Str) (mean : ExcName → Option Value) (mg mb : Str → Option Value) (d : Addr) (o : Obj) (kvs : List (Int × Value)) (ls : List (Option Nat)) (news : Led)
    (hdm : (d, o) ∈ news) (hdo : o.IsDictOf (PySem.intKind PySem.Challenge.rw_wk0033_01.row.prog w) kvs) (hls : LinesAre (kvs.map (·.2)) ls) (htop : topN ls < 262144) (hsys : (d == sysModules) = false) :
    Con w p loose mean mg mb 28 [.ref d] news (RetV (fun t => .int ((widthN ls : Nat) : Int) t) news) := by
  intro dp un gd cn cs a ccd cl outer A₀ base h₀ L m s Q E B F X N T hk hd hu R
  have hb0 : -1 ≤ topI ls := by unfold topI; split <;> omega
  have hb1 : topI ls < 262144 := by unfold topI; split <;> omega
  revert X; k_fill; intro X
  refine wpAny_call ?_
  k_dflt cell_enter
  k_steps
  · refine retI_end R ?_ (by k_asm) (by k_asm) (fun q hq => .tail _ hq)
    rename topI ls = -1 => hz
    have : topN ls = 0 := by unfold topI at hz; split at hz <;> omega
    unfold widthN; rw [if_pos this]; rfl
  all_goals (rename topI ls ≠ -1 => hz; obtain ⟨key, h0⟩ := dig_key hz htop; have h3 := digitsN_ge (topN ls); refine retI_end R ?_ (by k_asm) (by k_asm) (fun q hq => ?_); (rw [widthN_pos h0]); rotate_left; first | exact .tail _ (.tail _ hq) | exact .tail _ hq)
  · rename ls.any Option.isNone = true => hn
    have hlt : digitsN (topN ls) < 4 := by omega
    rw [hn, if_pos rfl, Nat.max_eq_right (by omega)]
  · rename ls.any Option.isNone = false => hn
    rw [hn, key, if_neg (by simp), Nat.max_eq_left h3]
  · have hge : 4 ≤ digitsN (topN ls) := by omega
    rw [key, Nat.max_eq_left (by split <;> omega)]
end
local macro_rules | `(tactic| k_ne) => `(tactic| k_extra "k ne")
local macro_rules | `(tactic| k_all) => `(tactic| k_extra "k all")
local macro_rules | `(tactic| k_mem) => `(tactic| k_extra "k mem")
section
open PySem PySem.W PyProof.Rows
theorem rulesV14x0 : True := by
  k_with_none
  trivial
theorem all_ne {news : Led} {d c : Addr} (h : ∀ p ∈ news, p.1 < d) (hd : @LE.le Nat _ d c) : ∀ p ∈ news, p.1 ≠ c := fun p hp e => absurd (h p hp) (by rw [e]; exact Nat.not_lt.mpr hd)
theorem neS {a b : Nat} (h : @Ne Nat a b) : @Ne Nat b a := h.symm

theorem rulesV14x1 : True := by
  (k_with "k ne" => (refine neN ?_; (try dsimp only); first | (with_reducible assumption) | exact neS (by with_reducible assumption) | omega))
  (k_with "k all" => (refine all_ne (by assumption) ?_; (try dsimp only); omega))
  (k_with "k mem" => assumption)
  (k_with "enter C" => (refine' code_defC ?k1 ?k2 ?k3 ?k4 ?k5 ?kA ?kF ?kK ?k6 ?k7 ?k8 ?k9 ?kB ?kD ?_ ?c2 ?c3 ?c4; (case kA => exact rfl); (case kF => exact rfl); (case kK => assumption); (case k1 => k_asm); (case k2 => k_asm); (case k3 => k_asm); (case k4 => k_asm); (case k5 => k_asm); (case k6 => k_is); (case k7 => k_is); (case k8 => ktr_room); (case k9 => exact BindsTo.of_eq rfl); (case kB => exact rfl); (case kD => decide +kernel); (case c2 => exact rfl); (case c3 => exact rfl); (case c4 => exact rfl); k_whole; intro gz9 Lz9 hz9 tkz9 cellsz9 FGz9 Fz9 Nz9 Yz9 Bz9 Xz9 Tz9 l1z9; k_cells Yz9; (try simp only [List.cons_append, List.nil_append] at Nz9); (try dsimp only); (try k_lift Bz9); (try k_fold)))
  trivial
/-- how a turn of a loop ends -/
noncomputable def StepW (h₀ : Heap) (L I : Addr) (io : Obj) (Jn : (Str → Option Value) → Led → Prop) (s : Shared) (Q : Flow → Shared → Prop) (f : Flow) (s₃ : Shared) : Prop :=
  match f with
  | .next | .cont => ∃ h' tk m₂ news₂, s₃ = { s with heap := h', toks := tk } ∧ Fr h₀ L h' m₂ ∧ News h₀ L h' ((I, io) :: news₂) ∧ (∀ p ∈ news₂, p.1 ≠ I) ∧ Jn m₂ news₂
  | .brk => Q .next s₃
  | .ret v => Q (.ret v) s₃
section
variable {prog : Program} {w : World} {A : Around} {h₀ : Heap} {env : Env} {x : Str} {body : List Stmt} {Q : Flow → Shared → Prop} {E : Value → Shared → Prop} {s : Shared} {m : Str → Option Value} {news : Led}
theorem forW_at {I : Addr} {fr : List Addr} {n : Nat} {P : Nat → Value → Prop} {St : Nat → Heap → Prop} (W : Walks prog w A I (I :: fr) [I] n P St) (keepL : Led) (hLf : env.locals ∉ I :: fr) (hI : h₀.get? I = none)
    (hfr : ∀ b ∈ fr, (∃ o, h₀.get? b = some o) ∨ ∃ o, (b, o) ∈ keepL) (hSt : ∀ i h, St i h → ∃ o, h.get? I = some o) (hnw : ∀ p ∈ news, p.1 ≠ I) (hst : St 0 s.heap) (F : Fr h₀ env.locals s.heap m) (N : News h₀ env.locals s.heap news)
    (J : Nat → (Str → Option Value) → Led → Prop) (h0 : J 0 m news) (hk : ∀ i m news, J i m news → ∀ q ∈ keepL, q ∈ news)
    (step : ∀ i v m₁ news₁ h tk io, i < n → P i v → J i m₁ news₁ → (∀ p ∈ news₁, p.1 ≠ I) → Fr h₀ env.locals h (fun y => if y = x then some v else m₁ y) → News h₀ env.locals h ((I, io) :: news₁) →
      wpAny (model prog w) A (execs body env) (StepW h₀ env.locals I io (J (i + 1)) s Q) E { s with heap := h, toks := tk })
    (hQ : ∀ h' tk m' news', Fr h₀ env.locals h' m' → News h₀ env.locals h' news' → J n m' news' → Q .next { s with heap := h', toks := tk })
    (hE : PassesOwn (model prog w) A env E := by passes_own) :
    LoopAtV prog w A h₀ env x body Q E (.ref I) s := by
  refine ⟨I, I :: fr, [I], n, P, St, m, news, J, rfl, W, hLf, fun b hb => by rw [List.mem_singleton.mp hb]; exact hI, fun p hp hb => hnw p hp (List.mem_singleton.mp hb), hst, F, N, h0, ?_, fun h' tk m' news' F' N' _ hJ => hQ h' tk m' news' F' N' hJ⟩
  intro i v m₁ news₁ s₁ own hs₁ hi hP hJ hnw₁ hown hownh hownin hst₁ F₁ N₁
  obtain ⟨h, tk, rfl⟩ := hs₁
  obtain ⟨io, hio⟩ := hSt _ _ hst₁
  have hIown : (I, io) ∈ own := hownin I (.head _) hI io hio
  have hnI : ∀ p ∈ news₁, p.1 ≠ I := fun p hp e => hnw₁ p hp (by rw [e]; exact .head _)
  have hsub : ∀ p ∈ own, p = (I, io) ∨ p ∈ keepL := by
    intro p hp
    have hn := (N₁ p (List.mem_append_left _ hp)).2.2
    have hg := hownh p hp
    rcases List.mem_cons.mp (hown p hp) with e | hf
    · left
      have hg' : h.get? p.1 = some p.2 := hg
      have hio' : h.get? I = some io := hio
      rw [e, hio'] at hg'
      injection hg' with hg'
      exact Prod.ext e hg'.symm
    · right
      rcases hfr _ hf with ⟨o, ho⟩ | ⟨o, ho⟩
      · rw [ho] at hn; cases hn
      · have := (N₁ _ (List.mem_append_right _ (hk _ _ _ hJ _ ho))).1
        have hg' : h.get? p.1 = some p.2 := hg
        rw [show h.get? p.1 = some o from this] at hg'
        injection hg' with hg'
        rw [hg'] at ho
        exact ho
  refine wpAny_mono (step i v m₁ news₁ h tk io hi hP hJ hnI F₁ fun q hq => ?_) (fun f s₃ h₃ => ?_) fun _ _ e => e
  · rcases List.mem_cons.mp hq with rfl | hq
    · exact N₁ _ (List.mem_append_left _ hIown)
    · exact N₁ _ (List.mem_append_right _ hq)
  · cases f with
    | ret v => exact h₃
    | brk => exact h₃
    | next =>
      obtain ⟨h', tk', m₂, news₂, rfl, F₂, N₂, hn₂, J₂⟩ := h₃
      refine ⟨rfl, h', tk', m₂, news₂, rfl, F₂, fun q hq => ?_, fun p hp hb => hn₂ p hp (List.mem_singleton.mp hb), J₂⟩
      rcases List.mem_append.mp hq with hq | hq
      · rcases hsub q hq with rfl | hq
        · exact N₂ _ (.head _)
        · exact N₂ _ (.tail _ (hk _ _ _ J₂ _ hq))
      · exact N₂ _ (.tail _ hq)
    | cont =>
      obtain ⟨h', tk', m₂, news₂, rfl, F₂, N₂, hn₂, J₂⟩ := h₃
      refine ⟨rfl, h', tk', m₂, news₂, rfl, F₂, fun q hq => ?_, fun p hp hb => hn₂ p hp (List.mem_singleton.mp hb), J₂⟩
      rcases List.mem_append.mp hq with hq | hq
      · rcases hsub q hq with rfl | hq
        · exact N₂ _ (.head _)
        · exact N₂ _ (.tail _ (hk _ _ _ J₂ _ hq))
      · exact N₂ _ (.tail _ hq)
/-- where a for loop begins, its iterable evaluated -/
noncomputable def ItAt (prog : Program) (w : World) (A : Around) (h₀ : Heap) (env : Env) (x : Str) (body : List Stmt) (Q : Flow → Shared → Prop) (E : Value → Shared → Prop) (xv : Value) (s₁ : Shared) : Prop :=
  wpAny (model prog w) A (pyIter xv) (fun it s₂ => LoopAtV prog w A h₀ env x body Q E it s₂) E s₁
theorem for_it {px pos : Pos} {iter : Expr} (F : Fr h₀ env.locals s.heap m) (hx : env.kindOf x = some .local)
    (hp : (env.scope.kind == .class || (env.scope.kind == .module && env.locals != env.globals)) = false)
    (h : wpAny (model prog w) A (eval iter env) (fun xv s₁ => ItAt prog w A h₀ env x body Q E xv s₁) E s)
    (hs : ∀ x, foldedSetIterable iter env x = pure x := by intro _; rfl)
    (hE : PassesOwn (model prog w) A env E := by passes_own) :
    wpAny (model prog w) A (exec (.For (.Name x px) iter body [] pos) env) Q E s := For_invV h₀ hx hp h hs hE
theorem pyIter_strS {z : Str} {t : Tok} {Q : Value → Shared → Prop}
    (hQ : ∀ (o : Obj) (St : Nat → Heap → Prop), (∀ A' : Around, A'.handled = none → Walks prog w A' s.heap.objs.size [s.heap.objs.size] [s.heap.objs.size] z.cps.size (SignAt z) St) → (∀ i h, St i h → ∃ o, h.get? s.heap.objs.size = some o) → St 0 (s.heap.push o) →
      Q (.ref s.heap.objs.size) { s with heap := s.heap.push o }) : wpAny (model prog w) A (pyIter (.str z t)) Q E s := by
  cases ha : z.cps.all (· < 128)
  · exact wpAny_pyIter_wide ha (hQ _ _ (fun A' hA => Walks.strWide hA _ z t) (fun i h st => st.imp fun _ r => r.1) ⟨_, Heap.get?_push_size _ rfl, rfl, rfl⟩)
  · exact wpAny_pyIter_ascii ha (hQ _ _ (fun A' hA => Walks.strAscii hA _ z t) (fun i h st => st.imp fun _ r => r.1) ⟨_, Heap.get?_push_size _ rfl, rfl, rfl⟩)
theorem it_str {z : Str} {t : Tok} (hh : A.handled = none) (F : Fr h₀ env.locals s.heap m) (N : News h₀ env.locals s.heap news)
    (J : Led → Nat → (Str → Option Value) → Led → Prop) (h0 : J news 0 m news)
    (step : ∀ I i c t' m₁ news₁ h tk io, (∀ p ∈ news, p.1 < I) → z.cps[i]? = some c → J news i m₁ news₁ → (∀ p ∈ news₁, p.1 ≠ I) → Fr h₀ env.locals h (fun y => if y = x then some (.str ⟨#[c]⟩ t') else m₁ y) → News h₀ env.locals h ((I, io) :: news₁) →
      wpAny (model prog w) A (execs body env) (StepW h₀ env.locals I io (J news (i + 1)) s Q) E { s with heap := h, toks := tk })
    (hQ : ∀ h' tk m' news', Fr h₀ env.locals h' m' → News h₀ env.locals h' news' → J news z.cps.size m' news' → Q .next { s with heap := h', toks := tk })
    (hE : PassesOwn (model prog w) A env E := by passes_own) :
    ItAt prog w A h₀ env x body Q E (.str z t) s := by
  refine pyIter_strS fun o St W hSt hst => ?_
  have hL : env.locals ∉ [s.heap.objs.size] := fun hm => by
    obtain ⟨oL, _, _, hL, _⟩ := F.ns
    rw [List.mem_singleton.mp hm] at hL
    exact Nat.lt_irrefl _ (Heap.lt_size hL)
  have hpush : ∀ h', ({ s with heap := h' } : Shared) = { { s with heap := s.heap.push o } with heap := h' } := fun _ => rfl
  refine forW_at (W A hh) [] hL F.fresh (fun b hb => nomatch hb) hSt (fun p hp => Nat.ne_of_lt (Heap.lt_size (N p hp).1)) hst (F.push _) (fun q hq => ?_) (J news) h0 (fun _ _ _ _ q hq => nomatch hq) ?_ ?_ hE
  · have := N q hq
    exact ⟨Heap.get?_push_of_some _ this.1, this.2⟩
  · intro i v m₁ news₁ h tk io hi hP hJ hn F₁ N₁
    obtain ⟨c, u, hc, rfl⟩ := hP
    exact step _ i c u m₁ news₁ h tk io (fun p hp => Heap.lt_size (N p hp).1) hc hJ hn F₁ N₁
  · exact fun h' tk m' news' F' N' hJ => hQ h' tk m' news' F' N' hJ
theorem it_list {l : Addr} {items : Array Value} (hh : A.handled = none) (F : Fr h₀ env.locals s.heap m) (N : News h₀ env.locals s.heap news) (keepL : Led) (hl : s.heap.IsList l items) (hll : (∃ o, h₀.get? l = some o) ∨ ∃ o, (l, o) ∈ keepL) (hkn : ∀ q ∈ keepL, q ∈ news)
    (J : Led → Nat → (Str → Option Value) → Led → Prop) (h0 : J news 0 m news) (hk : ∀ i m₁ news₁, J news i m₁ news₁ → ∀ q ∈ keepL, q ∈ news₁)
    (step : ∀ I i v m₁ news₁ h tk io, (∀ p ∈ news, p.1 < I) → items[i]? = some v → J news i m₁ news₁ → (∀ p ∈ news₁, p.1 ≠ I) → Fr h₀ env.locals h (fun y => if y = x then some v else m₁ y) → News h₀ env.locals h ((I, io) :: news₁) →
      wpAny (model prog w) A (execs body env) (StepW h₀ env.locals I io (J news (i + 1)) s Q) E { s with heap := h, toks := tk })
    (hQ : ∀ h' tk m' news', Fr h₀ env.locals h' m' → News h₀ env.locals h' news' → J news items.size m' news' → Q .next { s with heap := h', toks := tk })
    (hE : PassesOwn (model prog w) A env E := by passes_own) :
    ItAt prog w A h₀ env x body Q E (.ref l) s := by
  refine wpAny_pyIter_list hl ?_
  obtain ⟨ol, hol, hlr⟩ := id hl
  have hlI : l < s.heap.objs.size := Heap.lt_size hol
  obtain ⟨oL, _, _, hL, _⟩ := F.ns
  have hLI : env.locals < s.heap.objs.size := Heap.lt_size hL
  have hLl : env.locals ≠ l := by
    intro e
    rcases hll with ⟨o, ho⟩ | ⟨o, ho⟩
    · have := Heap.lt_size ho
      have := F.above
      rw [e] at this
      exact absurd ‹_ < _› (Nat.not_lt.mpr this)
    · exact (N _ (hkn _ ho)).2.1 e.symm
  have hLf : env.locals ∉ [s.heap.objs.size, l] := fun hm => by
    rcases List.mem_cons.mp hm with e | hm
    · rw [e] at hLI; exact Nat.lt_irrefl _ hLI
    · exact hLl (List.mem_singleton.mp hm)
  refine forW_at (fr := [l]) (Walks.list hh s.heap.objs.size l (Nat.ne_of_lt hlI) items) keepL hLf F.fresh (fun b hb => by rw [List.mem_singleton.mp hb]; exact hll) (fun i h st => st.1.imp fun _ r => r.1) (fun p hp => Nat.ne_of_lt (Heap.lt_size (N p hp).1)) ⟨⟨_, Heap.get?_push_size _ rfl, rfl, rfl⟩, hl.push _⟩ (F.push _) (fun q hq => ?_) (J news) h0 hk ?_ ?_ hE
  · have := N q hq
    exact ⟨Heap.get?_push_of_some _ this.1, this.2⟩
  · intro i v m₁ news₁ h tk io hi hP hJ hn F₁ N₁
    exact step _ i v m₁ news₁ h tk io (fun p hp => Heap.lt_size (N p hp).1) hP hJ hn F₁ N₁
  · exact fun h' tk m' news' F' N' hJ => hQ h' tk m' news' F' N' hJ
end
end
section
open PySem PySem.W PyProof.Rows
theorem rulesV15x0 : True := by
  k_with_none
  (k_with "mem in" => first | assumption | exact List.Mem.head _ | (refine List.Mem.tail _ ?_; walk_at "mem in"))
  (k_with "k ne" => (refine neN ?_; (try dsimp only); first | (with_reducible assumption) | exact neS (by with_reducible assumption) | omega))
  (k_with "k all" => (refine all_ne (by assumption) ?_; (try dsimp only); omega))
  (k_with "k mem" => assumption)
  (k_with "enter C" => (refine' code_defC ?k1 ?k2 ?k3 ?k4 ?k5 ?kA ?kF ?kK ?k6 ?k7 ?k8 ?k9 ?kB ?kD ?_ ?c2 ?c3 ?c4; (case kA => exact rfl); (case kF => exact rfl); (case kK => assumption); (case k1 => k_asm); (case k2 => k_asm); (case k3 => k_asm); (case k4 => k_asm); (case k5 => k_asm); (case k6 => k_is); (case k7 => k_is); (case k8 => ktr_room); (case k9 => exact BindsTo.of_eq rfl); (case kB => exact rfl); (case kD => decide +kernel); (case c2 => exact rfl); (case c3 => exact rfl); (case c4 => exact rfl); k_whole; intro gz9 Lz9 hz9 tkz9 cellsz9 FGz9 Fz9 Nz9 Yz9 Bz9 Xz9 Tz9 l1z9; k_cells Yz9; (try simp only [List.cons_append, List.nil_append] at Nz9); (try dsimp only); (try k_lift Bz9); (try k_fold)))
  trivial
noncomputable def lineV (o : Option Nat) (t : Nat) : Value := match o with | some v => .int (v : Int) t | none => .none
noncomputable def dval : List Nat → Nat := List.foldl (fun v c => v * 64 + c % 64) 0
noncomputable def vfrom (codes : List Nat) (i : Nat) : Option Nat := match codes.drop i with
  | [] => none
  | c :: r => vgo (dval (codes.take (i + 1))) c r
theorem vfrom_at {codes : List Nat} {i c : Nat} (h : codes[i]? = some c) : vfrom codes i = vgo (dval (codes.take (i + 1))) c (codes.drop (i + 1)) := by
  obtain ⟨hl, he⟩ := List.getElem?_eq_some_iff.mp h
  unfold vfrom
  rw [List.drop_eq_getElem_cons hl, he]
theorem vfrom_stop {codes : List Nat} {i c : Nat} (h : codes[i]? = some c) (hc : c / 64 % 2 = 0) : vfrom codes i = some (dval (codes.take (i + 1))) := by
  rw [vfrom_at h, vgo_stop hc]
theorem vfrom_on {codes : List Nat} {i c : Nat} (h : codes[i]? = some c) (hc : ¬ c / 64 % 2 = 0) : vfrom codes i = vfrom codes (i + 1) := by
  rw [vfrom_at h]
  cases hd : codes[i + 1]? with
  | none =>
    have : codes.drop (i + 1) = [] := List.drop_eq_nil_of_le (by simpa using hd)
    unfold vfrom; rw [this, vgo_none hc]
  | some d =>
    rw [vfrom_at hd]
    obtain ⟨hl, he⟩ := List.getElem?_eq_some_iff.mp hd
    rw [List.drop_eq_getElem_cons hl, he, vgo_on hc]
    congr 1
    rw [List.take_succ_eq_append_getElem hl, he]
    simp [dval]
theorem vfrom_end {codes : List Nat} {i : Nat} (h : codes.length ≤ i) : vfrom codes i = none := by
  unfold vfrom; rw [List.drop_eq_nil_of_le h]
theorem take_cases {codes : List Nat} {i c : Nat} (h : codes[i]? = some c) (h3 : codes.length ≤ 3) :
    (i = 0 ∧ codes.take i = []) ∨ (i = 1 ∧ ∃ a, codes.take i = [a]) ∨ (i = 2 ∧ ∃ a b, codes.take i = [a, b]) := by
  obtain ⟨hl, he⟩ := List.getElem?_eq_some_iff.mp h
  match codes, i, hl, h3 with
  | _, 0, _, _ => exact .inl ⟨rfl, rfl⟩
  | a :: _, 1, _, _ => exact .inr (.inl ⟨rfl, a, rfl⟩)
  | a :: b :: _, 2, _, _ => exact .inr (.inr ⟨rfl, a, b, rfl⟩)
  | _, i + 3, hl, h3 => omega
theorem fm64 (c : Nat) : (c : Int).fmod 64 = ((c % 64 : Nat) : Int) := by rw [Int.fmod_eq_emod_of_nonneg _ (by decide)]; omega
theorem fd64 (c : Nat) : ((c : Int).fdiv 64).fmod 2 = ((c / 64 % 2 : Nat) : Int) := by rw [Int.fdiv_eq_ediv_of_nonneg _ (by decide), Int.fmod_eq_emod_of_nonneg _ (by decide)]; omega
theorem IA {a b : Int} {t : Tok} {vs : List Value} {ns : List Int} (h : a = b) (r : IntsAre vs ns) : IntsAre (.int a t :: vs) (b :: ns) := h ▸ .cons _ _ r
theorem IAsnoc {vs : List Value} {ns : List Int} {a b : Int} {t : Tok} (h : IntsAre vs ns) (e : a = b) : IntsAre (vs ++ [.int a t]) (ns ++ [b]) := by
  subst e
  induction h with
  | nil => exact .cons _ _ .nil
  | cons a t _ ih => exact .cons _ _ ih
theorem IAsz {vs : List Value} {codes : List Nat} {i : Nat} {f : Nat → Int} (h : IntsAre vs ((codes.take i).map f)) (h3 : codes.length ≤ 3) : vs.toArray.size ≤ sizeLine := by
  have := h.length
  rw [List.length_map, List.length_take] at this
  rw [List.size_toArray]
  exact Nat.le_trans (show vs.length ≤ 3 by omega) (by decide)
theorem IA0 {vs : List Value} (h : IntsAre vs []) : vs = [] := by cases h; rfl
theorem IA1 {vs : List Value} {a : Int} (h : IntsAre vs [a]) : ∃ t, vs = [.int a t] := by
  cases h with | cons _ t h => cases h; exact ⟨t, rfl⟩
theorem IA2 {vs : List Value} {a b : Int} (h : IntsAre vs [a, b]) : ∃ t u, vs = [.int a t, .int b u] := by
  cases h with | cons _ t h => obtain ⟨u, rfl⟩ := IA1 h; exact ⟨t, u, rfl⟩
theorem lv1 (c : Nat) : (c : Int).fmod 64 * 64 ^ ((0 : Int) + ((0 : Nat) : Int)).toNat + 0 = ((dval [c] : Nat) : Int) := by
  rw [fm64]
  show ((c % 64 : Nat) : Int) * 1 + 0 = ((0 * 64 + c % 64 : Nat) : Int)
  omega
theorem lv2 (a c : Nat) : (c : Int).fmod 64 * 64 ^ ((0 : Int) + ((0 : Nat) : Int)).toNat + (((a % 64 : Nat) : Int) * 64 ^ ((0 : Int) + ((0 + 1 : Nat) : Int)).toNat + 0) = ((dval [a, c] : Nat) : Int) := by
  rw [fm64]
  show ((c % 64 : Nat) : Int) * 1 + (((a % 64 : Nat) : Int) * 64 + 0) = (((0 * 64 + a % 64) * 64 + c % 64 : Nat) : Int)
  omega
theorem lv3 (a b c : Nat) : (c : Int).fmod 64 * 64 ^ ((0 : Int) + ((0 : Nat) : Int)).toNat + (((b % 64 : Nat) : Int) * 64 ^ ((0 : Int) + ((0 + 1 : Nat) : Int)).toNat + (((a % 64 : Nat) : Int) * 64 ^ ((0 : Int) + ((0 + 1 + 1 : Nat) : Int)).toNat + 0)) = ((dval [a, b, c] : Nat) : Int) := by
  rw [fm64]
  show ((c % 64 : Nat) : Int) * 1 + (((b % 64 : Nat) : Int) * 64 + (((a % 64 : Nat) : Int) * 4096 + 0)) = ((((0 * 64 + a % 64) * 64 + b % 64) * 64 + c % 64 : Nat) : Int)
  omega
theorem step_ret {h₀ : Heap} {L I : Addr} {io : Obj} {Jn : (Str → Option Value) → Led → Prop} {s s₃ : Shared} {Q : Flow → Shared → Prop} {v : Value} (h : Q (.ret v) s₃) : StepW h₀ L I io Jn s Q (.ret v) s₃ := h
theorem step_next {h₀ : Heap} {L I : Addr} {io : Obj} {Jn : (Str → Option Value) → Led → Prop} {s : Shared} {Q : Flow → Shared → Prop} {h' : Heap} {tk : Nat} {m₂ : Str → Option Value} {news₂ : Led}
    (F : Fr h₀ L h' m₂) (N : News h₀ L h' ((I, io) :: news₂)) (hn : ∀ p ∈ news₂, p.1 ≠ I) (J : Jn m₂ news₂) : StepW h₀ L I io Jn s Q .next { s with heap := h', toks := tk } := ⟨h', tk, m₂, news₂, rfl, F, N, hn, J⟩
theorem line_end {codes : List Nat} {v : Nat} {y : Int} {t tk' : Nat} {news rest : Led} {h₀ h' : Heap} {L : Addr} {m : Str → Option Value} {s : Shared} {Q : VP} (R : RetV (fun t => lineV (vint codes) t) news h₀ L m s Q) (hv : vint codes = some v) (e : y = (v : Int)) (F : Fr h₀ L h' m) (N : News h₀ L h' rest) (hs : ∀ q ∈ news, q ∈ rest) :
    Q (.int y t) { s with heap := h', toks := tk' } := by
  have := R t h' tk' F fun q hq => N q (hs q hq)
  rw [hv] at this
  rw [e]; exact this
noncomputable def JL (l cA : Addr) (news : Led) (codes : List Nat) (i : Nat) (m₁ : Str → Option Value) (news₁ : Led) : Prop :=
  ∃ vs n oc, IntsAre vs ((codes.take i).map fun c => ((c % 64 : Nat) : Int)) ∧ news₁ = (l, listOf vs.toArray n) :: (cA, oc) :: news ∧ oc.data = .cell (some (.ref l)) ∧ vfrom codes i = vint codes
noncomputable def JLx (rest : Led) (codes : List Nat) (n0 : Led) (i : Nat) (m₁ : Str → Option Value) (news₁ : Led) : Prop := match n0 with
  | (l, _) :: (c, _) :: _ => JL l c rest codes i m₁ news₁
  | _ => False
theorem rulesV15x1 : True := by
  (k_with "CompSrc" => (k_here; k_dflt (refine LCg.CompSrc.range (by rfl) (by k_asm) (by k_asm) (by assumption) (by first | decide | rfl) (by first | rfl | decide) (by first | size_fits | exact Nat.le_of_ble_eq_true rfl) ?_); intro gz9; lcg_lit))
  (k_with "CompEnd" => (refine' LCg.CompEnd.intro ?ceF ?ceN _ (fun p hp => hp) ?ceO ?ceS ?_; (case ceF => k_asm); (case ceN => k_asm); (case ceO => first | assumption | (simp only [LCg.Off3, and_true]; assumption)); (case ceS => lcg_src)))
  (k_with "call builtin:list.append" => (k_here; (with_reducible show wpAny _ _ (call (Value.builtin _) [Value.ref _, Value.int _ _]) _ _ _); k_dflt (refine' append_K ?k1 ?k2 ?k3 ?_ ?k4; (case k1 => k_asm); (case k2 => k_asm); (case k3 => k_upd); (case k4 => assumption); k_whole); intro hz9 Fz9 Nz9; (try dsimp only at Nz9)))
  (k_with "exec Return some" => (k_here; (with_reducible rename News _ _ _ (_ :: (_, PySem.W.listOf (Array.push (List.toArray _) _) _) :: _) => hN8); refine Stop.out ?_))
  (k_with "exec For" => (k_here; refine Stop.out ?_))
  trivial
set_option maxHeartbeats 4000000 in
theorem line_con (w : World) (p : Program) (loose : List Str) (mean : ExcName → Option Value) (mg mb : Str → Option Value) (codes : List Nat) (h1 : ∀ c ∈ codes, c < 1114112) (h3 : codes.length ≤ 3) (tkA : Tok) (news : Led) :
    Con w p loose mean mg mb 143 [.str ⟨codes.toArray⟩ tkA] news (RetV (fun t => lineV (vint codes) t) news) := by
  intro dp un gd cn cs a ccd cl outer A₀ base h₀ L m s Q E B F X N T hk hd hu R
  revert X; k_fill; intro X
  refine wpAny_call ?_
  k_dflt (walk_at "enter C")
  k_steps
  unfold Stop
  refine for_it (by k_asm) rfl rfl ?_
  k_steps
  have hv0 : vfrom codes 0 = vint codes := by cases codes <;> simp [vfrom, vint, dval]
  refine it_str rfl (by k_asm) (by k_asm) (JLx news codes) ?_ ?_ ?_ (by passes_own)
  · exact ⟨[], 0, _, .nil, rfl, by assumption, hv0⟩
  · intro I i c t' m₁ news₁ h₁ tk₁ io hI hc J1 hn F1 N1
    obtain ⟨vs, n, oc, hvs, e1, hoc, hv⟩ := J1
    subst e1
    have hI1 : @Ne Nat _ _ := hn _ (.head _)
    have hI2 : @Ne Nat _ _ := hn _ (.tail _ (.head _))
    dsimp only at hI1 hI2
    have hc' : codes[i]? = some c := by simpa using hc
    have hcb : c < 1114112 := h1 c (List.mem_of_getElem? hc')
    have hl := (List.getElem?_eq_some_iff.mp hc')
    have htk : codes.take (i + 1) = codes.take i ++ [c] := by rw [List.take_succ_eq_append_getElem hl.1, hl.2]
    have hsz : vs.toArray.size ≤ sizeLine := IAsz hvs h3
    k_steps
    · unfold Stop
      have hcz : c / 64 % 2 = 0 := by have := fd64 c; omega
      have hvv := hv.symm.trans (vfrom_stop hc' hcz)
      rw [htk] at hvv
      clear hsz htk hl
      rcases take_cases hc' h3 with ⟨rfl, hta⟩ | ⟨rfl, x0, hta⟩ | ⟨rfl, x0, x1, hta⟩
      · rw [hta] at hvs hvv
        have := IA0 hvs; subst this
        clear hvs
        rename News _ _ _ (_ :: (_, PySem.W.listOf (Array.push (List.toArray _) _) _) :: _) => NN
        simp only [List.push_toArray, List.nil_append, List.cons_append] at NN
        k_steps
        refine step_ret ?_
        dsimp only
        k_steps
        refine line_end R hvv ?_ (by k_asm) (by k_asm) (by intro q hq; walk_at "mem in")
        exact lv1 c
      · rw [hta] at hvs hvv
        obtain ⟨t0, rfl⟩ := IA1 hvs
        clear hvs
        rename News _ _ _ (_ :: (_, PySem.W.listOf (Array.push (List.toArray _) _) _) :: _) => NN
        simp only [List.push_toArray, List.nil_append, List.cons_append] at NN
        k_steps
        refine step_ret ?_
        dsimp only
        k_steps
        refine line_end R hvv ?_ (by k_asm) (by k_asm) (by intro q hq; walk_at "mem in")
        exact lv2 x0 c
      · rw [hta] at hvs hvv
        obtain ⟨t0, t1, rfl⟩ := IA2 hvs
        clear hvs
        rename News _ _ _ (_ :: (_, PySem.W.listOf (Array.push (List.toArray _) _) _) :: _) => NN
        simp only [List.push_toArray, List.nil_append, List.cons_append] at NN
        k_steps
        refine step_ret ?_
        dsimp only
        k_steps
        refine line_end R hvv ?_ (by k_asm) (by k_asm) (by intro q hq; walk_at "mem in")
        exact lv3 x0 x1 c
    · have hcz : ¬ c / 64 % 2 = 0 := by have := fd64 c; omega
      rename News _ _ _ (_ :: (_, PySem.W.listOf (Array.push (List.toArray _) _) _) :: _) => NN
      simp only [List.push_toArray] at NN
      refine step_next (by k_asm) (by k_asm) ?_ ⟨vs ++ [_], _, _, ?_, rfl, hoc, (vfrom_on hc' hcz).symm.trans hv⟩
      · intro p hp
        rcases List.mem_cons.mp hp with rfl | hp
        · exact hI1
        · exact hn p (.tail _ hp)
      · rw [htk, List.map_append]; exact IAsnoc hvs (fm64 c)
  · intro h' tk' m' news' F' N' J'
    obtain ⟨vs, n, oc, hvs, e1, hoc, hv⟩ := J'
    subst e1
    have hvn : vint codes = none := hv.symm.trans (vfrom_end (by simp))
    k_steps
    rename News h₀ L _ _ => NN
    have := R 0 _ tk' (by k_asm) (fun q hq => NN q (by walk_at "mem in"))
    rw [hvn] at this
    exact this
end
section
open PySem PySem.W PyProof.Rows PyProof.Rows.LCg PyProof.Rows.LCt
theorem rulesV16x0 : True := by
  k_with_none
  (k_with "k ne" => (refine neN ?_; (try dsimp only); first | (with_reducible assumption) | exact neS (by with_reducible assumption) | omega))
  (k_with "k all" => (refine all_ne (by assumption) ?_; (try dsimp only); omega))
  (k_with "k mem" => assumption)
  trivial
section
variable {prog : Program} {w : World} {A : Around} {h₀ : Heap} {L : Addr} {m : Str → Option Value} {env : Env} {elt ct : Expr} {x : Str} {scope : Scope} {cl : List (Str × Addr)} {s : Shared} {S : Led → Prop} {P : Nat → Value → Prop} {Fin : List Value → Led → Prop}
theorem CompEnd.mono {s₁ s₂ : Shared} {I C D : Addr} {oI oC oD : Obj} {r r' : Value → Led → Prop} {y : Value} (hr : ∀ n, r y n → r' y n) (h : CompEnd h₀ L m s₁ I oI C oC D oD S r y s₂) : CompEnd h₀ L m s₁ I oI C oC D oD S r' y s₂ := by
  obtain ⟨h', tk, news', e, F, N, o, hS, hr'⟩ := h
  exact ⟨h', tk, news', e, F, N, o, hS, hr _ hr'⟩
/-- a comprehension by an invariant: the list so far and the ledger -/
theorem rest_inv (Inv : Nat → List Value → Led → Prop) {n : Nat}
    (step : ∀ i ys news v I oI C oC D m₂ h tk (E' : Value → Shared → Prop), i < n → P i v → Inv i ys news → NsObj oC m₂ → m₂ x = some v → Fr h₀ L h m → News h₀ L h ((I, oI) :: (C, oC) :: (D, lst ys) :: news) → Off3 I C D news → ((@Ne Nat I C) ∧ (@Ne Nat I D) ∧ (@Ne Nat C D)) →
      wpAny (model prog w) A (eval elt (compEnvC scope cl C env)) (CompEnd h₀ L m { s with heap := h, toks := tk } I oI C oC D (lst ys) S (fun y news' => Inv (i + 1) (ys ++ [y]) news')) E' { s with heap := h, toks := tk })
    (fin : ∀ ys news, Inv n ys news → Fin ys news) : ∀ (k i : Nat) (ys : List Value) (news : Led), i + k = n → Inv i ys news → CompRest prog w A h₀ L m env elt x scope cl s S P Fin k i ys news := by
  intro k
  induction k with
  | zero => intro i ys news e h; exact CompRest.zero (fin ys news (by rw [← e]; exact h))
  | succ k ih =>
    intro i ys news e h
    refine CompRest.succ fun v I oI C oC D m₂ hp tk E' hv hC hx F N off ne => ?_
    refine wpAny_mono (step i ys news v I oI C oC D m₂ hp tk E' (by omega) hv h hC hx F N off ne) (fun y s₂ h₂ => ?_) fun _ _ e => e
    exact CompEnd.mono (fun n hn => ih (i + 1) _ n (by omega) hn) h₂
theorem restT_inv (Inv : Nat → List Value → Led → Prop) {n : Nat}
    (step : ∀ i ys news v I oI C oC D m₂ h tk (E' : Value → Shared → Prop), i < n → P i v → Inv i ys news → NsObj oC m₂ → m₂ x = some v → Fr h₀ L h m → News h₀ L h ((I, oI) :: (C, oC) :: (D, lst ys) :: news) → Off3 I C D news → ((@Ne Nat I C) ∧ (@Ne Nat I D) ∧ (@Ne Nat C D)) →
      wpAny (model prog w) A (isTrue ct (compEnvC scope cl C env) (eval ct (compEnvC scope cl C env))) (fun ok s' => if ok = true then
        wpAny (model prog w) A (eval elt (compEnvC scope cl C env)) (CompEnd h₀ L m { s with heap := h, toks := tk } I oI C oC D (lst ys) S (fun y news' => Inv (i + 1) (ys ++ [y]) news')) E' s'
        else CompEnd h₀ L m { s with heap := h, toks := tk } I oI C oC D (lst ys) S (fun _ news' => Inv (i + 1) ys news') Value.none s') E' { s with heap := h, toks := tk })
    (fin : ∀ ys news, Inv n ys news → Fin ys news) : ∀ (k i : Nat) (ys : List Value) (news : Led), i + k = n → Inv i ys news → CompRestT prog w A h₀ L m env ct elt x scope cl s S P Fin k i ys news := by
  intro k
  induction k with
  | zero => intro i ys news e h; exact CompRestT.zero (fin ys news (by rw [← e]; exact h))
  | succ k ih =>
    intro i ys news e h
    refine CompRestT.succ fun v I oI C oC D m₂ hp tk E' hv hC hx F N off ne => ?_
    refine wpAny_mono (step i ys news v I oI C oC D m₂ hp tk E' (by omega) hv h hC hx F N off ne) (fun ok s₂ h₂ => ?_) fun _ _ e => e
    cases ok with
    | true =>
      simp only [if_true] at h₂ ⊢
      exact wpAny_mono h₂ (fun y s₃ h₃ => CompEnd.mono (fun n hn => ih (i + 1) _ n (by omega) hn) h₃) fun _ _ e => e
    | false =>
      simp only [Bool.false_eq_true, if_false] at h₂ ⊢
      exact CompEnd.mono (fun n hn => ih (i + 1) _ n (by omega) hn) h₂
end
end
section
open PySem PySem.W PyProof.Rows PyProof.Rows.LCg PyProof.Rows.LCt
theorem rulesV17x0 : True := by
  k_with_none
  (k_with "mem in" => first | assumption | exact List.Mem.head _ | (refine List.Mem.tail _ ?_; walk_at "mem in"))
  (k_with "k ne" => (refine neN ?_; (try dsimp only); first | (with_reducible assumption) | exact neS (by with_reducible assumption) | omega))
  (k_with "k all" => (refine all_ne (by assumption) ?_; (try dsimp only); omega))
  (k_with "k mem" => assumption)
  (k_with "enter C" => (refine' code_defC ?k1 ?k2 ?k3 ?k4 ?k5 ?kA ?kF ?kK ?k6 ?k7 ?k8 ?k9 ?kB ?kD ?_ ?c2 ?c3 ?c4; (case kA => exact rfl); (case kF => exact rfl); (case kK => assumption); (case k1 => k_asm); (case k2 => k_asm); (case k3 => k_asm); (case k4 => k_asm); (case k5 => k_asm); (case k6 => k_is); (case k7 => k_is); (case k8 => ktr_room); (case k9 => exact BindsTo.of_eq rfl); (case kB => exact rfl); (case kD => decide +kernel); (case c2 => exact rfl); (case c3 => exact rfl); (case c4 => exact rfl); k_whole; intro gz9 Lz9 hz9 tkz9 cellsz9 FGz9 Fz9 Nz9 Yz9 Bz9 Xz9 Tz9 l1z9; k_cells Yz9; (try simp only [List.cons_append, List.nil_append] at Nz9); (try dsimp only); (try k_lift Bz9); (try k_fold)))
  trivial
section
variable {prog : Program} {w : World} {A : Around} {h₀ : Heap} {L : Addr} {m : Str → Option Value} {env : Env} {elt ct : Expr} {x : Str} {scope : Scope} {cl : List (Str × Addr)} {s₁ : Shared}
theorem srcT_ob {Fin : Shared → List Value → Led → Prop} {ax : Addr} {lo : Obj} {its : Array Value} {news : Led} (hh : A.handled = none) (F : Fr h₀ L s₁.heap m) (N : News h₀ L s₁.heap news) (hm : (ax, lo) ∈ news) (ho : ListOb lo its) (hsz : its.size ≤ sizeLine)
    (h : ∀ g, CompRestT prog w A h₀ L m env ct elt x scope cl { s₁ with heap := g } (SrcAt h₀ ax its) (fun i v => its[i]? = some v) (Fin { s₁ with heap := g }) its.size 0 [] news) :
    CompSrcT prog w A h₀ L m env ct elt x scope cl Fin (.ref ax) s₁ := .inl ⟨ax, its, news, rfl, hh, F, N, .inr ⟨_, hm, ho.1, ho.2⟩, hsz, fun _ ⟨g, e⟩ => e ▸ h g⟩
theorem src_ob {Fin : Shared → List Value → Led → Prop} {ax : Addr} {lo : Obj} {its : Array Value} {news : Led} (hh : A.handled = none) (F : Fr h₀ L s₁.heap m) (N : News h₀ L s₁.heap news) (hm : (ax, lo) ∈ news) (ho : ListOb lo its) (hsz : its.size ≤ sizeLine)
    (h : ∀ g, CompRest prog w A h₀ L m env elt x scope cl { s₁ with heap := g } (SrcAt h₀ ax its) (fun i v => its[i]? = some v) (Fin { s₁ with heap := g }) its.size 0 [] news) :
    CompSrc prog w A h₀ L m env elt x scope cl Fin (.ref ax) s₁ := .inl ⟨ax, its, news, rfl, hh, F, N, .inr ⟨_, hm, ho.1, ho.2⟩, hsz, fun _ ⟨g, e⟩ => e ▸ h g⟩
theorem restT_c {s : Shared} {S : Led → Prop} {P : Nat → Value → Prop} {Fin : List Value → Led → Prop} {n : Nat} {news : Led} (Inv : Nat → List Value → Prop) (h0 : Inv 0 [])
    (step : ∀ i ys v I oI C oC D m₂ h tk (E' : Value → Shared → Prop), i < n → P i v → Inv i ys → NsObj oC m₂ → m₂ x = some v → Fr h₀ L h m → News h₀ L h ((I, oI) :: (C, oC) :: (D, lst ys) :: news) → Off3 I C D news → ((@Ne Nat I C) ∧ (@Ne Nat I D) ∧ (@Ne Nat C D)) →
      wpAny (model prog w) A (isTrue ct (compEnvC scope cl C env) (eval ct (compEnvC scope cl C env))) (fun ok s' => if ok = true then
        wpAny (model prog w) A (eval elt (compEnvC scope cl C env)) (CompEnd h₀ L m { s with heap := h, toks := tk } I oI C oC D (lst ys) S (fun y news' => news' = news ∧ Inv (i + 1) (ys ++ [y]))) E' s'
        else CompEnd h₀ L m { s with heap := h, toks := tk } I oI C oC D (lst ys) S (fun _ news' => news' = news ∧ Inv (i + 1) ys) Value.none s') E' { s with heap := h, toks := tk })
    (fin : ∀ ys, Inv n ys → Fin ys news) : CompRestT prog w A h₀ L m env ct elt x scope cl s S P Fin n 0 [] news :=
  restT_inv (fun i ys n' => n' = news ∧ Inv i ys) (fun i ys n' v I oI C oC D m₂ h tk E' hi hP hI hC hx F N o ne => by
    obtain ⟨rfl, hI⟩ := hI
    exact step i ys v I oI C oC D m₂ h tk E' hi hP hI hC hx F N o ne) (fun ys n' hI => by
    obtain ⟨rfl, hI⟩ := hI
    exact fin ys hI) n 0 [] news (Nat.zero_add n) ⟨rfl, h0⟩
theorem rest_c {s : Shared} {S : Led → Prop} {P : Nat → Value → Prop} {Fin : List Value → Led → Prop} {n : Nat} {news : Led} (Inv : Nat → List Value → Prop) (h0 : Inv 0 [])
    (step : ∀ i ys v I oI C oC D m₂ h tk (E' : Value → Shared → Prop), i < n → P i v → Inv i ys → NsObj oC m₂ → m₂ x = some v → Fr h₀ L h m → News h₀ L h ((I, oI) :: (C, oC) :: (D, lst ys) :: news) → Off3 I C D news → ((@Ne Nat I C) ∧ (@Ne Nat I D) ∧ (@Ne Nat C D)) →
      wpAny (model prog w) A (eval elt (compEnvC scope cl C env)) (CompEnd h₀ L m { s with heap := h, toks := tk } I oI C oC D (lst ys) S (fun y news' => news' = news ∧ Inv (i + 1) (ys ++ [y]))) E' { s with heap := h, toks := tk })
    (fin : ∀ ys, Inv n ys → Fin ys news) : CompRest prog w A h₀ L m env elt x scope cl s S P Fin n 0 [] news :=
  rest_inv (fun i ys n' => n' = news ∧ Inv i ys) (fun i ys n' v I oI C oC D m₂ h tk E' hi hP hI hC hx F N o ne => by
    obtain ⟨rfl, hI⟩ := hI
    exact step i ys v I oI C oC D m₂ h tk E' hi hP hI hC hx F N o ne) (fun ys n' hI => by
    obtain ⟨rfl, hI⟩ := hI
    exact fin ys hI) n 0 [] news (Nat.zero_add n) ⟨rfl, h0⟩
end
theorem in_listN {A : Around} {s : Shared} {la : Addr} {lo : Obj} {items : List Value} {ls : List (Option Nat)} {L : Addr} {news : Led} {Q : Value → Shared → Prop} {E : Value → Shared → Prop} {prog : Program} {w : World} {h₀ : Heap} (N : News h₀ L s.heap news) (hp : (la, lo) ∈ news) (ho : ListOb lo items.toArray) (hls : LinesAre items ls) (h : Q (.bool (ls.any Option.isNone)) s) :
    wpAny (model prog w) A (compareOp .In .none (.ref la)) Q E s := by
  refine PySem.SeqInW.in_listW isNone (fun y hy => eqNone (hls.ni y (by simpa using hy))) (ho.at (N _ hp).1) ?_
  have : items.toArray.any isNone = ls.any Option.isNone := by rw [← hls.anyNone]; simp
  rw [this]; exact h
noncomputable def cntP (M : Int) : Nat → Nat
  | 0 => 0
  | i + 1 => cntP M i + if (10 : Int) ^ (3 + i) ≤ M then 1 else 0
theorem rulesV17x1 : True := by
  (k_with "compareOp In none ref" => (k_here; k_dflt (refine' in_listN ?wfN ?wfD ?wfO ?wfS ?_; (case wfN => k_asm); (case wfO => assumption); (case wfD => walk_at "mem in"); (case wfS => assumption))))
  trivial
theorem cntP_le (M : Int) : ∀ i, cntP M i ≤ i
  | 0 => Nat.le_refl _
  | i + 1 => by have := cntP_le M i; show cntP M i + _ ≤ i + 1; split <;> omega
theorem cnt_dig {t : Nat} (h0 : t < 262144) : 3 + cntP (t : Int) 4 = digitsN t := by
  show 3 + ((((0 + if (1000 : Int) ≤ t then 1 else 0) + if (10000 : Int) ≤ t then 1 else 0) + if (100000 : Int) ≤ t then 1 else 0) + if (1000000 : Int) ≤ t then 1 else 0) = _
  unfold digitsN
  (repeat' split) <;> omega
theorem len_lst {A : Around} {s : Shared} {D : Addr} {ys : List Value} {c : Nat} {L : Addr} {news : Led} {Q : Value → Shared → Prop} {E : Value → Shared → Prop} {prog : Program} {w : World} {h₀ : Heap} (N : News h₀ L s.heap news) (hp : (D, lst ys) ∈ news) (hl : ys.length = c) (hc : c ≤ 1000)
    (h : Q (.int (c : Int) (s.toks + 1)) { s with toks := s.toks + 1 + 1 }) : wpAny (model prog w) A (call (.builtin "len") [.ref D]) Q E s := by
  subst hl
  exact PyProof.Rows.len_list (items := ys.toArray) ⟨_, (N _ hp).1, rfl, _, rfl⟩ (by rw [List.size_toArray]; omega) (by rw [List.size_toArray]; exact h)
theorem rulesV17x2 : True := by
  (k_with "call builtin:len" => (k_here; k_dflt (refine' len_lst ?wfN ?wfD ?wfL ?wfC ?_; (case wfN => k_asm); (case wfD => exact List.Mem.head _); (case wfL => assumption); (case wfC => assumption))))
  (k_with "CompEnd" => (refine' LCg.CompEnd.intro ?ceF ?ceN _ (fun p hp => hp) ?ceO ?ceS ?_; (case ceF => k_asm); (case ceN => k_asm); (case ceO => first | assumption | (simp only [LCg.Off3, and_true]; assumption)); (case ceS => first | lcg_src | exact Or.inr ⟨_, by walk_at "mem in", ListOb.1 (by assumption), ListOb.2 (by assumption)⟩)))
  (k_with "eval ListComp" => (k_here; refine Stop.out ?_))
  (k_with "CompSrcT" => (k_here; refine Stop.out ?_))
  trivial
theorem take_filter_skip {items : List Value} {i : Nat} {v : Value} {p : Value → Bool} (h : items[i]? = some v) (hp : p v = false) : (items.take i).filter p = (items.take (i + 1)).filter p := by
  obtain ⟨hl, he⟩ := List.getElem?_eq_some_iff.mp h
  rw [List.take_succ_eq_append_getElem hl, he, List.filter_append]
  simp [hp]
theorem take_filter_keep {items : List Value} {i : Nat} {v : Value} {p : Value → Bool} (h : items[i]? = some v) (hp : p v = true) : (items.take i).filter p ++ [v] = (items.take (i + 1)).filter p := by
  obtain ⟨hl, he⟩ := List.getElem?_eq_some_iff.mp h
  rw [List.take_succ_eq_append_getElem hl, he, List.filter_append]
  simp [hp]
noncomputable def intsOf : List (Option Nat) → List Int
  | [] => []
  | none :: r => intsOf r
  | some n :: r => (n : Int) :: intsOf r
theorem LinesAre.ints {vs : List Value} {ls : List (Option Nat)} (x : LinesAre vs ls) : IntsAre (vs.filter fun v => !isNone v) (intsOf ls) := by
  induction x with
  | nil => exact .nil
  | none _ ih => exact ih
  | int n t _ ih => exact .cons _ _ ih
theorem intsOf_len (ls : List (Option Nat)) : (intsOf ls).length ≤ ls.length := by
  induction ls with
  | nil => exact Nat.le_refl _
  | cons a r ih => cases a <;> simp [intsOf] <;> omega
theorem intsOf_mem : ∀ {ls : List (Option Nat)} {k : Nat}, some k ∈ ls → (k : Int) ∈ intsOf ls
  | none :: r, k, h => by
    rcases List.mem_cons.mp h with e | h
    · cases e
    · exact intsOf_mem (ls := r) h
  | some n :: r, k, h => by
    rcases List.mem_cons.mp h with e | h
    · injection e with e; subst e; exact .head _
    · exact .tail _ (intsOf_mem (ls := r) h)
theorem mem_intsOf : ∀ {ls : List (Option Nat)} {a : Int}, a ∈ intsOf ls → ∃ k : Nat, a = (k : Int) ∧ some k ∈ ls
  | none :: r, a, h => by obtain ⟨k, e, h⟩ := mem_intsOf (ls := r) h; exact ⟨k, e, .tail _ h⟩
  | some n :: r, a, h => by
    rcases List.mem_cons.mp h with e | h
    · exact ⟨n, e, .head _⟩
    · obtain ⟨k, e, h⟩ := mem_intsOf (ls := r) h; exact ⟨k, e, .tail _ h⟩
theorem top_of {ls : List (Option Nat)} {M : Int} (h1 : M ∈ [0] ++ intsOf ls) (h2 : ∀ a, a ∈ [0] ++ intsOf ls → a ≤ M) : M = ((topN ls : Nat) : Int) := by
  have h0 : 0 ≤ M := h2 0 (.head _)
  have hle : M ≤ ((topN ls : Nat) : Int) := by
    rcases List.mem_cons.mp h1 with e | h
    · omega
    · obtain ⟨k, e, h⟩ := mem_intsOf h
      have := topN_ge h
      omega
  by_cases hz : topN ls = 0
  · omega
  · have := h2 _ (.tail _ (intsOf_mem (topN_mem hz)))
    omega
theorem LinesAre.length {vs : List Value} {ls : List (Option Nat)} (x : LinesAre vs ls) : vs.length = ls.length := by
  induction x with
  | nil => rfl
  | none _ ih => simp [ih]
  | int _ _ _ ih => simp [ih]
set_option maxHeartbeats 4000000 in
theorem lwidth_con (w : World) (p : Program) (loose : List Str) (mean : ExcName → Option Value) (mg mb : Str → Option Value) (la : Addr) (lo : Obj) (items : List Value) (ls : List (Option Nat)) (news : Led)
    (hlm : (la, lo) ∈ news) (hlo : ListOb lo items.toArray) (hls : LinesAre items ls) (htop : topN ls < 262144) (hlen : ls.length ≤ 5) :
    Con w p loose mean mg mb 148 [.ref la] news (RetV (fun t => .int ((widthN ls : Nat) : Int) t) news) := by
  intro dp un gd cn cs a ccd cl outer A₀ base h₀ L m s Q E B F X N T hk hd hu R
  revert X; k_fill; intro X
  refine wpAny_call ?_
  k_dflt (walk_at "enter C")
  k_steps
  unfold Stop
  refine LCt.ListComp_T (F₀ := by k_asm) (by rfl) (by decide) (by rfl) (by decide) (by rfl) ?_
  k_steps
  unfold Stop
  have hsz : items.toArray.size ≤ sizeLine := by
    have := hls.length
    rw [List.size_toArray, this]
    exact Nat.le_trans hlen (by decide)
  refine srcT_ob rfl (by k_asm) (by k_asm) (by walk_at "mem in") hlo hsz ?_
  intro g0
  refine restT_c (fun i ys => ys = (items.take i).filter fun v => !isNone v) rfl ?_ ?_
  · intro i ys v I oI C oC D m₂ h₁ tk₁ E' hi hP hI hC hx F1 N1 off ne
    have hP' : items[i]? = some v := by simpa using hP
    rcases hls.ni v (List.mem_of_getElem? hP') with rfl | ⟨n, t, rfl⟩
    · k_steps
      refine CompEnd.intro (by k_asm) (by k_asm) _ (fun p hp => hp) off (Or.inr ⟨lo, by walk_at "mem in", hlo⟩) ⟨rfl, ?_⟩
      rw [hI, take_filter_skip hP' rfl]
    · k_steps
      refine CompEnd.intro (by k_asm) (by k_asm) _ (fun p hp => hp) off (Or.inr ⟨lo, by walk_at "mem in", hlo⟩) ⟨rfl, ?_⟩
      rw [hI, take_filter_keep hP' rfl]
  · intro ys hys
    have hints : IntsAre ys (intsOf ls) := by
      rw [hys, List.size_toArray, List.take_length]; exact hls.ints
    have hyl : (intsOf ls).length ≤ 5 := Nat.le_trans (intsOf_len ls) hlen
    k_steps
    · have hM := top_of (by assumption) (by assumption)
      refine retI_end R ?_ (by k_asm) (by k_asm) (by intro q hq; walk_at "mem in")
      have h0 : topN ls = 0 := by omega
      unfold widthN; rw [if_pos h0]; rfl
    have hM := top_of (by assumption) (by assumption)
    subst hM
    have h0 : topN ls ≠ 0 := by omega
    unfold Stop
    refine LCt.ListComp_T (F₀ := by k_asm) (by rfl) (by decide) (by rfl) (by decide) (by rfl) ?_
    k_steps
    unfold Stop
    refine LCt.CompSrcT.range (n := 4) rfl (by k_asm) (by k_asm) (by assumption) (by decide) (by rfl) (by decide) ?_
    intro g1
    refine restT_c (fun i ys => ys.length = cntP ((topN ls : Nat) : Int) i) rfl ?_ ?_
    · intro i ys v I oI C oC D m₂ h₁ tk₁ E' hi hP hI hC hx F1 N1 off ne
      obtain ⟨t, rfl⟩ := hP
      have hi4 : i = 0 ∨ i = 1 ∨ i = 2 ∨ i = 3 := by omega
      have fin1 : ∀ j, i = j → (10 : Int) ^ (3 + j) ≤ ((topN ls : Nat) : Int) → ∀ y : Value, (ys ++ [y]).length = cntP ((topN ls : Nat) : Int) (i + 1) := fun j e h y => by
        subst e; rw [List.length_append, hI]; show _ = cntP _ i + _; rw [if_pos h]; rfl
      have fin0 : ∀ j, i = j → ¬ (10 : Int) ^ (3 + j) ≤ ((topN ls : Nat) : Int) → ys.length = cntP ((topN ls : Nat) : Int) (i + 1) := fun j e h => by
        subst e; rw [hI]; show _ = cntP _ i + _; rw [if_neg h]; rfl
      rcases hi4 with rfl | rfl | rfl | rfl
      · k_steps
        · exact fin1 0 rfl (by assumption) _
        · exact fin0 0 rfl (by assumption)
      · k_steps
        · exact fin1 1 rfl (by assumption) _
        · exact fin0 1 rfl (by assumption)
      · k_steps
        · exact fin1 2 rfl (by assumption) _
        · exact fin0 2 rfl (by assumption)
      · k_steps
        · exact fin1 3 rfl (by assumption) _
        · exact fin0 3 rfl (by assumption)
    · intro ys hys
      have hcl : cntP ((topN ls : Nat) : Int) 4 ≤ 1000 := Nat.le_trans (cntP_le _ 4) (by decide)
      have hcd := cnt_dig htop
      k_steps
      · rename ls.any Option.isNone = true => hnn
        refine retI_end R ?_ (by k_asm) (by k_asm) (by intro q hq; walk_at "mem in")
        rw [widthN_pos h0, hnn, if_pos rfl]
        have := digitsN_ge (topN ls)
        split
        · rw [Nat.max_eq_right (by omega)]; rfl
        · rw [Nat.max_eq_left (by omega)]; omega
      · rename ls.any Option.isNone = false => hnn
        refine retI_end R ?_ (by k_asm) (by k_asm) (by intro q hq; walk_at "mem in")
        rw [widthN_pos h0, hnn, show (if false = true then 4 else 3 : Nat) = 3 from rfl]
        have := digitsN_ge (topN ls)
        rw [Nat.max_eq_left this]
        split <;> omega
end
section
open PySem PySem.W PyProof.Rows PyProof.Rows.LCg PyProof.Rows.LCt
theorem rulesV17sx0 : True := by
  k_with_none
  (k_with "k ne" => (refine neN ?_; (try dsimp only); first | (with_reducible assumption) | exact neS (by with_reducible assumption) | omega))
  (k_with "k all" => (refine all_ne (by assumption) ?_; (try dsimp only); omega))
  (k_with "k mem" => assumption)
  trivial
section
variable {prog : Program} {w : World} {A : Around} {E : Value → Shared → Prop} {s : Shared} {h₀ : Heap} {L : Addr} {m : Str → Option Value} {env : Env}
/-- a comprehension's source that is a text -/
noncomputable def SrcS (prog : Program) (w : World) (A : Around) (h₀ : Heap) (L : Addr) (m : Str → Option Value) (env : Env) (elt : Expr) (x : Str) (scope : Scope) (cl : List (Str × Addr)) (Fin : Shared → List Value → Led → Prop) (xv : Value) (s₁ : Shared) : Prop :=
  ∃ z t news, xv = .str z t ∧ A.handled = none ∧ Fr h₀ L s₁.heap m ∧ News h₀ L s₁.heap news ∧ z.cps.size ≤ sizeLine ∧
    ∀ g, CompRest prog w A h₀ L m env elt x scope cl { s₁ with heap := g } (fun _ => True) (SignAt z) (Fin { s₁ with heap := g }) z.cps.size 0 [] news
theorem ListComp_S {elt iter : Expr} {x : Str} {px : Pos} {scope : Scope} {cl : List (Str × Addr)} {pos : Pos} {Q : Value → Shared → Prop} (F₀ : Fr h₀ L s.heap m)
    (hclos : closureFor scope env = pure cl) (hcell : ∀ y ∈ scope.names, y.2 ≠ .cell) (hkind : scope.kind = .function)
    (hnames : ∀ y ∈ scope.names, y.2 = .local → scope.names.lookup y.1 = some .local) (hx : scope.names.lookup x = some .local)
    (h : wpAny (model prog w) A (eval iter env) (SrcS prog w A h₀ L m env elt x scope cl (fun s₂ => FinE h₀ L m s₂ Q)) E s)
    (hs : ∀ x, foldedSetIterable iter env x = pure x := by intro _; rfl) :
    wpAny (model prog w) A (eval (.ListComp elt [⟨.Name x px, iter, [], 0⟩] scope pos) env) Q E s := by
  rw [eval_ListComp]
  refine wpAny_comprehension_free (use := none) rfl hs hclos hkind hnames (wpAny_mono h (fun xv s₁ h₁ => ?_) fun _ _ e => e)
  obtain ⟨z, t, news, rfl, hh, F, N, hsz, R⟩ := h₁
  refine pyIter_strS fun o St W hIo hst => ?_
  refine block_U (W A hh) hsz hIo (fun i h h' o' nw st e e' _ _ _ => (W A hh).frame i h h' st fun b hb o₂ e₂ => ?_) hcell hkind hx hst (fun b hb => ?_)
      (F.keeps fun _ _ e => Heap.get?_push_of_some _ e) (N.grown fun _ _ e => Heap.get?_push_of_some _ e) (Nat.ne_of_lt F.ns.lt) (next_is_new F) (fun p hp => Nat.ne_of_lt (Heap.lt_size (N p hp).1)) trivial (R _) ?_
  · rw [List.mem_singleton.mp hb] at e₂ ⊢
    rw [e] at e₂; injection e₂ with e₂; rw [← e₂]; exact e'
  · rw [List.mem_singleton.mp hb]
    show s₁.heap.objs.size < (s₁.heap.push _).objs.size
    rw [Heap.size_push]; exact Nat.lt_succ_self _
  · intro D C h tk m' ys news' F' N' o1 hn hC₀ hD₀ hCL hDL hCD offC fin
    refine ⟨m', hn, fun h'' hs'' => fin D h'' tk (F'.change hs'' hCL hC₀) (fun p hp => ?_) o1⟩
    refine ⟨hs''.extBut _ _ ?_ (N' p hp).1, (N' p hp).2⟩
    rcases List.mem_cons.mp hp with rfl | hp
    · exact Ne.symm hCD
    · exact offC p hp
end
end
section
open PySem PySem.W PySem.Calls PySem.Spec PyProof.Rows PyProof.Rows.LCg PyProof.Rows.LCt
theorem rulesV18ax0 : True := by
  k_with_none
  (k_with "k ne" => (refine neN ?_; (try dsimp only); first | (with_reducible assumption) | exact neS (by with_reducible assumption) | omega))
  (k_with "k all" => (refine all_ne (by assumption) ?_; (try dsimp only); omega))
  (k_with "k mem" => assumption)
  trivial
/-- a frame left behind which an exception was caught: the frames beneath may have turned (their slots) -/
noncomputable def LeaveT (env : Env) (A₀ : Around) (base : Heap) (outer : List Env) (K : Frag) (p : Program) (loose : List Str) (mean : ExcName → Option Value) (mg mb : Str → Option Value) (h₀ : Heap) (L : Addr) (m : Str → Option Value) (g : Heap) (R : Result → Shared → Prop) (v : Value) (s' : Shared) : Prop :=
  ∃ g' L' m' news', KtsTurn ((env :: outer).filterMap (·.frame)) g g' ∧ Fr g' L' s'.heap m' ∧ News g' L' s'.heap news' ∧ ∀ h₀', KtsTurn (outer.filterMap (·.frame)) h₀ h₀' → Fr h₀' L s'.heap m → News h₀' L s'.heap news' → Below A₀ base outer h₀' → K.In h₀' → Top p loose mean mg mb h₀' →
    KtsDicts (outer.filterMap (·.frame)) h₀' → R (.ok (.ret v)) s'
theorem mem_frames {env : Env} {L b : Addr} {outer : List Env} (hf : env.frame = some L) (hm : b ∈ (env :: outer).filterMap (·.frame)) : b = L ∨ b ∈ outer.filterMap (·.frame) := by
  obtain ⟨e, he, hf'⟩ := List.mem_filterMap.mp hm
  rcases List.mem_cons.mp he with rfl | he
  · exact .inl (Option.some.inj (hf'.symm.trans hf))
  · exact .inr (List.mem_filterMap.mpr ⟨e, he, hf'⟩)
section
variable {prog : Program} {w : World} {A₀ A : Around} {s : Shared} {base h₀ : Heap} {outer : List Env} {L a : Addr} {m : Str → Option Value} {env : Env} {news : List (Addr × Obj)} {K : Frag} {p : Program} {loose : List Str} {mean : ExcName → Option Value} {mg mb : Str → Option Value}
    {R : Result → Shared → Prop} {name qual : Str} {params : Arguments} {body : List Stmt} {scope : Scope} {dV kV doc pm cdv ct oc : Value} {an od : Option Addr} {osl : Array (Option Value)} {f : Addr} {args : Args} {binds : List (Str × Value)}
theorem groundT (B : Below A₀ base outer h₀) (F : Fr h₀ L s.heap m) (N : News h₀ L s.heap news) (X₀ : K.In h₀) (T : Top p loose mean mg mb h₀) (XB : K.In base) (TB : Top p loose mean mg mb base) (D : KtsDicts (outer.filterMap (·.frame)) h₀)
    (hA : A.frames = some (env :: outer)) (hf : env.frame = some L) (hke : env.scope.kind = .function) :
    Fr h₀ L (hideAll s.heap (news.map (·.1))) m ∧ Below A base (env :: outer) (hideAll s.heap (news.map (·.1))) ∧ h₀.StaysIn (hideAll s.heap (news.map (·.1))) ∧ KtsDicts ((env :: outer).filterMap (·.frame)) (hideAll s.heap (news.map (·.1))) ∧
      ∀ v s', LeaveT env A₀ base outer K p loose mean mg mb h₀ L m (hideAll s.heap (news.map (·.1))) R v s' → R (.ok (.ret v)) s' := by
  have nm : ∀ b o, h₀.get? b = some o → b ∉ news.map (·.1) := fun b o e q => by
    obtain ⟨p, hp, rfl⟩ := List.mem_map.mp q
    rw [(N p hp).2.2] at e; cases e
  have st : h₀.StaysIn (hideAll s.heap (news.map (·.1))) := fun b o e => hideAll_get _ (F.keep b o e) (nm b o e)
  obtain ⟨oL, es, ep, hL, hLd, hLk, hLf⟩ := F.ns
  have nL : L ∉ news.map (·.1) := fun q => by
    obtain ⟨p, hp, e⟩ := List.mem_map.mp q
    exact (N p hp).2.1 e
  have hLg := hideAll_get (news.map (·.1)) hL nL
  have B₁ := pushX B F hf hke
  refine ⟨⟨⟨oL, es, ep, hLg, hLd, hLk, hLf⟩, st, F.above⟩, ⟨hA, fun b o e => st b o (B.stays b o e), funFrames_hideAll B₁.frames fun env' he b hb hf' => ?_⟩, st, fun b hb => ?_, fun v s' hl => ?_⟩
  · cases he with
    | head => exact nL ((Option.some.inj (hf.symm.trans hf') : L = b) ▸ hb)
    | tail _ he =>
      obtain ⟨L₁, o₁, hf₁, ho₁⟩ := funFrames_in B.frames env' he
      rw [hf₁] at hf'
      exact nm L₁ o₁ ho₁ ((Option.some.inj hf' : L₁ = b) ▸ hb)
  · rcases mem_frames hf hb with rfl | hb
    · exact ⟨oL, es, ep, hLg, hLd⟩
    · obtain ⟨o, es', n', ho', hd'⟩ := D b hb
      exact ⟨o, es', n', st b o ho', hd'⟩
  · obtain ⟨g', L', m', news', T', F', N', k⟩ := hl
    have nL₀ : h₀.get? L = none := kts_self F
    obtain ⟨sl, hs⟩ := T'.up hLg
    obtain ⟨T₁, S₁⟩ := kts_turn_at (h := s'.heap) (fs := outer.filterMap (·.frame)) (g := h₀)
      (fun b hb => by
        obtain ⟨_, o, ho', _⟩ := B.frames.mem hb
        exact ⟨o, ho'⟩)
      (fun b o e nmem => F'.keep b o (T'.other b o (st b o e) (fun q => by
        rcases mem_frames hf q with z | z
        · rw [z, nL₀] at e
          cases e
        · exact nmem z)))
      (fun b o e hm => by
        obtain ⟨sl', hs'⟩ := T'.up (st b o e)
        exact ⟨sl', F'.keep _ _ hs'⟩)
    have B₃ : Below A₀ base outer (ktsHeap s'.heap (outer.filterMap (·.frame)) h₀) := ⟨B.stack, fun b o e => T₁.other b o (B.stays b o e) (fun hm => by
      rw [(B.frames.mem hm).1] at e
      cases e), B.frames.of_keeps fun b o e _ => by
      obtain ⟨sl', hs'⟩ := T₁.up e
      exact ⟨_, hs', rfl⟩⟩
    refine k _ T₁ ⟨⟨_, es, ep, F'.keep _ _ hs, hLd, hLk, hLf⟩, S₁, by rw [T₁.size]; exact F.above⟩ (fun p hp => ⟨(N' p hp).1, fun q => ?_, ?_⟩) B₃ (XB.keeps B₃.stays) (TB.keeps B₃.stays) (D.turn T₁)
    · have := (N' p hp).2.2; rw [q, hs] at this; cases this
    · refine T₁.none_ _ ?_
      cases q : h₀.get? p.1 with
      | none => rfl
      | some o =>
        obtain ⟨sl', hs'⟩ := T'.up (st _ _ q)
        have := (N' p hp).2.2
        rw [hs'] at this
        cases this
/-- entering a def that may catch -/
theorem code_defT (B : Below A₀ base outer h₀) (F : Fr h₀ L s.heap m) (X₀ : K.In h₀) (N : News h₀ L s.heap news) (T : Top p loose mean mg mb h₀) (XB : K.In base) (TB : Top p loose mean mg mb base) (D : KtsDicts (outer.filterMap (·.frame)) h₀)
    (hA : A.frames = some (env :: outer)) (hf : env.frame = some L) (hke : env.scope.kind = .function)
    (ho : K.lookup f = some ⟨oc, od, .func (fnOf name qual params body scope dV kV doc pm an cdv ct), osl⟩) (hcd : codeIn K cdv qual = true) (hroom : A.depth < recursionLimit)
    (hbind : BindsTo s (fnOf name qual params body scope dV kV doc pm an cdv ct) args binds) (hloc : ∀ y ∈ binds, scope.names.lookup y.1 = some .local)
    (h : ∀ g L' h₁, Fr h₀ L g m → Fr g L' h₁ (fun y => binds.reverse.lookup y) → News g L' h₁ news → Below A base (env :: outer) g → K.In g → Top p loose mean mg mb g → KtsDicts ((env :: outer).filterMap (·.frame)) g → (∀ p ∈ news, p.1 < L') →
      wpAny (model prog w) (A.deeper (envOf qual scope L' f cdv)) (execs body (envOf qual scope L' f cdv))
        (fun fl s' => LeaveT env A₀ base outer K p loose mean mg mb h₀ L m g R (match fl with | .ret v => v | _ => .none) s')
        (fun e s' => wpAny (model prog w) (A.deeper (envOf qual scope L' f cdv)) (leaving (envOf qual scope L' f cdv) e) (fun _ s'' => R (.error e) s'') (fun e' s'' => R (.error e') s'') s')
        { s with heap := h₁, toks := s.toks + binds.length })
    (hco : scope.isCoroutine = false) (hgen : scope.isGenerator = false) (hk : scope.kind = .function)
    (hcell : ∀ x ∈ scope.names, x.2 ≠ .cell) : codeAny (model prog w) A (.call (.ref f) args) R s := by
  have X := X₀.keeps F.keep
  obtain ⟨FG, BG, st, DG, lv⟩ := groundT (R := R) B F N X₀ T XB TB D hA hf hke
  refine codeAny_call_def (fd := fnOf name qual params body scope dV kV doc pm an cdv ct) (body := body) (binds := binds) hroom (X _ _ ho) rfl (T.nolimit.keeps F.keep) (codeRec_of X hcd) rfl hbind hcell hloc (fun h₁ hns hk₁ => ?_) hco hgen hk
  exact wpAny_mono (h _ s.heap.objs.size h₁ FG ⟨hns, fun b o e => hk₁ b o (of_hideAll _ e), Nat.le_of_eq (hideAll_size _ _)⟩
    (fun p hp => ⟨hk₁ _ _ (N p hp).1, Nat.ne_of_lt (Heap.lt_size (N p hp).1), hideAll_none _ (List.mem_map_of_mem hp)⟩) BG (X₀.keeps st) (T.keeps st) DG (fun p hp => Heap.lt_size (N p hp).1)) (fun fl s' hl => lv _ _ hl) fun _ _ y => y
/-- entering a def with cells that may catch -/
theorem code_defCT (B : Below A₀ base outer h₀) (F : Fr h₀ L s.heap m) (X₀ : K.In h₀) (N : News h₀ L s.heap news) (T : Top p loose mean mg mb h₀) (XB : K.In base) (TB : Top p loose mean mg mb base) (D : KtsDicts (outer.filterMap (·.frame)) h₀)
    (hA : A.frames = some (env :: outer)) (hf : env.frame = some L) (hke : env.scope.kind = .function)
    (ho : K.lookup f = some ⟨oc, od, .func (fnOf name qual params body scope dV kV doc pm an cdv ct), osl⟩) (hcd : codeIn K cdv qual = true) (hroom : A.depth < recursionLimit)
    (hbind : BindsTo s (fnOf name qual params body scope dV kV doc pm an cdv ct) args binds) (hkind : (binds.all fun y => scope.names.lookup y.1 == some .local || scope.names.lookup y.1 == some .cell) = true)
    (hnd : ((cellsFrom 0 scope.names []).map (·.1)).Nodup)
    (h : ∀ g L' h₁ tk cells, Fr h₀ L g m → Fr g L' h₁ (bindL (envOfC qual scope L' f cdv).kindOf binds fun _ => none) → News g L' h₁ (cells ++ news) →
      CellsAre (bindC (envOfC qual scope L' f cdv).kindOf binds fun _ => none) (cellsFrom (L' + 1) scope.names []) cells → Below A base (env :: outer) g → K.In g → Top p loose mean mg mb g → KtsDicts ((env :: outer).filterMap (·.frame)) g → (∀ p ∈ news, p.1 < L') →
      wpAny (model prog w) (A.deeper (envOfC qual scope L' f cdv)) (execs body (envOfC qual scope L' f cdv))
        (fun fl s' => LeaveT env A₀ base outer K p loose mean mg mb h₀ L m g R (match fl with | .ret v => v | _ => .none) s')
        (fun e s' => wpAny (model prog w) (A.deeper (envOfC qual scope L' f cdv)) (leaving (envOfC qual scope L' f cdv) e) (fun _ s'' => R (.error e) s'') (fun e' s'' => R (.error e') s'') s')
        { s with heap := h₁, toks := tk })
    (hco : scope.isCoroutine = false) (hgen : scope.isGenerator = false) (hk : scope.kind = .function) : codeAny (model prog w) A (.call (.ref f) args) R s := by
  have X := X₀.keeps F.keep
  obtain ⟨FG, BG, st, DG, lv⟩ := groundT (R := R) B F N X₀ T XB TB D hA hf hke
  refine codeAny_call_function hroom (X _ _ ho) rfl hco hgen rfl (codeRec_of X hcd) (hbind _ _ _ _ ?_)
  refine wpAny_newFunctionEnv_cells hk (kindsX hkind _) fun env' he s' x => ?_
  subst he
  refine ⟨(T.nolimit.keeps F.keep).keeps x.toInCall.keep, codeAny_func ?_⟩
  obtain ⟨h₁, tk, rfl, _⟩ := x.done
  have hk₁ := x.toInCall.keep
  obtain ⟨cells, NC, Y⟩ := Cl.news (h₀ := s.heap) (Nat.le_refl _) fun n c hm => ⟨x.cell n c (lookup_of_mem_nodup (cellsFrom_names scope.names 0 (s.heap.objs.size + 1) [] [] rfl ▸ hnd) hm), x.above n c hm⟩
  refine wpAny_mono (h _ s.heap.objs.size h₁ tk cells FG ⟨x.toInCall.ns, fun b o e => hk₁ b o (of_hideAll _ e), Nat.le_of_eq (hideAll_size _ _)⟩ (fun p hp => ?_) Y BG (X₀.keeps st) (T.keeps st) DG (fun p hp => Heap.lt_size (N p hp).1)) (fun fl s' hl => lv _ _ hl) fun _ _ y => y
  rcases List.mem_append.mp hp with hp | hp
  · refine ⟨(NC p hp).1, (NC p hp).2.1, ?_⟩
    cases q : (hideAll s.heap (news.map (·.1))).get? p.1 with
    | none => rfl
    | some o => have := of_hideAll _ q; rw [(NC p hp).2.2] at this; cases this
  · exact ⟨hk₁ _ _ (N p hp).1, Nat.ne_of_lt (Heap.lt_size (N p hp).1), hideAll_none _ (List.mem_map_of_mem hp)⟩
end
/-- leaving by LeaveT -/
theorem leaveT_ {env : Env} {A₀ : Around} {base : Heap} {outer : List Env} {K : Frag} {p : Program} {loose : List Str} {mean : ExcName → Option Value} {mg mb : Str → Option Value} {h₀ g g' : Heap} {L L' : Addr} {m m' : Str → Option Value} {news' : List (Addr × Obj)} {R : Result → Shared → Prop} {v : Value} {s' : Shared}
    (F' : Fr g' L' s'.heap m') (N' : News g' L' s'.heap news') (T : KtsTurn ((env :: outer).filterMap (·.frame)) g g')
    (k : ∀ h₀', KtsTurn (outer.filterMap (·.frame)) h₀ h₀' → Fr h₀' L s'.heap m → News h₀' L s'.heap news' → Below A₀ base outer h₀' → K.In h₀' → Top p loose mean mg mb h₀' → KtsDicts (outer.filterMap (·.frame)) h₀' → R (.ok (.ret v)) s') :
    LeaveT env A₀ base outer K p loose mean mg mb h₀ L m g R v s' := ⟨g', L', m', news', T, F', N', k⟩
end
section
open PySem PySem.W PySem.Calls PySem.Spec PyProof.Rows PyProof.Rows.LCg PyProof.Rows.LCt
theorem rulesV18x0 : True := by
  k_with_none
  (k_with "mem in" => first | assumption | exact List.Mem.head _ | (refine List.Mem.tail _ ?_; walk_at "mem in"))
  (k_with "k ne" => (refine neN ?_; (try dsimp only); first | (with_reducible assumption) | exact neS (by with_reducible assumption) | omega))
  (k_with "k all" => (refine all_ne (by assumption) ?_; (try dsimp only); omega))
  (k_with "k mem" => assumption)
  trivial
set_option maxHeartbeats 0 in
theorem sgn_fin : ∀ f : Fin 135, (inB1 (sgnC f.val : Int) = true ∧ sgnL f.val = []) ∨ (inB1 (sgnC f.val : Int) = false ∧ okSigns.contains (sgnC f.val, sgnL f.val) = true) := by decide +kernel
theorem sgn_ok {f : Nat} (h : f < 135) : (inB1 (sgnC f : Int) = true ∧ sgnL f = []) ∨ (inB1 (sgnC f : Int) = false ∧ (sgnC f, sgnL f) ∈ okSigns) := by
  rcases sgn_fin ⟨f, h⟩ with r | ⟨a, b⟩
  · exact .inl r
  · exact .inr ⟨a, List.contains_iff_mem.mp b⟩
noncomputable def codesOf (fs : List Nat) : List Nat := fs.map sgnC
noncomputable def prepOf (fs : List Nat) : List Nat := fs.flatMap sgnL
set_option maxHeartbeats 0 in
theorem sgnL_fin : ∀ f : Fin 135, (sgnL f.val).length ≤ 2 := by decide +kernel
theorem sgnL_len {f : Nat} (h : f < 135) : (sgnL f).length ≤ 2 := sgnL_fin ⟨f, h⟩
theorem prep_len : ∀ {fs : List Nat}, (∀ f ∈ fs, f < 135) → (prepOf fs).length ≤ 2 * fs.length
  | [], _ => Nat.le_refl _
  | f :: r, h => by
    have h1 := sgnL_len (h f (.head _))
    have h2 := prep_len fun g hg => h g (.tail _ hg)
    show (sgnL f ++ prepOf r).length ≤ _
    rw [List.length_append, List.length_cons]; omega
theorem prep_succ {fs : List Nat} {i f : Nat} (h : fs[i]? = some f) : (⟨(prepOf (fs.take i)).toArray⟩ ++ ⟨(sgnL f).toArray⟩ : Str) = ⟨(prepOf (fs.take (i + 1))).toArray⟩ := by
  obtain ⟨hl, he⟩ := List.getElem?_eq_some_iff.mp h
  have : prepOf (fs.take (i + 1)) = prepOf (fs.take i) ++ sgnL f := by
    rw [List.take_succ_eq_append_getElem hl, he]; simp [prepOf]
  rw [this]
  show (⟨(prepOf (fs.take i)).toArray ++ (sgnL f).toArray⟩ : Str) = _
  simp
theorem sgnC_fin : ∀ f : Fin 135, sgnC f.val < 1114112 := by decide +kernel
theorem codes_lt {fs : List Nat} (h : ∀ f ∈ fs, f < 135) : ∀ c ∈ codesOf fs, c < 1114112 := by
  intro c hc
  obtain ⟨f, hf, rfl⟩ := List.mem_map.mp hc
  exact sgnC_fin ⟨f, h f hf⟩
noncomputable def heardO (fs : List Nat) (t1 t2 t3 : Nat) : Obj := tupOf [.str ⟨(codesOf fs).toArray⟩ t1, .str ⟨(prepOf fs).toArray⟩ t2, lineV (vint (codesOf fs)) t3]
noncomputable def RetHeard (w : World) (p : Program) (loose : List Str) (mean : ExcName → Option Value) (mg mb : Str → Option Value) (fs : List Nat) (news : Led) (A₀ : Around) (base : Heap) (outer : List Env) (h₀ : Heap) (L : Addr) (m : Str → Option Value) (s : Shared) (Q : VP) : Prop :=
  ∀ (b : Addr) (h' h₀' : Heap) (tk' t1 t2 t3 : Nat), KtsTurn (outer.filterMap (·.frame)) h₀ h₀' → Fr h₀' L h' m → News h₀' L h' ((b, heardO fs t1 t2 t3) :: news) → (∀ q ∈ news, q.1 < b) → Below A₀ base outer h₀' → (K w.params).In h₀' → Top p loose mean mg mb h₀' → KtsDicts (outer.filterMap (·.frame)) h₀' →
    Q (.ref b) { s with heap := h', toks := tk' }
/-- what _law_heard does -/
noncomputable def HeardCon (w : World) (p : Program) (loose : List Str) (mean : ExcName → Option Value) (mg mb : Str → Option Value) (fs : List Nat) (tkA : Tok) (news : Led) : Prop :=
  ∀ (dp un : Nat) (gd : Option (List Code)) (cn : Str) (cs : Scope) (a : Addr) (ccd : Value) (cl : List (Str × Addr)) (outer : List Env) (A₀ : Around) (base h₀ : Heap) (L : Addr) (m : Str → Option Value) (s : Shared) (Q E : VP),
    Below A₀ base outer h₀ → Fr h₀ L s.heap m → (K w.params).In h₀ → News h₀ L s.heap news → Top p loose mean mg mb h₀ → (K w.params).In base → Top p loose mean mg mb base → KtsDicts (outer.filterMap (·.frame)) h₀ → cs.kind = .function → dp + 80 < recursionLimit → un + 800 < cLine →
    RetHeard w p loose mean mg mb fs news A₀ base outer h₀ L m s Q → wpAny (model PySem.Challenge.rw_wk0033_01.row.prog w) (ktrTop dp un gd cn cs L a ccd cl outer) (call (.ref 153) [.str ⟨(codesOf fs).toArray⟩ tkA]) Q E s
theorem rulesV18x1 : True := by
  (k_with "enter T" => (refine' code_defT ?k1 ?k2 ?k3 ?k4 ?k5 ?XB ?TB ?kD ?kA ?kF ?kK ?k6 ?k7 ?k8 ?k9 ?kB ?_ ?c2 ?c3 ?c4 ?c5; (case kA => exact rfl); (case kF => exact rfl); (case kK => assumption); (case k1 => k_asm); (case k2 => k_asm); (case k3 => k_asm); (case k4 => k_asm); (case k5 => k_asm); (case XB => assumption); (case TB => assumption); (case kD => assumption); (case k6 => k_is); (case k7 => k_is); (case k8 => ktr_room); (case k9 => exact BindsTo.of_eq rfl); (case c5 => decide); (case kB => exact locs rfl); (case c2 => exact rfl); (case c3 => exact rfl); (case c4 => exact rfl); k_whole; intro gz9 Lz9 hz9 FGz9 Fz9 Nz9 Bz9 Xz9 Tz9 Dz9 l1z9; (try dsimp only); (try k_lift Bz9); (try k_fold)))
  trivial
theorem heard_end {w : World} {p : Program} {loose : List Str} {mean : ExcName → Option Value} {mg mb : Str → Option Value} {fs : List Nat} {news rest : Led} {A₀ : Around} {base : Heap} {outer : List Env} {h₀ h₀' h' : Heap} {L b : Addr} {m : Str → Option Value} {s : Shared} {Q : VP} {tk' t1 t2 t3 : Nat} {x y : Str} {v : Value}
    (R : RetHeard w p loose mean mg mb fs news A₀ base outer h₀ L m s Q) (T : KtsTurn (outer.filterMap (·.frame)) h₀ h₀') (F : Fr h₀' L h' m) (N : News h₀' L h' rest) (B : Below A₀ base outer h₀') (X : (K w.params).In h₀') (P : Top p loose mean mg mb h₀') (D : KtsDicts (outer.filterMap (·.frame)) h₀')
    (hb : (b, tupOf [.str x t1, .str y t2, v]) ∈ rest) (hs : ∀ q ∈ news, q ∈ rest) (hl : ∀ q ∈ news, q.1 < b) (hx : x = ⟨(codesOf fs).toArray⟩) (hy : y = ⟨(prepOf fs).toArray⟩) (hv : v = lineV (vint (codesOf fs)) t3) : Q (.ref b) { s with heap := h', toks := tk' } := by
  subst hx hy hv
  refine R b h' h₀' tk' t1 t2 t3 T F (fun q hq => ?_) hl B X P D
  rcases List.mem_cons.mp hq with rfl | hq
  · exact N _ hb
  · exact N _ (hs _ hq)
noncomputable def mH (fs : List Nat) (i t1 t2 : Nat) (sv tv : Option Value) : Str → Option Value := fun y =>
  if y = Str.ofString "prepared" then some (.str ⟨(prepOf (fs.take i)).toArray⟩ t1)
  else if y = Str.ofString "taken" then tv
  else if y = Str.ofString "sign" then sv
  else if y = Str.ofString "text" then some (.str ⟨(codesOf fs).toArray⟩ t2) else none
theorem mH_of {f : Str → Option Value} {fs : List Nat} {i t1 t2 : Nat} {sv tv : Option Value}
    (h0 : f (Str.ofString "prepared") = some (.str ⟨(prepOf (fs.take i)).toArray⟩ t1)) (h1 : f (Str.ofString "taken") = tv) (h2 : f (Str.ofString "sign") = sv) (h3 : f (Str.ofString "text") = some (.str ⟨(codesOf fs).toArray⟩ t2))
    (he : ∀ y, ¬ y = Str.ofString "prepared" → ¬ y = Str.ofString "taken" → ¬ y = Str.ofString "sign" → ¬ y = Str.ofString "text" → f y = none) : f = mH fs i t1 t2 sv tv := by
  funext y
  unfold mH
  by_cases a0 : y = Str.ofString "prepared"
  · subst a0; exact h0
  rw [if_neg a0]
  by_cases a1 : y = Str.ofString "taken"
  · subst a1; exact h1
  rw [if_neg a1]
  by_cases a2 : y = Str.ofString "sign"
  · subst a2; exact h2
  rw [if_neg a2]
  by_cases a3 : y = Str.ofString "text"
  · subst a3; exact h3
  rw [if_neg a3]
  exact he y a0 a1 a2 a3
noncomputable def JH (news : Led) (fs : List Nat) (t2 : Nat) (n0 : Led) (i : Nat) (m₁ : Str → Option Value) (news₁ : Led) : Prop := ∃ t1 sv tv, news₁ = news ∧ m₁ = mH fs i t1 t2 sv tv
theorem inb1_is {w : World} {p : Program} {loose : List Str} {mean : ExcName → Option Value} {mg mb : Str → Option Value} {c : Nat} {tk : Tok} {news : Led} {b : Bool} (h : inB1 (c : Int) = b) :
    Con w p loose mean mg mb 78 [.str ⟨#[c]⟩ tk] news (RetV (fun _ => .bool b) news) := h ▸ inb1_con w p loose mean mg mb c tk news
theorem rulesV18x2 : True := by
  (k_with "call ref" => (k_here; (with_reducible show wpAny _ _ (call (Value.ref 78) [Value.str _ _]) _ _ _); (k_dflt (refine' Con.use (inb1_is (by assumption)) ?uB ?uF ?uX ?uN ?uT ?uk ?ud ?uu ?_; (case uB => k_asm); (case uF => k_asm); (case uX => k_asm); (case uN => k_asm); (case uT => k_asm); (case uk => rfl); (case ud => (dsimp only [ktrTop]; omega)); (case uu => (dsimp only [ktrTop]; omega)))); intro tz9 hz9 tkz9 Fz9 Nz9; (try dsimp only)))
  (k_with "call ref" => (k_here; (with_reducible show wpAny _ _ (call (Value.ref 124) [Value.str _ _]) _ _ _); (k_dflt (refine' Con.use (mapb3_con _ _ _ _ _ _ _ _ (by assumption) _ _) ?uB ?uF ?uX ?uN ?uT ?uk ?ud ?uu ?_; (case uB => k_asm); (case uF => k_asm); (case uX => k_asm); (case uN => k_asm); (case uT => k_asm); (case uk => rfl); (case ud => (dsimp only [ktrTop]; omega)); (case uu => (dsimp only [ktrTop]; omega)))); intro tz9 hz9 tkz9 Fz9 Nz9; (try dsimp only)))
  trivial
theorem li_iterN {prog : Program} {w : World} {A : Around} {E : Value → Shared → Prop} {s : Shared} {h₀ : Heap} {L l : Addr} {m : Str → Option Value} {news : Led} {ys : List Value} {Q : Value → Shared → Prop} (F : Fr h₀ L s.heap m) (N : News h₀ L s.heap ((l, lst ys) :: news))
    (h : ∀ (I : Addr) h' oI, Fr h₀ L h' m → News h₀ L h' ((I, oI) :: (l, lst ys) :: news) → LiIter oI l 0 → (∀ p ∈ (l, lst ys) :: news, p.1 < I) → Q (.ref I) { s with heap := h' }) :
    wpAny (model prog w) A (call (.builtin "iter") [.ref l]) Q E s := li_iter F N ⟨_, (N _ (.head _)).1, rfl, _, rfl⟩ h
theorem VCon.use {w : World} {p : Program} {loose : List Str} {mean : ExcName → Option Value} {mg mb : Str → Option Value} {it l : Addr} {lo : Obj} {rest : Led} {codes : List Nat} {news : Led} (c : VCon w p loose mean mg mb it l lo rest codes news)
    {dp un : Nat} {gd : Option (List Code)} {cn : Str} {cs : Scope} {a : Addr} {ccd : Value} {cl : List (Str × Addr)} {outer : List Env} {A₀ : Around} {base h₀ : Heap} {L : Addr} {m : Str → Option Value} {s : Shared} {Q E : VP}
    (B : Below A₀ base outer h₀) (F : Fr h₀ L s.heap m) (X : (K w.params).In h₀) (N : News h₀ L s.heap news) (T : Top p loose mean mg mb h₀) (hk : cs.kind = .function) (hd : dp + 40 < recursionLimit) (hu : un + 400 < cLine)
    (hQ : ∀ v, vint codes = some v → ∀ t h' tk' io', Fr h₀ L h' m → News h₀ L h' ((it, io') :: (l, lo) :: rest) → Q (.int (v : Int) t) { s with heap := h', toks := tk' })
    (hE : vint codes = none → ∀ e t G h' tk' io', Fr h₀ L G m → RaisedS base G (envX cn cs L a ccd cl :: outer) e (.type "StopIteration") t [] ((it, io') :: (l, lo) :: rest) h' → G.UpToSlots h' → E (.ref e) { s with heap := h', toks := tk' }) :
    wpAny (model PySem.Challenge.rw_wk0033_01.row.prog w) (ktrTop dp un gd cn cs L a ccd cl outer) (call (.ref 21) [.ref it]) Q E s := c _ _ _ _ _ _ _ _ _ _ _ _ _ _ _ _ _ B F X N T hk hd hu hQ hE
theorem codesAre {ys : List Value} {codes : List Nat} (h : IntsAre ys (codes.map fun c : Nat => (c : Int))) : CodesAre ys.toArray codes := by
  have hl := h.length
  rw [List.length_map] at hl
  refine ⟨by rw [List.size_toArray]; exact hl, fun k c hc => ?_⟩
  obtain ⟨t, ht⟩ := h.get k (c : Int) (by rw [List.getElem?_map, hc]; rfl)
  exact ⟨t, by simpa using ht⟩
theorem lst_ob (ys : List Value) : ListOb (lst ys) ys.toArray := ⟨rfl, _, rfl⟩
theorem varint_lt {w : World} {p : Program} {loose : List Str} {mean : ExcName → Option Value} {mg mb : Str → Option Value} {it l : Addr} {io : Obj} {ys : List Value} {rest : Led} {codes : List Nat}
    (hi : LiIter io l 0) (hlt : ∀ q ∈ (l, lst ys) :: rest, q.1 < it) (hcs : CodesAre ys.toArray codes) (h1 : 1 ≤ codes.length) (h3 : codes.length ≤ 3) :
    VCon w p loose mean mg mb it l (lst ys) rest codes ((it, io) :: (l, lst ys) :: rest) :=
  varint_con w p loose mean mg mb _ _ _ (lst ys) ys.toArray _ codes hi (fun q hq => Nat.ne_of_lt (hlt q hq)) (lst_ob ys) hcs h1 h3
theorem stop_isExc : isSubtype (.type "StopIteration") (.type "BaseException") = pure true := by rw [isSubtype_type]; kernel_rfl
theorem stop_notTuple : isSubtype (.type ((Manifest.find? "StopIteration").elim "type" fun x => x.metatype)) (.type "tuple") = pure false := by
  rw [isSubtype_type]; kernel_rfl
theorem stop_sub : isSubtype (.type "StopIteration") (.type "StopIteration") = pure true := by rw [isSubtype_type]; kernel_rfl
theorem heard_len {fs : List Nat} : (⟨(codesOf fs).toArray⟩ : Str).cps.size = fs.length := by simp [codesOf]
theorem rulesV18x3 : True := by
  (k_with "LeaveT" => (k_dflt (refine' leaveT_ ?F ?N ?T ?_; (case F => k_asm); (case N => k_asm); (case T => first | assumption | exact KtsTurn.refl); k_whole); intro kgz9 kTz9 kFz9 kNz9 kBz9 kX₀z9 kPz9 kDz9))
  trivial
theorem prep_all {fs : List Nat} : (⟨(prepOf (fs.take (⟨(codesOf fs).toArray⟩ : Str).cps.size)).toArray⟩ : Str) = ⟨(prepOf fs).toArray⟩ := by
  rw [heard_len, List.take_length]
theorem rulesV18x4 : True := by
  (k_with "LT9" => first | assumption | exact all_of_allLt (by assumption) | (refine' all_of_allLt (And.right ?z9); (case z9 => assumption)) | (refine' all_of_allLt (And.right (And.right ?z9)); (case z9 => assumption)) | (refine' all_of_allLt (And.right (And.right (And.right ?z9))); (case z9 => assumption)))
  (k_with "noteFrame ref" => (k_here; refine Stop.out ?_))
  (k_with "call builtin:iter" => (k_here; k_dflt (refine' li_iterN ?wfF ?wfN ?_; (case wfF => k_asm); (case wfN => k_asm)); intro Iz9 hz9 oIz9 Fz9 Nz9 hiz9 l1z9))
  (k_with "call ref" => (k_here; (with_reducible show wpAny _ _ (call (Value.ref 21) [Value.ref _]) _ _ _); refine Stop.out ?_))
  (k_with "eval ListComp" => (k_here; refine Stop.out ?_))
  (k_with "SrcS" => (k_here; refine Stop.out ?_))
  (k_with "exec For" => (k_here; refine Stop.out ?_))
  trivial
set_option maxHeartbeats 4000000 in
theorem heard_con (w : World) (p : Program) (loose : List Str) (mean : ExcName → Option Value) (mg mb : Str → Option Value) (fs : List Nat) (hfs : ∀ f ∈ fs, f < 135) (h1 : 1 ≤ fs.length) (h3 : fs.length ≤ 3) (tkA : Tok) (news : Led) :
    HeardCon w p loose mean mg mb fs tkA news := by
  intro dp un gd cn cs a ccd cl outer A₀ base h₀ L m s Q E B F X N T XB TB D hk hd hu R
  revert X; k_fill; intro X
  refine wpAny_call ?_
  k_dflt (walk_at "enter T")
  k_steps
  unfold Stop
  refine for_it (by k_asm) rfl rfl ?_
  k_steps
  refine it_str rfl (by k_asm) (by k_asm) (JH news fs tkA) ?_ ?_ ?_ (by passes_own)
  · refine ⟨?_, none, none, rfl, ?_⟩
    rotate_right
    · have eP : Str.ofString "" = ⟨(prepOf (fs.take 0)).toArray⟩ := by rw [List.take_zero]; decide
      refine' mH_of ?q0 ?q1 ?q2 ?q3 ?qe
      case q0 => exact congrArg (fun z => some (Value.str z _)) eP
      case q1 => rfl
      case q2 => rfl
      case q3 => rfl
      case qe => ((intro y a0 a1 a2 a3); (repeat (refine (if_neg (by with_reducible assumption)).trans ?_)); exact lookup_none a3)
  · intro I i c t' m₁ news₁ h₁ tk₁ io hI hc J1 hn F1 N1
    obtain ⟨t1, sv, tv, e1, e2⟩ := J1
    subst e1 e2
    unfold mH at F1
    obtain ⟨f, hf, hcf⟩ : ∃ f, fs[i]? = some f ∧ sgnC f = c := by
      have : (codesOf fs)[i]? = some c := by simpa using hc
      simpa [codesOf] using this
    subst hcf
    have hp2 : (prepOf (fs.take i)).length ≤ 100 := by
      have := prep_len (fs := fs.take i) fun g hg => hfs g (List.mem_of_mem_take hg)
      have := List.length_take (i := i) (l := fs)
      omega
    have hpl : (⟨(prepOf (fs.take i)).toArray⟩ : Str).length ≤ 100 := by show (prepOf (fs.take i)).toArray.size ≤ 100; rw [List.size_toArray]; exact hp2
    have hsl : (⟨(sgnL f).toArray⟩ : Str).length ≤ 100 := by show (sgnL f).toArray.size ≤ 100; rw [List.size_toArray]; have := sgnL_len (hfs f (List.mem_of_getElem? hf)); omega
    rcases sgn_ok (hfs f (List.mem_of_getElem? hf)) with ⟨hb, hl⟩ | ⟨hb, hl⟩
    · k_steps
      refine step_next (by k_asm) (by k_asm) hn ⟨?_, ?_, ?_, rfl, ?_⟩
      rotate_right
      · have eP : (⟨(prepOf (fs.take i)).toArray⟩ : Str) = ⟨(prepOf (fs.take (i + 1))).toArray⟩ := by rw [← prep_succ hf, hl]; show _ = (⟨_ ++ #[]⟩ : Str); simp
        refine' mH_of ?q0 ?q1 ?q2 ?q3 ?qe
        case q0 => exact congrArg (fun z => some (Value.str z _)) eP
        case q1 => rfl
        case q2 => rfl
        case q3 => rfl
        case qe => ((intro y a0 a1 a2 a3); (repeat (refine (if_neg (by with_reducible assumption)).trans ?_)); exact rfl)
    · k_steps
      refine step_next (by k_asm) (by k_asm) hn ⟨?_, ?_, ?_, rfl, ?_⟩
      rotate_right
      · have eP : (⟨(prepOf (fs.take i)).toArray⟩ ++ ⟨(sgnL f).toArray⟩ : Str) = ⟨(prepOf (fs.take (i + 1))).toArray⟩ := prep_succ hf
        refine' mH_of ?q0 ?q1 ?q2 ?q3 ?qe
        case q0 => exact congrArg (fun z => some (Value.str z _)) eP
        case q1 => rfl
        case q2 => rfl
        case q3 => rfl
        case qe => ((intro y a0 a1 a2 a3); (repeat (refine (if_neg (by with_reducible assumption)).trans ?_)); exact rfl)
  · intro h' tk' m' news' F' N' J'
    obtain ⟨t1, sv, tv, e1, e2⟩ := J'
    subst e1 e2
    unfold mH at F'
    k_steps
    unfold Stop
    refine ListComp_S (F₀ := by k_asm) (by rfl) (by decide) (by rfl) (by decide) (by rfl) ?_
    k_steps
    unfold Stop
    refine ⟨_, _, _, rfl, rfl, by k_asm, by k_asm, ?_, ?_⟩
    · have := heard_len (fs := fs)
      rw [this]; exact Nat.le_trans h3 (by decide)
    intro g1
    refine rest_c (fun i ys => IntsAre ys (((codesOf fs).take i).map fun c : Nat => (c : Int))) .nil ?_ ?_
    · intro i ys v I oI C oC D m₂ h₁ tk₁ E' hi hP hI hC hx F1 N1 off ne
      obtain ⟨c, u, hc, rfl⟩ := hP
      have hc' : (codesOf fs)[i]? = some c := by simpa using hc
      k_steps
      refine CompEnd.intro (by k_asm) (by k_asm) _ (fun p hp => hp) off trivial ⟨rfl, ?_⟩
      have hl := List.getElem?_eq_some_iff.mp hc'
      rw [List.take_succ_eq_append_getElem hl.1, hl.2, List.map_append]
      exact hI.append (.cons _ _ .nil)
    · intro ys hys
      have hys' : IntsAre ys ((codesOf fs).map fun c : Nat => (c : Int)) := by
        rw [heard_len] at hys
        rwa [List.take_of_length_le (by simp [codesOf])] at hys
      have hcl : (codesOf fs).length = fs.length := by simp [codesOf]
      k_steps
      unfold Stop
      refine VCon.use (varint_lt (by assumption) (by assumption) (codesAre hys') (by omega) (by omega)) (by k_asm) (by k_asm) (by k_asm) (by k_asm) (by k_asm) rfl (by dsimp only [ktrTop]; omega) (by dsimp only [ktrTop]; omega) ?_ ?_
      · intro v hv t1 h2 tk2 io2 F2 N2
        k_steps
        refine heard_end (t3 := t1) R (by assumption) (by assumption) (by assumption) (by assumption) (by assumption) (by assumption) (by assumption) (by walk_at "mem in") (by intro q hq; walk_at "mem in") ?_ rfl ?_ ?_
        · walk_at "LT9"
        · exact prep_all
        · rw [hv]; rfl
      · intro hv e t1 G2 h2 tk2 io2 F2 R2 U2
        k_steps
        unfold Stop
        refine caught_S0 (T' := "StopIteration") R2 F2 (by assumption) U2 (by assumption) (by assumption) (by assumption) KtsTurn.refl (by k_is) PyProof.Rows.Boot.«StopIteration» (by decide) stop_isExc stop_notTuple stop_sub ?_
        intro h' g' n₂ T' F' N₂ G' N' K' X' P' D'
        k_steps
        refine heard_end (t3 := 0) R (by assumption) (by assumption) (by assumption) (by assumption) (by assumption) (by assumption) (by assumption) (by walk_at "mem in") (by intro q hq; walk_at "mem in") ?_ rfl ?_ ?_
        · walk_at "LT9"
        · exact prep_all
        · rw [hv]; rfl
end
section
open PySem PySem.W PySem.Calls PySem.Spec PyProof.Rows PyProof.Rows.LCg PyProof.Rows.LCt
theorem rulesV19x0 : True := by
  k_with_none
  (k_with "k ne" => (refine neN ?_; (try dsimp only); first | (with_reducible assumption) | exact neS (by with_reducible assumption) | omega))
  (k_with "k all" => (refine all_ne (by assumption) ?_; (try dsimp only); omega))
  (k_with "k mem" => assumption)
  (k_with "k all" => assumption)
  trivial
section
variable {prog : Program} {w : World} {A : Around} {h₀ : Heap} {env : Env} {x : Str} {body : List Stmt} {Q : Flow → Shared → Prop} {E : Value → Shared → Prop} {s : Shared} {m : Str → Option Value} {news : List (Addr × Obj)}
/-- a for loop over a range by an invariant -/
theorem it_range {r : Addr} {a b : Int} {t u v : Tok} {n : Nat} (hh : A.handled = none) (hr : IsRange s.heap r a b 1 t u v) (F : Fr h₀ env.locals s.heap m) (N : News h₀ env.locals s.heap news)
    (hsmall : Builtin.Range.small a b 1 = true) (hn : Builtin.Range.rangeSize a b 1 = (n : Int))
    (J : Led → Nat → (Str → Option Value) → Led → Prop) (h0 : J news 0 m news)
    (step : ∀ I i t' m₁ news₁ h tk io, (∀ p ∈ news, p.1 < I) → i < n → J news i m₁ news₁ → (∀ p ∈ news₁, p.1 ≠ I) → Fr h₀ env.locals h (fun y => if y = x then some (.int (a + (i : Int)) t') else m₁ y) → News h₀ env.locals h ((I, io) :: news₁) →
      wpAny (model prog w) A (execs body env) (StepW h₀ env.locals I io (J news (i + 1)) s Q) E { s with heap := h, toks := tk })
    (hQ : ∀ h' tk m' news', Fr h₀ env.locals h' m' → News h₀ env.locals h' news' → J news n m' news' → Q .next { s with heap := h', toks := tk })
    (hE : PassesOwn (model prog w) A env E := by passes_own) :
    ItAt prog w A h₀ env x body Q E (.ref r) s := by
  refine wpAny_pyIter_range hr hsmall ?_
  rw [hn]
  have hL : env.locals ∉ [s.heap.objs.size] := fun hm => by
    obtain ⟨oL, _, _, hL, _⟩ := F.ns
    rw [List.mem_singleton.mp hm] at hL
    exact Nat.lt_irrefl _ (Heap.lt_size hL)
  refine forW_at (range_walks hh a n) [] hL F.fresh (fun b hb => nomatch hb) (fun i h st => ⟨_, st⟩) (fun p hp => Nat.ne_of_lt (Heap.lt_size (N p hp).1)) ?_ (F.push _) (fun q hq => ?_) (J news) h0 (fun _ _ _ _ q hq => nomatch hq) ?_ ?_ hE
  · have : a + ((0 : Nat) : Int) * 1 = a := by omega
    have h2 : (n : Int) - ((0 : Nat) : Int) = n := by omega
    show IsRangeIter _ _ (a + ((0 : Nat) : Int) * 1) ((n : Int) - ((0 : Nat) : Int)) 1
    rw [this, h2]
    exact Heap.get?_push_size _ rfl
  · have := N q hq
    exact ⟨Heap.get?_push_of_some _ this.1, this.2⟩
  · intro i v m₁ news₁ h tk io hi hP hJ hn F₁ N₁
    obtain ⟨t', rfl⟩ := hP
    exact step _ i t' m₁ news₁ h tk io (fun p hp => Heap.lt_size (N p hp).1) hi hJ hn F₁ N₁
  · exact fun h' tk m' news' F' N' hJ => hQ h' tk m' news' F' N' hJ
/-- a for loop over a list of the ledger by an invariant -/
theorem it_listN {l : Addr} {lo : Obj} {items : List Value} (hh : A.handled = none) (F : Fr h₀ env.locals s.heap m) (N : News h₀ env.locals s.heap news) (hm : (l, lo) ∈ news) (ho : ListOb lo items.toArray)
    (J : Led → Nat → (Str → Option Value) → Led → Prop) (h0 : J news 0 m news) (hk : ∀ i m₁ news₁, J news i m₁ news₁ → (l, lo) ∈ news₁)
    (step : ∀ I i v m₁ news₁ h tk io, (∀ p ∈ news, p.1 < I) → items[i]? = some v → J news i m₁ news₁ → (∀ p ∈ news₁, p.1 ≠ I) → Fr h₀ env.locals h (fun y => if y = x then some v else m₁ y) → News h₀ env.locals h ((I, io) :: news₁) →
      wpAny (model prog w) A (execs body env) (StepW h₀ env.locals I io (J news (i + 1)) s Q) E { s with heap := h, toks := tk })
    (hQ : ∀ h' tk m' news', Fr h₀ env.locals h' m' → News h₀ env.locals h' news' → J news items.length m' news' → Q .next { s with heap := h', toks := tk })
    (hE : PassesOwn (model prog w) A env E := by passes_own) :
    ItAt prog w A h₀ env x body Q E (.ref l) s :=
  it_list hh F N [(l, lo)] (ho.at (N _ hm).1) (.inr ⟨lo, .head _⟩) (fun q hq => by rw [List.mem_singleton.mp hq]; exact hm) J h0 (fun i m₁ news₁ hJ q hq => by rw [List.mem_singleton.mp hq]; exact hk i m₁ news₁ hJ)
    (fun I i v m₁ news₁ h tk io a b c d e f => step I i v m₁ news₁ h tk io a (by simpa using b) c d e f) (fun h' tk m' news' F' N' hJ => hQ h' tk m' news' F' N' (by simpa using hJ)) hE
end
theorem listOf_ob (ys : List Value) (n : Nat) : ListOb (W.listOf ys.toArray n) ys.toArray := ⟨rfl, n, rfl⟩
theorem range_n {a b : Int} {n : Nat} (h : b = a + n) : Builtin.Range.rangeSize a b 1 = (n : Int) := by
  rw [rangeSize_nat]; omega
theorem small_len {n : Nat} (h : n ≤ 1000) : Builtin.Range.small 0 (n : Int) 1 = true := small_one (by decide) (by decide) (by omega) (by omega)
theorem small_in {a b : Int} (h1 : 0 ≤ a) (h2 : a ≤ 1000) (h3 : 0 ≤ b) (h4 : b ≤ 1000) : Builtin.Range.small a b 1 = true := small_one (by omega) (by omega) (by omega) (by omega)
section
variable {prog : Program} {w : World} {A : Around} {E : Value → Shared → Prop} {s : Shared}
/-- an item of a list that stands -/
theorem sub_list {value slice : Expr} {la : Addr} {its : List Value} {i : Int} {j : Nat} {u : Tok} {v : Value} {Q : Value → Shared → Prop} (hl : s.heap.IsList la its.toArray) (hi : i = (j : Int)) (hj : j ≤ 1000) (hx : its[j]? = some v) (h : Q v s)
    (hs : subscripted slice false (.ref la) (.int i u) = operate [.ref la, .int i u] (getItem (.ref la) (.int i u)) := by with_unfolding_all rfl) :
    wpAny (model prog w) A (subscriptTail value slice (.ref la) (.int i u)) Q E s := by
  subst hi
  exact tail_any hl.typeIs slot_list_getitem.lookup (wpAny_getItem_list hl (by omega) (by omega) (by simpa using hx) h) hs
end
end
section
open PySem PySem.W PySem.Calls PySem.Spec PyProof.Rows PyProof.Rows.LCg PyProof.Rows.LCt
theorem rulesV20x0 : True := by
  k_with_none
  (k_with "mem in" => first | assumption | exact List.Mem.head _ | (refine List.Mem.tail _ ?_; walk_at "mem in"))
  (k_with "k ne" => (refine neN ?_; (try dsimp only); first | (with_reducible assumption) | exact neS (by with_reducible assumption) | omega))
  (k_with "k all" => (refine all_ne (by assumption) ?_; (try dsimp only); omega))
  (k_with "k mem" => assumption)
  (k_with "k all" => assumption)
  trivial
/-- a row of replies: the texts' figures -/
noncomputable def RowAre (news : Led) (b : Addr) (fss : List (List Nat)) : Prop := ∃ (its : List Value) (k : Nat), (b, listOf its.toArray k) ∈ news ∧ its.length = fss.length ∧
  ∀ (i : Nat) (fs : List Nat), fss[i]? = some fs → ∃ ta t1 t2, its[i]? = some (.ref ta) ∧ (ta, tupOf [.str ⟨(codesOf fs).toArray⟩ t1, .str ⟨(prepOf fs).toArray⟩ t2]) ∈ news
theorem RowAre.mono {news news' : Led} {a : Addr} {r : List (List Nat)} (h : RowAre news a r) (s : ∀ q ∈ news, q ∈ news') : RowAre news' a r :=
  let ⟨its, k, h1, h2, h3⟩ := h; ⟨its, k, s _ h1, h2, fun i fs e => let ⟨ta, t1, t2, a, b⟩ := h3 i fs e; ⟨ta, t1, t2, a, s _ b⟩⟩
noncomputable def OkFigs (fss : List (List Nat)) : Prop := fss.length = 5 ∧ ∀ fs ∈ fss, 1 ≤ fs.length ∧ fs.length ≤ 3 ∧ ∀ f ∈ fs, f < 135
noncomputable def RowCon (w : World) (p : Program) (loose : List Str) (mean : ExcName → Option Value) (mg mb : Str → Option Value) (la : Addr) (vs : List Value) (news : Led) : Prop :=
  ∀ (dp un : Nat) (gd : Option (List Code)) (cn : Str) (cs : Scope) (a : Addr) (ccd : Value) (cl : List (Str × Addr)) (outer : List Env) (A₀ : Around) (base h₀ : Heap) (L : Addr) (m : Str → Option Value) (s : Shared) (Q E : VP),
    Below A₀ base outer h₀ → Fr h₀ L s.heap m → (K w.params).In h₀ → News h₀ L s.heap news → Top p loose mean mg mb h₀ → cs.kind = .function → dp + 80 < recursionLimit → un + 800 < cLine → h₀.IsList la vs.toArray →
    (∀ (b : Addr) (fss : List (List Nat)) (h' : Heap) (tk' : Nat) (news' : Led), OkFigs fss → Fr h₀ L h' m → News h₀ L h' news' → (∀ q ∈ news, q ∈ news') → RowAre news' b fss → Q (.ref b) { s with heap := h', toks := tk' }) →
    wpAny (model PySem.Challenge.rw_wk0033_01.row.prog w) (ktrTop dp un gd cn cs L a ccd cl outer) (call (.ref 138) [.ref la]) Q E s
noncomputable def mR1 (l la : Addr) (pv : Option Value) : Str → Option Value := fun y =>
  if y = Str.ofString "drawn" then some (.ref l) else if y = Str.ofString "place" then pv else if y = Str.ofString "script" then some (.ref la) else none
noncomputable def JR1 (la : Addr) (rest : Led) (n0 : Led) (i : Nat) (m₁ : Str → Option Value) (news₁ : Led) : Prop := match n0 with
  | (D, oD) :: (l, _) :: _ => ∃ ws ds k, IntsAre ws ds ∧ ds.length = 5 ∧ (∀ d ∈ ds, 0 ≤ d ∧ d ≤ 128825 + 10000000 * (i : Int)) ∧ news₁ = (D, oD) :: (l, listOf ws.toArray k) :: rest ∧ ∃ pv, m₁ = mR1 l la pv
  | _ => False
theorem idx5 (i : Nat) : (((0 : Int) + (i : Int)).fmod 5).toNat < 5 := by
  rw [Int.fmod_eq_emod_of_nonneg _ (by decide)]; omega
theorem row_bound {ds : List Int} {i : Nat} {v : Int} {x : Int} {j : Nat} (hb : ∀ d ∈ ds, 0 ≤ d ∧ d ≤ 128825 + 10000000 * (i : Int)) (hj : j < ds.length) (hj2 : j < 5) (hx : x = ds.getD j 0 + v.fmod (10 ^ Int.toNat 7)) :
    ∀ d ∈ ds.set j x, 0 ≤ d ∧ d ≤ 128825 + 10000000 * ((i + 1 : Nat) : Int) := by
  intro d hd
  have hv : 0 ≤ v.fmod (10 ^ Int.toNat 7) ∧ v.fmod (10 ^ Int.toNat 7) < 10000000 := by
    show 0 ≤ v.fmod 10000000 ∧ v.fmod 10000000 < 10000000
    exact ⟨Int.fmod_nonneg_of_pos _ (by decide), Int.fmod_lt_of_pos _ (by decide)⟩
  have hm : ds.getD j 0 ∈ ds := by
    rw [List.getD_eq_getElem?_getD, List.getElem?_eq_getElem hj]; exact List.getElem_mem hj
  have h1 := hb _ hm
  rcases List.mem_or_eq_of_mem_set hd with hd | rfl
  · have := hb d hd; omega
  · omega
noncomputable def mR2 (dv : Option Value) (la rw : Addr) (nv tv pv fv qv sv mv : Option Value) : Str → Option Value := fun y =>
  if y = Str.ofString "number" then nv else if y = Str.ofString "text" then tv else if y = Str.ofString "plain" then pv else if y = Str.ofString "figures" then fv else if y = Str.ofString "place" then qv else if y = Str.ofString "sign" then sv else if y = Str.ofString "small" then mv
  else if y = Str.ofString "row" then some (.ref rw) else if y = Str.ofString "drawn" then dv else if y = Str.ofString "script" then some (.ref la) else none
noncomputable def JR2 (la : Addr) (n0 : Led) (i : Nat) (m₁ : Str → Option Value) (news₁ : Led) : Prop := match n0 with
  | (rw, _) :: (D, oD) :: (l, lo) :: r0 => ∃ (its : List Value) (k : Nat) (more : Led) (fss : List (List Nat)) (dv nv tv pv fv qv sv mv : Option Value), news₁ = (rw, listOf its.toArray k) :: more ∧ (∀ q ∈ (D, oD) :: (l, lo) :: r0, q ∈ more) ∧ (∀ p ∈ more, p.1 ≠ rw) ∧ its.length = i ∧ fss.length = i ∧
    (∀ fs ∈ fss, 1 ≤ fs.length ∧ fs.length ≤ 3 ∧ ∀ f ∈ fs, f < 135) ∧
    (∀ (i : Nat) (fs : List Nat), fss[i]? = some fs → ∃ ta t1 t2, its[i]? = some (.ref ta) ∧ (ta, tupOf [.str ⟨(codesOf fs).toArray⟩ t1, .str ⟨(prepOf fs).toArray⟩ t2]) ∈ more) ∧ m₁ = mR2 dv la rw nv tv pv fv qv sv mv
  | _ => False
noncomputable def JR3 (dv : Option Value) (la : Addr) (d : Int) (td : Tok) (n0 : Led) (j : Nat) (m₁ : Str → Option Value) (news₁ : Led) : Prop := match n0 with
  | _ :: _ :: (rw, _) :: _ => ∃ (fs : List Nat) (g t1 t2 t3 : Nat) (qv sv mv : Option Value), fs.length = j ∧ (∀ f ∈ fs, f < 135) ∧ news₁ = n0 ∧ m₁ = mR2 dv la rw (some (.int d td)) (some (.str ⟨(codesOf fs).toArray⟩ t1)) (some (.str ⟨(prepOf fs).toArray⟩ t2)) (some (.int (g : Int) t3)) qv sv mv
  | _ => False
theorem sign_is {w : World} {p : Program} {loose : List Str} {mean : ExcName → Option Value} {mg mb : Str → Option Value} {k : Int} {f : Nat} {tk : Tok} {news : Led} (hk : k = (f : Int)) (hf : f < 135) :
    Con w p loose mean mg mb 131 [.int k tk] news (RetSign f news) := hk ▸ sign_con w p loose mean mg mb f hf tk news
theorem step_nextS {h₀ : Heap} {L I : Addr} {io : Obj} {Jn : (Str → Option Value) → Led → Prop} {s : Shared} {Q : Flow → Shared → Prop} {h' : Heap} {tk : Nat} {m₂ : Str → Option Value} {news₂ rest : Led}
    (F : Fr h₀ L h' m₂) (N : News h₀ L h' rest) (hs : ∀ q ∈ (I, io) :: news₂, q ∈ rest) (hn : ∀ p ∈ news₂, p.1 ≠ I) (J : Jn m₂ news₂) : StepW h₀ L I io Jn s Q .next { s with heap := h', toks := tk } := ⟨h', tk, m₂, news₂, rfl, F, fun q hq => N q (hs q hq), hn, J⟩
theorem row_turn {la : Addr} {h₀ h' : Heap} {L I rw D T Dd l : Addr} {io oT o0 oD lo : Obj} {its : List Value} {k' i tk t1 t2 : Nat} {fs : List Nat} {fss : List (List Nat)} {more r0 : Led} {m₂ : Str → Option Value} {s : Shared} {Q : Flow → Shared → Prop} {dv nv tv pv fv qv sv mv : Option Value}
    (F : Fr h₀ L h' m₂) (N : News h₀ L h' ((D, tupOf [.str ⟨(codesOf fs).toArray⟩ t1, .str ⟨(prepOf fs).toArray⟩ t2]) :: (T, oT) :: (I, io) :: (rw, W.listOf (its.toArray.push (.ref D)) (k' + 1)) :: more)) (hDr : @Ne Nat D rw) (hDI : @Ne Nat D I)
    (hn : ∀ p ∈ (rw, W.listOf its.toArray k') :: more, p.1 ≠ I) (hne : ∀ p ∈ more, p.1 ≠ rw) (hsub : ∀ q ∈ (Dd, oD) :: (l, lo) :: r0, q ∈ more) (hil : its.length = i) (hfl : fss.length = i) (hok : ∀ fs ∈ fss, 1 ≤ fs.length ∧ fs.length ≤ 3 ∧ ∀ f ∈ fs, f < 135)
    (htup : ∀ (i : Nat) (fs : List Nat), fss[i]? = some fs → ∃ ta t1 t2, its[i]? = some (.ref ta) ∧ (ta, tupOf [.str ⟨(codesOf fs).toArray⟩ t1, .str ⟨(prepOf fs).toArray⟩ t2]) ∈ more) (hfs : 1 ≤ fs.length ∧ fs.length ≤ 3 ∧ ∀ f ∈ fs, f < 135) (e : m₂ = mR2 dv la rw nv tv pv fv qv sv mv) :
    StepW h₀ L I io (JR2 la ((rw, o0) :: (Dd, oD) :: (l, lo) :: r0) (i + 1)) s Q .next { s with heap := h', toks := tk } := by
  refine step_nextS (news₂ := (rw, W.listOf (its ++ [Value.ref D]).toArray (k' + 1)) :: (D, tupOf [.str ⟨(codesOf fs).toArray⟩ t1, .str ⟨(prepOf fs).toArray⟩ t2]) :: more) F N ?_ ?_ ?_
  · intro q hq
    rcases List.mem_cons.mp hq with rfl | hq
    · walk_at "mem in"
    rcases List.mem_cons.mp hq with rfl | hq
    · rw [← List.push_toArray]; walk_at "mem in"
    rcases List.mem_cons.mp hq with rfl | hq
    · walk_at "mem in"
    · walk_at "mem in"
  · intro p hp
    rcases List.mem_cons.mp hp with rfl | hp
    · exact hn (rw, W.listOf its.toArray k') (.head _)
    rcases List.mem_cons.mp hp with rfl | hp
    · exact hDI
    · exact hn _ (.tail _ hp)
  · refine ⟨_, _, _, fss ++ [fs], dv, nv, tv, pv, fv, qv, sv, mv, rfl, fun q hq => .tail _ (hsub q hq), ?_, by simp [hil], by simp [hfl], ?_, ?_, e⟩
    · intro p hp
      rcases List.mem_cons.mp hp with rfl | hp
      · exact hDr
      · exact hne p hp
    · intro f hf
      rcases List.mem_append.mp hf with hf | hf
      · exact hok f hf
      · rw [List.mem_singleton.mp hf]; exact hfs
    · intro j f hj
      rcases Nat.lt_or_ge j i with hji | hji
      · rw [List.getElem?_append_left (by omega)] at hj
        obtain ⟨ta, u1, u2, a, b⟩ := htup j f hj
        exact ⟨ta, u1, u2, by rw [List.getElem?_append_left (by omega)]; exact a, .tail _ b⟩
      · rw [List.getElem?_append_right (by omega), hfl] at hj
        have hj0 : j - i = 0 := by
          rcases Nat.eq_zero_or_pos (j - i) with h | h
          · exact h
          · rw [List.getElem?_eq_none (by simp; omega)] at hj; cases hj
        rw [hj0] at hj
        injection hj with hj
        subst hj
        exact ⟨D, t1, t2, by rw [List.getElem?_append_right (by omega), hil, hj0]; rfl, .head _⟩
theorem codes_snoc (fs : List Nat) (f : Nat) : (⟨(codesOf (fs ++ [f])).toArray⟩ : Str) = ⟨(codesOf fs).toArray⟩ ++ sgnT f := by
  show _ = (⟨(codesOf fs).toArray ++ #[sgnC f]⟩ : Str)
  simp [codesOf]
theorem prep_snoc (fs : List Nat) (f : Nat) : (⟨(prepOf (fs ++ [f])).toArray⟩ : Str) = ⟨(prepOf fs).toArray⟩ ++ smlT f := by
  show _ = (⟨(prepOf fs).toArray ++ (sgnL f).toArray⟩ : Str)
  simp [prepOf]
theorem codes_len {fs : List Nat} (h : fs.length ≤ 3) : (⟨(codesOf fs).toArray⟩ : Str).length ≤ 100 := by
  show (codesOf fs).toArray.size ≤ 100
  simp [codesOf]; omega
theorem prep_len' {fs : List Nat} (hf : ∀ f ∈ fs, f < 135) (h : fs.length ≤ 3) : (⟨(prepOf fs).toArray⟩ : Str).length ≤ 100 := by
  show (prepOf fs).toArray.size ≤ 100
  have := prep_len hf
  simp; omega
theorem sgnT_len (f : Nat) : (sgnT f).length ≤ 100 := by show (1 : Nat) ≤ 100; decide
theorem smlT_len {f : Nat} (h : f < 135) : (smlT f).length ≤ 100 := by
  show (sgnL f).toArray.size ≤ 100
  have := sgnL_len h
  simp; omega
theorem mR2_of {f : Str → Option Value} {dv : Option Value} {la rw : Addr} {nv tv pv fv qv sv mv : Option Value}
    (h0 : f (Str.ofString "number") = nv) (h1 : f (Str.ofString "text") = tv) (h2 : f (Str.ofString "plain") = pv) (h3 : f (Str.ofString "figures") = fv) (h4 : f (Str.ofString "place") = qv) (h5 : f (Str.ofString "sign") = sv) (h6 : f (Str.ofString "small") = mv) (h7 : f (Str.ofString "row") = some (.ref rw)) (h8 : f (Str.ofString "drawn") = dv) (h9 : f (Str.ofString "script") = some (.ref la))
    (he : ∀ y, ¬ y = Str.ofString "number" → ¬ y = Str.ofString "text" → ¬ y = Str.ofString "plain" → ¬ y = Str.ofString "figures" → ¬ y = Str.ofString "place" → ¬ y = Str.ofString "sign" → ¬ y = Str.ofString "small" → ¬ y = Str.ofString "row" → ¬ y = Str.ofString "drawn" → ¬ y = Str.ofString "script" → f y = none) : f = mR2 dv la rw nv tv pv fv qv sv mv := by
  funext y
  unfold mR2
  by_cases a0 : y = Str.ofString "number"
  · subst a0; exact h0
  rw [if_neg a0]
  by_cases a1 : y = Str.ofString "text"
  · subst a1; exact h1
  rw [if_neg a1]
  by_cases a2 : y = Str.ofString "plain"
  · subst a2; exact h2
  rw [if_neg a2]
  by_cases a3 : y = Str.ofString "figures"
  · subst a3; exact h3
  rw [if_neg a3]
  by_cases a4 : y = Str.ofString "place"
  · subst a4; exact h4
  rw [if_neg a4]
  by_cases a5 : y = Str.ofString "sign"
  · subst a5; exact h5
  rw [if_neg a5]
  by_cases a6 : y = Str.ofString "small"
  · subst a6; exact h6
  rw [if_neg a6]
  by_cases a7 : y = Str.ofString "row"
  · subst a7; exact h7
  rw [if_neg a7]
  by_cases a8 : y = Str.ofString "drawn"
  · subst a8; exact h8
  rw [if_neg a8]
  by_cases a9 : y = Str.ofString "script"
  · subst a9; exact h9
  rw [if_neg a9]
  exact he y a0 a1 a2 a3 a4 a5 a6 a7 a8 a9
theorem rulesV20x1 : True := by
  (k_with "call builtin:list.append" => (k_here; (with_reducible show wpAny _ _ (call (Value.builtin _) [Value.ref _, Value.ref _]) _ _ _); k_dflt (refine' append_K ?k1 ?k2 ?k3 ?_ ?k4; (case k1 => k_asm); (case k2 => k_asm); (case k3 => k_upd); (case k4 => assumption); k_whole); intro hz9 Fz9 Nz9; (try dsimp only at Nz9)))
  (k_with "mr2" => (refine' mR2_of ?q0 ?q1 ?q2 ?q3 ?q4 ?q5 ?q6 ?q7 ?q8 ?q9 ?qe; (case q0 => rfl); (case q1 => rfl); (case q2 => rfl); (case q3 => rfl); (case q4 => rfl); (case q5 => rfl); (case q6 => rfl); (case q7 => rfl); (case q8 => rfl); (case q9 => rfl); (case qe => ((intro yz9 h0z9 h1z9 h2z9 h3z9 h4z9 h5z9 h6z9 h7z9 h8z9 h9z9); (repeat (refine (if_neg (by with_reducible assumption)).trans ?_)); exact rfl))))
  (k_with "call ref" => (k_here; (with_reducible show wpAny _ _ (call (Value.ref 131) [Value.int _ _]) _ _ _); (k_dflt (refine' Con.use (sign_is (by assumption) (by assumption)) ?uB ?uF ?uX ?uN ?uT ?uk ?ud ?uu ?_; (case uB => k_asm); (case uF => k_asm); (case uX => k_asm); (case uN => k_asm); (case uT => k_asm); (case uk => rfl); (case ud => (dsimp only [ktrTop]; omega)); (case uu => (dsimp only [ktrTop]; omega)))); intro bz9 hz9 tkz9 t1z9 t2z9 Fz9 Nz9 l1z9; (try dsimp only)))
  (k_with "subscriptTail Name Name ref int" => (k_here; k_dflt (refine' sub_list ?k1 ?k2 ?k3 ?k4 ?_; (case k1 => exact stays_list (Fr.keep (by k_asm)) (by assumption)); (case k2 => assumption); (case k3 => assumption); (case k4 => assumption))))
  (k_with "exec For Name Call cons nil" => (k_here; refine Stop.out ?_))
  (k_with "exec For" => (k_here; refine Stop.out ?_))
  trivial
set_option maxHeartbeats 4000000 in
theorem row_con (w : World) (p : Program) (loose : List Str) (mean : ExcName → Option Value) (mg mb : Str → Option Value) (la : Addr) (vs : List Value) (ns : List Int) (hvs : IntsAre vs ns) (hlen : ns.length ≤ 63) (news : Led) :
    RowCon w p loose mean mg mb la vs news := by
  intro dp un gd cn cs a ccd cl outer A₀ base h₀ L m s Q E B F X N T hk hd hu hl R
  revert X; k_fill; intro X
  refine wpAny_call ?_
  k_dflt cell_enter
  have hl' := stays_list (Fr.keep (by assumption : Fr h₀ L _ m)) hl
  k_steps
  unfold Stop
  refine for_it (by k_asm) rfl rfl ?_
  k_steps
  refine it_range rfl (by assumption) (by k_asm) (by k_asm) (small_len ?_) (range_n (Int.zero_add _).symm) (JR1 la news) ?_ ?_ ?_ (by passes_own)
  · omega
  · refine ⟨_, _, _, .cons _ _ (.cons _ _ (.cons _ _ (.cons _ _ (.cons _ _ .nil)))), rfl, ?_, rfl, none, ?_⟩
    · intro d hd
      simp only [List.mem_cons, List.not_mem_nil, or_false] at hd
      omega
    · funext y
      by_cases h1 : y = Str.ofString "drawn"
      · subst h1; rfl
      by_cases h2 : y = Str.ofString "place"
      · subst h2; rfl
      by_cases h3 : y = Str.ofString "script"
      · subst h3; rfl
      simp only [mR1, if_neg h1, if_neg h2, if_neg h3]
      exact lookup_none h3
  · intro I i t' m₁ news₁ h₁ tk₁ io hI hi J1 hn F1 N1
    obtain ⟨ws, ds, k, hws, hds, hb, e1, pv, e2⟩ := J1
    subst e1 e2
    have hI1 : @Ne Nat _ _ := hn _ (.head _)
    have hI2 : @Ne Nat _ _ := hn _ (.tail _ (.head _))
    dsimp only at hI1 hI2
    unfold mR1 at F1
    have hin : i < ns.length := by omega
    obtain ⟨tv, hx⟩ := hvs.get i ns[i] (List.getElem?_eq_getElem hin)
    have hi0 : (0 : Int) + (i : Int) = ((i : Nat) : Int) := by omega
    have hi1 : i ≤ 1000 := by omega
    k_steps
    refine step_next (by k_asm) (by k_asm) ?_ ⟨_, _, _, (by assumption), ?_, row_bound hb (by rw [hds]; exact idx5 i) (idx5 i) rfl, rfl, some (.int (0 + (i : Int)) t'), ?_⟩
    · intro p hp
      rcases List.mem_cons.mp hp with rfl | hp
      · exact hI1
      rcases List.mem_cons.mp hp with rfl | hp
      · exact hI2
      exact hn p (.tail _ (.tail _ hp))
    · rw [List.length_set]; exact hds
    · funext y
      by_cases h1 : y = Str.ofString "drawn"
      · subst h1; rfl
      by_cases h2 : y = Str.ofString "place"
      · subst h2; rfl
      by_cases h3 : y = Str.ofString "script"
      · subst h3; rfl
      simp only [mR1, if_neg h1, if_neg h2, if_neg h3]
  · intro h' tk' m' news' F' N' J'
    obtain ⟨ws, ds, k, hws, hds, hb, e1, pv, e2⟩ := J'
    subst e1 e2
    unfold mR1 at F'
    k_steps
    unfold Stop
    refine for_it (by k_asm) rfl rfl ?_
    k_steps
    refine it_listN rfl (by k_asm) (by k_asm) (.tail _ (.tail _ (.head _))) (listOf_ob ws k) (JR2 la) ?_ ?_ ?_ ?_ (by passes_own)
    · refine ⟨[], 0, _, [], ?_, none, none, none, none, pv, none, none, rfl, fun q hq => hq, ?_, rfl, rfl, fun fs h => (nomatch h), fun i fs h => (by simp at h), ?_⟩
      rotate_left
      · exact fun p hp => Nat.ne_of_lt (all_of_allLt (by assumption) p hp)
      · walk_at "mr2"
    · intro i m₁ news₁ J1
      obtain ⟨its, k', more, fss, dv, nv, tv, pv, fv, qv, sv, mv, e1, hsub, _⟩ := J1
      subst e1
      exact .tail _ (hsub _ (.tail _ (.head _)))
    · intro I i v m₁ news₁ h₁ tk₁ io hI hi J1 hn F1 N1
      obtain ⟨its, k', more, fss, dv, nv, tv, pv, fv, qv, sv, mv, e1, hsub, hne, hil, hfl, hok, htup, e2⟩ := J1
      subst e1 e2
      unfold mR2 at F1
      have hI1 : @Ne Nat _ _ := hn _ (.head _)
      dsimp only at hI1
      obtain ⟨d, td, rfl, hdi⟩ := hws.at i v hi
      have hi5 : i < 5 := by
        have := (List.getElem?_eq_some_iff.mp hdi).1; omega
      have hsz : its.toArray.size ≤ sizeLine := by
        rw [List.size_toArray, hil]; exact Nat.le_trans (Nat.le_of_lt hi5) (by decide)
      obtain ⟨hd0, _⟩ := hb d (List.mem_of_getElem? hdi)
      have hr3 : (1 : Int) + d.fmod 3 = ((1 + d.toNat % 3 : Nat) : Int) := by
        rw [Int.fmod_eq_emod_of_nonneg _ (by decide)]; omega
      have hfl3 : d.fdiv 3 = ((d.toNat / 3 : Nat) : Int) := by
        rw [Int.fdiv_eq_ediv_of_nonneg _ (by decide)]; omega
      k_steps
      unfold Stop
      refine for_it (by k_asm) rfl rfl ?_
      k_steps
      refine it_range (n := 1 + d.toNat % 3) rfl (by assumption) (by k_asm) (by k_asm) (small_in (by decide) (by decide) (by omega) (by omega)) (range_n (by omega)) (JR3 dv la d td) ?_ ?_ ?_ (by passes_own)
      · refine ⟨[], d.toNat / 3, ?_, ?_, ?_, qv, sv, mv, rfl, fun f h => (nomatch h), rfl, ?_⟩
        rotate_right
        · rw [← hfl3]; walk_at "mr2"
      · intro I2 j t2' m₂ news₂ h₂ tk₂ io2 hI2 hj J2 hn2 F2 N2
        obtain ⟨fs, g, t1, t2, t3, qv, sv, mv, hfsl, hfs, e1, e2⟩ := J2
        subst e1 e2
        unfold mR2 at F2
        have hg1 : (g : Int).fmod 135 = ((g % 135 : Nat) : Int) := by
          rw [Int.fmod_eq_emod_of_nonneg _ (by decide)]; omega
        have hg2 : g % 135 < 135 := Nat.mod_lt _ (by decide)
        have hg3 : (g : Int).fdiv 135 = ((g / 135 : Nat) : Int) := by
          rw [Int.fdiv_eq_ediv_of_nonneg _ (by decide)]; omega
        have hl1 := codes_len (fs := fs) (by omega)
        have hl2 := prep_len' (fs := fs) hfs (by omega)
        have hl3 := sgnT_len (g % 135)
        have hl4 := smlT_len hg2
        k_steps
        refine step_nextS (by k_asm) (by k_asm) (by intro q hq; walk_at "mem in") hn2 ⟨fs ++ [g % 135], g / 135, ?_, ?_, ?_, ?_, ?_, ?_, by rw [List.length_append, hfsl]; rfl, ?_, rfl, ?_⟩
        rotate_right
        · rw [codes_snoc, prep_snoc, hg3]; walk_at "mr2"
        · intro f hf
          rcases List.mem_append.mp hf with hf | hf
          · exact hfs f hf
          · rw [List.mem_singleton.mp hf]; exact hg2
      · intro h' tk' m' news' F' N' J'
        obtain ⟨fs, g, t1, t2, t3, qv, sv, mv, hfsl, hfs, e1, e2⟩ := J'
        subst e1 e2
        unfold mR2 at F'
        k_steps
        refine row_turn (by k_asm) (by k_asm) (by omega) (by omega) hn hne hsub hil hfl hok htup ⟨by omega, by omega, hfs⟩ rfl
    · intro h' tk' m' news' F' N' J'
      obtain ⟨its, k', more, fss, dv, nv, tv, pv, fv, qv, sv, mv, e1, hsub, hne, hil, hfl, hok, htup, e2⟩ := J'
      subst e1 e2
      unfold mR2 at F'
      k_steps
      have hwl : ws.length = 5 := by rw [hws.length]; exact hds
      refine R _ fss _ _ _ ⟨by omega, hok⟩ (by k_asm) (by k_asm) (fun q hq => .tail _ (hsub _ (.tail _ (.tail _ hq)))) ⟨its, k', .head _, by omega, fun i fs h => ?_⟩
      obtain ⟨ta, t1, t2, a, b⟩ := htup i fs h
      exact ⟨ta, t1, t2, a, .tail _ b⟩
end
section
open PySem PySem.W PySem.Calls PySem.Spec PyProof.Rows PyProof.Rows.LCg PyProof.Rows.LCt
theorem rulesV21ax0 : True := by
  k_with_none
  (k_with "k ne" => (refine neN ?_; (try dsimp only); first | (with_reducible assumption) | exact neS (by with_reducible assumption) | omega))
  (k_with "k all" => (refine all_ne (by assumption) ?_; (try dsimp only); omega))
  (k_with "k mem" => assumption)
  (k_with "k all" => assumption)
  trivial
section
variable {prog : Program} {w : World} {A : Around} {h₀ : Heap} {env : Env} {x : Str} {body : List Stmt} {Q : Flow → Shared → Prop} {E : Value → Shared → Prop} {s : Shared} {m : Str → Option Value} {news : List (Addr × Obj)}
/-- where a for loop (any target) begins -/
noncomputable def AnyAt (prog : Program) (w : World) (A : Around) (h₀ : Heap) (env : Env) (target : Expr) (body : List Stmt) (Q : Flow → Shared → Prop) (E : Value → Shared → Prop) (xv : Value) (s₁ : Shared) : Prop :=
  wpAny (model prog w) A (pyIter xv) (fun it s₂ => codeAny (model prog w) A (.forLoop target it body [] env) (fun r s' => match r with | .ok f => Q f s' | .error e => cameBackBy (model prog w) A env E e s') s₂) E s₁
theorem for_any {target iter : Expr} {pos : Pos} (h : wpAny (model prog w) A (eval iter env) (fun xv s₁ => AnyAt prog w A h₀ env target body Q E xv s₁) E s)
    (hs : ∀ x, foldedSetIterable iter env x = pure x := by intro _; rfl) :
    wpAny (model prog w) A (exec (.For target iter body [] pos) env) Q E s := wpAny_For h hs
/-- an iterator over a list of the ledger, any target -/
theorem any_listN {target : Expr} {l : Addr} {lo : Obj} {items : List Value} (hh : A.handled = none) (F : Fr h₀ env.locals s.heap m) (N : News h₀ env.locals s.heap news) (hm : (l, lo) ∈ news) (ho : ListOb lo items.toArray)
    (J : Led → Nat → (Str → Option Value) → Led → Prop) (h0 : J news 0 m news) (hk : ∀ i m₁ news₁, J news i m₁ news₁ → (l, lo) ∈ news₁)
    (step : ∀ I i v m₁ news₁ h tk io, (∀ p ∈ news, p.1 < I) → items[i]? = some v → J news i m₁ news₁ → (∀ p ∈ news₁, p.1 ≠ I) → Fr h₀ env.locals h m₁ → News h₀ env.locals h ((I, io) :: news₁) →
      wpAny (model prog w) A (assign target env v) (fun _ s' => wpAny (model prog w) A (execs body env) (StepW h₀ env.locals I io (J news (i + 1)) s Q) E s') E { s with heap := h, toks := tk })
    (hQ : ∀ h' tk m' news', Fr h₀ env.locals h' m' → News h₀ env.locals h' news' → J news items.length m' news' → Q .next { s with heap := h', toks := tk })
    (hgo : ∀ it v, letOwnedTupleGo target it v = pure () := by intro _ _; rfl)
    (hE : PassesOwn (model prog w) A env E := by passes_own) :
    AnyAt prog w A h₀ env target body Q E (.ref l) s := by
  have hl := ho.at (N _ hm).1
  obtain ⟨ol, hol, hlr⟩ := id hl
  have hlI : l < s.heap.objs.size := Heap.lt_size hol
  obtain ⟨oL, _, _, hL, _⟩ := F.ns
  have hLI : env.locals < s.heap.objs.size := Heap.lt_size hL
  have hLl : env.locals ≠ l := fun e => (N _ hm).2.1 e.symm
  have hLf : env.locals ∉ [s.heap.objs.size, l] := fun hm => by
    rcases List.mem_cons.mp hm with e | hm
    · rw [e] at hLI; exact Nat.lt_irrefl _ hLI
    · exact hLl (List.mem_singleton.mp hm)
  refine wpAny_pyIter_list hl ?_
  have W := Walks.list (prog := prog) (w := w) (A := A) hh s.heap.objs.size l (Nat.ne_of_lt hlI) items.toArray
  have hwr : h₀.get? s.heap.objs.size = none := F.fresh
  have hLw : env.locals ∉ [s.heap.objs.size] := fun h => hLf (W.sub _ h)
  have old : ∀ b o, h₀.get? b = some o → b ∉ [s.heap.objs.size] := fun b o e hb => by rw [List.mem_singleton.mp hb, hwr] at e; cases e
  refine codeAny_forLoop_any
    (fun k s' => ∃ h' tk m' news' i, s' = { s with heap := h', toks := tk } ∧ (h'.IsListIter s.heap.objs.size l i ∧ h'.IsList l items.toArray) ∧ Fr h₀ env.locals h' m' ∧ News h₀ env.locals h' news' ∧ (∀ p ∈ news', p.1 ≠ s.heap.objs.size) ∧ J news i m' news' ∧ i ≤ items.length ∧ k = items.length + 1 - i) ?_ (items.length + 1)
    ⟨_, _, m, news, 0, rfl, ⟨⟨_, Heap.get?_push_size _ rfl, rfl, rfl⟩, hl.push _⟩, F.push _, fun q hq => ?_, fun p hp => Nat.ne_of_lt (Heap.lt_size (N p hp).1), h0, Nat.zero_le _, rfl⟩
  · rintro k s' ⟨h', tk, m', news', i, rfl, hst', F', N', hnw', hJ, hi, rfl⟩
    have next : ∀ h₁ : Heap, (∀ b o, b ∉ [s.heap.objs.size] → h'.get? b = some o → h₁.get? b = some o) → Fr h₀ env.locals h₁ m' ∧ News h₀ env.locals h₁ news' := fun h₁ hk₁ =>
      ⟨⟨F'.ns.at' fun o e => hk₁ _ o hLw e, fun b o e => hk₁ b o (old b o e) (F'.keep b o e), F'.above⟩, fun p hp => ⟨hk₁ _ _ (fun q => hnw' p hp (List.mem_singleton.mp q)) (N' p hp).1, (N' p hp).2⟩⟩
    by_cases hlt : i < items.length
    · refine W.item i _ _ _ (by simpa using hlt) hst' fun v h₁ tk₁ hP hst₁ hk₁ => ?_
      obtain ⟨F₁, N₁⟩ := next h₁ hk₁
      obtain ⟨oI, hoI, hoIr⟩ := id hst₁.1
      refine wpAny_of_eq (hgo _ _) ?_
      have NI : News h₀ env.locals h₁ ((s.heap.objs.size, oI) :: news') := fun q hq => by
        rcases List.mem_cons.mp hq with rfl | hq
        · exact ⟨hoI, fun e => hLw (by rw [← e]; exact .head _), hwr⟩
        · exact N₁ q hq
      have hst := step s.heap.objs.size i v m' news' h₁ tk₁ oI (fun p hp => Heap.lt_size (N p hp).1) (by simpa using hP) hJ hnw' F₁ NI
      refine wpAny_mono (wpAny_passesOwn hE hst) (fun _ s₂ h₂ => ?_) fun _ _ e => e
      refine wpAny_mono (wpAny_passesOwn hE h₂) (fun f s₃ h₃ => ?_) fun _ _ e => e
      have fin : ∀ h'' tk'' m₂ news₂, Fr h₀ env.locals h'' m₂ → News h₀ env.locals h'' ((s.heap.objs.size, oI) :: news₂) → (∀ p ∈ news₂, p.1 ≠ s.heap.objs.size) → J news (i + 1) m₂ news₂ →
          ∃ k, k < items.length + 1 - i ∧ ∃ h' tk m' news' i, ({ s with heap := h'', toks := tk'' } : Shared) = { s with heap := h', toks := tk } ∧ (h'.IsListIter s.heap.objs.size l i ∧ h'.IsList l items.toArray) ∧ Fr h₀ env.locals h' m' ∧ News h₀ env.locals h' news' ∧ (∀ p ∈ news', p.1 ≠ s.heap.objs.size) ∧ J news i m' news' ∧ i ≤ items.length ∧ k = items.length + 1 - i := by
        intro h'' tk'' m₂ news₂ F₂ N₂ hn₂ J₂
        refine ⟨items.length + 1 - (i + 1), by omega, h'', tk'', m₂, news₂, i + 1, rfl, ⟨⟨oI, (N₂ _ (.head _)).1, hoIr⟩, ho.at (N₂ _ (.tail _ (hk _ _ _ J₂))).1⟩, F₂, fun q hq => N₂ q (.tail _ hq), hn₂, J₂, hlt, rfl⟩
      cases f with
      | ret v => exact h₃
      | brk => exact h₃
      | next =>
        obtain ⟨h'', tk'', m₂, news₂, rfl, F₂, N₂, hn₂, J₂⟩ := h₃
        exact fin _ _ _ _ F₂ N₂ hn₂ J₂
      | cont =>
        obtain ⟨h'', tk'', m₂, news₂, rfl, F₂, N₂, hn₂, J₂⟩ := h₃
        exact fin _ _ _ _ F₂ N₂ hn₂ J₂
    · obtain rfl : i = items.length := by omega
      have hst2 : h'.IsListIter s.heap.objs.size l items.toArray.size ∧ h'.IsList l items.toArray := by simpa using hst'
      refine W.done _ _ _ hst2 fun h₁ tk₁ hk₁ => wpAny_execs_nil ?_
      obtain ⟨F₁, N₁⟩ := next h₁ hk₁
      exact hQ h₁ tk₁ m' news' F₁ N₁ hJ
  · have := N q hq
    exact ⟨Heap.get?_push_of_some _ this.1, this.2⟩
end
end
section
open PySem PySem.W PySem.Calls PySem.Spec PyProof.Rows PyProof.Rows.LCg PyProof.Rows.LCt
theorem rulesV21bx0 : True := by
  k_with_none
  (k_with "mem in" => first | assumption | exact List.Mem.head _ | (refine List.Mem.tail _ ?_; walk_at "mem in"))
  (k_with "k ne" => (refine neN ?_; (try dsimp only); first | (with_reducible assumption) | exact neS (by with_reducible assumption) | omega))
  (k_with "k all" => (refine all_ne (by assumption) ?_; (try dsimp only); omega))
  (k_with "k mem" => assumption)
  (k_with "k all" => assumption)
  trivial
/-- the three tables -/
noncomputable def ToldAre (news : Led) (a : Addr) (T : Fin 3 → Int → Int → Int) : Prop := ∃ (a0 a1 a2 : Addr) (k : Nat), (a, PySem.W.listOf [Value.ref a0, .ref a1, .ref a2].toArray k) ∈ news ∧ TabIn news a0 (T 0) ∧ TabIn news a1 (T 1) ∧ TabIn news a2 (T 2)
noncomputable def wv (T : Fin 3 → Int → Int → Int) (i : Fin 3) (a b : Nat) : Int := T i (a : Int) (b : Int)
/-- a block of a cut: where it begins and ends -/
noncomputable def blkA (f s : Int) (p : Int) : Int := if p = 0 then 0 else if p = 1 then f else s
noncomputable def blkB (f s : Int) (p : Int) : Int := if p = 0 then f else if p = 1 then s else 5
noncomputable def needV (W : Int → Int → Int) (f s : Int) : Int := max (lessF W 0 f) (max (lessF W f s) (lessF W s 5))
noncomputable def accB (W : Int → Int → Int) (f s : Int) (p : Int) : Bool := decide (needV W f s ≤ W (blkA f s p) (blkB f s p))
noncomputable def takesOf (W : Int → Int → Int) (f s : Int) : List Int := [0, 1, 2].filter (accB W f s)
noncomputable def Cut (T : Fin 3 → Int → Int → Int) (f s : Int) : Prop := ∃ x y z : Int, x ∈ takesOf (T 0) f s ∧ y ∈ takesOf (T 1) f s ∧ z ∈ takesOf (T 2) f s ∧ x ≠ y ∧ x ≠ z ∧ y ≠ z
noncomputable def TakesIn (T : Fin 3 → Int → Int → Int) (f s : Int) (more : Led) (its : List Value) (i : Nat) : Prop := ∀ k : Fin 3, k.val < i → ∃ lk ys, its[k.val]? = some (.ref lk) ∧ (lk, lst ys) ∈ more ∧ IntsAre ys (takesOf (T k) f s)
noncomputable def JD3 (T : Fin 3 → Int → Int → Int) (f s : Int) (mf : Str → Option Value) (n0 : Led) (i : Nat) (m₁ : Str → Option Value) (news₁ : Led) : Prop := match n0 with
  | (tl, _) :: eB :: e3 :: e2 :: e1 :: eI2 :: eI :: el :: (cn, _) :: (cw, _) :: ec3 :: ec4 :: rest => ∃ (on ow : Obj) (vn vw : Option Value) (its : List Value) (k : Nat) (more : Led),
    news₁ = (tl, PySem.W.listOf its.toArray k) :: eB :: e3 :: e2 :: e1 :: eI2 :: eI :: el :: (cn, on) :: (cw, ow) :: ec3 :: ec4 :: more ∧ on.data = .cell vn ∧ ow.data = .cell vw ∧ (∀ q ∈ rest, q ∈ more) ∧ (∀ p ∈ more, p.1 ≠ tl) ∧ (∀ p ∈ more, p.1 ≠ cn) ∧ (∀ p ∈ more, p.1 ≠ cw) ∧
    its.length = i ∧ TakesIn T f s more its i ∧ m₁ = mf
  | _ => False
noncomputable def mD (ta : Addr) (fv sv : Option Value) : Str → Option Value := fun y =>
  if y = Str.ofString "first" then fv else if y = Str.ofString "second" then sv else if y = Str.ofString "told" then some (.ref ta) else none
noncomputable def firsts : List Int := [1, 2, 3, 0, 4, 5]
theorem max3 {prog : Program} {w : World} {A : Around} {E : Value → Shared → Prop} {s : Shared} {h₀ : Heap} {L D : Addr} {m : Str → Option Value} {ys : List Value} {W : Int → Int → Int} {f g : Int} {more : Led} {Q : Value → Shared → Prop}
    (hh : A.handled = none) (F : Fr h₀ L s.heap m) (N : News h₀ L s.heap ((D, lst ys) :: more)) (hi : IntsAre ys [lessF W 0 f, lessF W f g, lessF W g 5])
    (h : ∀ h' (t : Tok) tk nd, nd = needV W f g → Fr h₀ L h' m → News h₀ L h' ((D, lst ys) :: more) → Q (.int nd t) { s with heap := h', toks := tk }) : wpAny (model prog w) A (call (.builtin "max") [.ref D]) Q E s := by
  refine kso_max F N ⟨_, (N _ (.head _)).1, rfl, _, rfl⟩ hi (Nat.succ_pos _) hh fun h' M t tk F' N' a b => ?_
  have e : M = needV W f g := by
    have b1 := b _ (.head _)
    have b2 := b _ (.tail _ (.head _))
    have b3 := b _ (.tail _ (.tail _ (.head _)))
    simp only [List.mem_cons, List.not_mem_nil, or_false] at a
    unfold needV; omega
  exact h h' t tk M e F' N'
noncomputable def fBody : Stmt → List Stmt
  | .For _ _ b _ _ => b
  | _ => []
noncomputable def aVal : Stmt → Expr
  | .Assign _ v _ => v
  | .Expr v _ => v
  | _ => default
noncomputable def cArg : Expr → Expr
  | .Call _ (a :: _) _ _ => a
  | _ => default
noncomputable def dB1 : List Stmt := fBody ((fnB 21).getD 0 default)
noncomputable def dB2 : List Stmt := fBody (dB1.getD 0 default)
noncomputable def dB3 : List Stmt := fBody (dB2.getD 2 default)
noncomputable def needE : Expr := aVal (dB3.getD 0 default)
noncomputable def takesE : Expr := cArg (aVal (dB3.getD 1 default))
noncomputable abbrev envD (L : Addr) : Env := envOfC (Str.ofString "_law_dealt") (fnS 21) L 170 (.ref 169)
noncomputable abbrev tup2 (a b : Value) : Obj := { cls := .type "tuple", data := .seq #[a, b] }
/-- what a turn over the tables reads -/
noncomputable def TurnIn (news : Led) (L wa : Addr) (W : Int → Int → Int) (f g : Int) : Prop :=
  ∃ (ow ob : Obj) (bl t1 t2 t3 : Addr) (k : Nat) (u1 u2 u3 u4 u5 u6 : Tok), (L + 1 + 1 + 1, ow) ∈ news ∧ ow.data = .cell (some (.ref wa)) ∧ (L + 1, ob) ∈ news ∧ ob.data = .cell (some (.ref bl)) ∧
    (bl, PySem.W.listOf #[Value.ref t1, .ref t2, .ref t3] k) ∈ news ∧ (t1, tup2 (.int 0 u1) (.int f u2)) ∈ news ∧ (t2, tup2 (.int f u3) (.int g u4)) ∈ news ∧ (t3, tup2 (.int g u5) (.int 5 u6)) ∈ news ∧ TabIn news wa W
theorem rulesV21bx1 : True := by
  (k_with "call ref" => (k_here; (with_reducible show wpAny _ _ (call (Value.ref 165) [Value.ref _, Value.int _ _, Value.int _ _]) _ _ _); k_dflt (refine' Con.use (less_con _ _ _ _ _ _ _ _ _ _ _ _ _ ?tw ?l0 ?l1 ?l2) ?uB ?uF ?uX ?uN ?uT ?uk ?ud ?uu ?_; (case uB => k_asm); (case uF => k_asm); (case uX => k_asm); (case uN => k_asm); (case uT => k_asm); (case uk => rfl); (case ud => ((try dsimp only [ktrTop]); omega)); (case uu => ((try dsimp only [ktrTop]); omega)); (case tw => exact TabIn.mono (by assumption) (by intro q hq; walk_at "mem in")); (case l0 => omega); (case l1 => omega); (case l2 => omega)); intro tz9 hz9 tkz9 Fz9 Nz9; (try dsimp only)))
  (k_with "call builtin:max" => (k_here; (with_reducible show wpAny _ _ (call (Value.builtin _) [Value.ref _]) _ _ _); k_dflt (refine' max3 (W := _) (f := _) (g := _) ?wfH ?wfF ?wfN ?wfI ?_; (case wfH => rfl); (case wfF => k_asm); (case wfN => k_asm); (case wfI => exact .cons _ _ (.cons _ _ (.cons _ _ .nil)))); intro hz9 tz9 tkz9 ndz9 hndz9 Fz9 Nz9))
  (k_with "CompEnd" => (refine' LCg.CompEnd.intro ?ceF ?ceN _ (fun p hp => hp) ?ceO ?ceS ?_; (case ceF => k_asm); (case ceN => k_asm); (case ceO => first | assumption | (simp only [LCg.Off3, and_true]; assumption)); (case ceS => first | lcg_src | exact Or.inr ⟨_, by walk_at "mem in", rfl, _, rfl⟩)))
  trivial
set_option maxHeartbeats 1000000 in
theorem need_eval {w : World} {p : Program} {loose : List Str} {mean : ExcName → Option Value} {mg mb : Str → Option Value} {dp un : Nat} {gd : Option (List Code)} {outer : List Env} {A₀ : Around} {base h₀ : Heap} {L wa : Addr} {m : Str → Option Value} {s : Shared} {Q E : VP} {news : Led} {W : Int → Int → Int} {f g : Int}
    (B : Below A₀ base outer h₀) (F : Fr h₀ L s.heap m) (X : (K w.params).In h₀) (N : News h₀ L s.heap news) (T₀ : Top p loose mean mg mb h₀) (hd : dp + 60 < recursionLimit) (hu : un + 600 < cLine)
    (h : TurnIn news L wa W f g) (h0 : 0 ≤ f) (h1 : f ≤ g) (h2 : g ≤ 5)
    (hQ : ∀ h' (t : Tok) tk nd, nd = needV W f g → Fr h₀ L h' m → News h₀ L h' news → Q (.int nd t) { s with heap := h', toks := tk }) :
    wpAny (model PySem.Challenge.rw_wk0033_01.row.prog w) { handled := none, depth := dp, frames := some (envD L :: outer), guards := gd, units := un } (eval needE (envD L)) Q E s := by
  obtain ⟨ow, ob, bl, t1, t2, t3, k, u1, u2, u3, u4, u5, u6, m1, dw, m2, db, m3, m4, m5, m6, hW⟩ := h
  revert X; k_fill; intro X
  with_unfolding_all change wpAny _ _ (eval (Expr.Call (Expr.Name _ _) _ _ _) _) _ _ _
  k_steps
  rename News h₀ L _ _ => NN
  exact hQ _ _ _ _ (by assumption) (by k_asm) (fun q hq => NN q (.tail _ hq))
theorem Off1.mem {D : Addr} : ∀ {l : Led}, Off1 D l → ∀ q ∈ l, q.1 ≠ D
  | [], _, _, h => nomatch h
  | _ :: _, x, q, h => by
    rcases List.mem_cons.mp h with rfl | h
    · exact x.1
    · exact Off1.mem x.2 q h
theorem rulesV21bx2 : True := by
  (k_with "eval ListComp" => (k_here; refine Stop.out ?_))
  (k_with "CompSrcT" => (k_here; refine Stop.out ?_))
  trivial
theorem sub_made {prog : Program} {w : World} {A : Around} {E : Value → Shared → Prop} {s : Shared} {h₀ : Heap} {L l : Addr} {news : Led} {value slice : Expr} {a b c : Value} {n : Nat} {i : Int} {u : Tok} {Q : Value → Shared → Prop} (N : News h₀ L s.heap news) (hm : (l, PySem.W.listOf #[a, b, c] n) ∈ news) (hi : i = 0 ∨ i = 1 ∨ i = 2) (h : Q (if i = 0 then a else if i = 1 then b else c) s)
    (hs : subscripted slice false (.ref l) (.int i u) = operate [.ref l, .int i u] (getItem (.ref l) (.int i u)) := by with_unfolding_all rfl) :
    wpAny (model prog w) A (subscriptTail value slice (.ref l) (.int i u)) Q E s := by
  have hl : s.heap.IsList l #[a, b, c] := ⟨_, (N _ hm).1, rfl, n, rfl⟩
  rcases hi with rfl | rfl | rfl
  · exact tail_any hl.typeIs slot_list_getitem.lookup (wpAny_getItem_list hl (by decide) (by decide) rfl h) hs
  · exact tail_any hl.typeIs slot_list_getitem.lookup (wpAny_getItem_list hl (by decide) (by decide) rfl h) hs
  · exact tail_any hl.typeIs slot_list_getitem.lookup (wpAny_getItem_list hl (by decide) (by decide) rfl h) hs
theorem rulesV21bx3 : True := by
  (k_with "subscriptTail" => (k_here; (with_reducible show wpAny _ _ (subscriptTail _ _ (Value.ref _) (Value.int _ _)) _ _ _); k_dflt (first | (refine' sub_tab ?N ?T ?h0 ?h1 ?_; (case N => k_asm); (case T => exact TabIn.mono (by assumption) (by intro q hq; walk_at "mem in")); (case h0 => omega); (case h1 => omega); intro raz9 hRz9) | (refine' sub_row ?N ?T ?h0 ?h1 ?_; (case N => k_asm); (case T => with_reducible assumption); (case h0 => omega); (case h1 => omega); intro tz9) | (refine' sub_made ?N ?T ?h0 ?_; (case N => k_asm); (case T => walk_at "mem in"); (case h0 => decide); (try simp only [if_true, show ¬ ((1 : Int) = 0) by decide, show ¬ ((2 : Int) = 0) by decide, show ¬ ((2 : Int) = 1) by decide, if_false])))))
  trivial
theorem takes_step {W : Int → Int → Int} {f g : Int} {i : Nat} {ys : List Value} {t : Tok} {k : Int} (h : IntsAre ys (([0, 1, 2] : List Int).take i |>.filter (accB W f g))) (hk : ([0, 1, 2] : List Int)[i]? = some k) (ha : accB W f g k = true) :
    IntsAre (ys ++ [.int k t]) (([0, 1, 2] : List Int).take (i + 1) |>.filter (accB W f g)) := by
  obtain ⟨hl, he⟩ := List.getElem?_eq_some_iff.mp hk
  rw [List.take_succ_eq_append_getElem hl, he, List.filter_append]
  simp only [List.filter_cons, ha, List.filter_nil, if_true]
  exact h.append (.cons _ _ .nil)
theorem takes_skip {W : Int → Int → Int} {f g : Int} {i : Nat} {ys : List Value} {k : Int} (h : IntsAre ys (([0, 1, 2] : List Int).take i |>.filter (accB W f g))) (hk : ([0, 1, 2] : List Int)[i]? = some k) (ha : accB W f g k = false) :
    IntsAre ys (([0, 1, 2] : List Int).take (i + 1) |>.filter (accB W f g)) := by
  obtain ⟨hl, he⟩ := List.getElem?_eq_some_iff.mp hk
  rw [List.take_succ_eq_append_getElem hl, he, List.filter_append]
  simp only [List.filter_cons, ha, List.filter_nil, Bool.false_eq_true, if_false, List.append_nil]
  exact h
set_option maxHeartbeats 1000000 in
theorem takes_eval {w : World} {p : Program} {loose : List Str} {mean : ExcName → Option Value} {mg mb : Str → Option Value} {dp un : Nat} {gd : Option (List Code)} {outer : List Env} {A₀ : Around} {base h₀ : Heap} {L wa : Addr} {m : Str → Option Value} {s : Shared} {Q E : VP} {news : Led} {W : Int → Int → Int} {f g nd : Int} {on : Obj} {tn : Tok}
    (B : Below A₀ base outer h₀) (F : Fr h₀ L s.heap m) (X : (K w.params).In h₀) (N : News h₀ L s.heap news) (T₀ : Top p loose mean mg mb h₀) (hd : dp + 60 < recursionLimit) (hu : un + 600 < cLine)
    (h : TurnIn news L wa W f g) (h0 : 0 ≤ f) (h1 : f ≤ g) (h2 : g ≤ 5) (hn : (L + 1 + 1 + 1 + 1, on) ∈ news) (dn : on.data = .cell (some (.int nd tn))) (hnd : nd = needV W f g)
    (hQ : ∀ D h' tk ys, IntsAre ys (takesOf W f g) → Fr h₀ L h' m → News h₀ L h' ((D, lst ys) :: news) → (∀ q ∈ news, q.1 ≠ D) → Q (.ref D) { s with heap := h', toks := tk }) :
    wpAny (model PySem.Challenge.rw_wk0033_01.row.prog w) { handled := none, depth := dp, frames := some (envD L :: outer), guards := gd, units := un } (eval takesE (envD L)) Q E s := by
  obtain ⟨ow, ob, bl, t1, t2, t3, k, u1, u2, u3, u4, u5, u6, m1, dw, m2, db, m3, m4, m5, m6, hW⟩ := h
  revert X; k_fill; intro X
  with_unfolding_all change wpAny _ _ (eval (Expr.ListComp (Expr.Name _ _) [Comprehension.mk (Expr.Name _ _) (Expr.Call (Expr.Name _ _) _ _ _) [Expr.Compare _ _ _ _] _] _ _) _) _ _ _
  have e0 : accB W f g 0 = decide (nd ≤ W 0 f) := by rw [hnd]; rfl
  have e1 : accB W f g 1 = decide (nd ≤ W f g) := by rw [hnd]; rfl
  have e2 : accB W f g 2 = decide (nd ≤ W g 5) := by rw [hnd]; rfl
  refine LCt.ListComp_T (F₀ := by k_asm) (by with_unfolding_all rfl) (by decide) (by rfl) (by decide) (by rfl) ?_
  k_steps
  unfold Stop
  refine LCt.CompSrcT.range (n := 3) rfl (by k_asm) (by k_asm) (by assumption) (by decide) (by rfl) (by decide) ?_
  intro g1
  refine restT_c (fun i ys => IntsAre ys (([0, 1, 2] : List Int).take i |>.filter (accB W f g))) .nil ?_ ?_
  · intro i ys v I oI C oC D m₂ h₁ tk₁ E' hi hP hI hC hx F1 N1 off ne
    obtain ⟨t, rfl⟩ := hP
    have hi3 : i = 0 ∨ i = 1 ∨ i = 2 := by omega
    rcases hi3 with rfl | rfl | rfl
    · replace hx : m₂ (Str.ofString "place") = some (.int 0 t) := hx
      k_steps
      · exact takes_step hI rfl (by rw [e0]; exact decide_eq_true (by omega))
      · exact takes_skip hI (k := 0) rfl (by rw [e0]; exact decide_eq_false (by omega))
    · replace hx : m₂ (Str.ofString "place") = some (.int 1 t) := hx
      k_steps
      · exact takes_step hI rfl (by rw [e1]; exact decide_eq_true (by omega))
      · exact takes_skip hI (k := 1) rfl (by rw [e1]; exact decide_eq_false (by omega))
    · replace hx : m₂ (Str.ofString "place") = some (.int 2 t) := hx
      k_steps
      · exact takes_step hI rfl (by rw [e2]; exact decide_eq_true (by omega))
      · exact takes_skip hI (k := 2) rfl (by rw [e2]; exact decide_eq_false (by omega))
  · intro ys hys
    k_steps
    exact hQ _ _ _ ys hys (by k_asm) (by k_asm) (Off1.mem (by assumption))
end
section
open PySem PySem.W PySem.Calls PySem.Spec PyProof.Rows PyProof.Rows.LCg PyProof.Rows.LCt
theorem rulesV22x0 : True := by
  k_with_none
  (k_with "mem in" => first | assumption | exact List.Mem.head _ | (refine List.Mem.tail _ ?_; walk_at "mem in"))
  (k_with "k ne" => (refine neN ?_; (try dsimp only); first | (with_reducible assumption) | exact neS (by with_reducible assumption) | omega))
  (k_with "k all" => (refine all_ne (by assumption) ?_; (try dsimp only); omega))
  (k_with "k mem" => assumption)
  (k_with "k all" => assumption)
  trivial
noncomputable abbrev cmp3 (elt : Expr) (x y z : Str) (px py pz : Pos) (i0 i1 i2 t : Expr) (scope : Scope) (pos : Pos) : Expr := .ListComp elt [⟨.Name x px, i0, [], 0⟩, ⟨.Name y py, i1, [], 0⟩, ⟨.Name z pz, i2, [t], 0⟩] scope pos
section
variable (elt : Expr) (x y z : Str) (px py pz : Pos) (i0 i1 i2 t : Expr) (scope : Scope) (pos : Pos) (it acc : Value) (env : Env)
theorem turn3_0 : compTurn (cmp3 elt x y z px py pz i0 i1 i2 t scope pos) 0 it acc env = (standAt i0.pos >>= fun _ => pyNext it >>= fun r => match r with
      | none => pure (.done .next)
      | some v => letOwnedTupleGo (.Name x px) it v >>= fun _ => assign (.Name x px) env v >>= fun _ =>
        (eval i1 env >>= fun xv => standAt i1.pos >>= fun _ => foldedSetIterable i1 env xv >>= fun xv => holding [xv] (pyIter xv) >>= fun it' => runOwn (.compStart (cmp3 elt x y z px py pz i0 i1 i2 t scope pos) 1 it' acc env) env >>= fun _ =>
          again (.compLoop (cmp3 elt x y z px py pz i0 i1 i2 t scope pos) 0 it acc env))) := by rfl
theorem turn3_1 : compTurn (cmp3 elt x y z px py pz i0 i1 i2 t scope pos) 1 it acc env = (standAt i1.pos >>= fun _ => pyNext it >>= fun r => match r with
      | none => pure (.done .next)
      | some v => letOwnedTupleGo (.Name y py) it v >>= fun _ => assign (.Name y py) env v >>= fun _ =>
        (eval i2 env >>= fun xv => standAt i2.pos >>= fun _ => foldedSetIterable i2 env xv >>= fun xv => holding [xv] (pyIter xv) >>= fun it' => runOwn (.compStart (cmp3 elt x y z px py pz i0 i1 i2 t scope pos) 2 it' acc env) env >>= fun _ =>
          again (.compLoop (cmp3 elt x y z px py pz i0 i1 i2 t scope pos) 1 it acc env))) := by rfl
theorem turn3_2 : compTurn (cmp3 elt x y z px py pz i0 i1 i2 t scope pos) 2 it acc env = (standAt i2.pos >>= fun _ => pyNext it >>= fun r => match r with
      | none => pure (.done .next)
      | some v => letOwnedTupleGo (.Name z pz) it v >>= fun _ => assign (.Name z pz) env v >>= fun _ =>
        (forIn [t] true fun c r => if r = true then do let ok ← isTrue c env (eval c env); pure (ForInStep.yield ok) else pure (ForInStep.yield r)) >>= fun ok =>
          if ok = true then (eval elt env >>= fun xv => call (.builtin "list.append") [acc, xv] >>= fun _ => pure ()) >>= fun _ => again (.compLoop (cmp3 elt x y z px py pz i0 i1 i2 t scope pos) 2 it acc env)
          else again (.compLoop (cmp3 elt x y z px py pz i0 i1 i2 t scope pos) 2 it acc env)) := by rfl
end
section
variable {prog : Program} {w : World} {A : Around} {E : Value → Shared → Prop} {s : Shared} {h₀ : Heap} {L : Addr} {m : Str → Option Value} {env : Env}
variable {elt : Expr} {x y z : Str} {px py pz : Pos} {i0 i1 i2 t : Expr} {scope : Scope} {pos : Pos} {it acc : Value} {R : Result → Shared → Prop}
theorem start3_0 {cenv : Env} (h0 : codeAny (model prog w) A (.compLoop (cmp3 elt x y z px py pz i0 i1 i2 t scope pos) 0 it acc cenv) R s)
    (h : wpAny (model prog w) A (pyIter it) (fun it' s' => codeAny (model prog w) A (.compLoop (cmp3 elt x y z px py pz i0 i1 i2 t scope pos) 0 it' acc cenv) R s') (notedBy (model prog w) A cenv fun x s' => R (.error x) s') s) :
    codeAny (model prog w) A (.compStart (cmp3 elt x y z px py pz i0 i1 i2 t scope pos) 0 it acc cenv) R s := by
  refine codeAny_of_tree ?_
  show wpAny _ _ ((compStart (cmp3 elt x y z px py pz i0 i1 i2 t scope pos) 0 it acc cenv).onRaise (fun x => do noteFrame x cenv; standAt theWindowsPlace)) _ _ s
  refine wpAny_notedAt ?_
  unfold compStart
  show wpAny _ _ (ask >>= _) _ _ s
  refine wpAny_bind (wpAny_askSetting (wpAny_ite ?_))
  split
  · first
      | exact wpAny_bind (wpAny_pure (wpAny_pure (And.intro rfl h0)))
      | exact wpAny_pure (And.intro rfl h0)
  · (refine wpAny_bind (wpAny_rule ?_); show wpAny _ _ (standAt i0.pos >>= _) _ _ s; exact wpAny_bind (wpAny_standAt (wpAny_bind (wpAny_mono h (fun it' s' h' => wpAny_pure (And.intro rfl h')) fun _ _ x => x))))
theorem start3_1 {cenv : Env} (h0 : codeAny (model prog w) A (.compLoop (cmp3 elt x y z px py pz i0 i1 i2 t scope pos) 1 it acc cenv) R s)
    (h : wpAny (model prog w) A (pyIter it) (fun it' s' => codeAny (model prog w) A (.compLoop (cmp3 elt x y z px py pz i0 i1 i2 t scope pos) 1 it' acc cenv) R s') (notedBy (model prog w) A cenv fun x s' => R (.error x) s') s) :
    codeAny (model prog w) A (.compStart (cmp3 elt x y z px py pz i0 i1 i2 t scope pos) 1 it acc cenv) R s := by
  refine codeAny_of_tree ?_
  show wpAny _ _ ((compStart (cmp3 elt x y z px py pz i0 i1 i2 t scope pos) 1 it acc cenv).onRaise (fun x => do noteFrame x cenv; standAt theWindowsPlace)) _ _ s
  refine wpAny_notedAt ?_
  unfold compStart
  show wpAny _ _ (ask >>= _) _ _ s
  refine wpAny_bind (wpAny_askSetting (wpAny_ite ?_))
  split
  · first
      | exact wpAny_bind (wpAny_pure (wpAny_pure (And.intro rfl h0)))
      | exact wpAny_pure (And.intro rfl h0)
  · (refine wpAny_bind (wpAny_rule ?_); show wpAny _ _ (standAt i1.pos >>= _) _ _ s; exact wpAny_bind (wpAny_standAt (wpAny_bind (wpAny_mono h (fun it' s' h' => wpAny_pure (And.intro rfl h')) fun _ _ x => x))))
theorem start3_2 {cenv : Env} (h0 : codeAny (model prog w) A (.compLoop (cmp3 elt x y z px py pz i0 i1 i2 t scope pos) 2 it acc cenv) R s)
    (h : wpAny (model prog w) A (pyIter it) (fun it' s' => codeAny (model prog w) A (.compLoop (cmp3 elt x y z px py pz i0 i1 i2 t scope pos) 2 it' acc cenv) R s') (notedBy (model prog w) A cenv fun x s' => R (.error x) s') s) :
    codeAny (model prog w) A (.compStart (cmp3 elt x y z px py pz i0 i1 i2 t scope pos) 2 it acc cenv) R s := by
  refine codeAny_of_tree ?_
  show wpAny _ _ ((compStart (cmp3 elt x y z px py pz i0 i1 i2 t scope pos) 2 it acc cenv).onRaise (fun x => do noteFrame x cenv; standAt theWindowsPlace)) _ _ s
  refine wpAny_notedAt ?_
  unfold compStart
  show wpAny _ _ (ask >>= _) _ _ s
  refine wpAny_bind (wpAny_askSetting (wpAny_ite ?_))
  split
  · first
      | exact wpAny_bind (wpAny_pure (wpAny_pure (And.intro rfl h0)))
      | exact wpAny_pure (And.intro rfl h0)
  · (refine wpAny_bind (wpAny_rule ?_); show wpAny _ _ (standAt i2.pos >>= _) _ _ s; exact wpAny_bind (wpAny_standAt (wpAny_bind (wpAny_mono h (fun it' s' h' => wpAny_pure (And.intro rfl h')) fun _ _ x => x))))
theorem start3_0i {cenv : Env} {I l : Addr} {j : Nat} (hli : s.heap.IsListIter I l j) (h0 : codeAny (model prog w) A (.compLoop (cmp3 elt x y z px py pz i0 i1 i2 t scope pos) 0 (.ref I) acc cenv) R s) :
    codeAny (model prog w) A (.compStart (cmp3 elt x y z px py pz i0 i1 i2 t scope pos) 0 (.ref I) acc cenv) R s := start3_0 h0 (wpAny_pyIter_listiter hli h0)
theorem start3_1i {cenv : Env} {I l : Addr} {j : Nat} (hli : s.heap.IsListIter I l j) (h0 : codeAny (model prog w) A (.compLoop (cmp3 elt x y z px py pz i0 i1 i2 t scope pos) 1 (.ref I) acc cenv) R s) :
    codeAny (model prog w) A (.compStart (cmp3 elt x y z px py pz i0 i1 i2 t scope pos) 1 (.ref I) acc cenv) R s := start3_1 h0 (wpAny_pyIter_listiter hli h0)
theorem start3_2i {cenv : Env} {I l : Addr} {j : Nat} (hli : s.heap.IsListIter I l j) (h0 : codeAny (model prog w) A (.compLoop (cmp3 elt x y z px py pz i0 i1 i2 t scope pos) 2 (.ref I) acc cenv) R s) :
    codeAny (model prog w) A (.compStart (cmp3 elt x y z px py pz i0 i1 i2 t scope pos) 2 (.ref I) acc cenv) R s := start3_2 h0 (wpAny_pyIter_listiter hli h0)
/-- the state between the turns of a level -/
noncomputable def LvSt (h₀ : Heap) (L : Addr) (m : Str → Option Value) (s : Shared) (C D : Addr) (P : (Str → Option Value) → Prop) (inv : List Value → Prop) (nw : Led) (pre : Led) (s' : Shared) : Prop :=
  ∃ h' tk mc oC ys, s' = { s with heap := h', toks := tk } ∧ Fr h₀ L h' m ∧ News h₀ L h' (pre ++ (C, oC) :: (D, lst ys) :: nw) ∧ NsObj oC mc ∧ P mc ∧ inv ys
theorem lvl {gens : List Comprehension} {k : Nat} {T : Sem Fin} {p0 : Pos} {n : Str} {pn : Pos} {I l C D : Addr} {lo : Obj} {its : List Value} {cl : List (Str × Addr)} {nw : Led} (hh : A.handled = none) (hkind : scope.kind = .function) (hx : scope.names.lookup n = some .local)
    (hturn : compTurn (.ListComp elt gens scope pos) k (.ref I) (.ref D) (compEnvC scope cl C env) = (standAt p0 >>= fun _ => pyNext (.ref I) >>= fun r => match r with
      | none => pure (.done .next)
      | some v => letOwnedTupleGo (.Name n pn) (.ref I) v >>= fun _ => assign (.Name n pn) (compEnvC scope cl C env) v >>= fun _ => T))
    (hl : (l, lo) ∈ nw) (ho : ListOb lo its.toArray) (hIC : @Ne Nat I C) (hID : @Ne Nat I D) (hCD : @Ne Nat C D) (off : ∀ p ∈ nw, p.1 ≠ I ∧ p.1 ≠ C ∧ p.1 ≠ D)
    (P : (Str → Option Value) → Prop) (hP : ∀ mc v, P mc → P (fun y => if y = n then some v else mc y)) (Inv : Nat → List Value → Prop)
    (turn : ∀ i v ys mc oC oI h tk (E' : Value → Shared → Prop), its[i]? = some v → Inv i ys → P mc → mc n = some v → NsObj oC mc → Fr h₀ L h m → News h₀ L h ((I, oI) :: (C, oC) :: (D, lst ys) :: nw) →
      wpAny (model prog w) A T (fun fin s' => fin = .again (.compLoop (.ListComp elt gens scope pos) k (.ref I) (.ref D) (compEnvC scope cl C env)) ∧ LvSt h₀ L m s C D P (Inv (i + 1)) nw [(I, oI)] s') E' { s with heap := h, toks := tk })
    (fin : ∀ s', LvSt h₀ L m s C D P (Inv its.length) nw [] s' → R (.ok .next) s')
    {oI : Obj} {mc : Str → Option Value} {oC : Obj} {ys : List Value} (hit : oI.cls = .type "list_iterator" ∧ oI.data = .fields #[.ref l, .int 0 0]) (F : Fr h₀ L s.heap m) (N : News h₀ L s.heap ((I, oI) :: (C, oC) :: (D, lst ys) :: nw)) (hC : NsObj oC mc) (hPm : P mc) (hI : Inv 0 ys) :
    codeAny (model prog w) A (.compLoop (.ListComp elt gens scope pos) k (.ref I) (.ref D) (compEnvC scope cl C env)) R s := by
  have hlI : @Ne Nat l I := (off _ hl).1
  have W := Walks.list (prog := prog) (w := w) (A := A) hh I l hlI its.toArray
  have hCL : C ≠ L := (N _ (.tail _ (.head _))).2.1
  have hC₀ : h₀.get? C = none := (N _ (.tail _ (.head _))).2.2
  have hIL : I ≠ L := (N _ (.head _)).2.1
  have hI₀ : h₀.get? I = none := (N _ (.head _)).2.2
  refine codeAny_loop rfl
    (fun nn s' => ∃ h' tk mc oC oI ys i, s' = { s with heap := h', toks := tk } ∧ h'.IsListIter I l i ∧ Fr h₀ L h' m ∧ News h₀ L h' ((I, oI) :: (C, oC) :: (D, lst ys) :: nw) ∧ NsObj oC mc ∧ P mc ∧ Inv i ys ∧ i ≤ its.length ∧ nn = its.length + 1 - i) (fun nn s' hs => ?_) (its.length + 1)
    ⟨s.heap, s.toks, mc, oC, oI, ys, 0, rfl, ⟨oI, (N _ (.head _)).1, hit⟩, F, N, hC, hPm, hI, Nat.zero_le _, rfl⟩
  obtain ⟨h', tk, mc', oC', oI', ys', i, rfl, hli, F', N', hC', hP', hI', hi, rfl⟩ := hs
  show wpAny _ A ((compTurn (.ListComp elt gens scope pos) k (.ref I) (.ref D) (compEnvC scope cl C env)).onRaise (fun x => do noteFrame x (compEnvC scope cl C env); theTreesLotGoes x)) _ _ _
  refine wpAny_noted ?_
  rw [hturn]
  refine wpAny_bind (wpAny_standAt (wpAny_bind ?_))
  have hlist : h'.IsList l its.toArray := ho.at (N' _ (.tail _ (.tail _ (.tail _ hl)))).1
  have N'' : News h₀ L h' ((D, lst ys') :: nw) := fun q hq => N' q (.tail _ (.tail _ hq))
  have offD : ∀ p ∈ (D, lst ys') :: nw, p.1 ≠ I := fun p hp => by
    rcases List.mem_cons.mp hp with rfl | hp
    · exact fun q => hID q.symm
    · exact (off p hp).1
  by_cases hlt : i < its.length
  · refine W.item i _ _ _ (by simpa using hlt) ⟨hli, hlist⟩ fun v h₁ tk₁ hPv hst₁ hk₁ => ?_
    refine wpAny_bind (wpAny_of_eq (show letOwnedTupleGo (.Name n pn) (.ref I) v = pure () from rfl) (wpAny_bind ?_))
    have zC := (N' _ (.tail _ (.head _))).1
    have zC₁ : h₁.get? C = some oC' := hk₁ _ _ (fun q => hIC (List.mem_singleton.mp q).symm) zC
    refine wpAny_assign_Name (wpAny_storeName_local (lookup_relabel_local hx) (hC'.ns zC₁) (fun h₃ hn₃ hs₃ => ?_) (by simp [compEnvC, relabel, hkind]))
    have hst₃ : h₃.IsListIter I l (i + 1) := hst₁.1.at fun o e => hs₃.extBut I o (fun q => hIC q) e
    obtain ⟨oI₃, heI, hoI⟩ := hst₃
    obtain ⟨oC₃, heC, hoC⟩ := ns_obj hn₃
    have F₃ : Fr h₀ L h₃ m := (fr_but F' hk₁ (Ne.symm hIL) hI₀).change hs₃ hCL hC₀
    have N₂ : News h₀ L h₁ ((D, lst ys') :: nw) := news_but N'' hk₁ offD
    have N₃ : News h₀ L h₃ ((I, oI₃) :: (C, oC₃) :: (D, lst ys') :: nw) := fun p hp => by
      rcases List.mem_cons.mp hp with rfl | hp
      · exact ⟨heI, hIL, hI₀⟩
      rcases List.mem_cons.mp hp with rfl | hp
      · exact ⟨heC, hCL, hC₀⟩
      · have z := N₂ p hp
        refine ⟨hs₃.extBut _ _ ?_ z.1, z.2⟩
        rcases List.mem_cons.mp hp with rfl | hp
        · exact fun q => hCD q.symm
        · exact (off p hp).2.1
    refine wpAny_mono (turn i v ys' _ oC₃ oI₃ h₃ _ _ (by simpa using hPv) hI' (hP _ v hP') (by simp) hoC F₃ N₃) (fun fin' s₄ h₄ => ?_) fun _ _ e => e
    obtain ⟨rfl, h₄, tk₄, mc₄, oC₄, ys₄, rfl, F₄, N₄, hC₄, hP₄, hI₄⟩ := h₄
    exact ⟨rfl, its.length + 1 - (i + 1), by omega, h₄, tk₄, mc₄, oC₄, oI₃, ys₄, i + 1, rfl, ⟨oI₃, (N₄ _ (.head _)).1, hoI⟩, F₄, N₄, hC₄, hP₄, hI₄, hlt, rfl⟩
  · obtain rfl : i = its.length := by omega
    have hst2 : h'.IsListIter I l its.toArray.size ∧ h'.IsList l its.toArray := ⟨by simpa using hli, hlist⟩
    refine W.done _ _ _ hst2 fun h₂ tk₂ hk₂ => wpAny_pure ?_
    have zC₂ : h₂.get? C = some oC' := hk₂ _ _ (fun q => hIC (List.mem_singleton.mp q).symm) (N' _ (.tail _ (.head _))).1
    refine fin _ ⟨h₂, tk₂, mc', oC', ys', rfl, fr_but F' hk₂ (Ne.symm hIL) hI₀, fun p hp => ?_, hC', hP', hI'⟩
    rcases List.mem_cons.mp hp with rfl | hp
    · exact ⟨zC₂, hCL, hC₀⟩
    · exact news_but N'' hk₂ offD p hp
theorem open3 {gens : List Comprehension} {cl : List (Str × Addr)} {l : Addr} {lo : Obj} {its : List Value} {news : Led} {RR : Value → Addr → Result → Shared → Prop} (F : Fr h₀ L s.heap m) (N : News h₀ L s.heap news) (hl : (l, lo) ∈ news) (ho : ListOb lo its.toArray)
    (hcell : ∀ y ∈ scope.names, y.2 ≠ .cell) (hkind : scope.kind = .function)
    (h : ∀ I C D oI oC mc h₁ tk₁, (oI.cls = .type "list_iterator" ∧ oI.data = .fields #[.ref l, .int 0 0]) → NsObj oC mc → Fr h₀ L h₁ m → News h₀ L h₁ ((I, oI) :: (C, oC) :: (D, lst []) :: news) → @Ne Nat I C → @Ne Nat I D → @Ne Nat C D → (∀ p ∈ news, p.1 ≠ I ∧ p.1 ≠ C ∧ p.1 ≠ D) →
      codeAny (model prog w) A (.compStart (.ListComp elt gens scope pos) 0 (.ref I) (.ref D) (compEnvC scope cl C env)) (RR (.ref D) C) { s with heap := h₁, toks := tk₁ }) :
    wpAny (model prog w) A (pyIter (.ref l)) (fun it s₂ => wpAny (model prog w) A (newList []) (fun acc s₃ => wpAny (model prog w) A (newFunctionEnv scope env.globals cl [] env.qual none .none (some env)) (fun cenv s₄ =>
      codeAny (model prog w) A (.compStart (.ListComp elt gens scope pos) 0 it acc { cenv with scope := relabel scope env }) (RR acc cenv.locals) s₄) E s₃) E s₂) E s := by
  refine wpAny_pyIter_list (ho.at (N _ hl).1) ?_
  refine wpAny_newObj_type (wpAny_newFunctionEnv hcell (by intro y hy; simp at hy) (fun h₁ hns₁ hsb₁ => ?_) hkind)
  dsimp only at hns₁ hsb₁ ⊢
  generalize hH1 : s.heap.push { cls := .type "list_iterator", dict := none, data := .fields #[.ref l, .int 0 0] } = H1 at hns₁ hsb₁ ⊢
  generalize hH2 : H1.push { cls := .type "list", dict := none, data := .seq ([] : List Value).toArray } = H2 at hns₁ hsb₁ ⊢
  have s1 : H1.objs.size = s.heap.objs.size + 1 := by rw [← hH1, Heap.size_push]
  have s2 : H2.objs.size = H1.objs.size + 1 := by rw [← hH2, Heap.size_push]
  have old1 : ∀ b o, s.heap.get? b = some o → H2.get? b = some o := fun b o e => by rw [← hH2]; refine Heap.get?_push_of_some _ ?_; rw [← hH1]; exact Heap.get?_push_of_some _ e
  have old : ∀ b o, s.heap.get? b = some o → h₁.get? b = some o := fun b o e => hsb₁.extBut b o (fun q => by have h5 := Heap.lt_size e; rw [q] at h5; exact absurd (show (H2.objs.size : Nat) < s.heap.objs.size from h5) (by rw [s2, s1]; omega)) (Heap.get?_push_of_some _ (old1 b o e))
  have hI : h₁.get? s.heap.objs.size = some { cls := .type "list_iterator", dict := none, data := .fields #[.ref l, .int 0 0] } :=
    hsb₁.extBut _ _ (by rw [s2, s1]; exact Nat.ne_of_lt (by omega)) (Heap.get?_push_of_some _ (by rw [← hH2]; refine Heap.get?_push_of_some _ ?_; rw [← hH1]; exact Heap.get?_push_size _ rfl))
  have hD : h₁.get? H1.objs.size = some (lst []) := hsb₁.extBut _ _ (by rw [s2]; exact Nat.ne_of_lt (by omega)) (Heap.get?_push_of_some _ (by rw [← hH2]; exact Heap.get?_push_size _ rfl))
  have fresh : ∀ a, s.heap.objs.size ≤ a → h₀.get? a = none := fun a ha => by
    cases e : h₀.get? a with
    | none => rfl
    | some o' => exact absurd (Heap.lt_size (F.keep a o' e)) (Nat.not_lt.mpr ha)
  have hLlt : L < s.heap.objs.size := F.ns.lt
  obtain ⟨oC, heC, hoC⟩ := ns_obj hns₁
  refine h s.heap.objs.size H2.objs.size H1.objs.size { cls := .type "list_iterator", dict := none, data := .fields #[.ref l, .int 0 0] } oC _ h₁ _ ⟨rfl, rfl⟩ hoC (F.keeps old) (fun p hp => ?_) (by rw [s2, s1]; omega) (by rw [s1]; omega) (by rw [s2]; omega) (fun p hp => ?_)
  · rcases List.mem_cons.mp hp with rfl | hp
    · exact ⟨hI, fun q => absurd hLlt (by rw [← q]; exact Nat.lt_irrefl _), fresh _ (Nat.le_refl _)⟩
    rcases List.mem_cons.mp hp with rfl | hp
    · exact ⟨heC, fun q => absurd hLlt (by rw [← q, s2, s1]; exact Nat.not_lt.mpr (by omega)), fresh _ (by rw [s2, s1]; omega)⟩
    rcases List.mem_cons.mp hp with rfl | hp
    · exact ⟨hD, fun q => absurd hLlt (by rw [← q, s1]; exact Nat.not_lt.mpr (by omega)), fresh _ (by rw [s1]; omega)⟩
    · exact ⟨old _ _ (N p hp).1, (N p hp).2⟩
  · have h5 : @LT.lt Nat _ p.1 s.heap.objs.size := Heap.lt_size (N p hp).1
    refine ⟨Nat.ne_of_lt h5, Nat.ne_of_lt (by rw [s2, s1]; omega), Nat.ne_of_lt (by rw [s1]; omega)⟩
/-- an iterator over a list of the ledger -/
theorem iter_push {l : Addr} {lo : Obj} {its : List Value} {news : Led} {Q : Value → Shared → Prop} (F : Fr h₀ L s.heap m) (N : News h₀ L s.heap news) (hl : (l, lo) ∈ news) (ho : ListOb lo its.toArray)
    (h : ∀ I oI h', (oI.cls = .type "list_iterator" ∧ oI.data = .fields #[.ref l, .int 0 0]) → Fr h₀ L h' m → News h₀ L h' ((I, oI) :: news) → (∀ p ∈ news, p.1 ≠ I) → Q (.ref I) { s with heap := h' }) :
    wpAny (model prog w) A (pyIter (.ref l)) Q E s := by
  refine wpAny_pyIter_list (ho.at (N _ hl).1) ?_
  exact h _ _ _ ⟨rfl, rfl⟩ (F.push _) (News.push F N _ rfl) fun p hp => Nat.ne_of_lt (Heap.lt_size (N p hp).1)
end
noncomputable def cLeft : Expr → Expr
  | .Compare l _ _ _ => l
  | _ => default
noncomputable def iTest : Stmt → Expr
  | .If t _ _ _ => t
  | _ => default
noncomputable def tripleE : Expr := cLeft (iTest (dB2.getD 3 default))
noncomputable def Good (a b c : Int) : Prop := a ≠ b ∧ a ≠ c ∧ b ≠ c
theorem rulesV22x1 : True := by
  (k_with "pyIter ref" => (k_here; refine Stop.out ?_))
  (k_with "subscriptTail" => (k_here; (with_reducible show wpAny _ _ (subscriptTail _ _ (Value.ref _) (Value.int _ _)) _ _ _); k_dflt (first | (refine' sub_made ?N ?T ?h0 ?_; (case N => k_asm); (case T => walk_at "mem in"); (case h0 => decide); (try simp only [if_true, show ¬ ((1 : Int) = 0) by decide, show ¬ ((2 : Int) = 0) by decide, show ¬ ((2 : Int) = 1) by decide, if_false])))))
  trivial
noncomputable def AtV (v : Value) (s : Shared) (h : Heap) (xv : Value) (s' : Shared) : Prop := xv = v ∧ ∃ tk', s' = { s with heap := h, toks := tk' }
theorem at_of {v : Value} {s : Shared} {h : Heap} {tk' : Nat} : AtV v s h v { s with heap := h, toks := tk' } := ⟨rfl, _, rfl⟩
noncomputable def AtB (b : Prop) (s : Shared) (h : Heap) (ok : Bool) (s' : Shared) : Prop := (ok = true ↔ b) ∧ ∃ tk', s' = { s with heap := h, toks := tk' }
theorem atB_of {b : Prop} {s : Shared} {h : Heap} {tk' : Nat} {ok : Bool} (e : ok = true ↔ b) : AtB b s h ok { s with heap := h, toks := tk' } := ⟨e, _, rfl⟩
noncomputable def AtI (s : Shared) (h : Heap) (xv : Value) (s' : Shared) : Prop := ∃ u tk', xv = .int 1 u ∧ s' = { s with heap := h, toks := tk' }
theorem ex_take {p : List Int} {i : Nat} {a : Int} (h : p[i]? = some a) (q : Int → Prop) : (∃ b ∈ p.take (i + 1), q b) ↔ (∃ b ∈ p.take i, q b) ∨ q a := by
  obtain ⟨hl, he⟩ := List.getElem?_eq_some_iff.mp h
  rw [List.take_succ_eq_append_getElem hl, he]
  constructor
  · rintro ⟨b, hb, hq⟩
    rcases List.mem_append.mp hb with hb | hb
    · exact .inl ⟨b, hb, hq⟩
    · exact .inr (List.mem_singleton.mp hb ▸ hq)
  · rintro (⟨b, hb, hq⟩ | hq)
    · exact ⟨b, List.mem_append_left _ hb, hq⟩
    · exact ⟨a, List.mem_append_right _ (List.mem_singleton.mpr rfl), hq⟩
set_option maxHeartbeats 1000000 in
theorem triple_eval {w : World} {p : Program} {loose : List Str} {mean : ExcName → Option Value} {mg mb : Str → Option Value} {dp un : Nat} {gd : Option (List Code)} {outer : List Env} {A₀ : Around} {base h₀ : Heap} {L : Addr} {m : Str → Option Value} {s : Shared} {Q E : VP} {news : Led} {ot : Obj} {tl l0 l1 l2 : Addr} {k : Nat} {y0 y1 y2 : List Value} {p0 p1 p2 : List Int}
    (B : Below A₀ base outer h₀) (F : Fr h₀ L s.heap m) (X : (K w.params).In h₀) (N : News h₀ L s.heap news) (T₀ : Top p loose mean mg mb h₀) (hd : dp + 60 < recursionLimit) (hu : un + 600 < cLine)
    (hot : (L + 1 + 1, ot) ∈ news) (dt : ot.data = .cell (some (.ref tl))) (htl : (tl, PySem.W.listOf #[Value.ref l0, .ref l1, .ref l2] k) ∈ news) (hl0 : (l0, lst y0) ∈ news) (hl1 : (l1, lst y1) ∈ news) (hl2 : (l2, lst y2) ∈ news) (hy0 : IntsAre y0 p0) (hy1 : IntsAre y1 p1) (hy2 : IntsAre y2 p2)
    (hp0 : p0.length ≤ 3) (hp1 : p1.length ≤ 3) (hp2 : p2.length ≤ 3)
    (hQ : ∀ D h' tk ys ns, IntsAre ys ns → (ys ≠ [] ↔ ∃ a ∈ p0, ∃ b ∈ p1, ∃ c ∈ p2, Good a b c) → Fr h₀ L h' m → News h₀ L h' ((D, lst ys) :: news) → (∀ q ∈ news, q.1 ≠ D) → Q (.ref D) { s with heap := h', toks := tk }) :
    wpAny (model PySem.Challenge.rw_wk0033_01.row.prog w) { handled := none, depth := dp, frames := some (envD L :: outer), guards := gd, units := un } (eval tripleE (envD L)) Q E s := by
  revert X; k_fill; intro X
  with_unfolding_all change wpAny _ _ (eval (Expr.ListComp (Expr.Constant _ _ _) [⟨Expr.Name _ _, Expr.Subscript (Expr.Name _ _) (Expr.Constant _ _ _) _, [], _⟩, ⟨Expr.Name _ _, Expr.Subscript (Expr.Name _ _) (Expr.Constant _ _ _) _, [], _⟩, ⟨Expr.Name _ _, Expr.Subscript (Expr.Name _ _) (Expr.Constant _ _ _) _, [Expr.BoolOp _ _ _], _⟩] _ _) _) _ _ _
  rw [eval_ListComp]
  refine wpAny_comprehension_free (use := none) rfl (by intro _; rfl) (by with_unfolding_all rfl) rfl (by decide) ?_
  with_unfolding_all change wpAny _ _ (eval (Expr.Subscript (Expr.Name _ _) (Expr.Constant _ _ _) _) _) _ _ _
  k_steps
  unfold Stop
  refine open3 (by k_asm) (by k_asm) hl0 (lst_ob y0) (by decide) (by rfl) ?_
  intro I0 C D oI0 oC0 mc0 h1 tk1 hit0 hC0 F1 N1 hIC hID hCD off0
  refine start3_0i ⟨oI0, (N1 _ (.head _)).1, hit0⟩ ?_
  refine lvl (n := Str.ofString "x") rfl rfl (by rfl) (turn3_0 ..) hl0 (lst_ob y0) hIC hID hCD off0 (fun _ => True) (fun _ _ _ => trivial) (fun i ys => (ys ≠ [] ↔ ∃ a ∈ p0.take i, ∃ b ∈ p1, ∃ c ∈ p2, Good a b c) ∧ ys.length ≤ 9 * i ∧ ∃ ns, IntsAre ys ns) ?_ ?_ hit0 F1 N1 hC0 trivial ⟨by simp, Nat.zero_le _, [], .nil⟩
  · intro i v ys mc oC oI h tk E1 hv hinv _ hmx hC F2 N2
    obtain ⟨a, ta, rfl, ha⟩ := hy0.at i v hv
    refine wpAny_bind (wpAny_mono (Q := AtV (.ref l1) s h) ?_ (fun xv s' hx' => ?_) fun _ _ e => e)
    · k_steps
      exact at_of
    · obtain ⟨rfl, tk1, rfl⟩ := hx'
      refine wpAny_bind (wpAny_standAt (wpAny_bind (wpAny_of_eq (by rfl) (wpAny_bind (wpAny_holding (iter_push F2 N2 (.tail _ (.tail _ (.tail _ hl1))) (lst_ob y1) fun I1 oI1 h2 hit1 F3 N3 off1 => ?_))))))
      refine wpAny_bind (wpAny_runOwn ?_)
      refine start3_1i ⟨oI1, (N3 _ (.head _)).1, hit1⟩ ?_
      have q1 : @Ne Nat I0 I1 := off1 _ (.head _)
      have q2 : @Ne Nat C I1 := off1 _ (.tail _ (.head _))
      have q3 : @Ne Nat D I1 := off1 _ (.tail _ (.tail _ (.head _)))
      have off1' : ∀ p ∈ (I0, oI) :: news, p.1 ≠ I1 ∧ p.1 ≠ C ∧ p.1 ≠ D := fun p hp => by
        rcases List.mem_cons.mp hp with rfl | hp
        · exact ⟨q1, hIC, hID⟩
        · exact ⟨off1 _ (.tail _ (.tail _ (.tail _ hp))), (off0 p hp).2⟩
      refine lvl (n := Str.ofString "y") (nw := (I0, oI) :: news) rfl rfl (by rfl) (turn3_1 ..) (.tail _ hl1) (lst_ob y1) q2.symm q3.symm hCD off1' (fun mc => mc (Str.ofString "x") = some (.int a ta)) (fun mc v h => by show (if Str.ofString "x" = Str.ofString "y" then _ else _) = _; rw [if_neg (by decide)]; exact h)
        (fun j zs => (zs ≠ [] ↔ ys ≠ [] ∨ ∃ b ∈ p1.take j, ∃ c ∈ p2, Good a b c) ∧ zs.length ≤ ys.length + 3 * j ∧ ∃ ns, IntsAre zs ns) ?_ ?_ hit1 F3 (fun q hq => N3 q (by simp only [List.mem_cons] at hq ⊢; rcases hq with h | h | h | h | h <;> simp only [h, true_or, or_true])) hC hmx ⟨by simp, Nat.le_refl _, hinv.2.2⟩
      · intro j v2 zs mc2 oC2 oJ h5 tk5 E2 hv2 hinv2 hPx hmy hC2 F4 N4
        obtain ⟨b, tb, rfl, hb⟩ := hy1.at j v2 hv2
        refine wpAny_bind (wpAny_mono (Q := AtV (.ref l2) s h5) ?_ (fun xv s' hx' => ?_) fun _ _ e => e)
        · k_steps
          exact at_of
        · obtain ⟨rfl, tk6, rfl⟩ := hx'
          refine wpAny_bind (wpAny_standAt (wpAny_bind (wpAny_of_eq (by rfl) (wpAny_bind (wpAny_holding (iter_push F4 N4 (.tail _ (.tail _ (.tail _ (.tail _ hl2)))) (lst_ob y2) fun I2 oI2 h6 hit2 F5 N5 off2 => ?_))))))
          refine wpAny_bind (wpAny_runOwn ?_)
          refine start3_2i ⟨oI2, (N5 _ (.head _)).1, hit2⟩ ?_
          have r1 : @Ne Nat I1 I2 := off2 _ (.head _)
          have r2 : @Ne Nat C I2 := off2 _ (.tail _ (.head _))
          have r3 : @Ne Nat D I2 := off2 _ (.tail _ (.tail _ (.head _)))
          have r4 : @Ne Nat I0 I2 := off2 _ (.tail _ (.tail _ (.tail _ (.head _))))
          have off2' : ∀ p ∈ (I1, oJ) :: (I0, oI) :: news, p.1 ≠ I2 ∧ p.1 ≠ C ∧ p.1 ≠ D := fun p hp => by
            rcases List.mem_cons.mp hp with rfl | hp
            · exact ⟨r1, q2.symm, q3.symm⟩
            rcases List.mem_cons.mp hp with rfl | hp
            · exact ⟨r4, hIC, hID⟩
            · exact ⟨off2 _ (.tail _ (.tail _ (.tail _ (.tail _ hp)))), (off0 p hp).2⟩
          refine lvl (n := Str.ofString "z") (nw := (I1, oJ) :: (I0, oI) :: news) rfl rfl (by rfl) (turn3_2 ..) (.tail _ (.tail _ hl2)) (lst_ob y2) r2.symm r3.symm hCD off2' (fun mc => mc (Str.ofString "x") = some (.int a ta) ∧ mc (Str.ofString "y") = some (.int b tb))
            (fun mc v h => ⟨by show (if Str.ofString "x" = Str.ofString "z" then _ else _) = _; rw [if_neg (by decide)]; exact h.1, by show (if Str.ofString "y" = Str.ofString "z" then _ else _) = _; rw [if_neg (by decide)]; exact h.2⟩)
            (fun j ws => (ws ≠ [] ↔ zs ≠ [] ∨ ∃ c ∈ p2.take j, Good a b c) ∧ ws.length ≤ zs.length + j ∧ ∃ ns, IntsAre ws ns) ?_ ?_ hit2 F5 (fun q hq => N5 q (by simp only [List.mem_cons] at hq ⊢; rcases hq with h | h | h | h | h | h <;> simp only [h, true_or, or_true])) hC2 ⟨hPx, hmy⟩ ⟨by simp, Nat.le_refl _, hinv2.2.2⟩
          · intro g v3 ws mc3 oC3 oK h7 tk7 E3 hv3 hinv3 hPxy hmz hC3 F6 N6
            obtain ⟨c, tc, rfl, hc⟩ := hy2.at g v3 hv3
            obtain ⟨hPx3, hPy3⟩ := hPxy
            refine wpAny_bind (wpAny_tests_one (wpAny_mono (Q := AtB (Good a b c) s h7) ?_ (fun ok s' hx' => ?_) fun _ _ e => e))
            · k_steps
              all_goals first
                | exact atB_of ⟨fun _ => ⟨by omega, by omega, by omega⟩, fun _ => rfl⟩
                | exact atB_of ⟨fun h => (nomatch h), fun ⟨e1, e2, e3⟩ => by exfalso; omega⟩
            · obtain ⟨he, tk8, rfl⟩ := hx'
              by_cases hok : ok = true
              · rw [if_pos hok]
                refine wpAny_bind (wpAny_bind (wpAny_mono (Q := AtI s h7) ?_ (fun xv s' hx' => ?_) fun _ _ e => e))
                · k_steps
                  exact ⟨_, _, rfl, rfl⟩
                obtain ⟨u, tk9, rfl, rfl⟩ := hx'
                refine wpAny_bind (append_K (D := D) (its := ws.toArray) (n := ws.length) F6 N6 (.tail r3.symm (.tail hCD (.head (fun p hp => (off2' p hp).2.2)))) (fun h8 F7 N7 => wpAny_pure ?_) ?_)
                · refine wpAny_pure ⟨rfl, h8, tk9, _, oC3, ws ++ [.int 1 u], rfl, F7, ?_, hC3, ⟨hPx3, hPy3⟩, ⟨fun _ => ?_, fun _ => by simp⟩, ?_, ?_⟩
                  · rw [← lst_snoc]; exact N7
                  · exact .inr ((ex_take hc _).mpr (.inr (he.mp hok)))
                  · rw [List.length_append]; have := hinv3.2.1; simp only [List.length_singleton]; omega
                  · obtain ⟨ns, hns⟩ := hinv3.2.2; exact ⟨ns ++ [1], hns.append (.cons _ _ .nil)⟩
                · rw [List.size_toArray]
                  have b0 := (List.getElem?_eq_some_iff.mp ha).1
                  have b1 := (List.getElem?_eq_some_iff.mp hb).1
                  have b2 := (List.getElem?_eq_some_iff.mp hc).1
                  have b3 := hinv3.2.1
                  have b4 := hinv2.2.1
                  have b5 := hinv.2.1
                  exact Nat.le_trans (show ws.length ≤ 100 by omega) (by decide)
              · rw [if_neg hok]
                refine wpAny_pure ⟨rfl, h7, tk8, _, oC3, ws, rfl, F6, N6, hC3, ⟨hPx3, hPy3⟩, ?_, ?_, hinv3.2.2⟩
                · rw [hinv3.1, ex_take hc]
                  have : ¬ Good a b c := fun q => hok (he.mpr q)
                  simp only [this, or_false]
                · have := hinv3.2.1; omega
          · intro s' hs'
            obtain ⟨h9, tk9, mc9, oC9, ws, rfl, F9, N9, hC9, hP9, hi9, hb9, hns9⟩ := hs'
            refine wpAny_pure ⟨rfl, h9, tk9, mc9, oC9, ws, rfl, F9, fun q hq => N9 q (by simp only [List.mem_cons, List.cons_append, List.nil_append] at hq ⊢; rcases hq with h | h | h | h | h <;> simp only [h, true_or, or_true]), hC9, hP9.1, ?_, ?_, hns9⟩
            · have ht : p2.take y2.length = p2 := List.take_of_length_le (by rw [hy2.length]; exact Nat.le_refl _)
              rw [ht] at hi9
              rw [hi9, hinv2.1, ex_take hb]
              exact or_assoc
            · have b2 := hy2.length
              have := hinv2.2.1
              omega
      · intro s' hs'
        obtain ⟨h9, tk9, mc9, oC9, zs, rfl, F9, N9, hC9, hP9, hi9, hb9, hns9⟩ := hs'
        refine wpAny_pure ⟨rfl, h9, tk9, mc9, oC9, zs, rfl, F9, fun q hq => N9 q (by simp only [List.mem_cons, List.cons_append, List.nil_append] at hq ⊢; rcases hq with h | h | h | h <;> simp only [h, true_or, or_true]), hC9, trivial, ?_, ?_, hns9⟩
        · have ht : p1.take y1.length = p1 := List.take_of_length_le (by rw [hy1.length]; exact Nat.le_refl _)
          rw [ht] at hi9
          rw [hi9, hinv.1, ex_take ha]
        · have b2 := hy1.length
          have := hinv.2.1
          omega
  · intro s' hs'
    obtain ⟨h9, tk9, mc9, oC9, ys, rfl, F9, N9, hC9, hP9, hi9, hb9, hns9⟩ := hs'
    have hCL : C ≠ L := (N9 _ (.head _)).2.1
    have hC₀ : h₀.get? C = none := (N9 _ (.head _)).2.2
    refine ⟨mc9, hC9.ns (N9 _ (.head _)).1, fun h'' hs'' => ?_⟩
    obtain ⟨ns9, hns9⟩ := hns9
    refine hQ D h'' tk9 ys ns9 hns9 ?_ (F9.change hs'' hCL hC₀) (fun p hp => ?_) (fun q hq => (off0 q hq).2.2)
    · have ht : p0.take y0.length = p0 := List.take_of_length_le (by rw [hy0.length]; exact Nat.le_refl _)
      rw [ht] at hi9
      exact hi9
    · refine ⟨hs''.extBut _ _ ?_ (N9 p (.tail _ hp)).1, (N9 p (.tail _ hp)).2⟩
      rcases List.mem_cons.mp hp with rfl | hp
      · exact fun q => hCD q.symm
      · exact (off0 p hp).2.1
end
section
open PySem PySem.W PySem.Calls PySem.Spec PyProof.Rows PyProof.Rows.LCg PyProof.Rows.LCt
theorem rulesV21x0 : True := by
  k_with_none
  (k_with "mem in" => first | assumption | exact List.Mem.head _ | (refine List.Mem.tail _ ?_; walk_at "mem in"))
  (k_with "k ne" => (refine neN ?_; (try dsimp only); first | (with_reducible assumption) | exact neS (by with_reducible assumption) | omega))
  (k_with "k all" => (refine all_ne (by assumption) ?_; (try dsimp only); omega))
  (k_with "k mem" => assumption)
  (k_with "enter C" => (refine' code_defC ?k1 ?k2 ?k3 ?k4 ?k5 ?kA ?kF ?kK ?k6 ?k7 ?k8 ?k9 ?kB ?kD ?_ ?c2 ?c3 ?c4; (case kA => exact rfl); (case kF => exact rfl); (case kK => assumption); (case k1 => k_asm); (case k2 => k_asm); (case k3 => k_asm); (case k4 => k_asm); (case k5 => k_asm); (case k6 => k_is); (case k7 => k_is); (case k8 => ktr_room); (case k9 => exact BindsTo.of_eq rfl); (case kB => exact rfl); (case kD => decide +kernel); (case c2 => exact rfl); (case c3 => exact rfl); (case c4 => exact rfl); k_whole; intro gz9 Lz9 hz9 tkz9 cellsz9 FGz9 Fz9 Nz9 Yz9 Bz9 Xz9 Tz9 l1z9; k_cells Yz9; (try simp only [List.cons_append, List.nil_append] at Nz9); (try dsimp only); (try k_lift Bz9); (try k_fold)))
  (k_with "k all" => assumption)
  trivial
/-- the four cells (need, worth, takes, blocks), whatever they hold -/
noncomputable def Cells4 (rest : Led) (cn cw ct cb : Addr) (news : Led) : Prop :=
  ∃ on ow ot ob vn vw vt vb, news = (cn, on) :: (cw, ow) :: (ct, ot) :: (cb, ob) :: rest ∧ on.data = .cell vn ∧ ow.data = .cell vw ∧ ot.data = .cell vt ∧ ob.data = .cell vb
noncomputable def JD1 (ta : Addr) (T : Fin 3 → Int → Int → Int) (n0 : Led) (i : Nat) (m₁ : Str → Option Value) (news₁ : Led) : Prop := match n0 with
  | (l, lo) :: (cn, _) :: (cw, _) :: (ct, _) :: (cb, _) :: rest => ∃ n1 fv sv, news₁ = (l, lo) :: n1 ∧ Cells4 rest cn cw ct cb n1 ∧ m₁ = mD ta fv sv ∧ ∀ k < i, ∀ f, firsts[k]? = some f → ∀ s, f ≤ s → s ≤ 5 → ¬ Cut T f s
  | _ => False
noncomputable def JD2 (ta : Addr) (T : Fin 3 → Int → Int → Int) (f : Int) (tf : Tok) (n0 : Led) (i : Nat) (m₁ : Str → Option Value) (news₁ : Led) : Prop := match n0 with
  | e1 :: (l, lo) :: (cn, _) :: (cw, _) :: (ct, _) :: (cb, _) :: rest => ∃ n1 sv, news₁ = e1 :: (l, lo) :: n1 ∧ Cells4 rest cn cw ct cb n1 ∧ m₁ = mD ta (some (.int f tf)) sv ∧ ∀ s, f ≤ s → s < f + i → ¬ Cut T f s
  | _ => False
theorem takesIn_snoc {T : Fin 3 → Int → Int → Int} {f s : Int} {more : Led} {its ys : List Value} {i : Nat} {D : Addr} {kf : Fin 3} (h : TakesIn T f s more its i) (hl : its.length = i) (hk : kf.val = i) (hys : IntsAre ys (takesOf (T kf) f s)) :
    TakesIn T f s ((D, lst ys) :: more) (its ++ [Value.ref D]) (i + 1) := by
  intro k hki
  rcases Nat.lt_or_ge k.val i with hlt | hge
  · obtain ⟨lk, zs, a, b, c⟩ := h k hlt
    exact ⟨lk, zs, by rw [List.getElem?_append_left (by omega)]; exact a, .tail _ b, c⟩
  · have e : k = kf := Fin.ext (by omega)
    subst e
    exact ⟨D, ys, by rw [List.getElem?_append_right (by omega), hl, hk, Nat.sub_self]; rfl, .head _, hys⟩
theorem worth_turn {T : Fin 3 → Int → Int → Int} {f s : Int} {mf m₂ : Str → Option Value} {h₀ h' : Heap} {L I tl cn cw D : Addr} {io o0 on ow on0 ow0 ot : Obj} {eB e3 e2 e1 eI2 eI el ec3 ec4 : Addr × Obj} {on3 ow3 : Obj} {rest more : Led} {its ys : List Value} {k i tk : Nat} {kf : Fin 3} {vn vw : Option Value} {s₁ : Shared} {Q : Flow → Shared → Prop}
    (F : Fr h₀ L h' m₂) (N : News h₀ L h' ((D, lst ys) :: (I, io) :: (tl, PySem.W.listOf (its.toArray.push (Value.ref D)) (k + 1)) :: eB :: e3 :: e2 :: e1 :: eI2 :: eI :: el :: (cn, on) :: (cw, ow) :: ec3 :: ec4 :: more))
    (dn : on.data = .cell vn) (dw : ow.data = .cell vw) (hn : ∀ p ∈ (tl, ot) :: eB :: e3 :: e2 :: e1 :: eI2 :: eI :: el :: (cn, on3) :: (cw, ow3) :: ec3 :: ec4 :: more, p.1 ≠ I)
    (hsub : ∀ q ∈ rest, q ∈ more) (hm1 : ∀ p ∈ more, p.1 ≠ tl) (hm2 : ∀ p ∈ more, p.1 ≠ cn) (hm3 : ∀ p ∈ more, p.1 ≠ cw) (hil : its.length = i) (htk : TakesIn T f s more its i) (hkf : kf.val = i) (hys : IntsAre ys (takesOf (T kf) f s))
    (hD0 : @Ne Nat D I) (hD1 : @Ne Nat D tl) (hD2 : @Ne Nat D cn) (hD3 : @Ne Nat D cw) (hmf : m₂ = mf) :
    StepW h₀ L I io (JD3 T f s mf ((tl, o0) :: eB :: e3 :: e2 :: e1 :: eI2 :: eI :: el :: (cn, on0) :: (cw, ow0) :: ec3 :: ec4 :: rest) (i + 1)) s₁ Q .next { s₁ with heap := h', toks := tk } := by
  have hp : its.toArray.push (Value.ref D) = (its ++ [Value.ref D]).toArray := by simp
  rw [hp] at N
  refine step_nextS (news₂ := (tl, PySem.W.listOf (its ++ [Value.ref D]).toArray (k + 1)) :: eB :: e3 :: e2 :: e1 :: eI2 :: eI :: el :: (cn, on) :: (cw, ow) :: ec3 :: ec4 :: (D, lst ys) :: more) F N ?_ ?_
    ⟨on, ow, vn, vw, its ++ [Value.ref D], k + 1, (D, lst ys) :: more, rfl, dn, dw, fun q hq => .tail _ (hsub q hq), ?_, ?_, ?_, by rw [List.length_append, hil]; rfl, takesIn_snoc htk hil hkf hys, hmf⟩
  · intro q hq
    simp only [List.mem_cons] at hq ⊢
    rcases hq with h | h | h | h | h | h | h | h | h | h | h | h | h | h | h
    all_goals simp only [h, true_or, or_true]
  · have d0 := hn _ (.head _)
    have d1 := hn _ (.tail _ (.head _))
    have d2 := hn _ (.tail _ (.tail _ (.head _)))
    have d3 := hn _ (.tail _ (.tail _ (.tail _ (.head _))))
    have d4 := hn _ (.tail _ (.tail _ (.tail _ (.tail _ (.head _)))))
    have d5 := hn _ (.tail _ (.tail _ (.tail _ (.tail _ (.tail _ (.head _))))))
    have d6 := hn _ (.tail _ (.tail _ (.tail _ (.tail _ (.tail _ (.tail _ (.head _)))))))
    have d7 := hn _ (.tail _ (.tail _ (.tail _ (.tail _ (.tail _ (.tail _ (.tail _ (.head _))))))))
    have d8 := hn _ (.tail _ (.tail _ (.tail _ (.tail _ (.tail _ (.tail _ (.tail _ (.tail _ (.head _)))))))))
    have d9 := hn _ (.tail _ (.tail _ (.tail _ (.tail _ (.tail _ (.tail _ (.tail _ (.tail _ (.tail _ (.head _))))))))))
    have d10 := hn _ (.tail _ (.tail _ (.tail _ (.tail _ (.tail _ (.tail _ (.tail _ (.tail _ (.tail _ (.tail _ (.head _)))))))))))
    have d11 := hn _ (.tail _ (.tail _ (.tail _ (.tail _ (.tail _ (.tail _ (.tail _ (.tail _ (.tail _ (.tail _ (.tail _ (.head _))))))))))))
    intro p hp
    simp only [List.mem_cons] at hp
    rcases hp with rfl | rfl | rfl | rfl | rfl | rfl | rfl | rfl | rfl | rfl | rfl | rfl | rfl | hp
    · exact d0
    · exact d1
    · exact d2
    · exact d3
    · exact d4
    · exact d5
    · exact d6
    · exact d7
    · exact d8
    · exact d9
    · exact d10
    · exact d11
    · exact hD0
    · exact hn _ (.tail _ (.tail _ (.tail _ (.tail _ (.tail _ (.tail _ (.tail _ (.tail _ (.tail _ (.tail _ (.tail _ (.tail _ (hp)))))))))))))
  · intro p hp
    rcases List.mem_cons.mp hp with rfl | hp
    · exact hD1
    · exact hm1 p hp
  · intro p hp
    rcases List.mem_cons.mp hp with rfl | hp
    · exact hD2
    · exact hm2 p hp
  · intro p hp
    rcases List.mem_cons.mp hp with rfl | hp
    · exact hD3
    · exact hm3 p hp
theorem second_turn {T : Fin 3 → Int → Int → Int} {ta : Addr} {f : Int} {tf : Tok} {m₂ : Str → Option Value} {h₀ h' : Heap} {L I cn cw ct cb : Addr} {io on ow ot ob on0 ow0 ot0 ob0 on3 ow3 ot3 ob3 : Obj} {eI eD eY tl eB e3 e2 e1 : Addr × Obj} {l : Addr} {lo : Obj} {rest more : Led} {j tk : Nat} {vn vw vt vb sv : Option Value} {s₁ : Shared} {Q : Flow → Shared → Prop}
    (F : Fr h₀ L h' m₂) (N : News h₀ L h' (eD :: eY :: tl :: eB :: e3 :: e2 :: e1 :: (I, io) :: eI :: (l, lo) :: (cn, on) :: (cw, ow) :: (ct, ot) :: (cb, ob) :: more))
    (dn : on.data = .cell vn) (dw : ow.data = .cell vw) (dt : ot.data = .cell vt) (db : ob.data = .cell vb) (hn : ∀ p ∈ eI :: (l, lo) :: (cn, on3) :: (cw, ow3) :: (ct, ot3) :: (cb, ob3) :: rest, p.1 ≠ I)
    (hsub : ∀ q ∈ rest, q ∈ more) (hno : ∀ s, f ≤ s → s < f + (j : Int) → ¬ Cut T f s) (hnc : ¬ Cut T f (f + (j : Int))) (hmf : m₂ = mD ta (some (.int f tf)) sv) :
    StepW h₀ L I io (JD2 ta T f tf (eI :: (l, lo) :: (cn, on0) :: (cw, ow0) :: (ct, ot0) :: (cb, ob0) :: rest) (j + 1)) s₁ Q .next { s₁ with heap := h', toks := tk } := by
  refine step_nextS (news₂ := eI :: (l, lo) :: (cn, on) :: (cw, ow) :: (ct, ot) :: (cb, ob) :: rest) F N ?_ ?_ ⟨_, sv, rfl, ⟨on, ow, ot, ob, vn, vw, vt, vb, rfl, dn, dw, dt, db⟩, hmf, fun s a b => ?_⟩
  · intro q hq
    simp only [List.mem_cons] at hq ⊢
    rcases hq with h | h | h | h | h | h | h | h
    all_goals first | simp only [h, true_or, or_true] | simp only [hsub q h, or_true]
  · have d0 := hn _ (.head _)
    have d1 := hn _ (.tail _ (.head _))
    have d2 := hn _ (.tail _ (.tail _ (.head _)))
    have d3 := hn _ (.tail _ (.tail _ (.tail _ (.head _))))
    have d4 := hn _ (.tail _ (.tail _ (.tail _ (.tail _ (.head _)))))
    have d5 := hn _ (.tail _ (.tail _ (.tail _ (.tail _ (.tail _ (.head _))))))
    intro p hp
    simp only [List.mem_cons] at hp
    rcases hp with rfl | rfl | rfl | rfl | rfl | rfl | hp
    · exact d0
    · exact d1
    · exact d2
    · exact d3
    · exact d4
    · exact d5
    · exact hn _ (.tail _ (.tail _ (.tail _ (.tail _ (.tail _ (.tail _ (hp)))))))
  · rcases Int.lt_or_le s (f + (j : Int)) with h | h
    · exact hno s a h
    · have : s = f + (j : Int) := by omega
      rw [this]; exact hnc
theorem ne_four {cn cw ct cb I : Addr} {e : Addr × Obj} {a b c d a' b' c' d' : Obj} {rest : Led} (hn : ∀ p ∈ e :: (cn, a) :: (cw, b) :: (ct, c) :: (cb, d) :: rest, p.1 ≠ I) : ∀ p ∈ e :: (cn, a') :: (cw, b') :: (ct, c') :: (cb, d') :: rest, p.1 ≠ I := by
  have d0 := hn _ (.head _)
  have d1 := hn _ (.tail _ (.head _))
  have d2 := hn _ (.tail _ (.tail _ (.head _)))
  have d3 := hn _ (.tail _ (.tail _ (.tail _ (.head _))))
  have d4 := hn _ (.tail _ (.tail _ (.tail _ (.tail _ (.head _)))))
  intro p hp
  simp only [List.mem_cons] at hp
  rcases hp with rfl | rfl | rfl | rfl | rfl | hp
  · exact d0
  · exact d1
  · exact d2
  · exact d3
  · exact d4
  · exact hn _ (.tail _ (.tail _ (.tail _ (.tail _ (.tail _ (hp))))))
theorem no_cut {T : Fin 3 → Int → Int → Int} {f s : Int} {ys : List Value} {ns : List Int} (hi : IntsAre ys ns) (h : ys ≠ [] ↔ ∃ a ∈ takesOf (T 0) f s, ∃ b ∈ takesOf (T 1) f s, ∃ c ∈ takesOf (T 2) f s, Good a b c) (hz : decide (ns = []) = true) : ¬ Cut T f s := by
  have hn : ns = [] := of_decide_eq_true hz
  subst hn
  have : ys = [] := by cases hi; rfl
  rintro ⟨x, y, z, hx, hy, hzz, e⟩
  exact absurd this (h.mpr ⟨x, hx, y, hy, z, hzz, e⟩)
theorem its3 {its : List Value} {a b c : Value} (hl : its.length = 3) (h0 : its[0]? = some a) (h1 : its[1]? = some b) (h2 : its[2]? = some c) : its = [a, b, c] := by
  rcases its with _ | ⟨x, _ | ⟨y, _ | ⟨z, _ | ⟨u, r⟩⟩⟩⟩
  · cases hl
  · cases hl
  · cases hl
  · injection h0 with h0
    injection h1 with h1
    injection h2 with h2
    rw [h0, h1, h2]
  · exact absurd hl (by simp only [List.length_cons]; omega)
theorem takes_len (W : Int → Int → Int) (f s : Int) : (takesOf W f s).length ≤ 3 := List.length_filter_le _ _
theorem bindL_none {kindOf : Str → Option NameKind} {n y : Str} {v : Value} {bs : List (Str × Value)} (hb : bs = [(n, v)]) (hk : kindOf n = some .local) (h : ¬ y = n) : bindL kindOf bs (fun _ => none) y = none := by
  subst hb
  show (if kindOf n = some .local then (fun z => if z = n then some v else none) else fun _ => none) y = none
  rw [if_pos hk]; exact if_neg h
theorem firsts_at {f : Int} (h0 : 0 ≤ f) (h5 : f ≤ 5) : ∃ k, k < 6 ∧ firsts[k]? = some f := by
  have : f = 0 ∨ f = 1 ∨ f = 2 ∨ f = 3 ∨ f = 4 ∨ f = 5 := by omega
  rcases this with rfl | rfl | rfl | rfl | rfl | rfl
  · exact ⟨3, by decide, rfl⟩
  · exact ⟨0, by decide, rfl⟩
  · exact ⟨1, by decide, rfl⟩
  · exact ⟨2, by decide, rfl⟩
  · exact ⟨4, by decide, rfl⟩
  · exact ⟨5, by decide, rfl⟩
theorem firsts_in {i : Nat} {n : Int} (h : firsts[i]? = some n) : 0 ≤ n ∧ n ≤ 5 := by
  have := List.mem_of_getElem? h
  simp only [firsts, List.mem_cons, List.not_mem_nil, or_false] at this
  omega
theorem f_j {f : Int} {j : Nat} (h0 : 0 ≤ f) (h5 : f ≤ 5) (hj : j < (6 - f).toNat) : f + (j : Int) ≤ 5 := by omega
theorem mD_of {f : Str → Option Value} {ta : Addr} {fv sv : Option Value} (h0 : f (Str.ofString "first") = fv) (h1 : f (Str.ofString "second") = sv) (h2 : f (Str.ofString "told") = some (.ref ta))
    (he : ∀ y, ¬ y = Str.ofString "first" → ¬ y = Str.ofString "second" → ¬ y = Str.ofString "told" → f y = none) : f = mD ta fv sv := by
  funext y
  unfold mD
  by_cases a0 : y = Str.ofString "first"
  · subst a0; exact h0
  rw [if_neg a0]
  by_cases a1 : y = Str.ofString "second"
  · subst a1; exact h1
  rw [if_neg a1]
  by_cases a2 : y = Str.ofString "told"
  · subst a2; exact h2
  rw [if_neg a2]
  exact he y a0 a1 a2
theorem rulesV21x1 : True := by
  (k_with "eval Call" => (k_here; (with_reducible show wpAny _ _ (eval (Expr.Call (Expr.Name ("max" : Str) _) _ _ _) _) _ _ _); refine Stop.out ?_))
  (k_with "eval ListComp" => (k_here; refine Stop.out ?_))
  (k_with "call builtin:list.append" => (k_here; (with_reducible show wpAny _ _ (call (Value.builtin _) [Value.ref _, Value.ref _]) _ _ _); k_dflt (refine' append_K ?k1 ?k2 ?k3 ?_ ?k4; (case k1 => k_asm); (case k2 => k_asm); (case k3 => k_upd); (case k4 => assumption); k_whole); intro hz9 Fz9 Nz9; (try dsimp only at Nz9)))
  (k_with "exec For" => (k_here; refine Stop.out ?_))
  (k_with "exec For Name Call cons nil" => (k_here; refine Stop.out ?_))
  (k_with "exec For Name List cons nil" => (k_here; refine Stop.out ?_))
  (k_with "mD" => (refine' mD_of ?q0 ?q1 ?q2 ?qe; (case q0 => rfl); (case q1 => rfl); (case q2 => rfl); (case qe => ((intro yz9 h1z9 h2z9 h3z9); (repeat (refine (if_neg (by with_reducible assumption)).trans ?_)); exact rfl))))
  trivial
theorem for_anyF {prog : Program} {w : World} {A : Around} {E : Value → Shared → Prop} {s : Shared} {h₀ : Heap} {env : Env} {m : Str → Option Value} {body : List Stmt} {Q : Flow → Shared → Prop} {target iter : Expr} {pos : Pos} (F : Fr h₀ env.locals s.heap m) (h : wpAny (model prog w) A (eval iter env) (fun xv s₁ => AnyAt prog w A h₀ env target body Q E xv s₁) E s)
    (hs : ∀ x, foldedSetIterable iter env x = pure x := by intro _; rfl) : wpAny (model prog w) A (exec (.For target iter body [] pos) env) Q E s := for_any h hs
noncomputable def ConD (d u : Nat) (w : World) (p : Program) (loose : List Str) (mean : ExcName → Option Value) (mg mb : Str → Option Value) (f : Addr) (vs : List Value) (news : Led) (R : Heap → Addr → (Str → Option Value) → Shared → VP → Prop) : Prop :=
  ∀ (dp un : Nat) (gd : Option (List Code)) (cn : Str) (cs : Scope) (a : Addr) (ccd : Value) (cl : List (Str × Addr)) (outer : List Env) (A₀ : Around) (base h₀ : Heap) (L : Addr) (m : Str → Option Value) (s : Shared) (Q E : VP),
    Below A₀ base outer h₀ → Fr h₀ L s.heap m → (K w.params).In h₀ → News h₀ L s.heap news → Top p loose mean mg mb h₀ → cs.kind = .function → dp + d < recursionLimit → un + u < cLine →
    R h₀ L m s Q → wpAny (model PySem.Challenge.rw_wk0033_01.row.prog w) (ktrTop dp un gd cn cs L a ccd cl outer) (call (.ref f) vs) Q E s
set_option maxHeartbeats 1500000 in
theorem dealt_con (w : World) (p : Program) (loose : List Str) (mean : ExcName → Option Value) (mg mb : Str → Option Value) (ta : Addr) (T : Fin 3 → Int → Int → Int) (news : Led) (hT : ToldAre news ta T) (hU : ∃ f s, 0 ≤ f ∧ f ≤ s ∧ s ≤ 5 ∧ Cut T f s) :
    ConD 80 800 w p loose mean mg mb 170 [.ref ta] news (RetV (fun _ => .bool true) news) := by
  intro dp un gd cn cs a ccd cl outer A₀ base h₀ L m s Q E B F X N T₀ hk hd hu R
  revert X; k_fill; intro X
  refine wpAny_call ?_
  k_dflt (walk_at "enter C")
  k_steps
  unfold Stop
  refine for_it (by k_asm) rfl rfl ?_
  k_steps
  refine it_listN (items := [Value.int 1 _, .int 2 _, .int 3 _, .int 0 _, .int 4 _, .int 5 _]) rfl (by k_asm) (by k_asm) (.head _) ⟨rfl, _, rfl⟩ (JD1 ta T) ?_ ?_ ?_ ?_ (by passes_own)
  · refine ⟨_, none, none, rfl, ⟨_, _, _, _, _, _, _, _, rfl, by assumption, by assumption, by assumption, by assumption⟩, ?_, fun k hk => absurd hk (Nat.not_lt_zero _)⟩
    walk_at "mD"
  · intro i m₁ news₁ J1
    obtain ⟨n1, fv, sv, rfl, _⟩ := J1
    exact .head _
  · intro I i v m₁ news₁ h₁ tk₁ io hI hi J1 hn F1 N1
    obtain ⟨n1, fv, sv, e1, hc, e2, hno⟩ := J1
    obtain ⟨on, ow, ot, ob, vn, vw, vt, vb, e3, dn, dw, dt, db⟩ := hc
    subst e1 e2 e3
    have b0 : @Ne Nat _ _ := hn _ (.head _)
    have b1 : @Ne Nat _ _ := hn _ (.tail _ (.head _))
    have b2 : @Ne Nat _ _ := hn _ (.tail _ (.tail _ (.head _)))
    have b3 : @Ne Nat _ _ := hn _ (.tail _ (.tail _ (.tail _ (.head _))))
    have b4 : @Ne Nat _ _ := hn _ (.tail _ (.tail _ (.tail _ (.tail _ (.head _)))))
    dsimp only at b0 b1 b2 b3 b4
    unfold mD at F1
    obtain ⟨f, tf, rfl, hf⟩ := IntsAre.at (ns := firsts) (.cons _ _ (.cons _ _ (.cons _ _ (.cons _ _ (.cons _ _ (.cons _ _ .nil)))))) i v hi
    obtain ⟨hf0, hf5⟩ := firsts_in hf
    k_steps
    unfold Stop
    refine for_it (by k_asm) rfl rfl ?_
    k_steps
    refine it_range (n := (6 - f).toNat) rfl (by assumption) (by k_asm) (by k_asm) (small_in hf0 (by omega) (by decide) (by decide)) (range_n (by omega)) (JD2 ta T f tf) ?_ ?_ ?_ (by passes_own)
    · refine ⟨_, sv, rfl, ⟨_, _, _, _, _, _, _, _, rfl, dn, dw, dt, db⟩, ?_, fun s h1 h2 => absurd h1 (by omega)⟩
      walk_at "mD"
    · intro I2 j t2 m₂ news₂ h₂ tk₂ io2 hI2 hj J2 hn2 F2 N2
      obtain ⟨n1, sv, e1, hc, e2, hno2⟩ := J2
      obtain ⟨on, ow, ot, ob, vn, vw, vt, vb, e3, dn, dw, dt, db⟩ := hc
      subst e1 e2 e3
      have c0 : @Ne Nat _ _ := hn2 _ (.head _)
      have c1 : @Ne Nat _ _ := hn2 _ (.tail _ (.head _))
      have c2 : @Ne Nat _ _ := hn2 _ (.tail _ (.tail _ (.head _)))
      have c3 : @Ne Nat _ _ := hn2 _ (.tail _ (.tail _ (.tail _ (.head _))))
      have c4 : @Ne Nat _ _ := hn2 _ (.tail _ (.tail _ (.tail _ (.tail _ (.head _)))))
      have c5 : @Ne Nat _ _ := hn2 _ (.tail _ (.tail _ (.tail _ (.tail _ (.tail _ (.head _))))))
      dsimp only at c0 c1 c2 c3 c4 c5
      unfold mD at F2
      obtain ⟨a0, a1, a2, kt, hTm, hT0, hT1, hT2⟩ := id hT
      have hs5 : f + (j : Int) ≤ 5 := f_j hf0 hf5 hj
      k_steps
      unfold Stop
      refine for_anyF (by k_asm) ?_
      k_steps
      refine any_listN (items := [Value.ref a0, .ref a1, .ref a2]) rfl (by k_asm) (by k_asm) (by walk_at "mem in") ⟨rfl, _, rfl⟩ (JD3 T f (f + (j : Int)) (mD ta (some (.int f tf)) (some (.int (f + (j : Int)) t2)))) ?_ ?_ ?_ ?_ (by intro _ _; rfl) (by passes_own)
      · refine ⟨_, _, _, _, [], 0, _, rfl, dn, dw, fun q hq => hq, ?_, ?_, ?_, rfl, fun k hk => absurd hk (Nat.not_lt_zero _), ?_⟩
        · k_all
        · k_all
        · k_all
        · walk_at "mD"
      · intro i m₁ news₁ J1
        obtain ⟨_, _, _, _, _, _, more, rfl, _, _, hsub, _⟩ := J1
        have := hsub _ hTm
        walk_at "mem in"
      · intro I3 i3 v3 m₃ news₃ h₃ tk₃ io3 hI3 hi3 J3 hn3 F3 N3
        obtain ⟨on3, ow3, vn3, vw3, its, k3, more, e1, dn3, dw3, hsub, hm1, hm2, hm3, hil, htk, e2⟩ := J3
        subst e1 e2
        have d0 : @Ne Nat _ _ := hn3 _ (.head _)
        have d1 : @Ne Nat _ _ := hn3 _ (.tail _ (.head _))
        have d2 : @Ne Nat _ _ := hn3 _ (.tail _ (.tail _ (.head _)))
        have d3 : @Ne Nat _ _ := hn3 _ (.tail _ (.tail _ (.tail _ (.head _))))
        have d4 : @Ne Nat _ _ := hn3 _ (.tail _ (.tail _ (.tail _ (.tail _ (.head _)))))
        have d5 : @Ne Nat _ _ := hn3 _ (.tail _ (.tail _ (.tail _ (.tail _ (.tail _ (.head _))))))
        have d6 : @Ne Nat _ _ := hn3 _ (.tail _ (.tail _ (.tail _ (.tail _ (.tail _ (.tail _ (.head _)))))))
        have d7 : @Ne Nat _ _ := hn3 _ (.tail _ (.tail _ (.tail _ (.tail _ (.tail _ (.tail _ (.tail _ (.head _))))))))
        have d8 : @Ne Nat _ _ := hn3 _ (.tail _ (.tail _ (.tail _ (.tail _ (.tail _ (.tail _ (.tail _ (.tail _ (.head _)))))))))
        have d9 : @Ne Nat _ _ := hn3 _ (.tail _ (.tail _ (.tail _ (.tail _ (.tail _ (.tail _ (.tail _ (.tail _ (.tail _ (.head _))))))))))
        have d10 : @Ne Nat _ _ := hn3 _ (.tail _ (.tail _ (.tail _ (.tail _ (.tail _ (.tail _ (.tail _ (.tail _ (.tail _ (.tail _ (.head _)))))))))))
        have d11 : @Ne Nat _ _ := hn3 _ (.tail _ (.tail _ (.tail _ (.tail _ (.tail _ (.tail _ (.tail _ (.tail _ (.tail _ (.tail _ (.tail _ (.head _))))))))))))
        dsimp only at d0 d1 d2 d3 d4 d5 d6 d7 d8 d9 d10 d11
        unfold mD at F3
        obtain ⟨wa, kf, rfl, hTW, hkf⟩ : ∃ (wa : Addr) (kf : Fin 3), v3 = .ref wa ∧ TabIn more wa (T kf) ∧ kf.val = i3 := by
          match i3, hi3 with
          | 0, hi3 => injection hi3 with e; exact ⟨a0, 0, e.symm, hT0.mono hsub, rfl⟩
          | 1, hi3 => injection hi3 with e; exact ⟨a1, 1, e.symm, hT1.mono hsub, rfl⟩
          | 2, hi3 => injection hi3 with e; exact ⟨a2, 2, e.symm, hT2.mono hsub, rfl⟩
          | n + 3, hi3 => simp at hi3
        have hi33 : i3 < 3 := by omega
        have hsz3 : its.toArray.size ≤ sizeLine := by
          rw [List.size_toArray, hil]; exact Nat.le_trans (Nat.le_of_lt hi33) (by decide)
        k_steps
        unfold Stop
        refine need_eval (W := T kf) (f := f) (g := f + (j : Int)) (by k_asm) (by k_asm) (by k_asm) (by k_asm) (by k_asm) (by (try dsimp only [ktrTop]); omega) (by (try dsimp only [ktrTop]); omega) ⟨_, _, _, _, _, _, _, _, _, _, _, _, _, by walk_at "mem in", by assumption, by walk_at "mem in", by assumption, by walk_at "mem in", by walk_at "mem in", by walk_at "mem in", by walk_at "mem in", TabIn.mono hTW (by intro q hq; walk_at "mem in")⟩ hf0 (by omega) hs5 ?_
        intro h5 t5 tk5 nd hnd F5 N5
        k_steps
        unfold Stop
        refine takes_eval (W := T kf) (f := f) (g := f + (j : Int)) (nd := nd) (by k_asm) (by k_asm) (by k_asm) (by k_asm) (by k_asm) (by (try dsimp only [ktrTop]); omega) (by (try dsimp only [ktrTop]); omega) ⟨_, _, _, _, _, _, _, _, _, _, _, _, _, by walk_at "mem in", by assumption, by walk_at "mem in", by assumption, by walk_at "mem in", by walk_at "mem in", by walk_at "mem in", by walk_at "mem in", TabIn.mono hTW (by intro q hq; walk_at "mem in")⟩ hf0 (by omega) hs5 (by walk_at "mem in") (by assumption) hnd ?_
        intro D h6 tk6 ys hys F6 N6 hD
        have z0 : @Ne Nat _ _ := hD _ (.head _)
        have z1 : @Ne Nat _ _ := hD _ (.tail _ (.head _))
        dsimp only at z0 z1
        have z9 : @Ne Nat _ _ := hD _ (.tail _ (.tail _ (.tail _ (.tail _ (.tail _ (.tail _ (.tail _ (.tail _ (.tail _ (.head _))))))))))
        have z10 : @Ne Nat _ _ := hD _ (.tail _ (.tail _ (.tail _ (.tail _ (.tail _ (.tail _ (.tail _ (.tail _ (.tail _ (.tail _ (.head _)))))))))))
        dsimp only at z9 z10
        k_steps
        refine worth_turn (by k_asm) (by k_asm) (by assumption) (by assumption) hn3 hsub hm1 hm2 hm3 hil htk hkf hys z0.symm z1.symm z9.symm z10.symm ?_
        walk_at "mD"
      · intro h7 tk7 m7 news7 F7 N7 J7
        obtain ⟨on7, ow7, vn7, vw7, its, k7, more, e1, dn7, dw7, hsub, hm1, hm2, hm3, hil, htk, e2⟩ := J7
        subst e1 e2
        unfold mD at F7
        obtain ⟨l0, y0, g0, ml0, hy0⟩ := htk 0 (by simp)
        obtain ⟨l1, y1, g1, ml1, hy1⟩ := htk 1 (by simp)
        obtain ⟨l2, y2, g2, ml2, hy2⟩ := htk 2 (by simp)
        obtain rfl := its3 hil g0 g1 g2
        k_steps
        unfold Stop
        refine triple_eval (by k_asm) (by k_asm) (by k_asm) (by k_asm) (by k_asm) (by (try dsimp only [ktrTop]); omega) (by (try dsimp only [ktrTop]); omega) (by walk_at "mem in") (by assumption) (by walk_at "mem in") (by walk_at "mem in") (by walk_at "mem in") (by walk_at "mem in") hy0 hy1 hy2 (takes_len ..) (takes_len ..) (takes_len ..) ?_
        intro D8 h8 tk8 ys8 ns8 hns8 hys8 F8 N8 hD8
        k_steps
        · refine second_turn (sv := some (.int (f + (j : Int)) t2)) (by k_asm) (by k_asm) (by assumption) (by assumption) (by assumption) (by assumption) hn2 hsub hno2 (no_cut hns8 hys8 (by assumption)) ?_
          walk_at "mD"
        · dsimp only
          refine step_ret ?_
          dsimp only
          refine step_ret ?_
          dsimp only
          k_steps
          rename News h₀ L _ _ => NN
          exact R 0 _ _ (by k_asm) (fun q hq => NN q (by have := hsub q hq; walk_at "mem in"))
    · intro h9 tk9 m9 news9 F9 N9 J9
      obtain ⟨n1, sv, e1, hc, e2, hno2⟩ := J9
      obtain ⟨on, ow, ot, ob, vn, vw, vt, vb, e3, dn, dw, dt, db⟩ := hc
      subst e1 e2 e3
      unfold mD at F9
      k_steps
      refine step_next (by k_asm) (by k_asm) (ne_four hn) ⟨_, _, _, rfl, ⟨on, ow, ot, ob, _, _, _, _, rfl, dn, dw, dt, db⟩, rfl, fun k hk g hg s5 q1 q2 => ?_⟩
      rcases Nat.lt_or_ge k i with hki | hki
      · exact hno k hki g hg s5 q1 q2
      · have : k = i := by omega
        subst this
        rw [hf] at hg
        injection hg with hg
        subst hg
        exact hno2 s5 q1 (by omega)
  · intro h9 tk9 m9 news9 F9 N9 J9
    obtain ⟨n1, fv, sv, e1, hc, e2, hno⟩ := J9
    obtain ⟨f, s5, q0, q1, q2, hcut⟩ := hU
    obtain ⟨k, hk6, hkf⟩ := firsts_at q0 (Int.le_trans q1 q2)
    exact absurd hcut (hno k hk6 f hkf s5 q1 q2)
end
section
open PySem PySem.W PySem.Calls PySem.Spec PyProof.Rows PyProof.Rows.LCg PyProof.Rows.LCt
theorem rulesV23x0 : True := by
  k_with_none
  (k_with "k ne" => (refine neN ?_; (try dsimp only); first | (with_reducible assumption) | exact neS (by with_reducible assumption) | omega))
  (k_with "k all" => (refine all_ne (by assumption) ?_; (try dsimp only); omega))
  (k_with "k mem" => assumption)
  (k_with "k all" => assumption)
  trivial
section
variable {g g' g₁ h : Heap} {L Lw : Addr} {m : Str → Option Value} {news : Led} {ow : Obj}
theorem hide_of (T : KtsTurn [Lw] g g₁) (hw : g.get? Lw = some ow) (hL : g.get? L = none) (F : Fr g₁ L h m) (N : News g₁ L h news) :
    ∃ sl, Fr (hideAll g [Lw]) L h m ∧ News (hideAll g [Lw]) L h ((Lw, { ow with slots := sl }) :: news) := by
  obtain ⟨sl, hs⟩ := T.frame Lw ow hw (.head _)
  have none_of : ∀ b, g₁.get? b = none → (hideAll g [Lw]).get? b = none := fun b hb => by
    cases e : (hideAll g [Lw]).get? b with
    | none => rfl
    | some o =>
      have e' := of_hideAll _ e
      by_cases hm : b ∈ [Lw]
      · obtain ⟨sl', hs'⟩ := T.frame b o e' hm
        rw [hb] at hs'; cases hs'
      · have := T.other b o e' hm
        rw [hb] at this; cases this
  refine ⟨sl, ⟨F.ns, fun b o e => ?_, ?_⟩, fun q hq => ?_⟩
  · have e' := of_hideAll _ e
    refine F.keep b o (T.other b o e' fun hm => ?_)
    rw [hideAll_none _ hm] at e; cases e
  · rw [hideAll_size]; rw [← T.size]; exact F.above
  · rcases List.mem_cons.mp hq with rfl | hq
    · exact ⟨F.keep _ _ hs, (fun e => by rw [show Lw = L from e, hL] at hw; cases hw), hideAll_none _ (.head _)⟩
    · exact ⟨(N q hq).1, (N q hq).2.1, none_of _ (N q hq).2.2⟩
theorem show_of {sl : Array (Option Value)} (hw : g.get? Lw = some ow) (F : Fr (hideAll g [Lw]) L h m) (hn : (Lw, { ow with slots := sl }) ∈ news) (N : News (hideAll g [Lw]) L h news) :
    ∃ g₁, KtsTurn [Lw] g g₁ ∧ Fr g₁ L h m ∧ News g₁ L h (news.filter fun q => q.1 != Lw) := by
  obtain ⟨T, S⟩ := kts_turn_at (h := h) (fs := [Lw]) (g := g)
    (fun b hb => by rw [List.mem_singleton.mp hb]; exact ⟨_, hw⟩)
    (fun b o e nm => F.keep b o (hideAll_get _ e nm))
    (fun b o e hm => by
      have hb := List.mem_singleton.mp hm
      subst hb
      rw [hw] at e
      cases e
      exact ⟨sl, (N _ hn).1⟩)
  refine ⟨_, T, ⟨F.ns, S, ?_⟩, fun q hq => ?_⟩
  · rw [T.size]; have := F.above; rwa [hideAll_size] at this
  · obtain ⟨hq, hne⟩ := List.mem_filter.mp hq
    have hne' : q.1 ≠ Lw := by simpa using hne
    refine ⟨(N q hq).1, (N q hq).2.1, T.none_ _ ?_⟩
    cases e : g.get? q.1 with
    | none => rfl
    | some o =>
      have := hideAll_get [Lw] e (by simpa using hne')
      rw [(N q hq).2.2] at this; cases this
end
theorem below_turn {A₀ : Around} {base g g₁ : Heap} {outer : List Env} (B : Below A₀ base outer g) (T : KtsTurn (outer.filterMap (·.frame)) g g₁) : Below A₀ base outer g₁ :=
  ⟨B.stack, fun b o e => T.other b o (B.stays b o e) (fun hm => by
    rw [(B.frames.mem hm).1] at e
    cases e), B.frames.of_keeps fun b o e _ => by
    obtain ⟨sl', hs'⟩ := T.up e
    exact ⟨_, hs', rfl⟩⟩
end
section
open PySem PySem.W PySem.Calls PySem.Spec PyProof.Rows PyProof.Rows.LCg PyProof.Rows.LCt Builtin.Str
set_option linter.unusedSimpArgs false
theorem rulesV24x0 : True := by
  k_with_none
  (k_with "k ne" => (refine neN ?_; (try dsimp only); first | (with_reducible assumption) | exact neS (by with_reducible assumption) | omega))
  (k_with "k all" => (refine all_ne (by assumption) ?_; (try dsimp only); omega))
  (k_with "k mem" => assumption)
  (k_with "k all" => assumption)
  trivial
theorem sub34 (l : List Nat) (i : Nat) : subAt ⟨l.toArray⟩ ⟨#[34]⟩ i = decide (l[i]? = some 34) := by
  have e : subAt ⟨l.toArray⟩ ⟨#[34]⟩ i = (l.toArray.extract i (i + 1) == #[34]) := rfl
  rw [e, Bool.eq_iff_iff]
  simp only [beq_iff_eq, decide_eq_true_eq]
  rw [← Array.toList_inj]
  simp only [List.extract_toArray, List.extract_eq_take_drop]
  rw [show i + 1 - i = 1 by omega]
  cases h : l[i]? with
  | none =>
    have : l.drop i = [] := List.drop_eq_nil_of_le (by simpa using h)
    simp [this]
  | some c =>
    obtain ⟨hl, he⟩ := List.getElem?_eq_some_iff.mp h
    rw [List.drop_eq_getElem_cons hl, he]
    simp
noncomputable def marks (l : List Nat) : List Bool := l.map fun c => decide (c = 34)
noncomputable def bodyB (m : List Bool) (hi limit : Nat) (i : Nat) (st : Array Nat × Nat) : Id (ForInStep (Array Nat × Nat)) :=
  if ((st.fst.size < limit ∧ st.snd ≤ i) ∧ i + 1 ≤ hi) ∧ (m[i]?).getD false = true then pure (.yield (st.fst.push i, i + 1)) else pure (.yield (st.fst, st.snd))
noncomputable def occB (m : List Bool) (hi : Nat) : List Nat := (forIn (List.range' 0 (hi + 1)) ((#[] : Array Nat), 0) (bodyB m hi (hi + 1))).run.fst.toList
theorem marks_at (l : List Nat) (i : Nat) : subAt ⟨l.toArray⟩ ⟨#[34]⟩ i = ((marks l)[i]?).getD false := by
  rw [sub34]
  unfold marks
  rw [List.getElem?_map]
  cases l[i]? with
  | none => rfl
  | some c => simp only [Option.some.injEq, Option.map_some, Option.getD_some]
theorem occ_marks (l : List Nat) : occurrences ⟨l.toArray⟩ ⟨#[34]⟩ 0 l.length (l.length + 1) = occB (marks l) l.length := by
  rw [StrLaws.occ_eq]
  have e : StrLaws.occBody ⟨l.toArray⟩ ⟨#[34]⟩ l.length (l.length + 1) = bodyB (marks l) l.length (l.length + 1) := by
    funext i st
    unfold StrLaws.occBody bodyB
    rw [marks_at]
    rfl
  rw [e]; rfl
noncomputable def replB (l : List Nat) (m : List Bool) : Str :=
  if ((occB m l.length).isEmpty || ((1 : Nat) == 0 && (2 : Nat) == 0)) = true then ⟨l.toArray⟩ else glued ⟨#[34, 34]⟩ (partsBetween ⟨l.toArray⟩ (occB m l.length) 1)
theorem repl_marks (l : List Nat) : Txt.replace ⟨l.toArray⟩ ⟨#[34]⟩ ⟨#[34, 34]⟩ = replB l (marks l) := by
  unfold Txt.replace replB
  rw [show (⟨l.toArray⟩ : Str).length = l.length from rfl, occ_marks]
  rfl
noncomputable def dblB : List Nat → List Bool → List Nat
  | c :: r, true :: m => 34 :: 34 :: dblB r m
  | c :: r, _ :: m => c :: dblB r m
  | _, _ => []
theorem dbl_marks : ∀ l : List Nat, dbl l = dblB l (marks l)
  | [] => rfl
  | c :: r => by
    show (if c = 34 then _ else _) = dblB (c :: r) (decide (c = 34) :: marks r)
    by_cases h : c = 34
    · rw [if_pos h, decide_eq_true h, dbl_marks r]; rfl
    · rw [if_neg h, decide_eq_false h, dbl_marks r]; rfl
theorem repl1 (a : Nat) : Txt.replace ⟨#[a]⟩ ⟨#[34]⟩ ⟨#[34, 34]⟩ = ⟨(dbl [a]).toArray⟩ := by
  rw [dbl_marks]
  refine (repl_marks [a]).trans ?_
  show replB [a] [decide (a = 34)] = ⟨(dblB [a] [decide (a = 34)]).toArray⟩
  generalize decide (a = 34) = x
  cases x <;> rfl
theorem repl2 (a b : Nat) : Txt.replace ⟨#[a, b]⟩ ⟨#[34]⟩ ⟨#[34, 34]⟩ = ⟨(dbl [a, b]).toArray⟩ := by
  rw [dbl_marks]
  refine (repl_marks [a, b]).trans ?_
  show replB [a, b] [decide (a = 34), decide (b = 34)] = ⟨(dblB [a, b] [decide (a = 34), decide (b = 34)]).toArray⟩
  generalize decide (a = 34) = x
  generalize decide (b = 34) = y
  cases x <;> cases y <;> rfl
theorem repl3 (a b c : Nat) : Txt.replace ⟨#[a, b, c]⟩ ⟨#[34]⟩ ⟨#[34, 34]⟩ = ⟨(dbl [a, b, c]).toArray⟩ := by
  rw [dbl_marks]
  refine (repl_marks [a, b, c]).trans ?_
  show replB [a, b, c] [decide (a = 34), decide (b = 34), decide (c = 34)] = ⟨(dblB [a, b, c] [decide (a = 34), decide (b = 34), decide (c = 34)]).toArray⟩
  generalize decide (a = 34) = x
  generalize decide (b = 34) = y
  generalize decide (c = 34) = z
  cases x <;> cases y <;> cases z <;> rfl
theorem repl_all {d : List Nat} (h1 : 1 ≤ d.length) (h3 : d.length ≤ 3) : Txt.replace ⟨d.toArray⟩ (Str.ofString "\"") (Str.ofString "\"\"") = ⟨(dbl d).toArray⟩ := by
  rw [show Str.ofString "\"" = ⟨#[34]⟩ by decide, show Str.ofString "\"\"" = ⟨#[34, 34]⟩ by decide]
  match d, h1, h3 with
  | [a], _, _ => exact repl1 a
  | [a, b], _, _ => exact repl2 a b
  | [a, b, c], _, _ => exact repl3 a b c
  | _ :: _ :: _ :: _ :: _, _, h => simp at h
theorem resp_eq (d : List Nat) : Str.ofString "257 \"" ++ ⟨(dbl d).toArray⟩ ++ Str.ofString "\" is what there is" = respT d := by
  rw [show Str.ofString "257 \"" = ⟨head257.toArray⟩ by decide, show Str.ofString "\" is what there is" = ⟨tail257.toArray⟩ by decide]
  show (⟨head257.toArray ++ (dbl d).toArray ++ tail257.toArray⟩ : Str) = ⟨(resp d).toArray⟩
  simp [resp]
noncomputable def lcElt : Expr → Expr
  | .ListComp e _ _ _ => e
  | _ => default
noncomputable def lcGens : Expr → List Comprehension
  | .ListComp _ g _ _ => g
  | _ => []
noncomputable def lcScope : Expr → Scope
  | .ListComp _ _ s _ => s
  | _ => default
noncomputable def hComp : Expr := aVal ((fnB 19).getD 0 default)
noncomputable abbrev envT (L : Addr) : Env := envOfC (Str.ofString "_law_told") (fnS 19) L 158 (.ref 157)
theorem parse_is {w : World} {p : Program} {loose : List Str} {mean : ExcName → Option Value} {mg mb : Str → Option Value} {x : Str} {d : List Nat} (hd3 : d.length ≤ 3) {tkA : Tok} {news : Led} (hx : x = respT d) :
    Con w p loose mean mg mb 60 [.str x tkA] news (RetV (fun t => .str ⟨d.toArray⟩ t) news) := hx ▸ parse_con w p loose mean mg mb d hd3 tkA news
theorem rulesV24x1 : True := by
  (k_with "call ref" => (k_here; (with_reducible show wpAny _ _ (call (Value.ref 60) [Value.str _ _]) _ _ _); refine Stop.out ?_))
  (k_with "call ref" => (k_here; (with_reducible show wpAny _ _ (call (Value.ref 153) [Value.str _ _]) _ _ _); refine Stop.out ?_))
  (k_with "call builtin:str.replace" => (k_here; refine Stop.out ?_))
  trivial
set_option maxHeartbeats 1000000 in
theorem elt_eval {w : World} {p : Program} {loose : List Str} {mean : ExcName → Option Value} {mg mb : Str → Option Value} {dp un : Nat} {gd : Option (List Code)} {outer : List Env} {A₀ : Around} {base h₀ : Heap} {L C : Addr} {oC : Obj} {m m₂ : Str → Option Value} {s : Shared} {Q E : VP} {news : Led} {fs : List Nat} {tx : Tok}
    (B : Below A₀ base outer h₀) (F : Fr h₀ L s.heap m) (X : (K w.params).In h₀) (N : News h₀ L s.heap news) (T₀ : Top p loose mean mg mb h₀) (XB : (K w.params).In base) (TB : Top p loose mean mg mb base) (D : KtsDicts (outer.filterMap (·.frame)) h₀) (hd : dp + 120 < recursionLimit) (hu : un + 1200 < cLine)
    (hC : NsObj oC m₂) (hCm : (C, oC) ∈ news) (hx : m₂ (Str.ofString "text") = some (.str ⟨(codesOf fs).toArray⟩ tx)) (hfs : ∀ f ∈ fs, f < 135) (h1 : 1 ≤ fs.length) (h3 : fs.length ≤ 3)
    (hQ : RetHeard w p loose mean mg mb fs news A₀ base outer h₀ L m s Q) :
    wpAny (model PySem.Challenge.rw_wk0033_01.row.prog w) { handled := none, depth := dp, frames := some (envT L :: outer), guards := gd, units := un } (eval (lcElt hComp) (compEnvC (lcScope hComp) [] C (envT L))) Q E s := by
  revert X; k_fill; intro X
  with_unfolding_all change wpAny _ _ (eval (Expr.Call (Expr.Name _ _) _ _ _) (compEnvC ⟨_, _, _, _, _⟩ _ _ _)) _ _ _
  have hcl : (codesOf fs).length = fs.length := by simp [codesOf]
  have hln : (⟨(dbl (codesOf fs)).toArray⟩ : Str).length ≤ 100 := by
    show (dbl (codesOf fs)).toArray.size ≤ 100
    have := dbl_le (codesOf fs)
    rw [List.size_toArray]; omega
  have hlx : (⟨(codesOf fs).toArray⟩ : Str).length ≤ 1048576 := by
    show (codesOf fs).toArray.size ≤ 1048576
    rw [List.size_toArray]; omega
  k_steps
  unfold Stop
  refine SC.replaceW (Nat.succ_ne_zero _) (Nat.succ_ne_zero _) (Nat.ne_of_lt (Nat.lt_succ_self _)) (by decide) hlx (by decide) ?_
  intro t1 tk1
  rw [repl_all (by omega) (by omega)]
  k_steps
  unfold Stop
  refine Con.use (parse_is (d := codesOf fs) (by omega) (resp_eq _)) (by k_asm) (by k_asm) (by k_asm) (by k_asm) (by k_asm) rfl (by omega) (by omega) ?_
  intro t2 h2 tk2 F2 N2
  (try dsimp only)
  k_steps
  unfold Stop
  refine heard_con w p loose mean mg mb fs hfs h1 h3 _ _ _ _ _ _ _ _ _ _ _ _ _ _ _ _ _ _ _ (by k_asm) (by k_asm) (by k_asm) (by k_asm) (by k_asm) (by assumption) (by assumption) (by assumption) rfl (by omega) (by omega) ?_
  intro b h' h₀' tk' u1 u2 u3 KT F3 N3 l3 B3 X3 T3 D3
  exact hQ b h' h₀' tk' u1 u2 u3 KT F3 N3 l3 B3 X3 T3 D3
end
section
open PySem PySem.W PySem.Calls PySem.Spec PyProof.Rows PyProof.Rows.LCg PyProof.Rows.LCt PyProof.Rows.LCp
theorem rulesV25x0 : True := by
  k_with_none
  (k_with "k ne" => (refine neN ?_; (try dsimp only); first | (with_reducible assumption) | exact neS (by with_reducible assumption) | omega))
  (k_with "k all" => (refine all_ne (by assumption) ?_; (try dsimp only); omega))
  (k_with "k mem" => assumption)
  (k_with "k all" => assumption)
  trivial
section
variable {prog : Program} {w : World} {A : Around} {h₀ : Heap} {L : Addr} {m : Str → Option Value} {env : Env} {elt : Expr} {x x₂ : Str} {scope : Scope} {cl : List (Str × Addr)} {s : Shared} {S : Led → Prop} {P : Nat → Value → Prop} {Fin : List Value → Led → Prop}
theorem restP_inv (Inv : Nat → List Value → Led → Prop) {n : Nat}
    (step : ∀ i ys news v, i < n → P i v → Inv i ys news → ∃ (t : Addr) (ot : Obj) (v₁ v₂ : Value) (nt : Nat), v = .ref t ∧ (t, ot) ∈ news ∧ ot.cls = .type "tuple" ∧ ot.data = .seq #[v₁, v₂] nt ∧
      ∀ I oI C oC D m₂ h tk (E' : Value → Shared → Prop), NsObj oC m₂ → m₂ x = some v₁ → m₂ x₂ = some v₂ → Fr h₀ L h m → News h₀ L h ((I, oI) :: (C, oC) :: (D, lst ys) :: news) → Off3 I C D news → ((@Ne Nat I C) ∧ (@Ne Nat I D) ∧ (@Ne Nat C D)) →
      wpAny (model prog w) A (eval elt (compEnvC scope cl C env)) (CompEnd h₀ L m { s with heap := h, toks := tk } I oI C oC D (lst ys) S (fun y news' => Inv (i + 1) (ys ++ [y]) news')) E' { s with heap := h, toks := tk })
    (fin : ∀ ys news, Inv n ys news → Fin ys news) : ∀ (k i : Nat) (ys : List Value) (news : Led), i + k = n → Inv i ys news → CompRestP prog w A h₀ L m env elt x x₂ scope cl s S P Fin k i ys news := by
  intro k
  induction k with
  | zero => intro i ys news e h; exact CompRestP.zero (fin ys news (by rw [← e]; exact h))
  | succ k ih =>
    intro i ys news e h
    refine CompRestP.succ fun v hv => ?_
    obtain ⟨t, ot, v₁, v₂, nt, a, b, c, d, f⟩ := step i ys news v (by omega) hv h
    refine ⟨t, ot, v₁, v₂, nt, a, b, c, d, fun I oI C oC D m₂ hp tk E' hC hx hy F N off ne => ?_⟩
    refine wpAny_mono (f I oI C oC D m₂ hp tk E' hC hx hy F N off ne) (fun y s₂ h₂ => ?_) fun _ _ e => e
    exact CompEnd.mono (fun n hn => ih (i + 1) _ n (by omega) hn) h₂
end
/-- what is heard of a row -/
noncomputable def HeardAre (news : Led) (ys : List Value) (fss : List (List Nat)) : Prop := ys.length = fss.length ∧ ∀ (k : Nat) (fs : List Nat), fss[k]? = some fs → ∃ b t1 t2 t3, ys[k]? = some (.ref b) ∧ (b, heardO fs t1 t2 t3) ∈ news
theorem HeardAre.mono {news news' : Led} {ys : List Value} {fss : List (List Nat)} (h : HeardAre news ys fss) (s : ∀ q ∈ news, q ∈ news') : HeardAre news' ys fss :=
  ⟨h.1, fun k fs e => let ⟨b, t1, t2, t3, a, c⟩ := h.2 k fs e; ⟨b, t1, t2, t3, a, s _ c⟩⟩
noncomputable def HInv (Lw : Addr) (ow : Obj) (news : Led) (fss : List (List Nat)) (i : Nat) (ys : List Value) (news' : Led) : Prop :=
  (∃ sl, (Lw, { ow with slots := sl }) ∈ news') ∧ (∀ q ∈ news, q ∈ news') ∧ ys.length = i ∧ ∀ (k : Nat) (fs : List Nat), k < i → fss[k]? = some fs → ∃ b t1 t2 t3, ys[k]? = some (.ref b) ∧ b ≠ Lw ∧ (b, heardO fs t1 t2 t3) ∈ news'
theorem mem_nf {Lw : Addr} {l : Led} {q : Addr × Obj} (h : q ∈ l) (hn : q.1 ≠ Lw) : q ∈ l.filter fun q => q.1 != Lw := List.mem_filter.mpr ⟨h, by simpa using hn⟩
set_option maxHeartbeats 1000000 in
theorem heard_assign {w : World} {p : Program} {loose : List Str} {mean : ExcName → Option Value} {mg mb : Str → Option Value} {dp un : Nat} {gd : Option (List Code)} {outer : List Env} {A₀ : Around} {base g : Heap} {L Lw ra : Addr} {m : Str → Option Value} {s : Shared} {Q : Flow → Shared → Prop} {E : VP} {news : Led} {fss : List (List Nat)}
    (B : Below A₀ base outer g) (F : Fr g L s.heap m) (N : News g L s.heap news) (XB : (K w.params).In base) (TB : Top p loose mean mg mb base) (D : KtsDicts (outer.filterMap (·.frame)) g) (ho : outer.filterMap (·.frame) = [Lw]) (hd : dp + 120 < recursionLimit) (hu : un + 1200 < cLine)
    (hrow : m (Str.ofString "row") = some (.ref ra)) (hR : RowAre news ra fss) (hok : OkFigs fss)
    (hQ : ∀ g₁ Dl h' tk ys news', KtsTurn [Lw] g g₁ → Fr g₁ L h' (fun z => if z = Str.ofString "heard" then some (.ref Dl) else m z) → News g₁ L h' ((Dl, lst ys) :: news') → (∀ q ∈ news, q ∈ news') → (∀ p ∈ news', p.1 ≠ Dl) → HeardAre news' ys fss → Q .next { s with heap := h', toks := tk }) :
    wpAny (model PySem.Challenge.rw_wk0033_01.row.prog w) { handled := none, depth := dp, frames := some (envT L :: outer), guards := gd, units := un } (exec ((fnB 19).getD 0 default) (envT L)) Q E s := by
  obtain ⟨ow, _, _, hw, _⟩ := D Lw (by rw [ho]; exact .head _)
  have hL : g.get? L = none := kts_self F
  obtain ⟨its, kr, hrm, hrl, hrt⟩ := hR
  obtain ⟨h5, hfs⟩ := hok
  have hnl : ∀ q ∈ news, q.1 ≠ Lw := fun q hq e => by have := (N q hq).2.2; rw [e, hw] at this; cases this
  obtain ⟨sl0, F0, N0⟩ := hide_of KtsTurn.refl hw hL F N
  with_unfolding_all change wpAny _ _ (exec (Stmt.Assign [Expr.Name _ _] (Expr.ListComp _ [⟨Expr.Tuple [Expr.Name _ _, Expr.Name _ _] _ _, Expr.Name _ _, [], _⟩] _ _) _) _) _ _ _
  refine LCp.Assign_ListComp_P (h₀ := hideAll g [Lw]) (F₀ := F0) (by rfl) (by with_unfolding_all rfl) (by with_unfolding_all rfl) (by decide) (by rfl) (by decide) (by rfl) (by rfl) (by decide) (by rfl) (by rfl) ?_
  refine ldLoc F0 hrow ?_
  have hsz : its.toArray.size ≤ sizeLine := by rw [List.size_toArray, hrl, h5]; decide
  refine LCp.SrcLP.ledger rfl F0 N0 (.tail _ hrm) hsz fun g' => ?_
  refine restP_inv (HInv Lw ow news fss) (n := its.toArray.size) ?_ ?_ _ 0 [] _ (Nat.zero_add _) ⟨⟨sl0, .head _⟩, fun q hq => .tail _ hq, rfl, fun k fs hk => absurd hk (Nat.not_lt_zero _)⟩
  · intro i ys nw v hi hv hinv
    obtain ⟨⟨sl, hlw⟩, hsub, hyl, hb⟩ := hinv
    have hi5 : i < fss.length := by rw [← hrl]; simpa using hi
    obtain ⟨ta, t1, t2, hit, htm⟩ := hrt i fss[i] (List.getElem?_eq_getElem hi5)
    have hv' : v = .ref ta := by
      have : its[i]? = some v := by simpa using hv
      rw [hit] at this; injection this with this; exact this.symm
    obtain ⟨f1, f3, fall⟩ := hfs fss[i] (List.getElem_mem hi5)
    refine ⟨ta, _, _, _, _, hv', hsub _ htm, rfl, rfl, ?_⟩
    intro I oI C oC Dd m₂ h tk E' hC hx hy F1 N1 off ne
    obtain ⟨g₁, T₁, F₁, N₁⟩ := show_of (sl := sl) hw F1 (.tail _ (.tail _ (.tail _ hlw))) N1
    have offm := off.mem
    have oL := offm _ hlw
    dsimp only at oL
    have B₁ := below_turn B (by rw [ho]; exact T₁)
    have hwx : ∀ q ∈ news, q ∈ nw.filter fun q => q.1 != Lw := fun q hq => mem_nf (hsub q hq) (hnl q hq)
    refine elt_eval (oC := oC) (m₂ := m₂) (fs := fss[i]) (tx := t1) B₁ F₁ (XB.keeps B₁.stays) N₁ (TB.keeps B₁.stays) XB TB (D.turn (by rw [ho]; exact T₁)) hd hu hC (mem_nf (.tail _ (.head _)) (fun e => oL.2.1 e.symm)) hx fall f1 f3 ?_
    intro b h' g₂ tk' u1 u2 u3 KT F3 N3 l3 B3 X3 T3 D3
    rw [ho] at KT
    obtain ⟨sl', F4, N4⟩ := hide_of (T₁.trans KT) hw hL F3 N3
    obtain ⟨sl2, hs2⟩ := (T₁.trans KT).frame Lw ow hw (.head _)
    have hbw : b ≠ Lw := fun e => by
      have := (N3 _ (.head _)).2.2
      rw [show ((b, heardO fss[i] u1 u2 u3) : Addr × Obj).1 = Lw from e, hs2] at this; cases this
    have memI : (I, oI) ∈ ((I, oI) :: (C, oC) :: (Dd, lst ys) :: nw).filter fun q => q.1 != Lw := mem_nf (.head _) (fun e => oL.1 e.symm)
    have memC : (C, oC) ∈ ((I, oI) :: (C, oC) :: (Dd, lst ys) :: nw).filter fun q => q.1 != Lw := mem_nf (.tail _ (.head _)) (fun e => oL.2.1 e.symm)
    have memD : (Dd, lst ys) ∈ ((I, oI) :: (C, oC) :: (Dd, lst ys) :: nw).filter fun q => q.1 != Lw := mem_nf (.tail _ (.tail _ (.head _))) (fun e => oL.2.2 e.symm)
    have lI := l3 _ memI
    have lC := l3 _ memC
    have lD := l3 _ memD
    refine CompEnd.intro F4 N4 ((Lw, { ow with slots := sl' }) :: (b, heardO fss[i] u1 u2 u3) :: nw.filter fun q => q.1 != Lw) (fun q hq => ?_) (Off3.of fun q hq => ?_) (.inr ⟨_, .tail _ (.tail _ (hwx _ hrm)), rfl, _, rfl⟩) ⟨⟨sl', .head _⟩, fun q hq => .tail _ (.tail _ (hwx q hq)), by rw [List.length_append, hyl]; rfl, fun k fs hk hkf => ?_⟩
    · rcases List.mem_cons.mp hq with rfl | hq
      · exact .tail _ (.tail _ memI)
      rcases List.mem_cons.mp hq with rfl | hq
      · exact .tail _ (.tail _ memC)
      rcases List.mem_cons.mp hq with rfl | hq
      · exact .tail _ (.tail _ memD)
      rcases List.mem_cons.mp hq with rfl | hq
      · exact .head _
      rcases List.mem_cons.mp hq with rfl | hq
      · exact .tail _ (.head _)
      · obtain ⟨hq1, hq2⟩ := List.mem_filter.mp hq
        exact .tail _ (.tail _ (List.mem_filter.mpr ⟨.tail _ (.tail _ (.tail _ hq1)), hq2⟩))
    · rcases List.mem_cons.mp hq with rfl | hq
      · exact oL
      rcases List.mem_cons.mp hq with rfl | hq
      · exact ⟨Nat.ne_of_gt lI, Nat.ne_of_gt lC, Nat.ne_of_gt lD⟩
      · exact offm q (List.mem_filter.mp hq).1
    · rcases Nat.lt_or_ge k i with hki | hki
      · obtain ⟨b', v1, v2, v3, x1, x2, x3⟩ := hb k fs hki hkf
        exact ⟨b', v1, v2, v3, by rw [List.getElem?_append_left (by omega)]; exact x1, x2, .tail _ (.tail _ (mem_nf x3 x2))⟩
      · have : k = i := by omega
        subst this
        rw [List.getElem?_eq_getElem hi5] at hkf
        injection hkf with hkf
        subst hkf
        exact ⟨b, u1, u2, u3, by rw [List.getElem?_append_right (by omega), hyl, Nat.sub_self]; rfl, hbw, .tail _ (.head _)⟩
  · intro ys nw hinv
    obtain ⟨⟨sl, hlw⟩, hsub, hyl, hb⟩ := hinv
    intro Dl h tk F1 N1 o1
    obtain ⟨g₁, T₁, F₁, N₁⟩ := show_of (sl := sl) hw F1 (.tail _ hlw) N1
    have om := Off1.mem o1
    have hDw : Dl ≠ Lw := fun e => om _ hlw e.symm
    refine hQ g₁ Dl h tk ys (nw.filter fun q => q.1 != Lw) T₁ F₁ (fun q hq => ?_) (fun q hq => mem_nf (hsub q hq) (hnl q hq)) (fun q hq => om q (List.mem_filter.mp hq).1) ⟨by rw [hyl, List.size_toArray, hrl], fun k fs hk => ?_⟩
    · rcases List.mem_cons.mp hq with rfl | hq
      · exact N₁ _ (mem_nf (.head _) hDw)
      · obtain ⟨hq1, hq2⟩ := List.mem_filter.mp hq
        exact N₁ _ (List.mem_filter.mpr ⟨.tail _ hq1, hq2⟩)
    · have hkl := (List.getElem?_eq_some_iff.mp hk).1
      obtain ⟨b, v1, v2, v3, x1, x2, x3⟩ := hb k fs (by rw [List.size_toArray, hrl]; exact hkl) hk
      exact ⟨b, v1, v2, v3, x1, mem_nf x3 x2⟩
end
section
open PySem PySem.W PySem.Calls PySem.Spec PyProof.Rows PyProof.Rows.LCg PyProof.Rows.LCt PyProof.Rows.LCp
theorem rulesV26x0 : True := by
  k_with_none
  (k_with "k ne" => (refine neN ?_; (try dsimp only); first | (with_reducible assumption) | exact neS (by with_reducible assumption) | omega))
  (k_with "k all" => (refine all_ne (by assumption) ?_; (try dsimp only); omega))
  (k_with "k mem" => assumption)
  (k_with "k all" => assumption)
  trivial
noncomputable def datL (o : Option Nat) : Dat := match o with | some v => .int (v : Int) | none => .none
noncomputable def datOf (fs : List Nat) : Dat := .tuple [.str ⟨(codesOf fs).toArray⟩, .str ⟨(prepOf fs).toArray⟩, datL (vint (codesOf fs))]
theorem dat_line {news : Led} (o : Option Nat) (t : Nat) : DatIn news (lineV o t) (datL o) := by
  cases o with
  | none => exact .none
  | some v => exact .int _ _
theorem dat_all {news : Led} {F : List Nat → Dat} : ∀ {fss : List (List Nat)} {ys : List Value}, ys.length = fss.length → (∀ (k : Nat) (fs : List Nat), fss[k]? = some fs → ∃ v, ys[k]? = some v ∧ DatIn news v (F fs)) → DatAll news ys (fss.map F)
  | [], [], _, _ => .nil
  | fs :: r, y :: ys, hl, h => by
    obtain ⟨v, a, b⟩ := h 0 fs rfl
    have : y = v := by simpa using a
    subst this
    exact .cons b (dat_all (by simpa using hl) fun k f hk => h (k + 1) f hk)
  | [], _ :: _, hl, _ => by simp at hl
  | _ :: _, [], hl, _ => by simp at hl
theorem heard_dat {news : Led} {fss : List (List Nat)} {ys : List Value} (h : HeardAre news ys fss) : DatAll news ys (fss.map datOf) :=
  dat_all h.1 fun k fs hk => by
    obtain ⟨b, t1, t2, t3, a, c⟩ := h.2 k fs hk
    exact ⟨_, a, .tuple (vs := [.str ⟨(codesOf fs).toArray⟩ t1, .str ⟨(prepOf fs).toArray⟩ t2, lineV (vint (codesOf fs)) t3]) c (.cons (.str _ _) (.cons (.str _ _) (.cons (dat_line _ _) .nil)))⟩
set_option maxHeartbeats 0 in
theorem sgnL_lt : ∀ f : Fin 135, (sgnL f.val).all (· < 0x110000) = true := by decide +kernel
theorem prep_lt : ∀ {fs : List Nat}, (∀ f ∈ fs, f < 135) → (prepOf fs).all (· < 0x110000) = true
  | [], _ => rfl
  | f :: r, h => by
    show (sgnL f ++ prepOf r).all _ = true
    rw [List.all_append, sgnL_lt ⟨f, h f (.head _)⟩, prep_lt fun g hg => h g (.tail _ hg)]; rfl
theorem dat_ok {fss : List (List Nat)} (hok : OkFigs fss) : ∀ d ∈ fss.map datOf, kqdOk 8 d = true := by
  intro d hd
  obtain ⟨fs, hf, rfl⟩ := List.mem_map.mp hd
  obtain ⟨_, _, hb⟩ := hok.2 fs hf
  have h1 : PyData.strOk ⟨(codesOf fs).toArray⟩ = true := by
    unfold PyData.strOk
    rw [List.all_toArray, List.all_eq_true]
    intro c hc
    exact decide_eq_true (codes_lt hb c hc)
  have h2 : PyData.strOk ⟨(prepOf fs).toArray⟩ = true := by
    unfold PyData.strOk
    rw [List.all_toArray]; exact prep_lt hb
  have h3 : kqdOk 7 (datL (vint (codesOf fs))) = true := by
    cases vint (codesOf fs) <;> rfl
  show ([Dat.str ⟨(codesOf fs).toArray⟩, .str ⟨(prepOf fs).toArray⟩, datL (vint (codesOf fs))].all (kqdOk 7)) = true
  simp only [List.all_cons, List.all_nil, h3, Bool.and_true, Bool.and_eq_true]
  exact ⟨h1, h2⟩
theorem comp_push {h₀ h' : Heap} {L I C Dd b : Addr} {m : Str → Option Value} {s₁ : Shared} {oI oC oD ob : Obj} {S : Led → Prop} {rest : Value → Led → Prop} {nw : Led} {tk : Nat} (F : Fr h₀ L h' m) (N : News h₀ L h' ((b, ob) :: (I, oI) :: (C, oC) :: (Dd, oD) :: nw)) (off : Off3 I C Dd nw)
    (e1 : @Ne Nat b I) (e2 : @Ne Nat b C) (e3 : @Ne Nat b Dd) (hS : S ((b, ob) :: nw)) (hr : rest (.ref b) ((b, ob) :: nw)) : CompEnd h₀ L m s₁ I oI C oC Dd oD S rest (.ref b) { s₁ with heap := h', toks := tk } := by
  refine CompEnd.intro F N ((b, ob) :: nw) (fun q hq => ?_) ⟨⟨e1, e2, e3⟩, off⟩ hS hr
  simp only [List.mem_cons] at hq ⊢
  rcases hq with h | h | h | h | h <;> simp only [h, true_or, or_true]
noncomputable def cRight : Expr → Expr
  | .Compare _ _ (c :: _) _ => c
  | _ => default
noncomputable def l3Comp : Expr := cRight (iTest ((fnB 19).getD 1 default))
theorem rulesV26x1 : True := by
  (k_with "call ref" => (k_here; (with_reducible show wpAny _ _ (call (Value.ref 143) [Value.str _ _]) _ _ _); refine Stop.out ?_))
  (k_with "CompEnd" => (k_here; refine Stop.out ?_))
  trivial
set_option maxHeartbeats 1000000 in
theorem l3_eval {w : World} {p : Program} {loose : List Str} {mean : ExcName → Option Value} {mg mb : Str → Option Value} {dp un : Nat} {gd : Option (List Code)} {outer : List Env} {A₀ : Around} {base h₀ : Heap} {L ra : Addr} {m : Str → Option Value} {s : Shared} {Q E : VP} {news : Led} {fss : List (List Nat)}
    (B : Below A₀ base outer h₀) (F : Fr h₀ L s.heap m) (X : (K w.params).In h₀) (N : News h₀ L s.heap news) (T₀ : Top p loose mean mg mb h₀) (hd : dp + 120 < recursionLimit) (hu : un + 1200 < cLine)
    (hrow : m (Str.ofString "row") = some (.ref ra)) (hR : RowAre news ra fss) (hok : OkFigs fss)
    (hQ : ∀ Dl h' tk ys news', Fr h₀ L h' m → News h₀ L h' ((Dl, lst ys) :: news') → (∀ q ∈ news, q ∈ news') → (∀ p ∈ news', p.1 ≠ Dl) → HeardAre news' ys fss → Q (.ref Dl) { s with heap := h', toks := tk }) :
    wpAny (model PySem.Challenge.rw_wk0033_01.row.prog w) { handled := none, depth := dp, frames := some (envT L :: outer), guards := gd, units := un } (eval l3Comp (envT L)) Q E s := by
  revert X; k_fill; intro X
  obtain ⟨its, kr, hrm, hrl, hrt⟩ := hR
  obtain ⟨h5, hfs⟩ := hok
  with_unfolding_all change wpAny _ _ (eval (Expr.ListComp (Expr.Tuple [Expr.Name _ _, Expr.Name _ _, Expr.Call (Expr.Name _ _) _ _ _] _ _) [⟨Expr.Tuple [Expr.Name _ _, Expr.Name _ _] _ _, Expr.Name _ _, [], _⟩] _ _) _) _ _ _
  refine LCp.ListComp_P (F₀ := F) (by with_unfolding_all rfl) (by decide) (by rfl) (by decide) (by rfl) (by rfl) (by decide) ?_
  refine ldLoc F hrow ?_
  have hsz : its.toArray.size ≤ sizeLine := by rw [List.size_toArray, hrl, h5]; decide
  refine LCp.SrcLP.ledger rfl F N hrm hsz fun g' => ?_
  refine restP_inv (fun i ys nw => (∀ q ∈ news, q ∈ nw) ∧ ys.length = i ∧ ∀ (k : Nat) (fs : List Nat), k < i → fss[k]? = some fs → ∃ b t1 t2 t3, ys[k]? = some (.ref b) ∧ (b, heardO fs t1 t2 t3) ∈ nw) (n := its.toArray.size) ?_ ?_ _ 0 [] _ (Nat.zero_add _) ⟨fun q hq => hq, rfl, fun k fs hk => absurd hk (Nat.not_lt_zero _)⟩
  · intro i ys nw v hi hv hinv
    obtain ⟨hsub, hyl, hb⟩ := hinv
    have hi5 : i < fss.length := by rw [← hrl]; simpa using hi
    obtain ⟨ta, t1, t2, hit, htm⟩ := hrt i fss[i] (List.getElem?_eq_getElem hi5)
    have hv' : v = .ref ta := by
      have : its[i]? = some v := by simpa using hv
      rw [hit] at this; injection this with this; exact this.symm
    obtain ⟨f1, f3, fall⟩ := hfs fss[i] (List.getElem_mem hi5)
    refine ⟨ta, _, _, _, _, hv', hsub _ htm, rfl, rfl, ?_⟩
    intro I oI C oC Dd m₂ h tk E' hC hx hy F1 N1 off ne
    have offm := off.mem
    k_steps
    unfold Stop
    refine Con.use (line_con w p loose mean mg mb (codesOf fss[i]) (codes_lt fall) (by rw [show (codesOf fss[i]).length = (fss[i]).length by simp [codesOf]]; exact f3) _ _) (by k_asm) (by k_asm) (by k_asm) (by k_asm) (by k_asm) rfl (by omega) (by omega) ?_
    intro t3 h3 tk3 F3 N3
    (try dsimp only)
    k_steps
    unfold Stop
    refine comp_push (by k_asm) (by k_asm) off (by omega) (by omega) (by omega) (.inr ⟨_, .tail _ (hsub _ hrm), rfl, _, rfl⟩) ⟨fun q hq => .tail _ (hsub q hq), by rw [List.length_append, hyl]; rfl, fun k fs hk hkf => ?_⟩
    rcases Nat.lt_or_ge k i with hki | hki
    · obtain ⟨b', v1, v2, v3, x1, x3⟩ := hb k fs hki hkf
      exact ⟨b', v1, v2, v3, by rw [List.getElem?_append_left (by omega)]; exact x1, .tail _ x3⟩
    · have : k = i := by omega
      subst this
      rw [List.getElem?_eq_getElem hi5] at hkf
      injection hkf with hkf
      subst hkf
      exact ⟨_, t1, t2, t3, by rw [List.getElem?_append_right (by omega), hyl, Nat.sub_self]; rfl, .head _⟩
  · intro ys nw hinv
    obtain ⟨hsub, hyl, hb⟩ := hinv
    intro Dl h tk F1 N1 o1
    refine hQ Dl h tk ys nw F1 N1 hsub (Off1.mem o1) ⟨by rw [hyl, List.size_toArray, hrl], fun k fs hk => ?_⟩
    exact hb k fs (by rw [List.size_toArray, hrl]; exact (List.getElem?_eq_some_iff.mp hk).1) hk
end
section
open PySem PySem.W PySem.Calls PySem.Spec PyProof.Rows PyProof.Rows.LCg PyProof.Rows.LCt PyProof.Rows.LCp
theorem rulesV27x0 : True := by
  k_with_none
  (k_with "k ne" => (refine neN ?_; (try dsimp only); first | (with_reducible assumption) | exact neS (by with_reducible assumption) | omega))
  (k_with "k all" => (refine all_ne (by assumption) ?_; (try dsimp only); omega))
  (k_with "k mem" => assumption)
  (k_with "k all" => assumption)
  trivial
section
variable {prog : Program} {w : World} {A : Around} {E : Value → Shared → Prop} {s : Shared} {h₀ : Heap} {L : Addr} {m : Str → Option Value} {env : Env}
variable {elt : Expr} {scope : Scope} {pos : Pos} {R : Result → Shared → Prop}
/-- as lvl, the target a triple of names -/
theorem lvl3 {gens : List Comprehension} {k : Nat} {T : Sem Fin} {p0 : Pos} {a b c : Str} {pa pb pc tp : Pos} {tk₀ : Nat} {I l C D : Addr} {lo : Obj} {its : List Value} {cl : List (Str × Addr)} {nw : Led} (hh : A.handled = none) (hkind : scope.kind = .function) (ha : scope.names.lookup a = some .local) (hb : scope.names.lookup b = some .local) (hc : scope.names.lookup c = some .local) (hac : a ≠ c) (hbc : b ≠ c)
    (hturn : compTurn (.ListComp elt gens scope pos) k (.ref I) (.ref D) (compEnvC scope cl C env) = (standAt p0 >>= fun _ => pyNext (.ref I) >>= fun r => match r with
      | none => pure (.done .next)
      | some v => letOwnedTupleGo (.Tuple [.Name a pa, .Name b pb, .Name c pc] tk₀ tp) (.ref I) v >>= fun _ => assign (.Tuple [.Name a pa, .Name b pb, .Name c pc] tk₀ tp) (compEnvC scope cl C env) v >>= fun _ => T))
    (hl : (l, lo) ∈ nw) (ho : ListOb lo its.toArray) (hIC : @Ne Nat I C) (hID : @Ne Nat I D) (hCD : @Ne Nat C D) (off : ∀ p ∈ nw, p.1 ≠ I ∧ p.1 ≠ C ∧ p.1 ≠ D)
    (Inv : Nat → List Value → Prop)
    (hits : ∀ (i : Nat) (v : Value), its[i]? = some v → ∃ (t : Addr) (x y z : Value) (n : Nat), v = Value.ref t ∧ (t, ({ cls := .type "tuple", data := .seq #[x, y, z] n } : Obj)) ∈ nw)
    (turn : ∀ (i : Nat) (t : Addr) (x y z : Value) (n : Nat) ys mc oC oI h tk (E' : Value → Shared → Prop), its[i]? = some (Value.ref t) → (t, ({ cls := .type "tuple", data := .seq #[x, y, z] n } : Obj)) ∈ nw → Inv i ys → mc c = some z → NsObj oC mc → Fr h₀ L h m → News h₀ L h ((I, oI) :: (C, oC) :: (D, lst ys) :: nw) →
      wpAny (model prog w) A T (fun fin s' => fin = .again (.compLoop (.ListComp elt gens scope pos) k (.ref I) (.ref D) (compEnvC scope cl C env)) ∧ LvSt h₀ L m s C D (fun _ => True) (Inv (i + 1)) nw [(I, oI)] s') E' { s with heap := h, toks := tk })
    (fin : ∀ s', LvSt h₀ L m s C D (fun _ => True) (Inv its.length) nw [] s' → R (.ok .next) s')
    {oI : Obj} {mc : Str → Option Value} {oC : Obj} {ys : List Value} (hit : oI.cls = .type "list_iterator" ∧ oI.data = .fields #[.ref l, .int 0 0]) (F : Fr h₀ L s.heap m) (N : News h₀ L s.heap ((I, oI) :: (C, oC) :: (D, lst ys) :: nw)) (hC : NsObj oC mc) (hI : Inv 0 ys) :
    codeAny (model prog w) A (.compLoop (.ListComp elt gens scope pos) k (.ref I) (.ref D) (compEnvC scope cl C env)) R s := by
  have hlI : @Ne Nat l I := (off _ hl).1
  have W := Walks.list (prog := prog) (w := w) (A := A) hh I l hlI its.toArray
  have hCL : C ≠ L := (N _ (.tail _ (.head _))).2.1
  have hC₀ : h₀.get? C = none := (N _ (.tail _ (.head _))).2.2
  have hIL : I ≠ L := (N _ (.head _)).2.1
  have hI₀ : h₀.get? I = none := (N _ (.head _)).2.2
  refine codeAny_loop rfl
    (fun nn s' => ∃ h' tk mc oC oI ys i, s' = { s with heap := h', toks := tk } ∧ h'.IsListIter I l i ∧ Fr h₀ L h' m ∧ News h₀ L h' ((I, oI) :: (C, oC) :: (D, lst ys) :: nw) ∧ NsObj oC mc ∧ Inv i ys ∧ i ≤ its.length ∧ nn = its.length + 1 - i) (fun nn s' hs => ?_) (its.length + 1)
    ⟨s.heap, s.toks, mc, oC, oI, ys, 0, rfl, ⟨oI, (N _ (.head _)).1, hit⟩, F, N, hC, hI, Nat.zero_le _, rfl⟩
  obtain ⟨h', tk, mc', oC', oI', ys', i, rfl, hli, F', N', hC', hI', hi, rfl⟩ := hs
  show wpAny _ A ((compTurn (.ListComp elt gens scope pos) k (.ref I) (.ref D) (compEnvC scope cl C env)).onRaise (fun x => do noteFrame x (compEnvC scope cl C env); theTreesLotGoes x)) _ _ _
  refine wpAny_noted ?_
  rw [hturn]
  refine wpAny_bind (wpAny_standAt (wpAny_bind ?_))
  have hlist : h'.IsList l its.toArray := ho.at (N' _ (.tail _ (.tail _ (.tail _ hl)))).1
  have N'' : News h₀ L h' ((D, lst ys') :: nw) := fun q hq => N' q (.tail _ (.tail _ hq))
  have offD : ∀ p ∈ (D, lst ys') :: nw, p.1 ≠ I := fun p hp => by
    rcases List.mem_cons.mp hp with rfl | hp
    · exact fun q => hID q.symm
    · exact (off p hp).1
  by_cases hlt : i < its.length
  · refine W.item i _ _ _ (by simpa using hlt) ⟨hli, hlist⟩ fun v h₁ tk₁ hPv hst₁ hk₁ => ?_
    have hPv' : its[i]? = some v := by simpa using hPv
    obtain ⟨t, x, y, z, n, rfl, htm⟩ := hits i v hPv'
    have N₂ : News h₀ L h₁ ((D, lst ys') :: nw) := news_but N'' hk₁ offD
    have ht : IsTup h₁ t #[x, y, z] := ⟨_, (N₂ _ (.tail _ htm)).1, rfl, n, rfl⟩
    refine wpAny_bind (wpAny_letOwnedTupleGo_listiter hst₁.1 (wpAny_bind ?_))
    have zC := (N' _ (.tail _ (.head _))).1
    have zC₁ : h₁.get? C = some oC' := hk₁ _ _ (fun q => hIC (List.mem_singleton.mp q).symm) zC
    refine assign_Tuple_tuple hh ht rfl rfl fun h₅ he => ?_
    have he' : ∀ b o, h₁.get? b = some o → h₅.get? b = some o := fun b o e => he b o (Nat.ne_of_lt (Heap.lt_size e)) e
    refine assignInOrder_cons (wpAny_assign_Name (wpAny_storeName_local (lookup_relabel_local ha) (hC'.ns (he' _ _ zC₁)) (fun h₆ hn₆ hs₆ => ?_) (by simp [compEnvC, relabel, hkind])))
    refine assignInOrder_cons (wpAny_assign_Name (wpAny_storeName_local (lookup_relabel_local hb) hn₆ (fun h₇ hn₇ hs₇ => ?_) (by simp [compEnvC, relabel, hkind])))
    refine assignInOrder_cons (wpAny_assign_Name (wpAny_storeName_local (lookup_relabel_local hc) hn₇ (fun h₃ hn₃ hs₃ => ?_) (by simp [compEnvC, relabel, hkind])))
    refine assignInOrder_nil ?_
    have old3 : ∀ b o, b ≠ C → h₁.get? b = some o → h₃.get? b = some o := fun b o hb e => hs₃.extBut b o hb (hs₇.extBut b o hb (hs₆.extBut b o hb (he' b o e)))
    have hst₃ : h₃.IsListIter I l (i + 1) := hst₁.1.at fun o e => old3 I o (fun q => hIC q) e
    obtain ⟨oI₃, heI, hoI⟩ := hst₃
    obtain ⟨oC₃, heC, hoC⟩ := ns_obj hn₃
    have F₃ : Fr h₀ L h₃ m := ((((fr_but F' hk₁ (Ne.symm hIL) hI₀).keeps he').change hs₆ hCL hC₀).change hs₇ hCL hC₀).change hs₃ hCL hC₀
    have N₃ : News h₀ L h₃ ((I, oI₃) :: (C, oC₃) :: (D, lst ys') :: nw) := fun p hp => by
      rcases List.mem_cons.mp hp with rfl | hp
      · exact ⟨heI, hIL, hI₀⟩
      rcases List.mem_cons.mp hp with rfl | hp
      · exact ⟨heC, hCL, hC₀⟩
      · have zz := N₂ p hp
        refine ⟨old3 _ _ ?_ zz.1, zz.2⟩
        rcases List.mem_cons.mp hp with rfl | hp
        · exact fun q => hCD q.symm
        · exact (off p hp).2.1
    refine wpAny_mono (turn i t x y z n ys' _ oC₃ oI₃ h₃ _ _ hPv' htm hI' (by simp) hoC F₃ N₃) (fun fin' s₄ h₄ => ?_) fun _ _ e => e
    obtain ⟨rfl, h₄, tk₄, mc₄, oC₄, ys₄, rfl, F₄, N₄, hC₄, hP₄, hI₄⟩ := h₄
    exact ⟨rfl, its.length + 1 - (i + 1), by omega, h₄, tk₄, mc₄, oC₄, oI₃, ys₄, i + 1, rfl, ⟨oI₃, (N₄ _ (.head _)).1, hoI⟩, F₄, N₄, hC₄, hI₄, hlt, rfl⟩
  · obtain rfl : i = its.length := by omega
    have hst2 : h'.IsListIter I l its.toArray.size ∧ h'.IsList l its.toArray := ⟨by simpa using hli, hlist⟩
    refine W.done _ _ _ hst2 fun h₂ tk₂ hk₂ => wpAny_pure ?_
    have zC₂ : h₂.get? C = some oC' := hk₂ _ _ (fun q => hIC (List.mem_singleton.mp q).symm) (N' _ (.tail _ (.head _))).1
    refine fin _ ⟨h₂, tk₂, mc', oC', ys', rfl, fr_but F' hk₂ (Ne.symm hIL) hI₀, fun p hp => ?_, hC', trivial, hI'⟩
    rcases List.mem_cons.mp hp with rfl | hp
    · exact ⟨zC₂, hCL, hC₀⟩
    · exact news_but N'' hk₂ offD p hp
theorem turn1_0 (elt target iter : Expr) (scope : Scope) (pos : Pos) (it acc : Value) (env : Env) : compTurn (.ListComp elt [⟨target, iter, [], 0⟩] scope pos) 0 it acc env = (standAt iter.pos >>= fun _ => pyNext it >>= fun r => match r with
      | none => pure (.done .next)
      | some v => letOwnedTupleGo target it v >>= fun _ => assign target env v >>= fun _ =>
        ((eval elt env >>= fun x => call (.builtin "list.append") [acc, x] >>= fun _ => pure ()) >>= fun _ =>
          again (.compLoop (.ListComp elt [⟨target, iter, [], 0⟩] scope pos) 0 it acc env))) := by rfl
end
theorem LinesAre.snoc {vs : List Value} {ls : List (Option Nat)} (h : LinesAre vs ls) (o : Option Nat) (t : Nat) : LinesAre (vs ++ [lineV o t]) (ls ++ [o]) := by
  induction h with
  | nil => cases o with
    | none => exact .none .nil
    | some v => exact .int v t .nil
  | none _ ih => exact .none ih
  | int n u _ ih => exact .int n u ih
noncomputable def AtL (v : Value) (s : Shared) (h : Heap) (xv : Value) (s' : Shared) : Prop := xv = v ∧ ∃ tk', s' = { s with heap := h, toks := tk' }
noncomputable def linesE : Expr := aVal ((fnB 19).getD 2 default)
set_option maxHeartbeats 1000000 in
theorem lines_eval {w : World} {p : Program} {loose : List Str} {mean : ExcName → Option Value} {mg mb : Str → Option Value} {dp un : Nat} {gd : Option (List Code)} {outer : List Env} {A₀ : Around} {base h₀ : Heap} {L Dl : Addr} {m : Str → Option Value} {s : Shared} {Q E : VP} {news : Led} {hs : List Value} {fss : List (List Nat)}
    (B : Below A₀ base outer h₀) (F : Fr h₀ L s.heap m) (X : (K w.params).In h₀) (N : News h₀ L s.heap news) (T₀ : Top p loose mean mg mb h₀)
    (hm : m (Str.ofString "heard") = some (.ref Dl)) (hl : (Dl, lst hs) ∈ news) (hH : HeardAre news hs fss) (h5 : fss.length = 5)
    (hQ : ∀ D h' tk ys, LinesAre ys (fss.map fun fs => vint (codesOf fs)) → Fr h₀ L h' m → News h₀ L h' ((D, lst ys) :: news) → (∀ q ∈ news, q.1 ≠ D) → Q (.ref D) { s with heap := h', toks := tk }) :
    wpAny (model PySem.Challenge.rw_wk0033_01.row.prog w) { handled := none, depth := dp, frames := some (envT L :: outer), guards := gd, units := un } (eval linesE (envT L)) Q E s := by
  revert X; k_fill; intro X
  with_unfolding_all change wpAny _ _ (eval (Expr.ListComp (Expr.Name _ _) [⟨Expr.Tuple [Expr.Name _ _, Expr.Name _ _, Expr.Name _ _] _ _, Expr.Name _ _, [], _⟩] _ _) _) _ _ _
  rw [eval_ListComp]
  refine wpAny_comprehension_free (use := none) rfl (by intro _; rfl) (by with_unfolding_all rfl) rfl (by decide) ?_
  with_unfolding_all change wpAny _ _ (eval (Expr.Name _ _) _) _ _ _
  refine ldLoc F hm ?_
  refine open3 F N hl (lst_ob hs) (by decide) (by rfl) ?_
  intro I0 C D oI0 oC0 mc0 h1 tk1 hit0 hC0 F1 N1 hIC hID hCD off0
  refine codeAny_compStart_list ?z1 (wpAny_pyIter_listiter ⟨oI0, (N1 _ (.head _)).1, hit0⟩ ?z2)
  case' z2 => refine ?_
  all_goals
    refine lvl3 (a := Str.ofString "text") (b := Str.ofString "prepared") (c := Str.ofString "line") rfl rfl (by rfl) (by rfl) (by rfl) (by decide) (by decide) (turn1_0 ..) hl (lst_ob hs) hIC hID hCD off0 (fun i ys => LinesAre ys ((fss.take i).map fun fs => vint (codesOf fs))) ?_ ?_ ?_ hit0 F1 N1 hC0 .nil
    · intro i v hv
      have hi : i < fss.length := by rw [← hH.1]; exact (List.getElem?_eq_some_iff.mp hv).1
      obtain ⟨b, t1, t2, t3, a, c⟩ := hH.2 i fss[i] (List.getElem?_eq_getElem hi)
      rw [a] at hv; injection hv with hv
      exact ⟨b, _, _, _, _, hv.symm, c⟩
    · intro i t x y z n ys mc oC oI h tk E1 hv htm hinv hmz hC F2 N2
      have hi : i < fss.length := by rw [← hH.1]; exact (List.getElem?_eq_some_iff.mp hv).1
      obtain ⟨b, t1, t2, t3, a, c⟩ := hH.2 i fss[i] (List.getElem?_eq_getElem hi)
      rw [a] at hv; injection hv with hv; injection hv with hv; subst hv
      have hz : z = lineV (vint (codesOf fss[i])) t3 := by
        have e1 := (N2 _ (.tail _ (.tail _ (.tail _ htm)))).1
        have e2 := (N2 _ (.tail _ (.tail _ (.tail _ c)))).1
        dsimp only at e1 e2
        rw [e2] at e1
        injection e1 with e1
        have e3 : Data.seq #[Value.str ⟨(codesOf fss[i]).toArray⟩ t1, Value.str ⟨(prepOf fss[i]).toArray⟩ t2, lineV (vint (codesOf fss[i])) t3] 0 = Data.seq #[x, y, z] n := congrArg Obj.data e1
        injection e3 with e4 _
        have e5 := congrArg (fun (q : Array Value) => q[2]?) e4
        simpa using e5.symm
      subst hz
      refine wpAny_bind (wpAny_bind (wpAny_mono (Q := AtL (lineV (vint (codesOf fss[i])) t3) s h) ?_ (fun xv s' hx' => ?_) fun _ _ e => e))
      · k_steps
        exact ⟨rfl, _, rfl⟩
      obtain ⟨rfl, tk2, rfl⟩ := hx'
      have hyl : ys.length ≤ 5 := by
        have := hinv.length
        rw [List.length_map, List.length_take] at this; omega
      refine wpAny_bind (append_K (D := D) (its := ys.toArray) (n := ys.length) F2 N2 (.tail hID (.tail hCD (.head (fun p hp => (off0 p hp).2.2)))) (fun h8 F7 N7 => wpAny_pure ?_) (by rw [List.size_toArray]; exact Nat.le_trans hyl (by decide)))
      refine wpAny_pure ⟨rfl, h8, tk2, _, oC, ys ++ [lineV (vint (codesOf fss[i])) t3], rfl, F7, ?_, hC, trivial, ?_⟩
      · rw [← lst_snoc]; exact N7
      · rw [List.take_succ_eq_append_getElem hi, List.map_append]
        exact hinv.snoc _ _
    · intro s' hs'
      obtain ⟨h9, tk9, mc9, oC9, ys, rfl, F9, N9, hC9, hP9, hi9⟩ := hs'
      have hCL : C ≠ L := (N9 _ (.head _)).2.1
      have hC₀ : h₀.get? C = none := (N9 _ (.head _)).2.2
      refine ⟨mc9, hC9.ns (N9 _ (.head _)).1, fun h'' hs'' => ?_⟩
      refine hQ D h'' tk9 ys ?_ (F9.change hs'' hCL hC₀) (fun p hp => ?_) (fun q hq => (off0 q hq).2.2)
      · rw [hH.1, List.take_length] at hi9; exact hi9
      · refine ⟨hs''.extBut _ _ ?_ (N9 p (.tail _ hp)).1, (N9 p (.tail _ hp)).2⟩
        rcases List.mem_cons.mp hp with rfl | hp
        · exact fun q => hCD q.symm
        · exact (off0 p hp).2.1
end
section
open PySem PySem.W PySem.Calls PySem.Spec PyProof.Rows PyProof.Rows.LCg PyProof.Rows.LCt PyProof.Rows.LCp
theorem rulesV28x0 : True := by
  k_with_none
  (k_with "k ne" => (refine neN ?_; (try dsimp only); first | (with_reducible assumption) | exact neS (by with_reducible assumption) | omega))
  (k_with "k all" => (refine all_ne (by assumption) ?_; (try dsimp only); omega))
  (k_with "k mem" => assumption)
  (k_with "k all" => assumption)
  trivial
noncomputable def FKi (v : Value) (k : Int) : Prop := ∃ t, v = .int k t
noncomputable def FVi (its : List Value) (v : Value) (y : Value) : Prop := ∃ k t, v = .int k t ∧ 0 ≤ k ∧ its[k.toNat]? = some y
theorem stored_new {kvs : List (Int × Value)} {k : Int} {y : Value} (h : ∀ q ∈ kvs, q.1 ≠ k) : stored kvs k y = kvs ++ [(k, y)] := by
  unfold stored
  rw [if_neg]
  simp only [Bool.not_eq_true, List.any_eq_false, decide_eq_true_eq]
  exact h
theorem stored_seq {its : List Value} {a : Int} (ha : 0 ≤ a) {l : List Value} {kvs : List (Int × Value)} (h : StoredAll FKi (FVi its) l kvs) : (∀ (j : Nat) (v : Value), l[j]? = some v → ∃ t, v = Value.int (a + (j : Int)) t) →
    kvs.map (·.1) = (List.range l.length).map (fun j : Nat => a + (j : Int)) ∧ kvs.map (·.2) = (its.drop a.toNat).take l.length := by
  induction h with
  | nil => intro _; exact ⟨rfl, by simp⟩
  | @snoc l kvs v k y hs hk hv ih =>
    intro hl
    obtain ⟨h1, h2⟩ := ih fun j u hj => hl j u (by rw [List.getElem?_append_left (List.getElem?_eq_some_iff.mp hj).1]; exact hj)
    obtain ⟨t, e⟩ := hl l.length v (by rw [List.getElem?_append_right (Nat.le_refl _), Nat.sub_self]; rfl)
    obtain ⟨t', e'⟩ := hk
    obtain ⟨k2, t2, e2, hk0, hy⟩ := hv
    rw [e] at e' e2
    injection e' with e' _
    injection e2 with e2 _
    subst e'
    subst e2
    have hn : ∀ q ∈ kvs, q.1 ≠ a + (l.length : Int) := fun q hq => by
      have : q.1 ∈ kvs.map (·.1) := List.mem_map_of_mem hq
      rw [h1] at this
      obtain ⟨j, hj, ej⟩ := List.mem_map.mp this
      have := List.mem_range.mp hj
      omega
    rw [stored_new hn, List.map_append, List.map_append, h1, h2]
    refine ⟨?_, ?_⟩
    · rw [List.length_append, List.length_singleton, List.range_succ, List.map_append]; rfl
    · rw [List.length_append, List.length_singleton]
      have hy' : (its.drop a.toNat)[l.length]? = some y := by
        rw [List.getElem?_drop]
        have : (a + (l.length : Int)).toNat = a.toNat + l.length := by omega
        rw [← this]; exact hy
      obtain ⟨hl1, he1⟩ := List.getElem?_eq_some_iff.mp hy'
      rw [List.take_succ_eq_append_getElem hl1, he1]; rfl
theorem LinesAre.drop {vs : List Value} {ls : List (Option Nat)} (h : LinesAre vs ls) : ∀ k, LinesAre (vs.drop k) (ls.drop k) := by
  induction h with
  | nil => intro k; simp only [List.drop_nil]; exact .nil
  | none h ih => intro k; cases k with
    | zero => exact .none h
    | succ k => exact ih k
  | int n t h ih => intro k; cases k with
    | zero => exact .int n t h
    | succ k => exact ih k
theorem LinesAre.take {vs : List Value} {ls : List (Option Nat)} (h : LinesAre vs ls) : ∀ k, LinesAre (vs.take k) (ls.take k) := by
  induction h with
  | nil => intro k; simp only [List.take_nil]; exact .nil
  | none h ih => intro k; cases k with
    | zero => exact .nil
    | succ k => exact .none (ih k)
  | int n t h ih => intro k; cases k with
    | zero => exact .nil
    | succ k => exact .int n t (ih k)
theorem get_size (H : Heap) : H.get? H.objs.size = none := by
  cases e : H.get? H.objs.size with
  | none => rfl
  | some o => exact absurd (Heap.lt_size e) (Nat.lt_irrefl _)
noncomputable def mT (rv hv tv fv bv ev wv : Option Value) : Str → Option Value := fun y =>
  if y = Str.ofString "row" then rv else if y = Str.ofString "heard" then hv else if y = Str.ofString "told" then tv else if y = Str.ofString "front" then fv else if y = Str.ofString "table" then bv else if y = Str.ofString "end" then ev else if y = Str.ofString "width" then wv else none
-- the statements of the inner loop
noncomputable def tFor : List Stmt := fBody ((fnB 19).getD 4 default)
noncomputable def tEnd : List Stmt := fBody (tFor.getD 1 default)
noncomputable def dictCE : Expr := cArg (aVal (tEnd.getD 0 default))
theorem rulesV28x1 : True := by
  (k_with "pyIter ref" => (k_here; refine Stop.out ?_))
  trivial
theorem keeps_refl (s : Shared) {tk : Nat} : Keeps s { s with toks := tk } := ⟨s.heap, tk, rfl, fun _ _ e => e⟩
theorem made_over {h₀ H h' : Heap} {L D : Addr} {m : Str → Option Value} {news : Led} {od io : Obj} (F : Fr h₀ L H m) (N : News h₀ L H news) (hD : (H.push io).get? D = none) (hk : ∀ b o, b ∉ [H.objs.size] → (H.push io).get? b = some o → h'.get? b = some o) (hod : h'.get? D = some od) :
    Fr h₀ L h' m ∧ News h₀ L h' ((D, od) :: news) ∧ ∀ q ∈ news, q.1 ≠ D := by
  have up : ∀ c o, H.get? c = some o → h'.get? c = some o := fun c o e => hk c o (fun hm => by
    have := Heap.lt_size e
    rw [List.mem_singleton.mp hm] at this
    exact absurd this (Nat.lt_irrefl _)) (Heap.get?_push_of_some _ e)
  have nD : ∀ c o, H.get? c = some o → c ≠ D := fun c o e q => by
    subst q
    have := Heap.get?_push_of_some io e
    rw [hD] at this; cases this
  have hDL : D ≠ L := fun q => by
    obtain ⟨oL, _, _, hL, _⟩ := F.ns
    exact nD _ _ hL q.symm
  have hD0 : h₀.get? D = none := by
    cases e : h₀.get? D with
    | none => rfl
    | some o => exact absurd rfl (nD _ _ (F.keep _ _ e))
  refine ⟨F.keeps up, fun p hp => ?_, fun q hq => nD _ _ (N q hq).1⟩
  rcases List.mem_cons.mp hp with rfl | hp
  · exact ⟨hod, hDL, hD0⟩
  · exact ⟨up _ _ (N p hp).1, (N p hp).2⟩
section
variable {prog : Program} {w : World} {K' : Type} [DecidableEq K'] {knd : KeyKind prog w K'} {A : Around} {E : Value → Shared → Prop} {env : Env}
/-- a dict comprehension's block, the dict's address told -/
theorem dict_open {kx vx iter : Expr} {x : Str} {px : Pos} {ifs : List Expr} {scope : Scope} {cl : List (Str × Addr)} {pos : Pos} {s : Shared} {I : Addr} {fp wr : List Addr} {n : Nat} {P : Nat → Value → Prop} {St : Nat → Heap → Prop} (W : Walks prog w A I fp wr n P St) (hsz : n ≤ sizeLine) (p : Value → Bool) (FK : Value → K' → Prop) (FV : Value → Value → Prop) {RR : Value → Addr → Result → Shared → Prop}
    (hcell : ∀ y ∈ scope.names, y.2 ≠ .cell) (hkind : scope.kind = .function) (hx : scope.names.lookup x = some .local) (hst : St 0 s.heap) (hfp : ∀ b ∈ fp, b < s.heap.objs.size) (hq : QuietOnCD knd A env scope cl x ifs kx vx wr P p FK FV s)
    (hRR : ∀ C h' tk m' kvs (vs : List Value), s.heap.get? C = none → s.heap.objs.size ≠ C → h'.Ns C m' → h'.DictOf knd s.heap.objs.size kvs → vs.length = n → (∀ j v, vs[j]? = some v → P j v) → StoredAll FK FV (vs.filter p) kvs →
      (∀ b o, b ∉ wr → s.heap.get? b = some o → h'.get? b = some o) → RR (.ref s.heap.objs.size) C (.ok .next) { s with heap := h', toks := tk }) :
    wpAny (model prog w) A newDict (fun acc s₃ => wpAny (model prog w) A (newFunctionEnv scope env.globals cl [] env.qual none .none (some env)) (fun cenv s₄ =>
      codeAny (model prog w) A (.compStart (.DictComp kx vx [⟨.Name x px, iter, ifs, 0⟩] scope pos) 0 (.ref I) acc { cenv with scope := relabel scope env }) (RR acc cenv.locals) s₄) E s₃) E s := by
  have hnew : (s.heap.push { cls := .type "dict", dict := none, data := .dict #[] }).DictOf knd s.heap.objs.size [] := Heap.DictOf.new s.heap
  refine wpAny_newObj_type (wpAny_newFunctionEnv hcell (by intro y hy; simp at hy) (fun h₁ hns hsb => ?_) hkind)
  dsimp only at hns hsb ⊢
  generalize hH : s.heap.push { cls := .type "dict", dict := none, data := .dict #[] } = H at hns hsb hnew ⊢
  have s1 : H.objs.size = s.heap.objs.size + 1 := by rw [← hH, Heap.size_push]
  have ne : ∀ b, @LT.lt Nat _ b s.heap.objs.size → b ≠ H.objs.size ∧ b ≠ s.heap.objs.size := fun b hb => ⟨by rw [s1]; omega, by omega⟩
  have dc : s.heap.objs.size ≠ H.objs.size := by rw [s1]; omega
  have old : ∀ b o, s.heap.get? b = some o → h₁.get? b = some o := fun b o e => hsb.extBut b o (ne b (Heap.lt_size e)).1 (Heap.get?_push_of_some _ (by rw [← hH]; exact Heap.get?_push_of_some _ e))
  have hC : s.heap.get? H.objs.size = none := by
    cases e : s.heap.get? H.objs.size with
    | none => rfl
    | some o => exact absurd rfl (ne _ (Heap.lt_size e)).1
  have hst₁ : St 0 h₁ := W.frame _ _ _ hst fun b _ o e => old b o e
  have loop : codeAny (model prog w) A (.compLoop (.DictComp kx vx [⟨.Name x px, iter, ifs, 0⟩] scope pos) 0 (.ref I) (.ref s.heap.objs.size) (compEnvC scope cl H.objs.size env)) (RR (.ref s.heap.objs.size) H.objs.size) { s with heap := h₁, toks := s.toks + ([] : List (Str × Value)).length } := by
    have lift : ∀ s₃ : Shared, (∀ b o, b ≠ H.objs.size → b ∉ wr → b ≠ s.heap.objs.size → h₁.get? b = some o → s₃.heap.get? b = some o) → ∀ b o, b ∉ wr → s.heap.get? b = some o → s₃.heap.get? b = some o :=
      fun s₃ hk b o hb e => hk b o (ne b (Heap.lt_size e)).1 hb (ne b (Heap.lt_size e)).2 (old b o e)
    refine codeAny_compLoop_walkD (hsz := hsz) (knd := knd) (cenv := compEnvC scope cl H.objs.size env) W p FK FV (lookup_relabel_local hx) (by simp [compEnvC, relabel, hkind]) dc (fun hm => Nat.lt_irrefl _ (hfp _ hm)) (fun hm => absurd rfl (ne _ (hfp _ hm)).1) hst₁
      (hnew.at fun o e => hsb.extBut _ _ dc (Heap.get?_push_of_some _ e)) hns ?_ ?_ ?_ ?_
    · exact fun i v s₃ m₃ hv hn hm hk => hq.tests _ i v s₃ m₃ _ hv hn hm (lift s₃ hk)
    · exact fun i v s₃ m₃ hv hp hn hm hk => hq.key _ i v s₃ m₃ _ hv hp hn hm (lift s₃ hk)
    · exact fun i v s₃ m₃ hv hp hn hm hk => hq.val _ i v s₃ m₃ _ hv hp hn hm (lift s₃ hk)
    · exact fun h' tk m' kvs vs hn ha hl hP hF hk => hRR _ h' tk m' kvs vs hC dc hn ha hl hP hF fun b o hb e => hk b o (ne b (Heap.lt_size e)).1 hb (ne b (Heap.lt_size e)).2 (old b o e)
  exact codeAny_compStart_dict loop (W.self 0 _ _ _ hst₁ loop)
end
set_option maxHeartbeats 1000000 in
theorem dict_eval {w : World} {p : Program} {loose : List Str} {mean : ExcName → Option Value} {mg mb : Str → Option Value} {dp un : Nat} {gd : Option (List Code)} {outer : List Env} {A₀ : Around} {base h₀ : Heap} {L ll : Addr} {rv hv tv bv wv : Option Value} {a b : Int} {ta tb : Tok} {s : Shared} {Q E : VP} {news : Led} {ol : Obj} {ys : List Value} {ls : List (Option Nat)}
    (B : Below A₀ base outer h₀) (F : Fr h₀ L s.heap (mT rv hv tv (some (.int a ta)) bv (some (.int b tb)) wv)) (X : (K w.params).In h₀) (N : News h₀ L s.heap news) (T₀ : Top p loose mean mg mb h₀)
    (h0 : 0 ≤ a) (hab : a ≤ b) (hb5 : b ≤ 5) (hol : (L + 1, ol) ∈ news) (dl : ol.data = .cell (some (.ref ll))) (hll : (ll, lst ys) ∈ news) (hys : LinesAre ys ls) (h5 : ls.length = 5)
    (hQ : ∀ D od kvs h' tk, od.IsDictOf (PySem.intKind PySem.Challenge.rw_wk0033_01.row.prog w) kvs → LinesAre (kvs.map (·.2)) ((ls.drop a.toNat).take (b - a).toNat) → Fr h₀ L h' (mT rv hv tv (some (.int a ta)) bv (some (.int b tb)) wv) → News h₀ L h' ((D, od) :: news) → (∀ q ∈ news, q.1 ≠ D) → L < D → Q (.ref D) { s with heap := h', toks := tk }) :
    wpAny (model PySem.Challenge.rw_wk0033_01.row.prog w) { handled := none, depth := dp, frames := some (envT L :: outer), guards := gd, units := un } (eval dictCE (envT L)) Q E s := by
  revert X; k_fill; intro X
  unfold mT at F
  with_unfolding_all change wpAny _ _ (eval (Expr.DictComp (Expr.Name _ _) (Expr.Subscript (Expr.Name _ _) (Expr.Name _ _) _) [⟨Expr.Name _ _, Expr.Call (Expr.Name _ _) [Expr.Name _ _, Expr.Name _ _] _ _, [], _⟩] _ _) _) _ _ _
  rw [arm_eval_DictComp]
  refine wpAny_comprehension_free (use := none) rfl (by intro _; rfl) (by with_unfolding_all rfl) rfl (by decide) ?_
  with_unfolding_all change wpAny _ _ (eval (Expr.Call (Expr.Name _ _) [Expr.Name _ _, Expr.Name _ _] _ _) _) _ _ _
  k_steps
  unfold Stop
  refine wpAny_pyIter_range (by assumption) (small_in h0 (by omega) (by omega) (by omega)) ?_
  rw [range_n (n := (b - a).toNat) (by omega)]
  rename Fr h₀ L _ _ => F2
  rename News h₀ L _ _ => N2
  have hyl : ys.length = 5 := by rw [hys.length]; exact h5
  refine dict_open (knd := PySem.intKind PySem.Challenge.rw_wk0033_01.row.prog w) (RR := fun acc C r s' => compPost (model PySem.Challenge.rw_wk0033_01.row.prog w) { handled := none, depth := dp, frames := some (envT L :: outer), guards := gd, units := un } E none Q acc C r s') (range_walks rfl a (b - a).toNat).bound (Nat.le_trans (show (b - a).toNat ≤ 5 by omega) (by decide)) (fun _ => true) FKi (FVi ys) ?_ ?_ ?_ ?_ (fun q hq => ?_) ⟨?_, ?_, ?_⟩ ?_
  · decide
  · rfl
  · rfl
  · show IsRangeIter _ _ (a + ((0 : Nat) : Int) * 1) (((b - a).toNat : Int) - ((0 : Nat) : Int)) 1
    simpa using Heap.get?_push_size _ rfl
  · rw [List.mem_singleton.mp hq, Heap.size_push]; exact Nat.lt_succ_self _
  · intro C i v s₃ m₃ E' hP hns hm hk
    exact wpAny_tests_nil ⟨rfl, s₃.heap, s₃.toks, rfl, fun _ _ e => e⟩
  · intro C i v s₃ m₃ E' hP _ hns hm hk
    obtain ⟨hi, t, rfl⟩ := hP
    refine wpAny_Name (wpAny_loadName_local rfl (by with_unfolding_all rfl) hns hm ?_)
    exact ⟨⟨a + (i : Int), intKind_is _ _ _ _, t, rfl⟩, s₃.heap, s₃.toks, rfl, fun _ _ e => e⟩
  · intro C i v s₃ m₃ E' hP _ hns hm hk
    obtain ⟨hi, t, rfl⟩ := hP
    have old : ∀ p ∈ news, s₃.heap.get? p.1 = some p.2 := fun p hp => hk _ _ (fun hm => by
      have := Heap.lt_size (N2 p hp).1
      rw [List.mem_singleton.mp hm] at this
      exact absurd this (Nat.lt_irrefl _)) (Heap.get?_push_of_some _ (N2 p hp).1)
    have hj : (a + (i : Int)).toNat < ys.length := by omega
    refine Subscript_ (wpAny_Name (wpAny_loadName_cell (c := L + 1) (v := .ref ll) rfl (by with_unfolding_all rfl) (by with_unfolding_all rfl) ⟨ol, old _ hol, dl⟩ (wpAny_Name (wpAny_loadName_local rfl (by with_unfolding_all rfl) hns hm ?_))))
    refine sub_list (its := ys) (j := (a + (i : Int)).toNat) ⟨_, old _ hll, rfl, _, rfl⟩ (by omega) (by omega) (List.getElem?_eq_getElem hj) ?_
    exact ⟨⟨_, t, rfl, by omega, List.getElem?_eq_getElem hj⟩, s₃.heap, s₃.toks, rfl, fun _ _ e => e⟩
  · intro C h' tk m' kvs vs hC hDC hns hdo hvl hvs hst hk
    refine ⟨m', hns, fun h'' hs'' => ?_⟩
    have sb := hs''.extBut
    obtain ⟨od, hod, hodd⟩ := Heap.dictOf_iff.mp hdo
    have ft : vs.filter (fun _ => true) = vs := List.filter_eq_self.mpr (fun _ _ => rfl)
    rw [ft] at hst
    obtain ⟨e1, e2⟩ := stored_seq h0 hst (fun j v hj => (hvs j v hj).2)
    have hod'' := sb _ _ hDC hod
    have hk' : ∀ b o, b ∉ [(Heap.objs _).size] → (Heap.push _ _).get? b = some o → h''.get? b = some o := fun b o hb e => sb b o (fun q => by subst q; rw [hC] at e; cases e) (hk b o hb e)
    obtain ⟨F5, N5, n5⟩ := made_over F2 N2 (get_size _) hk' hod''
    exact hQ _ od kvs h'' tk hodd (by rw [e2, hvl]; exact (hys.drop _).take _) F5 N5 n5 (by have := F2.ns.lt; show _ < (Heap.objs (Heap.push _ _)).size; rw [Heap.size_push]; exact Nat.lt_succ_of_lt this)
end
section
open PySem PySem.W PySem.Calls PySem.Spec PyProof.Rows
theorem rulesV29x0 : True := by
  k_with_none
  (k_with "k ne" => (refine neN ?_; (try dsimp only); first | (with_reducible assumption) | exact neS (by with_reducible assumption) | omega))
  (k_with "k all" => (refine all_ne (by assumption) ?_; (try dsimp only); omega))
  (k_with "k mem" => assumption)
  (k_with "k all" => assumption)
  trivial
/-- the values met, each once -/
noncomputable def metS (val : Nat → Str) : Nat → List Str
  | 0 => []
  | i + 1 => if (metS val i).any (· == val i) then metS val i else metS val i ++ [val i]
theorem metS_le (val : Nat → Str) : ∀ i, (metS val i).length ≤ i
  | 0 => Nat.le_refl _
  | i + 1 => by
    have := metS_le val i
    unfold metS; split
    · omega
    · rw [List.length_append, List.length_singleton]; omega
theorem metS_any (val : Nat → Str) (i : Nat) (k : Str) : (metS val (i + 1)).any (· == k) = ((metS val i).any (· == k) || decide (k = val i)) := by
  rw [metS]
  by_cases h : (metS val i).any (· == val i) = true
  · rw [if_pos h]
    by_cases e : k = val i
    · subst e; rw [h]; simp
    · simp [e]
  · rw [if_neg h, List.any_append]
    by_cases e : k = val i
    · subst e; simp
    · have hb : (val i == k) = false := by simpa [beq_iff_eq] using (fun h' : val i = k => e h'.symm)
      simp [hb, e]
theorem metS_len (val : Nat → Str) (i : Nat) : (metS val (i + 1)).length = if (metS val i).any (· == val i) then (metS val i).length else (metS val i).length + 1 := by
  rw [metS]; split <;> simp
theorem metS_mem (val : Nat → Str) : ∀ (i : Nat) (x : Str), x ∈ metS val i ↔ ∃ j, j < i ∧ x = val j
  | 0, x => by simp [metS]
  | i + 1, x => by
    have ih := metS_mem val i
    have e := metS_any val i x
    have a1 : ∀ l : List Str, l.any (· == x) = true ↔ x ∈ l := fun l => by simp
    rw [← a1, e, Bool.or_eq_true, a1, ih, decide_eq_true_eq]
    constructor
    · rintro (⟨j, hj, rfl⟩ | rfl)
      · exact ⟨j, by omega, rfl⟩
      · exact ⟨i, by omega, rfl⟩
    · rintro ⟨j, hj, rfl⟩
      by_cases h : j = i
      · subst h; exact .inr rfl
      · exact .inl ⟨j, by omega, rfl⟩
theorem metS_nodup (val : Nat → Str) : ∀ i, (metS val i).Nodup
  | 0 => List.nodup_nil
  | i + 1 => by
    rw [metS]
    split
    · exact metS_nodup val i
    · rename_i h
      refine List.nodup_append.mpr ⟨metS_nodup val i, by simp, fun a ha b hb e => h ?_⟩
      rw [List.mem_singleton.mp hb] at e
      rw [← e]; simpa using ha
theorem nodup_le : ∀ {a b : List Str}, a.Nodup → (∀ x ∈ a, x ∈ b) → a.length ≤ b.length
  | [], _, _, _ => Nat.zero_le _
  | x :: r, b, hn, h => by
    have hx := h x (.head _)
    have hr : r.length ≤ (b.erase x).length := nodup_le (List.nodup_cons.mp hn).2 fun y hy => (List.mem_erase_of_ne (fun e => (List.nodup_cons.mp hn).1 (by rw [← e]; exact hy))).mpr (h y (.tail _ hy))
    rw [List.length_erase_of_mem hx] at hr
    have : 0 < b.length := List.length_pos_of_mem hx
    show r.length + 1 ≤ b.length
    omega
noncomputable def sgnAt (l : List Nat) (i : Nat) : Str := ⟨#[l.getD i 0]⟩
/-- how many signs a text has, each counted once -/
noncomputable def distN (l : List Nat) : Nat := (metS (sgnAt l) l.length).length
theorem distN_le (l : List Nat) : distN l ≤ l.length := metS_le _ _
theorem distN_mono {a b : List Nat} (h : ∀ x ∈ a, x ∈ b) : distN a ≤ distN b := by
  refine nodup_le (metS_nodup _ _) fun x hx => ?_
  obtain ⟨j, hj, rfl⟩ := (metS_mem _ _ _).mp hx
  have hm : a.getD j 0 ∈ b := h _ (by rw [List.getD_eq_getElem?_getD, List.getElem?_eq_getElem hj]; exact List.getElem_mem hj)
  obtain ⟨k, hk, e⟩ := List.mem_iff_getElem.mp hm
  refine (metS_mem _ _ _).mpr ⟨k, hk, ?_⟩
  unfold sgnAt
  rw [← e, List.getD_eq_getElem?_getD, List.getElem?_eq_getElem hk]; rfl
section
variable {prog : Program} {w : World} {A : Around} {R : Result → Shared → Prop} {I : Addr} {fp wr : List Addr} {G : Array GenState → Array GenState → Prop} {n : Nat} {P : Nat → Value → Prop} {St : Nat → Shared → Prop}
theorem set_loop (W : WalksS prog w A.in1 I fp wr G n P St) (S : Addr) (hSf : S ∉ fp) (val : Nat → Str) (hval : ∀ i v, P i v → ∃ t, v = .str (val i) t) (hb : n + 1 < scanBound) :
    ∀ (k i : Nat) (s : Shared), n - i = k → i ≤ n → St i s → s.heap.SetOf (strKind prog w) S (fun k' => (metS val i).any (· == k')) (metS val i).length →
      (∀ s', Moved (S :: wr) G s s' → s'.heap.SetOf (strKind prog w) S (fun k' => (metS val n).any (· == k')) (metS val n).length → R (.ok (.ret .none)) s') →
      codeAny (model prog w) A (.builtin "set.update.loop" ⟨[.ref S, .ref I], []⟩) R s := by
  have hSw : S ∉ wr := fun h => hSf (W.sub _ h)
  have hsub : ∀ b ∈ wr, b ∈ S :: wr := fun b hb => List.mem_cons_of_mem _ hb
  intro k
  induction k with
  | zero =>
    intro i s hk hi hst hS hR
    have hin : i = n := by omega
    subst hin
    refine codeAny_builtin PyProof.Rows.F.entry_set_update_loop ?_
    rw [Around.under_plainId PyProof.Rows.F.plain_set_update_loop _]
    show wpAny _ A.in1 (pyNext (.ref I) >>= _) _ _ s
    refine wpAny_bind (W.done s _ _ hst fun s' hm => ?_)
    show wpAny _ A.in1 (ret Value.none) _ _ s'
    exact wpAny_pure (hR s' (hm.mono hsub) (by
      obtain ⟨o, es, ep, t, ho, rest⟩ := hS
      exact ⟨o, es, ep, t, hm.heap S _ hSw ho, rest⟩))
  | succ k ih =>
    intro i s hk hi hst hS hR
    have hlt : i < n := by omega
    refine codeAny_builtin PyProof.Rows.F.entry_set_update_loop ?_
    rw [Around.under_plainId PyProof.Rows.F.plain_set_update_loop _]
    show wpAny _ A.in1 (pyNext (.ref I) >>= _) _ _ s
    refine wpAny_bind (W.item i s _ _ hlt hst fun v s' hP hst' hm => ?_)
    obtain ⟨t, rfl⟩ := hval i v hP
    have hS' : s'.heap.SetOf (strKind prog w) S (fun k' => (metS val i).any (· == k')) (metS val i).length := by
      obtain ⟨o, es, ep, tb, ho, rest⟩ := hS
      exact ⟨o, es, ep, tb, hm.heap S _ hSw ho, rest⟩
    show wpAny _ A.in1 (holding [Value.str (val i) t] (setAdd S (.str (val i) t)) >>= _) _ _ s'
    refine wpAny_bind (wpAny_holding ?_)
    unfold setAdd
    refine wpAny_holding ?_
    refine wpAny_bind ((strKind prog w).pyHash (k := val i) (strKind_is _ _ _ _) ?_)
    have hroom : (metS val i).length + 1 < scanBound := by have := metS_le val i; omega
    refine wpAny_setAddHashed_of (knd := strKind prog w) (s := { s' with toks := s'.toks + 1 }) (strKind_is _ _ _ _) rfl hS' hroom fun h' hsb hS2 => ?_
    have hSi : h'.SetOf (strKind prog w) S (fun k' => (metS val (i + 1)).any (· == k')) (metS val (i + 1)).length :=
      SetOf_congr hS2 (fun k' => by rw [metS_any]) (by rw [metS_len])
    refine wpAny_pure ⟨plainId_quiet PyProof.Rows.F.plain_set_update_loop _, ih (i + 1) _ (by omega) hlt (W.frame _ s' _ _ hst' (Nat.le_succ _) fun b hb o e => ?_) hSi fun s'' hm'' hS'' => ?_⟩
    · rw [hsb.2 b (fun h : b = S => hSf (by rw [← h]; exact hb))]; exact e
    · refine hR s'' (Moved.trans W.gtrans ((hm.mono hsub).then_heap (Nat.le_succ _) fun b o hb e => ?_) hm'') hS''
      rw [hsb.2 b (fun h : b = S => hb (by rw [h]; exact List.mem_cons_self))]; exact e
end
section
variable {prog : Program} {w : World} {A : Around} {E : Value → Shared → Prop} {s : Shared}
set_option maxHeartbeats 3200000 in
theorem call_set_str {l : List Nat} {t : Tok} {Q : Value → Shared → Prop} (hh : A.handled = none) (hb : l.length + 1 < scanBound)
    (h : ∀ (h' : Heap) (tk : Nat), h'.SetOf (strKind prog w) s.heap.objs.size (fun k' => (metS (sgnAt l) l.length).any (· == k')) (distN l) → (∀ b o, b < s.heap.objs.size → s.heap.get? b = some o → h'.get? b = some o) → Q (.ref s.heap.objs.size) { s with heap := h', toks := tk }) :
    wpAny (model prog w) A (call (.type "set") [.str ⟨l.toArray⟩ t]) Q E s := by
  obtain ⟨c, tl, hmro⟩ := PySem.F.called_set.mro
  have hmade := PySem.F.called_set.made
  have hsub := PySem.F.called_set.sub
  refine wpAny_call (codeAny_of_tree ?_)
  show wpAny _ _ (callAny (.type "set") _) _ _ _
  refine wpAny_pure ⟨Code.quiet_builtin _ (by decide +kernel), codeAny_builtin PySem.F.entry_type_call ?_⟩
  rw [Around.under_plain (weight_type_call_type "set" [.str ⟨l.toArray⟩ t] []) rfl]
  have h1 := PySem.F.called_set.notType
  have h2 := PySem.F.called_set.canCreate
  have hct := PySem.F.typeCall_set_1 (.str ⟨l.toArray⟩ t)
  repeat (any_goals (first | assumption | wp_step))
  refine codeAny_mono (code_set_new_1 (.str ⟨l.toArray⟩ t) (E := E) (Q₁ := fun obj s₁ => ∃ led : Bool, obj = .ref s.heap.objs.size ∧ s₁ = { s with heap := s.heap.push { cls := .type "set", dict := none, data := .set #[] 0 (.fresh 0 0 led) } }) fun led => ⟨led, rfl, rfl⟩) fun r s₁ hr => ?_
  cases r with
  | error e => exact hr
  | ok fl =>
    cases fl with
    | ret obj =>
      obtain ⟨led, rfl, rfl⟩ := hr
      have hS : (s.heap.push { cls := .type "set", dict := none, data := .set #[] 0 (.fresh 0 0 led) }).get? s.heap.objs.size = some { cls := .type "set", dict := none, data := .set #[] 0 (.fresh 0 0 led) } := Heap.get?_push_size _ rfl
      have hT : Shared.TypeIs { s with heap := s.heap.push { cls := .type "set", dict := none, data := .set #[] 0 (.fresh 0 0 led) } } (.ref s.heap.objs.size) "set" := ⟨_, hS, rfl⟩
      have hli := PySem.F.called_set.init.lookup
      have hbi := PySem.F.called_set.init.bind (.ref s.heap.objs.size)
      repeat (any_goals (first | assumption | wp_step))
      refine codeAny_mono (codeAny_call_builtin (R := wants (fun r s₂ => r = .none ∧ ∃ h' tk, s₂ = { s with heap := h', toks := tk } ∧
          h'.SetOf (strKind prog w) s.heap.objs.size (fun k' => (metS (sgnAt l) l.length).any (· == k')) (distN l) ∧
          (∀ b o, b < s.heap.objs.size → s.heap.get? b = some o → h'.get? b = some o)) E) PySem.F.called_set.init.plain PySem.F.entry_set_init (check_set_init_1 hT ?_)) fun r₂ s₂ hr₂ => ?_
      · have hsls := PySem.F.sub_str_set
        have hslf := PySem.F.sub_str_frozenset
        have hne : (Value.type "str" == Value.type "dict") = false := by decide
        unfold Builtin.«set.__init__» noKeywords Builtin.Frozenset.updateFrom
        generalize hPI : pyIter = PI
        wp_walk
        subst hPI
        refine pyIter_strS fun o St W hIo hst => ?_
        refine wpAny_bind (wpAny_runValue ?_)
        have hh3 : A.in1.in1.in1.handled = none := by simp [hh]
        have hSf : s.heap.objs.size ∉ [(s.heap.push { cls := .type "set", dict := none, data := .set #[] 0 (.fresh 0 0 led) }).objs.size] := by
          rw [Heap.size_push]; simp only [List.mem_singleton]
          exact Nat.ne_of_lt (Nat.lt_succ_self _)
        have hsz : (⟨l.toArray⟩ : Str).cps.size = l.length := by simp
        have hval : ∀ (i : Nat) (v : Value), SignAt ⟨l.toArray⟩ i v → ∃ t, v = .str (sgnAt l i) t := fun i v hv => by
          obtain ⟨c, u, hc, rfl⟩ := hv
          refine ⟨u, ?_⟩
          have hc' : l[i]? = some c := by simpa using hc
          unfold sgnAt
          rw [List.getD_eq_getElem?_getD, hc']; rfl
        refine set_loop ((W _ hh3).toS) s.heap.objs.size hSf (sgnAt l) hval (by rw [hsz]; exact hb) (l.length - 0) 0 _ (by rw [hsz]) (Nat.zero_le _) hst ?hS0 ?hR
        case hS0 =>
          exact SetOf_congr ((setObjOf_fresh (knd := strKind prog w) led).setOf (Heap.get?_push_of_some _ hS) (by unfold scanBound; omega)) (fun _ => rfl) rfl
        case hR =>
          intro s' hm hS'
          rw [hsz] at hS'
          obtain ⟨h', g', d', tk', os'⟩ := s'
          have eg : g' = s.gens := hm.gens
          have ed : d' = s.drawn := hm.drawn
          have eo : os' = s.os := hm.os
          subst eg; subst ed; subst eo
          show wpAny _ _ _ _ _ _
          refine wpAny_pure ?_
          show wpAny _ _ (ret Value.none) _ _ _
          refine wpAny_pure ⟨rfl, h', tk', rfl, hS', fun b o hb e => ?_⟩
          have hb1 : b ≠ s.heap.objs.size := Nat.ne_of_lt hb
          have hb2 : b ≠ (s.heap.push { cls := .type "set", dict := none, data := .set #[] 0 (.fresh 0 0 led) }).objs.size := by
            rw [Heap.size_push]; exact Nat.ne_of_lt (Nat.lt_succ_of_lt hb)
          exact hm.heap b o (by simp only [List.mem_cons, List.mem_singleton, List.not_mem_nil, or_false, not_or]; exact ⟨hb1, hb2⟩) (Heap.get?_push_of_some _ (Heap.get?_push_of_some _ e))
      · cases r₂ with
        | error e => exact hr₂
        | ok fl₂ =>
          cases fl₂ with
          | ret r =>
            obtain ⟨rfl, h', tk, rfl, hS', hk'⟩ := hr₂
            repeat (any_goals (first | assumption | wp_step))
            exact h _ _ hS' hk'
          | _ => exact hr₂.elim
    | _ => exact hr.elim
variable {h₀ : Heap} {L : Addr} {m : Str → Option Value} {news : Led}
theorem set_str_N {l : List Nat} {t : Tok} {Q : Value → Shared → Prop} (F : Fr h₀ L s.heap m) (N : News h₀ L s.heap news) (hh : A.handled = none) (hb : l.length + 1 < scanBound)
    (h : ∀ D h' (tk : Nat) o, Fr h₀ L h' m → News h₀ L h' ((D, o) :: news) → o.SetObjOf (strKind prog w) (fun k' => (metS (sgnAt l) l.length).any (· == k')) (distN l) → Q (.ref D) { s with heap := h', toks := tk }) :
    wpAny (model prog w) A (call (.type "set") [.str ⟨l.toArray⟩ t]) Q E s := by
  refine call_set_str hh hb fun h' tk hS hk => ?_
  obtain ⟨o, ho, hso⟩ := hS.objOf
  obtain ⟨oL, _, _, hL, _⟩ := F.ns
  have hLlt : L < s.heap.objs.size := Heap.lt_size hL
  refine h _ h' tk o ⟨F.ns.at' fun o' e => hk L o' hLlt e, fun b o' e => hk b o' (Heap.lt_size (F.keep b o' e)) (F.keep b o' e), F.above⟩ (fun p hp => ?_) hso
  rcases List.mem_cons.mp hp with rfl | hp
  · refine ⟨ho, Nat.ne_of_gt hLlt, ?_⟩
    cases hq : h₀.get? s.heap.objs.size with
    | none => rfl
    | some o' => exact absurd (Heap.lt_size (F.keep _ _ hq)) (Nat.lt_irrefl _)
  · exact ⟨hk _ _ (Heap.lt_size (N p hp).1) (N p hp).1, (N p hp).2.1, (N p hp).2.2⟩
theorem len_setN {D : Addr} {o : Obj} {S : Str → Bool} {n : Nat} {Q : Value → Shared → Prop} (N : News h₀ L s.heap news) (hm : (D, o) ∈ news) (hso : o.SetObjOf (strKind prog w) S n) (hn : n ≤ 4096)
    (h : Q (.int (n : Int) (s.toks + 1)) { s with toks := s.toks + 1 + 1 }) : wpAny (model prog w) A (call (.builtin "len") [.ref D]) Q E s := by
  obtain ⟨hex, es, ep, t, hd, _, _, he, hf⟩ := hso
  subst he
  exact PySem.call_len_set (N _ hm).1 hex hd hf (by omega) h
end
end
section
open PySem PySem.W PySem.Calls PySem.Spec PyProof.Rows PyProof.Rows.LCg PyProof.Rows.LCt
theorem rulesV30x0 : True := by
  k_with_none
  (k_with "mem in" => first | assumption | exact List.Mem.head _ | (refine List.Mem.tail _ ?_; walk_at "mem in"))
  (k_with "k ne" => (refine neN ?_; (try dsimp only); first | (with_reducible assumption) | exact neS (by with_reducible assumption) | omega))
  (k_with "k all" => (refine all_ne (by assumption) ?_; (try dsimp only); omega))
  (k_with "k mem" => assumption)
  (k_with "k all" => assumption)
  trivial
/-- the stretch [a, b) of a list -/
noncomputable def seg {α : Type} (l : List α) (a b : Int) : List α := (l.drop a.toNat).take (b - a).toNat
theorem tn_split {a b : Int} (h0 : 0 ≤ a) (h1 : a ≤ b) : b.toNat = a.toNat + (b - a).toNat := by
  rw [← Int.toNat_add h0 (Int.sub_nonneg_of_le h1), Int.add_comm, Int.sub_add_cancel]
theorem tn_le {b : Int} {n : Nat} (h : b ≤ (n : Int)) : b.toNat ≤ n := Int.toNat_le.mpr h
theorem tn_sub {a b : Int} (h0 : 0 ≤ a) (h1 : a ≤ b) : b.toNat - a.toNat = (b - a).toNat := by
  rw [tn_split h0 h1, Nat.add_sub_cancel_left]
theorem take_len {A X n : Nat} (h : A + X ≤ n) : min X (n - A) = X := Nat.min_eq_left (Nat.le_sub_of_add_le (by rw [Nat.add_comm]; exact h))
theorem seg_len {α : Type} {l : List α} {a b : Int} (h0 : 0 ≤ a) (h1 : a ≤ b) (h2 : b ≤ l.length) : (seg l a b).length = (b - a).toNat := by
  unfold seg
  rw [List.length_take, List.length_drop]
  exact take_len (by rw [← tn_split h0 h1]; exact tn_le h2)
theorem seg_map {α β : Type} (f : α → β) (l : List α) (a b : Int) : seg (l.map f) a b = (seg l a b).map f := by
  unfold seg; rw [List.map_take, List.map_drop]
theorem seg_get {α : Type} {l : List α} {a b : Int} {k : Nat} {x : α} (h : (seg l a b)[k]? = some x) : l[a.toNat + k]? = some x := by
  unfold seg at h
  have hk := (List.getElem?_eq_some_iff.mp h).1
  rw [List.length_take] at hk
  rw [List.getElem?_take_of_lt (by omega), List.getElem?_drop] at h
  exact h
theorem seg_bounds (n : Nat) {a b : Int} (h0 : 0 ≤ a) (h1 : a ≤ b) (h2 : b ≤ (n : Int)) : PySem.sliceBounds (some a) (some b) none n = ((a.toNat : Int), (b.toNat : Int), 1) := by
  simp only [PySem.sliceBounds, Option.getD_none, show (1 : Int) > 0 by decide, if_true, if_neg (show ¬ (a < 0) by omega), if_neg (show ¬ (b < 0) by omega)]
  congr 1
  · omega
  · congr 1
    omega
theorem HeardAre.seg {news : Led} {hs : List Value} {fss : List (List Nat)} (h : HeardAre news hs fss) (a b : Int) : HeardAre news (seg hs a b) (seg fss a b) := by
  refine ⟨by unfold Mine.seg; rw [List.length_take, List.length_drop, List.length_take, List.length_drop, h.1], fun k fs hk => ?_⟩
  obtain ⟨b', t1, t2, t3, x, y⟩ := h.2 _ fs (seg_get hk)
  refine ⟨b', t1, t2, t3, ?_, y⟩
  have hk' := (List.getElem?_eq_some_iff.mp hk).1
  unfold Mine.seg at hk' ⊢
  rw [List.length_take] at hk'
  rw [List.getElem?_take_of_lt (by omega), List.getElem?_drop]; exact x
section
variable {prog : Program} {w : World} {A : Around} {E : Value → Shared → Prop} {s : Shared} {h₀ : Heap} {L l : Addr} {m : Str → Option Value} {news : Led} {value slice : Expr}
theorem sliceN {lo : Obj} {ys : List Value} {a b : Int} {ta tb : Tok} {Q : Value → Shared → Prop} (F : Fr h₀ L s.heap m) (N : News h₀ L s.heap news) (hm : (l, lo) ∈ news) (ho : ListOb lo ys.toArray) (h0 : 0 ≤ a) (h1 : a ≤ b) (h2 : b ≤ ys.length) (h5 : ys.length ≤ 1000)
    (h : ∀ D h', Fr h₀ L h' m → News h₀ L h' ((D, PySem.W.listOf (seg ys a b).toArray 0) :: news) → (∀ p ∈ news, p.1 < D) → Q (.ref D) { s with heap := h' })
    (hs : subscripted slice false (.ref l) (.ref s.heap.objs.size) = operate [.ref s.heap.objs.size, .ref l] (getItem (.ref l) (.ref s.heap.objs.size))) (ht : ∀ r, letTemporaryGo value (.ref l) r = pure ()) :
    wpAny (model prog w) A (subscriptTail value slice (.ref l) (.ref s.heap.objs.size)) Q E { s with heap := s.heap.push { cls := .type "slice", data := .fields #[.int a ta, .int b tb, .none] } } := by
  refine kmk_slice F N (its := ys.toArray) (ho.at (N _ hm).1) (IsPart.int a ta) (IsPart.int b tb) (fun D h' F' N' l1 => h D h' F' ?_ l1) hs ht (by rw [List.size_toArray]; exact Nat.le_trans h5 (by decide))
  have e := kmk_pick_nat ys.toArray (a := a.toNat) (b := b.toNat) (seg_bounds ys.toArray.size h0 h1 (by rw [List.size_toArray]; exact h2))
  rw [e] at N'
  have e2 : b.toNat - a.toNat = (b - a).toNat := tn_sub h0 h1
  rw [e2] at N'
  exact N'
end
theorem sub_heard0 {prog : Program} {w : World} {A : Around} {E : Value → Shared → Prop} {s : Shared} {h₀ : Heap} {L l : Addr} {news : Led} {value slice : Expr} {fs : List Nat} {t1 t2 t3 : Nat} {u : Tok} {Q : Value → Shared → Prop} (N : News h₀ L s.heap news) (hm : (l, heardO fs t1 t2 t3) ∈ news) (h : Q (.str ⟨(codesOf fs).toArray⟩ t1) s)
    (hs : subscripted slice false (.ref l) (.int 0 u) = operate [.ref l, .int 0 u] (getItem (.ref l) (.int 0 u)) := by with_unfolding_all rfl) (hg : ∀ r, letTemporaryGo value (.ref l) r = pure () := by intro _; with_unfolding_all rfl) :
    wpAny (model prog w) A (subscriptTail value slice (.ref l) (.int 0 u)) Q E s :=
  item_tuple (j := 0) (items := #[.str ⟨(codesOf fs).toArray⟩ t1, .str ⟨(prepOf fs).toArray⟩ t2, lineV (vint (codesOf fs)) t3]) ⟨_, (N _ hm).1, rfl, _, rfl⟩ (by decide) (by decide) rfl rfl h hs hg
theorem sub_heard1 {prog : Program} {w : World} {A : Around} {E : Value → Shared → Prop} {s : Shared} {h₀ : Heap} {L l : Addr} {news : Led} {value slice : Expr} {fs : List Nat} {t1 t2 t3 : Nat} {u : Tok} {Q : Value → Shared → Prop} (N : News h₀ L s.heap news) (hm : (l, heardO fs t1 t2 t3) ∈ news) (h : Q (.str ⟨(prepOf fs).toArray⟩ t2) s)
    (hs : subscripted slice false (.ref l) (.int 1 u) = operate [.ref l, .int 1 u] (getItem (.ref l) (.int 1 u)) := by with_unfolding_all rfl) (hg : ∀ r, letTemporaryGo value (.ref l) r = pure () := by intro _; with_unfolding_all rfl) :
    wpAny (model prog w) A (subscriptTail value slice (.ref l) (.int 1 u)) Q E s :=
  item_tuple (j := 1) (items := #[.str ⟨(codesOf fs).toArray⟩ t1, .str ⟨(prepOf fs).toArray⟩ t2, lineV (vint (codesOf fs)) t3]) ⟨_, (N _ hm).1, rfl, _, rfl⟩ (by decide) (by decide) rfl rfl h hs hg
noncomputable def sumE : Expr := cArg (aVal (tEnd.getD 3 default))
noncomputable def distE : Expr := cArg (aVal (tEnd.getD 4 default))
noncomputable def widthE : Expr := aVal (tEnd.getD 0 default)
noncomputable def lwE : Expr := cRight (iTest (tEnd.getD 1 default))
theorem ints_snoc {ys : List Value} {ns : List Int} {n : Int} {t : Tok} (h : IntsAre ys ns) : IntsAre (ys ++ [.int n t]) (ns ++ [n]) := h.append (.cons _ _ .nil)
theorem map_take_snoc {α β : Type} {f : α → β} {l : List α} {i : Nat} {x : α} (h : l[i]? = some x) : (l.take (i + 1)).map f = (l.take i).map f ++ [f x] := by
  obtain ⟨hl, he⟩ := List.getElem?_eq_some_iff.mp h
  rw [List.take_succ_eq_append_getElem hl, he, List.map_append]; rfl
noncomputable def sumW (fss : List (List Nat)) (a b : Int) : Int := ((seg fss a b).map fun fs => ((codesOf fs).length : Int)).sum
theorem rulesV30x1 : True := by
  (k_with "eval ListComp" => (k_here; refine Stop.out ?_))
  (k_with "CompSrc" => (k_here; refine Stop.out ?_))
  (k_with "CompEnd" => (refine' LCg.CompEnd.intro ?ceF ?ceN _ (fun p hp => hp) ?ceO ?ceS ?_; (case ceF => k_asm); (case ceN => k_asm); (case ceO => first | assumption | (simp only [LCg.Off3, and_true]; assumption)); (case ceS => exact Or.inr ⟨_, List.Mem.head _, rfl, _, rfl⟩)))
  (k_with "subscriptTail Name Slice ref ref" => (k_here; (with_reducible show wpAny _ _ (subscriptTail _ (PySem.Expr.Slice _ _ none _) (Value.ref _) (Value.ref _)) _ _ _); k_dflt (refine' sliceN ?F ?N ?l ?o ?a ?b ?c ?d ?_ ?s ?t; (case F => k_asm); (case N => k_asm); (case l => assumption); (case o => exact lst_ob _); (case a => omega); (case b => omega); (case c => omega); (case d => omega); (case s => with_unfolding_all rfl); (case t => intro _; with_unfolding_all rfl)); intro Dz9 hz9 Fz9 Nz9 l1z9))
  (k_with "subscriptTail" => (k_here; (with_reducible show wpAny _ _ (subscriptTail _ _ (Value.ref _) (Value.int _ _)) _ _ _); k_dflt (first | ((with_reducible show wpAny _ _ (subscriptTail _ _ (Value.ref _) (Value.int 0 _)) _ _ _); refine' sub_heard0 ?N ?T ?_; (case N => k_asm); (case T => walk_at "mem in")) | ((with_reducible show wpAny _ _ (subscriptTail _ _ (Value.ref _) (Value.int 1 _)) _ _ _); refine' sub_heard1 ?N ?T ?_; (case N => k_asm); (case T => walk_at "mem in")))))
  (k_with "call builtin:sum" => (k_here; (with_reducible show wpAny _ _ (call (Value.builtin "sum") [Value.ref _]) _ _ _); refine Stop.out ?_))
  trivial
set_option maxHeartbeats 1000000 in
theorem sum_eval {w : World} {p : Program} {loose : List Str} {mean : ExcName → Option Value} {mg mb : Str → Option Value} {dp un : Nat} {gd : Option (List Code)} {outer : List Env} {A₀ : Around} {base h₀ : Heap} {L Dl : Addr} {rv tv bv wv : Option Value} {a b : Int} {ta tb : Tok} {s : Shared} {Q E : VP} {news : Led} {hs : List Value} {fss : List (List Nat)}
    (B : Below A₀ base outer h₀) (F : Fr h₀ L s.heap (mT rv (some (.ref Dl)) tv (some (.int a ta)) bv (some (.int b tb)) wv)) (X : (K w.params).In h₀) (N : News h₀ L s.heap news) (T₀ : Top p loose mean mg mb h₀)
    (h0 : 0 ≤ a) (hab : a ≤ b) (hb5 : b ≤ 5) (hl : (Dl, lst hs) ∈ news) (hH : HeardAre news hs fss) (hok : OkFigs fss)
    (hQ : ∀ (t : Tok) h' tk, Fr h₀ L h' (mT rv (some (.ref Dl)) tv (some (.int a ta)) bv (some (.int b tb)) wv) → News h₀ L h' news → Q (.int (sumW fss a b) t) { s with heap := h', toks := tk }) :
    wpAny (model PySem.Challenge.rw_wk0033_01.row.prog w) { handled := none, depth := dp, frames := some (envT L :: outer), guards := gd, units := un } (eval sumE (envT L)) Q E s := by
  revert X; k_fill; intro X
  unfold mT at F
  have h5 := hok.1
  have hlen : hs.length = 5 := by rw [hH.1]; exact h5
  have hS := hH.seg a b
  with_unfolding_all change wpAny _ _ (eval (Expr.Call (Expr.Name _ _) [Expr.ListComp (Expr.Call (Expr.Name _ _) [Expr.Subscript (Expr.Name _ _) _ _] _ _) [⟨Expr.Name _ _, Expr.Subscript (Expr.Name _ _) (Expr.Slice _ _ _ _) _, [], _⟩] _ _] _ _) _) _ _ _
  k_steps
  unfold Stop
  rename Fr h₀ L _ _ => F2
  refine LCg.ListComp_U (F₀ := F2) (by with_unfolding_all rfl) (by decide) (by rfl) (by decide) (by rfl) ?_
  k_steps
  unfold Stop
  rename Fr h₀ L _ _ => F3
  rename News h₀ L _ _ => N3
  refine src_ob rfl F3 N3 (.head _) (listOf_ob _ _) (by rw [List.size_toArray, hS.1, seg_len h0 hab (by omega)]; exact Nat.le_trans (show (b - a).toNat ≤ 5 by omega) (by decide)) fun g1 => ?_
  refine rest_c (fun i ys => IntsAre ys (((seg fss a b).take i).map fun fs => ((codesOf fs).length : Int))) .nil ?_ ?_
  · intro i ys v I oI C oC D m₂ h₁ tk₁ E' hi hP hI hC hx F1 N1 off ne
    have hi5 : i < (seg fss a b).length := by rw [← hS.1]; simpa using hi
    obtain ⟨b', t1, t2, t3, ev, hm⟩ := hS.2 i _ (List.getElem?_eq_getElem hi5)
    have hv : v = .ref b' := by
      have : (seg hs a b)[i]? = some v := by simpa using hP
      rw [ev] at this; injection this with this; exact this.symm
    subst hv
    replace hx : m₂ (Str.ofString "item") = some (.ref b') := hx
    k_steps
    have hf3 := (hok.2 _ (List.mem_of_getElem? (seg_get (List.getElem?_eq_getElem hi5)))).2.1
    have hle : (codesOf (seg fss a b)[i]).length ≤ 3 := by unfold codesOf; rw [List.length_map]; exact hf3
    refine PyProof.Rows.len_str (by show ¬ (((⟨(codesOf (seg fss a b)[i]).toArray⟩ : Str).cps.size : Int) ≥ _); rw [List.size_toArray]; omega) ?_
    show CompEnd _ _ _ _ _ _ _ _ _ _ _ _ (Value.int ((List.toArray _).size : Int) _) _
    rw [List.size_toArray]
    k_steps
    rw [map_take_snoc (List.getElem?_eq_getElem hi5)]
    exact ints_snoc hI
  · intro ys hys
    rw [show (seg hs a b).toArray.size = (seg fss a b).length by rw [List.size_toArray, hS.1], List.take_length] at hys
    k_steps
    unfold Stop
    rename News h₀ L _ _ => N4
    rename Fr h₀ L _ _ => F4
    refine LSm.sum_ints F4 N4 rfl ⟨_, (N4 _ (.head _)).1, rfl, _, rfl⟩ hys fun h' tk t' F5 N5 => ?_
    exact hQ t' h' tk F5 fun q hq => N5 q (.tail _ (.tail _ hq))
theorem join_flat {α : Type} (f : α → List Nat) : ∀ l : List α, Str.join ⟨#[]⟩ (l.map fun x => (⟨(f x).toArray⟩ : Str)) = ⟨(l.flatMap f).toArray⟩
  | [] => rfl
  | [x] => by simp [Str.join]
  | x :: y :: r => by
    have ih := join_flat f (y :: r)
    rw [List.map_cons, List.map_cons, PyProof.Rows.join_cons_cons]
    rw [List.map_cons] at ih
    rw [ih]
    show (⟨(f x).toArray ++ #[] ++ ((y :: r).flatMap f).toArray⟩ : Str) = _
    simp
noncomputable def preps (fss : List (List Nat)) (a b : Int) : List Nat := (seg fss a b).flatMap prepOf
noncomputable def distW (fss : List (List Nat)) (a b : Int) : Int := ((distN (preps fss a b) : Nat) : Int)
theorem preps_len {fss : List (List Nat)} (hok : OkFigs fss) {a b : Int} (h0 : 0 ≤ a) (h1 : a ≤ b) (h2 : b ≤ 5) : (preps fss a b).length ≤ 30 := by
  have key : ∀ l : List (List Nat), (∀ fs ∈ l, (prepOf fs).length ≤ 6) → (l.flatMap prepOf).length ≤ 6 * l.length := by
    intro l
    induction l with
    | nil => intro _; exact Nat.le_refl _
    | cons x r ih =>
      intro h
      rw [List.flatMap_cons, List.length_append, List.length_cons]
      have := ih fun fs hf => h fs (.tail _ hf)
      have := h x (.head _)
      omega
  have hl := seg_len (l := fss) h0 h1 (by rw [hok.1]; exact h2)
  have := key (seg fss a b) fun fs hf => by
    have hm : fs ∈ fss := List.mem_of_mem_drop (List.mem_of_mem_take hf)
    obtain ⟨_, x, y⟩ := hok.2 fs hm
    have := prep_len y
    omega
  unfold preps; omega
theorem rulesV30x2 : True := by
  (k_with "call builtin:str.join" => (k_here; refine Stop.out ?_))
  (k_with "call builtin:len" => (k_here; (with_reducible show wpAny _ _ (call (Value.builtin _) [Value.ref _]) _ _ _); refine Stop.out ?_))
  (k_with "call type:set" => (k_here; (with_reducible show wpAny _ _ (call (Value.type _) [Value.str _ _]) _ _ _); refine Stop.out ?_))
  trivial
set_option maxHeartbeats 1000000 in
theorem dist_eval {w : World} {p : Program} {loose : List Str} {mean : ExcName → Option Value} {mg mb : Str → Option Value} {dp un : Nat} {gd : Option (List Code)} {outer : List Env} {A₀ : Around} {base h₀ : Heap} {L Dl : Addr} {rv tv bv wv : Option Value} {a b : Int} {ta tb : Tok} {s : Shared} {Q E : VP} {news : Led} {hs : List Value} {fss : List (List Nat)}
    (B : Below A₀ base outer h₀) (F : Fr h₀ L s.heap (mT rv (some (.ref Dl)) tv (some (.int a ta)) bv (some (.int b tb)) wv)) (X : (K w.params).In h₀) (N : News h₀ L s.heap news) (T₀ : Top p loose mean mg mb h₀)
    (h0 : 0 ≤ a) (hab : a ≤ b) (hb5 : b ≤ 5) (hl : (Dl, lst hs) ∈ news) (hH : HeardAre news hs fss) (hok : OkFigs fss)
    (hQ : ∀ (t : Tok) h' tk, Fr h₀ L h' (mT rv (some (.ref Dl)) tv (some (.int a ta)) bv (some (.int b tb)) wv) → News h₀ L h' news → Q (.int (distW fss a b) t) { s with heap := h', toks := tk }) :
    wpAny (model PySem.Challenge.rw_wk0033_01.row.prog w) { handled := none, depth := dp, frames := some (envT L :: outer), guards := gd, units := un } (eval distE (envT L)) Q E s := by
  revert X; k_fill; intro X
  unfold mT at F
  have h5 := hok.1
  have hlen : hs.length = 5 := by rw [hH.1]; exact h5
  have hS := hH.seg a b
  with_unfolding_all change wpAny _ _ (eval (Expr.Call (Expr.Name _ _) [Expr.Call (Expr.Name _ _) [Expr.Call (Expr.Attribute _ _ _) [Expr.ListComp (Expr.Subscript (Expr.Name _ _) _ _) [⟨Expr.Name _ _, Expr.Subscript (Expr.Name _ _) (Expr.Slice _ _ _ _) _, [], _⟩] _ _] _ _] _ _] _ _) _) _ _ _
  k_steps
  unfold Stop
  rename Fr h₀ L _ _ => F2
  refine LCg.ListComp_U (F₀ := F2) (by with_unfolding_all rfl) (by decide) (by rfl) (by decide) (by rfl) ?_
  k_steps
  unfold Stop
  rename Fr h₀ L _ _ => F3
  rename News h₀ L _ _ => N3
  refine src_ob rfl F3 N3 (.head _) (listOf_ob _ _) (by rw [List.size_toArray, hS.1, seg_len h0 hab (by omega)]; exact Nat.le_trans (show (b - a).toNat ≤ 5 by omega) (by decide)) fun g1 => ?_
  refine rest_c (fun i ys => StrsAre ys (((seg fss a b).take i).map fun fs => (⟨(prepOf fs).toArray⟩ : Str))) .nil ?_ ?_
  · intro i ys v I oI C oC D m₂ h₁ tk₁ E' hi hP hI hC hx F1 N1 off ne
    have hi5 : i < (seg fss a b).length := by rw [← hS.1]; simpa using hi
    obtain ⟨b', t1, t2, t3, ev, hm⟩ := hS.2 i _ (List.getElem?_eq_getElem hi5)
    have hv : v = .ref b' := by
      have : (seg hs a b)[i]? = some v := by simpa using hP
      rw [ev] at this; injection this with this; exact this.symm
    subst hv
    replace hx : m₂ (Str.ofString "item") = some (.ref b') := hx
    k_steps
    rw [map_take_snoc (List.getElem?_eq_getElem hi5)]
    exact StrsAre.append' hI (.cons _ _ .nil)
  · intro ys hys
    rw [show (seg hs a b).toArray.size = (seg fss a b).length by rw [List.size_toArray, hS.1], List.take_length] at hys
    k_steps
    unfold Stop
    rename News h₀ L _ _ => N4
    rename Fr h₀ L _ _ => F4
    have hpl := preps_len hok h0 hab hb5
    refine join_listW (ys := (seg fss a b).map fun fs => (⟨(prepOf fs).toArray⟩ : Str)) ⟨_, (N4 _ (.head _)).1, rfl, _, rfl⟩ (by simpa using hys) (by decide) ?_ ?_
    · rw [List.map_map, List.length_map, seg_len h0 hab (by omega)]
      have : ((seg fss a b).map (Str.length ∘ fun fs => (⟨(prepOf fs).toArray⟩ : Str))).sum = (preps fss a b).length := by
        unfold preps
        rw [List.length_flatMap]
        congr 1
      rw [this]; omega
    intro tj kj
    have ej : Txt.join (Str.ofString "") ((seg fss a b).map fun fs => (⟨(prepOf fs).toArray⟩ : Str)) = ⟨(preps fss a b).toArray⟩ := by
      rw [show Str.ofString "" = ⟨#[]⟩ by decide]
      exact (StrLaws.glued_eq_join _ _).trans (join_flat prepOf _)
    rw [ej]
    generalize hp : preps fss a b = pl at *
    k_steps
    unfold Stop
    refine set_str_N (by k_asm) (by k_asm) rfl (by unfold scanBound; omega) fun D2 h2 tk2 o2 F5 N5 hso => ?_
    k_steps
    unfold Stop
    rename News h₀ L _ _ => N6
    rename Fr h₀ L _ _ => F6
    refine len_setN N6 (.head _) hso (by have := distN_le pl; omega) ?_
    subst hp
    exact hQ _ _ _ F6 fun q hq => N6 q (.tail _ (.tail _ (.tail _ hq)))
end
section
open PySem PySem.W PySem.Calls PySem.Spec PyProof.Rows PyProof.Rows.LCg PyProof.Rows.LCt
theorem rulesV31x0 : True := by
  k_with_none
  (k_with "k ne" => (refine neN ?_; (try dsimp only); first | (with_reducible assumption) | exact neS (by with_reducible assumption) | omega))
  (k_with "k all" => (refine all_ne (by assumption) ?_; (try dsimp only); omega))
  (k_with "k mem" => assumption)
  (k_with "k all" => assumption)
  trivial
noncomputable def linesOf (fss : List (List Nat)) : List (Option Nat) := fss.map fun fs => vint (codesOf fs)
noncomputable def widthW (fss : List (List Nat)) (a b : Int) : Int := ((widthN (seg (linesOf fss) a b) : Nat) : Int)
theorem m64 (c : Nat) : c % 64 ≤ 63 := Nat.le_of_lt_succ (Nat.mod_lt _ (by decide))
theorem vl2 {x y : Nat} (h : x ≤ 63) (g : y ≤ 63) : x * 64 + y ≤ 4095 := by omega
theorem vl3 {x y : Nat} (h : x ≤ 4095) (g : y ≤ 63) : x * 64 + y < 262144 := by omega
theorem vl1 {x : Nat} (h : x ≤ 4095) : x < 262144 := Nat.lt_of_le_of_lt h (by decide)
theorem vl0 {x : Nat} (h : x ≤ 63) : x < 262144 := Nat.lt_of_le_of_lt h (by decide)
theorem vint_lt {l : List Nat} (h : l.length ≤ 3) {n : Nat} (e : vint l = some n) : n < 262144 := by
  match l, h with
  | [], _ => cases e
  | [c], _ =>
    simp only [vint, vgo] at e
    split at e
    · injection e with e; subst e; exact vl0 (m64 _)
    · cases e
  | [c, d], _ =>
    simp only [vint, vgo] at e
    split at e
    · injection e with e; subst e; exact vl0 (m64 _)
    · split at e
      · injection e with e; subst e; exact vl1 (vl2 (m64 _) (m64 _))
      · cases e
  | [c, d, f], _ =>
    simp only [vint, vgo] at e
    split at e
    · injection e with e; subst e; exact vl0 (m64 _)
    · split at e
      · injection e with e; subst e; exact vl1 (vl2 (m64 _) (m64 _))
      · split at e
        · injection e with e; subst e; exact vl3 (vl2 (m64 _) (m64 _)) (m64 _)
        · cases e
  | _ :: _ :: _ :: _ :: _, h => simp at h
theorem topN_lt : ∀ {ls : List (Option Nat)}, (∀ n, some n ∈ ls → n < 262144) → topN ls < 262144
  | [], _ => by decide
  | none :: r, h => topN_lt (ls := r) fun n hn => h n (.tail _ hn)
  | some k :: r, h => by
    have := topN_lt (ls := r) fun n hn => h n (.tail _ hn)
    have := h k (.head _)
    show max k (topN r) < _
    omega
theorem seg_top {fss : List (List Nat)} (hok : OkFigs fss) (a b : Int) : topN (seg (linesOf fss) a b) < 262144 := by
  refine topN_lt fun n hn => ?_
  have hm : some n ∈ linesOf fss := List.mem_of_mem_drop (List.mem_of_mem_take hn)
  obtain ⟨fs, hf, e⟩ := List.mem_map.mp hm
  exact vint_lt (by unfold codesOf; rw [List.length_map]; exact (hok.2 fs hf).2.1) e
theorem rulesV31x1 : True := by
  (k_with "eval DictComp" => (k_here; refine Stop.out ?_))
  (k_with "call ref" => (k_here; refine Stop.out ?_))
  (k_with "subscriptTail Name Slice ref ref" => (k_here; (with_reducible show wpAny _ _ (subscriptTail _ (PySem.Expr.Slice _ _ none _) (Value.ref _) (Value.ref _)) _ _ _); k_dflt (refine' sliceN ?F ?N ?l ?o ?a ?b ?c ?d ?_ ?s ?t; (case F => k_asm); (case N => k_asm); (case l => assumption); (case o => exact lst_ob _); (case a => omega); (case b => omega); (case c => omega); (case d => omega); (case s => with_unfolding_all rfl); (case t => intro _; with_unfolding_all rfl)); intro Dz9 hz9 Fz9 Nz9 l1z9))
  trivial
set_option maxHeartbeats 1000000 in
theorem width_eval {w : World} {p : Program} {loose : List Str} {mean : ExcName → Option Value} {mg mb : Str → Option Value} {dp un : Nat} {gd : Option (List Code)} {outer : List Env} {A₀ : Around} {base h₀ : Heap} {L ll : Addr} {rv hv tv bv wv : Option Value} {a b : Int} {ta tb : Tok} {s : Shared} {Q E : VP} {news : Led} {ol : Obj} {ys : List Value} {fss : List (List Nat)}
    (B : Below A₀ base outer h₀) (F : Fr h₀ L s.heap (mT rv hv tv (some (.int a ta)) bv (some (.int b tb)) wv)) (X : (K w.params).In h₀) (N : News h₀ L s.heap news) (T₀ : Top p loose mean mg mb h₀) (hd : dp + 60 < recursionLimit) (hu : un + 600 < cLine) (hL : 1 ≤ L)
    (h0 : 0 ≤ a) (hab : a ≤ b) (hb5 : b ≤ 5) (hol : (L + 1, ol) ∈ news) (dl : ol.data = .cell (some (.ref ll))) (hll : (ll, lst ys) ∈ news) (hys : LinesAre ys (linesOf fss)) (hok : OkFigs fss)
    (hQ : ∀ (t : Tok) h' tk, Fr h₀ L h' (mT rv hv tv (some (.int a ta)) bv (some (.int b tb)) wv) → News h₀ L h' news → Q (.int (widthW fss a b) t) { s with heap := h', toks := tk }) :
    wpAny (model PySem.Challenge.rw_wk0033_01.row.prog w) { handled := none, depth := dp, frames := some (envT L :: outer), guards := gd, units := un } (eval widthE (envT L)) Q E s := by
  revert X; k_fill; intro X
  have h5 : (linesOf fss).length = 5 := by unfold linesOf; rw [List.length_map]; exact hok.1
  with_unfolding_all change wpAny _ _ (eval (Expr.Call (Expr.Name _ _) [Expr.DictComp _ _ _ _ _] _ _) _) _ _ _
  k_steps
  unfold Stop
  refine dict_eval (ls := linesOf fss) (by k_asm) (by k_asm) (by k_asm) (by k_asm) (by k_asm) h0 hab hb5 hol dl hll hys h5 ?_
  intro D od kvs h' tk hod hkv F2 N2 hne hLD
  k_steps
  unfold Stop
  refine Con.use (width_con w p loose mean mg mb D od kvs (seg (linesOf fss) a b) ((D, od) :: news) (.head _) hod hkv (seg_top hok a b) ?_) (by k_asm) (by k_asm) (by k_asm) (by k_asm) (by k_asm) rfl (by omega) (by omega) ?_
  · have h1 : sysModules < D := Nat.lt_of_le_of_lt hL hLD
    have : D ≠ sysModules := Nat.ne_of_gt h1
    simpa using this
  intro t h3 tk3 F3 N3
  exact hQ t h3 tk3 F3 fun q hq => N3 q (.tail _ hq)
set_option maxHeartbeats 1000000 in
theorem lw_eval {w : World} {p : Program} {loose : List Str} {mean : ExcName → Option Value} {mg mb : Str → Option Value} {dp un : Nat} {gd : Option (List Code)} {outer : List Env} {A₀ : Around} {base h₀ : Heap} {L ll : Addr} {rv hv tv bv wv : Option Value} {a b : Int} {ta tb : Tok} {s : Shared} {Q E : VP} {news : Led} {ol : Obj} {ys : List Value} {fss : List (List Nat)}
    (B : Below A₀ base outer h₀) (F : Fr h₀ L s.heap (mT rv hv tv (some (.int a ta)) bv (some (.int b tb)) wv)) (X : (K w.params).In h₀) (N : News h₀ L s.heap news) (T₀ : Top p loose mean mg mb h₀) (hd : dp + 60 < recursionLimit) (hu : un + 600 < cLine)
    (h0 : 0 ≤ a) (hab : a ≤ b) (hb5 : b ≤ 5) (hol : (L + 1, ol) ∈ news) (dl : ol.data = .cell (some (.ref ll))) (hll : (ll, lst ys) ∈ news) (hys : LinesAre ys (linesOf fss)) (hok : OkFigs fss)
    (hQ : ∀ (t : Tok) h' tk, Fr h₀ L h' (mT rv hv tv (some (.int a ta)) bv (some (.int b tb)) wv) → News h₀ L h' news → Q (.int (widthW fss a b) t) { s with heap := h', toks := tk }) :
    wpAny (model PySem.Challenge.rw_wk0033_01.row.prog w) { handled := none, depth := dp, frames := some (envT L :: outer), guards := gd, units := un } (eval lwE (envT L)) Q E s := by
  revert X; k_fill; intro X
  unfold mT at F
  have h5 : (linesOf fss).length = 5 := by unfold linesOf; rw [List.length_map]; exact hok.1
  have hlen : ys.length = 5 := by rw [hys.length]; exact h5
  with_unfolding_all change wpAny _ _ (eval (Expr.Call (Expr.Name _ _) [Expr.Subscript (Expr.Name _ _) (Expr.Slice _ _ _ _) _] _ _) _) _ _ _
  k_steps
  unfold Stop
  rename (∀ p ∈ news, p.1 < _) => l1
  refine Con.use (lwidth_con w p loose mean mg mb _ _ (seg ys a b) (seg (linesOf fss) a b) _ (.head _) (listOf_ob _ _) ((hys.drop _).take _) (seg_top hok a b) (by rw [seg_len h0 hab (by omega)]; omega)) (by k_asm) (by k_asm) (by k_asm) (by k_asm) (by k_asm) rfl (by omega) (by omega) ?_
  intro t h3 tk3 F3 N3
  exact hQ t h3 tk3 F3 fun q hq => N3 q (.tail _ hq)
end
section
open PySem PySem.W PySem.Calls PySem.Spec PyProof.Rows PyProof.Rows.LCg PyProof.Rows.LCt
theorem rulesV32x0 : True := by
  k_with_none
  (k_with "mem in" => first | assumption | exact List.Mem.head _ | (refine List.Mem.tail _ ?_; walk_at "mem in"))
  (k_with "k ne" => (refine neN ?_; (try dsimp only); first | (with_reducible assumption) | exact neS (by with_reducible assumption) | omega))
  (k_with "k all" => (refine all_ne (by assumption) ?_; (try dsimp only); omega))
  (k_with "k mem" => assumption)
  (k_with "k all" => assumption)
  trivial
theorem mT_w (rv hv tv fv bv ev wv v : Option Value) : (fun y => if y = Str.ofString "width" then v else mT rv hv tv fv bv ev wv y) = mT rv hv tv fv bv ev v := by
  funext y
  by_cases h : y = Str.ofString "width"
  · subst h; rfl
  · simp only [mT, h, if_false]
theorem mT_e (rv hv tv fv bv ev wv v : Option Value) : (fun y => if y = Str.ofString "end" then v else mT rv hv tv fv bv ev wv y) = mT rv hv tv fv bv v wv := by
  funext y
  by_cases h : y = Str.ofString "end"
  · subst h; rfl
  · simp only [mT, h, if_false]
theorem mT_f (rv hv tv fv bv ev wv v : Option Value) : (fun y => if y = Str.ofString "front" then v else mT rv hv tv fv bv ev wv y) = mT rv hv tv v bv ev wv := by
  funext y
  by_cases h : y = Str.ofString "front"
  · subst h; rfl
  · simp only [mT, h, if_false]
theorem mT_b (rv hv tv fv bv ev wv v : Option Value) : (fun y => if y = Str.ofString "table" then v else mT rv hv tv fv bv ev wv y) = mT rv hv tv fv v ev wv := by
  funext y
  by_cases h : y = Str.ofString "table"
  · subst h; rfl
  · simp only [mT, h, if_false]
section
variable {prog : Program} {w : World} {A : Around} {E : Value → Shared → Prop} {s : Shared} {h₀ : Heap} {L : Addr} {news : Led}
theorem sub_refrow {value slice : Expr} {l : Addr} {its : List Value} {k : Nat} {i : Int} {u : Tok} {v : Value} {Q : Value → Shared → Prop} (N : News h₀ L s.heap news) (hm : (l, PySem.W.listOf its.toArray k) ∈ news) (h0 : 0 ≤ i) (h1 : i ≤ 1000) (hx : its[i.toNat]? = some v) (h : Q v s)
    (hs : subscripted slice false (.ref l) (.int i u) = operate [.ref l, .int i u] (getItem (.ref l) (.int i u)) := by with_unfolding_all rfl) :
    wpAny (model prog w) A (subscriptTail value slice (.ref l) (.int i u)) Q E s :=
  sub_list ⟨_, (N _ hm).1, rfl, _, rfl⟩ (by omega) (by omega) hx h hs
end
theorem rulesV32x1 : True := by
  (k_with "eval Call" => (k_here; (first | (with_reducible show wpAny _ _ (eval (Expr.Call (Expr.Name _ _) [Expr.DictComp _ _ _ _ _] _ _) _) _ _ _) | (with_reducible show wpAny _ _ (eval (Expr.Call (Expr.Name _ _) [Expr.Subscript _ _ _] _ _) _) _ _ _) | (with_reducible show wpAny _ _ (eval (Expr.Call (Expr.Name _ _) [Expr.ListComp _ _ _ _] _ _) _) _ _ _) | (with_reducible show wpAny _ _ (eval (Expr.Call (Expr.Name _ _) [Expr.Call _ _ _ _] _ _) _) _ _ _)); refine Stop.out ?_))
  (k_with "subscriptTail" => (k_here; (with_reducible show wpAny _ _ (subscriptTail _ _ (Value.ref _) (Value.int _ _)) _ _ _); k_dflt (first | (refine' sub_made ?N ?T ?h0 ?_; (case N => k_asm); (case T => walk_at "mem in"); (case h0 => decide); (try simp only [if_true, show ¬ ((1 : Int) = 0) by decide, show ¬ ((2 : Int) = 0) by decide, show ¬ ((2 : Int) = 1) by decide, if_false])) | (refine' sub_refrow ?N ?T ?h0 ?h1 ?hx ?_; (case N => k_asm); (case T => walk_at "mem in"); (case h0 => omega); (case h1 => omega); (case hx => assumption)))))
  trivial
set_option maxHeartbeats 2000000 in
theorem end_turn {w : World} {p : Program} {loose : List Str} {mean : ExcName → Option Value} {mg mb : Str → Option Value} {dp un : Nat} {gd : Option (List Code)} {outer : List Env} {A₀ : Around} {base h₀ : Heap} {L ll Dl tl a0 a1 a2 r0 r1 r2 I : Addr} {rv bv wv : Option Value} {a b : Int} {ta tb : Tok} {s : Shared} {Q : Flow → Shared → Prop} {E : VP} {more : Led} {ol io : Obj} {ys hs rows0 rows1 rows2 vs0 vs1 vs2 : List Value} {kt ka0 ka1 ka2 k0 k1 k2 : Nat} {fss : List (List Nat)}
    (B : Below A₀ base outer h₀) (F : Fr h₀ L s.heap (mT rv (some (.ref Dl)) (some (.ref tl)) (some (.int a ta)) bv (some (.int b tb)) wv)) (X : (K w.params).In h₀) (T₀ : Top p loose mean mg mb h₀) (hd : dp + 60 < recursionLimit) (hu : un + 600 < cLine) (hL : 1 ≤ L)
    (N : News h₀ L s.heap ((I, io) :: (r2, PySem.W.listOf vs2.toArray k2) :: (r1, PySem.W.listOf vs1.toArray k1) :: (r0, PySem.W.listOf vs0.toArray k0) :: more))
    (h0 : 0 ≤ a) (hab : a ≤ b) (hb5 : b ≤ 5) (hol : (L + 1, ol) ∈ more) (dl : ol.data = .cell (some (.ref ll))) (hll : (ll, lst ys) ∈ more) (hys : LinesAre ys (linesOf fss)) (hok : OkFigs fss) (hDl : (Dl, lst hs) ∈ more) (hH : HeardAre more hs fss)
    (htl : (tl, PySem.W.listOf #[.ref a0, .ref a1, .ref a2] kt) ∈ more) (ha0 : (a0, PySem.W.listOf rows0.toArray ka0) ∈ more) (ha1 : (a1, PySem.W.listOf rows1.toArray ka1) ∈ more) (ha2 : (a2, PySem.W.listOf rows2.toArray ka2) ∈ more)
    (hr0 : rows0[a.toNat]? = some (.ref r0)) (hr1 : rows1[a.toNat]? = some (.ref r1)) (hr2 : rows2[a.toNat]? = some (.ref r2))
    (e01 : @Ne Nat r0 r1) (e02 : @Ne Nat r0 r2) (e12 : @Ne Nat r1 r2) (eI0 : @Ne Nat r0 I) (eI1 : @Ne Nat r1 I) (eI2 : @Ne Nat r2 I) (n0 : ∀ p ∈ more, p.1 ≠ r0) (n1 : ∀ p ∈ more, p.1 ≠ r1) (n2 : ∀ p ∈ more, p.1 ≠ r2)
    (z0 : vs0.length ≤ 6) (z1 : vs1.length ≤ 6) (z2 : vs2.length ≤ 6)
    (hQ : ∀ h' tk t0 t1 t2 m', m' = mT rv (some (.ref Dl)) (some (.ref tl)) (some (.int a ta)) bv (some (.int b tb)) (some (.int (widthW fss a b) t0)) → Fr h₀ L h' m' →
      News h₀ L h' ((I, io) :: (r2, PySem.W.listOf (vs2.toArray.push (.int (distW fss a b) t2)) (k2 + 1)) :: (r1, PySem.W.listOf (vs1.toArray.push (.int (sumW fss a b) t1)) (k1 + 1)) :: (r0, PySem.W.listOf (vs0.toArray.push (.int (widthW fss a b) t0)) (k0 + 1)) :: more) → Q .next { s with heap := h', toks := tk }) :
    wpAny (model PySem.Challenge.rw_wk0033_01.row.prog w) { handled := none, depth := dp, frames := some (envT L :: outer), guards := gd, units := un } (execs tEnd (envT L)) Q E s := by
  revert X; k_fill; intro X
  with_unfolding_all change wpAny _ _ (execs [Stmt.Assign [Expr.Name _ _] _ _, Stmt.If _ _ _ _, Stmt.Expr _ _, Stmt.Expr _ _, Stmt.Expr _ _] _) _ _ _
  k_steps
  unfold Stop
  refine width_eval (ys := ys) (fss := fss) (by k_asm) F (by k_asm) (by k_asm) (by k_asm) (by omega) (by omega) hL h0 hab hb5 (by walk_at "mem in") dl (by walk_at "mem in") hys hok ?_
  intro t0 h1 tk1 F1 N1
  unfold mT at F1
  k_steps
  unfold Stop
  rename Fr h₀ L _ _ => F2
  have F3 := (mT_w rv (some (.ref Dl)) (some (.ref tl)) (some (.int a ta)) bv (some (.int b tb)) wv (some (.int (widthW fss a b) t0))) ▸ (F2 : Fr h₀ L _ (fun y => if y = Str.ofString "width" then some (Value.int (widthW fss a b) t0) else mT rv (some (.ref Dl)) (some (.ref tl)) (some (.int a ta)) bv (some (.int b tb)) wv y))
  clear F2
  refine lw_eval (ys := ys) (fss := fss) (by k_asm) F3 (by k_asm) (by k_asm) (by k_asm) (by omega) (by omega) h0 hab hb5 (by walk_at "mem in") dl (by walk_at "mem in") hys hok ?_
  intro t4 h4 tk4 F4 N4
  generalize hwn : widthW fss a b = wn at *
  unfold mT at F4
  k_steps
  · exact absurd rfl (by assumption)
  unfold Stop
  rename Fr h₀ L _ _ => F5
  refine sum_eval (hs := hs) (fss := fss) (by k_asm) F5 (by k_asm) (by k_asm) (by k_asm) h0 hab hb5 (by walk_at "mem in") (hH.mono fun q hq => by walk_at "mem in") hok ?_
  intro t6 h6 tk6 F6 N6
  generalize hsn : sumW fss a b = sn at *
  unfold mT at F6
  k_steps
  unfold Stop
  rename Fr h₀ L _ _ => F7
  refine dist_eval (hs := hs) (fss := fss) (by k_asm) F7 (by k_asm) (by k_asm) (by k_asm) h0 hab hb5 (by walk_at "mem in") (hH.mono fun q hq => by walk_at "mem in") hok ?_
  intro t8 h8 tk8 F8 N8
  generalize hdn : distW fss a b = dn at *
  unfold mT at F8
  k_steps
  rename Fr h₀ L _ _ => F9
  rename News h₀ L _ _ => N9
  exact hQ _ _ t0 t6 t8 _ rfl F9 N9
/-- a row of a table as it stands: the worths of the stretches that begin at f and end before n -/
noncomputable def rowI (W : Int → Int → Int) (f : Int) (n : Nat) : List Int := (List.range n).map fun e : Nat => if (e : Int) < f then 0 else W f e
theorem rowI_snoc (W : Int → Int → Int) (f : Int) {n : Nat} (h : f ≤ n) : rowI W f (n + 1) = rowI W f n ++ [W f n] := by
  unfold rowI
  rw [List.range_succ, List.map_append]
  show _ ++ [if ((n : Int) < f) then 0 else W f n] = _
  rw [if_neg (by omega)]
theorem rowI_len (W : Int → Int → Int) (f : Int) (n : Nat) : (rowI W f n).length = n := by unfold rowI; simp
theorem rowI_zero (W : Int → Int → Int) (f : Nat) : rowI W (f : Int) f = List.replicate f 0 := by
  unfold rowI
  refine List.ext_getElem (by simp) fun i h1 h2 => ?_
  simp only [List.length_map, List.length_range] at h1
  simp only [List.getElem_map, List.getElem_range, List.getElem_replicate]
  rw [if_pos (by omega)]
structure EndIn (fss : List (List Nat)) (rv : Option Value) (Dl tl : Addr) (a : Int) (ta : Tok) (bv : Option Value) (r0 r1 r2 : Addr) (more : Led) (i : Nat) (m₁ : Str → Option Value) (news₁ : Led) : Prop where
  ex : ∃ (vs0 vs1 vs2 : List Value) (k0 k1 k2 : Nat) (ev wv : Option Value), news₁ = (r2, PySem.W.listOf vs2.toArray k2) :: (r1, PySem.W.listOf vs1.toArray k1) :: (r0, PySem.W.listOf vs0.toArray k0) :: more ∧
    IntsAre vs0 (rowI (widthW fss) a (a.toNat + i)) ∧ IntsAre vs1 (rowI (sumW fss) a (a.toNat + i)) ∧ IntsAre vs2 (rowI (distW fss) a (a.toNat + i)) ∧ m₁ = mT rv (some (.ref Dl)) (some (.ref tl)) (some (.int a ta)) bv ev wv
noncomputable def endS : Stmt := tFor.getD 1 default
theorem rulesV32x2 : True := by
  (k_with "pyIter ref" => (k_here; refine Stop.out ?_))
  (k_with "ItAt" => (k_here; refine Stop.out ?_))
  trivial
set_option maxHeartbeats 2000000 in
theorem end_loop {w : World} {p : Program} {loose : List Str} {mean : ExcName → Option Value} {mg mb : Str → Option Value} {dp un : Nat} {gd : Option (List Code)} {outer : List Env} {A₀ : Around} {base h₀ : Heap} {L ll Dl tl a0 a1 a2 r0 r1 r2 : Addr} {rv bv ev wv : Option Value} {a : Int} {ta : Tok} {s : Shared} {Q : Flow → Shared → Prop} {E : VP} {more : Led} {ol : Obj} {ys hs rows0 rows1 rows2 vs0 vs1 vs2 : List Value} {kt ka0 ka1 ka2 k0 k1 k2 : Nat} {fss : List (List Nat)}
    (B : Below A₀ base outer h₀) (F : Fr h₀ L s.heap (mT rv (some (.ref Dl)) (some (.ref tl)) (some (.int a ta)) bv ev wv)) (X : (K w.params).In h₀) (T₀ : Top p loose mean mg mb h₀) (hd : dp + 60 < recursionLimit) (hu : un + 600 < cLine) (hL : 1 ≤ L)
    (N : News h₀ L s.heap ((r2, PySem.W.listOf vs2.toArray k2) :: (r1, PySem.W.listOf vs1.toArray k1) :: (r0, PySem.W.listOf vs0.toArray k0) :: more))
    (h0 : 0 ≤ a) (ha5 : a ≤ 5) (hol : (L + 1, ol) ∈ more) (dl : ol.data = .cell (some (.ref ll))) (hll : (ll, lst ys) ∈ more) (hys : LinesAre ys (linesOf fss)) (hok : OkFigs fss) (hDl : (Dl, lst hs) ∈ more) (hH : HeardAre more hs fss)
    (htl : (tl, PySem.W.listOf #[.ref a0, .ref a1, .ref a2] kt) ∈ more) (ha0 : (a0, PySem.W.listOf rows0.toArray ka0) ∈ more) (ha1 : (a1, PySem.W.listOf rows1.toArray ka1) ∈ more) (ha2 : (a2, PySem.W.listOf rows2.toArray ka2) ∈ more)
    (hr0 : rows0[a.toNat]? = some (.ref r0)) (hr1 : rows1[a.toNat]? = some (.ref r1)) (hr2 : rows2[a.toNat]? = some (.ref r2))
    (e01 : @Ne Nat r0 r1) (e02 : @Ne Nat r0 r2) (e12 : @Ne Nat r1 r2) (n0 : ∀ p ∈ more, p.1 ≠ r0) (n1 : ∀ p ∈ more, p.1 ≠ r1) (n2 : ∀ p ∈ more, p.1 ≠ r2)
    (i0 : IntsAre vs0 (List.replicate a.toNat 0)) (i1 : IntsAre vs1 (List.replicate a.toNat 0)) (i2 : IntsAre vs2 (List.replicate a.toNat 0))
    (hQ : ∀ h' tk m' news', EndIn fss rv Dl tl a ta bv r0 r1 r2 more (6 - a.toNat) m' news' → Fr h₀ L h' m' → News h₀ L h' news' → Q .next { s with heap := h', toks := tk })
    (hE : PassesOwn (model PySem.Challenge.rw_wk0033_01.row.prog w) { handled := none, depth := dp, frames := some (envT L :: outer), guards := gd, units := un } (envT L) E) :
    wpAny (model PySem.Challenge.rw_wk0033_01.row.prog w) { handled := none, depth := dp, frames := some (envT L :: outer), guards := gd, units := un } (exec endS (envT L)) Q E s := by
  revert X; k_fill; intro X
  obtain ⟨an, rfl⟩ : ∃ an : Nat, a = (an : Int) := ⟨a.toNat, by omega⟩
  rw [Int.toNat_natCast] at *
  have F' : Fr h₀ L s.heap (fun y => mT rv (some (.ref Dl)) (some (.ref tl)) (some (.int (an : Int) ta)) bv ev wv y) := F
  unfold mT at F'
  clear F
  with_unfolding_all change wpAny _ _ (exec (Stmt.For (Expr.Name _ _) (Expr.Call (Expr.Name _ _) [Expr.Name _ _, _] _ _) _ _ _) _) _ _ _
  refine for_it (by k_asm) rfl rfl ?_ (by intro _; rfl) hE
  k_steps
  unfold Stop
  rename News h₀ L _ _ => N2
  rename Fr h₀ L _ _ => F2
  refine it_range (n := 6 - an) rfl (by assumption) F2 N2 (small_in (by omega) (by omega) (by decide) (by decide)) (range_n (by omega)) (fun _ => EndIn fss rv Dl tl (an : Int) ta bv r0 r1 r2 more) ?_ ?_ ?_ hE
  · refine ⟨vs0, vs1, vs2, k0, k1, k2, ev, wv, rfl, ?_, ?_, ?_, rfl⟩ <;>
    · rw [Int.toNat_natCast, Nat.add_zero, rowI_zero]; assumption
  · intro I i t' m₁ news₁ h tk io hI hi J hn F1 N1
    obtain ⟨us0, us1, us2, q0, q1, q2, ev1, wv1, rfl, j0, j1, j2, rfl⟩ := J.ex
    have F3 := (mT_e rv (some (.ref Dl)) (some (.ref tl)) (some (.int (an : Int) ta)) bv ev1 wv1 (some (.int ((an : Int) + (i : Int)) t'))) ▸ F1
    have hni : @Ne Nat r2 I := hn _ (.head _)
    have hni1 : @Ne Nat r1 I := hn _ (.tail _ (.head _))
    have hni0 : @Ne Nat r0 I := hn _ (.tail _ (.tail _ (.head _)))
    have l0 := j0.length
    have l1 := j1.length
    have l2 := j2.length
    rw [rowI_len, Int.toNat_natCast] at l0 l1 l2
    refine end_turn (a := (an : Int)) (b := (an : Int) + (i : Int)) B F3 (by k_asm) T₀ hd hu hL N1 h0 (by omega) (by omega) hol dl hll hys hok hDl hH htl ha0 ha1 ha2 (by rw [Int.toNat_natCast]; exact hr0) (by rw [Int.toNat_natCast]; exact hr1) (by rw [Int.toNat_natCast]; exact hr2)
      e01 e02 e12 hni0 hni1 hni n0 n1 n2 (by omega) (by omega) (by omega) ?_
    intro h' tk' t0 t1 t2 m' hm' F4 N4
    have p0 : us0.toArray.push (Value.int (widthW fss (an : Int) ((an : Int) + (i : Int))) t0) = (us0 ++ [Value.int (widthW fss (an : Int) ((an : Int) + (i : Int))) t0]).toArray := by simp
    have p1 : us1.toArray.push (Value.int (sumW fss (an : Int) ((an : Int) + (i : Int))) t1) = (us1 ++ [Value.int (sumW fss (an : Int) ((an : Int) + (i : Int))) t1]).toArray := by simp
    have p2 : us2.toArray.push (Value.int (distW fss (an : Int) ((an : Int) + (i : Int))) t2) = (us2 ++ [Value.int (distW fss (an : Int) ((an : Int) + (i : Int))) t2]).toArray := by simp
    rw [p0, p1, p2] at N4
    refine step_next F4 N4 (fun p hp => ?_) ⟨_, _, _, _, _, _, _, _, rfl, ?_, ?_, ?_, hm'⟩
    · simp only [List.mem_cons] at hp
      rcases hp with rfl | rfl | rfl | hp
      · exact hni
      · exact hni1
      · exact hni0
      · exact hn _ (.tail _ (.tail _ (.tail _ hp)))
    · rw [Int.toNat_natCast, ← Nat.add_assoc, rowI_snoc _ _ (by omega), Int.natCast_add]
      exact ints_snoc (by rw [Int.toNat_natCast] at j0; exact j0)
    · rw [Int.toNat_natCast, ← Nat.add_assoc, rowI_snoc _ _ (by omega), Int.natCast_add]
      exact ints_snoc (by rw [Int.toNat_natCast] at j1; exact j1)
    · rw [Int.toNat_natCast, ← Nat.add_assoc, rowI_snoc _ _ (by omega), Int.natCast_add]
      exact ints_snoc (by rw [Int.toNat_natCast] at j2; exact j2)
  · intro h' tk m' news' F1 N1 J
    exact hQ h' tk m' news' J F1 N1
end
section
open PySem PySem.W PySem.Calls PySem.Spec PyProof.Rows PyProof.Rows.LCg PyProof.Rows.LCt
theorem rulesV33x0 : True := by
  k_with_none
  (k_with "k ne" => (refine neN ?_; (try dsimp only); first | (with_reducible assumption) | exact neS (by with_reducible assumption) | omega))
  (k_with "k all" => (refine all_ne (by assumption) ?_; (try dsimp only); omega))
  (k_with "k mem" => assumption)
  (k_with "k all" => assumption)
  trivial
noncomputable def padB : List Stmt := fBody (tFor.getD 0 default)
theorem zeros_are (n : Nat) (t : Tok) : IntsAre (List.replicate n [Value.int 0 t]).flatten (List.replicate n 0) := by
  induction n with
  | zero => exact .nil
  | succ n ih => exact .cons 0 t ih
theorem allLt_mem {d : Addr} : ∀ {l : Led}, AllLt d l → ∀ p ∈ l, p.1 < d
  | [], _, _, h => nomatch h
  | _ :: _, x, q, h => by
    rcases List.mem_cons.mp h with rfl | h
    · exact x.1
    · exact allLt_mem x.2 q h
theorem pad_fin {h₀ h' : Heap} {L ad D l' : Addr} {m : Str → Option Value} {rows zs : List Value} {k tk : Nat} {a : Int} {lo : Obj} {more : Led} {s : Shared} {Q : Flow → Shared → Prop} (F : Fr h₀ L h' m) (N : News h₀ L h' ((D, PySem.W.listOf zs.toArray 0) :: (l', lo) :: (ad, PySem.W.listOf (rows.toArray.push (.ref D)) (k + 1)) :: more))
    (hz : IntsAre zs (List.replicate a.toNat 0)) (l1 : (@LT.lt Nat _ l' D) ∧ (@LT.lt Nat _ ad D) ∧ AllLt D more)
    (hQ : ∀ D h' tk zs kz, IntsAre zs (List.replicate a.toNat 0) → (∀ p ∈ (ad, PySem.W.listOf rows.toArray k) :: more, p.1 ≠ D) → Fr h₀ L h' m →
      News h₀ L h' ((ad, PySem.W.listOf (rows.toArray.push (.ref D)) (k + 1)) :: (D, PySem.W.listOf zs.toArray kz) :: more) → Q .next { s with heap := h', toks := tk }) : Q .next { s with heap := h', toks := tk } := by
  refine hQ D h' tk zs 0 hz (fun p hp => ?_) F (fun q hq => N q ?_)
  · rcases List.mem_cons.mp hp with rfl | hp
    · exact Nat.ne_of_lt l1.2.1
    · exact Nat.ne_of_lt (allLt_mem l1.2.2 p hp)
  · simp only [List.mem_cons] at hq ⊢
    rcases hq with h | h | h <;> simp only [h, true_or, or_true]
set_option maxHeartbeats 2000000 in
theorem pad_turn {w : World} {p : Program} {loose : List Str} {mean : ExcName → Option Value} {mg mb : Str → Option Value} {dp un : Nat} {gd : Option (List Code)} {outer : List Env} {A₀ : Around} {base h₀ : Heap} {L ad : Addr} {rv hv tv ev wv : Option Value} {a : Int} {ta : Tok} {s : Shared} {Q : Flow → Shared → Prop} {E : VP} {more : Led} {rows : List Value} {k : Nat}
    (B : Below A₀ base outer h₀) (F : Fr h₀ L s.heap (mT rv hv tv (some (.int a ta)) (some (.ref ad)) ev wv)) (X : (K w.params).In h₀) (T₀ : Top p loose mean mg mb h₀)
    (N : News h₀ L s.heap ((ad, PySem.W.listOf rows.toArray k) :: more)) (h0 : 0 ≤ a) (ha5 : a ≤ 5) (hne : ∀ p ∈ more, p.1 ≠ ad) (hl : rows.length ≤ 6)
    (hQ : ∀ D h' tk zs kz, IntsAre zs (List.replicate a.toNat 0) → (∀ p ∈ (ad, PySem.W.listOf rows.toArray k) :: more, p.1 ≠ D) → Fr h₀ L h' (mT rv hv tv (some (.int a ta)) (some (.ref ad)) ev wv) →
      News h₀ L h' ((ad, PySem.W.listOf (rows.toArray.push (.ref D)) (k + 1)) :: (D, PySem.W.listOf zs.toArray kz) :: more) → Q .next { s with heap := h', toks := tk }) :
    wpAny (model PySem.Challenge.rw_wk0033_01.row.prog w) { handled := none, depth := dp, frames := some (envT L :: outer), guards := gd, units := un } (execs padB (envT L)) Q E s := by
  revert X; k_fill; intro X
  unfold mT at F
  with_unfolding_all change wpAny _ _ (execs [Stmt.Expr _ _] _) _ _ _
  k_steps
  rename News h₀ L _ _ => N2
  rename Fr h₀ L _ _ => F2
  exact pad_fin F2 N2 (zeros_are _ _) (by assumption) hQ
section
variable {c x1 x2 x3 x4 x5 x6 : Addr} {o1 o2 o3 o4 o5 o6 : Obj} {l : Led}
theorem ne3 (h1 : x1 ≠ c) (h2 : x2 ≠ c) (h3 : x3 ≠ c) (h : ∀ p ∈ l, p.1 ≠ c) : ∀ p ∈ (x1, o1) :: (x2, o2) :: (x3, o3) :: l, p.1 ≠ c := List.forall_mem_cons.mpr ⟨h1, List.forall_mem_cons.mpr ⟨h2, List.forall_mem_cons.mpr ⟨h3, h⟩⟩⟩
theorem mk4 (h1 : x1 ≠ c) (h2 : x2 ≠ c) (h3 : x3 ≠ c) (h4 : x4 ≠ c) (h : ∀ p ∈ l, p.1 ≠ c) : ∀ p ∈ (x1, o1) :: (x2, o2) :: (x3, o3) :: (x4, o4) :: l, p.1 ≠ c := List.forall_mem_cons.mpr ⟨h1, ne3 h2 h3 h4 h⟩
theorem mk5 (h1 : x1 ≠ c) (h2 : x2 ≠ c) (h3 : x3 ≠ c) (h4 : x4 ≠ c) (h5 : x5 ≠ c) (h : ∀ p ∈ l, p.1 ≠ c) : ∀ p ∈ (x1, o1) :: (x2, o2) :: (x3, o3) :: (x4, o4) :: (x5, o5) :: l, p.1 ≠ c := List.forall_mem_cons.mpr ⟨h1, mk4 h2 h3 h4 h5 h⟩
theorem mk6 (h1 : x1 ≠ c) (h2 : x2 ≠ c) (h3 : x3 ≠ c) (h4 : x4 ≠ c) (h5 : x5 ≠ c) (h6 : x6 ≠ c) (h : ∀ p ∈ l, p.1 ≠ c) : ∀ p ∈ (x1, o1) :: (x2, o2) :: (x3, o3) :: (x4, o4) :: (x5, o5) :: (x6, o6) :: l, p.1 ≠ c := List.forall_mem_cons.mpr ⟨h1, mk5 h2 h3 h4 h5 h6 h⟩
theorem ne3' (h : ∀ p ∈ (x1, o1) :: (x2, o2) :: (x3, o3) :: l, p.1 ≠ c) : x1 ≠ c ∧ x2 ≠ c ∧ x3 ≠ c ∧ ∀ p ∈ l, p.1 ≠ c :=
  ⟨h _ (.head _), h _ (.tail _ (.head _)), h _ (.tail _ (.tail _ (.head _))), fun p hp => h p (.tail _ (.tail _ (.tail _ hp)))⟩
theorem ne4 (h : ∀ p ∈ (x1, o1) :: (x2, o2) :: (x3, o3) :: (x4, o4) :: l, p.1 ≠ c) : x1 ≠ c ∧ x2 ≠ c ∧ x3 ≠ c ∧ x4 ≠ c ∧ ∀ p ∈ l, p.1 ≠ c :=
  ⟨h _ (.head _), ne3' fun p hp => h p (.tail _ hp)⟩
theorem ne5 (h : ∀ p ∈ (x1, o1) :: (x2, o2) :: (x3, o3) :: (x4, o4) :: (x5, o5) :: l, p.1 ≠ c) : x1 ≠ c ∧ x2 ≠ c ∧ x3 ≠ c ∧ x4 ≠ c ∧ x5 ≠ c ∧ ∀ p ∈ l, p.1 ≠ c :=
  ⟨h _ (.head _), ne4 fun p hp => h p (.tail _ hp)⟩
theorem ne6 (h : ∀ p ∈ (x1, o1) :: (x2, o2) :: (x3, o3) :: (x4, o4) :: (x5, o5) :: (x6, o6) :: l, p.1 ≠ c) : x1 ≠ c ∧ x2 ≠ c ∧ x3 ≠ c ∧ x4 ≠ c ∧ x5 ≠ c ∧ x6 ≠ c ∧ ∀ p ∈ l, p.1 ≠ c :=
  ⟨h _ (.head _), ne5 fun p hp => h p (.tail _ hp)⟩
end
noncomputable def padS : Stmt := tFor.getD 0 default
section
variable (rv hv tv ev wv : Option Value) (a : Int) (ta : Tok) (a0 a1 a2 : Addr) (rows0 rows1 rows2 : List Value) (k0 k1 k2 : Nat) (more : Led)
noncomputable def JPad (i : Nat) (m₁ : Str → Option Value) (news₁ : Led) : Prop :=
  (∃ bv, m₁ = mT rv hv tv (some (.int a ta)) bv ev wv) ∧ match i with
  | 0 => news₁ = (a2, PySem.W.listOf rows2.toArray k2) :: (a1, PySem.W.listOf rows1.toArray k1) :: (a0, PySem.W.listOf rows0.toArray k0) :: more
  | 1 => ∃ r0 z0 q0, IntsAre z0 (List.replicate a.toNat 0) ∧ (∀ p ∈ more, p.1 ≠ r0) ∧ a0 ≠ r0 ∧ a1 ≠ r0 ∧ a2 ≠ r0 ∧
      news₁ = (a2, PySem.W.listOf rows2.toArray k2) :: (a1, PySem.W.listOf rows1.toArray k1) :: (a0, PySem.W.listOf (rows0 ++ [Value.ref r0]).toArray (k0 + 1)) :: (r0, PySem.W.listOf z0.toArray q0) :: more
  | 2 => ∃ r0 z0 q0 r1 z1 q1, IntsAre z0 (List.replicate a.toNat 0) ∧ (∀ p ∈ more, p.1 ≠ r0) ∧ a0 ≠ r0 ∧ a1 ≠ r0 ∧ a2 ≠ r0 ∧ IntsAre z1 (List.replicate a.toNat 0) ∧ (∀ p ∈ more, p.1 ≠ r1) ∧ a0 ≠ r1 ∧ a1 ≠ r1 ∧ a2 ≠ r1 ∧ r0 ≠ r1 ∧
      news₁ = (a2, PySem.W.listOf rows2.toArray k2) :: (a1, PySem.W.listOf (rows1 ++ [Value.ref r1]).toArray (k1 + 1)) :: (a0, PySem.W.listOf (rows0 ++ [Value.ref r0]).toArray (k0 + 1)) :: (r1, PySem.W.listOf z1.toArray q1) :: (r0, PySem.W.listOf z0.toArray q0) :: more
  | _ => ∃ r0 z0 q0 r1 z1 q1 r2 z2 q2, IntsAre z0 (List.replicate a.toNat 0) ∧ (∀ p ∈ more, p.1 ≠ r0) ∧ a0 ≠ r0 ∧ a1 ≠ r0 ∧ a2 ≠ r0 ∧ IntsAre z1 (List.replicate a.toNat 0) ∧ (∀ p ∈ more, p.1 ≠ r1) ∧ a0 ≠ r1 ∧ a1 ≠ r1 ∧ a2 ≠ r1 ∧ r0 ≠ r1 ∧ IntsAre z2 (List.replicate a.toNat 0) ∧ (∀ p ∈ more, p.1 ≠ r2) ∧ a0 ≠ r2 ∧ a1 ≠ r2 ∧ a2 ≠ r2 ∧ r0 ≠ r2 ∧ r1 ≠ r2 ∧
      news₁ = (a2, PySem.W.listOf (rows2 ++ [Value.ref r2]).toArray (k2 + 1)) :: (a1, PySem.W.listOf (rows1 ++ [Value.ref r1]).toArray (k1 + 1)) :: (a0, PySem.W.listOf (rows0 ++ [Value.ref r0]).toArray (k0 + 1)) :: (r2, PySem.W.listOf z2.toArray q2) :: (r1, PySem.W.listOf z1.toArray q1) :: (r0, PySem.W.listOf z0.toArray q0) :: more
end
set_option maxHeartbeats 2000000 in
theorem pad_loop {w : World} {p : Program} {loose : List Str} {mean : ExcName → Option Value} {mg mb : Str → Option Value} {dp un : Nat} {gd : Option (List Code)} {outer : List Env} {A₀ : Around} {base h₀ : Heap} {L tl a0 a1 a2 : Addr} {rv hv bv ev wv : Option Value} {a : Int} {ta : Tok} {s : Shared} {Q : Flow → Shared → Prop} {E : VP} {more : Led} {rows0 rows1 rows2 : List Value} {kt k0 k1 k2 : Nat}
    (B : Below A₀ base outer h₀) (F : Fr h₀ L s.heap (mT rv hv (some (.ref tl)) (some (.int a ta)) bv ev wv)) (X : (K w.params).In h₀) (T₀ : Top p loose mean mg mb h₀)
    (N : News h₀ L s.heap ((a2, PySem.W.listOf rows2.toArray k2) :: (a1, PySem.W.listOf rows1.toArray k1) :: (a0, PySem.W.listOf rows0.toArray k0) :: more)) (h0 : 0 ≤ a) (ha5 : a ≤ 5)
    (htl : (tl, PySem.W.listOf #[.ref a0, .ref a1, .ref a2] kt) ∈ more) (e01 : a0 ≠ a1) (e02 : a0 ≠ a2) (e12 : a1 ≠ a2) (n0 : ∀ p ∈ more, p.1 ≠ a0) (n1 : ∀ p ∈ more, p.1 ≠ a1) (n2 : ∀ p ∈ more, p.1 ≠ a2) (z0 : rows0.length ≤ 6) (z1 : rows1.length ≤ 6) (z2 : rows2.length ≤ 6)
    (hQ : ∀ h' tk m' news', JPad rv hv (some (.ref tl)) ev wv a ta a0 a1 a2 rows0 rows1 rows2 k0 k1 k2 more 3 m' news' → Fr h₀ L h' m' → News h₀ L h' news' → Q .next { s with heap := h', toks := tk })
    (hE : PassesOwn (model PySem.Challenge.rw_wk0033_01.row.prog w) { handled := none, depth := dp, frames := some (envT L :: outer), guards := gd, units := un } (envT L) E) :
    wpAny (model PySem.Challenge.rw_wk0033_01.row.prog w) { handled := none, depth := dp, frames := some (envT L :: outer), guards := gd, units := un } (exec padS (envT L)) Q E s := by
  with_unfolding_all change wpAny _ _ (exec (Stmt.For (Expr.Name _ _) (Expr.Name _ _) _ _ _) _) _ _ _
  refine for_it F rfl rfl ?_ (by intro _; rfl) hE
  refine ldLoc F rfl ?_
  have hin : (tl, PySem.W.listOf [Value.ref a0, .ref a1, .ref a2].toArray kt) ∈ (a2, PySem.W.listOf rows2.toArray k2) :: (a1, PySem.W.listOf rows1.toArray k1) :: (a0, PySem.W.listOf rows0.toArray k0) :: more := .tail _ (.tail _ (.tail _ htl))
  refine it_listN rfl F N hin (listOf_ob _ _) (fun _ => JPad rv hv (some (.ref tl)) ev wv a ta a0 a1 a2 rows0 rows1 rows2 k0 k1 k2 more) ⟨⟨bv, rfl⟩, rfl⟩ ?_ ?_ ?_ hE
  · intro i m₁ news₁ J
    match i, J with
    | 0, J =>
      obtain ⟨_, e⟩ := J
      rw [e]; exact .tail _ (.tail _ (.tail _ htl))
    | 1, J =>
      obtain ⟨_, r0, y0, q0, _, _, _, _, _, e⟩ := J
      rw [e]; exact .tail _ (.tail _ (.tail _ (.tail _ htl)))
    | 2, J =>
      obtain ⟨_, r0, y0, q0, r1, y1, q1, _, _, _, _, _, _, _, _, _, _, _, e⟩ := J
      rw [e]; exact .tail _ (.tail _ (.tail _ (.tail _ (.tail _ htl))))
    | n + 3, J =>
      obtain ⟨_, r0, y0, q0, r1, y1, q1, r2, y2, q2, _, _, _, _, _, _, _, _, _, _, _, _, _, _, _, _, _, _, e⟩ := J
      rw [e]; exact .tail _ (.tail _ (.tail _ (.tail _ (.tail _ (.tail _ htl)))))
  · intro I i v m₁ news₁ h tk io hI hi J hn F1 N1
    have push : ∀ (rows : List Value) (D : Addr), rows.toArray.push (.ref D) = (rows ++ [Value.ref D]).toArray := fun rows D => by simp
    match i, J with
    | 0, J =>
      obtain ⟨⟨bv1, em⟩, e⟩ := J
      subst em e
      injection hi with hi
      subst hi
      have F2 := (mT_b rv hv (some (.ref tl)) (some (.int a ta)) bv1 ev wv (some (.ref a0))) ▸ F1
      obtain ⟨g2, g1, g0, gm⟩ := ne3' hn
      refine pad_turn (rows := rows0) (k := k0) (more := (I, io) :: (a2, PySem.W.listOf rows2.toArray k2) :: (a1, PySem.W.listOf rows1.toArray k1) :: more) B F2 X T₀ (fun q hq => N1 q (by grind)) h0 ha5 (ne3 (Ne.symm g0) (Ne.symm e02) (Ne.symm e01) n0) z0 ?_
      intro D h' tk' zs kz hz hD F3 N3
      obtain ⟨d0, dI, d2, d1, dm⟩ := ne4 hD
      rw [push] at N3
      refine step_nextS F3 N3 (news₂ := (a2, PySem.W.listOf rows2.toArray k2) :: (a1, PySem.W.listOf rows1.toArray k1) :: (a0, PySem.W.listOf (rows0 ++ [Value.ref D]).toArray (k0 + 1)) :: (D, PySem.W.listOf zs.toArray kz) :: more) (fun q hq => by grind) (mk4 g2 g1 g0 (Ne.symm dI) gm) ⟨⟨_, rfl⟩, D, zs, kz, hz, dm, d0, d1, d2, rfl⟩
    | 1, J =>
      obtain ⟨⟨bv1, em⟩, r0, y0, q0, b1, b2, b3, b4, b5, e⟩ := J
      subst em e
      injection hi with hi
      subst hi
      have F2 := (mT_b rv hv (some (.ref tl)) (some (.int a ta)) bv1 ev wv (some (.ref a1))) ▸ F1
      obtain ⟨g2, g1, g0, gr, gm⟩ := ne4 hn
      refine pad_turn (rows := rows1) (k := k1) (more := (I, io) :: (a2, PySem.W.listOf rows2.toArray k2) :: (a0, PySem.W.listOf (rows0 ++ [Value.ref r0]).toArray (k0 + 1)) :: (r0, PySem.W.listOf y0.toArray q0) :: more) B F2 X T₀ (fun q hq => N1 q (by grind)) h0 ha5 (mk4 (Ne.symm g1) (Ne.symm e12) e01 (Ne.symm b4) n1) z1 ?_
      intro D h' tk' zs kz hz hD F3 N3
      obtain ⟨d1, dI, d2, d0, dr, dm⟩ := ne5 hD
      rw [push] at N3
      refine step_nextS F3 N3 (news₂ := (a2, PySem.W.listOf rows2.toArray k2) :: (a1, PySem.W.listOf (rows1 ++ [Value.ref D]).toArray (k1 + 1)) :: (a0, PySem.W.listOf (rows0 ++ [Value.ref r0]).toArray (k0 + 1)) :: (D, PySem.W.listOf zs.toArray kz) :: (r0, PySem.W.listOf y0.toArray q0) :: more) (fun q hq => by grind) (mk5 g2 g1 g0 (Ne.symm dI) gr gm)
        ⟨⟨_, rfl⟩, r0, y0, q0, D, zs, kz, b1, b2, b3, b4, b5, hz, dm, d0, d1, d2, dr, rfl⟩
    | 2, J =>
      obtain ⟨⟨bv1, em⟩, r0, y0, q0, r1, y1, q1, b1, b2, b3, b4, b5, c1, c2, c3, c4, c5, c6, e⟩ := J
      subst em e
      injection hi with hi
      subst hi
      have F2 := (mT_b rv hv (some (.ref tl)) (some (.int a ta)) bv1 ev wv (some (.ref a2))) ▸ F1
      obtain ⟨g2, g1, g0, gr1, gr0, gm⟩ := ne5 hn
      refine pad_turn (rows := rows2) (k := k2) (more := (I, io) :: (a1, PySem.W.listOf (rows1 ++ [Value.ref r1]).toArray (k1 + 1)) :: (a0, PySem.W.listOf (rows0 ++ [Value.ref r0]).toArray (k0 + 1)) :: (r1, PySem.W.listOf y1.toArray q1) :: (r0, PySem.W.listOf y0.toArray q0) :: more) B F2 X T₀ (fun q hq => N1 q (by grind)) h0 ha5 (mk5 (Ne.symm g2) e12 e02 (Ne.symm c5) (Ne.symm b5) n2) z2 ?_
      intro D h' tk' zs kz hz hD F3 N3
      obtain ⟨d2, dI, d1, d0, dr1, dr0, dm⟩ := ne6 hD
      rw [push] at N3
      refine step_nextS F3 N3 (news₂ := (a2, PySem.W.listOf (rows2 ++ [Value.ref D]).toArray (k2 + 1)) :: (a1, PySem.W.listOf (rows1 ++ [Value.ref r1]).toArray (k1 + 1)) :: (a0, PySem.W.listOf (rows0 ++ [Value.ref r0]).toArray (k0 + 1)) :: (D, PySem.W.listOf zs.toArray kz) :: (r1, PySem.W.listOf y1.toArray q1) :: (r0, PySem.W.listOf y0.toArray q0) :: more) (fun q hq => by grind) (mk6 g2 g1 g0 (Ne.symm dI) gr1 gr0 gm)
        ⟨⟨_, rfl⟩, r0, y0, q0, r1, y1, q1, D, zs, kz, b1, b2, b3, b4, b5, c1, c2, c3, c4, c5, c6, hz, dm, d0, d1, d2, dr0, dr1, rfl⟩
    | n + 3, _ => simp at hi
  · intro h' tk m' news' F1 N1 J
    exact hQ h' tk m' news' J F1 N1
end
section
open PySem PySem.W PySem.Calls PySem.Spec PyProof.Rows PyProof.Rows.LCg PyProof.Rows.LCt
theorem rulesV34x0 : True := by
  k_with_none
  (k_with "k ne" => (refine neN ?_; (try dsimp only); first | (with_reducible assumption) | exact neS (by with_reducible assumption) | omega))
  (k_with "k all" => (refine all_ne (by assumption) ?_; (try dsimp only); omega))
  (k_with "k mem" => assumption)
  (k_with "k all" => assumption)
  trivial
noncomputable def RowsIn (more : Led) (rows : List Value) (W : Int → Int → Int) (i : Nat) : Prop := rows.length = i ∧ ∀ k : Nat, k < i → ∃ r vs q, rows[k]? = some (.ref r) ∧ (r, PySem.W.listOf (List.toArray vs) q) ∈ more ∧ IntsAre vs (rowI W (k : Int) 6)
theorem RowsIn.snoc {more more' : Led} {rows : List Value} {W : Int → Int → Int} {i : Nat} {r : Addr} {vs : List Value} {q : Nat} (h : RowsIn more rows W i) (hs : ∀ p ∈ more, p ∈ more') (hr : (r, PySem.W.listOf vs.toArray q) ∈ more') (hi : IntsAre vs (rowI W (i : Int) 6)) : RowsIn more' (rows ++ [Value.ref r]) W (i + 1) := by
  obtain ⟨hl, h⟩ := h
  refine ⟨by rw [List.length_append, hl]; rfl, fun k hk => ?_⟩
  rcases Nat.lt_or_ge k i with hki | hki
  · obtain ⟨r', vs', q', a, b, c⟩ := h k hki
    exact ⟨r', vs', q', by rw [List.getElem?_append_left (by omega)]; exact a, hs _ b, c⟩
  · have : k = i := by omega
    subst this
    exact ⟨r, vs, q, by rw [List.getElem?_append_right (by omega), hl, Nat.sub_self]; rfl, hr, hi⟩
noncomputable def tabW (W : Int → Int → Int) (i j : Int) : Int := if j < i then 0 else W i j
theorem RowsIn.tab {news : Led} {rows : List Value} {W : Int → Int → Int} {a : Addr} {q : Nat} (h : RowsIn news rows W 6) (hm : (a, PySem.W.listOf rows.toArray q) ∈ news) : TabIn news a (tabW W) := by
  refine ⟨rows.toArray, q, hm, fun i hi hi' => ?_⟩
  obtain ⟨r, vs, q', e, m, hv⟩ := h.2 i.toNat (by omega)
  refine ⟨r, by simpa using e, vs.toArray, q', m, fun j hj hj' => ?_⟩
  have hl := hv.length
  rw [rowI_len] at hl
  obtain ⟨x, hx⟩ : ∃ x, vs[j.toNat]? = some x := ⟨_, List.getElem?_eq_getElem (by omega)⟩
  obtain ⟨t, rfl⟩ := IntsAre.int_at hv _ _ hx
  refine ⟨t, ?_⟩
  rw [List.getElem?_toArray, hx]
  have : (rowI W ((i.toNat : Nat) : Int) 6).getD j.toNat 0 = tabW W i j := by
    unfold rowI tabW
    rw [List.getD_eq_getElem?_getD, List.getElem?_map, List.getElem?_range (by omega)]
    have e1 : ((i.toNat : Nat) : Int) = i := by omega
    have e2 : ((j.toNat : Nat) : Int) = j := by omega
    simp only [Option.map_some, Option.getD_some, e1, e2]
  rw [this]
noncomputable def frontS : Stmt := (fnB 19).getD 4 default
structure JF (fss : List (List Nat)) (rv : Option Value) (Dl tl a0 a1 a2 : Addr) (more : Led) (i : Nat) (m₁ : Str → Option Value) (news₁ : Led) : Prop where
  ex : ∃ (rows0 rows1 rows2 : List Value) (q0 q1 q2 : Nat) (fv bv ev wv : Option Value) (more' : Led), m₁ = mT rv (some (.ref Dl)) (some (.ref tl)) fv bv ev wv ∧
    news₁ = (a2, PySem.W.listOf rows2.toArray q2) :: (a1, PySem.W.listOf rows1.toArray q1) :: (a0, PySem.W.listOf rows0.toArray q0) :: more' ∧ (∀ p ∈ more, p ∈ more') ∧ (∀ p ∈ more', p.1 ≠ a0) ∧ (∀ p ∈ more', p.1 ≠ a1) ∧ (∀ p ∈ more', p.1 ≠ a2) ∧
    RowsIn more' rows0 (widthW fss) i ∧ RowsIn more' rows1 (sumW fss) i ∧ RowsIn more' rows2 (distW fss) i
theorem rulesV34x1 : True := by
  (k_with "exec For Name Call cons nil" => (k_here; refine Stop.out ?_))
  (k_with "exec For" => (k_here; refine Stop.out ?_))
  trivial
set_option maxHeartbeats 2000000 in
theorem front_turn {w : World} {p : Program} {loose : List Str} {mean : ExcName → Option Value} {mg mb : Str → Option Value} {dp un : Nat} {gd : Option (List Code)} {outer : List Env} {A₀ : Around} {base h₀ : Heap} {L ll Dl tl a0 a1 a2 I : Addr} {rv bv ev wv : Option Value} {i : Nat} {t' : Tok} {s : Shared} {Q : Flow → Shared → Prop} {E : VP} {more' : Led} {ol io : Obj} {ys hs rows0 rows1 rows2 : List Value} {kt q0 q1 q2 : Nat} {fss : List (List Nat)}
    (B : Below A₀ base outer h₀) (F : Fr h₀ L s.heap (mT rv (some (.ref Dl)) (some (.ref tl)) (some (.int (i : Int) t')) bv ev wv)) (X : (K w.params).In h₀) (T₀ : Top p loose mean mg mb h₀) (hd : dp + 60 < recursionLimit) (hu : un + 600 < cLine) (hL : 1 ≤ L) (hi : i < 6)
    (N : News h₀ L s.heap ((I, io) :: (a2, PySem.W.listOf rows2.toArray q2) :: (a1, PySem.W.listOf rows1.toArray q1) :: (a0, PySem.W.listOf rows0.toArray q0) :: more'))
    (hol : (L + 1, ol) ∈ more') (dl : ol.data = .cell (some (.ref ll))) (hll : (ll, lst ys) ∈ more') (hys : LinesAre ys (linesOf fss)) (hok : OkFigs fss) (hDl : (Dl, lst hs) ∈ more') (hH : HeardAre more' hs fss)
    (htl : (tl, PySem.W.listOf #[.ref a0, .ref a1, .ref a2] kt) ∈ more') (e01 : a0 ≠ a1) (e02 : a0 ≠ a2) (e12 : a1 ≠ a2) (n0 : ∀ p ∈ more', p.1 ≠ a0) (n1 : ∀ p ∈ more', p.1 ≠ a1) (n2 : ∀ p ∈ more', p.1 ≠ a2) (m0 : a0 ≠ I) (m1 : a1 ≠ I) (m2 : a2 ≠ I) (mI : ∀ p ∈ more', p.1 ≠ I)
    (z0 : rows0.length = i) (z1 : rows1.length = i) (z2 : rows2.length = i)
    (hQ : ∀ h' tk bv' ev' wv' r0 r1 r2 vs0 vs1 vs2 x0 x1 x2, IntsAre vs0 (rowI (widthW fss) (i : Int) 6) → IntsAre vs1 (rowI (sumW fss) (i : Int) 6) → IntsAre vs2 (rowI (distW fss) (i : Int) 6) → (a0 ≠ r0 ∧ a1 ≠ r0 ∧ a2 ≠ r0 ∧ I ≠ r0) → (a0 ≠ r1 ∧ a1 ≠ r1 ∧ a2 ≠ r1 ∧ I ≠ r1) → (a0 ≠ r2 ∧ a1 ≠ r2 ∧ a2 ≠ r2 ∧ I ≠ r2) →
      Fr h₀ L h' (mT rv (some (.ref Dl)) (some (.ref tl)) (some (.int (i : Int) t')) bv' ev' wv') →
      News h₀ L h' ((I, io) :: (a2, PySem.W.listOf (rows2 ++ [Value.ref r2]).toArray (q2 + 1)) :: (a1, PySem.W.listOf (rows1 ++ [Value.ref r1]).toArray (q1 + 1)) :: (a0, PySem.W.listOf (rows0 ++ [Value.ref r0]).toArray (q0 + 1)) :: (r2, PySem.W.listOf vs2.toArray x2) :: (r1, PySem.W.listOf vs1.toArray x1) :: (r0, PySem.W.listOf vs0.toArray x0) :: more') → Q .next { s with heap := h', toks := tk })
    (hE : PassesOwn (model PySem.Challenge.rw_wk0033_01.row.prog w) { handled := none, depth := dp, frames := some (envT L :: outer), guards := gd, units := un } (envT L) E) :
    wpAny (model PySem.Challenge.rw_wk0033_01.row.prog w) { handled := none, depth := dp, frames := some (envT L :: outer), guards := gd, units := un } (execs tFor (envT L)) Q E s := by
  revert X; k_fill; intro X
  with_unfolding_all change wpAny _ _ (execs [Stmt.For _ _ _ _ _, Stmt.For _ _ _ _ _] _) _ _ _
  k_steps
  unfold Stop
  refine pad_loop (more := (I, io) :: more') (k0 := q0) (k1 := q1) (k2 := q2) (rows0 := rows0) (rows1 := rows1) (rows2 := rows2) B F (by k_asm) T₀ (fun q hq => N q (by grind)) (by omega) (by omega) (.tail _ htl) e01 e02 e12 (List.forall_mem_cons.mpr ⟨Ne.symm m0, n0⟩) (List.forall_mem_cons.mpr ⟨Ne.symm m1, n1⟩) (List.forall_mem_cons.mpr ⟨Ne.symm m2, n2⟩) (by omega) (by omega) (by omega) ?_ hE
  intro h1 tk1 m1' news1 J F1 N1
  obtain ⟨⟨bv1, rfl⟩, r0, y0, u0, r1, y1, u1, r2, y2, u2, b1, b2, b3, b4, b5, c1, c2, c3, c4, c5, c6, d1, d2, d3, d4, d5, d6, d7, rfl⟩ := J
  k_steps
  unfold Stop
  rw [Int.toNat_natCast] at b1 c1 d1
  have b2' := List.forall_mem_cons.mp b2
  have c2' := List.forall_mem_cons.mp c2
  have d2' := List.forall_mem_cons.mp d2
  have g0 : (rows0 ++ [Value.ref r0])[((i : Nat) : Int).toNat]? = some (.ref r0) := by rw [Int.toNat_natCast, List.getElem?_append_right (by omega), z0, Nat.sub_self]; rfl
  have g1 : (rows1 ++ [Value.ref r1])[((i : Nat) : Int).toNat]? = some (.ref r1) := by rw [Int.toNat_natCast, List.getElem?_append_right (by omega), z1, Nat.sub_self]; rfl
  have g2 : (rows2 ++ [Value.ref r2])[((i : Nat) : Int).toNat]? = some (.ref r2) := by rw [Int.toNat_natCast, List.getElem?_append_right (by omega), z2, Nat.sub_self]; rfl
  refine end_loop (a := (i : Int)) (more := (a2, PySem.W.listOf (rows2 ++ [Value.ref r2]).toArray (q2 + 1)) :: (a1, PySem.W.listOf (rows1 ++ [Value.ref r1]).toArray (q1 + 1)) :: (a0, PySem.W.listOf (rows0 ++ [Value.ref r0]).toArray (q0 + 1)) :: (I, io) :: more') (vs0 := y0) (vs1 := y1) (vs2 := y2) (k0 := u0) (k1 := u1) (k2 := u2)
    (rows0 := rows0 ++ [Value.ref r0]) (rows1 := rows1 ++ [Value.ref r1]) (rows2 := rows2 ++ [Value.ref r2]) (ys := ys) (hs := hs) (fss := fss) B F1 (by k_asm) T₀ hd hu hL (fun q hq => N1 q (by simp only [List.mem_cons] at hq ⊢; rcases hq with h | h | h | h | h | h | h | h <;> simp only [h, true_or, or_true])) (by omega) (by omega) (.tail _ (.tail _ (.tail _ (.tail _ hol)))) dl (.tail _ (.tail _ (.tail _ (.tail _ hll)))) hys hok (.tail _ (.tail _ (.tail _ (.tail _ hDl)))) (hH.mono fun q hq => (.tail _ (.tail _ (.tail _ (.tail _ hq))))) (.tail _ (.tail _ (.tail _ (.tail _ htl)))) (.tail _ (.tail _ (.head _))) (.tail _ (.head _)) (.head _) g0 g1 g2
    c6 d6 d7 (mk4 b5 b4 b3 b2'.1 b2'.2) (mk4 c5 c4 c3 c2'.1 c2'.2) (mk4 d5 d4 d3 d2'.1 d2'.2) (by rw [Int.toNat_natCast]; exact b1) (by rw [Int.toNat_natCast]; exact c1) (by rw [Int.toNat_natCast]; exact d1) ?_ hE
  intro h2 tk2 m2' news2 J2 F2 N2
  obtain ⟨vs0, vs1, vs2, x0, x1, x2, ev2, wv2, rfl, j0, j1, j2, rfl⟩ := J2.ex
  rw [Int.toNat_natCast, show i + (6 - i) = 6 by omega] at j0 j1 j2
  k_steps
  exact hQ h2 tk2 bv1 ev2 wv2 r0 r1 r2 vs0 vs1 vs2 x0 x1 x2 j0 j1 j2 ⟨b3, b4, b5, b2'.1⟩ ⟨c3, c4, c5, c2'.1⟩ ⟨d3, d4, d5, d2'.1⟩ F2 (fun q hq => N2 q (by simp only [List.mem_cons] at hq ⊢; rcases hq with h | h | h | h | h | h | h | h <;> simp only [h, true_or, or_true]))
set_option maxHeartbeats 2000000 in
theorem front_loop {w : World} {p : Program} {loose : List Str} {mean : ExcName → Option Value} {mg mb : Str → Option Value} {dp un : Nat} {gd : Option (List Code)} {outer : List Env} {A₀ : Around} {base h₀ : Heap} {L ll Dl tl a0 a1 a2 : Addr} {rv fv bv ev wv : Option Value} {s : Shared} {Q : Flow → Shared → Prop} {E : VP} {more : Led} {ol : Obj} {ys hs : List Value} {kt k0 k1 k2 : Nat} {fss : List (List Nat)}
    (B : Below A₀ base outer h₀) (F : Fr h₀ L s.heap (mT rv (some (.ref Dl)) (some (.ref tl)) fv bv ev wv)) (X : (K w.params).In h₀) (T₀ : Top p loose mean mg mb h₀) (hd : dp + 60 < recursionLimit) (hu : un + 600 < cLine) (hL : 1 ≤ L)
    (N : News h₀ L s.heap ((a2, PySem.W.listOf [].toArray k2) :: (a1, PySem.W.listOf [].toArray k1) :: (a0, PySem.W.listOf [].toArray k0) :: more))
    (hol : (L + 1, ol) ∈ more) (dl : ol.data = .cell (some (.ref ll))) (hll : (ll, lst ys) ∈ more) (hys : LinesAre ys (linesOf fss)) (hok : OkFigs fss) (hDl : (Dl, lst hs) ∈ more) (hH : HeardAre more hs fss)
    (htl : (tl, PySem.W.listOf #[.ref a0, .ref a1, .ref a2] kt) ∈ more) (e01 : a0 ≠ a1) (e02 : a0 ≠ a2) (e12 : a1 ≠ a2) (n0 : ∀ p ∈ more, p.1 ≠ a0) (n1 : ∀ p ∈ more, p.1 ≠ a1) (n2 : ∀ p ∈ more, p.1 ≠ a2)
    (hQ : ∀ h' tk m' news', JF fss rv Dl tl a0 a1 a2 more 6 m' news' → Fr h₀ L h' m' → News h₀ L h' news' → Q .next { s with heap := h', toks := tk })
    (hE : PassesOwn (model PySem.Challenge.rw_wk0033_01.row.prog w) { handled := none, depth := dp, frames := some (envT L :: outer), guards := gd, units := un } (envT L) E) :
    wpAny (model PySem.Challenge.rw_wk0033_01.row.prog w) { handled := none, depth := dp, frames := some (envT L :: outer), guards := gd, units := un } (exec frontS (envT L)) Q E s := by
  revert X; k_fill; intro X
  have F' := F
  unfold mT at F'
  clear F
  with_unfolding_all change wpAny _ _ (exec (Stmt.For (Expr.Name _ _) (Expr.Call (Expr.Name _ _) [_] _ _) _ _ _) _) _ _ _
  refine for_it (by k_asm) rfl rfl ?_ (by intro _; rfl) hE
  k_steps
  rename News h₀ L _ _ => N2
  rename Fr h₀ L _ _ => F2
  refine it_range (n := 6) rfl (by assumption) F2 N2 (small_in (by decide) (by decide) (by decide) (by decide)) (range_n (by decide)) (fun _ => JF fss rv Dl tl a0 a1 a2 more) ?_ ?_ ?_ hE
  · exact ⟨[], [], [], k0, k1, k2, fv, bv, ev, wv, more, rfl, rfl, fun p hp => hp, n0, n1, n2, ⟨rfl, fun k hk => absurd hk (Nat.not_lt_zero _)⟩, ⟨rfl, fun k hk => absurd hk (Nat.not_lt_zero _)⟩, ⟨rfl, fun k hk => absurd hk (Nat.not_lt_zero _)⟩⟩
  · intro I i t' m₁ news₁ h tk io hI hi J hn F1 N1
    obtain ⟨rows0, rows1, rows2, q0, q1, q2, fv1, bv1, ev1, wv1, more', rfl, rfl, hsub, p0, p1, p2, w0, w1, w2⟩ := J.ex
    obtain ⟨g2, g1, g0, gm⟩ := ne3' hn
    rw [Int.zero_add] at F1
    have F3 := (mT_f rv (some (.ref Dl)) (some (.ref tl)) fv1 bv1 ev1 wv1 (some (.int (i : Int) t'))) ▸ F1
    refine front_turn (ys := ys) (hs := hs) (fss := fss) B F3 (by k_asm) T₀ hd hu hL hi N1 (hsub _ hol) dl (hsub _ hll) hys hok (hsub _ hDl) (hH.mono hsub) (hsub _ htl) e01 e02 e12 p0 p1 p2 g0 g1 g2 gm w0.1 w1.1 w2.1 ?_ hE
    intro h' tk' bv' ev' wv' r0 r1 r2 vs0 vs1 vs2 x0 x1 x2 j0 j1 j2 u0 u1 u2 F4 N4
    refine step_nextS F4 N4 (fun q hq => hq) (mk6 g2 g1 g0 (Ne.symm u2.2.2.2) (Ne.symm u1.2.2.2) (Ne.symm u0.2.2.2) gm) ⟨_, _, _, _, _, _, _, _, _, _, _, rfl, rfl, fun p hp => .tail _ (.tail _ (.tail _ (hsub p hp))), ?_, ?_, ?_, w0.snoc (q := x0) ?_ ?_ j0, w1.snoc (q := x1) ?_ ?_ j1, w2.snoc (q := x2) ?_ ?_ j2⟩
    · exact ne3 (Ne.symm u2.1) (Ne.symm u1.1) (Ne.symm u0.1) p0
    · exact ne3 (Ne.symm u2.2.1) (Ne.symm u1.2.1) (Ne.symm u0.2.1) p1
    · exact ne3 (Ne.symm u2.2.2.1) (Ne.symm u1.2.2.1) (Ne.symm u0.2.2.1) p2
    · exact fun p hp => .tail _ (.tail _ (.tail _ hp))
    · exact .tail _ (.tail _ (.head _))
    · exact fun p hp => .tail _ (.tail _ (.tail _ hp))
    · exact .tail _ (.head _)
    · exact fun p hp => .tail _ (.tail _ (.tail _ hp))
    · exact .head _
  · intro h' tk m' news' F1 N1 J
    exact hQ h' tk m' news' J F1 N1
end
section
open PySem PySem.W PySem.Calls PySem.Spec PyProof.Rows PyProof.Rows.LCg PyProof.Rows.LCt
theorem rulesV35x0 : True := by
  k_with_none
  (k_with "k ne" => (refine neN ?_; (try dsimp only); first | (with_reducible assumption) | exact neS (by with_reducible assumption) | omega))
  (k_with "k all" => (refine all_ne (by assumption) ?_; (try dsimp only); omega))
  (k_with "k mem" => assumption)
  (k_with "k all" => assumption)
  trivial
noncomputable def tabsOf (fss : List (List Nat)) (k : Fin 3) : Int → Int → Int := tabW (if k = 0 then widthW fss else if k = 1 then sumW fss else distW fss)
/-- one cell brought to the head of the ledger -/
theorem news_pick {h₀ h : Heap} {L c : Addr} {oc : Obj} {l : Led} (N : News h₀ L h l) (hc : (c, oc) ∈ l) : News h₀ L h ((c, oc) :: l.filter fun q => q.1 != c) := fun q hq => by
  rcases List.mem_cons.mp hq with rfl | hq
  · exact N _ hc
  · exact N _ (List.mem_filter.mp hq).1
theorem pick_ne {c : Addr} {l : Led} : ∀ q ∈ l.filter fun q => q.1 != c, q.1 ≠ c := fun q hq => by simpa using (List.mem_filter.mp hq).2
theorem pick_heard {h₀ h : Heap} {L c : Addr} {oc : Obj} {v : Option Value} {l : Led} {ys : List Value} {fss : List (List Nat)} (N : News h₀ L h l) (hc : (c, oc) ∈ l) (dc : oc.data = .cell v) (hH : HeardAre l ys fss) : HeardAre (l.filter fun q => q.1 != c) ys fss := by
  refine ⟨hH.1, fun k fs hk => ?_⟩
  obtain ⟨b, t1, t2, t3, x, y⟩ := hH.2 k fs hk
  refine ⟨b, t1, t2, t3, x, mem_nf y fun e => ?_⟩
  have e1 := (N _ y).1
  have e2 := (N _ hc).1
  dsimp only at e e1 e2
  rw [e, e2] at e1
  injection e1 with e1
  rw [e1] at dc; cases dc
theorem pick_list {h₀ h : Heap} {L c a : Addr} {oc : Obj} {v : Option Value} {l : Led} {ys : List Value} (N : News h₀ L h l) (hc : (c, oc) ∈ l) (dc : oc.data = .cell v) (hm : (a, lst ys) ∈ l) : (a, lst ys) ∈ l.filter fun q => q.1 != c := by
  refine mem_nf hm fun e => ?_
  have e1 := (N _ hm).1
  have e2 := (N _ hc).1
  dsimp only at e e1 e2
  rw [e, e2] at e1
  injection e1 with e1
  rw [e1] at dc; cases dc
theorem mT_told (ra Dl tl : Addr) : (fun y => if y = Str.ofString "told" then some (Value.ref tl) else if y = Str.ofString "heard" then some (Value.ref Dl) else if y = Str.ofString "row" then some (Value.ref ra) else if y = Str.ofString "heard" then none else if y = Str.ofString "told" then none else if y = Str.ofString "front" then none else if y = Str.ofString "table" then none else if y = Str.ofString "end" then none else if y = Str.ofString "width" then none else none) = mT (some (.ref ra)) (some (.ref Dl)) (some (.ref tl)) none none none none := by
  funext y
  by_cases h1 : y = Str.ofString "row"
  · subst h1; rfl
  by_cases h2 : y = Str.ofString "heard"
  · subst h2; rfl
  by_cases h3 : y = Str.ofString "told"
  · subst h3; rfl
  simp only [mT, if_neg h1, if_neg h2, if_neg h3]
theorem told_front {w : World} {p : Program} {loose : List Str} {mean : ExcName → Option Value} {mg mb : Str → Option Value} {dp un : Nat} {gd : Option (List Code)} {outer : List Env} {A₀ : Around} {base h₀ : Heap} {L D4 Dl ra tl a0 a1 a2 : Addr} {s : Shared} {Q : Flow → Shared → Prop} {E : VP} {n3 : Led} {ol : Obj} {lns hs : List Value} {fss : List (List Nat)}
    (B : Below A₀ base outer h₀) (F : Fr h₀ L s.heap (fun y => if y = Str.ofString "told" then some (Value.ref tl) else if y = Str.ofString "heard" then some (Value.ref Dl) else if y = Str.ofString "row" then some (Value.ref ra) else if y = Str.ofString "heard" then none else if y = Str.ofString "told" then none else if y = Str.ofString "front" then none else if y = Str.ofString "table" then none else if y = Str.ofString "end" then none else if y = Str.ofString "width" then none else none))
    (X : (K w.params).In h₀) (T₀ : Top p loose mean mg mb h₀) (hd : dp + 120 < recursionLimit) (hu : un + 1200 < cLine) (hL : 1 ≤ L)
    (N : News h₀ L s.heap ((tl, PySem.W.listOf #[.ref a0, .ref a1, .ref a2] 0) :: (a2, PySem.W.listOf #[] 0) :: (a1, PySem.W.listOf #[] 0) :: (a0, PySem.W.listOf #[] 0) :: (D4, lst lns) :: (L + 1, ol) :: n3)) (dl : ol.data = .cell (some (.ref D4))) (hys : LinesAre lns (linesOf fss)) (hok : OkFigs fss) (hDl : (Dl, lst hs) ∈ n3) (hH : HeardAre n3 hs fss)
    (l0 : (@LT.lt Nat _ D4 a0) ∧ (@LT.lt Nat _ (L + 1) a0) ∧ AllLt a0 n3) (l1 : (@LT.lt Nat _ a0 a1) ∧ (@LT.lt Nat _ D4 a1) ∧ (@LT.lt Nat _ (L + 1) a1) ∧ AllLt a1 n3) (l2 : (@LT.lt Nat _ a1 a2) ∧ (@LT.lt Nat _ a0 a2) ∧ (@LT.lt Nat _ D4 a2) ∧ (@LT.lt Nat _ (L + 1) a2) ∧ AllLt a2 n3)
    (l3 : (@LT.lt Nat _ a2 tl) ∧ (@LT.lt Nat _ a1 tl) ∧ (@LT.lt Nat _ a0 tl) ∧ (@LT.lt Nat _ D4 tl) ∧ (@LT.lt Nat _ (L + 1) tl) ∧ AllLt tl n3)
    (hQ : ∀ h' tk fv bv ev wv news', Fr h₀ L h' (mT (some (.ref ra)) (some (.ref Dl)) (some (.ref tl)) fv bv ev wv) → News h₀ L h' news' → (∀ q ∈ n3, q ∈ news') → ToldAre news' tl (tabsOf fss) → Q .next { s with heap := h', toks := tk })
    (hE : PassesOwn (model PySem.Challenge.rw_wk0033_01.row.prog w) { handled := none, depth := dp, frames := some (envT L :: outer), guards := gd, units := un } (envT L) E) :
    wpAny (model PySem.Challenge.rw_wk0033_01.row.prog w) { handled := none, depth := dp, frames := some (envT L :: outer), guards := gd, units := un } (exec frontS (envT L)) Q E s := by
  rw [mT_told] at F
  have up : ∀ {c x y z : Addr} {o1 o2 o3 : Obj} {l : Led}, x ≠ c → y ≠ c → z ≠ c → AllLt c l → ∀ p ∈ (x, o1) :: (y, o2) :: (z, o3) :: l, p.1 ≠ c := fun h1 h2 h3 h => ne3 h1 h2 h3 fun p hp => Nat.ne_of_lt (allLt_mem h p hp)
  refine front_loop (ll := D4) (a0 := a0) (a1 := a1) (a2 := a2) (k0 := 0) (k1 := 0) (k2 := 0) (kt := 0) (ol := ol) (ys := lns) (hs := hs) (fss := fss) (more := (tl, PySem.W.listOf #[.ref a0, .ref a1, .ref a2] 0) :: (D4, lst lns) :: (L + 1, ol) :: n3) B F X T₀ (by omega) (by omega) hL (fun q hq => N q ?_) (.tail _ (.tail _ (.head _))) dl (.tail _ (.head _)) hys hok (.tail _ (.tail _ (.tail _ hDl))) (hH.mono fun q hq => .tail _ (.tail _ (.tail _ hq))) (.head _)
    (Nat.ne_of_lt l1.1) (Nat.ne_of_lt l2.2.1) (Nat.ne_of_lt l2.1) (up (Nat.ne_of_gt l3.2.2.1) (Nat.ne_of_lt l0.1) (Nat.ne_of_lt l0.2.1) l0.2.2) (up (Nat.ne_of_gt l3.2.1) (Nat.ne_of_lt l1.2.1) (Nat.ne_of_lt l1.2.2.1) l1.2.2.2) (up (Nat.ne_of_gt l3.1) (Nat.ne_of_lt l2.2.2.1) (Nat.ne_of_lt l2.2.2.2.1) l2.2.2.2.2) ?_ hE
  · simp only [List.mem_cons] at hq ⊢
    rcases hq with h | h | h | h | h | h | h <;> first | (simp only [h, true_or, or_true]; done) | skip
  · intro h' tk m' news' J F' N'
    obtain ⟨rows0, rows1, rows2, q0, q1, q2, fv, bv, ev, wv, more', rfl, rfl, hsub, _, _, _, w0, w1, w2⟩ := J.ex
    have lift : ∀ {rows W}, RowsIn more' rows W 6 → RowsIn ((a2, PySem.W.listOf rows2.toArray q2) :: (a1, PySem.W.listOf rows1.toArray q1) :: (a0, PySem.W.listOf rows0.toArray q0) :: more') rows W 6 := fun h => ⟨h.1, fun k hk => let ⟨r, vs, q, a, b, c⟩ := h.2 k hk; ⟨r, vs, q, a, .tail _ (.tail _ (.tail _ b)), c⟩⟩
    refine hQ h' tk fv bv ev wv _ F' N' (fun q hq => .tail _ (.tail _ (.tail _ (hsub _ (.tail _ (.tail _ (.tail _ hq))))))) ⟨a0, a1, a2, 0, .tail _ (.tail _ (.tail _ (hsub _ (.head _)))), ?_, ?_, ?_⟩
    · exact (lift w0).tab (.tail _ (.tail _ (.head _)))
    · exact (lift w1).tab (.tail _ (.head _))
    · exact (lift w2).tab (.head _)
noncomputable def toldB : List Stmt := fnB 19
theorem rulesV35x1 : True := by
  (k_with "exec Assign" => (k_here; (with_reducible show wpAny _ _ (exec (Stmt.Assign _ (Expr.ListComp (Expr.Call _ _ _ _) _ _ _) _) _) _ _ _); refine Stop.out ?_))
  (k_with "exec Assign cons ListComp" => (k_here; refine Stop.out ?_))
  (k_with "eval ListComp" => (k_here; refine Stop.out ?_))
  (k_with "compareOp NotEq ref ref" => (k_here; refine Stop.out ?_))
  (k_with "exec For Name Call cons nil" => (k_here; refine Stop.out ?_))
  trivial
set_option maxHeartbeats 2000000 in
theorem told_body {w : World} {p : Program} {loose : List Str} {mean : ExcName → Option Value} {mg mb : Str → Option Value} {dp un : Nat} {gd : Option (List Code)} {outer : List Env} {A₀ : Around} {base g : Heap} {L Lw ra : Addr} {s : Shared} {Q : Flow → Shared → Prop} {E : VP} {news : Led} {oc : Obj} {vc : Option Value} {fss : List (List Nat)}
    (B : Below A₀ base outer g) (F : Fr g L s.heap (mT (some (.ref ra)) none none none none none none)) (N : News g L s.heap ((L + 1, oc) :: news)) (dc : oc.data = .cell vc) (XB : (K w.params).In base) (TB : Top p loose mean mg mb base) (D : KtsDicts (outer.filterMap (·.frame)) g) (ho : outer.filterMap (·.frame) = [Lw]) (hd : dp + 120 < recursionLimit) (hu : un + 1200 < cLine) (hL : 1 ≤ L)
    (hR : RowAre news ra fss) (hok : OkFigs fss)
    (hQ : ∀ g₁ tl h' tk m' news', KtsTurn [Lw] g g₁ → Fr g₁ L h' m' → News g₁ L h' news' → (∀ q ∈ news, q.1 ≠ L + 1 → q ∈ news') → ToldAre news' tl (tabsOf fss) → Q (.ret (.ref tl)) { s with heap := h', toks := tk })
    (hE : PassesOwn (model PySem.Challenge.rw_wk0033_01.row.prog w) { handled := none, depth := dp, frames := some (envT L :: outer), guards := gd, units := un } (envT L) E) :
    wpAny (model PySem.Challenge.rw_wk0033_01.row.prog w) { handled := none, depth := dp, frames := some (envT L :: outer), guards := gd, units := un } (execs toldB (envT L)) Q E s := by
  with_unfolding_all change wpAny _ _ (execs [Stmt.Assign _ (Expr.ListComp (Expr.Call _ _ _ _) _ _ _) _, Stmt.If _ _ _ _, Stmt.Assign _ (Expr.ListComp _ _ _ _) _, Stmt.Assign _ _ _, Stmt.For (Expr.Name _ _) (Expr.Call (Expr.Name _ _) [_] _ _) _ _ _, Stmt.Return _ _] _) _ _ _
  walk_at "execs cons"
  refine heard_assign (fss := fss) (ra := ra) B F N XB TB D ho hd hu rfl (RowAre.mono hR fun q hq => .tail _ hq) hok ?_
  intro g₁ Dl h1 tk1 ys news1 T1 F1 N1 hs1 hne1 hH1
  have B1 := below_turn B (by rw [ho]; exact T1)
  have X1 := XB.keeps B1.stays
  have TT1 := TB.keeps B1.stays
  unfold mT at F1
  clear F N
  revert X1; k_fill; intro X1
  dsimp only
  walk_at "execs cons"
  k_steps
  unfold Stop
  refine l3_eval (fss := fss) (ra := ra) (by k_asm) (by k_asm) (by k_asm) (by k_asm) (by k_asm) hd hu rfl (RowAre.mono hR fun q hq => .tail _ (hs1 _ (.tail _ hq))) hok ?_
  intro D2 h2 tk2 ys2 news2 F2 N2 hs2 hne2 hH2
  k_steps
  unfold Stop
  refine kqd_ne N2 (.tail _ (hs2 _ (.head _))) rfl rfl (heard_dat hH1) (fun q hq => .tail _ (hs2 _ (.tail _ hq))) (.head _) rfl rfl (heard_dat hH2) (fun q hq => .tail _ hq) (dat_ok hok) (dat_ok hok) (by dsimp only; omega) ?_
  simp only [eq_self, decide_true, Bool.not_true]
  have hc2 : (L + 1, oc) ∈ news2 := hs2 _ (.tail _ (hs1 _ (.head _)))
  have N2' : News g₁ L h2 news2 := fun q hq => N2 q (.tail _ hq)
  have hDl := pick_list N2' hc2 dc (hs2 _ (.head _))
  have hH3 := pick_heard N2' hc2 dc (hH1.mono fun q hq => hs2 _ (.tail _ hq))
  have N3 := news_pick N2' hc2
  have hn3 : ∀ q ∈ news2.filter (fun q => q.1 != L + 1), q.1 ≠ L + 1 := pick_ne
  have hs3 : ∀ q ∈ news, q.1 ≠ L + 1 → q ∈ news2.filter fun q => q.1 != L + 1 := fun q hq e => mem_nf (hs2 _ (.tail _ (hs1 _ (.tail _ hq)))) e
  generalize news2.filter (fun q => q.1 != L + 1) = n3 at hDl hH3 N3 hn3 hs3
  clear N2 N1 N2' hs2 hs1 hH1 hH2 hne1 hne2 hc2 hR D
  k_steps
  unfold Stop
  walk_at "exec Assign"
  refine lines_eval (fss := fss) (by k_asm) (by k_asm) (by k_asm) (by k_asm) (by k_asm) rfl (.tail _ hDl) (hH3.mono fun q hq => .tail _ hq) hok.1 ?_
  intro D4 h4 tk4 lns hys F4 N4 hne4
  have z4 : @Ne Nat (L + 1) D4 := hne4 _ (.head _)
  have z4' : @Ne Nat D4 (L + 1) := Ne.symm z4
  walk_at "storeName"
  k_steps
  unfold Stop
  refine told_front (fss := fss) (by k_asm) (by k_asm) (by k_asm) (by k_asm) hd hu hL (by k_asm) (by assumption) hys hok hDl hH3 (by assumption) (by assumption) (by assumption) (by assumption) ?_ hE
  intro h5 tk5 fv bv ev wv n5 F5 N5 hs5 hT5
  unfold mT at F5
  k_steps
  exact hQ g₁ _ h5 _ _ n5 T1 (by k_asm) N5 (fun q hq e => hs5 _ (hs3 q hq e)) hT5
end
section
open PySem PySem.W PySem.Calls PySem.Spec PyProof.Rows PyProof.Rows.LCg PyProof.Rows.LCt
theorem rulesV36x0 : True := by
  k_with_none
  (k_with "k ne" => (refine neN ?_; (try dsimp only); first | (with_reducible assumption) | exact neS (by with_reducible assumption) | omega))
  (k_with "k all" => (refine all_ne (by assumption) ?_; (try dsimp only); omega))
  (k_with "k mem" => assumption)
  (k_with "k all" => assumption)
  trivial
/-- what _law_told does, called from law -/
noncomputable def ToldCon (w : World) (p : Program) (loose : List Str) (mean : ExcName → Option Value) (mg mb : Str → Option Value) (ra : Addr) (fss : List (List Nat)) (news : Led) : Prop :=
  ∀ (dp un : Nat) (gd : Option (List Code)) (cn : Str) (cs : Scope) (a : Addr) (ccd : Value) (cl : List (Str × Addr)) (outer : List Env) (A₀ : Around) (base h₀ : Heap) (L : Addr) (m : Str → Option Value) (s : Shared) (Q E : VP),
    outer.filterMap (·.frame) = [] → Below A₀ base outer h₀ → Fr h₀ L s.heap m → (K w.params).In h₀ → News h₀ L s.heap news → Top p loose mean mg mb h₀ → (K w.params).In base → Top p loose mean mg mb base → cs.kind = .function → dp + 160 < recursionLimit → un + 1600 < cLine →
    (∀ (b : Addr) (h' h₀' : Heap) (tk' : Nat) (news' : Led), Fr h₀' L h' m → News h₀' L h' news' → ToldAre news' b (tabsOf fss) → Below A₀ base outer h₀' → (K w.params).In h₀' → Top p loose mean mg mb h₀' → Q (.ref b) { s with heap := h', toks := tk' }) →
    wpAny (model PySem.Challenge.rw_wk0033_01.row.prog w) (ktrTop dp un gd cn cs L a ccd cl outer) (call (.ref 158) [.ref ra]) Q E s
theorem rulesV36x1 : True := by
  (k_with "execs cons" => (k_here; refine Stop.out ?_))
  trivial
set_option maxHeartbeats 2000000 in
theorem told_con (w : World) (p : Program) (loose : List Str) (mean : ExcName → Option Value) (mg mb : Str → Option Value) (ra : Addr) (fss : List (List Nat)) (news : Led) (hR : RowAre news ra fss) (hok : OkFigs fss) :
    ToldCon w p loose mean mg mb ra fss news := by
  intro dp un gd cn cs a ccd cl outer A₀ base h₀ L m s Q E ho B F X N T XB TB hk hd hu R
  have D : KtsDicts (outer.filterMap (·.frame)) h₀ := by rw [ho]; exact fun _ h => nomatch h
  revert X; k_fill; intro X
  refine wpAny_call ?_
  k_dflt (refine' code_defCT ?k1 ?k2 ?k3 ?k4 ?k5 ?XB ?TB ?kD ?kA ?kF ?kK ?k6 ?k7 ?k8 ?k9 ?kB ?kN ?_ ?c2 ?c3 ?c4; (case kA => exact rfl); (case kF => exact rfl); (case kK => assumption); (case k1 => k_asm); (case k2 => k_asm); (case k3 => k_asm); (case k4 => k_asm); (case k5 => k_asm); (case XB => assumption); (case TB => assumption); (case kD => assumption); (case k6 => k_is); (case k7 => k_is); (case k8 => ktr_room); (case k9 => exact BindsTo.of_eq rfl); (case kB => exact rfl); (case kN => decide +kernel); (case c2 => exact rfl); (case c3 => exact rfl); (case c4 => exact rfl); k_whole; intro g' L' h' tk' cells' FG' F' N' Y' B' X' T' D' l1; k_cells Y'; (try simp only [List.cons_append, List.nil_append] at N'); (try dsimp only); (try k_lift B'); (try k_fold))
  have F2 : Fr g' L' h' (mT (some (.ref ra)) none none none none none none) := by
    have e : ∀ f : Str → Option Value, Fr g' L' h' f → f = mT (some (.ref ra)) none none none none none none → Fr g' L' h' (mT (some (.ref ra)) none none none none none none) := fun f h e => e ▸ h
    refine e _ F' (funext fun y => ?_)
    by_cases h1 : y = Str.ofString "row"
    · subst h1; rfl
    · with_unfolding_all show (if y = Str.ofString "row" then some (Value.ref ra) else none) = _
      rw [if_neg h1]
      simp only [mT, if_neg h1]
      (repeat' split) <;> rfl
  have hL : 1 ≤ L' := by
    obtain ⟨its, k, hm, _⟩ := hR
    have := l1 _ hm
    exact Nat.lt_of_le_of_lt (Nat.zero_le _) this
  change wpAny _ { handled := none, depth := dp + 1, frames := some (envT L' :: envX cn cs L a ccd cl :: outer), guards := gd, units := un + 3 } (execs toldB (envT L')) _ _ _
  refine told_body (s := { s with heap := h', toks := tk' }) (Lw := L) (ra := ra) (fss := fss) (dp := dp + 1) (un := un + 3) B' F2 N' (by first | assumption | rfl) XB TB D' (by show L :: outer.filterMap _ = [L]; rw [ho]) (by omega) (by omega) hL hR hok ?_ ?hE
  case hE => passes_own
  intro g₁ tl h1 tk1 m1 news1 T1 F1 N1 hs1 hT1
  refine leaveT_ F1 N1 (by show KtsTurn (L :: outer.filterMap _) g' g₁; rw [ho]; exact T1) ?_
  intro h₀' _ F3 N3 B3 X3 T3 _
  exact R tl h1 h₀' tk1 news1 F3 N3 hT1 B3 X3 T3
end
section
open PySem PySem.W PyProof.Rows
theorem rulesP2x0 : True := by
  k_with_none
  (k_with "k ne" => (refine neN ?_; (try dsimp only); first | (with_reducible assumption) | exact neS (by with_reducible assumption) | omega))
  (k_with "k all" => (refine all_ne (by assumption) ?_; (try dsimp only); omega))
  (k_with "k mem" => assumption)
  (k_with "k all" => assumption)
  trivial
theorem seg_split {α : Type} (l : List α) {a b c d : Int} (h0 : 0 ≤ a) (h1 : a ≤ b) (h2 : b ≤ c) (h3 : c ≤ d) : seg l a d = seg l a b ++ (seg l b c ++ seg l c d) := by
  unfold seg
  have z1 := Int.sub_nonneg_of_le h1
  have z2 := Int.sub_nonneg_of_le h2
  have z3 := Int.sub_nonneg_of_le h3
  have e1 : (d - a).toNat = (b - a).toNat + ((c - b).toNat + (d - c).toNat) := by
    rw [← Int.toNat_add z2 z3, ← Int.toNat_add z1 (Int.add_nonneg z2 z3)]
    congr 1; omega
  have e2 : b.toNat = a.toNat + (b - a).toNat := tn_split h0 h1
  have e3 : c.toNat = a.toNat + (b - a).toNat + (c - b).toNat := by rw [← e2]; exact tn_split (Int.le_trans h0 h1) h2
  rw [e1, List.take_add, List.drop_drop, List.take_add, List.drop_drop, e3, ← e2]
theorem seg_sub {α : Type} {l : List α} {a b c d : Int} (h0 : 0 ≤ a) (h1 : a ≤ b) (h2 : b ≤ c) (h3 : c ≤ d) : ∀ x ∈ seg l b c, x ∈ seg l a d := by
  intro x hx
  rw [seg_split l h0 h1 h2 h3]
  exact List.mem_append.mpr (.inr (List.mem_append.mpr (.inl hx)))
theorem seg_nil {α : Type} (l : List α) (a : Int) : seg l a a = [] := by
  unfold seg; rw [Int.sub_self]; rfl
theorem topN_mono {l l' : List (Option Nat)} (h : ∀ x ∈ l, x ∈ l') : topN l ≤ topN l' := by
  by_cases h0 : topN l = 0
  · omega
  · exact topN_ge (h _ (topN_mem h0))
theorem digitsN_mono {a b : Nat} (h : a ≤ b) : digitsN a ≤ digitsN b := by
  unfold digitsN; (repeat' split) <;> omega
theorem widthN_mono {l l' : List (Option Nat)} (h : ∀ x ∈ l, x ∈ l') : widthN l ≤ widthN l' := by
  by_cases h0 : topN l = 0
  · rw [widthN, if_pos h0]; exact Nat.zero_le _
  · have h1 := topN_mono h
    have h2 := digitsN_mono h1
    rw [widthN_pos h0, widthN_pos (by omega)]
    have h3 : (if l.any Option.isNone then 4 else 3) ≤ (if l'.any Option.isNone then 4 else 3) := by
      by_cases e : l.any Option.isNone = true
      · obtain ⟨x, hx, hn⟩ := List.any_eq_true.mp e
        have e' : l'.any Option.isNone = true := List.any_eq_true.mpr ⟨x, h x hx, hn⟩
        rw [if_pos e, if_pos e']; exact Nat.le_refl _
      · rw [if_neg e]; split <;> omega
    omega
theorem widthW_mono (fss : List (List Nat)) {a b c d : Int} (h0 : 0 ≤ a) (h1 : a ≤ b) (h2 : b ≤ c) (h3 : c ≤ d) : widthW fss b c ≤ widthW fss a d := by
  have := widthN_mono (seg_sub (l := linesOf fss) h0 h1 h2 h3)
  unfold widthW; omega
theorem distW_mono (fss : List (List Nat)) {a b c d : Int} (h0 : 0 ≤ a) (h1 : a ≤ b) (h2 : b ≤ c) (h3 : c ≤ d) : distW fss b c ≤ distW fss a d := by
  have : distN (preps fss b c) ≤ distN (preps fss a d) := distN_mono fun x hx => by
    obtain ⟨fs, hf, hx⟩ := List.mem_flatMap.mp hx
    exact List.mem_flatMap.mpr ⟨fs, seg_sub h0 h1 h2 h3 fs hf, hx⟩
  unfold distW; omega
theorem sum_nn (l : List (List Nat)) : 0 ≤ (l.map fun fs => ((codesOf fs).length : Int)).sum := by
  induction l with
  | nil => exact Int.le_refl _
  | cons x r ih => rw [List.map_cons, List.sum_cons]; omega
theorem sumW_mono (fss : List (List Nat)) {a b c d : Int} (h0 : 0 ≤ a) (h1 : a ≤ b) (h2 : b ≤ c) (h3 : c ≤ d) : sumW fss b c ≤ sumW fss a d := by
  unfold sumW
  rw [seg_split fss h0 h1 h2 h3, List.map_append, List.map_append, List.sum_append, List.sum_append]
  have := sum_nn (seg fss a b)
  have := sum_nn (seg fss c d)
  omega
theorem tab_wor {W : Int → Int → Int} (h : ∀ {a b c d : Int}, 0 ≤ a → a ≤ b → b ≤ c → c ≤ d → W b c ≤ W a d) (z : ∀ a : Int, W a a = 0) : Cake.Wor 5 fun a b => tabW W a b := by
  refine ⟨fun a b c d h1 h2 h3 _ => ?_, fun a b hab => ?_⟩
  · show tabW W _ _ ≤ tabW W _ _
    unfold tabW
    rw [if_neg (by omega), if_neg (by omega)]
    exact h (by omega) (by omega) (by omega) (by omega)
  · show tabW W _ _ = 0
    unfold tabW
    split
    · rfl
    · rw [show a = b by omega]; exact z _
theorem tabs_wor (fss : List (List Nat)) (k : Fin 3) : Cake.Wor 5 fun a b => tabsOf fss k a b := by
  unfold tabsOf
  refine tab_wor ?_ ?_
  · intro a b c d h0 h1 h2 h3
    split
    · exact widthW_mono fss h0 h1 h2 h3
    · split
      · exact sumW_mono fss h0 h1 h2 h3
      · exact distW_mono fss h0 h1 h2 h3
  · intro a
    split
    · unfold widthW; rw [seg_nil]; rfl
    · split
      · unfold sumW; rw [seg_nil]; rfl
      · unfold distW preps; rw [seg_nil]; rfl
theorem lessF_N (W : Int → Int → Int) {f e : Nat} (h : f ≤ e) : lessF W f e = Cake.lessN (fun a b => W a b) f e := by
  unfold lessF Cake.lessN
  by_cases e1 : f = e
  · rw [if_pos e1, if_pos (by omega)]
  · rw [if_neg e1, if_neg (by omega)]
    have e2 : ((e - 1 : Nat) : Int) = (e : Int) - 1 := by omega
    show min (W ((f : Int) + 1) e) (W f ((e : Int) - 1)) = min (W ((f + 1 : Nat) : Int) e) (W f ((e - 1 : Nat) : Int))
    rw [e2]; rfl
theorem needV_le {W : Int → Int → Int} {f s : Nat} {x : Int} (hf : f ≤ s) (hs : s ≤ 5) (h : Cake.Ok 5 (fun a b => W a b) f s x) : needV W f s ≤ x := by
  obtain ⟨a, b, c⟩ := h
  have e0 := lessF_N W (f := 0) (e := f) (Nat.zero_le _)
  have e1 := lessF_N W hf
  have e2 := lessF_N W hs
  rw [← e0] at a
  rw [← e1] at b
  rw [← e2] at c
  unfold needV
  show max (lessF W ((0 : Nat) : Int) f) (max (lessF W f s) (lessF W s ((5 : Nat) : Int))) ≤ x
  omega
theorem take_in {W : Int → Int → Int} {f s : Int} {p : Int} (hp : p = 0 ∨ p = 1 ∨ p = 2) (h : needV W f s ≤ W (blkA f s p) (blkB f s p)) : p ∈ takesOf W f s := by
  refine List.mem_filter.mpr ⟨?_, decide_eq_true h⟩
  rcases hp with rfl | rfl | rfl <;> simp
theorem dist3 : ∀ i j k : Fin 3, i ≠ j → i ≠ k → j ≠ k → (let p : Fin 3 → Int := fun g => if g = i then 0 else if g = j then 1 else 2; p 0 ≠ p 1 ∧ p 0 ≠ p 2 ∧ p 1 ≠ p 2) ∧ ∀ g : Fin 3, g = i ∨ g = j ∨ g = k := by decide
theorem cut_of {T : Fin 3 → Int → Int → Int} (h : Cake.Sol 5 fun k a b => T k a b) : ∃ f s : Int, 0 ≤ f ∧ f ≤ s ∧ s ≤ 5 ∧ Cut T f s := by
  obtain ⟨f, s, hf, hs, i, j, k, hij, hik, hjk, oi, oj, ok⟩ := h
  refine ⟨f, s, by omega, by omega, by omega, ?_⟩
  obtain ⟨⟨d1, d2, d3⟩, cov⟩ := dist3 i j k hij hik hjk
  have mem : ∀ g : Fin 3, (if g = i then 0 else if g = j then 1 else 2 : Int) ∈ takesOf (T g) f s := by
    intro g
    by_cases e1 : g = i
    · subst e1
      rw [if_pos rfl]
      exact take_in (.inl rfl) (needV_le hf hs oi)
    · rw [if_neg e1]
      by_cases e2 : g = j
      · subst e2
        rw [if_pos rfl]
        exact take_in (.inr (.inl rfl)) (needV_le hf hs oj)
      · rw [if_neg e2]
        obtain rfl : g = k := by
          rcases cov g with h | h | h
          · exact absurd h e1
          · exact absurd h e2
          · exact h
        exact take_in (.inr (.inr rfl)) (needV_le hf hs ok)
  exact ⟨_, _, _, mem 0, mem 1, mem 2, d1, d2, d3⟩
theorem fair (fss : List (List Nat)) : ∃ f s : Int, 0 ≤ f ∧ f ≤ s ∧ s ≤ 5 ∧ Cut (tabsOf fss) f s :=
  cut_of (Cake.cake (by decide) (tabs_wor fss))
end
section
open PySem PySem.W PySem.Calls PySem.Spec PyProof.Rows PyProof.Rows.LCg PyProof.Rows.LCt
theorem rulesV37x0 : True := by
  k_with_none
  (k_with "k ne" => (refine neN ?_; (try dsimp only); first | (with_reducible assumption) | exact neS (by with_reducible assumption) | omega))
  (k_with "k all" => (refine all_ne (by assumption) ?_; (try dsimp only); omega))
  (k_with "k mem" => assumption)
  (k_with "k all" => assumption)
  trivial
noncomputable def lawB : List Stmt := fnB 22
theorem rulesV37x1 : True := by
  (k_with "call ref" => (k_here; refine Stop.out ?_))
  trivial
set_option maxHeartbeats 2000000 in
theorem law_body {w : World} {p : Program} {loose : List Str} {mean : ExcName → Option Value} {mg mb : Str → Option Value} {dp un : Nat} {gd : Option (List Code)} {cn : Str} {a : Addr} {ccd : Value} {outer : List Env} {A₀ : Around} {base h₀ : Heap} {L la : Addr} {s : Shared} {Q : Flow → Shared → Prop} {E : VP} {news : Led} {vs : List Value} {ns : List Int}
    (B : Below A₀ base outer h₀) (F : Fr h₀ L s.heap (fun y => if y = Str.ofString "script" then some (Value.ref la) else none)) (X : (K w.params).In h₀) (N : News h₀ L s.heap news) (T : Top p loose mean mg mb h₀) (XB : (K w.params).In base) (TB : Top p loose mean mg mb base) (ho : outer.filterMap (·.frame) = [])
    (hd : dp + 200 < recursionLimit) (hu : un + 2000 < cLine) (hl : h₀.IsList la vs.toArray) (hvs : IntsAre vs ns) (hlen : ns.length ≤ 63)
    (R : ∀ (h₀' h' : Heap) (tk' : Nat) (m' : Str → Option Value), Fr h₀' L h' m' → Below A₀ base outer h₀' → Q (.ret (.bool true)) { s with heap := h', toks := tk' }) :
    wpAny (model PySem.Challenge.rw_wk0033_01.row.prog w) (ktrTop dp un gd cn (fnS 22) L a ccd [] outer) (execs lawB (envX cn (fnS 22) L a ccd [])) Q E s := by
  revert X; k_fill; intro X
  k_steps
  unfold Stop
  refine row_con w p loose mean mg mb la vs ns hvs hlen news dp un gd cn (fnS 22) a ccd [] outer A₀ base h₀ L _ _ _ _ (by k_asm) (by k_asm) (by k_asm) (by k_asm) (by k_asm) rfl (by omega) (by omega) (by assumption) ?_
  intro b fss h1 tk1 news1 hok F1 N1 hs1 hR1
  k_steps
  unfold Stop
  refine told_con w p loose mean mg mb b fss news1 hR1 hok dp un gd cn (fnS 22) a ccd [] outer A₀ base h₀ L _ _ _ _ ho (by k_asm) (by k_asm) (by k_asm) (by k_asm) (by k_asm) XB TB rfl (by omega) (by omega) ?_
  intro b2 h2 g2 tk2 news2 F2 N2 hT2 B2 X2 T2
  clear F1 N1 F N B X T hR1 hs1
  revert X2; k_fill; intro X2
  dsimp only
  k_steps
  unfold Stop
  refine dealt_con w p loose mean mg mb b2 (tabsOf fss) news2 hT2 (fair fss) dp un gd cn (fnS 22) a ccd [] outer A₀ base g2 L _ _ _ _ (by k_asm) (by k_asm) (by k_asm) (by k_asm) (by k_asm) rfl (by omega) (by omega) ?_
  intro t h3 tk3 F3 N3
  k_steps
  exact R _ h3 tk3 _ F3 B2
end
end Mine
section
open PySem PySem.W PyProof.Rows
namespace Mine
noncomputable def stQ : Stmt → Pos
  | .FunctionDef (pos := a) .. => a
  | _ => default
noncomputable def dLaw : DefRec := { name := Str.ofString "law", params := fnP 22, body := fnB 22, scope := fnS 22, pos := stQ (cell 22) }
abbrev theRow : OpenRow := PySem.Challenge.rw_wk0033_01.row
theorem def1 : defOf q1 theRow.name = some (dLaw, []) := by kernel_rfl
theorem def2 : theRow.prog.theDef theRow.name = some (dLaw.params, dLaw.body, dLaw.scope) := by kernel_rfl
theorem def3 : kwWritten? dLaw.params.kwonlyargs dLaw.params.kw_defaults = some [] := by kernel_rfl
theorem ok1 : (chainsOk q1 && opensWell theRow.prog && (frees theRow.toRowW && theRow.within.isEmpty)) = true := by decide +kernel
theorem bare1 : theRow.prog.bare := ⟨rfl, rfl, rfl, rfl, rfl, by decide +kernel⟩
theorem looksS : looksOpen PySem.Challenge.rw_wk0033_01.row.prog = true := by
  unfold looksOpen
  repeat' (with_reducible refine Bool.and_eq_true_iff.mpr ⟨?_, ?_⟩)
  all_goals decide +kernel
theorem partS : OpenRow.partSaid (OpenLaw.row PySem.Challenge.rw_wk0033_01) = true := by
  unfold OpenRow.partSaid
  rw [looksS]
  repeat' (with_reducible refine Bool.and_eq_true_iff.mpr ⟨?_, ?_⟩)
  all_goals first | rfl | decide +kernel
theorem rowS : OpenRow.wellSaid (OpenLaw.row PySem.Challenge.rw_wk0033_01) = true := by
  unfold OpenRow.wellSaid
  rw [partS, Bool.true_and]
  repeat' (with_reducible refine Bool.and_eq_true_iff.mpr ⟨?_, ?_⟩)
  all_goals decide +kernel
theorem wellS : OpenLaw.wellSaid PySem.Challenge.rw_wk0033_01 = true := by
  unfold OpenLaw.wellSaid
  rw [rowS, Bool.true_and]
  repeat' (with_reducible refine Bool.and_eq_true_iff.mpr ⟨?_, ?_⟩)
  all_goals decide +kernel
set_option maxHeartbeats 0 in
theorem head_all (walk : WalkO q1 loose1 (XL q1 []) HK.says theRow.toRowW dLaw [] fun f vs => PySem.call f vs) : PySem.Challenge.rw_wk0033_01.Holds := by
  w_on
  refine PySem.W.holds_law wellS fun said => ?_
  refine PySem.W.holds_open (r := theRow) (q := q1) (loose := loose1) (Xt := Xt1) (XP := XL q1 []) (Yf := HK.obs) (Ya := HK.val) (YP := HK.says) (N := 30000) hLeft HK.of HK.keeps (fun s e => xl_of s (Bool.and_eq_true_iff.mp e).1) XL.keeps def1 def2 def3 (fun s e => recFacts_of (Bool.and_eq_true_iff.mp e).2) rfl (by assumption) ok1 bare1 ?hw walk
  w_witness2
end Mine
end
local macro_rules | `(tactic| k_qdec) => `(tactic| decide +kernel)
section
open PySem PySem.W PyProof.Rows
namespace Mine
theorem script_m (la : Addr) {h₀ h : Heap} {L : Addr} {f : Str → Option Value} (F : Fr h₀ L h f) (e : f = fun y => if y = Str.ofString "script" then some (Value.ref la) else none) : Fr h₀ L h (fun y => if y = Str.ofString "script" then some (Value.ref la) else none) := e ▸ F
set_option maxHeartbeats 4000000 in
theorem law_walk : WalkO q1 loose1 (XL q1 []) HK.says theRow.toRowW dLaw [] fun f vs => PySem.call f vs := by
  k_go0
  rename_i w s₀ s₁ mg mb G Y fa o pm doc kV ho hg KX X V GL T B TE TW w9 w8 M w7 w6 hcd ns hs hlay0 hL1 hr1 hl2 w4 w3 la vs as hL ra w1 r0 hI hr hc1 hc2 K0 hD h₁ F N0
  have hend : ∀ (h' : Heap) (tk' : Nat), (∀ b o, s₁.heap.get? b = some o → h'.get? b = some o) → GoodW theRow.claim (classAt s₀.heap) (ExcName.means s₀.heap) [ofPy (PyData.list (List.map PyData.int ns))] s₁ (.ok (.ret (.bool true))) { heap := h', gens := s₁.gens, drawn := s₁.drawn, toks := tk', os := s₁.os } := by
    intro h' tk' keep
    refine ⟨.inl ⟨_, _, [], rfl, raisesW_false ?_, .bool true, ?_, fun _ => ⟨List.nodup_nil, fun a h => nomatch h⟩⟩, keep, rfl, hg⟩
    · wrow_none_raised
    · wrow_post
  have F2 := script_m la F (funext fun y => by
    by_cases h : y = Str.ofString "script"
    · subst h; rfl
    · rw [if_neg h]
      exact List.lookup_eq_none_iff.mpr (by simp [h]))
  exact law_body (outer := []) (A₀ := callerA) (base := s₁.heap) (h₀ := s₁.heap) (vs := vs) (ns := ns) K0 F2 KX N0 T KX T rfl (by decide) (by decide) hL hI (by omega) fun h₀' h' tk' m' F' B' => hend h' tk' fun b o e => F'.keep b o (B'.stays b o e)
end Mine
set_option maxHeartbeats 4000000 in
theorem PySem.Challenge.cw_wk0033_01_holds : PySem.Challenge.rw_wk0033_01.Holds := by
  exact Mine.head_all Mine.law_walk
end
