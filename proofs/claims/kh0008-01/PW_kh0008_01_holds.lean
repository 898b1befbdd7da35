import PyProof.Rows.All
import Wide.All
import OpenK.AllK
import Wide.FinOn
import Lean
import PySem.Challenge.RW_kh0008_01
set_option Elab.async false
set_option linter.unusedVariables false
set_option linter.unusedSectionVars false
set_option linter.unusedSimpArgs false
namespace Mine
section
section
variable {F : Type} [Lean.Grind.CommRing F]
def Sl (x1 y1 x2 y2 l : F) : Prop := l*(x1-x2) = y1-y2 ∧ l*(y1+y2) = x1*x1+x1*x2+x2*x2
def Ec (b x y : F) : Prop := y*y = x*x*x + b
structure Dom (F : Type) [Lean.Grind.CommRing F] : Prop where
  dom : ∀ a b : F, a*b = 0 → a = 0 ∨ b = 0
  two : ∀ a : F, a + a = 0 → a = 0
  three : ∀ a : F, a + a + a = 0 → a = 0
theorem sl_e2 {x1 y1 x2 y2 l s : F} (h : Sl x1 y1 x2 y2 l) (hs : s = l*l-x1-x2) : l*(y1-l*x1) + l*(y1-l*x1) = -(x1*x2+(x1+x2)*s) := by
  obtain ⟨h3, h4⟩ := h
  subst hs
  grind
theorem sl_norm {b x1 y1 x2 y2 l s : F} (h1 : Ec b x1 y1) (h : Sl x1 y1 x2 y2 l) (hs : s = l*l-x1-x2) (X : F) :
  (l*(X-x1)+y1)*(l*(X-x1)+y1) - X*X*X - b = -((X-x1)*(X-x2)*(X-s)) := by
  obtain ⟨h3, h4⟩ := h
  unfold Ec at *
  subst hs
  grind
theorem sl_on {b x1 y1 x2 y2 l s t : F} (h1 : Ec b x1 y1) (h : Sl x1 y1 x2 y2 l) (hs : s = l*l-x1-x2) (ht : t = l*(x1-s)-y1) : Ec b s t := by
  have := sl_norm h1 h hs s
  subst ht
  clear h h1 hs
  unfold Ec at *
  grind
theorem Sl.symm {x1 y1 x2 y2 l : F} (h : Sl x1 y1 x2 y2 l) : Sl x2 y2 x1 y1 l := by
  obtain ⟨h3, h4⟩ := h
  constructor <;> grind
theorem sl_sym {x1 y1 x2 y2 l s t : F} (h : Sl x1 y1 x2 y2 l) (ht : t = l*(x1-s)-y1) : t = l*(x2-s)-y2 := by
  obtain ⟨h3, h4⟩ := h
  subst ht
  clear h4
  grind
variable (D : Dom F)
include D
theorem Dom.can {c a b : F} (hc : c ≠ 0) (h : c*a = c*b) : a = b := by
  have : c*(a-b) = 0 := by grind
  rcases D.dom _ _ this with h | h
  · exact absurd h hc
  · grind
theorem sl_uniq {x1 y1 x2 y2 l m : F} (hl : Sl x1 y1 x2 y2 l) (hm : Sl x1 y1 x2 y2 m) (hn : ¬ (x1 = x2 ∧ y1+y2 = 0)) : l = m := by
  obtain ⟨h1, h2⟩ := hl
  obtain ⟨h3, h4⟩ := hm
  by_cases h : x1 - x2 = 0
  · have h' : y1 + y2 ≠ 0 := fun h' => hn ⟨by grind, h'⟩
    exact D.can h' (by grind)
  · exact D.can h (by grind)
/-- f(R) = 0 -/
theorem f_R {b x1 y1 x2 y2 x3 y3 l s t m : F} (hP : Ec b x1 y1) (hR : Ec b x3 y3) (hl : Sl x1 y1 x2 y2 l) (hs : s = l*l-x1-x2) (ht : t = l*(x1-s)-y1)
    (hm : Sl s t x3 y3 m) (hn : ¬ (s = x3 ∧ t+y3 = 0)) : (x3-x1)*(x3-x2) = (l+m)*(y3-y1-l*(x3-x1)) := by
  have hS := sl_on hP hl hs ht
  by_cases h : x3 - s = 0
  · have h3 : x3 = s := by grind
    subst h3
    have hy : y3 = t := by
      have : (t+y3)*(t-y3) = 0 := by unfold Ec at hS hR; clear hl hm ht hs; grind
      rcases D.dom _ _ this with h | h
      · exact absurd ⟨rfl, h⟩ hn
      · grind
    subst hy
    have e2 := sl_e2 hl hs
    obtain ⟨-, h4⟩ := hm
    clear hS hR hn hP hl
    grind
  · apply D.can h
    have hN := sl_norm hP hl hs x3
    obtain ⟨h3, -⟩ := hm
    have hL : (l*(x3-x1)+y1)*(l*(x3-x1)+y1) - y3*y3 = -((x3-x1)*(x3-x2)*(x3-s)) := by rw [← hN]; unfold Ec at hR; rw [hR]; clear hN hS hP h3; grind
    clear hN hS hP hl hs hn h hR
    have hk : (l+m)*(x3-s) = y3 + (l*(x3-x1)+y1) := by subst ht; clear hL; grind
    clear h3 ht
    have e : y3-y1-l*(x3-x1) = y3 - (l*(x3-x1)+y1) := by clear hL hk; grind
    rw [e]
    generalize l*(x3-x1)+y1 = L at *
    clear e
    generalize l+m = k at *
    grind
/-- the function has its residue at Q + R -/
theorem f_QR {b x1 y1 x2 y2 x3 y3 l s t m n : F} (hP : Ec b x1 y1) (hQ : Ec b x2 y2) (hR : Ec b x3 y3) (hl : Sl x1 y1 x2 y2 l) (hs : s = l*l-x1-x2) (ht : t = l*(x1-s)-y1)
    (hm : Sl s t x3 y3 m) (hn : ¬ (s = x3 ∧ t+y3 = 0)) (hq : Sl x2 y2 x3 y3 n) (hn2 : ¬ (x2 = x3 ∧ y2+y3 = 0)) : (l+m)*(l-n) = x1-x3 := by
  have hf := f_R D hP hR hl hs ht hm hn
  by_cases h : x3 - x2 = 0
  · have h3 : x3 = x2 := by grind
    subst h3
    have hy0 : y2 + y3 ≠ 0 := fun h => hn2 ⟨rfl, h⟩
    have hy : y3 = y2 := by
      have : (y2+y3)*(y2-y3) = 0 := by unfold Ec at hQ hR; clear hl hm ht hs hq hf; grind
      rcases D.dom _ _ this with h | h
      · exact absurd h hy0
      · grind
    subst hy
    apply D.can hy0
    have e2 := sl_e2 (s := s) hl.symm (by rw [hs]; grind)
    have hk : (l+m)*(x3-s) = y3 + y3 := by
      obtain ⟨h3, -⟩ := hm
      obtain ⟨h5, -⟩ := hl
      subst ht
      clear e2 hf
      grind
    obtain ⟨-, h4⟩ := hq
    clear hf hm hn hn2 hy0 hP hQ hR ht h
    obtain ⟨h5, h6⟩ := hl
    have h7 : l*(y3+y3) - (x3*x3+x3*x3+x3*x3) = -((x3-x1)*(x3-s)) := by clear h4 hk; grind
    generalize l+m = k at *
    clear hs h5 h6 e2
    grind
  · apply D.can h
    obtain ⟨h3, -⟩ := hq
    obtain ⟨h5, -⟩ := hl
    clear hm hn hn2 hP hQ hR ht hs h
    generalize l+m = k at *
    grind
theorem assoc_slopes {b x1 y1 x2 y2 x3 y3 l s t m n s' t' r : F} (hP : Ec b x1 y1) (hQ : Ec b x2 y2) (hR : Ec b x3 y3)
    (hl : Sl x1 y1 x2 y2 l) (hs : s = l*l-x1-x2) (ht : t = l*(x1-s)-y1) (hn1 : ¬ (x1 = x2 ∧ y1+y2 = 0))
    (hm : Sl s t x3 y3 m) (hn : ¬ (s = x3 ∧ t+y3 = 0)) (hq : Sl x2 y2 x3 y3 n) (hs' : s' = n*n-x2-x3) (ht' : t' = n*(x2-s')-y2) (hn2 : ¬ (x2 = x3 ∧ y2+y3 = 0))
    (hr : Sl x1 y1 s' t' r) (hn3 : ¬ (x1 = s' ∧ y1+t' = 0)) (hPR : ¬ (x1 = x3 ∧ y1 = y3)) :
    m*m-s-x3 = r*r-x1-s' ∧ m*(s-(m*m-s-x3))-t = r*(x1-(m*m-s-x3))-y1 := by
  have h1 := f_QR D hP hQ hR hl hs ht hm hn hq hn2
  have h2 := f_QR D (s := s') (t := t') (m := r) hR hQ hP hq.symm (by rw [hs']; grind) (sl_sym hq ht') hr.symm (fun h => hn3 ⟨h.1.symm, by rw [← h.2]; grind⟩) hl.symm (fun h => hn1 ⟨h.1.symm, by rw [← h.2]; grind⟩)
  have h3 : (l-n)*((l+m)-(n+r)) = 0 := by clear hl hm hq hr hs hs' ht ht'; grind
  rcases D.dom _ _ h3 with h | h
  · exfalso
    have e : l = n := by grind
    subst e
    have e3 : x1 = x3 := by clear hl hm hq hr hs hs' ht ht'; grind
    subst e3
    obtain ⟨h5, -⟩ := hl
    obtain ⟨h6, -⟩ := hq
    exact hPR ⟨rfl, by grind⟩
  · have hm2 := sl_sym hm (t := m*(s-(m*m-s-x3))-t) rfl
    rw [hm2]
    obtain ⟨h5, -⟩ := hl
    obtain ⟨h6, -⟩ := hq
    have er : r = l + m - n := by grind
    clear hm hr hm2 ht ht' h3 h h2
    generalize hk : l + m = k at *
    have em : m = k - l := by grind
    subst em er hs hs'
    clear hk
    have e : (k-l)*(k-l)-(l*l-x1-x2)-x3 = (k-n)*(k-n)-x1-(n*n-x2-x3) := by clear h5 h6; grind
    refine ⟨e, ?_⟩
    generalize hX : (k-l)*(k-l)-(l*l-x1-x2)-x3 = X at *
    clear e
    grind
end
end
end Mine
namespace Mine
section
section
variable {F : Type} [Lean.Grind.CommRing F]
def IsSum (P Q S : Option (F × F)) : Prop := match P, Q with
  | none, Q => S = Q
  | some p, none => S = some p
  | some (x1, y1), some (x2, y2) => (x1 = x2 ∧ y1+y2 = 0 ∧ S = none) ∨ (¬ (x1 = x2 ∧ y1+y2 = 0) ∧ ∃ l, Sl x1 y1 x2 y2 l ∧ S = some (l*l-x1-x2, l*(x1-(l*l-x1-x2))-y1))
def Og (b : F) (P : Option (F × F)) : Prop := match P with
  | none => True
  | some (x, y) => Ec b x y
def ng (P : Option (F × F)) : Option (F × F) := match P with
  | none => none
  | some (x, y) => some (x, -y)
theorem ng_ng (P : Option (F × F)) : ng (ng P) = P := by
  rcases P with _ | ⟨x, y⟩
  · rfl
  · simp only [ng]; congr 2; grind
theorem Og.ng {b : F} {P : Option (F × F)} (h : Og b P) : Og b (ng P) := by
  rcases P with _ | ⟨x, y⟩
  · trivial
  · simp only [Og, Mine.ng, Ec] at *; grind
theorem IsSum.comm {P Q S : Option (F × F)} (h : IsSum P Q S) : IsSum Q P S := by
  rcases P with _ | ⟨x1, y1⟩ <;> rcases Q with _ | ⟨x2, y2⟩
  · exact h
  · exact h
  · exact h
  · rcases h with ⟨h1, h2, h3⟩ | ⟨h1, l, h2, h3⟩
    · exact .inl ⟨h1.symm, by rw [← h2]; grind, h3⟩
    · refine .inr ⟨fun h => h1 ⟨h.1.symm, by rw [← h.2]; grind⟩, l, h2.symm, ?_⟩
      rw [h3]
      have e : l*l-x2-x1 = l*l-x1-x2 := by grind
      rw [e, ← sl_sym h2 rfl]
theorem sl_ng {x1 y1 x2 y2 l : F} (h : Sl x1 y1 x2 y2 l) : Sl x1 (-y1) x2 (-y2) (-l) := by
  obtain ⟨h3, h4⟩ := h
  constructor <;> grind
theorem IsSum.ng {P Q S : Option (F × F)} (h : IsSum P Q S) : IsSum (ng P) (ng Q) (ng S) := by
  rcases P with _ | ⟨x1, y1⟩ <;> rcases Q with _ | ⟨x2, y2⟩
  · cases h; rfl
  · cases h; rfl
  · cases h; rfl
  · rcases h with ⟨h1, h2, rfl⟩ | ⟨h1, l, h2, rfl⟩
    · exact .inl ⟨h1, by grind, rfl⟩
    · refine .inr ⟨fun h => h1 ⟨h.1, by grind⟩, -l, sl_ng h2, ?_⟩
      have e : (-l)*(-l)-x1-x2 = l*l-x1-x2 := by grind
      rw [e]
      simp only [Mine.ng]
      congr 2
      grind
theorem sum_ng (P : Option (F × F)) {S : Option (F × F)} (h : IsSum P (ng P) S) : S = none := by
  rcases P with _ | ⟨x1, y1⟩
  · exact h
  · rcases h with ⟨h1, h2, h3⟩ | ⟨h1, l, h2, h3⟩
    · exact h3
    · exact absurd ⟨rfl, by grind⟩ h1
theorem of_none {P Q : Option (F × F)} (h : IsSum P Q none) : Q = ng P := by
  rcases P with _ | ⟨x1, y1⟩ <;> rcases Q with _ | ⟨x2, y2⟩
  · rfl
  · exact nomatch h
  · exact nomatch h
  · rcases h with ⟨h1, h2, h3⟩ | ⟨h1, l, h2, h3⟩
    · subst h1
      simp only [ng]
      congr 2
      grind
    · exact nomatch h3
variable (D : Dom F)
include D
theorem IsSum.uniq {P Q S T : Option (F × F)} (h : IsSum P Q S) (k : IsSum P Q T) : S = T := by
  rcases P with _ | ⟨x1, y1⟩ <;> rcases Q with _ | ⟨x2, y2⟩
  · exact Eq.trans h (Eq.symm k)
  · exact Eq.trans h (Eq.symm k)
  · exact Eq.trans h (Eq.symm k)
  · rcases h with ⟨h1, h2, rfl⟩ | ⟨h1, l, h2, rfl⟩ <;> rcases k with ⟨k1, k2, rfl⟩ | ⟨k1, m, k2, rfl⟩
    · rfl
    · exact absurd ⟨h1, h2⟩ k1
    · exact absurd ⟨k1, k2⟩ h1
    · rw [sl_uniq D h2 k2 h1]
/-- the slope from a sum to an opposite summand -/
theorem sl_back {x1 y1 x2 y2 l s t : F} (hl : Sl x1 y1 x2 y2 l) (hs : s = l*l-x1-x2) (ht : t = l*(x1-s)-y1) : Sl s t x2 (-y2) (-l) := by
  have e2 := sl_e2 hl.symm (s := s) (by rw [hs]; grind)
  have ht' := sl_sym hl ht
  clear ht
  obtain ⟨h3, h4⟩ := hl
  constructor
  · clear e2 h3 h4 hs; grind
  · clear h3 h4
    subst ht'
    grind
theorem cancel {b : F} (hb : b ≠ 0) {P Q A T : Option (F × F)} (hP : Og b P) (hQ : Og b Q) (h : IsSum P Q A) (k : IsSum A (ng Q) T) : T = P := by
  rcases P with _ | ⟨x1, y1⟩
  · cases h; exact sum_ng _ k
  · rcases Q with _ | ⟨x2, y2⟩
    · cases h; exact k
    · rcases h with ⟨rfl, h2, rfl⟩ | ⟨h1, l, h2, rfl⟩
      · have k : T = some (x1, -y2) := k
        rw [k]
        congr 2
        grind
      · have hk := sl_back D h2 rfl rfl
        generalize hs : l*l-x1-x2 = s at *
        generalize ht : l*(x1-s)-y1 = t at *
        rcases k with ⟨rfl, k2, rfl⟩ | ⟨k1, m, k2, rfl⟩
        · exfalso
          obtain ⟨e1, e2⟩ := hk
          have e3 : y2 + y2 = 0 := by clear e2 hs ht hP hQ h2; grind
          have e4 : s*s+s*s+s*s = 0 := by clear e1 hs ht hP hQ h2; grind
          have e5 := D.two _ e3
          have e6 : s = 0 := (D.dom _ _ (D.three _ e4)).elim id id
          apply hb
          simp only [Og, Ec] at hQ
          subst e5
          clear hs ht h2 e1 e2 e3 e4 k2 hP h1
          subst e6
          grind
        · have e := sl_uniq D k2 hk k1
          subst e
          obtain ⟨e1, -⟩ := k2
          obtain ⟨e3, -⟩ := h2
          have e2 : (-l)*(-l)-s-x2 = x1 := by subst hs; clear ht e1 e3; grind
          rw [e2]
          congr 2
          subst ht
          grind
theorem assoc {b : F} (hb : b ≠ 0) {P Q R A B T T' : Option (F × F)} (hP : Og b P) (hQ : Og b Q) (hR : Og b R)
    (hA : IsSum P Q A) (hT : IsSum A R T) (hB : IsSum Q R B) (hT' : IsSum P B T') : T = T' := by
  -- one sum is infinite
  have half1 : ∀ {P Q R B T T' : Option (F × F)}, Og b P → Og b R → IsSum P Q none → IsSum none R T → IsSum Q R B → IsSum P B T' → T = T' := by
    intro P Q R B T T' hP hR hA hT hB hT'
    have hQ := of_none hA
    subst hQ
    have hT : T = R := hT
    rw [hT]
    refine (cancel D hb hR hP.ng hB.comm (T := T') ?_).symm
    rw [ng_ng]
    exact hT'.comm
  have half2 : ∀ {P Q R A B T' : Option (F × F)}, Og b P → Og b Q → IsSum P Q A → IsSum A R none → IsSum Q R B → IsSum P B T' → T' = none := by
    intro P Q R A B T' hP hQ hA hT hB hT'
    have hR := of_none hT
    subst hR
    have e : B = ng P := cancel D hb hP.ng hQ.ng hA.ng (by rw [ng_ng]; exact hB.comm)
    subst e
    exact sum_ng _ hT'
  rcases P with _ | ⟨x1, y1⟩
  · cases hA
    cases hT'
    exact IsSum.uniq D hT hB
  rcases Q with _ | ⟨x2, y2⟩
  · cases hA
    cases hB
    exact IsSum.uniq D hT hT'
  rcases R with _ | ⟨x3, y3⟩
  · cases hB
    have : T = A := hT.comm
    rw [this]
    exact IsSum.uniq D hA hT'
  rcases A with _ | ⟨s, t⟩
  · exact half1 hP hR hA hT hB hT'
  rcases B with _ | ⟨s', t'⟩
  · exact (half1 hR hP hB.comm hT'.comm hA.comm hT.comm).symm
  rcases T with _ | T
  · exact (half2 hP hQ hA hT hB hT').symm
  rcases T' with _ | T'
  · exact half2 hR hQ hB.comm hT'.comm hA.comm hT.comm
  by_cases hPR : x1 = x3 ∧ y1 = y3
  · obtain ⟨rfl, rfl⟩ := hPR
    have e := IsSum.uniq D hB.comm hA
    rw [e] at hT'
    exact IsSum.uniq D hT hT'.comm
  · rcases hA with ⟨_, _, h⟩ | ⟨n1, l, hl, eA⟩
    · cases h
    rcases hT with ⟨_, _, h⟩ | ⟨n, m, hm, eT⟩
    · cases h
    rcases hB with ⟨_, _, h⟩ | ⟨n2, q, hq, eB⟩
    · cases h
    rcases hT' with ⟨_, _, h⟩ | ⟨n3, r, hr, eT'⟩
    · cases h
    injection eA with eA; injection eA with eA1 eA2
    injection eB with eB; injection eB with eB1 eB2
    rw [← eA1] at eA2
    rw [← eB1] at eB2
    have := assoc_slopes D hP hQ hR hl eA1 eA2 n1 hm n hq eB1 eB2 n2 hr n3 hPR
    rw [eT, eT', ← this.1, ← this.2]
end
end
end Mine
namespace Mine
section
def NP (n : Nat) : Prop := 1 < n ∧ ∀ d, d ∣ n → d = 1 ∨ d = n
theorem NP.cop {p a : Nat} (h : NP p) (ha : ¬ p ∣ a) : Nat.Coprime p a := by
  rcases h.2 _ (Nat.gcd_dvd_left p a) with e | e
  · exact e
  · exact absurd (e ▸ Nat.gcd_dvd_right p a) ha
theorem NP.mul {p a b : Nat} (h : NP p) (hd : p ∣ a * b) : p ∣ a ∨ p ∣ b := by
  by_cases ha : p ∣ a
  · exact .inl ha
  · exact .inr ((h.cop ha).dvd_of_dvd_mul_left hd)
theorem exists_np (n : Nat) (h : 1 < n) : ∃ d, NP d ∧ d ∣ n := by
  induction n using Nat.strongRecOn with
  | ind n ih =>
    by_cases hp : ∀ d, d ∣ n → d = 1 ∨ d = n
    · exact ⟨n, ⟨h, hp⟩, Nat.dvd_refl n⟩
    · obtain ⟨d, hd⟩ := Classical.not_forall.mp hp
      have hd1 : d ∣ n := Classical.byContradiction fun k => hd (fun k' => absurd k' k)
      have hd2 : ¬ (d = 1 ∨ d = n) := fun k => hd (fun _ => k)
      have hle := Nat.le_of_dvd (by omega) hd1
      have h0 : d ≠ 0 := by rintro rfl; have := Nat.eq_zero_of_zero_dvd hd1; omega
      obtain ⟨e, he, hde⟩ := ih d (by omega) (by omega)
      exact ⟨e, he, Nat.dvd_trans hde hd1⟩
theorem perm_of {l' : List Nat} : ∀ {l : List Nat}, l'.Nodup → (∀ x ∈ l', x ∈ l) → l'.length = l.length → l'.Perm l := by
  induction l' with
  | nil => intro l _ _ h; rw [List.eq_nil_of_length_eq_zero h.symm]
  | cons a t ih =>
    intro l hn hs hl
    have ha := hs a List.mem_cons_self
    have hp := List.perm_cons_erase ha
    rw [List.nodup_cons] at hn
    refine List.Perm.trans (List.Perm.cons a (ih hn.2 ?_ ?_)) hp.symm
    · intro x hx
      have hxa : x ≠ a := fun e => hn.1 (e ▸ hx)
      exact (List.mem_erase_of_ne hxa).mpr (hs x (List.mem_cons_of_mem _ hx))
    · rw [List.length_erase_of_mem ha, ← hl]; rfl
def lp : List Nat → Nat
  | [] => 1
  | a :: l => a * lp l
theorem lp_perm {l l' : List Nat} (h : l.Perm l') : lp l = lp l' := by
  induction h with
  | nil => rfl
  | cons x _ ih => simp only [lp, ih]
  | swap x y l => simp only [lp, Nat.mul_left_comm]
  | trans _ _ h1 h2 => exact h1.trans h2
theorem lp_map (a p : Nat) (l : List Nat) : lp (l.map fun i => a * i % p) % p = a ^ l.length * lp l % p := by
  induction l with
  | nil => rfl
  | cons x l ih =>
    simp only [List.map_cons, lp, List.length_cons]
    rw [Nat.mul_mod, ih, Nat.mod_mod, ← Nat.mul_mod, Nat.pow_succ]
    congr 1
    ac_rfl
theorem lp_not {p : Nat} (h : NP p) : ∀ {l : List Nat}, (∀ x ∈ l, ¬ p ∣ x) → ¬ p ∣ lp l := by
  intro l
  induction l with
  | nil => intro _ hd; have := Nat.le_of_dvd (by decide) hd; have := h.1; simp only [lp] at *; omega
  | cons x l ih =>
    intro hl hd
    rcases h.mul hd with k | k
    · exact hl x List.mem_cons_self k
    · exact ih (fun y hy => hl y (List.mem_cons_of_mem _ hy)) k
theorem fermat {p a : Nat} (h : NP p) (ha : ¬ p ∣ a) : a ^ (p - 1) % p = 1 := by
  have h1 := h.1
  let L := List.range' 1 (p - 1)
  have hmem : ∀ x, x ∈ L ↔ 1 ≤ x ∧ x < p := by
    intro x
    simp only [L, List.mem_range'_1]
    omega
  have hnd : ∀ x ∈ L, ¬ p ∣ x := fun x hx hd => by
    have := (hmem x).mp hx
    have := Nat.le_of_dvd (by omega) hd
    omega
  have hL : L.Nodup := List.nodup_range' (step := 1) (by decide)
  have key : (L.map fun i => a * i % p).Perm L := by
    apply perm_of
    · refine List.pairwise_map.mpr (List.Pairwise.imp_of_mem ?_ hL)
      intro x y hx hy hxy e
      have hx' := (hmem x).mp hx
      have hy' := (hmem y).mp hy
      rcases Nat.lt_or_gt_of_ne hxy with hlt | hlt
      · have hd : p ∣ a * y - a * x := Nat.dvd_of_mod_eq_zero (Nat.sub_mod_eq_zero_of_mod_eq e.symm)
        rw [← Nat.mul_sub] at hd
        rcases h.mul hd with k | k
        · exact ha k
        · have := Nat.le_of_dvd (by omega) k; omega
      · have hd : p ∣ a * x - a * y := Nat.dvd_of_mod_eq_zero (Nat.sub_mod_eq_zero_of_mod_eq e)
        rw [← Nat.mul_sub] at hd
        rcases h.mul hd with k | k
        · exact ha k
        · have := Nat.le_of_dvd (by omega) k; omega
    · intro y hy
      obtain ⟨x, hx, rfl⟩ := List.mem_map.mp hy
      rw [hmem]
      refine ⟨?_, Nat.mod_lt _ (by omega)⟩
      rcases Nat.eq_zero_or_pos (a * x % p) with e | e
      · exfalso
        rcases h.mul (Nat.dvd_of_mod_eq_zero e) with k | k
        · exact ha k
        · exact hnd x hx k
      · exact e
    · exact List.length_map _
  have e := lp_map a p L
  rw [lp_perm key] at e
  have hlen : L.length = p - 1 := List.length_range'
  rw [hlen] at e
  have hpos : 0 < a ^ (p - 1) := Nat.pow_pos (Nat.pos_of_ne_zero (fun e => ha (e ▸ Nat.dvd_zero p)))
  have hd : p ∣ a ^ (p - 1) * lp L - lp L := Nat.dvd_of_mod_eq_zero (Nat.sub_mod_eq_zero_of_mod_eq e.symm)
  have e2 : a ^ (p - 1) * lp L - lp L = lp L * (a ^ (p - 1) - 1) := by rw [Nat.mul_sub, Nat.mul_one, Nat.mul_comm]
  rw [e2] at hd
  rcases h.mul hd with k | k
  · exact absurd k (lp_not h hnd)
  · obtain ⟨c, hc⟩ := k
    have e3 : a ^ (p - 1) = 1 + p * c := by omega
    rw [e3, Nat.add_mul_mod_self_left, Nat.mod_eq_of_lt h1]
theorem pow_gcd {d a : Nat} (h1 : 1 < d) (m n : Nat) : a ^ m % d = 1 → a ^ n % d = 1 → a ^ Nat.gcd m n % d = 1 := by
  induction m, n using Nat.gcd.induction with
  | H0 n => intro _ h; rw [Nat.gcd_zero_left]; exact h
  | H1 m n hm ih =>
    intro h k
    rw [Nat.gcd_rec]
    refine ih ?_ h
    have e : a ^ n = (a ^ m) ^ (n / m) * a ^ (n % m) := by rw [← Nat.pow_mul, ← Nat.pow_add, Nat.div_add_mod]
    rw [e, Nat.mul_mod, Nat.pow_mod, h, Nat.one_pow, Nat.mod_eq_of_lt h1, Nat.one_mul, Nat.mod_mod] at k
    exact k
theorem pow_dvd1 {d a m n : Nat} (h1 : 1 < d) (h : a ^ m % d = 1) (hd : m ∣ n) : a ^ n % d = 1 := by
  obtain ⟨c, rfl⟩ := hd
  rw [Nat.pow_mul, Nat.pow_mod, h, Nat.one_pow, Nat.mod_eq_of_lt h1]
/-- a^e mod n, from the right -/
def pwr (n : Nat) : Nat → Nat → Nat → Nat → Nat
  | 0, acc, _, _ => acc
  | k + 1, acc, b, e => pwr n k (if e % 2 = 1 then acc * b % n else acc) (b * b % n) (e / 2)
theorem pwr_eq (n : Nat) : ∀ (k acc b e : Nat), e < 2 ^ k → pwr n k acc b e % n = acc * b ^ e % n := by
  intro k
  induction k with
  | zero => intro acc b e h; have : e = 0 := by simpa using h
            subst this; simp [pwr]
  | succ k ih =>
    intro acc b e h
    rw [Nat.pow_succ] at h
    rw [pwr, ih _ _ _ (by omega)]
    have e1 : (b * b % n) ^ (e / 2) % n = b ^ (2 * (e / 2)) % n := by rw [← Nat.pow_mod, Nat.pow_mul, Nat.pow_two]
    by_cases h2 : e % 2 = 1
    · rw [if_pos h2, Nat.mul_mod, e1, Nat.mod_mod, ← Nat.mul_mod, Nat.mul_assoc, ← Nat.pow_succ']
      congr 3; omega
    · rw [if_neg h2, Nat.mul_mod, e1, ← Nat.mul_mod]
      congr 3; omega
def pk (N a q : Nat) : Bool :=
  let x := pwr N 400 1 a ((N - 1) / q)
  Nat.beq (Nat.gcd (x % N + N - 1) N) 1 && Nat.beq (q * ((N - 1) / q)) (N - 1)
/-- the test that belongs to the exponent N - 1 alone -/
def pk0 (N a : Nat) : Bool := Nat.beq (pwr N 400 1 a (N - 1) % N) 1 && Nat.blt (N - 1) (2 ^ 400) && Nat.blt 1 N
theorem pk_one {N a q d : Nat} (h0 : pk0 N a = true) (h : pk N a q = true) (hq : NP q) (hd : NP d) (hdN : d ∣ N) : q ∣ d - 1 := by
  simp only [pk0, Bool.and_eq_true, Nat.beq_eq, Nat.blt_eq] at h0
  simp only [pk, Bool.and_eq_true, Nat.beq_eq] at h
  obtain ⟨⟨h1, h2⟩, hN⟩ := h0
  obtain ⟨h3, h4⟩ := h
  rw [pwr_eq _ _ _ _ _ h2, Nat.one_mul] at h1
  have hlt : (N - 1) / q < 2 ^ 400 := Nat.lt_of_le_of_lt (Nat.div_le_self _ _) h2
  rw [pwr_eq _ _ _ _ _ hlt, Nat.one_mul] at h3
  have hd1 := hd.1
  have down : ∀ e, a ^ e % N = 1 → a ^ e % d = 1 := fun e he => by
    rw [← Nat.mod_mod_of_dvd _ hdN, he, Nat.mod_eq_of_lt hd1]
  have hN1 := down _ h1
  have hda : ¬ d ∣ a := by
    intro hda
    have : a ^ (N - 1) % d = 0 := by
      refine Nat.mod_eq_zero_of_dvd (Nat.dvd_trans hda ?_)
      obtain ⟨j, hj⟩ : ∃ j, N - 1 = j + 1 := ⟨N - 2, by omega⟩
      rw [hj, Nat.pow_succ']
      exact Nat.dvd_mul_right _ _
    omega
  have hf := fermat hd hda
  by_cases hqd : q ∣ d - 1
  · exact hqd
  · exfalso
    have hg := pow_gcd hd1 _ _ hN1 hf
    have hc : Nat.Coprime q (Nat.gcd (N - 1) (d - 1)) := hq.cop fun k => hqd (Nat.dvd_trans k (Nat.gcd_dvd_right _ _))
    have hgd : Nat.gcd (N - 1) (d - 1) ∣ (N - 1) / q := by
      refine hc.symm.dvd_of_dvd_mul_left ?_
      rw [h4]
      exact Nat.gcd_dvd_left _ _
    have h5 := pow_dvd1 hd1 hg hgd
    have h6 : d ∣ a ^ ((N - 1) / q) % N + N - 1 := by
      have h7 : (a ^ ((N - 1) / q) % N) % d = 1 := by rw [Nat.mod_mod_of_dvd _ hdN]; exact h5
      obtain ⟨c, hc⟩ := id hdN
      apply Nat.dvd_of_mod_eq_zero
      have h8 : a ^ ((N - 1) / q) % N + N - 1 = (a ^ ((N - 1) / q) % N - 1) + d * c := by
        have : a ^ ((N - 1) / q) % N ≠ 0 := by intro e; rw [e, Nat.zero_mod] at h7; omega
        omega
      rw [h8, Nat.add_mul_mod_self_left]
      exact Nat.sub_mod_eq_zero_of_mod_eq (by rw [h7, Nat.mod_eq_of_lt hd1])
    have h9 := Nat.dvd_gcd h6 hdN
    rw [h3] at h9
    have := Nat.le_of_dvd (by decide) h9
    omega
/-- N = F R + 1, all prime divisors 1 modulo F, F large -/
theorem np_of {N F : Nat} (hF : ∀ d, NP d → d ∣ N → F ∣ d - 1) (hN : 1 < N) (hF1 : 1 < F) (h0 : N % F = 1) (h3 : N ≤ F * F * F)
    (hq : (N / F) / F = 0 ∨ ∃ w, w * w + 4 * ((N / F) / F) < ((N / F) % F) * ((N / F) % F) ∧ ((N / F) % F) * ((N / F) % F) < (w + 1) * (w + 1) + 4 * ((N / F) / F)) : NP N := by
  obtain ⟨d, hd, hdN⟩ := exists_np N hN
  obtain ⟨e, he⟩ := hdN
  have hd1 := hd.1
  obtain ⟨u, hu⟩ := hF d hd ⟨e, he⟩
  have hdu : d = F * u + 1 := by omega
  have he0 : e ≠ 0 := by rintro rfl; omega
  by_cases he1 : e = 1
  · subst he1
    rw [Nat.mul_one] at he
    rw [he]; exact hd
  exfalso
  have hev : ∃ v, e = F * v + 1 := by
    have h4 : N % F = e % F := by
      rw [he, hdu, Nat.mul_mod, Nat.mul_add_mod, Nat.mod_eq_of_lt hF1, Nat.one_mul, Nat.mod_mod]
    rw [h0] at h4
    exact ⟨e / F, by have := Nat.div_add_mod e F; omega⟩
  obtain ⟨v, hv⟩ := hev
  have hu1 : 1 ≤ u := Nat.one_le_iff_ne_zero.mpr (by rintro rfl; omega)
  have hv1 : 1 ≤ v := Nat.one_le_iff_ne_zero.mpr (by rintro rfl; omega)
  obtain ⟨u', rfl⟩ : ∃ u', u = u' + 1 := ⟨u - 1, by omega⟩
  obtain ⟨v', rfl⟩ : ∃ v', v = v' + 1 := ⟨v - 1, by omega⟩
  have hNe : N = F * ((u' + 1 + (v' + 1)) + F * ((u' + 1) * (v' + 1))) + 1 := by rw [he, hdu, hv]; grind
  have hR : N / F = (u' + 1 + (v' + 1)) + F * ((u' + 1) * (v' + 1)) := by
    rw [hNe, Nat.mul_add_div (by omega), Nat.div_eq_of_lt hF1]; omega
  -- u v < F
  have huv : (u' + 1) * (v' + 1) < F := by
    refine Classical.byContradiction fun hc => ?_
    have h5 : F * F * F ≤ F * (F * ((u' + 1) * (v' + 1))) := by
      rw [Nat.mul_assoc]
      exact Nat.mul_le_mul_left _ (Nat.mul_le_mul_left _ (by omega))
    have h6 : F * (F * ((u' + 1) * (v' + 1))) < N := by
      have h7 := Nat.mul_le_mul_left F (Nat.le_add_left (F * ((u' + 1) * (v' + 1))) (u' + 1 + (v' + 1)))
      rw [hNe]
      exact Nat.lt_succ_of_le h7
    omega
  have hsum : (u' + 1) + (v' + 1) ≤ (u' + 1) * (v' + 1) + 1 := by
    have : (u' + 1) * (v' + 1) = u' * v' + u' + v' + 1 := by grind
    omega
  have hlt : (u' + 1) + (v' + 1) < F := by
    refine Classical.byContradiction fun hc => ?_
    have e1 : (u' + 1) + (v' + 1) = F := by omega
    have e2 : (u' + 1) * (v' + 1) + 1 = F := by omega
    have : N = F * F * F + 1 := by
      rw [hNe, e1, Nat.mul_assoc]
      congr 2
      have : F + F * ((u' + 1) * (v' + 1)) = F * ((u' + 1) * (v' + 1) + 1) := by grind
      rw [this, e2]
    omega
  have hs : (N / F) % F = (u' + 1) + (v' + 1) := by rw [hR, Nat.add_mul_mod_self_left, Nat.mod_eq_of_lt hlt]
  have hp : (N / F) / F = (u' + 1) * (v' + 1) := by rw [hR, Nat.add_mul_div_left _ _ (by omega), Nat.div_eq_of_lt hlt, Nat.zero_add]
  rw [hs, hp] at hq
  rcases hq with h | ⟨w, hw1, hw2⟩
  · have : (u' + 1) * (v' + 1) = u' * v' + u' + v' + 1 := by grind
    omega
  · have key : ∀ {x y w : Nat}, x ≤ y → w * w + 4 * (x * y) < (x + y) * (x + y) → (x + y) * (x + y) < (w + 1) * (w + 1) + 4 * (x * y) → False := by
      intro x y w hxy h1 h2
      obtain ⟨z, rfl⟩ := Nat.exists_eq_add_of_le hxy
      have e3 : (x + (x + z)) * (x + (x + z)) = z * z + 4 * (x * (x + z)) := by grind
      rw [e3] at h1 h2
      have h1 : w * w < z * z := by omega
      have h2 : z * z < (w + 1) * (w + 1) := by omega
      have := Nat.mul_self_lt_mul_self_iff.mp h1
      have := Nat.mul_self_lt_mul_self_iff.mp h2
      omega
    rcases Nat.le_total (u' + 1) (v' + 1) with h | h
    · exact key h hw1 hw2
    · rw [Nat.mul_comm (u' + 1), Nat.add_comm (u' + 1)] at hw1 hw2
      exact key h hw1 hw2
/-- trial division -/
theorem np_trial {n : Nat} (k : Nat) (h1 : 1 < n) (hk : n < (k + 2) * (k + 2)) (h : (List.range k).all (fun i => !Nat.beq (n % (i + 2)) 0) = true) : NP n := by
  rw [List.all_eq_true] at h
  have no : ∀ d, 1 < d → d ∣ n → k + 2 ≤ d := by
    intro d hd hdn
    refine Classical.byContradiction fun hc => ?_
    have := h (d - 2) (List.mem_range.mpr (by omega))
    have e : d - 2 + 2 = d := by omega
    rw [e, Nat.mod_eq_zero_of_dvd hdn] at this
    cases this
  refine ⟨h1, fun d hd => ?_⟩
  obtain ⟨e, he⟩ := hd
  by_cases h2 : d = 1
  · exact .inl h2
  by_cases h3 : e = 1
  · right; rw [he, h3, Nat.mul_one]
  exfalso
  have hd0 : d ≠ 0 := by rintro rfl; omega
  have he0 : e ≠ 0 := by rintro rfl; omega
  have a := no d (by omega) ⟨e, he⟩
  have b := no e (by omega) ⟨d, by rw [he, Nat.mul_comm]⟩
  have := Nat.mul_le_mul a b
  omega
def sq (N F w : Nat) : Bool := let R := N / F; let s := R % F; let q := R / F
  Nat.beq (N % F) 1 && Nat.ble N (F * F * F) && Nat.blt 1 F && Nat.blt 1 N && (Nat.beq q 0 || (Nat.blt (w * w + 4 * q) (s * s) && Nat.blt (s * s) ((w + 1) * (w + 1) + 4 * q)))
theorem np_sq {N F : Nat} (w : Nat) (h : sq N F w = true) (hF : ∀ d, NP d → d ∣ N → F ∣ d - 1) : NP N := by
  simp only [sq, Bool.and_eq_true, Bool.or_eq_true, Nat.beq_eq, Nat.blt_eq, Nat.ble_eq] at h
  obtain ⟨⟨⟨⟨h1, h2⟩, h3⟩, h4⟩, h5⟩ := h
  exact np_of hF h4 h3 h1 h2 (h5.imp id fun h => ⟨w, h⟩)
theorem np_one {N q : Nat} (a w : Nat) (hq : NP q) (h0 : pk0 N a = true) (h1 : pk N a q = true) (h : sq N q w = true) : NP N :=
  np_sq w h fun _ hd hdN => pk_one h0 h1 hq hd hdN
theorem cop2 {p q x : Nat} (hp : NP p) (hn : ¬ p ∣ q) (h1 : p ∣ x) (h2 : q ∣ x) : p * q ∣ x := (hp.cop hn).mul_dvd_of_dvd_of_dvd h1 h2
theorem n983 : NP 983 := np_trial 40 (by decide) (by decide) (by decide +kernel)
theorem n10177 : NP 10177 := np_trial 110 (by decide) (by decide) (by decide +kernel)
theorem n11003 : NP 11003 := np_trial 110 (by decide) (by decide) (by decide +kernel)
theorem n4999 : NP 4999 := np_trial 80 (by decide) (by decide) (by decide +kernel)
theorem n47737 : NP 47737 := np_trial 220 (by decide) (by decide) (by decide +kernel)
theorem n327599 : NP 327599 := np_trial 580 (by decide) (by decide) (by decide +kernel)
theorem n609743 : NP 609743 := np_trial 790 (by decide) (by decide) (by decide +kernel)
theorem n859267 : NP 859267 := np_one 2 0 n47737 (by decide +kernel) (by decide +kernel) (by decide +kernel)
theorem n52437899 : NP 52437899 := np_one 2 0 n609743 (by decide +kernel) (by decide +kernel) (by decide +kernel)
theorem n405928799 : NP 405928799 := np_one 2 1217 n4999 (by decide +kernel) (by decide +kernel) (by decide +kernel)
theorem n11465965001 : NP 11465965001 := np_one 2 0 n327599 (by decide +kernel) (by decide +kernel) (by decide +kernel)
theorem n582767 : NP 582767 := np_trial 770 (by decide) (by decide) (by decide +kernel)
theorem n9272813673901 : NP 9272813673901 := np_one 2 176990 n582767 (by decide +kernel) (by decide +kernel) (by decide +kernel)
theorem n1928745244171409 : NP 1928745244171409 := np_one 2 0 n9272813673901 (by decide +kernel) (by decide +kernel) (by decide +kernel)
theorem n7259797099061183477 : NP 7259797099061183477 := np_one 2 0 n1928745244171409 (by decide +kernel) (by decide +kernel) (by decide +kernel)
theorem n2584487767265781317813 : NP 2584487767265781317813 := np_one 2 0 n7259797099061183477 (by decide +kernel) (by decide +kernel) (by decide +kernel)
def P1 : Nat := 4002409555221667393417789825735904156556882819939007885332058136124031650490837864442687629129015664037894272559787
def P2 : Nat := 21888242871839275222246405745257275088696311157297823662689037894645226208583
theorem cop4 {a b c d x : Nat} (ha : NP a) (hb : NP b) (hc : NP c) (h1 : a ∣ x) (h2 : b ∣ x) (h3 : c ∣ x) (h4 : d ∣ x)
    (k : (Nat.gcd a (b * (c * d)) == 1 && (Nat.gcd b (c * d) == 1 && Nat.gcd c d == 1)) = true) : a * (b * (c * d)) ∣ x := by
  simp only [Bool.and_eq_true, beq_iff_eq] at k
  exact Nat.Coprime.mul_dvd_of_dvd_of_dvd k.1 h1 (Nat.Coprime.mul_dvd_of_dvd_of_dvd k.2.1 h2 (Nat.Coprime.mul_dvd_of_dvd_of_dvd k.2.2 h3 h4))
theorem np1 : NP P1 := np_sq (F := 2584487767265781317813 * (52437899 * (859267 * 10177))) 798370637020364510895097694701095458817 (by decide +kernel) fun d hd hdN => by
  have h0 : pk0 P1 2 = true := by decide +kernel
  exact cop4 n2584487767265781317813 n52437899 n859267 (pk_one h0 (by decide +kernel) n2584487767265781317813 hd hdN) (pk_one h0 (by decide +kernel) n52437899 hd hdN)
    (pk_one h0 (by decide +kernel) n859267 hd hdN) (pk_one h0 (by decide +kernel) n10177 hd hdN) (by decide +kernel)
theorem np2 : NP P2 := np_sq (F := 405928799 * (11465965001 * (11003 * 983))) 32816546054172017075074301 (by decide +kernel) fun d hd hdN => by
  have h0 : pk0 P2 2 = true := by decide +kernel
  exact cop4 n405928799 n11465965001 n11003 (pk_one h0 (by decide +kernel) n405928799 hd hdN) (pk_one h0 (by decide +kernel) n11465965001 hd hdN)
    (pk_one h0 (by decide +kernel) n11003 hd hdN) (pk_one h0 (by decide +kernel) n983 hd hdN) (by decide +kernel)
end
end Mine
namespace Mine
section
section
variable {F : Type} [Lean.Grind.CommRing F]
def RepF (X Y Z : F) (P : Option (F × F)) : Prop := match P with
  | none => Z = 0 ∧ ¬ (X = 0 ∧ Y = 0)
  | some (x, y) => Z ≠ 0 ∧ x * Z = X ∧ y * Z = Y
theorem dbl_x {x y Z X Y l W S B H : F} (hl : l*(y+y) = x*x+x*x+x*x) (hX : x*Z = X) (hY : y*Z = Y) (hW : W = X*3*X) (hS : S = Y*Z) (hB : B = X*Y*S) (hH : H = W*W-B*8) :
    (l*l-x-x)*(S*8*(S*S)) = H*2*S := by
  subst hX hY
  have e : W = l*(y+y)*(Z*Z) := by rw [hl, hW]; grind
  clear hl hW
  subst hS
  subst hB e hH
  grind
theorem dbl_y {x y Z X Y l W S B H : F} (hl : l*(y+y) = x*x+x*x+x*x) (hX : x*Z = X) (hY : y*Z = Y) (hW : W = X*3*X) (hS : S = Y*Z) (hB : B = X*Y*S) (hH : H = W*W-B*8) :
    (l*(x-(l*l-x-x))-y)*(S*8*(S*S)) = W*(B*4-H) - Y*8*Y*(S*S) := by
  subst hX hY
  have e : W = l*(y+y)*(Z*Z) := by rw [hl, hW]; grind
  clear hl hW
  subst hS
  subst hB e hH
  grind
theorem add_x {x1 y1 Z1 X1 Y1 x2 y2 Z2 X2 Y2 l U1 U2 V1 V2 U V VV VVV2 VC W A : F} (hl : l*(x1-x2) = y1-y2) (hX1 : x1*Z1 = X1) (hY1 : y1*Z1 = Y1) (hX2 : x2*Z2 = X2) (hY2 : y2*Z2 = Y2)
    (hU1 : U1 = Y2*Z1) (hU2 : U2 = Y1*Z2) (hV1 : V1 = X2*Z1) (hV2 : V2 = X1*Z2) (hU : U = U1-U2) (hV : V = V1-V2) (hVV : VV = V*V) (hVVV2 : VVV2 = VV*V2) (hVC : VC = V*VV) (hW : W = Z1*Z2) (hA : A = U*U*W-VC-VVV2*2) :
    (l*l-x1-x2)*(VC*W) = V*A := by
  have eV : V = -((x1-x2)*W) := by subst hV hV1 hV2 hX1 hX2 hW; clear hA hl; grind
  have eU : U = l*V := by subst hU hU1 hU2 hY1 hY2; rw [eV]; subst hW; clear hA; grind
  have eV2 : V2 = x1*W := by subst hV2 hX1 hW; clear hA hl eV eU; grind
  clear hl hX1 hY1 hX2 hY2 hU1 hU2 hV1 hV2 hU hV hW
  subst hA hVC hVVV2 hVV eV2 eU
  have e : x2*W = x1*W + V := by rw [eV]; grind
  have e2 : (l*l-x1-x2)*(V*(V*V)*W) = (V*(V*V))*(l*l*W - x1*W - x2*W) := by clear e eV; grind
  rw [e2, e]
  clear e2 e eV
  grind
theorem add_y {x1 y1 Z1 X1 Y1 x2 y2 Z2 X2 Y2 l U1 U2 V1 V2 U V VV VVV2 VC W A : F} (hl : l*(x1-x2) = y1-y2) (hX1 : x1*Z1 = X1) (hY1 : y1*Z1 = Y1) (hX2 : x2*Z2 = X2) (hY2 : y2*Z2 = Y2)
    (hU1 : U1 = Y2*Z1) (hU2 : U2 = Y1*Z2) (hV1 : V1 = X2*Z1) (hV2 : V2 = X1*Z2) (hU : U = U1-U2) (hV : V = V1-V2) (hVV : VV = V*V) (hVVV2 : VVV2 = VV*V2) (hVC : VC = V*VV) (hW : W = Z1*Z2) (hA : A = U*U*W-VC-VVV2*2) :
    (l*(x1-(l*l-x1-x2))-y1)*(VC*W) = U*(VVV2-A)-VC*U2 := by
  have eV : V = -((x1-x2)*W) := by subst hV hV1 hV2 hX1 hX2 hW; clear hA hl; grind
  have eU : U = l*V := by subst hU hU1 hU2 hY1 hY2; rw [eV]; subst hW; clear hA; grind
  have eV2 : V2 = x1*W := by subst hV2 hX1 hW; clear hA hl eV eU; grind
  have eU2 : U2 = y1*W := by subst hU2 hY1 hW; clear hA hl eV eU; grind
  clear hl hX1 hY1 hX2 hY2 hU1 hU2 hV1 hV2 hU hV hW
  subst hA hVC hVVV2 hVV eV2 eU eU2
  have e : x2*W = x1*W + V := by rw [eV]; grind
  have e2 : (l*(x1-(l*l-x1-x2))-y1)*(V*(V*V)*W) = (V*(V*V))*(l*(x1*W-(l*l*W-x1*W-x2*W))-y1*W) := by clear e eV; grind
  rw [e2, e]
  clear e2 e eV
  grind
variable (D : Dom F)
include D
theorem Dom.ne {a b : F} (ha : a ≠ 0) (hb : b ≠ 0) : a*b ≠ 0 := fun h => (D.dom _ _ h).elim ha hb
theorem Dom.eight {a : F} (h : a*8 = 0) : a = 0 := by
  have : (a+a+(a+a))+(a+a+(a+a)) = 0 := by grind
  exact D.two _ (D.two _ (D.two _ this))
theorem rep_dbl {b : F} (hb : b ≠ 0) {x y Z X Y W S B H : F} (hc : Ec b x y) (hZ : Z ≠ 0) (hX : x*Z = X) (hY : y*Z = Y) (hW : W = X*3*X) (hS : S = Y*Z) (hB : B = X*Y*S) (hH : H = W*W-B*8) {P : Option (F × F)}
    (h : IsSum (some (x, y)) (some (x, y)) P) : RepF (H*2*S) (W*(B*4-H) - Y*8*Y*(S*S)) (S*8*(S*S)) P := by
  rcases h with ⟨_, h2, rfl⟩ | ⟨h1, l, ⟨_, h2⟩, rfl⟩
  · have hy := D.two _ h2
    subst hy
    have hY0 : Y = 0 := by rw [← hY]; grind
    subst hY0
    have hS0 : S = 0 := by rw [hS]; grind
    subst hS0
    have hx : x ≠ 0 := by
      rintro rfl
      apply hb
      unfold Ec at hc
      grind
    have hW0 : W ≠ 0 := by
      intro h
      have hX0 : X ≠ 0 := hX ▸ D.ne hx hZ
      apply D.ne hX0 hX0
      apply D.three
      rw [hW] at h
      grind
    refine ⟨by grind, fun h => D.ne hW0 (D.ne hW0 hW0) ?_⟩
    have := h.2
    rw [hB] at hH
    subst hH hB
    clear hW hX hY hc h2 hS h
    grind
  · have hy : y ≠ 0 := by
      rintro rfl
      exact h1 ⟨rfl, by grind⟩
    have hS0 : S ≠ 0 := by rw [hS, ← hY]; exact D.ne (D.ne hy hZ) hZ
    refine ⟨?_, dbl_x h2 hX hY hW hS hB hH, dbl_y h2 hX hY hW hS hB hH⟩
    exact D.ne (fun h => hS0 (D.eight h)) (D.ne hS0 hS0)
theorem rep_gen {x1 y1 Z1 X1 Y1 x2 y2 Z2 X2 Y2 U1 U2 V1 V2 U V VV VVV2 VC W A : F} (hZ1 : Z1 ≠ 0) (hZ2 : Z2 ≠ 0) (hX1 : x1*Z1 = X1) (hY1 : y1*Z1 = Y1) (hX2 : x2*Z2 = X2) (hY2 : y2*Z2 = Y2)
    (hU1 : U1 = Y2*Z1) (hU2 : U2 = Y1*Z2) (hV1 : V1 = X2*Z1) (hV2 : V2 = X1*Z2) (hU : U = U1-U2) (hV : V = V1-V2) (hVV : VV = V*V) (hVVV2 : VVV2 = VV*V2) (hVC : VC = V*VV) (hW : W = Z1*Z2) (hA : A = U*U*W-VC-VVV2*2)
    (hne : V1 ≠ V2) {P : Option (F × F)} (h : IsSum (some (x1, y1)) (some (x2, y2)) P) : RepF (V*A) (U*(VVV2-A)-VC*U2) (VC*W) P := by
  have hV0 : V ≠ 0 := by
    intro h
    rw [hV] at h
    exact hne (by grind)
  rcases h with ⟨h1, _, _⟩ | ⟨_, l, ⟨h2, _⟩, rfl⟩
  · exfalso
    apply hne
    rw [hV1, hV2, ← hX1, ← hX2, h1]
    grind
  · refine ⟨?_, add_x h2 hX1 hY1 hX2 hY2 hU1 hU2 hV1 hV2 hU hV hVV hVVV2 hVC hW hA, add_y h2 hX1 hY1 hX2 hY2 hU1 hU2 hV1 hV2 hU hV hVV hVVV2 hVC hW hA⟩
    rw [hVC, hVV, hW]
    exact D.ne (D.ne hV0 (D.ne hV0 hV0)) (D.ne hZ1 hZ2)
/-- the cross products tell equality -/
theorem cross_eq {x1 Z1 X1 x2 Z2 X2 : F} (hZ1 : Z1 ≠ 0) (hZ2 : Z2 ≠ 0) (hX1 : x1*Z1 = X1) (hX2 : x2*Z2 = X2) : X1*Z2 = X2*Z1 ↔ x1 = x2 := by
  constructor
  · intro h
    apply D.can (D.ne hZ1 hZ2)
    subst hX1 hX2
    grind
  · rintro rfl
    subst hX1 hX2
    grind
end
end
end Mine
set_option maxRecDepth 100000
set_option maxHeartbeats 8000000
open PySem PySem.W PyProof.Rows
namespace Mine
section
def keepSt : Stmt → Bool
  | .Assign .. => false
  | _ => true
def vw : Program := { PySem.Challenge.pw_kh0008_01 with main := { PySem.Challenge.pw_kh0008_01.main with body := PySem.Challenge.pw_kh0008_01.main.body.filter keepSt } }
/-- the machine's quick twin of the run of the top (the library's own twins) -/
theorem ends_fast (w : World) : openEnds treeTable PySem.Challenge.rw_kh0008_01.row.prog w 3182 =
    ((PySem.W.Fast.tw10274390034422433532 PySem.W.Fast.tw14364793385576792824 (opening PySem.Challenge.rw_kh0008_01.row.prog) w 3182 (start (opening PySem.Challenge.rw_kh0008_01.row.prog)).1 (start (opening PySem.Challenge.rw_kh0008_01.row.prog)).2).bind (PySem.W.Fast.tw14289696077712309145 PySem.Challenge.rw_kh0008_01.row.prog)).bind fun s₀ =>
      match s₀.heap.isNs mainGlobals && s₀.gens.size == 0 with
      | true => (PySem.W.Fast.tw14082659384304107361 PySem.W.Fast.tw14364793385576792824 PySem.Challenge.rw_kh0008_01.row.prog w s₀.heap.objs.size (s₀.heap.nsMap mainGlobals "__annotations__") 3182 s₀ (topStub PySem.Challenge.rw_kh0008_01.row.prog)).bind fun s₁ => match staticsOk (importedModules PySem.Challenge.rw_kh0008_01.row.prog.main.body) s₀.heap s₁.heap && namesBound PySem.Challenge.rw_kh0008_01.row.prog s₁.heap && gensDone s₁ && laidKept s₀.heap s₁.heap with
        | true => some s₁
        | false => none
      | false => none := by
  unfold openEnds fencedOpening
  rw [PySem.W.Fast.te10274390034422433532, PySem.W.Fast.te14289696077712309145, PySem.W.Fast.te14364793385576792824]
  congr 1
  funext s₀
  unfold topFrom
  rw [PySem.W.Fast.te14082659384304107361]
  rfl
local macro_rules | `(tactic| o_head $H) => `(tactic| (
  refine holds_open (q := vw) (loose := [PySem.Str.ofString "FQ"]) (Xt := fun s => xlAt vw [] s && recOk (RowW.records (OpenRow.toRowW PySem.Challenge.rw_kh0008_01.row)) s) (XP := XL vw []) (Yf := Hook.obs $H) (Ya := Hook.val $H) (YP := Hook.says $H) (N := 3182) ?hl (Hook.of $H) (Hook.keeps $H) (fun s e => xl_of s (Bool.and_eq_true_iff.mp e).1) XL.keeps (by rfl) (by rfl) (by rfl) (fun s e => recFacts_of (Bool.and_eq_true_iff.mp e).2) (by rfl) (by first | assumption | decide +kernel) (by decide +kernel) ⟨rfl, rfl, rfl, rfl, rfl, by decide +kernel⟩ ?hw ?hc
  case hl => (intro w; rw [ends_fast, PySem.W.Fast.te4187177175401517315]; kernel_rfl)))
open_top hd for PySem.Challenge.rw_kh0008_01
end
open PySem.Spec PySem.Calls
section
open Builtin in
theorem int_mul_inst (a : Int) (t : Tok) (l C : Addr) (dx : Addr) :
    Meets (Builtin.«int.__mul__» ⟨[.int a t, .ref l], []⟩) (fun _ R s => s.heap.get? l = some (instObj C dx) ∧ R (.ok (.ret Value.notImplemented)) s) :=
  .of_wp fun prog w A R s h => by obtain ⟨hp, g, d, tk, os⟩ := s; obtain ⟨hl, h⟩ := h; wp_walk; exact ⟨_, rfl, h⟩

theorem numPyType (T nm : String) : numberSlotInPython (.type T) nm = pure false := rfl
theorem imul_inst {prog : Program} {w : World} {A : Around} {E : Value → Shared → Prop} {s : Shared} {K : Frag} {x C L f f' dx : Addr} {h₀ : Heap} {m : Str → Option Value} {od : Option Obj} {k : Int} {t : Tok} {Q : Value → Shared → Prop}
    (Fm : Fr h₀ L s.heap m) (X₀ : K.In h₀) (I : InstAt s.heap x (instObj C dx) C od) (hc : selfFirst K C = true)
    (hs : findIn K (.ref C) (PySem.dunder "mul") = some (some (.ref f))) (hr : findIn K (.ref C) (dunderR "mul") = some (some (.ref f'))) (hf : isFn K (.ref f') = true)
    (hsub : mroIn K C (.type "int") = some false)
    (h : wpAny (model prog w) A (call (.ref f') [.ref x, .int k t]) (PySem.W.CmpBack Q) E s) : wpAny (model prog w) A (binaryOp .Mult (.int k t) (.ref x)) Q E s := by
  have X := X₀.keeps Fm.keep
  obtain ⟨cd, rest, hcd, hm⟩ := ksp_first hc
  have one := ksp_try X I hr hf h
  have hx := I.at_
  have hcall : wpAny (model prog w) A (call (.builtin "int.__mul__") [.int k t, .ref x]) (fun v s' => v = .notImplemented ∧ s' = s) E s :=
    call_meets F.slot_int_mul (typeIs_int s k t) F.entry_int_mul (F.args_int_mul_2 _ _) (int_mul_inst k t x C dx) ⟨hx, rfl, rfl⟩
  have hcall2 := wpAny_mono (Q' := fun v s' => v = .notImplemented ∧ (fun (r : Option Value) s' => r = none ∧ s' = s) none s') (E' := E) hcall (fun v s' h' => ⟨h'.1, rfl, h'.2⟩) fun _ _ e => e
  have dec : wpAny (model prog w) A (tryMethod (.int k t) (PySem.dunder "mul") (.ref x)) (fun r s' => r = none ∧ s' = s) E s := by
    have hT := typeIs_int s k t
    have hS : Slot "int" (PySem.dunder "mul") "int.__mul__" := F.slot_int_mul
    revert hcall2 hT
    generalize (Value.int k t) = a
    intro hcall2 hT
    exact wpAny_tryMethod_declines hT hS hcall2
  have L1 : Looks (model prog w) s.heap (typeOf (.ref x)) (.ref C) := I.type
  have L2 : Looks (model prog w) s.heap (fillsNumberSlot (.ref C) "mul") true := fills_K X hcd hm hs
  have L3 : Looks (model prog w) s.heap (isSubtype (.ref C) (.type "int")) false := looks_mroIn X hsub
  simp only [binaryOp]
  refine wpAny_holding (wpAny_bind ?_)
  rw [show Operator.Mult.info.snd = "mul" from rfl]
  unfold binaryOp1
  refine wpAny_bind (wpAny_typeOf (typeIs_int s k t) ?_)
  refine wpAny_bind (L1.here ?_)
  refine wpAny_bind (wpAny_of_eq F.fills_int_mul ?_)
  have hne : (Value.type "int" == Value.ref C) = false := Bool.eq_false_iff.mpr fun q => by cases beq_iff_eq.mp q
  simp only [hne, Bool.false_eq_true, if_false]
  refine wpAny_bind (L2.here ?_)
  simp only [Bool.and_self, if_true]
  refine wpAny_bind (L3.here ?_)
  simp only [Bool.false_eq_true, if_false, Bool.not_false, Bool.and_self, if_true]
  refine wpAny_bind ((Looks.of_pure (M := model prog w) (h := s.heap) (numPyType _ _)).here ?_)
  simp only [Bool.false_eq_true, if_false]
  refine wpAny_bind (wpAny_mono dec (fun r s' hr' => ?_) fun _ _ e => e)
  obtain ⟨rfl, rfl⟩ := hr'
  refine wpAny_bind (wpAny_mono one (fun r s' hr' => ?_) fun _ _ e => e)
  obtain ⟨v, rfl, hq⟩ := hr'
  exact wpAny_bind (wpAny_rule (wpAny_pure (wpAny_pure hq)))
end
section
theorem int_pow3 (a : Int) (t : Tok) (b : Int) (u : Tok) (c : Int) (v : Tok) (hb : 0 ≤ b) (hc : 1 < c) :
    Gives (Builtin.«int.__pow__» ⟨[.int a t, .int b u, .int c v], []⟩) (.int (Builtin.powMod (a % c).toNat b.toNat c.toNat : Nat)) :=
  .of_wp fun M A E s Q h => by
    obtain ⟨hp, g, d, tk, os⟩ := s
    have h0 : ¬ (c == 0) = true := by rw [beq_iff_eq]; omega
    have h1 : ¬ (c.natAbs == 1) = true := by rw [beq_iff_eq]; omega
    have h2 : ¬ b < 0 := by omega
    wp_walk
    have e1 : c.natAbs = c.toNat := by omega
    have e2 : b.natAbs = b.toNat := by omega
    have e3 : ((c.natAbs : Nat) : Int) = c := by omega
    rw [decide_eq_false (show ¬ c < 0 by omega), e3, e1, e2]
    exact ⟨_, rfl, h⟩
theorem kind_pow : builtinKind "pow" = none := by decide +kernel
theorem plain_pow : plainId "pow" = true := by decide +kernel
theorem entry_pow : entryFor table "pow" = some Builtin.«pow» := entryFor_of_fast (by kernel_rfl)
theorem args_pow (a b c : Value) : argsOk "pow" ⟨[a, b, c], []⟩ := by unfold argsOk; kernel_rfl
theorem args_int_pow3 (a b c : Value) : argsOk "int.__pow__" ⟨[a, b, c], []⟩ := by unfold argsOk; kernel_rfl
section
variable {prog : Program} {w : World} {A : Around} {E : Value → Shared → Prop} {s : Shared} {a b c : Int} {t u v : Tok} {Q : Value → Shared → Prop}
theorem call_pow3 (hb : 0 ≤ b) (hc : 1 < c) (h : Q (.int (Builtin.powMod (a % c).toNat b.toNat c.toNat : Nat) s.toks) { s with toks := s.toks + 1 }) :
    wpAny (model prog w) A (call (.builtin "pow") [.int a t, .int b u, .int c v]) Q E s := by
  refine call_function_entry kind_pow plain_pow entry_pow (args_pow _ _ _) ?_
  obtain ⟨hp, g, d, tk, os⟩ := s
  have hT : (⟨hp, g, d, tk, os⟩ : Shared).TypeIs (.int a t) "int" := rfl
  have f3 := F.slot_int_pow.lookup
  have f5 : typeLookup (.type "int") (PySem.Str.ofString "__pow__") = pure (some (.builtin "int.__pow__")) := F.slot_int_pow.lookup
  have f4 := F.slot_int_pow.bind (.int a t)
  repeat (any_goals (first | assumption | (with_reducible refine wpAny_of_eq f5 ?_) | ((with_reducible show wpAny _ _ (callSpecial? _ _ _ _) _ _ _); refine wpAny_callSpecial?_slot hT F.slot_int_pow ?_) | ((with_reducible show wpAny _ _ (call (Value.builtin "int.__pow__") _ _) _ _ _); refine call_gives F.slot_int_pow hT F.entry_int_pow (args_int_pow3 _ _ _) (int_pow3 a t b u c v hb hc) ?_; dsimp only [Made.post]) | wp_step))
  all_goals first | exact ⟨_, rfl, h⟩ | exact h | skip
end
end

abbrev fqD (P : Params) (p v : Int) (t1 t2 u t : Tok) : Obj :=
  dictOf [⟨PyData.keyHash P (PySem.Str.ofString "field_modulus"), .str (PySem.Str.ofString "field_modulus") t1, .int p u⟩,
    ⟨PyData.keyHash P (PySem.Str.ofString "n"), .str (PySem.Str.ofString "n") t2, .int v t⟩] 2

def PM (p : Int) : Prop := 1 < p ∧ p < 2 ^ 512

def FQin (P : Params) (news : List (Addr × Obj)) (x : Addr) (p v : Int) : Prop :=
  ∃ dx t1 t2 u t, (x, instObj 228 dx) ∈ news ∧ (dx, fqD P p v t1 t2 u t) ∈ news ∧ 0 ≤ v ∧ v < p

def Sub (l l' : List (Addr × Obj)) : Prop := ∀ q ∈ l, q ∈ l'
theorem Sub.rfl {l : List (Addr × Obj)} : Sub l l := fun _ h => h
theorem Sub.trans {a b c : List (Addr × Obj)} (h : Sub a b) (k : Sub b c) : Sub a c := fun q hq => k q (h q hq)
theorem Sub.cons {a b : List (Addr × Obj)} {q : Addr × Obj} (h : Sub a b) : Sub a (q :: b) := fun r hr => .tail _ (h r hr)
theorem Sub.mem {a b : List (Addr × Obj)} (h : Sub a b) {q : Addr × Obj} (hq : q ∈ a) : q ∈ b := h q hq
theorem FQin.mono {P : Params} {l l' : List (Addr × Obj)} {x : Addr} {p v : Int} (h : FQin P l x p v) (k : Sub l l') : FQin P l' x p v :=
  let ⟨dx, t1, t2, u, t, a, b, c, d⟩ := h; ⟨dx, t1, t2, u, t, k _ a, k _ b, c, d⟩
theorem FQin.cast {P : Params} {l : List (Addr × Obj)} {x : Addr} {p v v' : Int} (h : FQin P l x p v) (e : v = v') : FQin P l x p v' := e ▸ h
theorem FQin.lo {P : Params} {l : List (Addr × Obj)} {x : Addr} {p v : Int} (h : FQin P l x p v) : 0 ≤ v := let ⟨_, _, _, _, _, _, _, c, _⟩ := h; c
theorem FQin.hi {P : Params} {l : List (Addr × Obj)} {x : Addr} {p v : Int} (h : FQin P l x p v) : v < p := let ⟨_, _, _, _, _, _, _, _, d⟩ := h; d
theorem FQin.new {P : Params} {news : List (Addr × Obj)} {x dx : Addr} {p v v' : Int} {t1 t2 u t : Tok} (hp : PM p) (e : v' = v % p) (h1 : (x, instObj 228 dx) ∈ news) (h2 : (dx, fqD P p v' t1 t2 u t) ∈ news) : FQin P news x p (v % p) := by
  subst e
  have := hp.1
  exact ⟨dx, t1, t2, u, t, h1, h2, Int.emod_nonneg _ (by omega), Int.emod_lt_of_pos _ (by omega)⟩
theorem fmod_emod {p : Int} (hp : PM p) (v : Int) : Int.fmod v p = v % p := Int.fmod_eq_emod_of_nonneg v (by have := hp.1; omega)
theorem bits512 {a : Int} (h0 : -(2 ^ 512) < a) (h : a < 2 ^ 512) : Builtin.Int.intBits a ≤ 2 ^ 20 := by
  unfold Builtin.Int.intBits
  split
  · exact Nat.zero_le _
  · have hn : a.natAbs < 2 ^ 512 := by omega
    have : a.natAbs.log2 < 512 := by
      rcases Nat.eq_zero_or_pos a.natAbs with h0 | hp
      · rw [h0]; decide
      · exact (Nat.log2_lt (Nat.ne_of_gt hp)).mpr hn
    omega
theorem mulOk {p a b : Int} (hp : PM p) (ha0 : 0 ≤ a) (ha : a < p) (hb0 : 0 ≤ b) (hb : b < p) : IntMulOk a b := by
  have := hp.2
  exact IntMulOk.of_bits (bits512 (by omega) (by omega)) (bits512 (by omega) (by omega))

theorem ne_of_all {d : Addr} {l : List (Addr × Obj)} (h : ∀ p ∈ l, p.1 < d) : ∀ p ∈ l, p.1 ≠ d := fun p hp => Nat.ne_of_lt (h p hp)

/-- what a tree (a call, an operation) tells: from any frame of a def, it ends in a value with `post` over a larger ledger. -/
def Tl (w : World) (d u : Nat) (news : List (Addr × Obj)) (tree : Sem Value) (post : Value → List (Addr × Obj) → Prop) : Prop :=
  ∀ (mg mb : Str → Option Value) (mean : ExcName → Option Value) (dp un : Nat) (gd : Option (List Code)) (cn : Str) (cs : Scope) (a : Addr) (ccd : Value) (cl : List (Str × Addr)) (outer : List Env) (A₀ : Around) (base h₀ : Heap) (L : Addr) (m : Str → Option Value) (s : Shared) (Q E : Value → Shared → Prop),
    Below A₀ base outer h₀ → Fr h₀ L s.heap m → (hd.heap_39 w.params).In h₀ → News h₀ L s.heap news → Top vw (looseW vw [PySem.Str.ofString "FQ"]) mean mg mb h₀ → cs.kind = .function → dp + d < recursionLimit → un + u < cLine →
    (∀ r h' tk' news', post r news' → Sub news news' → Fr h₀ L h' m → News h₀ L h' news' → Q r { s with heap := h', toks := tk' }) →
    wpAny (model PySem.Challenge.rw_kh0008_01.row.prog w) (ktrTop dp un gd cn cs L a ccd cl outer) tree Q E s

theorem Tl.use {w : World} {d u : Nat} {news : List (Addr × Obj)} {tree : Sem Value} {post : Value → List (Addr × Obj) → Prop} (C : Tl w d u news tree post)
    {mg mb : Str → Option Value} {mean : ExcName → Option Value} {dp un : Nat} {gd : Option (List Code)} {cn : Str} {cs : Scope} {a : Addr} {ccd : Value} {cl : List (Str × Addr)} {outer : List Env} {A₀ : Around} {base h₀ : Heap} {L : Addr} {m : Str → Option Value} {s : Shared} {Q E : Value → Shared → Prop}
    (B : Below A₀ base outer h₀) (F : Fr h₀ L s.heap m) (X : (hd.heap_39 w.params).In h₀) (N : News h₀ L s.heap news) (T : Top vw (looseW vw [PySem.Str.ofString "FQ"]) mean mg mb h₀) (hk : cs.kind = .function) (hd : dp + d < recursionLimit) (hu : un + u < cLine)
    (ret : ∀ r h' tk' news', post r news' → Sub news news' → Fr h₀ L h' m → News h₀ L h' news' → Q r { s with heap := h', toks := tk' }) :
    wpAny (model PySem.Challenge.rw_kh0008_01.row.prog w) (ktrTop dp un gd cn cs L a ccd cl outer) tree Q E s :=
  C _ _ _ _ _ _ _ _ _ _ _ _ _ _ _ _ _ _ _ _ B F X N T hk hd hu ret

local macro_rules | `(tactic| k_all) => `(tactic| (refine ne_of_all ?_; assumption))
local macro_rules | `(tactic| k_room) => `(tactic| ktr_room)
local macro_rules | `(tactic| k_units) => `(tactic| ktr_units)
local macro_rules | `(tactic| ktr_rel) => `(tactic| first | ((with_reducible show FQin _ _ _ _ _); refine' FQin.mono ?f9 ?s9; (case s9 => first | assumption | exact Sub.cons Sub.rfl); (case f9 => ktr_rel)) | fail "ktr_rel: FQin")
local macro_rules | `(tactic| ktr_rel) => `(tactic| ((with_reducible show FQin _ _ _ _ _); assumption))
local macro_rules | `(tactic| ktr_rel) => `(tactic| first | ((with_reducible show Sub _ _); first | assumption | exact Sub.rfl | (refine' Sub.trans ?g9 ?s9; (case s9 => first | assumption | exact Sub.cons Sub.rfl); (case g9 => ktr_rel))) | fail "ktr_rel: Sub")
local macro_rules | `(tactic| walk_at "call builtin:isinstance") => `(tactic| (k_here; (with_reducible show wpAny _ _ (call _ [Value.ref _, Value.ref _]) _ _ _); k_dflt (refine' isi_call ?k1 ?k2 ?k3 ?k4 ?_; (case k1 => k_in); (case k2 => k_types); (case k3 => k_is); (case k4 => intro e; cases e); k_whole)))
local macro_rules | `(tactic| k_mem) => `(tactic| first | (with_reducible exact List.mem_cons_self) | (refine' List.mem_cons_of_mem _ ?m9; (case m9 => k_mem)) | fail "k_mem: cons")
local macro_rules | `(tactic| k_mem) => `(tactic| first | (refine' Sub.mem ?s9 ?m9; (case s9 => with_reducible assumption); (case m9 => k_mem)) | fail "k_mem: sub")

theorem fq_new {w : World} {news : List (Addr × Obj)} (v p : Int) (t u : Tok) (hp : PM p) :
    Tl w 1 8 news (call (.ref 228) [.int v t, .int p u]) (fun r l => ∃ z, r = .ref z ∧ FQin w.params l z p (v % p)) := by
  intro mg mb mean dp un gd cn cs a0 ccd cl outer A₀ base h₀ L m s Q E B F X N T hk hdp hun ret
  revert X; k_fill; intro X
  have hp0 := hp.1
  refine' call_cls ?k1 ?k2 ?k3 ?k4 ?k5 ?k6 ?_
  (case k1 => k_asm)
  (case k2 => k_asm)
  (case k3 => k_asm)
  (case k4 => k_dflt k_is)
  (case k5 => k_dflt k_is)
  (case k6 => k_dflt k_is)
  intro x' d' h' F' N' l1 l2
  k_lt2 l2
  k_dflt cell_enter
  k_steps
  exact ret _ _ _ _ ⟨_, rfl, FQin.new hp (fmod_emod hp v) (.head _) (.tail _ (.head _))⟩ Sub.rfl.cons.cons (by assumption) (by assumption)

local macro_rules | `(tactic| walk_at "call ref") => `(tactic| (k_here; (with_reducible show wpAny _ _ (call (Value.ref 228) [Value.int _ _, Value.int _ _]) _ _ _); k_dflt (refine' Tl.use (fq_new _ _ _ _ ?hp) ?k1 ?k2 ?k3 ?k4 ?k5 ?k6 ?k7 ?k8 ?_; (case k1 => k_asm); (case k2 => k_asm); (case k3 => k_asm); (case k4 => k_asm); (case k5 => k_asm); (case k6 => first | exact rfl | assumption); (case hp => assumption); (case k7 => ktr_room); (case k8 => ktr_units)); intro r9 h9 tk9 l9 p9 S9 F9 N9; obtain ⟨x9, hr9, hx9⟩ := p9; subst hr9; (try dsimp only); (try k_fold); (try k_sweep)))
theorem fq_made {w : World} {news : List (Addr × Obj)} {x : Addr} {p a : Int} (hx : FQin w.params news x p a) (v : Int) (t : Tok) (hp : PM p) :
    Tl w 2 16 news (call (.ref 211) [.ref x, .int v t]) (fun r l => ∃ z, r = .ref z ∧ FQin w.params l z p (v % p)) := by
  intro mg mb mean dp un gd cn cs a0 ccd cl outer A₀ base h₀ L m s Q E B F X N T hk hdp hun ret
  revert X; k_fill; intro X
  obtain ⟨dx, t1x, t2x, ux, tx, hx1, hx2, hx3, hx4⟩ := id hx
  refine wpAny_call ?_
  k_dflt cell_enter
  k_steps
  exact ret _ _ _ _ ⟨_, rfl, by ktr_rel⟩ (by ktr_rel) (by assumption) (by assumption)

local macro_rules | `(tactic| walk_at "call ref") => `(tactic| (k_here; (with_reducible show wpAny _ _ (call (Value.ref 211) [Value.ref _, Value.int _ _]) _ _ _); k_dflt (refine' Tl.use (fq_made ?hx _ _ ?hp) ?k1 ?k2 ?k3 ?k4 ?k5 ?k6 ?k7 ?k8 ?_; (case k1 => k_asm); (case k2 => k_asm); (case k3 => k_asm); (case k4 => k_asm); (case k5 => k_asm); (case k6 => first | exact rfl | assumption); (case hx => ktr_rel); (case hp => assumption); (case k7 => ktr_room); (case k8 => ktr_units)); intro r9 h9 tk9 l9 p9 S9 F9 N9; obtain ⟨x9, hr9, hx9⟩ := p9; subst hr9; (try dsimp only); (try k_fold); (try k_sweep)))
theorem fq_one {w : World} {news : List (Addr × Obj)} {x : Addr} {p a : Int} (hx : FQin w.params news x p a) (hp : PM p) :
    Tl w 3 24 news (call (.ref 218) [.ref x]) (fun r l => ∃ z, r = .ref z ∧ FQin w.params l z p (1 % p)) := by
  intro mg mb mean dp un gd cn cs a0 ccd cl outer A₀ base h₀ L m s Q E B F X N T hk hdp hun ret
  revert X; k_fill; intro X
  obtain ⟨dx, t1x, t2x, ux, tx, hx1, hx2, hx3, hx4⟩ := id hx
  refine wpAny_call ?_
  k_dflt cell_enter
  k_steps
  exact ret _ _ _ _ ⟨_, rfl, by ktr_rel⟩ (by ktr_rel) (by assumption) (by assumption)

theorem fq_zero {w : World} {news : List (Addr × Obj)} {x : Addr} {p a : Int} (hx : FQin w.params news x p a) (hp : PM p) :
    Tl w 3 24 news (call (.ref 225) [.ref x]) (fun r l => ∃ z, r = .ref z ∧ FQin w.params l z p (0 % p)) := by
  intro mg mb mean dp un gd cn cs a0 ccd cl outer A₀ base h₀ L m s Q E B F X N T hk hdp hun ret
  revert X; k_fill; intro X
  obtain ⟨dx, t1x, t2x, ux, tx, hx1, hx2, hx3, hx4⟩ := id hx
  refine wpAny_call ?_
  k_dflt cell_enter
  k_steps
  exact ret _ _ _ _ ⟨_, rfl, by ktr_rel⟩ (by ktr_rel) (by assumption) (by assumption)

local macro_rules | `(tactic| walk_at "call ref") => `(tactic| (k_here; (with_reducible show wpAny _ _ (call (Value.ref 218) _) _ _ _); k_dflt (refine' Tl.use (fq_one ?hx ?hp) ?k1 ?k2 ?k3 ?k4 ?k5 ?k6 ?k7 ?k8 ?_; (case k1 => k_asm); (case k2 => k_asm); (case k3 => k_asm); (case k4 => k_asm); (case k5 => k_asm); (case k6 => first | exact rfl | assumption); (case hx => ktr_rel); (case hp => assumption); (case k7 => ktr_room); (case k8 => ktr_units)); intro r9 h9 tk9 l9 p9 S9 F9 N9; obtain ⟨x9, hr9, hx9⟩ := p9; subst hr9; (try dsimp only); (try k_fold); (try k_sweep)))
local macro_rules | `(tactic| walk_at "call ref") => `(tactic| (k_here; (with_reducible show wpAny _ _ (call (Value.ref 225) _) _ _ _); k_dflt (refine' Tl.use (fq_zero ?hx ?hp) ?k1 ?k2 ?k3 ?k4 ?k5 ?k6 ?k7 ?k8 ?_; (case k1 => k_asm); (case k2 => k_asm); (case k3 => k_asm); (case k4 => k_asm); (case k5 => k_asm); (case k6 => first | exact rfl | assumption); (case hx => ktr_rel); (case hp => assumption); (case k7 => ktr_room); (case k8 => ktr_units)); intro r9 h9 tk9 l9 p9 S9 F9 N9; obtain ⟨x9, hr9, hx9⟩ := p9; subst hr9; (try dsimp only); (try k_fold); (try k_sweep)))
theorem fq_mul {w : World} {news : List (Addr × Obj)} {x y : Addr} {p a b : Int} (hx : FQin w.params news x p a) (hy : FQin w.params news y p b) (hp : PM p) :
    Tl w 3 24 news (call (.ref 98) [.ref x, .ref y]) (fun r l => ∃ z, r = .ref z ∧ FQin w.params l z p (a * b % p)) := by
  intro mg mb mean dp un gd cn cs a0 ccd cl outer A₀ base h₀ L m s Q E B F X N T hk hdp hun ret
  revert X; k_fill; intro X
  obtain ⟨dx, t1x, t2x, ux, tx, hx1, hx2, hx3, hx4⟩ := id hx
  obtain ⟨dy, t1y, t2y, uy, ty, hy1, hy2, hy3, hy4⟩ := id hy
  have hp0 := hp.1
  have hm : IntMulOk a b := mulOk hp hx3 hx4 hy3 hy4
  refine wpAny_call ?_
  k_dflt cell_enter
  k_steps
  exact ret _ _ _ _ ⟨_, rfl, FQin.cast (by ktr_rel) (by simp only [fmod_emod hp, Int.emod_emod_of_dvd _ (Int.dvd_refl p)])⟩ (by ktr_rel) (by assumption) (by assumption)

local macro_rules | `(tactic| walk_at "call ref") => `(tactic| (k_here; (with_reducible show wpAny _ _ (call (Value.ref 98) [Value.ref _, Value.ref _]) _ _ _); k_dflt (refine' Tl.use (fq_mul ?hx ?hy ?hp) ?k1 ?k2 ?k3 ?k4 ?k5 ?k6 ?k7 ?k8 ?_; (case k1 => k_asm); (case k2 => k_asm); (case k3 => k_asm); (case k4 => k_asm); (case k5 => k_asm); (case k6 => first | exact rfl | assumption); (case hx => ktr_rel); (case hy => ktr_rel); (case hp => assumption); (case k7 => ktr_room); (case k8 => ktr_units)); intro r9 h9 tk9 l9 p9 S9 F9 N9; obtain ⟨x9, hr9, hx9⟩ := p9; subst hr9; (try dsimp only); (try k_fold); (try k_sweep)))
theorem fq_muli {w : World} {news : List (Addr × Obj)} {x : Addr} {p a : Int} (hx : FQin w.params news x p a) (k : Int) (tk : Tok) (hm : IntMulOk a k) (hp : PM p) :
    Tl w 3 24 news (call (.ref 98) [.ref x, .int k tk]) (fun r l => ∃ z, r = .ref z ∧ FQin w.params l z p (a * k % p)) := by
  intro mg mb mean dp un gd cn cs a0 ccd cl outer A₀ base h₀ L m s Q E B F X N T hk hdp hun ret
  revert X; k_fill; intro X
  obtain ⟨dx, t1x, t2x, ux, tx, hx1, hx2, hx3, hx4⟩ := id hx
  have hp0 := hp.1
  refine wpAny_call ?_
  k_dflt cell_enter
  k_steps
  exact ret _ _ _ _ ⟨_, rfl, FQin.cast (by ktr_rel) (by simp only [fmod_emod hp, Int.emod_emod_of_dvd _ (Int.dvd_refl p)])⟩ (by ktr_rel) (by assumption) (by assumption)

local macro_rules | `(tactic| walk_at "call ref") => `(tactic| (k_here; (with_reducible show wpAny _ _ (call (Value.ref 98) [Value.ref _, Value.int _ _]) _ _ _); k_dflt (refine' Tl.use (fq_muli ?hx _ _ ?hm ?hp) ?k1 ?k2 ?k3 ?k4 ?k5 ?k6 ?k7 ?k8 ?_; (case k1 => k_asm); (case k2 => k_asm); (case k3 => k_asm); (case k4 => k_asm); (case k5 => k_asm); (case k6 => first | exact rfl | assumption); (case hx => ktr_rel); (case hm => mul_fits); (case hp => assumption); (case k7 => ktr_room); (case k8 => ktr_units)); intro r9 h9 tk9 l9 p9 S9 F9 N9; obtain ⟨x9, hr9, hx9⟩ := p9; subst hr9; (try dsimp only); (try k_fold); (try k_sweep)))
theorem fq_Mul {w : World} {news : List (Addr × Obj)} {x y : Addr} {p a b : Int} (hx : FQin w.params news x p a) (hy : FQin w.params news y p b) (hp : PM p) :
    Tl w 4 32 news (binaryOp .Mult (.ref x) (.ref y)) (fun r l => ∃ z, r = .ref z ∧ FQin w.params l z p (a * b % p)) := by
  intro mg mb mean dp un gd cn cs a0 ccd cl outer A₀ base h₀ L m s Q E B F X N T hk hdp hun ret
  revert X; k_fill; intro X
  obtain ⟨dx, t1x, t2x, ux, tx, hx1, hx2, hx3, hx4⟩ := id hx
  obtain ⟨dy, t1y, t2y, uy, ty, hy1, hy2, hy3, hy4⟩ := id hy
  refine' binop_K ?k1 ?k2 ?k3 ?k4 ?k5 ?k6 ?k7 ?_
  (case k1 => k_asm)
  (case k2 => k_asm)
  (case k3 => k_inst)
  (case k4 => k_typeOf)
  (case k5 => k_dflt k_is)
  (case k6 => k_dflt k_is)
  (case k7 => k_dflt k_is)
  k_steps
  exact ret _ _ _ _ ⟨_, rfl, by ktr_rel⟩ (by ktr_rel) (by assumption) (by assumption)

local macro_rules | `(tactic| walk_at "binaryOp Mult ref ref") => `(tactic| (k_here; (with_reducible show wpAny _ _ (binaryOp Operator.Mult (Value.ref _) (Value.ref _)) _ _ _); k_dflt (refine' Tl.use (fq_Mul ?hx ?hy ?hp) ?k1 ?k2 ?k3 ?k4 ?k5 ?k6 ?k7 ?k8 ?_; (case k1 => k_asm); (case k2 => k_asm); (case k3 => k_asm); (case k4 => k_asm); (case k5 => k_asm); (case k6 => first | exact rfl | assumption); (case hx => ktr_rel); (case hy => ktr_rel); (case hp => assumption); (case k7 => ktr_room); (case k8 => ktr_units)); intro r9 h9 tk9 l9 p9 S9 F9 N9; obtain ⟨x9, hr9, hx9⟩ := p9; subst hr9; (try dsimp only); (try k_fold); (try k_sweep)))
theorem fq_Muli {w : World} {news : List (Addr × Obj)} {x : Addr} {p a : Int} (hx : FQin w.params news x p a) (k : Int) (tk : Tok) (hm : IntMulOk a k) (hp : PM p) :
    Tl w 4 32 news (binaryOp .Mult (.ref x) (.int k tk)) (fun r l => ∃ z, r = .ref z ∧ FQin w.params l z p (a * k % p)) := by
  intro mg mb mean dp un gd cn cs a0 ccd cl outer A₀ base h₀ L m s Q E B F X N T hk hdp hun ret
  revert X; k_fill; intro X
  obtain ⟨dx, t1x, t2x, ux, tx, hx1, hx2, hx3, hx4⟩ := id hx
  refine' ksp_binT ?F ?X ?I ?hB ?hC ?hS ?hF ?hR ?hP ?h1 ?h2 ?hU ?_
  (case hB => exact rfl)
  (case F => k_asm)
  (case X => k_asm)
  (case I => k_inst)
  (case hS => k_dflt k_is)
  (case hF => k_dflt k_is)
  (case hC => k_dflt k_is)
  (case hR => k_dflt k_is)
  (case hP => first | exact .inl rfl | exact .inr ⟨_, rfl⟩)
  (case h1 => k_dflt k_is)
  (case h2 => k_dflt k_is)
  (case hU => k_dflt k_is)
  k_steps
  exact ret _ _ _ _ ⟨_, rfl, by ktr_rel⟩ (by ktr_rel) (by assumption) (by assumption)

local macro_rules | `(tactic| walk_at "binaryOp Mult ref int") => `(tactic| (k_here; (with_reducible show wpAny _ _ (binaryOp Operator.Mult (Value.ref _) (Value.int _ _)) _ _ _); k_dflt (refine' Tl.use (fq_Muli ?hx _ _ ?hm ?hp) ?k1 ?k2 ?k3 ?k4 ?k5 ?k6 ?k7 ?k8 ?_; (case k1 => k_asm); (case k2 => k_asm); (case k3 => k_asm); (case k4 => k_asm); (case k5 => k_asm); (case k6 => first | exact rfl | assumption); (case hx => ktr_rel); (case hm => mul_fits); (case hp => assumption); (case k7 => ktr_room); (case k8 => ktr_units)); intro r9 h9 tk9 l9 p9 S9 F9 N9; obtain ⟨x9, hr9, hx9⟩ := p9; subst hr9; (try dsimp only); (try k_fold); (try k_sweep)))
theorem fq_rmul {w : World} {news : List (Addr × Obj)} {x : Addr} {p a : Int} (hx : FQin w.params news x p a) (k : Int) (tk : Tok) (hm : IntMulOk a k) (hp : PM p) :
    Tl w 5 40 news (call (.ref 105) [.ref x, .int k tk]) (fun r l => ∃ z, r = .ref z ∧ FQin w.params l z p (a * k % p)) := by
  intro mg mb mean dp un gd cn cs a0 ccd cl outer A₀ base h₀ L m s Q E B F X N T hk hdp hun ret
  revert X; k_fill; intro X
  obtain ⟨dx, t1x, t2x, ux, tx, hx1, hx2, hx3, hx4⟩ := id hx
  refine wpAny_call ?_
  k_dflt cell_enter
  k_steps
  exact ret _ _ _ _ ⟨_, rfl, by ktr_rel⟩ (by ktr_rel) (by assumption) (by assumption)

local macro_rules | `(tactic| walk_at "call ref") => `(tactic| (k_here; (with_reducible show wpAny _ _ (call (Value.ref 105) [Value.ref _, Value.int _ _]) _ _ _); k_dflt (refine' Tl.use (fq_rmul ?hx _ _ ?hm ?hp) ?k1 ?k2 ?k3 ?k4 ?k5 ?k6 ?k7 ?k8 ?_; (case k1 => k_asm); (case k2 => k_asm); (case k3 => k_asm); (case k4 => k_asm); (case k5 => k_asm); (case k6 => first | exact rfl | assumption); (case hx => ktr_rel); (case hm => mul_fits); (case hp => assumption); (case k7 => ktr_room); (case k8 => ktr_units)); intro r9 h9 tk9 l9 p9 S9 F9 N9; obtain ⟨x9, hr9, hx9⟩ := p9; subst hr9; (try dsimp only); (try k_fold); (try k_sweep)))
theorem fq_iMul {w : World} {news : List (Addr × Obj)} {x : Addr} {p a : Int} (hx : FQin w.params news x p a) (k : Int) (tk : Tok) (hm : IntMulOk a k) (hp : PM p) :
    Tl w 6 48 news (binaryOp .Mult (.int k tk) (.ref x)) (fun r l => ∃ z, r = .ref z ∧ FQin w.params l z p (a * k % p)) := by
  intro mg mb mean dp un gd cn cs a0 ccd cl outer A₀ base h₀ L m s Q E B F X N T hk hdp hun ret
  revert X; k_fill; intro X
  obtain ⟨dx, t1x, t2x, ux, tx, hx1, hx2, hx3, hx4⟩ := id hx
  refine' imul_inst ?F ?X ?I ?hc ?hs ?hr ?hf ?hi ?_
  (case F => k_asm)
  (case X => k_asm)
  (case I => k_inst)
  (case hs => k_dflt k_is)
  (case hr => k_dflt k_is)
  (case hc => k_dflt k_is)
  (case hf => k_dflt k_is)
  (case hi => k_dflt k_is)
  k_steps
  exact ret _ _ _ _ ⟨_, rfl, by ktr_rel⟩ (by ktr_rel) (by assumption) (by assumption)

local macro_rules | `(tactic| walk_at "binaryOp Mult int ref") => `(tactic| (k_here; (with_reducible show wpAny _ _ (binaryOp Operator.Mult (Value.int _ _) (Value.ref _)) _ _ _); k_dflt (refine' Tl.use (fq_iMul ?hx _ _ ?hm ?hp) ?k1 ?k2 ?k3 ?k4 ?k5 ?k6 ?k7 ?k8 ?_; (case k1 => k_asm); (case k2 => k_asm); (case k3 => k_asm); (case k4 => k_asm); (case k5 => k_asm); (case k6 => first | exact rfl | assumption); (case hx => ktr_rel); (case hm => mul_fits); (case hp => assumption); (case k7 => ktr_room); (case k8 => ktr_units)); intro r9 h9 tk9 l9 p9 S9 F9 N9; obtain ⟨x9, hr9, hx9⟩ := p9; subst hr9; (try dsimp only); (try k_fold); (try k_sweep)))
theorem fq_sub {w : World} {news : List (Addr × Obj)} {x y : Addr} {p a b : Int} (hx : FQin w.params news x p a) (hy : FQin w.params news y p b) (hp : PM p) :
    Tl w 3 24 news (call (.ref 126) [.ref x, .ref y]) (fun r l => ∃ z, r = .ref z ∧ FQin w.params l z p ((a - b) % p)) := by
  intro mg mb mean dp un gd cn cs a0 ccd cl outer A₀ base h₀ L m s Q E B F X N T hk hdp hun ret
  revert X; k_fill; intro X
  obtain ⟨dx, t1x, t2x, ux, tx, hx1, hx2, hx3, hx4⟩ := id hx
  obtain ⟨dy, t1y, t2y, uy, ty, hy1, hy2, hy3, hy4⟩ := id hy
  have hp0 := hp.1
  refine wpAny_call ?_
  k_dflt cell_enter
  k_steps
  exact ret _ _ _ _ ⟨_, rfl, FQin.cast (by ktr_rel) (by simp only [fmod_emod hp, Int.emod_emod_of_dvd _ (Int.dvd_refl p)])⟩ (by ktr_rel) (by assumption) (by assumption)

local macro_rules | `(tactic| walk_at "call ref") => `(tactic| (k_here; (with_reducible show wpAny _ _ (call (Value.ref 126) [Value.ref _, Value.ref _]) _ _ _); k_dflt (refine' Tl.use (fq_sub ?hx ?hy ?hp) ?k1 ?k2 ?k3 ?k4 ?k5 ?k6 ?k7 ?k8 ?_; (case k1 => k_asm); (case k2 => k_asm); (case k3 => k_asm); (case k4 => k_asm); (case k5 => k_asm); (case k6 => first | exact rfl | assumption); (case hx => ktr_rel); (case hy => ktr_rel); (case hp => assumption); (case k7 => ktr_room); (case k8 => ktr_units)); intro r9 h9 tk9 l9 p9 S9 F9 N9; obtain ⟨x9, hr9, hx9⟩ := p9; subst hr9; (try dsimp only); (try k_fold); (try k_sweep)))
theorem fq_Sub {w : World} {news : List (Addr × Obj)} {x y : Addr} {p a b : Int} (hx : FQin w.params news x p a) (hy : FQin w.params news y p b) (hp : PM p) :
    Tl w 4 32 news (binaryOp .Sub (.ref x) (.ref y)) (fun r l => ∃ z, r = .ref z ∧ FQin w.params l z p ((a - b) % p)) := by
  intro mg mb mean dp un gd cn cs a0 ccd cl outer A₀ base h₀ L m s Q E B F X N T hk hdp hun ret
  revert X; k_fill; intro X
  obtain ⟨dx, t1x, t2x, ux, tx, hx1, hx2, hx3, hx4⟩ := id hx
  obtain ⟨dy, t1y, t2y, uy, ty, hy1, hy2, hy3, hy4⟩ := id hy
  refine' binop_K ?k1 ?k2 ?k3 ?k4 ?k5 ?k6 ?k7 ?_
  (case k1 => k_asm)
  (case k2 => k_asm)
  (case k3 => k_inst)
  (case k4 => k_typeOf)
  (case k5 => k_dflt k_is)
  (case k6 => k_dflt k_is)
  (case k7 => k_dflt k_is)
  k_steps
  exact ret _ _ _ _ ⟨_, rfl, by ktr_rel⟩ (by ktr_rel) (by assumption) (by assumption)

local macro_rules | `(tactic| walk_at "binaryOp Sub ref ref") => `(tactic| (k_here; (with_reducible show wpAny _ _ (binaryOp Operator.Sub (Value.ref _) (Value.ref _)) _ _ _); k_dflt (refine' Tl.use (fq_Sub ?hx ?hy ?hp) ?k1 ?k2 ?k3 ?k4 ?k5 ?k6 ?k7 ?k8 ?_; (case k1 => k_asm); (case k2 => k_asm); (case k3 => k_asm); (case k4 => k_asm); (case k5 => k_asm); (case k6 => first | exact rfl | assumption); (case hx => ktr_rel); (case hy => ktr_rel); (case hp => assumption); (case k7 => ktr_room); (case k8 => ktr_units)); intro r9 h9 tk9 l9 p9 S9 F9 N9; obtain ⟨x9, hr9, hx9⟩ := p9; subst hr9; (try dsimp only); (try k_fold); (try k_sweep)))
theorem fq_Neg {w : World} {news : List (Addr × Obj)} {x : Addr} {p a : Int} (hx : FQin w.params news x p a) (hp : PM p) :
    Tl w 4 32 news (unaryOp .USub (.ref x)) (fun r l => ∃ z, r = .ref z ∧ FQin w.params l z p (-a % p)) := by
  intro mg mb mean dp un gd cn cs a0 ccd cl outer A₀ base h₀ L m s Q E B F X N T hk hdp hun ret
  revert X; k_fill; intro X
  obtain ⟨dx, t1x, t2x, ux, tx, hx1, hx2, hx3, hx4⟩ := id hx
  refine' ksp_neg ?F ?X ?I ?hS ?hF ?_
  (case F => k_asm)
  (case X => k_asm)
  (case I => k_inst)
  (case hS => k_dflt k_is)
  (case hF => k_dflt k_is)
  refine wpAny_call ?_
  k_dflt cell_enter
  k_steps
  exact ret _ _ _ _ ⟨_, rfl, by ktr_rel⟩ (by ktr_rel) (by assumption) (by assumption)

local macro_rules | `(tactic| walk_at "unaryOp USub ref") => `(tactic| (k_here; (with_reducible show wpAny _ _ (unaryOp UnaryOp.USub (Value.ref _)) _ _ _); k_dflt (refine' Tl.use (fq_Neg ?hx ?hp) ?k1 ?k2 ?k3 ?k4 ?k5 ?k6 ?k7 ?k8 ?_; (case k1 => k_asm); (case k2 => k_asm); (case k3 => k_asm); (case k4 => k_asm); (case k5 => k_asm); (case k6 => first | exact rfl | assumption); (case hx => ktr_rel); (case hp => assumption); (case k7 => ktr_room); (case k8 => ktr_units)); intro r9 h9 tk9 l9 p9 S9 F9 N9; obtain ⟨x9, hr9, hx9⟩ := p9; subst hr9; (try dsimp only); (try k_fold); (try k_sweep)))
theorem fq_eq {w : World} {news : List (Addr × Obj)} {x y : Addr} {p q a b : Int} (hx : FQin w.params news x p a) (hy : FQin w.params news y q b) :
    Tl w 2 16 news (call (.ref 161) [.ref x, .ref y]) (fun r _ => r = .bool (a == b)) := by
  intro mg mb mean dp un gd cn cs a0 ccd cl outer A₀ base h₀ L m s Q E B F X N T hk hdp hun ret
  revert X; k_fill; intro X
  obtain ⟨dx, t1x, t2x, ux, tx, hx1, hx2, hx3, hx4⟩ := id hx
  obtain ⟨dy, t1y, t2y, uy, ty, hy1, hy2, hy3, hy4⟩ := id hy
  refine wpAny_call ?_
  k_dflt cell_enter
  k_steps
  exact ret _ _ _ _ rfl Sub.rfl (by assumption) (by assumption)

local macro_rules | `(tactic| walk_at "call ref") => `(tactic| (k_here; (with_reducible show wpAny _ _ (call (Value.ref 161) [Value.ref _, Value.ref _]) _ _ _); k_dflt (refine' Tl.use (fq_eq ?hx ?hy) ?k1 ?k2 ?k3 ?k4 ?k5 ?k6 ?k7 ?k8 ?_; (case k1 => k_asm); (case k2 => k_asm); (case k3 => k_asm); (case k4 => k_asm); (case k5 => k_asm); (case k6 => first | exact rfl | assumption); (case hx => ktr_rel); (case hy => ktr_rel); (case k7 => ktr_room); (case k8 => ktr_units)); intro r9 h9 tk9 l9 p9 S9 F9 N9; subst p9; (try dsimp only); (try k_fold); (try k_sweep)))
theorem fq_Eq {w : World} {news : List (Addr × Obj)} {x y : Addr} {p q a b : Int} (hx : FQin w.params news x p a) (hy : FQin w.params news y q b) :
    Tl w 3 24 news (compareOp .Eq (.ref x) (.ref y)) (fun r _ => r = .bool (a == b)) := by
  intro mg mb mean dp un gd cn cs a0 ccd cl outer A₀ base h₀ L m s Q E B F X N T hk hdp hun ret
  revert X; k_fill; intro X
  obtain ⟨dx, t1x, t2x, ux, tx, hx1, hx2, hx3, hx4⟩ := id hx
  obtain ⟨dy, t1y, t2y, uy, ty, hy1, hy2, hy3, hy4⟩ := id hy
  refine cmp_ofEq ?_
  refine' cmp_K ?k1 ?k2 ?k3 ?k4 ?k5 ?k6 ?k7 ?k8 ?_
  (case k1 => k_units)
  (case k2 => k_asm)
  (case k3 => k_asm)
  (case k4 => k_inst)
  (case k5 => k_typeOf)
  (case k6 => k_dflt k_is)
  (case k7 => k_dflt k_is)
  (case k8 => k_dflt k_is)
  k_steps
  exact ret _ _ _ _ rfl (by assumption) (by assumption) (by assumption)

local macro_rules | `(tactic| walk_at "compareOp Eq ref ref") => `(tactic| (k_here; (with_reducible show wpAny _ _ (compareOp CmpOp.Eq (Value.ref _) (Value.ref _)) _ _ _); k_dflt (refine' Tl.use (fq_Eq ?hx ?hy) ?k1 ?k2 ?k3 ?k4 ?k5 ?k6 ?k7 ?k8 ?_; (case k1 => k_asm); (case k2 => k_asm); (case k3 => k_asm); (case k4 => k_asm); (case k5 => k_asm); (case k6 => first | exact rfl | assumption); (case hx => ktr_rel); (case hy => ktr_rel); (case k7 => ktr_room); (case k8 => ktr_units)); intro r9 h9 tk9 l9 p9 S9 F9 N9; subst p9; (try dsimp only); (try k_fold); (try k_sweep)))
theorem fq_pow1 {w : World} {news : List (Addr × Obj)} {x : Addr} {p a : Int} (hx : FQin w.params news x p a) (e : Int) (te : Tok) (he : e = 1) (hp : PM p) :
    Tl w 4 32 news (call (.ref 154) [.ref x, .int e te]) (fun r l => ∃ z, r = .ref z ∧ FQin w.params l z p (a)) := by
  intro mg mb mean dp un gd cn cs a0 ccd cl outer A₀ base h₀ L m s Q E B F X N T hk hdp hun ret
  revert X; k_fill; intro X
  subst he
  obtain ⟨dx, t1x, t2x, ux, tx, hx1, hx2, hx3, hx4⟩ := id hx
  refine wpAny_call ?_
  k_dflt cell_enter
  k_steps
  exact ret _ _ _ _ ⟨_, rfl, FQin.cast (by ktr_rel) (Int.emod_eq_of_lt hx3 hx4)⟩ (by ktr_rel) (by assumption) (by assumption)

local macro_rules | `(tactic| walk_at "call ref") => `(tactic| (k_here; (with_reducible show wpAny _ _ (call (Value.ref 154) [Value.ref _, Value.int _ _]) _ _ _); k_dflt (refine' Tl.use (fq_pow1 ?hx _ _ ?he ?hp) ?k1 ?k2 ?k3 ?k4 ?k5 ?k6 ?k7 ?k8 ?_; (case k1 => k_asm); (case k2 => k_asm); (case k3 => k_asm); (case k4 => k_asm); (case k5 => k_asm); (case k6 => first | exact rfl | assumption); (case he => rfl); (case hx => ktr_rel); (case hp => assumption); (case k7 => ktr_room); (case k8 => ktr_units)); intro r9 h9 tk9 l9 p9 S9 F9 N9; obtain ⟨x9, hr9, hx9⟩ := p9; subst hr9; (try dsimp only); (try k_fold); (try k_sweep)))
theorem fq_Pow1 {w : World} {news : List (Addr × Obj)} {x : Addr} {p a : Int} (hx : FQin w.params news x p a) (e : Int) (te : Tok) (he : e = 1) (hp : PM p) :
    Tl w 5 40 news (binaryOp .Pow (.ref x) (.int e te)) (fun r l => ∃ z, r = .ref z ∧ FQin w.params l z p (a)) := by
  intro mg mb mean dp un gd cn cs a0 ccd cl outer A₀ base h₀ L m s Q E B F X N T hk hdp hun ret
  revert X; k_fill; intro X
  subst he
  obtain ⟨dx, t1x, t2x, ux, tx, hx1, hx2, hx3, hx4⟩ := id hx
  refine' ksp_binT ?F ?X ?I ?hB ?hC ?hS ?hF ?hR ?hP ?h1 ?h2 ?hU ?_
  (case hB => exact rfl)
  (case F => k_asm)
  (case X => k_asm)
  (case I => k_inst)
  (case hS => k_dflt k_is)
  (case hF => k_dflt k_is)
  (case hC => k_dflt k_is)
  (case hR => k_dflt k_is)
  (case hP => first | exact .inl rfl | exact .inr ⟨_, rfl⟩)
  (case h1 => k_dflt k_is)
  (case h2 => k_dflt k_is)
  (case hU => k_dflt k_is)
  k_steps
  exact ret _ _ _ _ ⟨_, rfl, by ktr_rel⟩ (by ktr_rel) (by assumption) (by assumption)

local macro_rules | `(tactic| walk_at "binaryOp Pow ref int") => `(tactic| (k_here; (with_reducible show wpAny _ _ (binaryOp Operator.Pow (Value.ref _) (Value.int _ _)) _ _ _); k_dflt (refine' Tl.use (fq_Pow1 ?hx _ _ ?he ?hp) ?k1 ?k2 ?k3 ?k4 ?k5 ?k6 ?k7 ?k8 ?_; (case k1 => k_asm); (case k2 => k_asm); (case k3 => k_asm); (case k4 => k_asm); (case k5 => k_asm); (case k6 => first | exact rfl | assumption); (case he => rfl); (case hx => ktr_rel); (case hp => assumption); (case k7 => ktr_room); (case k8 => ktr_units)); intro r9 h9 tk9 l9 p9 S9 F9 N9; obtain ⟨x9, hr9, hx9⟩ := p9; subst hr9; (try dsimp only); (try k_fold); (try k_sweep)))
theorem fq_pow2 {w : World} {news : List (Addr × Obj)} {x : Addr} {p a : Int} (hx : FQin w.params news x p a) (e : Int) (te : Tok) (he : e = 2) (hp : PM p) :
    Tl w 6 48 news (call (.ref 154) [.ref x, .int e te]) (fun r l => ∃ z, r = .ref z ∧ FQin w.params l z p (a * a % p)) := by
  intro mg mb mean dp un gd cn cs a0 ccd cl outer A₀ base h₀ L m s Q E B F X N T hk hdp hun ret
  revert X; k_fill; intro X
  subst he
  obtain ⟨dx, t1x, t2x, ux, tx, hx1, hx2, hx3, hx4⟩ := id hx
  refine wpAny_call ?_
  k_dflt cell_enter
  k_steps
  exact ret _ _ _ _ ⟨_, rfl, by ktr_rel⟩ (by ktr_rel) (by assumption) (by assumption)

local macro_rules | `(tactic| walk_at "call ref") => `(tactic| (k_here; (with_reducible show wpAny _ _ (call (Value.ref 154) [Value.ref _, Value.int _ _]) _ _ _); k_dflt (refine' Tl.use (fq_pow2 ?hx _ _ ?he ?hp) ?k1 ?k2 ?k3 ?k4 ?k5 ?k6 ?k7 ?k8 ?_; (case k1 => k_asm); (case k2 => k_asm); (case k3 => k_asm); (case k4 => k_asm); (case k5 => k_asm); (case k6 => first | exact rfl | assumption); (case he => rfl); (case hx => ktr_rel); (case hp => assumption); (case k7 => ktr_room); (case k8 => ktr_units)); intro r9 h9 tk9 l9 p9 S9 F9 N9; obtain ⟨x9, hr9, hx9⟩ := p9; subst hr9; (try dsimp only); (try k_fold); (try k_sweep)))
theorem fq_Pow2 {w : World} {news : List (Addr × Obj)} {x : Addr} {p a : Int} (hx : FQin w.params news x p a) (e : Int) (te : Tok) (he : e = 2) (hp : PM p) :
    Tl w 7 56 news (binaryOp .Pow (.ref x) (.int e te)) (fun r l => ∃ z, r = .ref z ∧ FQin w.params l z p (a * a % p)) := by
  intro mg mb mean dp un gd cn cs a0 ccd cl outer A₀ base h₀ L m s Q E B F X N T hk hdp hun ret
  revert X; k_fill; intro X
  subst he
  obtain ⟨dx, t1x, t2x, ux, tx, hx1, hx2, hx3, hx4⟩ := id hx
  refine' ksp_binT ?F ?X ?I ?hB ?hC ?hS ?hF ?hR ?hP ?h1 ?h2 ?hU ?_
  (case hB => exact rfl)
  (case F => k_asm)
  (case X => k_asm)
  (case I => k_inst)
  (case hS => k_dflt k_is)
  (case hF => k_dflt k_is)
  (case hC => k_dflt k_is)
  (case hR => k_dflt k_is)
  (case hP => first | exact .inl rfl | exact .inr ⟨_, rfl⟩)
  (case h1 => k_dflt k_is)
  (case h2 => k_dflt k_is)
  (case hU => k_dflt k_is)
  k_steps
  exact ret _ _ _ _ ⟨_, rfl, by ktr_rel⟩ (by ktr_rel) (by assumption) (by assumption)

theorem fq_pow3 {w : World} {news : List (Addr × Obj)} {x : Addr} {p a : Int} (hx : FQin w.params news x p a) (e : Int) (te : Tok) (he : e = 3) (hp : PM p) :
    Tl w 6 48 news (call (.ref 154) [.ref x, .int e te]) (fun r l => ∃ z, r = .ref z ∧ FQin w.params l z p (a * a % p * a % p)) := by
  intro mg mb mean dp un gd cn cs a0 ccd cl outer A₀ base h₀ L m s Q E B F X N T hk hdp hun ret
  revert X; k_fill; intro X
  subst he
  obtain ⟨dx, t1x, t2x, ux, tx, hx1, hx2, hx3, hx4⟩ := id hx
  refine wpAny_call ?_
  k_dflt cell_enter
  k_steps
  exact ret _ _ _ _ ⟨_, rfl, by ktr_rel⟩ (by ktr_rel) (by assumption) (by assumption)

local macro_rules | `(tactic| walk_at "call ref") => `(tactic| (k_here; (with_reducible show wpAny _ _ (call (Value.ref 154) [Value.ref _, Value.int _ _]) _ _ _); k_dflt (refine' Tl.use (fq_pow3 ?hx _ _ ?he ?hp) ?k1 ?k2 ?k3 ?k4 ?k5 ?k6 ?k7 ?k8 ?_; (case k1 => k_asm); (case k2 => k_asm); (case k3 => k_asm); (case k4 => k_asm); (case k5 => k_asm); (case k6 => first | exact rfl | assumption); (case he => rfl); (case hx => ktr_rel); (case hp => assumption); (case k7 => ktr_room); (case k8 => ktr_units)); intro r9 h9 tk9 l9 p9 S9 F9 N9; obtain ⟨x9, hr9, hx9⟩ := p9; subst hr9; (try dsimp only); (try k_fold); (try k_sweep)))
theorem fq_Pow3 {w : World} {news : List (Addr × Obj)} {x : Addr} {p a : Int} (hx : FQin w.params news x p a) (e : Int) (te : Tok) (he : e = 3) (hp : PM p) :
    Tl w 7 56 news (binaryOp .Pow (.ref x) (.int e te)) (fun r l => ∃ z, r = .ref z ∧ FQin w.params l z p (a * a % p * a % p)) := by
  intro mg mb mean dp un gd cn cs a0 ccd cl outer A₀ base h₀ L m s Q E B F X N T hk hdp hun ret
  revert X; k_fill; intro X
  subst he
  obtain ⟨dx, t1x, t2x, ux, tx, hx1, hx2, hx3, hx4⟩ := id hx
  refine' ksp_binT ?F ?X ?I ?hB ?hC ?hS ?hF ?hR ?hP ?h1 ?h2 ?hU ?_
  (case hB => exact rfl)
  (case F => k_asm)
  (case X => k_asm)
  (case I => k_inst)
  (case hS => k_dflt k_is)
  (case hF => k_dflt k_is)
  (case hC => k_dflt k_is)
  (case hR => k_dflt k_is)
  (case hP => first | exact .inl rfl | exact .inr ⟨_, rfl⟩)
  (case h1 => k_dflt k_is)
  (case h2 => k_dflt k_is)
  (case hU => k_dflt k_is)
  k_steps
  exact ret _ _ _ _ ⟨_, rfl, by ktr_rel⟩ (by ktr_rel) (by assumption) (by assumption)

local macro_rules | `(tactic| walk_at "binaryOp Pow ref int") => `(tactic| (k_here; (with_reducible show wpAny _ _ (binaryOp Operator.Pow (Value.ref _) (Value.int _ _)) _ _ _); k_dflt (refine' Tl.use (fq_Pow2 ?hx _ _ ?he ?hp) ?k1 ?k2 ?k3 ?k4 ?k5 ?k6 ?k7 ?k8 ?_; (case k1 => k_asm); (case k2 => k_asm); (case k3 => k_asm); (case k4 => k_asm); (case k5 => k_asm); (case k6 => first | exact rfl | assumption); (case he => rfl); (case hx => ktr_rel); (case hp => assumption); (case k7 => ktr_room); (case k8 => ktr_units)); intro r9 h9 tk9 l9 p9 S9 F9 N9; obtain ⟨x9, hr9, hx9⟩ := p9; subst hr9; (try dsimp only); (try k_fold); (try k_sweep)))
local macro_rules | `(tactic| walk_at "binaryOp Pow ref int") => `(tactic| (k_here; (with_reducible show wpAny _ _ (binaryOp Operator.Pow (Value.ref _) (Value.int _ _)) _ _ _); k_dflt (refine' Tl.use (fq_Pow3 ?hx _ _ ?he ?hp) ?k1 ?k2 ?k3 ?k4 ?k5 ?k6 ?k7 ?k8 ?_; (case k1 => k_asm); (case k2 => k_asm); (case k3 => k_asm); (case k4 => k_asm); (case k5 => k_asm); (case k6 => first | exact rfl | assumption); (case he => rfl); (case hx => ktr_rel); (case hp => assumption); (case k7 => ktr_room); (case k8 => ktr_units)); intro r9 h9 tk9 l9 p9 S9 F9 N9; obtain ⟨x9, hr9, hx9⟩ := p9; subst hr9; (try dsimp only); (try k_fold); (try k_sweep)))
section
open PyProof.Rows.LCg PyProof.Rows.LCt
section
variable {prog : Program} {w : World} {A : Around} {E : Value → Shared → Prop} {s : Shared} {h₀ : Heap} {L : Addr} {m : Str → Option Value} {env : Env}

/-- the source of a comprehension is a range with a step -/
def RgSrc (prog : Program) (w : World) (A : Around) (h₀ : Heap) (L : Addr) (m : Str → Option Value) (env : Env) (ct elt : Expr) (x : Str) (scope : Scope) (cl : List (Str × Addr)) (Q : Value → Shared → Prop) (xv : Value) (s₁ : Shared) : Prop :=
  ∃ r a b c t u v n news, xv = .ref r ∧ A.handled = none ∧ Fr h₀ L s₁.heap m ∧ News h₀ L s₁.heap news ∧ IsRange s₁.heap r a b c t u v ∧ Builtin.Range.small a b c = true ∧ Builtin.Range.rangeSize a b c = ((n : Nat) : Int) ∧ n ≤ sizeLine ∧
    ∀ s₂ : Shared, (∃ h, s₂ = { s₁ with heap := h }) → CompRestT prog w A h₀ L m env ct elt x scope cl s₂ (fun _ => True) (fun i v => ∃ t, v = .int (a + (i : Int) * c) t) (FinE h₀ L m s₂ Q) n 0 [] news

theorem lc_step {ct elt iter : Expr} {x : Str} {px : Pos} {scope : Scope} {cl : List (Str × Addr)} {pos : Pos} {Q : Value → Shared → Prop} (F₀ : Fr h₀ L s.heap m)
    (hclos : closureFor scope env = pure cl) (hcell : ∀ y ∈ scope.names, y.2 ≠ .cell) (hkind : scope.kind = .function)
    (hnames : ∀ y ∈ scope.names, y.2 = .local → scope.names.lookup y.1 = some .local) (hx : scope.names.lookup x = some .local)
    (h : wpAny (model prog w) A (eval iter env) (RgSrc prog w A h₀ L m env ct elt x scope cl Q) E s)
    (hs : ∀ x, foldedSetIterable iter env x = pure x := by intro _; rfl) :
    wpAny (model prog w) A (eval (.ListComp elt [⟨.Name x px, iter, [ct], 0⟩] scope pos) env) Q E s := by
  rw [eval_ListComp]
  refine wpAny_comprehension_free (use := none) rfl hs hclos hkind hnames (wpAny_mono h (fun xv s₁ h₁ => ?_) fun _ _ e => e)
  obtain ⟨r, a, b, c, t, u, v, n, news, rfl, hh, F, N, hr, hsm, hn, hsz, R⟩ := h₁
  refine wpAny_pyIter_range hr hsm ?_
  have W := Walks.range (prog := prog) (w := w) hh s₁.heap.objs.size a c n
  have st : ∀ i (h h' : Heap) (o : Obj) (nw : List (Addr × Obj)), IsRangeIter h s₁.heap.objs.size (a + (i : Nat) * c) ((n : Int) - (i : Nat)) c → h.get? s₁.heap.objs.size = some o → h'.get? s₁.heap.objs.size = some o →
      (∀ b o, h₀.get? b = some o → h'.get? b = some o) → News h₀ L h' nw → True → IsRangeIter h' s₁.heap.objs.size (a + (i : Nat) * c) ((n : Int) - (i : Nat)) c := by
    intro i h h' o nw q e e' _ _ _
    have q' : h.get? s₁.heap.objs.size = some _ := q
    show h'.get? s₁.heap.objs.size = some _
    rw [e', ← e]; exact q'
  refine block_T W hsz (fun i h q => ⟨_, q⟩) st hcell hkind hx ?_ (fun b hb => ?_)
    (F.keeps fun _ _ e => Heap.get?_push_of_some _ e) (N.grown fun _ _ e => Heap.get?_push_of_some _ e) (Nat.ne_of_lt F.ns.lt) (next_is_new F) (fun p hp => Nat.ne_of_lt (Heap.lt_size (N p hp).1)) trivial (R _ ⟨_, rfl⟩) ?_
  · show IsRangeIter _ _ _ _ _
    rw [hn]
    simpa using Heap.get?_push_size _ rfl
  · rw [List.mem_singleton.mp hb]
    show s₁.heap.objs.size < (s₁.heap.push _).objs.size
    rw [Heap.size_push]; exact Nat.lt_succ_self _
  · intro D C h tk m' ys news' F' N' o1 hn hC₀ hD₀ hCL hDL hCD offC fin
    refine ⟨m', hn, fun h'' hs'' => fin D h'' tk (F'.change hs'' hCL hC₀) (fun p hp => ?_) o1⟩
    refine ⟨hs''.extBut _ _ ?_ (N' p hp).1, (N' p hp).2⟩
    rcases List.mem_cons.mp hp with rfl | hp
    · exact Ne.symm hCD
    · exact offC p hp

/-- a turn's end: the ledger is as it was, the value is any -/
def Still (h₀ : Heap) (L : Addr) (m : Str → Option Value) (s₁ : Shared) (led : List (Addr × Obj)) (s₂ : Shared) : Prop :=
  ∃ h' tk, s₂ = { s₁ with heap := h', toks := tk } ∧ Fr h₀ L h' m ∧ News h₀ L h' led
theorem Still.mk {h₀ h' : Heap} {L : Addr} {m : Str → Option Value} {s₁ : Shared} {led : List (Addr × Obj)} {tk : Nat} (F : Fr h₀ L h' m) (N : News h₀ L h' led) : Still h₀ L m s₁ led { s₁ with heap := h', toks := tk } := ⟨h', tk, rfl, F, N⟩
theorem rest_filter {ct elt : Expr} {x : Str} {scope : Scope} {cl : List (Str × Addr)} {a c : Int} {news : List (Addr × Obj)} {Fin : List Value → List (Addr × Obj) → Prop} {n : Nat} (g : Int → Bool)
    (turn : ∀ i t I oI C oC D m₂ ys h tk (E' : Value → Shared → Prop), i < n → NsObj oC m₂ → m₂ x = some (.int (a + (i : Int) * c) t) → Fr h₀ L h m → News h₀ L h ((I, oI) :: (C, oC) :: (D, lst ys) :: news) →
      wpAny (model prog w) A (isTrue ct (compEnvC scope cl C env) (eval ct (compEnvC scope cl C env))) (fun ok s' => ok = g (a + (i : Int) * c) ∧ if ok = true then
        wpAny (model prog w) A (eval elt (compEnvC scope cl C env)) (fun _ s'' => Still h₀ L m s ((I, oI) :: (C, oC) :: (D, lst ys) :: news) s'') E' s'
        else Still h₀ L m s ((I, oI) :: (C, oC) :: (D, lst ys) :: news) s') E' { s with heap := h, toks := tk })
    (fin : ∀ ys, (ys = [] ↔ ∀ i : Nat, i < n → g (a + (i : Int) * c) = false) → ys.length ≤ n → Fin ys news) :
    CompRestT prog w A h₀ L m env ct elt x scope cl s (fun _ => True) (fun i v => ∃ t, v = .int (a + (i : Int) * c) t) Fin n 0 [] news := by
  have key : ∀ (j i : Nat) (ys : List Value), i + j = n → ys.length ≤ i → (ys = [] ↔ ∀ k : Nat, k < i → g (a + (k : Int) * c) = false) →
      CompRestT prog w A h₀ L m env ct elt x scope cl s (fun _ => True) (fun i v => ∃ t, v = .int (a + (i : Int) * c) t) Fin j i ys news := by
    intro j
    induction j with
    | zero =>
      intro i ys hi hl hy
      have e : i = n := by omega
      subst e
      exact CompRestT.zero (fin ys hy hl)
    | succ j ih =>
      intro i ys hi hl hy
      refine CompRestT.succ ?_
      rintro v I oI C oC D m₂ h tk E' ⟨t, rfl⟩ hC hx F N off ne
      refine wpAny_mono (turn i t I oI C oC D m₂ ys h tk E' (by omega) hC hx F N) (fun ok s' hq => ?_) fun _ _ e => e
      obtain ⟨hg, hq⟩ := hq
      have step : ∀ b : Bool, b = g (a + (i : Int) * c) → ((b = false ∧ ys = []) ↔ ∀ k : Nat, k < i + 1 → g (a + (k : Int) * c) = false) := by
        intro b hb
        rw [hb, hy]
        constructor
        · rintro ⟨h1, h2⟩ k hk
          rcases Nat.lt_succ_iff_lt_or_eq.mp hk with h | h
          · exact h2 k h
          · rw [h]; exact h1
        · intro h
          exact ⟨h i (Nat.lt_succ_self i), fun k hk => h k (Nat.lt_succ_of_lt hk)⟩
      cases ok with
      | true =>
        simp only [if_true] at hq ⊢
        refine wpAny_mono hq (fun y s'' hs => ?_) fun _ _ e => e
        obtain ⟨h', tk', rfl, F', N'⟩ := hs
        refine ⟨h', tk', news, rfl, F', N', off, trivial, ih (i + 1) (ys ++ [y]) (by omega) (by simp; omega) ?_⟩
        rw [← step true hg]
        simp
      | false =>
        simp only [Bool.false_eq_true, if_false] at hq ⊢
        obtain ⟨h', tk', rfl, F', N'⟩ := hq
        refine ⟨h', tk', news, rfl, F', N', off, trivial, ih (i + 1) ys (by omega) (by omega) ?_⟩
        rw [← step false hg]
        simp
  exact key n 0 [] (by omega) (Nat.le_refl _) (by simp)
end
end
section
open PyProof.Rows.LCg PyProof.Rows.LCt
section
variable {prog : Program} {w : World} {A : Around} {E : Value → Shared → Prop} {s : Shared} {h₀ : Heap} {L : Addr} {m : Str → Option Value} {env : Env}

/-- objects that a step made: they lie in the ledger behind it, off all that stood in it before -/
def NewIn (old l own : List (Addr × Obj)) : Prop := Sub own l ∧ ∀ p ∈ own, ∀ q ∈ old, q.1 ≠ p.1
theorem NewIn.sub {old l own : List (Addr × Obj)} (h : NewIn old l own) : Sub own l := h.1
theorem NewIn.nil {old l : List (Addr × Obj)} : NewIn old l [] := ⟨fun _ h => (nomatch h), fun _ h => (nomatch h)⟩

/-- a turn's end: the ledger has grown by own objects, of which R tells -/
def Grown (h₀ : Heap) (L : Addr) (m : Str → Option Value) (s₁ : Shared) (led : List (Addr × Obj)) (R : Value → List (Addr × Obj) → Prop) (y : Value) (s₂ : Shared) : Prop :=
  ∃ h' tk l own, s₂ = { s₁ with heap := h', toks := tk } ∧ Fr h₀ L h' m ∧ News h₀ L h' l ∧ Sub led l ∧ NewIn led l own ∧ R y own

theorem rest_own {elt : Expr} {x : Str} {scope : Scope} {cl : List (Str × Addr)} {S : List (Addr × Obj) → Prop} {P : Nat → Value → Prop} {news : List (Addr × Obj)} {Fin : List Value → List (Addr × Obj) → Prop} {n : Nat} (R : Nat → Value → List (Addr × Obj) → Prop)
    (hS : S news) (hSm : ∀ l l', S l → Sub l l' → S l') (mono : ∀ i v l l', R i v l → Sub l l' → R i v l')
    (turn : ∀ i v I oI C oC D m₂ ys nw h tk (E' : Value → Shared → Prop), i < n → P i v → Sub news nw → NsObj oC m₂ → m₂ x = some v → Fr h₀ L h m → News h₀ L h ((I, oI) :: (C, oC) :: (D, lst ys) :: nw) →
      wpAny (model prog w) A (eval elt (compEnvC scope cl C env)) (Grown h₀ L m s ((I, oI) :: (C, oC) :: (D, lst ys) :: nw) (R i)) E' { s with heap := h, toks := tk })
    (fin : ∀ ys nw, Sub news nw → ys.length = n → (∀ i y, ys[i]? = some y → R i y nw) → Fin ys nw) :
    CompRest prog w A h₀ L m env elt x scope cl s S P Fin n 0 [] news := by
  have key : ∀ (j i : Nat) (ys : List Value) (nw : List (Addr × Obj)), i + j = n → ys.length = i → Sub news nw → (∀ k y, ys[k]? = some y → R k y nw) →
      CompRest prog w A h₀ L m env elt x scope cl s S P Fin j i ys nw := by
    intro j
    induction j with
    | zero =>
      intro i ys nw hi hl hs hy
      exact CompRest.zero (fin ys nw hs (by omega) hy)
    | succ j ih =>
      intro i ys nw hi hl hs hy
      refine CompRest.succ ?_
      intro v I oI C oC D m₂ h tk E' hP hC hx F N off ne
      refine wpAny_mono (turn i v I oI C oC D m₂ ys nw h tk E' (by omega) hP hs hC hx F N) (fun y s' hq => ?_) fun _ _ e => e
      obtain ⟨h', tk', l, own, rfl, F', N', hsub, hown, hR⟩ := hq
      have offm := off.mem
      have hs' : Sub nw (own ++ nw) := fun q hq => List.mem_append_right _ hq
      refine ⟨h', tk', own ++ nw, rfl, F', fun p hp => ?_, Off3.of fun p hp => ?_, hSm _ _ hS (hs.trans hs'), ih (i + 1) (ys ++ [y]) (own ++ nw) (by omega) (by simp; omega) (hs.trans hs') ?_⟩
      · rcases List.mem_cons.mp hp with rfl | hp
        · exact N' _ (hsub _ List.mem_cons_self)
        · rcases List.mem_cons.mp hp with rfl | hp
          · exact N' _ (hsub _ (List.mem_cons_of_mem _ List.mem_cons_self))
          · rcases List.mem_cons.mp hp with rfl | hp
            · exact N' _ (hsub _ (List.mem_cons_of_mem _ (List.mem_cons_of_mem _ List.mem_cons_self)))
            · rcases List.mem_append.mp hp with hp | hp
              · exact N' _ (hown.1 p hp)
              · exact N' _ (hsub _ (List.mem_cons_of_mem _ (List.mem_cons_of_mem _ (List.mem_cons_of_mem _ hp))))
      · rcases List.mem_append.mp hp with hp | hp
        · have q := hown.2 p hp
          exact ⟨Ne.symm (q _ List.mem_cons_self), Ne.symm (q _ (List.mem_cons_of_mem _ List.mem_cons_self)), Ne.symm (q _ (List.mem_cons_of_mem _ (List.mem_cons_of_mem _ List.mem_cons_self)))⟩
        · exact offm p hp
      · intro k z hk
        by_cases hlt : k < ys.length
        · rw [List.getElem?_append_left hlt] at hk
          exact mono _ _ _ _ (hy k z hk) hs'
        · rw [List.getElem?_append_right (by omega)] at hk
          have e : k - ys.length = 0 := by
            rcases Nat.eq_zero_or_pos (k - ys.length) with h0 | h0
            · exact h0
            · rw [List.getElem?_eq_none (by simp; omega)] at hk; cases hk
          rw [e] at hk
          simp only [List.getElem?_cons_zero, Option.some.injEq] at hk
          subst hk
          have ek : k = i := by omega
          subst ek
          exact mono _ _ _ _ hR fun q hq => List.mem_append_left _ hq
  exact key n 0 [] news (by omega) rfl Sub.rfl (fun _ _ h => by simp at h)

/-- the source of a comprehension is a tuple that the ledger holds -/
def TupSrc (prog : Program) (w : World) (A : Around) (h₀ : Heap) (L : Addr) (m : Str → Option Value) (env : Env) (elt : Expr) (x : Str) (scope : Scope) (cl : List (Str × Addr)) (Q : Value → Shared → Prop) (xv : Value) (s₁ : Shared) : Prop :=
  ∃ ax vs k news, xv = .ref ax ∧ A.handled = none ∧ Fr h₀ L s₁.heap m ∧ News h₀ L s₁.heap news ∧ (ax, ({ cls := .type "tuple", data := .seq vs k } : Obj)) ∈ news ∧ vs.size ≤ sizeLine ∧
    ∀ s₂ : Shared, (∃ h, s₂ = { s₁ with heap := h }) → CompRest prog w A h₀ L m env elt x scope cl s₂ (fun nw => (ax, ({ cls := .type "tuple", data := .seq vs k } : Obj)) ∈ nw) (fun i v => vs[i]? = some v) (FinE h₀ L m s₂ Q) vs.size 0 [] news

theorem lc_tuple {elt iter : Expr} {x : Str} {px : Pos} {scope : Scope} {cl : List (Str × Addr)} {pos : Pos} {Q : Value → Shared → Prop} (_F₀ : Fr h₀ L s.heap m)
    (hclos : closureFor scope env = pure cl) (hcell : ∀ y ∈ scope.names, y.2 ≠ .cell) (hkind : scope.kind = .function)
    (hnames : ∀ y ∈ scope.names, y.2 = .local → scope.names.lookup y.1 = some .local) (hx : scope.names.lookup x = some .local)
    (h : wpAny (model prog w) A (eval iter env) (TupSrc prog w A h₀ L m env elt x scope cl Q) E s)
    (hs : ∀ x, foldedSetIterable iter env x = pure x := by intro _; rfl) :
    wpAny (model prog w) A (eval (.ListComp elt [⟨.Name x px, iter, [], 0⟩] scope pos) env) Q E s := by
  rw [eval_ListComp]
  refine wpAny_comprehension_free (use := none) rfl hs hclos hkind hnames (wpAny_mono h (fun xv s₁ h₁ => ?_) fun _ _ e => e)
  obtain ⟨ax, vs, k, news, rfl, hh, F, N, hm, hsz, R⟩ := h₁
  have hT : s₁.heap.IsTuple ax vs := ⟨_, (N _ hm).1, rfl, k, rfl⟩
  have hlt : ax < s₁.heap.objs.size := Heap.lt_size (N _ hm).1
  refine wpAny_pyIter_tuple hT ?_
  have up : ∀ b o, s₁.heap.get? b = some o → (s₁.heap.push { cls := .type "tuple_iterator", data := .fields #[.ref ax, .int 0 0] }).get? b = some o := fun b o e => Heap.get?_push_of_some _ e
  have W := Walks.tuple (prog := prog) (w := w) hh s₁.heap.objs.size ax (Nat.ne_of_lt hlt) vs
  refine block_U (S := fun nw => (ax, ({ cls := .type "tuple", data := .seq vs k } : Obj)) ∈ nw) W hsz (fun i h st => by obtain ⟨o, e, _⟩ := st.1; exact ⟨o, e⟩) (fun i h h' o nw st e e' _ N' hm' => ?_) hcell hkind hx ?_ (fun b hb => ?_)
    (F.keeps up) (N.grown up) (Nat.ne_of_lt F.ns.lt) (next_is_new F) (fun p hp => Nat.ne_of_lt (Heap.lt_size (N p hp).1)) hm (R _ ⟨_, rfl⟩) ?_
  · obtain ⟨o', q, r⟩ := st.1
    rw [e] at q; cases q
    exact ⟨⟨o, e', r⟩, ⟨_, (N' _ hm').1, rfl, k, rfl⟩⟩
  · exact ⟨⟨_, Heap.get?_push_size _ rfl, rfl, rfl⟩, ⟨_, up _ _ (N _ hm).1, rfl, k, rfl⟩⟩
  · show b < (s₁.heap.push _).objs.size
    rw [Heap.size_push]
    rcases List.mem_cons.mp hb with rfl | hb
    · exact Nat.lt_succ_self _
    · rw [List.mem_singleton.mp hb]; exact Nat.lt_succ_of_lt hlt
  · intro D C h tk m' ys news' F' N' o1 hn hC₀ hD₀ hCL hDL hCD offC fin
    refine ⟨m', hn, fun h'' hs'' => fin D h'' tk (F'.change hs'' hCL hC₀) (fun p hp => ?_) o1⟩
    refine ⟨hs''.extBut _ _ ?_ (N' p hp).1, (N' p hp).2⟩
    rcases List.mem_cons.mp hp with rfl | hp
    · exact Ne.symm hCD
    · exact offC p hp
end
end
section
open PyProof.Rows.LCg PyProof.Rows.LCt
section
variable {prog : Program} {w : World} {A : Around} {E : Value → Shared → Prop} {s : Shared} {h₀ : Heap} {L : Addr} {m : Str → Option Value} {env : Env}

/-- a turn's end: the ledger is as it was; R tells of the value -/
def StillR (h₀ : Heap) (L : Addr) (m : Str → Option Value) (s₁ : Shared) (led : List (Addr × Obj)) (R : Value → Prop) (y : Value) (s₂ : Shared) : Prop :=
  ∃ h' tk, s₂ = { s₁ with heap := h', toks := tk } ∧ Fr h₀ L h' m ∧ News h₀ L h' led ∧ R y

theorem rest_pure {elt : Expr} {x : Str} {scope : Scope} {cl : List (Str × Addr)} {P : Nat → Value → Prop} {news : List (Addr × Obj)} {Fin : List Value → List (Addr × Obj) → Prop} {n : Nat} (R : Nat → Value → Prop)
    (turn : ∀ i v I oI C oC D m₂ ys h tk (E' : Value → Shared → Prop), i < n → P i v → NsObj oC m₂ → m₂ x = some v → Fr h₀ L h m → News h₀ L h ((I, oI) :: (C, oC) :: (D, lst ys) :: news) →
      wpAny (model prog w) A (eval elt (compEnvC scope cl C env)) (StillR h₀ L m s ((I, oI) :: (C, oC) :: (D, lst ys) :: news) (R i)) E' { s with heap := h, toks := tk })
    (fin : ∀ ys, ys.length = n → (∀ i y, ys[i]? = some y → R i y) → Fin ys news) :
    CompRest prog w A h₀ L m env elt x scope cl s (fun _ => True) P Fin n 0 [] news := by
  have key : ∀ (j i : Nat) (ys : List Value), i + j = n → ys.length = i → (∀ k y, ys[k]? = some y → R k y) →
      CompRest prog w A h₀ L m env elt x scope cl s (fun _ => True) P Fin j i ys news := by
    intro j
    induction j with
    | zero =>
      intro i ys hi hl hy
      exact CompRest.zero (fin ys (by omega) hy)
    | succ j ih =>
      intro i ys hi hl hy
      refine CompRest.succ ?_
      intro v I oI C oC D m₂ h tk E' hP hC hx F N off ne
      refine wpAny_mono (turn i v I oI C oC D m₂ ys h tk E' (by omega) hP hC hx F N) (fun y s' hq => ?_) fun _ _ e => e
      obtain ⟨h', tk', rfl, F', N', hR⟩ := hq
      refine ⟨h', tk', news, rfl, F', N', off, trivial, ih (i + 1) (ys ++ [y]) (by omega) (by simp; omega) ?_⟩
      intro k z hk
      by_cases hlt : k < ys.length
      · rw [List.getElem?_append_left hlt] at hk
        exact hy k z hk
      · rw [List.getElem?_append_right (by omega)] at hk
        have e : k - ys.length = 0 := by
          rcases Nat.eq_zero_or_pos (k - ys.length) with h0 | h0
          · exact h0
          · rw [List.getElem?_eq_none (by simp; omega)] at hk; cases hk
        rw [e] at hk
        simp only [List.getElem?_cons_zero, Option.some.injEq] at hk
        subst hk
        have ek : k = i := by omega
        subst ek
        exact hR
  exact key n 0 [] (by omega) rfl (fun _ _ h => by simp at h)
end

theorem ints_of : ∀ (ys : List Value), (∀ (i : Nat) (y : Value), ys[i]? = some y → ∃ z t, y = Value.int z t ∧ 0 ≤ z) → ∃ gs : List Int, IntsAre ys gs ∧ gs.length = ys.length ∧ ∀ i : Nat, 0 ≤ gs.getD i 0
  | [], _ => ⟨[], .nil, rfl, fun i => by simp⟩
  | y :: ys, h => by
    obtain ⟨z, t, rfl, hz⟩ := h 0 y rfl
    obtain ⟨gs, hi, hl, hn⟩ := ints_of ys (fun i y hy => h (i + 1) y (by simpa using hy))
    refine ⟨z :: gs, .cons z t hi, by simp [hl], fun i => ?_⟩
    cases i with
    | zero => simpa using hz
    | succ i => simpa using hn i

theorem News.cut {h₀ h : Heap} {L : Addr} {l l' : List (Addr × Obj)} (N : News h₀ L h l') (S : Sub l l') : News h₀ L h l := fun p hp => N p (S p hp)
/-- two objects of one ledger that differ lie apart -/
theorem News.apart {h₀ h : Heap} {L : Addr} {news : List (Addr × Obj)} (N : News h₀ L h news) {a b : Addr} {o o' : Obj} (ha : (a, o) ∈ news) (hb : (b, o') ∈ news) (hne : o.data ≠ o'.data) : a ≠ b := by
  rintro rfl
  have h1 := (N _ ha).1
  have h2 := (N _ hb).1
  dsimp only at h1 h2
  rw [h1] at h2
  cases h2
  exact hne rfl

section
variable {M : Model} {A : Around} {E : Value → Shared → Prop} {s : Shared} {h₀ : Heap} {L a : Addr} {m : Str → Option Value} {cn : Str} {cs : Scope} {ccd : Value} {cl : List (Str × Addr)}
  {x : Str} {v : Value} {Q : Unit → Shared → Prop} {news : List (Addr × Obj)} {c : Addr} {o : Obj} {v₀ : Option Value}
def offC (c : Addr) (news : List (Addr × Obj)) : List (Addr × Obj) := news.filter fun p => Nat.beq p.1 c == false
theorem offC_mem {c : Addr} {news : List (Addr × Obj)} {p : Addr × Obj} (h : p ∈ news) (hne : p.1 ≠ c) : p ∈ offC c news := by
  refine List.mem_filter.mpr ⟨h, ?_⟩
  rw [beq_iff_eq]
  exact Bool.eq_false_iff.mpr fun e => hne (Nat.eq_of_beq_eq_true e)
theorem offC_of {c : Addr} {news : List (Addr × Obj)} {p : Addr × Obj} (h : p ∈ offC c news) : p ∈ news ∧ p.1 ≠ c := by
  obtain ⟨h1, h2⟩ := List.mem_filter.mp h
  refine ⟨h1, fun e => ?_⟩
  rw [beq_iff_eq, e] at h2
  rw [show Nat.beq c c = true from Nat.beq_refl c] at h2
  cases h2
theorem storeX_F (F : Fr h₀ L s.heap m) (N : News h₀ L s.heap news) (hc : cl.lookup x = some c) (hm : (c, o) ∈ news) (hd : o.data = .cell v₀)
    (h : ∀ h' o', Fr h₀ L h' m → News h₀ L h' ((c, o') :: offC c news) → o'.data = .cell (some v) → Q () { s with heap := h' })
    (hk : cs.kind = .function := by rfl) (hx : (envX cn cs L a ccd cl).kindOf x = some .cell := by rfl) : wpAny M A (storeName (envX cn cs L a ccd cl) x v) Q E s := by
  have hmem := N (c, o) hm
  refine wpAny_storeName_cell hk hx hc ⟨o, hmem.1, hd⟩ fun h' hv hs => ?_
  obtain ⟨o', ho', hd'⟩ := hv
  refine h h' o' ⟨F.ns.sameBut hs (Ne.symm hmem.2.1), fun b ob e => (hs.2 b (fun q => ?_)).trans (F.keep b ob e), F.above⟩ (fun p hp => ?_) hd'
  · rw [q, hmem.2.2] at e; cases e
  · rcases List.mem_cons.mp hp with rfl | hp
    · exact ⟨ho', hmem.2.1, hmem.2.2⟩
    · obtain ⟨h1, h2⟩ := offC_of hp
      have z := N p h1
      exact ⟨(hs.2 p.1 h2).trans z.1, z.2⟩
end
end

abbrev tupO (vs : List Value) : Obj := { cls := .type "tuple", data := .seq vs.toArray }
def TripIn (P : Params) (l : List (Addr × Obj)) (a : Addr) (p : Int) (T : Int × Int × Int) : Prop :=
  ∃ x y z, (a, tupO [.ref x, .ref y, .ref z]) ∈ l ∧ FQin P l x p T.1 ∧ FQin P l y p T.2.1 ∧ FQin P l z p T.2.2
theorem TripIn.mono {P : Params} {l l' : List (Addr × Obj)} {a : Addr} {p : Int} {T : Int × Int × Int} (h : TripIn P l a p T) (k : Sub l l') : TripIn P l' a p T :=
  let ⟨x, y, z, m, a, b, c⟩ := h; ⟨x, y, z, k _ m, a.mono k, b.mono k, c.mono k⟩
theorem TripIn.mk {P : Params} {l : List (Addr × Obj)} {a : Addr} {p : Int} {T : Int × Int × Int} {x y z : Addr} {X Y Z : Int} (m : (a, tupO [.ref x, .ref y, .ref z]) ∈ l) (hx : FQin P l x p X) (hy : FQin P l y p Y) (hz : FQin P l z p Z)
    (e : T = (X, Y, Z)) : TripIn P l a p T := by subst e; exact ⟨x, y, z, m, hx, hy, hz⟩
theorem TripIn.cast {P : Params} {l : List (Addr × Obj)} {a : Addr} {p : Int} {T T' : Int × Int × Int} (h : TripIn P l a p T) (e : T' = T) : TripIn P l a p T' := e ▸ h
theorem beq_t {a b c d : Int} (h : a = b) : Value.bool (c == d) = Value.bool (a == b && c == d) := by subst h; simp
theorem beq_f {a b c d : Int} (h : a ≠ b) : Value.bool (a == b) = Value.bool (a == b && c == d) := by rw [beq_eq_false_iff_ne.mpr h]; rfl
theorem zero_mod (p : Int) : (0 : Int) % p = 0 := Int.zero_emod p
local macro_rules | `(tactic| ktr_rel) => `(tactic| first | ((with_reducible show TripIn _ _ _ _ _); refine' TripIn.mono ?f9 ?s9; (case s9 => first | assumption | exact Sub.cons Sub.rfl); (case f9 => ktr_rel)) | fail "ktr_rel: TripIn")
local macro_rules | `(tactic| ktr_rel) => `(tactic| ((with_reducible show TripIn _ _ _ _ _); assumption))

theorem c_is_inf {w : World} {news : List (Addr × Obj)} {a : Addr} {p : Int} {T : Int × Int × Int} (ht : TripIn w.params news a p T) (hp : PM p) :
    Tl w 6 48 news (call (.ref 28) [.ref a]) (fun r _ => r = .bool (T.2.2 == 0)) := by
  intro mg mb mean dp un gd cn cs a0 ccd cl outer A₀ base h₀ L m s Q E B F X N T hk hdp hun ret
  revert X; k_fill; intro X
  obtain ⟨xht, yht, zht, mht, hxht, hyht, hzht⟩ := id ht
  obtain ⟨dxhzht, t1hzht, t2hzht, uhzht, thzht, i1hzht, i2hzht, i3hzht, i4hzht⟩ := id hzht
  refine wpAny_call ?_
  k_dflt cell_enter
  k_steps
  rw [zero_mod]
  refine' ret _ _ _ _ rfl ?e2 ?e3 ?e4
  (case e3 => assumption)
  (case e4 => assumption)
  (case e2 => ktr_rel)

local macro_rules | `(tactic| walk_at "call ref") => `(tactic| (k_here; (with_reducible show wpAny _ _ (call (Value.ref 28) [Value.ref _]) _ _ _); k_dflt (refine' Tl.use (c_is_inf ?ht ?hp) ?k1 ?k2 ?k3 ?k4 ?k5 ?k6 ?k7 ?k8 ?_; (case k1 => k_asm); (case k2 => k_asm); (case k3 => k_asm); (case k4 => k_asm); (case k5 => k_asm); (case k6 => first | exact rfl | assumption); (case ht => ktr_rel); (case hp => assumption); (case k7 => ktr_room); (case k8 => ktr_units)); intro r9 h9 tk9 l9 p9 S9 F9 N9; subst p9; (try dsimp only); (try k_fold); (try k_sweep)))
theorem c_neg {w : World} {news : List (Addr × Obj)} {a : Addr} {p : Int} {T : Int × Int × Int} (ht : TripIn w.params news a p T) (hp : PM p) :
    Tl w 6 48 news (call (.ref 63) [.ref a]) (fun r l => ∃ z, r = .ref z ∧ TripIn w.params l z p (T.1, -T.2.1 % p, T.2.2)) := by
  intro mg mb mean dp un gd cn cs a0 ccd cl outer A₀ base h₀ L m s Q E B F X N T hk hdp hun ret
  revert X; k_fill; intro X
  obtain ⟨xht, yht, zht, mht, hxht, hyht, hzht⟩ := id ht
  refine wpAny_call ?_
  k_dflt cell_enter
  k_steps
  refine' ret _ _ _ _ ?e1 ?e2 ?e3 ?e4
  (case e3 => assumption)
  (case e4 => assumption)
  (case e1 => exact ⟨_, rfl, TripIn.mk (by k_mem) (by ktr_rel) (by ktr_rel) (by ktr_rel) rfl⟩)
  (case e2 => ktr_rel)

local macro_rules | `(tactic| walk_at "call ref") => `(tactic| (k_here; (with_reducible show wpAny _ _ (call (Value.ref 63) [Value.ref _]) _ _ _); k_dflt (refine' Tl.use (c_neg ?ht ?hp) ?k1 ?k2 ?k3 ?k4 ?k5 ?k6 ?k7 ?k8 ?_; (case k1 => k_asm); (case k2 => k_asm); (case k3 => k_asm); (case k4 => k_asm); (case k5 => k_asm); (case k6 => first | exact rfl | assumption); (case ht => ktr_rel); (case hp => assumption); (case k7 => ktr_room); (case k8 => ktr_units)); intro r9 h9 tk9 l9 p9 S9 F9 N9; obtain ⟨x9, hr9, hx9⟩ := p9; subst hr9; (try dsimp only); (try k_fold); (try k_sweep)))
theorem c_eq {w : World} {news : List (Addr × Obj)} {a b : Addr} {p : Int} {T U : Int × Int × Int} (ht : TripIn w.params news a p T) (hu : TripIn w.params news b p U) (hp : PM p) :
    Tl w 6 48 news (call (.ref 56) [.ref a, .ref b]) (fun r _ => r = .bool (T.1 * U.2.2 % p == U.1 * T.2.2 % p && T.2.1 * U.2.2 % p == U.2.1 * T.2.2 % p)) := by
  intro mg mb mean dp un gd cn cs a0 ccd cl outer A₀ base h₀ L m s Q E B F X N T hk hdp hun ret
  revert X; k_fill; intro X
  obtain ⟨xht, yht, zht, mht, hxht, hyht, hzht⟩ := id ht
  obtain ⟨xhu, yhu, zhu, mhu, hxhu, hyhu, hzhu⟩ := id hu
  refine wpAny_call ?_
  k_dflt cell_enter
  k_steps
  all_goals
    refine' ret _ _ _ _ ?e1 ?e2 ?e3 ?e4
    (case e3 => assumption)
    (case e4 => assumption)
    (case e2 => ktr_rel)
    (case e1 => first | exact beq_t (by assumption) | exact beq_f (by assumption))

local macro_rules | `(tactic| walk_at "call ref") => `(tactic| (k_here; (with_reducible show wpAny _ _ (call (Value.ref 56) [Value.ref _, Value.ref _]) _ _ _); k_dflt (refine' Tl.use (c_eq ?ht ?hu ?hp) ?k1 ?k2 ?k3 ?k4 ?k5 ?k6 ?k7 ?k8 ?_; (case k1 => k_asm); (case k2 => k_asm); (case k3 => k_asm); (case k4 => k_asm); (case k5 => k_asm); (case k6 => first | exact rfl | assumption); (case ht => ktr_rel); (case hu => ktr_rel); (case hp => assumption); (case k7 => ktr_room); (case k8 => ktr_units)); intro r9 h9 tk9 l9 p9 S9 F9 N9; subst p9; (try dsimp only); (try k_fold); (try k_sweep)))

def dblF (p : Int) (T : Int × Int × Int) : Int × Int × Int :=
  let x := T.1; let y := T.2.1; let z := T.2.2
  let W := x * 3 % p * x % p
  let S := y * z % p
  let B := x * y % p * S % p
  let H := (W * W % p - B * 8 % p) % p
  let SS := S * S % p
  (H * 2 % p * S % p, (W * ((B * 4 % p - H) % p) % p - y * 8 % p * y % p * SS % p) % p, S * 8 % p * SS % p)

theorem c_double {w : World} {news : List (Addr × Obj)} {a : Addr} {p : Int} {T : Int × Int × Int} (ht : TripIn w.params news a p T) (hp : PM p) :
    Tl w 9 72 news (call (.ref 42) [.ref a]) (fun r l => ∃ z, r = .ref z ∧ TripIn w.params l z p (dblF p T)) := by
  intro mg mb mean dp un gd cn cs a0 ccd cl outer A₀ base h₀ L m s Q E B F X N T hk hdp hun ret
  revert X; k_fill; intro X
  obtain ⟨xht, yht, zht, mht, hxht, hyht, hzht⟩ := id ht
  refine wpAny_call ?_
  k_dflt cell_enter
  k_steps
  refine' ret _ _ _ _ ?e1 ?e2 ?e3 ?e4
  (case e3 => assumption)
  (case e4 => assumption)
  (case e1 => exact ⟨_, rfl, TripIn.mk (by k_mem) (by ktr_rel) (by ktr_rel) (by ktr_rel) rfl⟩)
  (case e2 => ktr_rel)

local macro_rules | `(tactic| walk_at "call ref") => `(tactic| (k_here; (with_reducible show wpAny _ _ (call (Value.ref 42) [Value.ref _]) _ _ _); k_dflt (refine' Tl.use (c_double ?ht ?hp) ?k1 ?k2 ?k3 ?k4 ?k5 ?k6 ?k7 ?k8 ?_; (case k1 => k_asm); (case k2 => k_asm); (case k3 => k_asm); (case k4 => k_asm); (case k5 => k_asm); (case k6 => first | exact rfl | assumption); (case ht => ktr_rel); (case hp => assumption); (case k7 => ktr_room); (case k8 => ktr_units)); intro r9 h9 tk9 l9 p9 S9 F9 N9; obtain ⟨x9, hr9, hx9⟩ := p9; subst hr9; (try dsimp only); (try k_fold); (try k_sweep)))

def addF (p : Int) (T U : Int × Int × Int) : Int × Int × Int :=
  if T.2.2 = 0 ∨ U.2.2 = 0 then (if U.2.2 = 0 then T else U) else
  let x1 := T.1; let y1 := T.2.1; let z1 := T.2.2
  let x2 := U.1; let y2 := U.2.1; let z2 := U.2.2
  let U1 := y2 * z1 % p
  let U2 := y1 * z2 % p
  let V1 := x2 * z1 % p
  let V2 := x1 * z2 % p
  if V1 = V2 ∧ U1 = U2 then dblF p T else
  if V1 = V2 then (1 % p, 1 % p, 0) else
  let U := (U1 - U2) % p
  let V := (V1 - V2) % p
  let VV := V * V % p
  let VVV2 := VV * V2 % p
  let VC := V * VV % p
  let W := z1 * z2 % p
  let A := ((U * U % p * W % p - VC) % p - VVV2 * 2 % p) % p
  (V * A % p, (U * ((VVV2 - A) % p) % p - VC * U2 % p) % p, VC * W % p)

section
variable {p : Int} {T U : Int × Int × Int}
theorem addF_inf2 (h : U.2.2 = 0 % p) : addF p T U = T := by rw [zero_mod] at h; simp only [addF, h, or_true, if_true]
theorem addF_inf1 (h1 : T.2.2 = 0 % p) (h2 : U.2.2 ≠ 0 % p) : addF p T U = U := by rw [zero_mod] at h1 h2; simp only [addF, h1, h2, true_or, if_true, if_false]
theorem addF_dbl (h1 : T.2.2 ≠ 0 % p) (h2 : U.2.2 ≠ 0 % p) (hV : U.1 * T.2.2 % p = T.1 * U.2.2 % p) (hU : U.2.1 * T.2.2 % p = T.2.1 * U.2.2 % p) : addF p T U = dblF p T := by
  rw [zero_mod] at h1 h2
  simp only [addF, h1, h2, or_self, if_false, hV, hU, and_self, if_true]
theorem addF_opp (h1 : T.2.2 ≠ 0 % p) (h2 : U.2.2 ≠ 0 % p) (hV : U.1 * T.2.2 % p = T.1 * U.2.2 % p) (hU : U.2.1 * T.2.2 % p ≠ T.2.1 * U.2.2 % p) : addF p T U = (1 % p, 1 % p, 0 % p) := by
  rw [zero_mod] at *
  simp only [addF, h1, h2, or_self, if_false, hV, hU, and_false, if_true]
theorem addF_gen (h1 : T.2.2 ≠ 0 % p) (h2 : U.2.2 ≠ 0 % p) (hV : U.1 * T.2.2 % p ≠ T.1 * U.2.2 % p) : addF p T U =
    (let U1 := U.2.1 * T.2.2 % p
     let U2 := T.2.1 * U.2.2 % p
     let V1 := U.1 * T.2.2 % p
     let V2 := T.1 * U.2.2 % p
     let Uu := (U1 - U2) % p
     let V := (V1 - V2) % p
     let VV := V * V % p
     let VVV2 := VV * V2 % p
     let VC := V * VV % p
     let W := T.2.2 * U.2.2 % p
     let A := ((Uu * Uu % p * W % p - VC) % p - VVV2 * 2 % p) % p
     (V * A % p, (Uu * ((VVV2 - A) % p) % p - VC * U2 % p) % p, VC * W % p)) := by
  rw [zero_mod] at h1 h2
  simp only [addF, h1, h2, or_self, if_false, hV, false_and]
end

theorem c_add {w : World} {news : List (Addr × Obj)} {a b : Addr} {p : Int} {T U : Int × Int × Int} (ht : TripIn w.params news a p T) (hu : TripIn w.params news b p U) (hp : PM p) :
    Tl w 15 120 news (call (.ref 49) [.ref a, .ref b]) (fun r l => ∃ z, r = .ref z ∧ TripIn w.params l z p (addF p T U)) := by
  intro mg mb mean dp un gd cn cs a0 ccd cl outer A₀ base h₀ L m s Q E B F X N T hk hdp hun ret
  revert X; k_fill; intro X
  obtain ⟨xht, yht, zht, mht, hxht, hyht, hzht⟩ := id ht
  obtain ⟨xhu, yhu, zhu, mhu, hxhu, hyhu, hzhu⟩ := id hu
  obtain ⟨dxhxht, t1hxht, t2hxht, uhxht, thxht, i1hxht, i2hxht, i3hxht, i4hxht⟩ := id hxht
  refine wpAny_call ?_
  k_dflt cell_enter
  k_steps
  all_goals first
    | contradiction
    | (refine' ret _ _ _ _ ?e1 ?e2 ?e3 ?e4
       (case e3 => assumption)
       (case e4 => assumption)
       (case e2 => ktr_rel)
       (case e1 => first
         | exact ⟨_, rfl, TripIn.cast (by ktr_rel) (addF_inf2 (by assumption))⟩
         | exact ⟨_, rfl, TripIn.cast (by ktr_rel) (addF_inf1 (by assumption) (by assumption))⟩
         | exact ⟨_, rfl, TripIn.cast (by ktr_rel) (addF_dbl (by assumption) (by assumption) (by assumption) (by assumption))⟩
         | exact ⟨_, rfl, TripIn.mk (by k_mem) (by ktr_rel) (by ktr_rel) (by ktr_rel) (addF_opp (by assumption) (by assumption) (by assumption) (by assumption))⟩
         | exact ⟨_, rfl, TripIn.mk (by k_mem) (by ktr_rel) (by ktr_rel) (by ktr_rel) (addF_gen (by assumption) (by assumption) (by assumption))⟩))

local macro_rules | `(tactic| walk_at "call ref") => `(tactic| (k_here; (with_reducible show wpAny _ _ (call (Value.ref 49) [Value.ref _, Value.ref _]) _ _ _); k_dflt (refine' Tl.use (c_add ?ht ?hu ?hp) ?k1 ?k2 ?k3 ?k4 ?k5 ?k6 ?k7 ?k8 ?_; (case k1 => k_asm); (case k2 => k_asm); (case k3 => k_asm); (case k4 => k_asm); (case k5 => k_asm); (case k6 => first | exact rfl | assumption); (case ht => ktr_rel); (case hu => ktr_rel); (case hp => assumption); (case k7 => ktr_room); (case k8 => ktr_units)); intro r9 h9 tk9 l9 p9 S9 F9 N9; obtain ⟨x9, hr9, hx9⟩ := p9; subst hr9; (try dsimp only); (try k_fold); (try k_sweep)))

abbrev Pt := Option (Int × Int)
/-- a value that stands for a point: None, or a tuple of two ints -/
def PtIn (l : List (Addr × Obj)) (v : Value) (P : Pt) : Prop := match P with
  | none => v = .none
  | some (x, y) => ∃ a t u, v = .ref a ∧ (a, tupO [.int x t, .int y u]) ∈ l
theorem PtIn.mono {l l' : List (Addr × Obj)} {v : Value} {P : Pt} (h : PtIn l v P) (k : Sub l l') : PtIn l' v P := by
  match P, h with
  | none, h => exact h
  | some (x, y), ⟨a, t, u, e, m⟩ => exact ⟨a, t, u, e, k _ m⟩
theorem PtIn.mk {l : List (Addr × Obj)} {a : Addr} {x y : Int} {t u : Tok} {P : Pt} (m : (a, tupO [.int x t, .int y u]) ∈ l) (e : P = some (x, y)) : PtIn l (.ref a) P := by subst e; exact ⟨a, t, u, rfl, m⟩
theorem PtIn.nil {l : List (Addr × Obj)} {P : Pt} (e : P = none) : PtIn l .none P := by subst e; exact rfl
theorem PtIn.cast {l : List (Addr × Obj)} {v : Value} {P P' : Pt} (h : PtIn l v P) (e : P' = P) : PtIn l v P' := e ▸ h
local macro_rules | `(tactic| ktr_rel) => `(tactic| first | ((with_reducible show PtIn _ _ _); refine' PtIn.mono ?f9 ?s9; (case s9 => first | assumption | exact Sub.cons Sub.rfl); (case f9 => ktr_rel)) | fail "ktr_rel: PtIn")
local macro_rules | `(tactic| ktr_rel) => `(tactic| ((with_reducible show PtIn _ _ _); assumption))
local macro_rules | `(tactic| walk_at "call builtin:pow") => `(tactic| (k_here; (with_reducible show wpAny _ _ (call _ [Value.int _ _, Value.int _ _, Value.int _ _]) _ _ _); k_dflt (refine' call_pow3 ?hb ?hc ?_; (case hb => assumption); (case hc => assumption)); (try dsimp only)))

def onB (p : Int) (T : Int × Int × Int) (b : Int) : Bool :=
  T.2.2 == 0 || (T.2.1 * T.2.1 % p * T.2.2 % p - T.1 * T.1 % p * T.1 % p) % p == b * (T.2.2 * T.2.2 % p * T.2.2 % p) % p
theorem onB_t {p b : Int} {T : Int × Int × Int} (h : (T.2.2 == 0) = true) : Value.bool true = Value.bool (onB p T b) := by rw [onB, h]; rfl
theorem onB_f {p b : Int} {T : Int × Int × Int} (h : (T.2.2 == 0) = false) : Value.bool ((T.2.1 * T.2.1 % p * T.2.2 % p - T.1 * T.1 % p * T.1 % p) % p == b * (T.2.2 * T.2.2 % p * T.2.2 % p) % p) = Value.bool (onB p T b) := by rw [onB, h]; rfl
theorem onB_t' {p b : Int} {T : Int × Int × Int} (h : T.2.2 = 0) : Value.bool true = Value.bool (onB p T b) := onB_t (beq_iff_eq.mpr h)
theorem onB_f' {p b : Int} {T : Int × Int × Int} (h : T.2.2 ≠ 0) : Value.bool ((T.2.1 * T.2.1 % p * T.2.2 % p - T.1 * T.1 % p * T.1 % p) % p == b * (T.2.2 * T.2.2 % p * T.2.2 % p) % p) = Value.bool (onB p T b) := onB_f (beq_eq_false_iff_ne.mpr h)

theorem c_on {w : World} {news : List (Addr × Obj)} {a : Addr} {p : Int} {T : Int × Int × Int} (ht : TripIn w.params news a p T) {b : Addr} {c : Int} (hb : FQin w.params news b p c) (hp : PM p) :
    Tl w 9 72 news (call (.ref 35) [.ref a, .ref b]) (fun r _ => r = .bool (onB p T c)) := by
  intro mg mb mean dp un gd cn cs a0 ccd cl outer A₀ base h₀ L m s Q E B F X N T hk hdp hun ret
  revert X; k_fill; intro X
  obtain ⟨xht, yht, zht, mht, hxht, hyht, hzht⟩ := id ht
  refine wpAny_call ?_
  k_dflt cell_enter
  k_steps
  all_goals first
    | contradiction
    | (refine' ret _ _ _ _ ?e1 ?e2 ?e3 ?e4
       (case e3 => assumption)
       (case e4 => assumption)
       (case e2 => ktr_rel)
       (case e1 => first | exact onB_t (by assumption) | exact onB_f (by assumption) | exact onB_t' (by assumption) | exact onB_f' (by assumption)))

local macro_rules | `(tactic| walk_at "call ref") => `(tactic| (k_here; (with_reducible show wpAny _ _ (call (Value.ref 35) [Value.ref _, Value.ref _]) _ _ _); k_dflt (refine' Tl.use (c_on ?ht ?hb ?hp) ?k1 ?k2 ?k3 ?k4 ?k5 ?k6 ?k7 ?k8 ?_; (case k1 => k_asm); (case k2 => k_asm); (case k3 => k_asm); (case k4 => k_asm); (case k5 => k_asm); (case k6 => first | exact rfl | assumption); (case ht => ktr_rel); (case hb => ktr_rel); (case hp => assumption); (case k7 => ktr_room); (case k8 => ktr_units)); intro r9 h9 tk9 l9 p9 S9 F9 N9; subst p9; (try dsimp only); (try k_fold); (try k_sweep)))

def PtB (p : Int) (P : Pt) : Prop := ∀ q, P = some q → 0 ≤ q.1 ∧ q.1 < p ∧ 0 ≤ q.2 ∧ q.2 < p
def oppF (p : Int) (P : Pt) : Pt := P.map fun q => (q.1, (p - q.2) % p)

theorem c_opp {w : World} {news : List (Addr × Obj)} {v : Value} {p : Int} {t : Tok} {P : Pt} (hv : PtIn news v P) (hp : PM p) :
    Tl w 1 8 news (call (.ref 258) [v, .int p t]) (fun r l => PtIn l r (oppF p P)) := by
  intro mg mb mean dp un gd cn cs a0 ccd cl outer A₀ base h₀ L m s Q E B F X N T hk hdp hun ret
  revert X; k_fill; intro X
  have hp0 := hp.1
  rcases P with _ | ⟨xv, yv⟩
  · replace hv : v = Value.none := hv
    subst hv
    refine wpAny_call ?_
    k_dflt cell_enter
    k_steps
    all_goals first
      | contradiction
      | (refine' ret _ _ _ _ ?e1 ?e2 ?e3 ?e4
         (case e3 => assumption)
         (case e4 => assumption)
         (case e2 => ktr_rel)
         (case e1 => first | exact PtIn.nil rfl | exact PtIn.mk (by k_mem) (by simp only [oppF, Option.map, fmod_emod hp])))
  · obtain ⟨av, t1v, t2v, hve, mv⟩ := hv
    subst hve
    refine wpAny_call ?_
    k_dflt cell_enter
    k_steps
    all_goals first
      | contradiction
      | (refine' ret _ _ _ _ ?e1 ?e2 ?e3 ?e4
         (case e3 => assumption)
         (case e4 => assumption)
         (case e2 => ktr_rel)
         (case e1 => first | exact PtIn.nil rfl | exact PtIn.mk (by k_mem) (by simp only [oppF, Option.map, fmod_emod hp])))

local macro_rules | `(tactic| walk_at "call ref") => `(tactic| (k_here; (with_reducible show wpAny _ _ (call (Value.ref 258) [_, Value.int _ _]) _ _ _); k_dflt (refine' Tl.use (c_opp ?hv ?hp) ?k1 ?k2 ?k3 ?k4 ?k5 ?k6 ?k7 ?k8 ?_; (case k1 => k_asm); (case k2 => k_asm); (case k3 => k_asm); (case k4 => k_asm); (case k5 => k_asm); (case k6 => first | exact rfl | assumption); (case hv => ktr_rel); (case hp => assumption); (case k7 => ktr_room); (case k8 => ktr_units)); intro r9 h9 tk9 l9 p9 S9 F9 N9; skip; (try dsimp only); (try k_fold); (try k_sweep)))

def Bd (k : Nat) (a : Int) : Prop := a.natAbs < 2 ^ k
theorem Bd.mul {j k : Nat} {a b : Int} (h : Bd j a) (h' : Bd k b) : Bd (j + k) (a * b) := by
  unfold Bd at *
  rw [Int.natAbs_mul, Nat.pow_add]
  exact Nat.mul_lt_mul'' h h'
theorem Bd.add {j k : Nat} {a b : Int} (h : Bd j a) (h' : Bd k b) : Bd (j + k + 1) (a + b) := by
  unfold Bd at *
  have h1 := Int.natAbs_add_le a b
  have h2 : 2 ^ j ≤ 2 ^ (j + k) := Nat.pow_le_pow_right (by decide) (by omega)
  have h3 : 2 ^ k ≤ 2 ^ (j + k) := Nat.pow_le_pow_right (by decide) (by omega)
  have h4 : 2 ^ (j + k + 1) = 2 ^ (j + k) * 2 := Nat.pow_succ ..
  omega
theorem Bd.sub {j k : Nat} {a b : Int} (h : Bd j a) (h' : Bd k b) : Bd (j + k + 1) (a - b) := by
  rw [Int.sub_eq_add_neg]
  exact h.add (by unfold Bd at *; rw [Int.natAbs_neg]; exact h')
theorem Bd.of {p a : Int} (hp : PM p) (h0 : 0 ≤ a) (h : a < p) : Bd 512 a := by
  have h1 := hp.2
  show a.natAbs < 2 ^ 512
  omega
theorem Bd.mod {p : Int} (hp : PM p) : Bd 512 p := by
  have h1 := hp.2
  have h0 := hp.1
  show p.natAbs < 2 ^ 512
  omega
theorem Bd.fmod {p : Int} (hp : PM p) (a : Int) : Bd 512 (a.fmod p) := by
  rw [fmod_emod hp]
  have := hp.1
  exact Bd.of hp (Int.emod_nonneg _ (by omega)) (Int.emod_lt_of_pos _ (by omega))
theorem Bd.lit {a : Int} (h : a.natAbs < 2 ^ 64) : Bd 64 a := h
theorem powMod_lt {b e m : Nat} (hm : 0 < m) : Builtin.powMod b e m < m := by
  unfold Builtin.powMod
  have : ∀ (l : List Nat) (x : Nat), x < m → l.foldl (fun p i => if e.testBit i then p * p % m * b % m else p * p % m) x < m := by
    intro l
    induction l with
    | nil => intro x hx; exact hx
    | cons i l ih =>
      intro x _
      rw [List.foldl_cons]
      apply ih
      split <;> exact Nat.mod_lt _ hm
  exact this _ _ (Nat.mod_lt _ hm)
theorem Bd.pw {p : Int} (hp : PM p) (a e : Nat) : Bd 512 (Builtin.powMod a e p.toNat : Nat) := by
  have h0 := hp.1
  have h1 := hp.2
  have h2 := powMod_lt (b := a) (e := e) (m := p.toNat) (by omega)
  show Int.natAbs _ < 2 ^ 512
  omega
theorem Bd.ok {j k : Nat} {a b : Int} (h : Bd j a) (h' : Bd k b) (hj : j ≤ 2 ^ 20 ∧ k ≤ 2 ^ 20) : IntMulOk a b := by
  have bits : ∀ {k : Nat} {a : Int}, Bd k a → k ≤ 2 ^ 20 → Builtin.Int.intBits a ≤ 2 ^ 20 := by
    intro k a h hk
    unfold Builtin.Int.intBits
    split
    · exact Nat.zero_le _
    · have : a.natAbs.log2 < k := by
        rcases Nat.eq_zero_or_pos a.natAbs with h0 | hp
        · rename_i h1; exact absurd (by rw [beq_iff_eq]; omega) h1
        · exact (Nat.log2_lt (Nat.ne_of_gt hp)).mpr h
      omega
  exact IntMulOk.of_bits (bits h hj.1) (bits h' hj.2)
local macro_rules | `(tactic| ktr_rel) => `(tactic| first | ((with_reducible show Bd _ _); first | assumption | exact Bd.fmod (by assumption) _ | exact Bd.pw (by assumption) _ _ | exact Bd.lit (by decide) | (refine' Bd.mul ?a9 ?b9; (case a9 => ktr_rel); (case b9 => ktr_rel)) | (refine' Bd.sub ?a9 ?b9; (case a9 => ktr_rel); (case b9 => ktr_rel)) | (refine' Bd.add ?a9 ?b9; (case a9 => ktr_rel); (case b9 => ktr_rel))) | fail "ktr_rel: Bd")
local macro_rules | `(tactic| mul_fits) => `(tactic| first | (refine' Bd.ok ?a9 ?b9 ?c9; (case a9 => ktr_rel); (case b9 => ktr_rel); (case c9 => decide)) | fail "mul_fits: Bd")

def formF (p : Int) (P : Pt) (s : Int) : Int × Int × Int := match P with
  | none => (s % p, s % p, 0 % p)
  | some (x, y) => (x * s % p, y * s % p, s % p)
def readsB (p : Int) (T : Int × Int × Int) (P : Pt) : Bool := match P with
  | none => T.2.2 == 0
  | some (x, y) => T.2.2 != 0 && (x * T.2.2 - T.1) % p == 0 && (y * T.2.2 - T.2.1) % p == 0
def powI (p a : Int) : Int := (Builtin.powMod (a % p).toNat (p - 2).toNat p.toNat : Nat)
def slopeF (p : Int) (x1 y1 x2 y2 : Int) : Int :=
  if x1 ≠ x2 then (y2 - y1) * powI p ((x2 - x1) % p) % p else 3 * x1 * x1 * powI p (2 * y1 % p) % p
def sumF (p : Int) (P Q : Pt) : Pt := match P, Q with
  | none, Q => Q
  | some q, none => some q
  | some (x1, y1), some (x2, y2) =>
    if x1 = x2 ∧ (y1 + y2) % p = 0 then none else
    let s := slopeF p x1 y1 x2 y2
    let x3 := (s * s - x1 - x2) % p
    some (x3, (s * (x1 - x3) - y1) % p)

theorem NewIn.lift {a b l l' own : List (Addr × Obj)} (h : NewIn b l own) (hs : Sub a b) (hl : Sub l l') : NewIn a l' own := ⟨fun p hp => hl _ (h.1 p hp), fun p hp q hq => h.2 p hp q (hs q hq)⟩
theorem NewIn.app {a l o1 o2 : List (Addr × Obj)} (h : NewIn a l o1) (k : NewIn a l o2) : NewIn a l (o1 ++ o2) :=
  ⟨fun p hp => (List.mem_append.mp hp).elim (h.1 p) (k.1 p), fun p hp => (List.mem_append.mp hp).elim (h.2 p) (k.2 p)⟩
theorem NewIn.one {a l l0 : List (Addr × Obj)} {d : Addr} {o : Obj} (hm : (d, o) ∈ l) (hlt : ∀ p ∈ l0, p.1 < d) (hs : Sub a l0) : NewIn a l [(d, o)] :=
  ⟨fun p hp => by rw [List.mem_singleton.mp hp]; exact hm, fun p hp q hq => by rw [List.mem_singleton.mp hp]; exact Nat.ne_of_lt (hlt q (hs q hq))⟩
theorem form_end {P : Params} {news l1 l2 l3 o1 o2 o3 : List (Addr × Obj)} {D x y z : Addr} {p X Y Z : Int} {T : Int × Int × Int} (N1 : NewIn news l1 o1) (S1 : Sub news l1) (N2 : NewIn l1 l2 o2) (S2 : Sub l1 l2) (N3 : NewIn l2 l3 o3) (S3 : Sub l2 l3)
    (hD : ∀ p ∈ l3, p.1 < D) (hx : FQin P o1 x p X) (hy : FQin P o2 y p Y) (hz : FQin P o3 z p Z) (e : T = (X, Y, Z)) :
    ∃ r own, Value.ref D = .ref r ∧ NewIn news ((D, tupO [.ref x, .ref y, .ref z]) :: l3) own ∧ TripIn P own r p T := by
  have c : Sub l3 ((D, tupO [.ref x, .ref y, .ref z]) :: l3) := Sub.rfl.cons
  refine ⟨D, [(D, tupO [.ref x, .ref y, .ref z])] ++ (o1 ++ (o2 ++ o3)), rfl, (NewIn.one (.head _) hD ((S1.trans S2).trans S3)).app ((N1.lift Sub.rfl ((S2.trans S3).trans c)).app ((N2.lift S1 (S3.trans c)).app (N3.lift (S1.trans S2) c))), ?_⟩
  refine TripIn.mk (.head _) (hx.mono ?_) (hy.mono ?_) (hz.mono ?_) e
  · exact fun q hq => List.mem_append_right _ (List.mem_append_left _ hq)
  · exact fun q hq => List.mem_append_right _ (List.mem_append_right _ (List.mem_append_left _ hq))
  · exact fun q hq => List.mem_append_right _ (List.mem_append_right _ (List.mem_append_right _ hq))

theorem fq_newF {w : World} {news : List (Addr × Obj)} (v p : Int) (t u : Tok) (hp : PM p) :
    Tl w 1 8 news (call (.ref 228) [.int v t, .int p u]) (fun r l => ∃ z own, r = .ref z ∧ NewIn news l own ∧ FQin w.params own z p (v % p)) := by
  intro mg mb mean dp un gd cn cs a0 ccd cl outer A₀ base h₀ L m s Q E B F X N T hk hdp hun ret
  revert X; k_fill; intro X
  have hp0 := hp.1
  refine' call_cls ?k1 ?k2 ?k3 ?k4 ?k5 ?k6 ?_
  (case k1 => k_asm)
  (case k2 => k_asm)
  (case k3 => k_asm)
  (case k4 => k_dflt k_is)
  (case k5 => k_dflt k_is)
  (case k6 => k_dflt k_is)
  intro x' d' h' F' N' l1 l2
  k_lt2 l2
  k_dflt cell_enter
  k_steps
  refine' ret _ _ _ _ ?e1 ?e2 ?e3 ?e4
  (case e3 => assumption)
  (case e4 => assumption)
  (case e2 => exact Sub.rfl.cons.cons)
  (case e1 =>
    refine ⟨_, [(x', _), (d', _)], rfl, (NewIn.one (o := instObj 228 d') (.head _) (fun p hp => Nat.lt_trans (l1 p hp) l2) Sub.rfl).app (NewIn.one (.tail _ (.head _)) l1 Sub.rfl), ?_⟩
    exact FQin.new hp (fmod_emod hp v) (.head _) (.tail _ (.head _)))

local macro_rules | `(tactic| walk_at "call ref") => `(tactic| (k_here; (with_reducible show wpAny _ _ (call (Value.ref 228) [Value.int _ _, Value.int _ _]) _ _ _); k_dflt (refine' Tl.use (fq_newF _ _ _ _ ?hp) ?k1 ?k2 ?k3 ?k4 ?k5 ?k6 ?k7 ?k8 ?_; (case k1 => k_asm); (case k2 => k_asm); (case k3 => k_asm); (case k4 => k_asm); (case k5 => k_asm); (case k6 => first | exact rfl | assumption); (case hp => assumption); (case k7 => ktr_room); (case k8 => ktr_units)); intro r9 h9 tk9 l9 p9 S9 F9 N9; obtain ⟨x9, own9, hr9, ho9, hy9⟩ := p9; subst hr9; have hx9 := FQin.mono hy9 (NewIn.sub ho9); (try dsimp only); (try k_fold); (try k_sweep)))
theorem c_form {w : World} {news : List (Addr × Obj)} {v : Value} {p k : Int} {t u : Tok} {P : Pt} (hv : PtIn news v P) (hBv : PtB p P) (hk0 : Bd 512 k) (hp : PM p) :
    Tl w 2 16 news (call (.ref 272) [v, .int k t, .int p u]) (fun r l => ∃ z own, r = .ref z ∧ NewIn news l own ∧ TripIn w.params own z p (formF p P k)) := by
  intro mg mb mean dp un gd cn cs a0 ccd cl outer A₀ base h₀ L m s Q E B F X N T hk hdp hun ret
  revert X; k_fill; intro X
  rcases P with _ | ⟨xv, yv⟩
  · replace hv : v = Value.none := hv
    subst hv
    refine wpAny_call ?_
    k_dflt cell_enter
    k_steps
    all_goals first
      | contradiction
      | (refine' ret _ _ _ _ ?e1 ?e2 ?e3 ?e4
         (case e3 => assumption)
         (case e4 => assumption)
         (case e2 => ktr_rel)
         (case e1 => first | exact form_end (by assumption) (by assumption) (by assumption) (by assumption) (by assumption) (by assumption) (by assumption) (by assumption) (by assumption) (by assumption) rfl))
  · obtain ⟨av, t1v, t2v, hve, mv⟩ := hv
    subst hve
    have bv := Bd.of hp (hBv _ rfl).1 (hBv _ rfl).2.1
    have cv := Bd.of hp (hBv _ rfl).2.2.1 (hBv _ rfl).2.2.2
    dsimp only at bv cv
    refine wpAny_call ?_
    k_dflt cell_enter
    k_steps
    all_goals first
      | contradiction
      | (refine' ret _ _ _ _ ?e1 ?e2 ?e3 ?e4
         (case e3 => assumption)
         (case e4 => assumption)
         (case e2 => ktr_rel)
         (case e1 => first | exact form_end (by assumption) (by assumption) (by assumption) (by assumption) (by assumption) (by assumption) (by assumption) (by assumption) (by assumption) (by assumption) rfl))

local macro_rules | `(tactic| walk_at "call ref") => `(tactic| (k_here; (with_reducible show wpAny _ _ (call (Value.ref 272) [_, Value.int _ _, Value.int _ _]) _ _ _); k_dflt (refine' Tl.use (c_form ?hv ?hB ?hk ?hp) ?k1 ?k2 ?k3 ?k4 ?k5 ?k6 ?k7 ?k8 ?_; (case k1 => k_asm); (case k2 => k_asm); (case k3 => k_asm); (case k4 => k_asm); (case k5 => k_asm); (case k6 => first | exact rfl | assumption); (case hv => ktr_rel); (case hB => assumption); (case hk => ktr_rel); (case hp => assumption); (case k7 => ktr_room); (case k8 => ktr_units)); intro r9 h9 tk9 l9 p9 S9 F9 N9; obtain ⟨x9, own9, hr9, ho9, hy9⟩ := p9; subst hr9; have hx9 := TripIn.mono hy9 (NewIn.sub ho9); (try dsimp only); (try k_fold); (try k_sweep)))

theorem reads_some {p x y : Int} {T : Int × Int × Int} (h : readsB p T (some (x, y)) = true) : T.2.2 ≠ 0 ∧ (x * T.2.2 - T.1) % p = 0 ∧ (y * T.2.2 - T.2.1) % p = 0 := by
  simpa only [readsB, Bool.and_eq_true, bne_iff_ne, ne_eq, beq_iff_eq, and_assoc] using h
theorem FQin.bd {P : Params} {l : List (Addr × Obj)} {x : Addr} {p v : Int} (h : FQin P l x p v) (hp : PM p) : Bd 512 v := Bd.of hp h.lo h.hi
theorem bne_true_of {a b : Int} (h : a ≠ b) : Value.bool (a != b) = Value.bool true := by rw [bne_iff_ne.mpr h]
theorem beq_true_of {a b : Int} (h : a = b) : Value.bool (a == b) = Value.bool true := by subst h; simp

theorem c_reads {w : World} {news : List (Addr × Obj)} {a : Addr} {v : Value} {p : Int} {t : Tok} {P : Pt} {T : Int × Int × Int} (ht : TripIn w.params news a p T) (hv : PtIn news v P) (hBv : PtB p P) (hr : readsB p T P = true) (hp : PM p) :
    Tl w 2 16 news (call (.ref 279) [.ref a, v, .int p t]) (fun r _ => r = .bool true) := by
  intro mg mb mean dp un gd cn cs a0 ccd cl outer A₀ base h₀ L m s Q E B F X N T hk hdp hun ret
  revert X; k_fill; intro X
  obtain ⟨xht, yht, zht, mht, hxht, hyht, hzht⟩ := id ht
  obtain ⟨dxhxht, t1hxht, t2hxht, uhxht, thxht, i1hxht, i2hxht, i3hxht, i4hxht⟩ := id hxht
  obtain ⟨dxhyht, t1hyht, t2hyht, uhyht, thyht, i1hyht, i2hyht, i3hyht, i4hyht⟩ := id hyht
  obtain ⟨dxhzht, t1hzht, t2hzht, uhzht, thzht, i1hzht, i2hzht, i3hzht, i4hzht⟩ := id hzht
  have bz := hzht.bd hp
  rcases P with _ | ⟨xv, yv⟩
  · replace hv : v = Value.none := hv
    subst hv
    refine wpAny_call ?_
    k_dflt cell_enter
    k_steps
    all_goals first
      | contradiction
      | (refine' ret _ _ _ _ ?e1 ?e2 ?e3 ?e4
         (case e3 => assumption)
         (case e4 => assumption)
         (case e2 => ktr_rel)
         (case e1 => first | exact beq_true_of ((fmod_emod hp _).trans (by assumption)) | exact beq_true_of (by assumption) | exact beq_true_of (by simpa only [readsB, beq_iff_eq] using hr) | exact bne_true_of (by assumption)))
  · obtain ⟨av, t1v, t2v, hve, mv⟩ := hv
    subst hve
    have bv := Bd.of hp (hBv _ rfl).1 (hBv _ rfl).2.1
    have cv := Bd.of hp (hBv _ rfl).2.2.1 (hBv _ rfl).2.2.2
    dsimp only at bv cv
    obtain ⟨r1, r2, r3⟩ := reads_some hr
    refine wpAny_call ?_
    k_dflt cell_enter
    k_steps
    all_goals first
      | contradiction
      | (refine' ret _ _ _ _ ?e1 ?e2 ?e3 ?e4
         (case e3 => assumption)
         (case e4 => assumption)
         (case e2 => ktr_rel)
         (case e1 => first | exact beq_true_of ((fmod_emod hp _).trans (by assumption)) | exact beq_true_of (by assumption) | exact beq_true_of (by simpa only [readsB, beq_iff_eq] using hr) | exact bne_true_of (by assumption)))

local macro_rules | `(tactic| walk_at "call ref") => `(tactic| (k_here; (with_reducible show wpAny _ _ (call (Value.ref 279) [Value.ref _, _, Value.int _ _]) _ _ _); k_dflt (refine' Tl.use (c_reads ?ht ?hv ?hB ?hr ?hp) ?k1 ?k2 ?k3 ?k4 ?k5 ?k6 ?k7 ?k8 ?_; (case k1 => k_asm); (case k2 => k_asm); (case k3 => k_asm); (case k4 => k_asm); (case k5 => k_asm); (case k6 => first | exact rfl | assumption); (case ht => ktr_rel); (case hv => ktr_rel); (case hB => assumption); (case hr => assumption); (case hp => assumption); (case k7 => ktr_room); (case k8 => ktr_units)); intro r9 h9 tk9 l9 p9 S9 F9 N9; subst p9; (try dsimp only); (try k_fold); (try k_sweep)))

section
variable {p x1 y1 x2 y2 : Int} (hp : PM p)
include hp
theorem sum_opp (h : x1 = x2) (h2 : (y1 + y2).fmod p = 0) : sumF p (some (x1, y1)) (some (x2, y2)) = none := by
  rw [fmod_emod hp] at h2
  simp only [sumF, h, h2, and_self, if_true]
theorem sum_gen (h : x1 ≠ x2) : sumF p (some (x1, y1)) (some (x2, y2)) =
    (let s := ((y2 - y1) * (Builtin.powMod ((x2 - x1).fmod p % p).toNat (p - 2).toNat p.toNat : Nat)).fmod p
     let x3 := (s * s - x1 - x2).fmod p
     some (x3, (s * (x1 - x3) - y1).fmod p)) := by
  simp only [sumF, slopeF, powI, h, ne_eq, not_false_eq_true, false_and, if_false, if_true, fmod_emod hp]
theorem sum_dbl (h : x1 = x2) (h2 : (y1 + y2).fmod p ≠ 0) : sumF p (some (x1, y1)) (some (x2, y2)) =
    (let s := (3 * x1 * x1 * (Builtin.powMod ((2 * y1).fmod p % p).toNat (p - 2).toNat p.toNat : Nat)).fmod p
     let x3 := (s * s - x1 - x2).fmod p
     some (x3, (s * (x1 - x3) - y1).fmod p)) := by
  rw [fmod_emod hp] at h2
  simp only [sumF, slopeF, powI, h, h2, ne_eq, not_true_eq_false, and_false, if_false, fmod_emod hp]
end

theorem c_sum {w : World} {news : List (Addr × Obj)} {v z : Value} {p : Int} {t : Tok} {P Q' : Pt} (hv : PtIn news v P) (hz : PtIn news z Q') (hBv : PtB p P) (hBz : PtB p Q') (hp : PM p) :
    Tl w 1 8 news (call (.ref 265) [v, z, .int p t]) (fun r l => PtIn l r (sumF p P Q')) := by
  intro mg mb mean dp un gd cn cs a0 ccd cl outer A₀ base h₀ L m s Q E B F X N T hk hdp hun ret
  revert X; k_fill; intro X
  have hp1 := hp.1
  have hp0 : 0 < p := by omega
  have hp2 : 0 ≤ p - 2 := by omega
  rcases P with _ | ⟨xv, yv⟩
  · replace hv : v = Value.none := hv
    subst hv
    rcases Q' with _ | ⟨xz, yz⟩
    · replace hz : z = Value.none := hz
      subst hz
      refine wpAny_call ?_
      k_dflt cell_enter
      k_steps
      all_goals first
        | contradiction
        | (refine' ret _ _ _ _ ?e1 ?e2 ?e3 ?e4
           (case e3 => assumption)
           (case e4 => assumption)
           (case e2 => ktr_rel)
           (case e1 => first | exact PtIn.nil (by first | rfl | exact sum_opp hp (by assumption) (by assumption)) | exact PtIn.mk (by k_mem) (by first | rfl | exact sum_gen hp (by assumption) | exact sum_dbl hp (by assumption) (by assumption))))
    · obtain ⟨az, t1z, t2z, hze, mz⟩ := hz
      subst hze
      have bz := Bd.of hp (hBz _ rfl).1 (hBz _ rfl).2.1
      have cz := Bd.of hp (hBz _ rfl).2.2.1 (hBz _ rfl).2.2.2
      dsimp only at bz cz
      refine wpAny_call ?_
      k_dflt cell_enter
      k_steps
      all_goals first
        | contradiction
        | (refine' ret _ _ _ _ ?e1 ?e2 ?e3 ?e4
           (case e3 => assumption)
           (case e4 => assumption)
           (case e2 => ktr_rel)
           (case e1 => first | exact PtIn.nil (by first | rfl | exact sum_opp hp (by assumption) (by assumption)) | exact PtIn.mk (by k_mem) (by first | rfl | exact sum_gen hp (by assumption) | exact sum_dbl hp (by assumption) (by assumption))))
  · obtain ⟨av, t1v, t2v, hve, mv⟩ := hv
    subst hve
    rcases Q' with _ | ⟨xz, yz⟩
    · replace hz : z = Value.none := hz
      subst hz
      have bv := Bd.of hp (hBv _ rfl).1 (hBv _ rfl).2.1
      have cv := Bd.of hp (hBv _ rfl).2.2.1 (hBv _ rfl).2.2.2
      dsimp only at bv cv
      refine wpAny_call ?_
      k_dflt cell_enter
      k_steps
      all_goals first
        | contradiction
        | (refine' ret _ _ _ _ ?e1 ?e2 ?e3 ?e4
           (case e3 => assumption)
           (case e4 => assumption)
           (case e2 => ktr_rel)
           (case e1 => first | exact PtIn.nil (by first | rfl | exact sum_opp hp (by assumption) (by assumption)) | exact PtIn.mk (by k_mem) (by first | rfl | exact sum_gen hp (by assumption) | exact sum_dbl hp (by assumption) (by assumption))))
    · obtain ⟨az, t1z, t2z, hze, mz⟩ := hz
      subst hze
      have bv := Bd.of hp (hBv _ rfl).1 (hBv _ rfl).2.1
      have cv := Bd.of hp (hBv _ rfl).2.2.1 (hBv _ rfl).2.2.2
      dsimp only at bv cv
      have bz := Bd.of hp (hBz _ rfl).1 (hBz _ rfl).2.1
      have cz := Bd.of hp (hBz _ rfl).2.2.1 (hBz _ rfl).2.2.2
      dsimp only at bz cz
      refine wpAny_call ?_
      k_dflt cell_enter
      k_steps
      all_goals first
        | contradiction
        | (refine' ret _ _ _ _ ?e1 ?e2 ?e3 ?e4
           (case e3 => assumption)
           (case e4 => assumption)
           (case e2 => ktr_rel)
           (case e1 => first | exact PtIn.nil (by first | rfl | exact sum_opp hp (by assumption) (by assumption)) | exact PtIn.mk (by k_mem) (by first | rfl | exact sum_gen hp (by assumption) | exact sum_dbl hp (by assumption) (by assumption))))

local macro_rules | `(tactic| walk_at "call ref") => `(tactic| (k_here; (with_reducible show wpAny _ _ (call (Value.ref 265) [_, _, Value.int _ _]) _ _ _); k_dflt (refine' Tl.use (c_sum ?hv ?hz ?hB ?hB2 ?hp) ?k1 ?k2 ?k3 ?k4 ?k5 ?k6 ?k7 ?k8 ?_; (case k1 => k_asm); (case k2 => k_asm); (case k3 => k_asm); (case k4 => k_asm); (case k5 => k_asm); (case k6 => first | exact rfl | assumption); (case hv => ktr_rel); (case hz => ktr_rel); (case hB => assumption); (case hB2 => assumption); (case hp => assumption); (case k7 => ktr_room); (case k8 => ktr_units)); intro r9 h9 tk9 l9 p9 S9 F9 N9; skip; (try dsimp only); (try k_fold); (try k_sweep)))

theorem ne_of_all2 {d e : Addr} {l : List (Addr × Obj)} (h : ∀ p ∈ l, p.1 < e) (he : e ≤ d) : ∀ p ∈ l, p.1 ≠ d := fun p hp => Nat.ne_of_lt (Nat.lt_of_lt_of_le (h p hp) he)
local macro_rules | `(tactic| k_all) => `(tactic| first | (refine ne_of_all2 (by assumption) ?_; first | exact Nat.le_refl _ | exact Nat.le_succ _ | exact Nat.le_add_right _ _ | (dsimp only; omega)) | fail "k_all")
local macro_rules | `(tactic| walk_at "subscriptTail") => `(tactic| (k_here; (with_reducible show wpAny _ _ (subscriptTail _ _ (Value.ref _) (Value.int _ _)) _ _ _); k_dflt (refine' item_list_ints ?k1 ?k2 ?k3 ?k4 ?k5 ?_; (case k1 => exact News.isList (by k_asm) (by k_mem)); (case k2 => l_ints); (case k3 => omega); (case k4 => first | omega | (simp only [List.length_cons, List.length_nil]; omega)); (case k5 => omega); k_whole); intro _))

def G1 : Int := 4002409555221667393417789825735904156556882819939007885332058136124031650490837864442687629129015664037894272559787
def G2 : Int := 21888242871839275222246405745257275088696311157297823662689037894645226208583

theorem c_great {w : World} {news : List (Addr × Obj)}  :
    Tl w 1 8 news (call (.ref 239) []) (fun r l => ∃ a t1 t2 k, r = .ref a ∧ (a, ({ cls := .type "list", data := .seq [Value.int G1 t1, Value.int G2 t2].toArray k } : Obj)) ∈ l) := by
  intro mg mb mean dp un gd cn cs a0 ccd cl outer A₀ base h₀ L m s Q E B F X N T hk hdp hun ret
  revert X; k_fill; intro X
  refine wpAny_call ?_
  k_dflt cell_enter
  k_steps
  all_goals first
    | contradiction
    | (refine' ret _ _ _ _ ?e1 ?e2 ?e3 ?e4
       (case e3 => assumption)
       (case e4 => assumption)
       (case e2 => ktr_rel)
       (case e1 => first | exact ⟨_, _, _, _, rfl, by k_mem⟩))

local macro_rules | `(tactic| walk_at "call ref") => `(tactic| (k_here; (with_reducible show wpAny _ _ (call (Value.ref 239) _) _ _ _); k_dflt (refine' Tl.use (c_great) ?k1 ?k2 ?k3 ?k4 ?k5 ?k6 ?k7 ?k8 ?_; (case k1 => k_asm); (case k2 => k_asm); (case k3 => k_asm); (case k4 => k_asm); (case k5 => k_asm); (case k6 => first | exact rfl | assumption); (case k7 => ktr_room); (case k8 => ktr_units)); intro r9 h9 tk9 l9 p9 S9 F9 N9; obtain ⟨a9, t9a, t9b, k9, hr9, hx9⟩ := p9; subst hr9; (try dsimp only); (try k_fold); (try k_sweep)))

def GoodP (q : Int) : Prop := q = G1 ∨ q = G2 ∨ (7 ≤ q ∧ q ≤ 1019 ∧ q % 4 = 3 ∧ ∀ i : Nat, i < 15 → ¬ (3 + (i : Int) * 2 < q ∧ q.fmod (3 + (i : Int) * 2) = 0))
theorem great_getD {y : Int} (h0 : 0 ≤ y) (h3 : y < 3) (h2 : y ≠ 2) : GoodP ([G1, G2].getD y.toNat 0) := by
  have : y = 0 ∨ y = 1 := by omega
  rcases this with rfl | rfl
  · exact .inl rfl
  · exact .inr (.inl rfl)
theorem not1019 {f : Int} {ys : List Value} (hy : ys = [] ↔ ∀ i : Nat, i < 15 → decide (3 + (i : Int) * 2 < f ∧ f.fmod (3 + (i : Int) * 2) = 0) = false) (he : ys.isEmpty = false) : f ≠ 1019 := by
  rintro rfl
  rw [hy.mpr (by decide)] at he
  cases he
theorem no_div {f : Int} {ys : List Value} (hy : ys = [] ↔ ∀ i : Nat, i < 15 → decide (3 + (i : Int) * 2 < f ∧ f.fmod (3 + (i : Int) * 2) = 0) = false) (he : ys.isEmpty = true) :
    ∀ i : Nat, i < 15 → ¬ (3 + (i : Int) * 2 < f ∧ f.fmod (3 + (i : Int) * 2) = 0) :=
  fun i hi => of_decide_eq_false (hy.mp (List.isEmpty_iff.mp he) i hi)
def WJ (c : Addr) (tl : List (Addr × Obj)) (n : Nat) (_m₁ : Str → Option Value) (news₁ : List (Addr × Obj)) : Prop :=
  ∃ o f t, news₁ = (c, o) :: tl ∧ o.data = .cell (some (.int f t)) ∧ 7 ≤ f ∧ f ≤ 1019 ∧ f % 4 = 3 ∧ n = (1019 - f).toNat
def Stop (P : Prop) : Prop := P
theorem stop_of {P : Prop} (h : Stop P) : P := h
section
local macro_rules | `(tactic| walk_at "last exec While") => `(tactic| refine stop_of ?_)
local macro_rules | `(tactic| walk_at "eval ListComp") => `(tactic| (k_here; k_dflt (refine lc_step (F₀ := by k_asm) (by with_unfolding_all rfl) (by decide) (by rfl) (by decide) (by rfl) ?_)))

theorem c_prime {w : World} {news : List (Addr × Obj)} (x : Int) (t : Tok) (h0 : 0 ≤ x) :
    Tl w 2 16 news (call (.ref 244) [.int x t]) (fun r l => ∃ q u, r = .int q u ∧ GoodP q) := by
  intro mg mb mean dp un gd cn cs a0 ccd cl outer A₀ base h₀ L m s Q E B F X N T hk hdp hun ret
  revert X; k_fill; intro X
  have hf1 := fmod_lo x (n := 3) (by decide)
  have hf2 := fmod_hi x (n := 3) (by decide)
  have hf3 := fmod_lo (x.fdiv 3) (n := 250) (by decide)
  have hf4 := fmod_hi (x.fdiv 3) (n := 250) (by decide)
  refine wpAny_call ?_
  k_dflt (refine' code_defC ?k1 ?k2 ?k3 ?k4 ?k5 ?kA ?kF ?kK ?k6 ?k7 ?k8 ?k9 ?kB ?kD ?_ ?c2 ?c3 ?c4; (case kA => exact rfl); (case kF => exact rfl); (case kK => assumption); (case k1 => k_asm); (case k2 => k_asm); (case k3 => k_asm); (case k4 => k_asm); (case k5 => k_asm); (case k6 => k_is); (case k7 => k_is); (case k8 => ktr_room); (case k9 => exact BindsTo.of_eq rfl); (case kB => exact rfl); (case kD => decide +kernel); (case c2 => exact rfl); (case c3 => exact rfl); (case c4 => exact rfl); k_whole; intro g' L' h' tk' cells' FG' F' N' Y' B' X' T' l1; k_cells Y'; (try simp only [List.cons_append, List.nil_append] at N'); (try dsimp only); (try k_fold))
  k_steps
  · refine' ret _ _ _ _ ?e1 ?e2 ?e3 ?e4
    (case e3 => assumption)
    (case e4 => assumption)
    (case e2 => ktr_rel)
    (case e1 => exact ⟨_, _, rfl, great_getD hf1 hf2 (by assumption)⟩)
  · unfold Stop
    refine' While_inv2 (WJ (L' + 1) news) (n₀ := (1019 - (7 + 4 * (x.fdiv 3).fmod 250)).toNat) ?F ?N ?hJ ?turn
    (case F => k_asm)
    (case N => k_asm)
    (case hJ => exact ⟨_, _, _, rfl, by assumption, by omega, by omega, by omega, rfl⟩)
    intro n₁ m₁ news₁ h₁ tk₁ F₁ N₁ J₁
    obtain ⟨o₁, f₁, t₁, rfl, hd₁, hf7, hf19, hf4, rfl⟩ := J₁
    try k_fold
    k_steps
    refine ⟨_, _, _, _, _, _, _, 15, _, rfl, rfl, by assumption, by assumption, by assumption, by decide, by decide, by decide, ?_⟩
    rintro _ ⟨g₂, rfl⟩
    refine rest_filter (fun k => decide (k < f₁ ∧ f₁.fmod k = 0)) ?_ ?_
    · intro i t2 I oI C oC D m₂ ys h2 tk2 E' hi hC hx F2 N2
      have hk3 : (3 : Int) ≤ 3 + (i : Int) * 2 := by omega
      have hk0 : (0 : Int) < 3 + (i : Int) * 2 := by omega
      generalize (3 + (i : Int) * 2) = k at *
      k_steps
      all_goals first
        | exact (decide_eq_true ⟨by assumption, by assumption⟩).symm
        | exact (decide_eq_false (fun h => absurd h.2 (by assumption))).symm
        | exact (decide_eq_false (fun h => absurd h.1 (by assumption))).symm
        | exact ⟨_, _, rfl, by assumption, by assumption⟩
    · intro ys hy hl D h2 tk2 F2 N2 o2
      have hne := o2.1
      dsimp only at hne
      k_steps
      · refine' ret _ _ _ _ ?e1 ?e2 ?e3 ?e4
        (case e3 => assumption)
        (case e4 => assumption)
        (case e2 => exact Sub.rfl.cons.cons)
        (case e1 => exact ⟨_, _, rfl, .inr (.inr ⟨hf7, hf19, hf4, no_div hy (by assumption)⟩)⟩)
      · have h19 := not1019 hy (by assumption)
        refine ⟨_, _, _, (L' + 1, _) :: news, (1019 - (f₁ + 4)).toNat, rfl, by assumption, ?_, by omega, ⟨_, _, _, rfl, by assumption, by omega, by omega, by omega, rfl⟩⟩
        exact cb_drop (by assumption) Sub.rfl.cons

local macro_rules | `(tactic| walk_at "call ref") => `(tactic| (k_here; (with_reducible show wpAny _ _ (call (Value.ref 244) _) _ _ _); k_dflt (refine' Tl.use (c_prime _ _ ?h0) ?k1 ?k2 ?k3 ?k4 ?k5 ?k6 ?k7 ?k8 ?_; (case k1 => k_asm); (case k2 => k_asm); (case k3 => k_asm); (case k4 => k_asm); (case k5 => k_asm); (case k6 => first | exact rfl | assumption); (case h0 => first | assumption | omega); (case k7 => ktr_room); (case k8 => ktr_units)); intro r9 h9 tk9 l9 p9 S9 F9 N9; obtain ⟨q9, u9, hr9, hx9⟩ := p9; subst hr9; (try dsimp only); (try k_fold); (try k_sweep)))
end
local macro_rules | `(tactic| walk_at "call ref") => `(tactic| (k_here; (with_reducible show wpAny _ _ (call (Value.ref 244) _) _ _ _); k_dflt (refine' Tl.use (c_prime _ _ ?h0) ?k1 ?k2 ?k3 ?k4 ?k5 ?k6 ?k7 ?k8 ?_; (case k1 => k_asm); (case k2 => k_asm); (case k3 => k_asm); (case k4 => k_asm); (case k5 => k_asm); (case k6 => first | exact rfl | assumption); (case h0 => first | assumption | omega); (case k7 => ktr_room); (case k8 => ktr_units)); intro r9 h9 tk9 l9 p9 S9 F9 N9; obtain ⟨q9, u9, hr9, hx9⟩ := p9; subst hr9; (try dsimp only); (try k_fold); (try k_sweep)))

def OnC (p b : Int) (P : Pt) : Prop := ∀ q, P = some q → 0 ≤ q.1 ∧ q.1 < p ∧ 0 ≤ q.2 ∧ q.2 < p ∧ (q.2 * q.2) % p = (q.1 ^ 3 + b) % p

theorem onC_none {p b : Int} : OnC p b none := fun _ h => nomatch h
section
variable {p a b : Int} {A B : Nat} (hp : PM p) (h0 : 0 ≤ a) (h1 : a < p) (hs : ((Builtin.powMod A B p.toNat : Nat) * (Builtin.powMod A B p.toNat : Nat) : Int).fmod p = (a ^ 3 + b).fmod p)
include hp h0 h1 hs
theorem onC1 : OnC p b (some (a, (Builtin.powMod A B p.toNat : Nat))) := by
  rintro q ⟨⟩
  have := hp.1
  have hl := powMod_lt (b := A) (e := B) (m := p.toNat) (by omega)
  rw [fmod_emod hp, fmod_emod hp] at hs
  exact ⟨h0, h1, by dsimp only; omega, by dsimp only; omega, hs⟩
theorem onC2 : OnC p b (some (a, (p - (Builtin.powMod A B p.toNat : Nat)).fmod p)) := by
  rintro q ⟨⟩
  have := hp.1
  rw [fmod_emod hp, fmod_emod hp] at hs
  rw [fmod_emod hp]
  refine ⟨h0, h1, Int.emod_nonneg _ (by omega), Int.emod_lt_of_pos _ (by omega), ?_⟩
  dsimp only
  rw [← hs, ← Int.mul_emod]
  generalize ((Builtin.powMod A B p.toNat : Nat) : Int) = h
  have e : (p - h) * (p - h) = h * h + p * (p - 2 * h) := by grind
  rw [e, Int.add_mul_emod_self_left]
end
theorem fmod_in {p : Int} (hp : PM p) (a : Int) : 0 ≤ a.fmod p ∧ a.fmod p < p := by
  have := hp.1
  exact ⟨fmod_lo a (by omega), fmod_hi a (by omega)⟩
theorem bits_bd {k : Nat} {a : Int} (h : Bd k a) : Builtin.Int.intBits a ≤ k := by
  unfold Builtin.Int.intBits
  split
  · exact Nat.zero_le _
  · have : a.natAbs.log2 < k := by
      rcases Nat.eq_zero_or_pos a.natAbs with h0 | hp
      · rename_i h1; exact absurd (by rw [beq_iff_eq]; omega) h1
      · exact (Nat.log2_lt (Nat.ne_of_gt hp)).mpr h
    omega
theorem pow_cube {prog : Program} {w : World} {A : Around} {E : Value → Shared → Prop} {s : Shared} {a : Int} {t u : Tok} {Q : Value → Shared → Prop} (h0 : 0 ≤ a) (hb : Bd 512 a)
    (h : Q (.int (a ^ 3) s.toks) { s with toks := s.toks + 1 }) : wpAny (model prog w) A (binaryOp .Pow (.int a t) (.int 3 u)) Q E s := by
  by_cases h1 : (a == 0 || a == 1) = true
  · refine PySem.AutoIntOps.pow_1 (by decide) (by decide) h1 ?_
    have e : a = a ^ 3 := by
      rw [Bool.or_eq_true, beq_iff_eq, beq_iff_eq] at h1
      rcases h1 with rfl | rfl <;> rfl
    rw [← e] at h
    exact h
  · refine PySem.AutoIntOps.pow_4 (by decide) (by decide) h1 ?_ ?_ h
    · rw [beq_iff_eq]; omega
    · have := bits_bd hb
      unfold Builtin.Int.intTooBig
      rw [decide_eq_true_eq]
      unfold bitsLine
      omega
local macro_rules | `(tactic| walk_at "binaryOp Pow int int") => `(tactic| (k_here; (with_reducible show wpAny _ _ (binaryOp _ (Value.int _ _) (Value.int _ _)) _ _ _); k_dflt (refine' pow_cube ?a9 ?b9 ?_; (case a9 => first | assumption | omega); (case b9 => first | assumption | exact Bd.of (by assumption) (by omega) (by omega))); (try dsimp only)))

theorem c_point {w : World} {news : List (Addr × Obj)} (x : Int) (t : Tok) (h0 : 0 ≤ x) (b : Int) (tb : Tok) (p : Int) (tp : Tok) (hp : PM p) :
    Tl w 2 16 news (call (.ref 251) [.int x t, .int b tb, .int p tp]) (fun r l => ∃ P own, NewIn news l own ∧ PtIn own r P ∧ OnC p b P) := by
  intro mg mb mean dp un gd cn cs a0 ccd cl outer A₀ base h₀ L m s Q E B F X N T hk hdp hun ret
  revert X; k_fill; intro X
  have hp1 := hp.1
  have hp0 : 0 < p := by omega
  have hpm := Bd.mod hp
  have hq4 : 0 ≤ (p + 1).fdiv 4 := Int.fdiv_nonneg (by omega) (by decide)
  (k_with "pyIter ref" => k_state_given ["prime"] (fun pr pre place => 0 ≤ place ∧ place < pr) "place")
  (k_with "state" => exact fmod_in (by assumption) _)
  refine wpAny_call ?_
  k_dflt cell_enter
  k_steps
  all_goals
    refine' ret _ _ _ _ ?e1 ?e2 ?e3 ?e4
    (case e3 => assumption)
    (case e4 => assumption)
    (case e2 => first | exact Sub.rfl | exact fun q hq => List.mem_cons_of_mem _ (List.mem_append_left _ hq) | exact fun q hq => List.mem_append_left _ hq)
    (case e1 => first
      | exact ⟨none, [], NewIn.nil, PtIn.nil rfl, onC_none⟩
      | exact ⟨_, _, NewIn.one (.head _) (by assumption) (fun q hq => List.mem_append_left _ hq), PtIn.mk (.head _) rfl, onC1 hp (by assumption) (by assumption) (by assumption)⟩
      | exact ⟨_, _, NewIn.one (.head _) (by assumption) (fun q hq => List.mem_append_left _ hq), PtIn.mk (.head _) rfl, onC2 hp (by assumption) (by assumption) (by assumption)⟩)

local macro_rules | `(tactic| walk_at "call ref") => `(tactic| (k_here; (with_reducible show wpAny _ _ (call (Value.ref 251) _) _ _ _); k_dflt (refine' Tl.use (c_point _ _ ?h0 _ _ _ _ ?hp) ?k1 ?k2 ?k3 ?k4 ?k5 ?k6 ?k7 ?k8 ?_; (case k1 => k_asm); (case k2 => k_asm); (case k3 => k_asm); (case k4 => k_asm); (case k5 => k_asm); (case k6 => first | exact rfl | assumption); (case h0 => first | assumption | omega); (case hp => assumption); (case k7 => ktr_room); (case k8 => ktr_units)); intro r9 h9 tk9 l9 p9 S9 F9 N9; obtain ⟨P9, own9, ho9, hv9, hc9⟩ := p9; (try dsimp only); (try k_fold); (try k_sweep)))

section
local macro_rules | `(tactic| walk_at "eval ListComp") => `(tactic| (k_here; k_dflt (refine lc_tuple (_F₀ := by k_asm) (by with_unfolding_all rfl) (by decide) (by rfl) (by decide) (by rfl) ?_)))
structure Given (gs : List Int) : Prop where
  len : gs.length = 9
  nonneg : ∀ i : Nat, 0 ≤ gs.getD i 0
structure Sums (p b : Int) : Prop where
  sum : ∀ P Q, OnC p b P → OnC p b Q → OnC p b (sumF p P Q)
  opp : ∀ P, OnC p b P → OnC p b (oppF p P)
theorem points_end {l : List (Addr × Obj)} {a : Addr} {k : Nat} {v1 v2 v3 : Value} {P1 P2 P3 : Pt} {p b : Int} (m : (a, ({ cls := .type "list", data := .seq [v1, v2, v3].toArray k } : Obj)) ∈ l) (h1 : PtIn l v1 P1) (h2 : PtIn l v2 P2) (h3 : PtIn l v3 P3) (c1 : OnC p b P1) (c2 : OnC p b P2) (c3 : OnC p b P3) :
    ∃ a' k v1 v2 v3 P1 P2 P3, Value.ref a = .ref a' ∧ (a', ({ cls := .type "list", data := .seq [v1, v2, v3].toArray k } : Obj)) ∈ l ∧ PtIn l v1 P1 ∧ PtIn l v2 P2 ∧ PtIn l v3 P3 ∧ OnC p b P1 ∧ OnC p b P2 ∧ OnC p b P3 :=
  ⟨a, k, v1, v2, v3, P1, P2, P3, rfl, m, h1, h2, h3, c1, c2, c3⟩
theorem OnC.ptb {p b : Int} {P : Pt} (h : OnC p b P) : PtB p P := fun q hq => let ⟨a, b, c, d, _⟩ := h q hq; ⟨a, b, c, d⟩

local macro_rules | `(tactic| walk_at "call ref") => `(tactic| (k_here; (with_reducible show wpAny _ _ (call (Value.ref 251) _) _ _ _); k_dflt (refine' Tl.use (c_point _ _ ?h0 _ _ _ _ ?hp) ?k1 ?k2 ?k3 ?k4 ?k5 ?k6 ?k7 ?k8 ?_; (case k1 => k_asm); (case k2 => k_asm); (case k3 => k_asm); (case k4 => k_asm); (case k5 => k_asm); (case k6 => first | exact rfl | assumption); (case h0 => first | assumption | exact Given.nonneg (by assumption) _); (case hp => assumption); (case k7 => ktr_room); (case k8 => ktr_units)); intro r9 h9 tk9 l9 p9 S9 F9 N9; obtain ⟨P9, own9, ho9, hv9, hc9⟩ := p9; (try dsimp only); (try k_fold); (try k_sweep)))

theorem mod_known {prog : Program} {w : World} {A : Around} {E : Value → Shared → Prop} {s : Shared} {a b c : Int} {t u : Tok} {Q : Value → Shared → Prop} (h : a.fmod b = c) (hb : b ≠ 0) (hq : Q (.int c s.toks) { s with toks := s.toks + 1 }) :
    wpAny (model prog w) A (binaryOp .Mod (.int a t) (.int b u)) Q E s := by subst h; exact mod_int' hb hq
local macro_rules | `(tactic| walk_at "binaryOp Mod int int") => `(tactic| (k_here; (with_reducible show wpAny _ _ (binaryOp _ (Value.int _ _) (Value.int _ _)) _ _ _); k_dflt (refine' mod_known ?h9 ?b9 ?_; (case h9 => assumption); (case b9 => decide)); (try dsimp only)))

local macro_rules | `(tactic| walk_at "call ref") => `(tactic| (k_here; (with_reducible show wpAny _ _ (call (Value.ref 265) [_, _, Value.int _ _]) _ _ _); k_dflt (refine' Tl.use (c_sum ?hv ?hz ?hB ?hB2 ?hp) ?k1 ?k2 ?k3 ?k4 ?k5 ?k6 ?k7 ?k8 ?_; (case k1 => k_asm); (case k2 => k_asm); (case k3 => k_asm); (case k4 => k_asm); (case k5 => k_asm); (case k6 => first | exact rfl | assumption); (case hv => ktr_rel); (case hz => ktr_rel); (case hB => exact OnC.ptb (by assumption)); (case hB2 => exact OnC.ptb (by assumption)); (case hp => assumption); (case k7 => ktr_room); (case k8 => ktr_units)); intro r9 h9 tk9 l9 p9 S9 F9 N9; skip; (try dsimp only); (try k_fold); (try k_sweep)))
theorem c_points {w : World} {news : List (Addr × Obj)} {ga : Addr} {vs : List Value} {gs : List Int} {gk : Nat} (hg : (ga, ({ cls := .type "list", data := .seq vs.toArray gk } : Obj)) ∈ news) (hi : IntsAre vs gs) (hG : Given gs) (b : Int) (tb : Tok) (p : Int) (tp : Tok) (hp : PM p) (hs : Sums p b) :
    Tl w 3 24 news (call (.ref 284) [.ref ga, .int b tb, .int p tp]) (fun r l => ∃ a k v1 v2 v3 P1 P2 P3, r = .ref a ∧ (a, ({ cls := .type "list", data := .seq [v1, v2, v3].toArray k } : Obj)) ∈ l ∧ PtIn l v1 P1 ∧ PtIn l v2 P2 ∧ PtIn l v3 P3 ∧ OnC p b P1 ∧ OnC p b P2 ∧ OnC p b P3) := by
  intro mg mb mean dp un gd cn cs a0 ccd cl outer A₀ base h₀ L m s Q E B F X N T hk hdp hun ret
  revert X; k_fill; intro X
  have hlen := hG.len
  refine wpAny_call ?_
  k_dflt (refine' code_defC ?k1 ?k2 ?k3 ?k4 ?k5 ?kA ?kF ?kK ?k6 ?k7 ?k8 ?k9 ?kB ?kD ?_ ?c2 ?c3 ?c4; (case kA => exact rfl); (case kF => exact rfl); (case kK => assumption); (case k1 => k_asm); (case k2 => k_asm); (case k3 => k_asm); (case k4 => k_asm); (case k5 => k_asm); (case k6 => k_is); (case k7 => k_is); (case k8 => ktr_room); (case k9 => exact BindsTo.of_eq rfl); (case kB => exact rfl); (case kD => decide +kernel); (case c2 => exact rfl); (case c3 => exact rfl); (case c4 => exact rfl); k_whole; intro g' L' h' tk' cells' FG' F' N' Y' B' X' T' l1; k_cells Y'; (try simp only [List.cons_append, List.nil_append] at N'); (try dsimp only); (try k_fold))
  k_steps
  refine ⟨_, _, _, _, rfl, rfl, by assumption, by assumption, List.mem_cons_self, by rw [PySem.sizeLine_eq]; exact Nat.le_of_ble_eq_true rfl, ?_⟩
  rintro _ ⟨g₂, rfl⟩
  refine rest_own (fun _ y own => ∃ P, PtIn own y P ∧ OnC p b P) List.mem_cons_self (fun l l' h k => k _ h) (fun i v l l' h k => let ⟨P, a, b⟩ := h; ⟨P, a.mono k, b⟩) ?_ ?_
  · intro i v I oI C oC D m₂ ys nw h2 tk2 E' hi2 hv hsub hC hx F2 N2
    obtain ⟨k, t, rfl, hk2, hk4⟩ : ∃ k t, v = Value.int k t ∧ 2 ≤ k ∧ k ≤ 4 := by
      match i, hi2, hv with
      | 0, _, hv => cases hv; exact ⟨_, _, rfl, by decide, by decide⟩
      | 1, _, hv => cases hv; exact ⟨_, _, rfl, by decide, by decide⟩
      | 2, _, hv => cases hv; exact ⟨_, _, rfl, by decide, by decide⟩
    k_steps
    exact ⟨_, _, _, _, rfl, by assumption, by assumption, by assumption, by assumption, ⟨_, by assumption, by assumption⟩⟩
  · intro ys nw hsub hlen3 hR D h2 tk2 F2 N2 o2
    obtain ⟨y0, y1, y2, rfl⟩ : ∃ y0 y1 y2, ys = [y0, y1, y2] := by
      match ys, hlen3 with
      | [a, b, c], _ => exact ⟨a, b, c, rfl⟩
    obtain ⟨P1, hv1, hc1⟩ := hR 0 y0 rfl
    obtain ⟨P2, hv2, hc2⟩ := hR 1 y1 rfl
    obtain ⟨P3, hv3, hc3⟩ := hR 2 y2 rfl
    have hkd : ∀ z : Int, z.fmod 7 = 0 ∨ z.fmod 7 = 1 ∨ z.fmod 7 = 2 ∨ z.fmod 7 = 3 ∨ z.fmod 7 = 4 ∨ z.fmod 7 = 5 ∨ z.fmod 7 = 6 := fun z => by
      have h1 := fmod_lo z (n := 7) (by decide)
      have h2 := fmod_hi z (n := 7) (by decide)
      omega
    rcases hkd (gs.getD (5 : Int).toNat 0) with hk7 | hk7 | hk7 | hk7 | hk7 | hk7 | hk7
    all_goals k_steps
    all_goals
      refine' ret _ _ _ _ ?e1 ?e2 ?e3 ?e4
      (case e3 => assumption)
      (case e4 => assumption)
      (case e2 => ktr_rel)
      (case e1 => exact points_end List.mem_cons_self (by ktr_rel) (by ktr_rel) (by ktr_rel) (by first | assumption | exact hs.opp _ (by assumption) | exact hs.sum _ _ (by assumption) (by assumption) | exact hs.opp _ (hs.sum _ _ (by assumption) (by assumption))) (by first | assumption | exact hs.opp _ (by assumption) | exact hs.sum _ _ (by assumption) (by assumption) | exact hs.opp _ (hs.sum _ _ (by assumption) (by assumption))) (by first | assumption | exact hs.opp _ (by assumption) | exact hs.sum _ _ (by assumption) (by assumption) | exact hs.opp _ (hs.sum _ _ (by assumption) (by assumption))))

end
local macro_rules | `(tactic| walk_at "call ref") => `(tactic| (k_here; (with_reducible show wpAny _ _ (call (Value.ref 251) _) _ _ _); k_dflt (refine' Tl.use (c_point _ _ ?h0 _ _ _ _ ?hp) ?k1 ?k2 ?k3 ?k4 ?k5 ?k6 ?k7 ?k8 ?_; (case k1 => k_asm); (case k2 => k_asm); (case k3 => k_asm); (case k4 => k_asm); (case k5 => k_asm); (case k6 => first | exact rfl | assumption); (case h0 => first | assumption | exact Given.nonneg (by assumption) _); (case hp => assumption); (case k7 => ktr_room); (case k8 => ktr_units)); intro r9 h9 tk9 l9 p9 S9 F9 N9; obtain ⟨P9, own9, ho9, hv9, hc9⟩ := p9; (try dsimp only); (try k_fold); (try k_sweep)))
local macro_rules | `(tactic| walk_at "binaryOp Mod int int") => `(tactic| (k_here; (with_reducible show wpAny _ _ (binaryOp _ (Value.int _ _) (Value.int _ _)) _ _ _); k_dflt (refine' mod_known ?h9 ?b9 ?_; (case h9 => assumption); (case b9 => decide)); (try dsimp only)))
local macro_rules | `(tactic| walk_at "call ref") => `(tactic| (k_here; (with_reducible show wpAny _ _ (call (Value.ref 265) [_, _, Value.int _ _]) _ _ _); k_dflt (refine' Tl.use (c_sum ?hv ?hz ?hB ?hB2 ?hp) ?k1 ?k2 ?k3 ?k4 ?k5 ?k6 ?k7 ?k8 ?_; (case k1 => k_asm); (case k2 => k_asm); (case k3 => k_asm); (case k4 => k_asm); (case k5 => k_asm); (case k6 => first | exact rfl | assumption); (case hv => ktr_rel); (case hz => ktr_rel); (case hB => exact OnC.ptb (by assumption)); (case hB2 => exact OnC.ptb (by assumption)); (case hp => assumption); (case k7 => ktr_room); (case k8 => ktr_units)); intro r9 h9 tk9 l9 p9 S9 F9 N9; skip; (try dsimp only); (try k_fold); (try k_sweep)))
section
/-! powers modulo, the field -/
theorem powMod_eq (b e m : Nat) : Builtin.powMod b e m = b ^ e % m := by
  have go : ∀ (n p : Nat), p = b ^ (e >>> n) % m → (List.range n).reverse.foldl (fun p i => if e.testBit i then p * p % m * b % m else p * p % m) p = b ^ e % m := by
    intro n
    induction n with
    | zero => intro p h; simpa using h
    | succ n ih =>
      intro p h
      rw [List.range_succ, List.reverse_append]
      apply ih
      have e1 : e >>> n = 2 * (e >>> (n + 1)) + (e.testBit n).toNat := by
        rw [Nat.testBit, Nat.shiftRight_succ]
        have : (1 &&& e >>> n) = (e >>> n) % 2 := Nat.one_and_eq_mod_two _
        rw [this]
        rcases Nat.mod_two_eq_zero_or_one (e >>> n) with k | k
        · rw [k]; simp only [bne_self_eq_false, Bool.toNat_false]; omega
        · rw [k]; simp only [show ((1 : Nat) != 0) = true from rfl, Bool.toNat_true]; omega
      have e2 : p * p % m = b ^ (2 * (e >>> (n + 1))) % m := by
        rw [h, ← Nat.mul_mod, Nat.two_mul, Nat.pow_add]
      rw [e1]
      by_cases ht : e.testBit n = true
      · simp only [ht, if_true, Bool.toNat_true]
        rw [Nat.pow_succ, Nat.mul_mod, e2, Nat.mod_mod, ← Nat.mul_mod]
      · simp only [ht, if_false, Bool.toNat_false, Nat.add_zero]; exact e2
  unfold Builtin.powMod
  apply go
  have : e >>> Builtin.Int.intBits (e : Int) = 0 := by
    rw [Nat.shiftRight_eq_div_pow]
    apply Nat.div_eq_of_lt
    unfold Builtin.Int.intBits
    split
    · rename_i h; rw [beq_iff_eq] at h; have : e = 0 := by omega
      subst this; decide
    · rename_i h
      have h0 : e ≠ 0 := fun k => h (by subst k; rfl)
      have : (e : Int).natAbs = e := rfl
      rw [this]
      exact Nat.lt_log2_self
  rw [this, Nat.pow_zero]
theorem powI_eq {n : Nat} (hn : NP n) {a : Int} (ha : a % n ≠ 0) : (powI n a * a) % n = 1 := by
  have h1 := hn.1
  unfold powI
  rw [powMod_eq]
  obtain ⟨m, hm⟩ : ∃ m : Nat, a % n = m := ⟨(a % n).toNat, (Int.toNat_of_nonneg (Int.emod_nonneg _ (by omega))).symm⟩
  have hmn : (m : Int) < n := hm ▸ Int.emod_lt_of_pos _ (by omega)
  rw [Int.mul_emod, hm]
  have e2 : ((n : Int) - 2).toNat = n - 2 := by omega
  rw [e2, Int.toNat_natCast, Int.toNat_natCast]
  have hd : ¬ n ∣ m := fun hd => by
    have : m ≠ 0 := fun k => ha (by rw [hm, k]; rfl)
    have := Nat.le_of_dvd (by omega) hd
    omega
  have hf := fermat hn hd
  have e3 : n - 1 = (n - 2) + 1 := by omega
  rw [e3, Nat.pow_succ] at hf
  rw [← Int.natCast_emod, ← Int.natCast_mul, ← Int.natCast_emod, Nat.mod_mod, ]
  rw [Nat.mul_mod, Nat.mod_mod, ← Nat.mul_mod, hf]
  rfl
open Lean.Grind in
def ph (n : Nat) [NeZero n] (a : Int) : Fin n := (Lean.Grind.Ring.intCast (α := Fin n)).intCast a
section
open Lean.Grind
variable {n : Nat} [NeZero n]
theorem ph_add (a b : Int) : ph n (a + b) = ph n a + ph n b := Ring.intCast_add a b
theorem ph_sub (a b : Int) : ph n (a - b) = ph n a - ph n b := Ring.intCast_sub a b
theorem ph_mul (a b : Int) : ph n (a * b) = ph n a * ph n b := Ring.intCast_mul a b
theorem ph_neg (a : Int) : ph n (-a) = - ph n a := Ring.intCast_neg a
theorem ph_zero_iff (a : Int) : ph n a = 0 ↔ a % n = 0 := IsCharP.intCast_eq_zero_iff n a
theorem ph_eq_iff (a b : Int) : ph n a = ph n b ↔ (a - b) % n = 0 := by
  rw [← ph_zero_iff, ph_sub]
  constructor
  · intro h; rw [h]; grind
  · intro h; grind
theorem ph_emod_iff (a b : Int) : ph n a = ph n b ↔ a % n = b % n := by
  rw [ph_eq_iff, Int.emod_eq_emod_iff_emod_sub_eq_zero]
theorem ph_mod (a : Int) : ph n (a % n) = ph n a := (ph_emod_iff _ _).mpr (Int.emod_emod_of_dvd _ (Int.dvd_refl _))
theorem ph_self : ph n n = 0 := (ph_zero_iff _).mpr Int.emod_self
theorem ph_lit (k : Nat) : ph n ((OfNat.ofNat k : Nat) : Int) = (OfNat.ofNat k : Fin n) := Ring.intCast_ofNat k
theorem ph0 : ph n 0 = 0 := ph_lit 0
theorem ph1 : ph n 1 = 1 := ph_lit 1
theorem ph2 : ph n 2 = 2 := ph_lit 2
theorem ph3 : ph n 3 = 3 := ph_lit 3
theorem ph4 : ph n 4 = 4 := ph_lit 4
theorem ph8 : ph n 8 = 8 := ph_lit 8
theorem ph_inj {a b : Int} (ha : 0 ≤ a) (ha' : a < n) (hb : 0 ≤ b) (hb' : b < n) (h : ph n a = ph n b) : a = b := by
  have := (ph_emod_iff _ _).mp h
  rwa [Int.emod_eq_of_lt ha ha', Int.emod_eq_of_lt hb hb'] at this
theorem fin_zero (a : Fin n) : a = 0 ↔ n ∣ a.val := by
  constructor
  · intro h; rw [h]; exact Nat.dvd_zero n
  · intro h
    have := Nat.eq_zero_of_dvd_of_lt h a.isLt
    exact Fin.ext this
theorem fin_dom (hn : NP n) (h3 : 3 < n) : Dom (Fin n) where
  dom a b h := by
    have h' : n ∣ (a * b).val := (fin_zero _).mp h
    rw [Fin.val_mul] at h'
    have h' := (Nat.dvd_mod_iff (Nat.dvd_refl n)).mp h'
    exact (hn.mul h').imp (fin_zero _).mpr (fin_zero _).mpr
  two a h := by
    have h' : n ∣ (a + a).val := (fin_zero _).mp h
    rw [Fin.val_add] at h'
    have h' := (Nat.dvd_mod_iff (Nat.dvd_refl n)).mp h'
    rw [← Nat.two_mul] at h'
    rcases hn.mul h' with k | k
    · have := Nat.le_of_dvd (by decide) k; omega
    · exact (fin_zero _).mpr k
  three a h := by
    have h' : n ∣ (a + a + a).val := (fin_zero _).mp h
    rw [Fin.val_add, Fin.val_add, Nat.mod_add_mod] at h'
    have h' := (Nat.dvd_mod_iff (Nat.dvd_refl n)).mp h'
    rw [show a.val + a.val + a.val = 3 * a.val by omega] at h'
    rcases hn.mul h' with k | k
    · have := Nat.le_of_dvd (by decide) k; omega
    · exact (fin_zero _).mpr k
end
end
section
/-- the triple T is a form of the point P -/
def Rep (p : Int) (T : Int × Int × Int) (P : Pt) : Prop :=
  (0 ≤ T.1 ∧ T.1 < p ∧ 0 ≤ T.2.1 ∧ T.2.1 < p ∧ 0 ≤ T.2.2 ∧ T.2.2 < p) ∧
  match P with
  | none => T.2.2 = 0 ∧ ¬ (T.1 = 0 ∧ T.2.1 = 0)
  | some q => T.2.2 ≠ 0 ∧ (q.1 * T.2.2 - T.1) % p = 0 ∧ (q.2 * T.2.2 - T.2.1) % p = 0
structure Curve (p b : Int) : Prop where
  good : GoodP p
  lo : 1 ≤ b
  hi : b < p
theorem np_small {q : Nat} (h7 : 7 ≤ q) (h9 : q ≤ 1019) (h4 : q % 4 = 3) (h : ∀ i : Nat, i < 15 → ¬ (3 + (i : Int) * 2 < (q : Int) ∧ (q : Int).fmod (3 + (i : Int) * 2) = 0)) : NP q := by
  have no : ∀ d, 1 < d → d < q → d ∣ q → 32 ≤ d := by
    intro d h1 h2 hd
    refine Classical.byContradiction fun hc => ?_
    rcases Nat.mod_two_eq_zero_or_one d with e | e
    · have h2 : 2 ∣ q := Nat.dvd_trans (Nat.dvd_of_mod_eq_zero e) hd
      omega
    · refine h ((d - 3) / 2) (by omega) ?_
      have e2 : 3 + ((((d - 3) / 2 : Nat)) : Int) * 2 = d := by omega
      rw [e2]
      refine ⟨by omega, ?_⟩
      rw [Int.fmod_eq_emod_of_nonneg _ (by omega)]
      exact Int.emod_eq_zero_of_dvd (Int.natCast_dvd_natCast.mpr hd)
  refine ⟨by omega, fun d hd => ?_⟩
  obtain ⟨e, he⟩ := hd
  by_cases h2 : d = 1
  · exact .inl h2
  by_cases h3 : e = 1
  · right; rw [he, h3, Nat.mul_one]
  exfalso
  have hd0 : d ≠ 0 := by rintro rfl; omega
  have he0 : e ≠ 0 := by rintro rfl; omega
  have k1 : d * 1 < d * e := Nat.mul_lt_mul_of_pos_left (by omega) (by omega)
  have k2 : 1 * e < d * e := Nat.mul_lt_mul_of_pos_right (by omega) (by omega)
  have a := no d (by omega) (by omega) ⟨e, he⟩
  have b := no e (by omega) (by omega) ⟨d, by rw [he, Nat.mul_comm]⟩
  have := Nat.mul_le_mul a b
  omega
theorem good_np {p : Int} (h : GoodP p) : ∃ n : Nat, p = n ∧ NP n ∧ 3 < n ∧ PM p := by
  rcases h with h | h | ⟨h7, h9, h4, h⟩
  · exact ⟨P1, h.trans (by decide +kernel), np1, by decide +kernel, by rw [h]; exact ⟨by decide +kernel, by decide +kernel⟩⟩
  · exact ⟨P2, h.trans (by decide +kernel), np2, by decide +kernel, by rw [h]; exact ⟨by decide +kernel, by decide +kernel⟩⟩
  · obtain ⟨n, rfl⟩ : ∃ n : Nat, p = n := ⟨p.toNat, by omega⟩
    refine ⟨n, rfl, np_small (by omega) (by omega) (by omega) h, by omega, by omega, ?_⟩
    exact Int.lt_of_le_of_lt h9 (by decide +kernel)
theorem good_pm {p : Int} (h : GoodP p) : PM p := let ⟨_, _, _, _, h⟩ := good_np h; h
theorem PM.one_lt {p : Int} (h : PM p) : 1 < p := h.1
theorem good_three {p : Int} (h : GoodP p) : 3 < p := by
  obtain ⟨n, rfl, _, h, _⟩ := good_np h
  omega
def cP (n : Nat) [NeZero n] (P : Pt) : Option (Fin n × Fin n) := match P with
  | none => none
  | some (x, y) => some (ph n x, ph n y)
section
variable {n : Nat} [NeZero n]
theorem cP_inj {P Q : Pt} (hP : PtB n P) (hQ : PtB n Q) (h : cP n P = cP n Q) : P = Q := by
  rcases P with _ | ⟨x, y⟩ <;> rcases Q with _ | ⟨x', y'⟩
  · rfl
  · exact nomatch h
  · exact nomatch h
  · obtain ⟨a1, a2, a3, a4⟩ := hP _ rfl
    obtain ⟨b1, b2, b3, b4⟩ := hQ _ rfl
    dsimp only at a1 a2 a3 a4 b1 b2 b3 b4
    injection h with h
    injection h with h1 h2
    rw [ph_inj a1 a2 b1 b2 h1, ph_inj a3 a4 b3 b4 h2]
theorem onC_og {b : Int} {P : Pt} (h : OnC n b P) : Og (ph n b) (cP n P) := by
  rcases P with _ | ⟨x, y⟩
  · trivial
  · obtain ⟨_, _, _, _, h⟩ := h _ rfl
    have := (ph_emod_iff (n := n) _ _).mpr h
    have e : x ^ 3 = x * x * x := by rw [Int.pow_succ, Int.pow_succ, Int.pow_one]
    simp only [e, ph_mul, ph_add] at this
    exact this
theorem og_onC {b x y : Int} (h : Ec (ph n b) (ph n x) (ph n y)) (hx : 0 ≤ x ∧ x < n) (hy : 0 ≤ y ∧ y < n) : OnC n b (some (x, y)) := by
  rintro q ⟨⟩
  refine ⟨hx.1, hx.2, hy.1, hy.2, ?_⟩
  have e : x ^ 3 = x * x * x := by rw [Int.pow_succ, Int.pow_succ, Int.pow_one]
  refine (ph_emod_iff (n := n) _ _).mp ?_
  simp only [e, ph_mul, ph_add]
  exact h
theorem md (hn : NP n) (a : Int) : 0 ≤ a % n ∧ a % n < n := by
  have := hn.1
  exact ⟨Int.emod_nonneg _ (by omega), Int.emod_lt_of_pos _ (by omega)⟩
theorem opp_ng (P : Pt) : cP n (oppF n P) = ng (cP n P) := by
  rcases P with _ | ⟨x, y⟩
  · rfl
  · simp only [oppF, Option.map, cP, ng, ph_mod, ph_sub, ph_self]
    congr 2
variable (hn : NP n) (h3 : 3 < n)
include hn h3
theorem inv_ph {a : Int} (h : ph n a ≠ 0) : ph n (powI n a) * ph n a = 1 := by
  have h0 : a % n ≠ 0 := fun k => h ((ph_zero_iff _).mpr k)
  have := powI_eq hn h0
  have h1 : (1 : Int) % n = 1 := Int.emod_eq_of_lt (by decide) (by omega)
  rw [← h1] at this
  have := (ph_emod_iff (n := n) _ _).mpr this
  rwa [ph_mul, ph1] at this
theorem sum_is {b : Int} {P Q : Pt} (hP : OnC n b P) (hQ : OnC n b Q) : IsSum (cP n P) (cP n Q) (cP n (sumF n P Q)) := by
  have D := fin_dom hn h3
  have hoP := onC_og hP
  have hoQ := onC_og hQ
  rcases P with _ | ⟨x1, y1⟩ <;> rcases Q with _ | ⟨x2, y2⟩
  · rfl
  · rfl
  · rfl
  · obtain ⟨a1, a2, a3, a4, _⟩ := hP _ rfl
    obtain ⟨b1, b2, b3, b4, _⟩ := hQ _ rfl
    dsimp only at a1 a2 a3 a4 b1 b2 b3 b4
    have hx : x1 = x2 ↔ ph n x1 = ph n x2 := ⟨fun h => by rw [h], ph_inj a1 a2 b1 b2⟩
    have hy : (y1 + y2) % n = 0 ↔ ph n y1 + ph n y2 = 0 := by rw [← ph_add, ph_zero_iff]
    by_cases hc : x1 = x2 ∧ (y1 + y2) % n = 0
    · refine .inl ⟨hx.mp hc.1, hy.mp hc.2, ?_⟩
      simp only [sumF, hc, and_self, if_true]
      rfl
    · refine .inr ⟨fun h => hc ⟨hx.mpr h.1, hy.mpr h.2⟩, ph n (slopeF n x1 y1 x2 y2), ?_, ?_⟩
      · have eP : Ec (ph n b) (ph n x1) (ph n y1) := hoP
        have eQ : Ec (ph n b) (ph n x2) (ph n y2) := hoQ
        unfold slopeF
        by_cases h : x1 = x2
        · subst h
          have hy0 : ph n y1 + ph n y2 ≠ 0 := fun k => hc ⟨rfl, hy.mpr k⟩
          have ey : ph n y1 = ph n y2 := by
            have : (ph n y1 + ph n y2) * (ph n y1 - ph n y2) = 0 := by unfold Ec at eP eQ; grind
            rcases D.dom _ _ this with k | k
            · exact absurd k hy0
            · grind
          have hi := inv_ph hn h3 (a := 2 * y1 % n) (by rw [ph_mod, ph_mul, ph2]; intro k; apply hy0; rw [← ey]; grind)
          rw [ph_mod, ph_mul, ph2] at hi
          simp only [ne_eq, not_true_eq_false, if_false, ph_mod, ph_mul, ph3]
          rw [← ey]
          clear eP eQ hoP hoQ hy
          generalize ph n (powI n (2 * y1 % n)) = i at *
          constructor <;> grind
        · have hne : ph n x2 - ph n x1 ≠ 0 := fun k => h (hx.mpr (by grind))
          have hi := inv_ph hn h3 (a := (x2 - x1) % n) (by rw [ph_mod, ph_sub]; exact hne)
          rw [ph_mod, ph_sub] at hi
          simp only [ne_eq, h, not_false_eq_true, if_true, ph_mod, ph_mul, ph_sub]
          clear hoP hoQ hy hx
          generalize ph n (powI n ((x2 - x1) % n)) = i at *
          have e1 : (ph n y2 - ph n y1) * i * (ph n x1 - ph n x2) = ph n y1 - ph n y2 := by clear eP eQ; grind
          refine ⟨e1, ?_⟩
          apply D.can hne
          generalize (ph n y2 - ph n y1) * i = s at *
          unfold Ec at eP eQ
          clear hi
          grind
      · simp only [sumF, hc, if_false, cP, ph_mod, ph_mul, ph_sub]
theorem sum_on {b : Int} {P Q : Pt} (hP : OnC n b P) (hQ : OnC n b Q) : OnC n b (sumF n P Q) := by
  have his := sum_is hn h3 hP hQ
  have hoP := onC_og hP
  rcases P with _ | ⟨x1, y1⟩
  · exact hQ
  rcases Q with _ | ⟨x2, y2⟩
  · exact hP
  generalize hS : sumF n (some (x1, y1)) (some (x2, y2)) = S at *
  rcases S with _ | ⟨s, t⟩
  · exact onC_none
  · rcases his with ⟨_, _, k⟩ | ⟨_, l, hl, k⟩
    · exact nomatch k
    · injection k with k
      injection k with k1 k2
      have := sl_on hoP hl rfl rfl
      rw [← k2, ← k1] at this
      simp only [sumF] at hS
      split at hS
      · exact nomatch hS
      · injection hS with hS
        injection hS with h1 h2
        exact og_onC this (h1 ▸ md hn _) (h2 ▸ md hn _)
theorem opp_on {b : Int} {P : Pt} (hP : OnC n b P) : OnC n b (oppF n P) := by
  have h := (onC_og hP).ng
  rw [← opp_ng] at h
  rcases P with _ | ⟨x, y⟩
  · exact onC_none
  · obtain ⟨a1, a2, a3, a4, _⟩ := hP _ rfl
    exact og_onC h ⟨a1, a2⟩ (md hn _)
theorem ph_ne {a : Int} (h0 : 0 ≤ a) (h1 : a < n) : a = 0 ↔ ph n a = 0 := by
  rw [← ph0 (n := n)]
  exact ⟨fun h => by rw [h], fun h => ph_inj h0 h1 (by omega) (by omega) h⟩
/-- Rep, read in the field -/
theorem rep_iff {X Y Z : Int} (P : Pt) : Rep n (X, Y, Z) P ↔ ((0 ≤ X ∧ X < n ∧ 0 ≤ Y ∧ Y < n ∧ 0 ≤ Z ∧ Z < n) ∧ RepF (ph n X) (ph n Y) (ph n Z) (cP n P)) := by
  unfold Rep
  refine and_congr_right fun ⟨a1, a2, a3, a4, a5, a6⟩ => ?_
  dsimp only at a1 a2 a3 a4 a5 a6
  have eX := ph_ne hn h3 a1 a2
  have eY := ph_ne hn h3 a3 a4
  have eZ := ph_ne hn h3 a5 a6
  rcases P with _ | ⟨x, y⟩
  · simp only [RepF, cP, ← eX, ← eY, ← eZ]
  · simp only [RepF, cP, ← eZ, ne_eq]
    rw [← ph_zero_iff, ← ph_zero_iff, ph_sub, ph_sub, ph_mul, ph_mul]
    have k : ∀ u v : Fin n, u - v = 0 ↔ u = v := fun u v => ⟨fun h => by grind, fun h => by grind⟩
    rw [k, k]
theorem rep_reads0 {T : Int × Int × Int} {P : Pt} (hT : Rep n T P) : readsB n T P = true := by
  obtain ⟨_, h⟩ := hT
  rcases P with _ | ⟨x, y⟩
  · simp only [readsB, beq_iff_eq]; exact h.1
  · simp only [readsB, Bool.and_eq_true, bne_iff_ne, beq_iff_eq]; exact ⟨⟨h.1, h.2.1⟩, h.2.2⟩
theorem rep_form0 {b : Int} {P : Pt} {k : Int} (hP : OnC n b P) (h1 : 1 ≤ k) (h2 : k < n) : Rep n (formF n P k) P := by
  have hk : k % n = k := Int.emod_eq_of_lt (by omega) h2
  have m0 := md hn
  rcases P with _ | ⟨x, y⟩
  · refine ⟨⟨(m0 _).1, (m0 _).2, (m0 _).1, (m0 _).2, (m0 _).1, (m0 _).2⟩, Int.zero_emod _, fun h => ?_⟩
    have h : k % n = 0 := h.1
    omega
  · refine (rep_iff hn h3 _).mpr ⟨⟨(m0 _).1, (m0 _).2, (m0 _).1, (m0 _).2, (m0 _).1, (m0 _).2⟩, ?_⟩
    simp only [RepF, cP, ph_mod, ph_mul, and_true, ne_eq]
    rw [← ph_ne hn h3 (by omega) h2]
    omega
theorem rep_neg0 {T : Int × Int × Int} {P : Pt} (hT : Rep n T P) : Rep n (T.1, -T.2.1 % n, T.2.2) (oppF n P) := by
  obtain ⟨X, Y, Z⟩ := T
  obtain ⟨⟨a1, a2, a3, a4, a5, a6⟩, h⟩ := (rep_iff hn h3 _).mp hT
  refine (rep_iff hn h3 _).mpr ⟨⟨a1, a2, (md hn _).1, (md hn _).2, a5, a6⟩, ?_⟩
  rw [opp_ng]
  simp only [ph_mod, ph_neg]
  rcases P with _ | ⟨x, y⟩
  · refine ⟨h.1, fun k => h.2 ⟨k.1, by have := k.2; grind⟩⟩
  · refine ⟨h.1, h.2.1, ?_⟩
    have := h.2.2
    grind
section
variable {b : Int} (hb1 : 1 ≤ b) (hb2 : b < n)
include hb1 hb2
theorem b_ne : ph n b ≠ 0 := by
  rw [ne_eq, ← ph_ne hn h3 (by omega) hb2]
  omega
theorem rep_dblF {X Y Z x y : Int} (hT : Rep n (X, Y, Z) (some (x, y))) (hP : OnC n b (some (x, y))) : Rep n (dblF n (X, Y, Z)) (sumF n (some (x, y)) (some (x, y))) := by
  obtain ⟨_, hZ, hX, hY⟩ := (rep_iff hn h3 _).mp hT
  have h := rep_dbl (fin_dom hn h3) (b_ne hn h3 hb1 hb2) (onC_og hP) hZ hX hY rfl rfl rfl rfl (sum_is hn h3 hP hP)
  have m0 := md hn
  refine (rep_iff hn h3 _).mpr ⟨⟨(m0 _).1, (m0 _).2, (m0 _).1, (m0 _).2, (m0 _).1, (m0 _).2⟩, ?_⟩
  simp only [ph_mod, ph_mul, ph_sub, ph2, ph3, ph4, ph8]
  exact h
theorem rep_add0 {T U : Int × Int × Int} {P Q : Pt} (hT : Rep n T P) (hU : Rep n U Q) (hP : OnC n b P) (hQ : OnC n b Q) : Rep n (addF n T U) (sumF n P Q) := by
  rcases P with _ | ⟨x1, y1⟩ <;> rcases Q with _ | ⟨x2, y2⟩
  · rw [show addF n T U = T by simp only [addF, hU.2.1, or_true, if_true]]; exact hT
  · rw [show addF n T U = U by simp only [addF, hT.2.1, hU.2.1, true_or, if_true, if_false]]; exact hU
  · rw [show addF n T U = T by simp only [addF, hU.2.1, or_true, if_true]]; exact hT
  · obtain ⟨X1, Y1, Z1⟩ := T
    obtain ⟨X2, Y2, Z2⟩ := U
    obtain ⟨_, hZ1, hX1, hY1⟩ := (rep_iff hn h3 _).mp hT
    obtain ⟨_, hZ2, hX2, hY2⟩ := (rep_iff hn h3 _).mp hU
    have zT : Z1 ≠ 0 % (n : Int) := by rw [zero_mod]; exact hT.2.1
    have zU : Z2 ≠ 0 % (n : Int) := by rw [zero_mod]; exact hU.2.1
    have D := fin_dom hn h3
    have his := sum_is hn h3 hP hQ
    have m0 := md hn
    have hx : X2 * Z1 % n = X1 * Z2 % n ↔ x1 = x2 := by
      rw [← ph_emod_iff, ph_mul, ph_mul, cross_eq D hZ2 hZ1 hX2 hX1]
      have a := hP _ rfl
      have b := hQ _ rfl
      exact ⟨fun h => ph_inj a.1 a.2.1 b.1 b.2.1 h.symm, fun h => by rw [h]⟩
    have hy : Y2 * Z1 % n = Y1 * Z2 % n ↔ y1 = y2 := by
      rw [← ph_emod_iff, ph_mul, ph_mul, cross_eq D hZ2 hZ1 hY2 hY1]
      have a := hP _ rfl
      have b := hQ _ rfl
      exact ⟨fun h => ph_inj a.2.2.1 a.2.2.2.1 b.2.2.1 b.2.2.2.1 h.symm, fun h => by rw [h]⟩
    by_cases hV : X2 * Z1 % n = X1 * Z2 % n
    · by_cases hU' : Y2 * Z1 % n = Y1 * Z2 % n
      · rw [addF_dbl zT zU hV hU']
        obtain rfl := hx.mp hV
        obtain rfl := hy.mp hU'
        exact rep_dblF hn h3 hb1 hb2 hT hP
      · rw [addF_opp zT zU hV hU']
        obtain rfl := hx.mp hV
        have hne : y1 ≠ y2 := fun k => hU' (hy.mpr k)
        have hs : sumF n (some (x1, y1)) (some (x1, y2)) = none := by
          rcases his with ⟨h1, h2, k⟩ | ⟨h1, _⟩
          · generalize sumF n (some (x1, y1)) (some (x1, y2)) = S at *
            rcases S with _ | ⟨s, t⟩
            · rfl
            · exact nomatch k
          · exfalso
            apply h1
            refine ⟨rfl, ?_⟩
            have eP : Ec (ph n b) (ph n x1) (ph n y1) := onC_og hP
            have eQ : Ec (ph n b) (ph n x1) (ph n y2) := onC_og hQ
            have : (ph n y1 + ph n y2) * (ph n y1 - ph n y2) = 0 := by unfold Ec at eP eQ; clear hX1 hY1 hX2 hY2; grind
            rcases D.dom _ _ this with k | k
            · exact k
            · exfalso
              have a := hP _ rfl
              have b := hQ _ rfl
              exact hne (ph_inj a.2.2.1 a.2.2.2.1 b.2.2.1 b.2.2.2.1 (by clear hX1 hY1 hX2 hY2 this eP eQ; grind))
        rw [hs]
        refine ⟨⟨(m0 _).1, (m0 _).2, (m0 _).1, (m0 _).2, (m0 _).1, (m0 _).2⟩, zero_mod _, fun h => ?_⟩
        have h : (1 : Int) % n = 0 := h.1
        rw [Int.emod_eq_of_lt (by decide) (by omega)] at h
        omega
    · rw [addF_gen zT zU hV]
      have hne : ph n (X2 * Z1) ≠ ph n (X1 * Z2) := fun k => hV ((ph_emod_iff _ _).mp k)
      rw [ph_mul, ph_mul] at hne
      refine (rep_iff hn h3 _).mpr ⟨⟨(m0 _).1, (m0 _).2, (m0 _).1, (m0 _).2, (m0 _).1, (m0 _).2⟩, ?_⟩
      simp only [ph_mod, ph_mul, ph_sub, ph2]
      exact rep_gen D hZ1 hZ2 hX1 hY1 hX2 hY2 rfl rfl rfl rfl rfl rfl rfl rfl rfl rfl rfl hne his
theorem reads_dbl0 {T : Int × Int × Int} {P : Pt} (hT : Rep n T P) (hP : OnC n b P) : readsB n (dblF n T) (sumF n P P) = true := by
  rcases P with _ | ⟨x, y⟩
  · have hz : T.2.2 = 0 := hT.2.1
    show (_ == _) = true
    rw [beq_iff_eq]
    simp only [dblF, hz, Int.mul_zero, Int.zero_mul, zero_mod]
  · exact rep_reads0 hn h3 (rep_dblF hn h3 hb1 hb2 hT hP)
theorem rep_eq0 {T U : Int × Int × Int} {P Q : Pt} (hT : Rep n T P) (hU : Rep n U Q) (hP : OnC n b P) (hQ : OnC n b Q) :
    (T.1 * U.2.2 % n == U.1 * T.2.2 % n && T.2.1 * U.2.2 % n == U.2.1 * T.2.2 % n) = decide (P = Q) := by
  rw [Bool.eq_iff_iff, Bool.and_eq_true, beq_iff_eq, beq_iff_eq, decide_eq_true_iff]
  obtain ⟨X1, Y1, Z1⟩ := T
  obtain ⟨X2, Y2, Z2⟩ := U
  obtain ⟨rT, fT⟩ := (rep_iff hn h3 _).mp hT
  obtain ⟨rU, fU⟩ := (rep_iff hn h3 _).mp hU
  have D := fin_dom hn h3
  dsimp only
  rw [← ph_emod_iff, ← ph_emod_iff, ph_mul, ph_mul, ph_mul, ph_mul]
  have zz : ∀ u : Fin n, u * 0 = 0 := fun u => by grind
  have zl : ∀ u : Fin n, 0 * u = 0 := fun u => by grind
  rcases P with _ | ⟨x1, y1⟩ <;> rcases Q with _ | ⟨x2, y2⟩
  · rw [fT.1, fU.1]
    simp only [zz, and_self]
  · rw [fT.1]
    simp only [zz]
    refine ⟨fun h => ?_, fun h => nomatch h⟩
    exfalso
    refine fT.2 ⟨(D.dom _ _ h.1).resolve_right fU.1, (D.dom _ _ h.2).resolve_right fU.1⟩
  · rw [fU.1]
    simp only [zz]
    refine ⟨fun h => ?_, fun h => nomatch h⟩
    exfalso
    refine fU.2 ⟨(D.dom _ _ h.1.symm).resolve_right fT.1, (D.dom _ _ h.2.symm).resolve_right fT.1⟩
  · rw [cross_eq D fT.1 fU.1 fT.2.1 fU.2.1, cross_eq D fT.1 fU.1 fT.2.2 fU.2.2]
    have a := hP _ rfl
    have b := hQ _ rfl
    dsimp only at a b
    constructor
    · rintro ⟨h1, h2⟩
      rw [ph_inj a.1 a.2.1 b.1 b.2.1 h1, ph_inj a.2.2.1 a.2.2.2.1 b.2.2.1 b.2.2.2.1 h2]
    · intro h
      injection h with h
      injection h with h1 h2
      rw [h1, h2]
      exact ⟨rfl, rfl⟩
theorem rep_on0 {T : Int × Int × Int} {P : Pt} (hT : Rep n T P) (hP : OnC n b P) : onB n T (b % n) = true := by
  obtain ⟨X, Y, Z⟩ := T
  rcases P with _ | ⟨x, y⟩
  · have hz : Z = 0 := hT.2.1
    simp only [onB, hz, BEq.rfl, Bool.true_or]
  · obtain ⟨_, _, hX, hY⟩ := (rep_iff hn h3 _).mp hT
    simp only [onB, Bool.or_eq_true, beq_iff_eq]
    right
    rw [← ph_emod_iff]
    simp only [ph_mod, ph_mul, ph_sub]
    have h : Ec (ph n b) (ph n x) (ph n y) := onC_og hP
    unfold Ec at h
    rw [← hX, ← hY]
    clear hX hY
    grind
theorem sum_comm0 {P Q : Pt} (hP : OnC n b P) (hQ : OnC n b Q) : sumF n P Q = sumF n Q P :=
  cP_inj (sum_on hn h3 hP hQ).ptb (sum_on hn h3 hQ hP).ptb (IsSum.uniq (fin_dom hn h3) (sum_is hn h3 hP hQ) (sum_is hn h3 hQ hP).comm)
theorem sum_assoc0 {P Q R : Pt} (hP : OnC n b P) (hQ : OnC n b Q) (hR : OnC n b R) : sumF n P (sumF n Q R) = sumF n (sumF n P Q) R := by
  have hPQ := sum_on hn h3 hP hQ
  have hQR := sum_on hn h3 hQ hR
  refine cP_inj (sum_on hn h3 hP hQR).ptb (sum_on hn h3 hPQ hR).ptb ?_
  exact (assoc (fin_dom hn h3) (b_ne hn h3 hb1 hb2) (onC_og hP) (onC_og hQ) (onC_og hR) (sum_is hn h3 hP hQ) (sum_is hn h3 hPQ hR) (sum_is hn h3 hQ hR) (sum_is hn h3 hP hQR)).symm
theorem sum_opp_self0 {P : Pt} (hP : OnC n b P) : sumF n P (oppF n P) = none := by
  have h := sum_is hn h3 hP (opp_on hn h3 hP)
  rw [opp_ng] at h
  have h := sum_ng _ h
  generalize sumF n P (oppF n P) = S at *
  rcases S with _ | ⟨s, t⟩
  · rfl
  · exact nomatch h
end
end
section
variable {p b : Int} (C : Curve p b)
include C
theorem sums_of : Sums p b := by
  obtain ⟨n, rfl, hn, h3, _⟩ := good_np C.good
  haveI : NeZero n := ⟨by omega⟩
  exact ⟨fun _ _ hP hQ => sum_on hn h3 hP hQ, fun _ hP => opp_on hn h3 hP⟩
theorem rep_form {P : Pt} {k : Int} (hP : OnC p b P) (h1 : 1 ≤ k) (h2 : k < p) : Rep p (formF p P k) P := by
  obtain ⟨n, rfl, hn, h3, _⟩ := good_np C.good
  haveI : NeZero n := ⟨by omega⟩
  exact rep_form0 hn h3 hP h1 h2
theorem rep_add {T U : Int × Int × Int} {P Q : Pt} (hT : Rep p T P) (hU : Rep p U Q) (hP : OnC p b P) (hQ : OnC p b Q) : Rep p (addF p T U) (sumF p P Q) := by
  obtain ⟨n, rfl, hn, h3, _⟩ := good_np C.good
  haveI : NeZero n := ⟨by omega⟩
  exact rep_add0 hn h3 C.lo C.hi hT hU hP hQ
theorem rep_neg {T : Int × Int × Int} {P : Pt} (hT : Rep p T P) : Rep p (T.1, -T.2.1 % p, T.2.2) (oppF p P) := by
  obtain ⟨n, rfl, hn, h3, _⟩ := good_np C.good
  haveI : NeZero n := ⟨by omega⟩
  exact rep_neg0 hn h3 hT
theorem reads_dbl {T : Int × Int × Int} {P : Pt} (hT : Rep p T P) (hP : OnC p b P) : readsB p (dblF p T) (sumF p P P) = true := by
  obtain ⟨n, rfl, hn, h3, _⟩ := good_np C.good
  haveI : NeZero n := ⟨by omega⟩
  exact reads_dbl0 hn h3 C.lo C.hi hT hP
theorem rep_reads {T : Int × Int × Int} {P : Pt} (hT : Rep p T P) : readsB p T P = true := by
  obtain ⟨n, rfl, hn, h3, _⟩ := good_np C.good
  haveI : NeZero n := ⟨by omega⟩
  exact rep_reads0 hn h3 hT
theorem rep_eq {T U : Int × Int × Int} {P Q : Pt} (hT : Rep p T P) (hU : Rep p U Q) (hP : OnC p b P) (hQ : OnC p b Q) :
    (T.1 * U.2.2 % p == U.1 * T.2.2 % p && T.2.1 * U.2.2 % p == U.2.1 * T.2.2 % p) = decide (P = Q) := by
  obtain ⟨n, rfl, hn, h3, _⟩ := good_np C.good
  haveI : NeZero n := ⟨by omega⟩
  exact rep_eq0 hn h3 C.lo C.hi hT hU hP hQ
theorem rep_on {T : Int × Int × Int} {P : Pt} (hT : Rep p T P) (hP : OnC p b P) : onB p T (b % p) = true := by
  obtain ⟨n, rfl, hn, h3, _⟩ := good_np C.good
  haveI : NeZero n := ⟨by omega⟩
  exact rep_on0 hn h3 C.lo C.hi hT hP
theorem sum_comm {P Q : Pt} (hP : OnC p b P) (hQ : OnC p b Q) : sumF p P Q = sumF p Q P := by
  obtain ⟨n, rfl, hn, h3, _⟩ := good_np C.good
  haveI : NeZero n := ⟨by omega⟩
  exact sum_comm0 hn h3 C.lo C.hi hP hQ
theorem sum_assoc {P Q R : Pt} (hP : OnC p b P) (hQ : OnC p b Q) (hR : OnC p b R) : sumF p P (sumF p Q R) = sumF p (sumF p P Q) R := by
  obtain ⟨n, rfl, hn, h3, _⟩ := good_np C.good
  haveI : NeZero n := ⟨by omega⟩
  exact sum_assoc0 hn h3 C.lo C.hi hP hQ hR
theorem sum_opp_self {P : Pt} (hP : OnC p b P) : sumF p P (oppF p P) = none := by
  obtain ⟨n, rfl, hn, h3, _⟩ := good_np C.good
  haveI : NeZero n := ⟨by omega⟩
  exact sum_opp_self0 hn h3 C.lo C.hi hP
end
theorem rep_inf {p : Int} {T : Int × Int × Int} {P : Pt} (hT : Rep p T P) : (T.2.2 == 0) = decide (P = none) := by
  cases P with
  | none => simp [hT.2.1]
  | some q => simp [hT.2.1]
end

theorem Tl.weaken {w : World} {d u : Nat} {news : List (Addr × Obj)} {tree : Sem Value} {post post' : Value → List (Addr × Obj) → Prop} (C : Tl w d u news tree post) (h : ∀ r l, post r l → post' r l) : Tl w d u news tree post' :=
  fun mg mb mean dp un gd cn cs a ccd cl outer A₀ base h₀ L m s Q E B F X N T hk hd hu ret =>
    C mg mb mean dp un gd cn cs a ccd cl outer A₀ base h₀ L m s Q E B F X N T hk hd hu fun r h' tk' news' hp => ret r h' tk' news' (h r news' hp)
def RepIn (P : Params) (l : List (Addr × Obj)) (a : Addr) (p : Int) (R : Pt) : Prop := ∃ T, TripIn P l a p T ∧ Rep p T R
theorem RepIn.mono {P : Params} {l l' : List (Addr × Obj)} {a : Addr} {p : Int} {R : Pt} (h : RepIn P l a p R) (k : Sub l l') : RepIn P l' a p R := let ⟨T, a, b⟩ := h; ⟨T, a.mono k, b⟩
def ReadIn (P : Params) (l : List (Addr × Obj)) (a : Addr) (p : Int) (R : Pt) : Prop := ∃ T, TripIn P l a p T ∧ readsB p T R = true
theorem ReadIn.mono {P : Params} {l l' : List (Addr × Obj)} {a : Addr} {p : Int} {R : Pt} (h : ReadIn P l a p R) (k : Sub l l') : ReadIn P l' a p R := let ⟨T, a, b⟩ := h; ⟨T, a.mono k, b⟩
section
variable {w : World} {news : List (Addr × Obj)} {p b : Int} {P Q : Pt} {x y : Addr}
theorem w_add (hx : RepIn w.params news x p P) (hy : RepIn w.params news y p Q) (C : Curve p b) (hP : OnC p b P) (hQ : OnC p b Q) :
    Tl w 15 120 news (call (.ref 49) [.ref x, .ref y]) (fun r l => ∃ z, r = .ref z ∧ RepIn w.params l z p (sumF p P Q)) := by
  obtain ⟨T, ht, hr⟩ := hx
  obtain ⟨U, hu, hs⟩ := hy
  exact (c_add ht hu (good_pm C.good)).weaken fun r l ⟨z, e, h⟩ => ⟨z, e, _, h, rep_add C hr hs hP hQ⟩
theorem w_neg (hx : RepIn w.params news x p P) (C : Curve p b) : Tl w 6 48 news (call (.ref 63) [.ref x]) (fun r l => ∃ z, r = .ref z ∧ RepIn w.params l z p (oppF p P)) := by
  obtain ⟨T, ht, hr⟩ := hx
  exact (c_neg ht (good_pm C.good)).weaken fun r l ⟨z, e, h⟩ => ⟨z, e, _, h, rep_neg C hr⟩
theorem w_dbl (hx : RepIn w.params news x p P) (C : Curve p b) (hP : OnC p b P) : Tl w 9 72 news (call (.ref 42) [.ref x]) (fun r l => ∃ z, r = .ref z ∧ ReadIn w.params l z p (sumF p P P)) := by
  obtain ⟨T, ht, hr⟩ := hx
  exact (c_double ht (good_pm C.good)).weaken fun r l ⟨z, e, h⟩ => ⟨z, e, _, h, reads_dbl C hr hP⟩
theorem w_readD {v : Value} {t : Tok} (hx : ReadIn w.params news x p P) (hv : PtIn news v Q) (e : P = Q) (C : Curve p b) (hQ : OnC p b Q) : Tl w 2 16 news (call (.ref 279) [.ref x, v, .int p t]) (fun r _ => r = .bool true) := by
  obtain ⟨T, ht, hr⟩ := hx
  exact c_reads ht hv hQ.ptb (e ▸ hr) (good_pm C.good)
theorem w_read {v : Value} {t : Tok} (hx : RepIn w.params news x p P) (hv : PtIn news v Q) (e : P = Q) (C : Curve p b) (hQ : OnC p b Q) : Tl w 2 16 news (call (.ref 279) [.ref x, v, .int p t]) (fun r _ => r = .bool true) := by
  obtain ⟨T, ht, hr⟩ := hx
  exact w_readD ⟨T, ht, rep_reads C hr⟩ hv e C hQ
theorem w_eq (hx : RepIn w.params news x p P) (hy : RepIn w.params news y p Q) (C : Curve p b) (hP : OnC p b P) (hQ : OnC p b Q) :
    Tl w 6 48 news (call (.ref 56) [.ref x, .ref y]) (fun r _ => r = .bool (decide (P = Q))) := by
  obtain ⟨T, ht, hr⟩ := hx
  obtain ⟨U, hu, hs⟩ := hy
  exact (c_eq ht hu (good_pm C.good)).weaken fun r l h => by rw [h, rep_eq C hr hs hP hQ]
theorem w_eqS (hx : RepIn w.params news x p P) (hy : RepIn w.params news y p Q) (e : P = Q) (C : Curve p b) (hP : OnC p b P) (hQ : OnC p b Q) :
    Tl w 6 48 news (call (.ref 56) [.ref x, .ref y]) (fun r _ => r = .bool true) :=
  (w_eq hx hy C hP hQ).weaken fun r l h => by rw [h, decide_eq_true e]
theorem w_on (hx : RepIn w.params news x p P) (hy : FQin w.params news y p (b % p)) (C : Curve p b) (hP : OnC p b P) : Tl w 9 72 news (call (.ref 35) [.ref x, .ref y]) (fun r _ => r = .bool true) := by
  obtain ⟨T, ht, hr⟩ := hx
  exact (c_on ht hy (good_pm C.good)).weaken fun r l h => by rw [h, rep_on C hr hP]
theorem w_inf (hx : RepIn w.params news x p P) (C : Curve p b) : Tl w 6 48 news (call (.ref 28) [.ref x]) (fun r _ => r = .bool (decide (P = none))) := by
  obtain ⟨T, ht, hr⟩ := hx
  exact (c_is_inf ht (good_pm C.good)).weaken fun r l h => by rw [h, rep_inf hr]
theorem w_form {v : Value} {k : Int} {t u : Tok} (hv : PtIn news v P) (C : Curve p b) (hP : OnC p b P) (h1 : 1 ≤ k) (h2 : k < p) :
    Tl w 2 16 news (call (.ref 272) [v, .int k t, .int p u]) (fun r l => ∃ z own, r = .ref z ∧ NewIn news l own ∧ RepIn w.params own z p P) :=
  (c_form hv hP.ptb (Bd.of (good_pm C.good) (by omega) h2) (good_pm C.good)).weaken fun r l ⟨z, own, e, hn, h⟩ => ⟨z, own, e, hn, _, h, rep_form C hP h1 h2⟩
end

def ptData : Pt → PyData
  | none => .none
  | some q => .tuple [.int q.1, .int q.2]
theorem reads_pt {h₀ h : Heap} {L : Addr} {news : List (Addr × Obj)} {v : Value} {P : Pt} (N : News h₀ L h news) (hv : PtIn news v P) : ∃ as, Reads h v (ptData P) as := by
  match P, hv with
  | none, hv => replace hv : v = .none := hv; subst hv; exact ⟨_, Reads.none⟩
  | some (x, y), ⟨a, t, u, hv, hm⟩ => subst hv; exact ⟨_, reads_tuple_at (News.get N hm) rfl rfl (.cons (.int _ _) (.cons (.int _ _) .nil))⟩
theorem shaped_pt (P : Pt) : SeqAt.shaped (ptData P) = true := by
  cases P with
  | none => rfl
  | some q => simp [ptData, SeqAt.shaped, PyData.canLay0, PyData.canLayAll0, PyData.depth, PyData.depthAll]
theorem eqv_pt (P Q : Pt) : PyData.eqv (ptData P) (ptData Q) = decide (P = Q) := by
  rcases P with _ | ⟨a, b⟩ <;> rcases Q with _ | ⟨c, d⟩
  · simp [ptData, PyData.eqv]
  · simp [ptData, PyData.eqv]
  · simp [ptData, PyData.eqv]
  · by_cases h : a = c <;> by_cases h' : b = d <;> simp [ptData, PyData.eqv, PyData.eqvAll, h, h']

theorem c_isnone {w : World} {news : List (Addr × Obj)} {v : Value} {P : Pt} (hv : PtIn news v P) :
    Tl w 1 8 news (compareOp .Is v .none) (fun r _ => r = .bool (decide (P = none))) := by
  intro mg mb mean dp un gd cn cs a0 ccd cl outer A₀ base h₀ L m s Q E B F X N T hk hdp hun ret
  revert X; k_fill; intro X
  rcases P with _ | ⟨xv, yv⟩
  · replace hv : v = Value.none := hv
    subst hv
    k_steps
    exact ret _ _ _ _ (by simp) Sub.rfl (by assumption) (by assumption)
  · obtain ⟨av, t1v, t2v, hve, mv⟩ := hv
    subst hve
    k_steps
    exact ret _ _ _ _ (by simp) Sub.rfl (by assumption) (by assumption)

local macro_rules | `(tactic| walk_at "compareOp Is") => `(tactic| (k_here; (with_reducible show wpAny _ _ (compareOp CmpOp.Is _ Value.none) _ _ _); k_dflt (refine' Tl.use (c_isnone ?hv) ?k1 ?k2 ?k3 ?k4 ?k5 ?k6 ?k7 ?k8 ?_; (case k1 => k_asm); (case k2 => k_asm); (case k3 => k_asm); (case k4 => k_asm); (case k5 => k_asm); (case k6 => first | exact rfl | assumption); (case hv => ktr_rel); (case k7 => ktr_room); (case k8 => ktr_units)); intro r9 h9 tk9 l9 p9 S9 F9 N9; subst p9; (try dsimp only); (try k_fold); (try k_sweep)))
theorem c_pteq {w : World} {news : List (Addr × Obj)} {v z : Value} {P Q' : Pt} (hv : PtIn news v P) (hz : PtIn news z Q') :
    Tl w 3 72 news (compareOp .Eq v z) (fun r _ => r = .bool (decide (P = Q'))) := by
  intro mg mb mean dp un gd cn cs a0 ccd cl outer A₀ base h₀ L m s Q E B F X N T hk hdp hun ret
  revert X; k_fill; intro X
  obtain ⟨as, hr⟩ := reads_pt N hv
  obtain ⟨bs, hr2⟩ := reads_pt N hz
  refine eq_dataH hr hr2 (shaped_pt _) (shaped_pt _) (by ktr_units) ?_
  rw [eqv_pt]
  exact ret _ _ _ _ rfl Sub.rfl (by assumption) (by assumption)

local macro_rules | `(tactic| walk_at "compareOp Eq") => `(tactic| (k_here; (with_reducible show wpAny _ _ (compareOp CmpOp.Eq _ _) _ _ _); k_dflt (refine' Tl.use (c_pteq ?hv ?hz) ?k1 ?k2 ?k3 ?k4 ?k5 ?k6 ?k7 ?k8 ?_; (case k1 => k_asm); (case k2 => k_asm); (case k3 => k_asm); (case k4 => k_asm); (case k5 => k_asm); (case k6 => first | exact rfl | assumption); (case hv => ktr_rel); (case hz => ktr_rel); (case k7 => ktr_room); (case k8 => ktr_units)); intro r9 h9 tk9 l9 p9 S9 F9 N9; subst p9; (try dsimp only); (try k_fold); (try k_sweep)))

local macro_rules | `(tactic| ktr_rel) => `(tactic| first | ((with_reducible show RepIn _ _ _ _ _); refine' RepIn.mono ?f9 ?s9; (case s9 => first | assumption | exact Sub.cons Sub.rfl); (case f9 => ktr_rel)) | fail "ktr_rel: RepIn")
local macro_rules | `(tactic| ktr_rel) => `(tactic| ((with_reducible show RepIn _ _ _ _ _); assumption))
local macro_rules | `(tactic| ktr_rel) => `(tactic| first | ((with_reducible show ReadIn _ _ _ _ _); refine' ReadIn.mono ?f9 ?s9; (case s9 => first | assumption | exact Sub.cons Sub.rfl); (case f9 => ktr_rel)) | fail "ktr_rel: ReadIn")
local macro_rules | `(tactic| ktr_rel) => `(tactic| ((with_reducible show ReadIn _ _ _ _ _); assumption))

local macro_rules | `(tactic| walk_at "call ref") => `(tactic| (k_here; (with_reducible show wpAny _ _ (call (Value.ref 49) [Value.ref _, Value.ref _]) _ _ _); k_dflt (refine' Tl.use (w_add ?hx ?hy ?C ?hP ?hQ) ?k1 ?k2 ?k3 ?k4 ?k5 ?k6 ?k7 ?k8 ?_; (case k1 => k_asm); (case k2 => k_asm); (case k3 => k_asm); (case k4 => k_asm); (case k5 => k_asm); (case k6 => first | exact rfl | assumption); (case hx => ktr_rel); (case hy => ktr_rel); (case C => assumption); (case hP => assumption); (case hQ => assumption); (case k7 => ktr_room); (case k8 => ktr_units)); intro r9 h9 tk9 l9 p9 S9 F9 N9; obtain ⟨x9, hr9, hx9⟩ := p9; subst hr9; (try dsimp only); (try k_fold); (try k_sweep)))
local macro_rules | `(tactic| walk_at "call ref") => `(tactic| (k_here; (with_reducible show wpAny _ _ (call (Value.ref 63) [Value.ref _]) _ _ _); k_dflt (refine' Tl.use (w_neg ?hx ?C) ?k1 ?k2 ?k3 ?k4 ?k5 ?k6 ?k7 ?k8 ?_; (case k1 => k_asm); (case k2 => k_asm); (case k3 => k_asm); (case k4 => k_asm); (case k5 => k_asm); (case k6 => first | exact rfl | assumption); (case hx => ktr_rel); (case C => assumption); (case k7 => ktr_room); (case k8 => ktr_units)); intro r9 h9 tk9 l9 p9 S9 F9 N9; obtain ⟨x9, hr9, hx9⟩ := p9; subst hr9; (try dsimp only); (try k_fold); (try k_sweep)))
local macro_rules | `(tactic| walk_at "call ref") => `(tactic| (k_here; (with_reducible show wpAny _ _ (call (Value.ref 42) [Value.ref _]) _ _ _); k_dflt (refine' Tl.use (w_dbl ?hx ?C ?hP) ?k1 ?k2 ?k3 ?k4 ?k5 ?k6 ?k7 ?k8 ?_; (case k1 => k_asm); (case k2 => k_asm); (case k3 => k_asm); (case k4 => k_asm); (case k5 => k_asm); (case k6 => first | exact rfl | assumption); (case hx => ktr_rel); (case C => assumption); (case hP => assumption); (case k7 => ktr_room); (case k8 => ktr_units)); intro r9 h9 tk9 l9 p9 S9 F9 N9; obtain ⟨x9, hr9, hx9⟩ := p9; subst hr9; (try dsimp only); (try k_fold); (try k_sweep)))
local macro_rules | `(tactic| walk_at "call ref") => `(tactic| (k_here; (with_reducible show wpAny _ _ (call (Value.ref 279) [Value.ref _, _, Value.int _ _]) _ _ _); k_dflt (refine' Tl.use (w_readD ?hx ?hv ?e ?C ?hQ) ?k1 ?k2 ?k3 ?k4 ?k5 ?k6 ?k7 ?k8 ?_; (case k1 => k_asm); (case k2 => k_asm); (case k3 => k_asm); (case k4 => k_asm); (case k5 => k_asm); (case k6 => first | exact rfl | assumption); (case hx => ktr_rel); (case hv => first | exact PtIn.nil rfl | ktr_rel); (case e => first | rfl | assumption | (refine Eq.symm ?_; assumption)); (case C => assumption); (case hQ => first | assumption | exact onC_none); (case k7 => ktr_room); (case k8 => ktr_units)); intro r9 h9 tk9 l9 p9 S9 F9 N9; subst p9; (try dsimp only); (try k_fold); (try k_sweep)))
local macro_rules | `(tactic| walk_at "call ref") => `(tactic| (k_here; (with_reducible show wpAny _ _ (call (Value.ref 279) [Value.ref _, _, Value.int _ _]) _ _ _); k_dflt (refine' Tl.use (w_read ?hx ?hv ?e ?C ?hQ) ?k1 ?k2 ?k3 ?k4 ?k5 ?k6 ?k7 ?k8 ?_; (case k1 => k_asm); (case k2 => k_asm); (case k3 => k_asm); (case k4 => k_asm); (case k5 => k_asm); (case k6 => first | exact rfl | assumption); (case hx => ktr_rel); (case hv => first | exact PtIn.nil rfl | ktr_rel); (case e => first | rfl | assumption | (refine Eq.symm ?_; assumption)); (case C => assumption); (case hQ => first | assumption | exact onC_none); (case k7 => ktr_room); (case k8 => ktr_units)); intro r9 h9 tk9 l9 p9 S9 F9 N9; subst p9; (try dsimp only); (try k_fold); (try k_sweep)))
local macro_rules | `(tactic| walk_at "call ref") => `(tactic| (k_here; (with_reducible show wpAny _ _ (call (Value.ref 56) [Value.ref _, Value.ref _]) _ _ _); k_dflt (refine' Tl.use (w_eq ?hx ?hy ?C ?hP ?hQ) ?k1 ?k2 ?k3 ?k4 ?k5 ?k6 ?k7 ?k8 ?_; (case k1 => k_asm); (case k2 => k_asm); (case k3 => k_asm); (case k4 => k_asm); (case k5 => k_asm); (case k6 => first | exact rfl | assumption); (case hx => ktr_rel); (case hy => ktr_rel); (case C => assumption); (case hP => assumption); (case hQ => assumption); (case k7 => ktr_room); (case k8 => ktr_units)); intro r9 h9 tk9 l9 p9 S9 F9 N9; subst p9; (try dsimp only); (try k_fold); (try k_sweep)))
local macro_rules | `(tactic| walk_at "call ref") => `(tactic| (k_here; (with_reducible show wpAny _ _ (call (Value.ref 56) [Value.ref _, Value.ref _]) _ _ _); k_dflt (refine' Tl.use (w_eqS ?hx ?hy ?e ?C ?hP ?hQ) ?k1 ?k2 ?k3 ?k4 ?k5 ?k6 ?k7 ?k8 ?_; (case k1 => k_asm); (case k2 => k_asm); (case k3 => k_asm); (case k4 => k_asm); (case k5 => k_asm); (case k6 => first | exact rfl | assumption); (case hx => ktr_rel); (case hy => ktr_rel); (case e => first | rfl | assumption | (refine Eq.symm ?_; assumption)); (case C => assumption); (case hP => assumption); (case hQ => assumption); (case k7 => ktr_room); (case k8 => ktr_units)); intro r9 h9 tk9 l9 p9 S9 F9 N9; subst p9; (try dsimp only); (try k_fold); (try k_sweep)))
local macro_rules | `(tactic| walk_at "call ref") => `(tactic| (k_here; (with_reducible show wpAny _ _ (call (Value.ref 35) [Value.ref _, Value.ref _]) _ _ _); k_dflt (refine' Tl.use (w_on ?hx ?hy ?C ?hP) ?k1 ?k2 ?k3 ?k4 ?k5 ?k6 ?k7 ?k8 ?_; (case k1 => k_asm); (case k2 => k_asm); (case k3 => k_asm); (case k4 => k_asm); (case k5 => k_asm); (case k6 => first | exact rfl | assumption); (case hx => ktr_rel); (case hy => ktr_rel); (case C => assumption); (case hP => assumption); (case k7 => ktr_room); (case k8 => ktr_units)); intro r9 h9 tk9 l9 p9 S9 F9 N9; subst p9; (try dsimp only); (try k_fold); (try k_sweep)))
local macro_rules | `(tactic| walk_at "call ref") => `(tactic| (k_here; (with_reducible show wpAny _ _ (call (Value.ref 28) [Value.ref _]) _ _ _); k_dflt (refine' Tl.use (w_inf ?hx ?C) ?k1 ?k2 ?k3 ?k4 ?k5 ?k6 ?k7 ?k8 ?_; (case k1 => k_asm); (case k2 => k_asm); (case k3 => k_asm); (case k4 => k_asm); (case k5 => k_asm); (case k6 => first | exact rfl | assumption); (case hx => ktr_rel); (case C => assumption); (case k7 => ktr_room); (case k8 => ktr_units)); intro r9 h9 tk9 l9 p9 S9 F9 N9; subst p9; (try dsimp only); (try k_fold); (try k_sweep)))
local macro_rules | `(tactic| walk_at "call ref") => `(tactic| (k_here; (with_reducible show wpAny _ _ (call (Value.ref 272) [_, Value.int _ _, Value.int _ _]) _ _ _); k_dflt (refine' Tl.use (w_form ?hv ?C ?hP ?h1 ?h2) ?k1 ?k2 ?k3 ?k4 ?k5 ?k6 ?k7 ?k8 ?_; (case k1 => k_asm); (case k2 => k_asm); (case k3 => k_asm); (case k4 => k_asm); (case k5 => k_asm); (case k6 => first | exact rfl | assumption); (case hv => ktr_rel); (case C => assumption); (case hP => assumption); (case h1 => exact fm1 (by assumption)); (case h2 => exact fm2 (by assumption)); (case k7 => ktr_room); (case k8 => ktr_units)); intro r9 h9 tk9 l9 p9 S9 F9 N9; obtain ⟨x9, own9, hr9, ho9, hy9⟩ := p9; subst hr9; (try dsimp only); (try k_fold); (try k_sweep)))
local macro_rules | `(tactic| walk_at "subscriptTail Name Name ref int") => `(tactic| (k_here; (with_reducible show wpAny _ _ (subscriptTail _ _ (Value.ref _) (Value.int _ _)) _ _ _); k_dflt (refine' item_listL (l := [_, _, _]) ?k1 ?k2 ?k3 ?k4 ?_; (case k1 => exact News.isList (by k_asm) (by k_mem)); (case k2 => decide); (case k3 => decide); (case k4 => rfl); k_whole)))
local macro_rules | `(tactic| walk_at "subscriptTail Name Constant ref int") => `(tactic| (k_here; (with_reducible show wpAny _ _ (subscriptTail _ _ (Value.ref _) (Value.int _ _)) _ _ _); k_dflt (refine' item_listL (l := [_, _, _]) ?k1 ?k2 ?k3 ?k4 ?_; (case k1 => exact News.isList (by k_asm) (by k_mem)); (case k2 => decide); (case k3 => decide); (case k4 => rfl); k_whole)))
local macro_rules | `(tactic| walk_at "subscriptTail Name BinOp ref int") => `(tactic| (k_here; (with_reducible show wpAny _ _ (subscriptTail _ _ (Value.ref _) (Value.int _ _)) _ _ _); k_dflt (refine' item_list_ints ?k1 ?k2 ?k3 ?k4 ?k5 ?_; (case k2 => assumption); (case k1 => exact News.isList (by k_asm) (by k_mem)); (case k3 => decide); (case k4 => omega); (case k5 => decide); k_whole); intro _))

local macro_rules | `(tactic| walk_at "call ref") => `(tactic| ((with_reducible show wpAny _ _ (call (Value.ref 244) _) _ _ _); refine stop_of ?_))
local macro_rules | `(tactic| walk_at "call ref") => `(tactic| ((with_reducible show wpAny _ _ (call (Value.ref 284) _) _ _ _); refine stop_of ?_))
local macro_rules | `(tactic| walk_at "CompSrc") => `(tactic| refine stop_of ?_)
local macro_rules | `(tactic| walk_at "eval ListComp") => `(tactic| (k_here; k_dflt (refine LCg.ListComp_U (F₀ := by k_asm) (by with_unfolding_all rfl) (by decide) (by rfl) (by decide) (by rfl) ?_)))

theorem apart_seq {h₀ h : Heap} {L a c : Addr} {l : List (Addr × Obj)} {cls : Value} {xs : Array Value} {k : Nat} {o : Obj} {v₀ : Option Value} (N : News h₀ L h l) (ha : (a, { cls := cls, data := .seq xs k }) ∈ l) (hc : (c, o) ∈ l) (hd : o.data = .cell v₀) : a ≠ c :=
  Mine.News.apart N ha hc (by rw [hd]; exact fun e => Data.noConfusion e)
theorem PtIn.off {h₀ h : Heap} {L c : Addr} {l : List (Addr × Obj)} {o o' : Obj} {v₀ : Option Value} {v : Value} {P : Pt} (N : News h₀ L h l) (hc : (c, o) ∈ l) (hd : o.data = .cell v₀) (hv : PtIn l v P) : PtIn ((c, o') :: offC c l) v P := by
  match P, hv with
  | none, hv => exact hv
  | some (x, y), ⟨a, t, u, hv, hm⟩ => exact ⟨a, t, u, hv, .tail _ (offC_mem hm (apart_seq N hm hc hd))⟩
theorem keep5 {l : List (Addr × Obj)} {p1 p3 p4 p5 q : Addr × Obj} {c : Addr} {o o' : Obj} (S : Sub [p1, (c, o), p3, p4, p5] l) (hq : q ∈ l) (h1 : p1.1 ≠ c) (h3 : p3.1 ≠ c) (h4 : p4.1 ≠ c) (h5 : p5.1 ≠ c) (h6 : q.1 ≠ c) :
    Sub [p1, (c, o'), p3, p4, p5, q] ((c, o') :: offC c l) := by
  intro p hp
  simp only [List.mem_cons, List.not_mem_nil, or_false] at hp
  rcases hp with rfl | rfl | rfl | rfl | rfl | rfl
  · exact .tail _ (offC_mem (S _ (by simp)) h1)
  · exact .head _
  · exact .tail _ (offC_mem (S _ (by simp)) h3)
  · exact .tail _ (offC_mem (S _ (by simp)) h4)
  · exact .tail _ (offC_mem (S _ (by simp)) h5)
  · exact .tail _ (offC_mem hq h6)
theorem fm1 {z q : Int} (h : 1 < q) : 1 ≤ 1 + z.fmod (q - 1) := by have := fmod_lo z (n := q - 1) (by omega); omega
theorem fm2 {z q : Int} (h : 1 < q) : 1 + z.fmod (q - 1) < q := by have := fmod_hi z (n := q - 1) (by omega); omega
def nth3 (a b c : Pt) : Nat → Pt
  | 0 => a
  | 1 => b
  | _ => c
local macro_rules | `(tactic| walk_at "call ref") => `(tactic| ((with_reducible show wpAny _ _ (call (Value.ref 272) _) _ _ _); refine stop_of ?_))
theorem law_holds : PySem.Challenge.rw_kh0008_01.Holds := hd (by
  k_go0
  (all_goals try k_fold)
  k_steps
  unfold Stop
  refine LCg.CompSrc.range (n := 9) (by rfl) (by k_asm) (by k_asm) (by assumption) (by decide) (by rfl) (by rw [PySem.sizeLine_eq]; exact Nat.le_of_ble_eq_true rfl) ?_
  intro g₂
  refine rest_pure (fun _ y => ∃ z t, y = Value.int z t ∧ 0 ≤ z) ?_ ?_
  · intro i v I oI C oC D m₂ ys h2 tk2 E' hi2 hv hC hx F2 N2
    obtain ⟨t, rfl⟩ := hv
    have hi9 : (0 : Int) + (i : Int) < 9 := by omega
    have hi0 : (0 : Int) ≤ (0 : Int) + (i : Int) := by omega
    generalize (0 : Int) + (i : Int) = k at *
    k_steps
    all_goals exact ⟨_, _, rfl, by assumption, by assumption, _, _, rfl, by omega⟩
  · intro ys hlen9 hR D h2 tk2 F2 N2 o2
    obtain ⟨gs, hgi, hgl, hgn⟩ := ints_of ys hR
    have hG : Given gs := ⟨by omega, hgn⟩
    have hlen := hG.len
    have g0 := hgn 0
    have g1 := hgn 1
    simp only [LCg.Off1, and_true] at o2
    k_steps
    unfold Stop
    k_dflt (refine' Tl.use (c_prime _ _ (hgn _)) ?k1 ?k2 ?k3 ?k4 ?k5 ?k6 ?k7 ?k8 ?_; (case k1 => k_asm); (case k2 => k_asm); (case k3 => k_asm); (case k4 => k_asm); (case k5 => k_asm); (case k6 => first | exact rfl | assumption); (case k7 => ktr_room); (case k8 => ktr_units))
    intro r9 h9 tk9 l9 p9 S9 F9 N9
    obtain ⟨q, uq, rfl, hq⟩ := p9
    replace N9 := News.cut N9 S9
    clear S9
    have hp := good_pm hq
    have hq1 := PM.one_lt hp
    have hsl := fmod_lo (gs.getD (1 : Int).toNat 0) (n := q - 1) (by omega)
    have hsh := fmod_hi (gs.getD (1 : Int).toNat 0) (n := q - 1) (by omega)
    try dsimp only
    try k_fold
    k_steps
    unfold Stop
    generalize hb : 1 + (gs.getD (1 : Int).toNat 0).fmod (q - 1) = b at *
    have C : Curve q b := ⟨hq, by omega, by omega⟩
    k_dflt (refine' Tl.use (c_points ?hg hgi hG b _ q _ hp (sums_of C)) ?k1 ?k2 ?k3 ?k4 ?k5 ?k6 ?k7 ?k8 ?_; (case k1 => k_asm); (case k2 => k_asm); (case k3 => k_asm); (case k4 => k_asm); (case hg => k_mem); (case k5 => k_asm); (case k6 => first | exact rfl | assumption); (case k7 => ktr_room); (case k8 => ktr_units))
    intro r9 h9 tk9 l9 p9 S9 F9 N9
    obtain ⟨ap, kp, v1, v2, v3, P1, P2, P3, rfl, hpl, hv1, hv2, hv3, hc1, hc2, hc3⟩ := p9
    try dsimp only
    try k_fold
    k_steps
    k_dflt (refine' storeX_F F9 N9 rfl (S9 _ (.tail _ (.head _))) ?hd ?_; (case hd => assumption))
    intro hP oP FP NP dP
    have SP := keep5 (o' := oP) S9 hpl (Ne.symm o2.1) (Nat.ne_of_lt (Nat.lt_succ_self _)) (Nat.ne_of_lt (Nat.lt_succ_of_lt (Nat.lt_succ_self _))) (Nat.ne_of_lt (Nat.lt_succ_of_lt (Nat.lt_succ_of_lt (Nat.lt_succ_self _)))) (apart_seq N9 hpl (S9 _ (.tail _ (.head _))) (by assumption))
    have hw1 := PtIn.off (o' := oP) N9 (S9 _ (.tail _ (.head _))) (by assumption) hv1
    have hw2 := PtIn.off (o' := oP) N9 (S9 _ (.tail _ (.head _))) (by assumption) hv2
    have hw3 := PtIn.off (o' := oP) N9 (S9 _ (.tail _ (.head _))) (by assumption) hv3
    clear S9 hv1 hv2 hv3 hpl F9 N9
    generalize (_, oP) :: offC _ l9 = LP at NP SP hw1 hw2 hw3
    k_steps
    unfold Stop
    refine LCg.CompSrc.range (n := 3) (by rfl) (by k_asm) (by k_asm) (by assumption) (by decide) (by rfl) (by rw [PySem.sizeLine_eq]; exact Nat.le_of_ble_eq_true rfl) ?_
    intro g₂
    rename World => w
    have nw0 := SP
    refine rest_own (fun i y own => ∃ z, y = .ref z ∧ RepIn w.params own z q (nth3 P1 P2 P3 i)) trivial (fun _ _ _ _ => trivial) (fun i v l l' h k => let ⟨z, e, a⟩ := h; ⟨z, e, a.mono k⟩) ?_ ?_
    · intro i v I oI C9 oC D9 m₂ ys2 nw h2 tk2 E' hi2 hv hsub hC hx F2 N2
      replace SP := SP.trans hsub
      replace hw1 := hw1.mono hsub
      replace hw2 := hw2.mono hsub
      replace hw3 := hw3.mono hsub
      clear hsub nw0
      obtain ⟨t, rfl⟩ := hv
      rcases (by omega : i = 0 ∨ i = 1 ∨ i = 2) with rfl | rfl | rfl
      · replace hx : m₂ _ = some (Value.int 0 t) := hx
        k_steps
        unfold Stop
        k_dflt (refine' Tl.use (w_form ?hv ?C ?hP ?h1 ?h2) ?k1 ?k2 ?k3 ?k4 ?k5 ?k6 ?k7 ?k8 ?_; (case k1 => k_asm); (case k2 => k_asm); (case k3 => k_asm); (case k4 => k_asm); (case k5 => k_asm); (case k6 => first | exact rfl | assumption); (case hv => ktr_rel); (case C => assumption); (case hP => assumption); (case h1 => exact fm1 (by assumption)); (case h2 => exact fm2 (by assumption)); (case k7 => ktr_room); (case k8 => ktr_units))
        intro r9 h9 tk9 l9 p9 S9 F9 N9
        obtain ⟨x9, own9, hr9, ho9, hy9⟩ := p9
        subst hr9
        try dsimp only
        try k_fold
        try k_sweep
        k_steps
        exact ⟨_, _, _, _, rfl, by assumption, by assumption, by assumption, by assumption, ⟨_, rfl, by assumption⟩⟩
      · replace hx : m₂ _ = some (Value.int 1 t) := hx
        k_steps
        unfold Stop
        k_dflt (refine' Tl.use (w_form ?hv ?C ?hP ?h1 ?h2) ?k1 ?k2 ?k3 ?k4 ?k5 ?k6 ?k7 ?k8 ?_; (case k1 => k_asm); (case k2 => k_asm); (case k3 => k_asm); (case k4 => k_asm); (case k5 => k_asm); (case k6 => first | exact rfl | assumption); (case hv => ktr_rel); (case C => assumption); (case hP => assumption); (case h1 => exact fm1 (by assumption)); (case h2 => exact fm2 (by assumption)); (case k7 => ktr_room); (case k8 => ktr_units))
        intro r9 h9 tk9 l9 p9 S9 F9 N9
        obtain ⟨x9, own9, hr9, ho9, hy9⟩ := p9
        subst hr9
        try dsimp only
        try k_fold
        try k_sweep
        k_steps
        exact ⟨_, _, _, _, rfl, by assumption, by assumption, by assumption, by assumption, ⟨_, rfl, by assumption⟩⟩
      · replace hx : m₂ _ = some (Value.int 2 t) := hx
        k_steps
        unfold Stop
        k_dflt (refine' Tl.use (w_form ?hv ?C ?hP ?h1 ?h2) ?k1 ?k2 ?k3 ?k4 ?k5 ?k6 ?k7 ?k8 ?_; (case k1 => k_asm); (case k2 => k_asm); (case k3 => k_asm); (case k4 => k_asm); (case k5 => k_asm); (case k6 => first | exact rfl | assumption); (case hv => ktr_rel); (case C => assumption); (case hP => assumption); (case h1 => exact fm1 (by assumption)); (case h2 => exact fm2 (by assumption)); (case k7 => ktr_room); (case k8 => ktr_units))
        intro r9 h9 tk9 l9 p9 S9 F9 N9
        obtain ⟨x9, own9, hr9, ho9, hy9⟩ := p9
        subst hr9
        try dsimp only
        try k_fold
        try k_sweep
        k_steps
        exact ⟨_, _, _, _, rfl, by assumption, by assumption, by assumption, by assumption, ⟨_, rfl, by assumption⟩⟩
    · intro ys3 nw hsub hlen3 hR3 D9 h2 tk2 F2 N2 o3
      obtain ⟨y0, y1, y2, rfl⟩ : ∃ y0 y1 y2, ys3 = [y0, y1, y2] := by
        match ys3, hlen3 with
        | [a, b, c], _ => exact ⟨a, b, c, rfl⟩
      obtain ⟨f1, rfl, hf1⟩ := hR3 0 y0 rfl
      obtain ⟨f2, rfl, hf2⟩ := hR3 1 y1 rfl
      obtain ⟨f3, rfl, hf3⟩ := hR3 2 y2 rfl
      replace hf1 : RepIn w.params nw f1 q P1 := hf1
      replace hf2 : RepIn w.params nw f2 q P2 := hf2
      replace hf3 : RepIn w.params nw f3 q P3 := hf3
      replace SP := SP.trans hsub
      replace hw1 := hw1.mono hsub
      replace hw2 := hw2.mono hsub
      replace hw3 := hw3.mono hsub
      have hS := sums_of C
      have hs12 := hS.sum _ _ hc1 hc2
      have hs23 := hS.sum _ _ hc2 hc3
      have hs21 := hS.sum _ _ hc2 hc1
      have hs123 := hS.sum _ _ hs12 hc3
      have hs123' := hS.sum _ _ hc1 hs23
      have ho1 := hS.opp _ hc1
      have hs1o := hS.sum _ _ hc1 ho1
      have hs11 := hS.sum _ _ hc1 hc1
      have hcomm := sum_comm C hc2 hc1
      have hassoc := sum_assoc C hc1 hc2 hc3
      have hopp := sum_opp_self C hc1
      clear hS
      k_steps)
end Mine
theorem PySem.Challenge.cw_kh0008_01_holds : PySem.Challenge.rw_kh0008_01.Holds :=
  Mine.law_holds
