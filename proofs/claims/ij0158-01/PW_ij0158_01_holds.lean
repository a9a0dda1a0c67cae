import PyProof.Rows.All
import Wide.All
import OpenK.AllK
import Wide.FinOn
import PySem.Challenge.RW_ij0158_01
set_option Elab.async false

section PartPlain
namespace Mine

/-- how many k below 2^n the family has -/
def card : Nat → (Nat → Bool) → Nat
  | 0, F => (F 0).toNat
  | n + 1, F => card n (fun k => F (2 * k)) + card n (fun k => F (2 * k + 1))

/-- the sets that a family shatters, split by the lowest place -/
def str : Nat → (Nat → Bool) → Nat → Bool
  | 0, F => fun _ => F 0
  | n + 1, F => fun s => if s % 2 = 0 then str n (fun k => F (2 * k) || F (2 * k + 1)) (s / 2)
      else str n (fun k => F (2 * k)) (s / 2) && str n (fun k => F (2 * k + 1)) (s / 2)

/-- the sets that a family shatters strongly -/
def sst : Nat → (Nat → Bool) → Nat → Bool
  | 0, F => fun _ => F 0
  | n + 1, F => fun s => if s % 2 = 0 then sst n (fun k => F (2 * k)) (s / 2) || sst n (fun k => F (2 * k + 1)) (s / 2)
      else sst n (fun k => F (2 * k) && F (2 * k + 1)) (s / 2)

def le (n : Nat) (F G : Nat → Bool) : Prop := ∀ k, k < 2 ^ n → F k = true → G k = true

theorem pow_s (n : Nat) : 2 ^ (n + 1) = 2 * 2 ^ n := by rw [Nat.pow_succ, Nat.mul_comm]
theorem d0 (t : Nat) : 2 * t / 2 = t := Nat.mul_div_cancel_left t Nat.zero_lt_two
theorem d1 (t : Nat) : (2 * t + 1) / 2 = t := by
  rw [Nat.mul_add_div Nat.zero_lt_two]; rfl
theorem m0 (t : Nat) : 2 * t % 2 = 0 := Nat.mul_mod_right 2 t
theorem m1 (t : Nat) : (2 * t + 1) % 2 = 1 := Nat.mul_add_mod 2 t 1
theorem x0 {x : Nat} (h : x % 2 = 0) : 2 * (x / 2) = x := Nat.mul_div_cancel' (Nat.dvd_of_mod_eq_zero h)
theorem x1 {x : Nat} (h : x % 2 = 1) : 2 * (x / 2) + 1 = x := by
  have := Nat.div_add_mod x 2
  rwa [h] at this
theorem lt_0 {n k : Nat} (h : k < 2 ^ n) : 2 * k < 2 ^ (n + 1) := by
  rw [pow_s]; exact Nat.mul_lt_mul_of_pos_left h Nat.zero_lt_two
theorem lt_1 {n k : Nat} (h : k < 2 ^ n) : 2 * k + 1 < 2 ^ (n + 1) := by
  rw [pow_s]; exact Nat.lt_of_lt_of_le (Nat.lt_succ_self _) (Nat.mul_le_mul_left 2 h)
theorem lt_h {n k : Nat} (h : k < 2 ^ (n + 1)) : k / 2 < 2 ^ n := Nat.div_lt_of_lt_mul (by rw [← pow_s]; exact h)
theorem odd {k : Nat} (h : ¬ k % 2 = 0) : k % 2 = 1 := (Nat.mod_two_eq_zero_or_one k).resolve_left h

theorem le_L {n : Nat} {F G : Nat → Bool} (h : le (n + 1) F G) : le n (fun k => F (2 * k)) (fun k => G (2 * k)) := by
  intro k hk hf
  exact h (2 * k) (lt_0 hk) hf
theorem le_R {n : Nat} {F G : Nat → Bool} (h : le (n + 1) F G) : le n (fun k => F (2 * k + 1)) (fun k => G (2 * k + 1)) := by
  intro k hk hf
  exact h (2 * k + 1) (lt_1 hk) hf
theorem le_of_LR {n : Nat} {F G : Nat → Bool} (h1 : le n (fun k => F (2 * k)) (fun k => G (2 * k))) (h2 : le n (fun k => F (2 * k + 1)) (fun k => G (2 * k + 1))) : le (n + 1) F G := by
  intro k hk hf
  rcases Nat.mod_two_eq_zero_or_one k with h | h
  · rw [← x0 h] at hf ⊢
    exact h1 (k / 2) (lt_h hk) hf
  · rw [← x1 h] at hf ⊢
    exact h2 (k / 2) (lt_h hk) hf

theorem ends4 {a b c d : Nat} (h1 : a ≤ b) (h2 : c ≤ d) (h : b + d ≤ a + c) : b ≤ a ∧ d ≤ c := by omega
theorem card_le : ∀ {n : Nat} {F G : Nat → Bool}, le n F G → card n F ≤ card n G
  | 0, F, G, h => by
    have := h 0 (by decide)
    unfold card
    cases hf : F 0 <;> cases hg : G 0 <;> simp_all
  | n + 1, F, G, h => by
    exact Nat.add_le_add (card_le (le_L h)) (card_le (le_R h))

theorem card_eq : ∀ {n : Nat} {F G : Nat → Bool}, le n F G → card n G ≤ card n F → le n G F
  | 0, F, G, h, hc => by
    intro k hk hg
    have e : k = 0 := by simpa using hk
    subst e
    have := h 0 (by decide)
    unfold card at hc
    cases hf : F 0 <;> simp_all
  | n + 1, F, G, h, hc => by
    have e := ends4 (card_le (le_L h)) (card_le (le_R h)) hc
    exact le_of_LR (card_eq (le_L h) e.1) (card_eq (le_R h) e.2)

theorem card_sup_inf : ∀ (n : Nat) (F G : Nat → Bool), card n (fun k => F k || G k) + card n (fun k => F k && G k) = card n F + card n G
  | 0, F, G => by
    show (F 0 || G 0).toNat + (F 0 && G 0).toNat = (F 0).toNat + (G 0).toNat
    cases F 0 <;> cases G 0 <;> rfl
  | n + 1, F, G => by
    have a := card_sup_inf n (fun k => F (2 * k)) (fun k => G (2 * k))
    have b := card_sup_inf n (fun k => F (2 * k + 1)) (fun k => G (2 * k + 1))
    refine (Nat.add_add_add_comm ..).trans ?_
    rw [a, b]
    exact Nat.add_add_add_comm ..

theorem str_mono : ∀ {n : Nat} {F G : Nat → Bool}, le n F G → le n (str n F) (str n G)
  | 0, F, G, h => fun k _ hf => h 0 (by decide) hf
  | n + 1, F, G, h => by
    intro s hs hf
    unfold str at hf ⊢
    by_cases q : s % 2 = 0
    · simp only [q, if_true] at hf ⊢
      refine str_mono (n := n) (fun k hk hkf => ?_) (s / 2) (lt_h hs) hf
      rcases (Bool.or_eq_true _ _).mp hkf with h1 | h1
      · exact (Bool.or_eq_true _ _).mpr (.inl (le_L h k hk h1))
      · exact (Bool.or_eq_true _ _).mpr (.inr (le_R h k hk h1))
    · simp only [q, if_false] at hf ⊢
      obtain ⟨h1, h2⟩ := (Bool.and_eq_true _ _).mp hf
      exact (Bool.and_eq_true _ _).mpr ⟨str_mono (le_L h) (s / 2) (lt_h hs) h1, str_mono (le_R h) (s / 2) (lt_h hs) h2⟩

theorem sst_mono : ∀ {n : Nat} {F G : Nat → Bool}, le n F G → le n (sst n F) (sst n G)
  | 0, F, G, h => fun k _ hf => h 0 (by decide) hf
  | n + 1, F, G, h => by
    intro s hs hf
    unfold sst at hf ⊢
    by_cases q : s % 2 = 0
    · simp only [q, if_true] at hf ⊢
      rcases (Bool.or_eq_true _ _).mp hf with h1 | h1
      · exact (Bool.or_eq_true _ _).mpr (.inl (sst_mono (le_L h) (s / 2) (lt_h hs) h1))
      · exact (Bool.or_eq_true _ _).mpr (.inr (sst_mono (le_R h) (s / 2) (lt_h hs) h1))
    · simp only [q, if_false] at hf ⊢
      refine sst_mono (n := n) (fun k hk hkf => ?_) (s / 2) (lt_h hs) hf
      obtain ⟨h1, h2⟩ := (Bool.and_eq_true _ _).mp hkf
      exact (Bool.and_eq_true _ _).mpr ⟨le_L h k hk h1, le_R h k hk h2⟩

theorem str_L (n : Nat) (F : Nat → Bool) : (fun k => str (n + 1) F (2 * k)) = str n (fun k => F (2 * k) || F (2 * k + 1)) := by
  funext k
  simp only [str, m0, d0, if_true]
theorem str_R (n : Nat) (F : Nat → Bool) : (fun k => str (n + 1) F (2 * k + 1)) = fun k => str n (fun k => F (2 * k)) k && str n (fun k => F (2 * k + 1)) k := by
  funext k
  simp only [str, m1, d1, Nat.one_ne_zero, if_false]
theorem sst_L (n : Nat) (F : Nat → Bool) : (fun k => sst (n + 1) F (2 * k)) = fun k => sst n (fun k => F (2 * k)) k || sst n (fun k => F (2 * k + 1)) k := by
  funext k
  simp only [sst, m0, d0, if_true]
theorem sst_R (n : Nat) (F : Nat → Bool) : (fun k => sst (n + 1) F (2 * k + 1)) = sst n (fun k => F (2 * k) && F (2 * k + 1)) := by
  funext k
  simp only [sst, m1, d1, Nat.one_ne_zero, if_false]

theorem tight {a b u i sa sb su si sj ss : Nat} (a1 : sa ≤ a) (b1 : sb ≤ b) (u1 : su ≤ u) (i1 : si ≤ i) (e : u + i = a + b) (f : ss + sj = sa + sb) (g3 : si ≤ sj) (g4 : ss ≤ su)
    (h : ss + si = a + b) : sa = a ∧ sb = b ∧ su = u ∧ si = i ∧ sj ≤ i := by
  have k1 : a + b ≤ sa + sb := by rw [← h, ← f]; exact Nat.add_le_add_left g3 _
  have k2 : ss + sj ≤ ss + si := by rw [f, h]; exact Nat.add_le_add a1 b1
  obtain ⟨p, q⟩ := ends4 a1 b1 k1
  obtain ⟨r, t⟩ := ends4 (Nat.le_trans g4 u1) i1 (Nat.le_of_eq (e.trans h.symm))
  exact ⟨Nat.le_antisymm a1 p, Nat.le_antisymm b1 q, Nat.le_antisymm u1 (Nat.le_trans r g4), Nat.le_antisymm i1 t, Nat.le_trans (Nat.le_of_add_le_add_left k2) i1⟩
theorem tight' {a b u i sa sb su si sj ss : Nat} (a2 : a ≤ sa) (b2 : b ≤ sb) (u2 : u ≤ su) (i2 : i ≤ si) (e : u + i = a + b) (f : ss + sj = sa + sb) (g1 : si ≤ sj) (g2 : ss ≤ su)
    (h : su + sj = a + b) : sa = a ∧ sb = b ∧ si = i ∧ su = u ∧ u ≤ ss := by
  have k1 : sa + sb ≤ a + b := by rw [← h, ← f]; exact Nat.add_le_add_right g2 _
  have k2 : su + sj ≤ ss + sj := by rw [f, h]; exact Nat.add_le_add a2 b2
  obtain ⟨p, q⟩ := ends4 a2 b2 k1
  obtain ⟨r, t⟩ := ends4 u2 (Nat.le_trans i2 g1) (Nat.le_of_eq (h.trans e.symm))
  exact ⟨Nat.le_antisymm p a2, Nat.le_antisymm q b2, Nat.le_antisymm (Nat.le_trans g1 t) i2, Nat.le_antisymm r u2, Nat.le_trans u2 (Nat.le_of_add_le_add_right k2)⟩

/-- Pajor and its reverse, with the two ends that meet -/
theorem pajor : ∀ (n : Nat) (F : Nat → Bool), le n (sst n F) (str n F) ∧ card n (sst n F) ≤ card n F ∧ card n F ≤ card n (str n F) ∧ (card n (sst n F) = card n F ↔ card n (str n F) = card n F)
  | 0, F => ⟨fun k _ h => h, Nat.le_refl _, Nat.le_refl _, Iff.rfl⟩
  | n + 1, F => by
    let A : Nat → Bool := fun k => F (2 * k)
    let B : Nat → Bool := fun k => F (2 * k + 1)
    let U : Nat → Bool := fun k => A k || B k
    let I : Nat → Bool := fun k => A k && B k
    obtain ⟨lA, a1, a2, a3⟩ := pajor n A
    obtain ⟨lB, b1, b2, b3⟩ := pajor n B
    obtain ⟨lU, u1, u2, u3⟩ := pajor n U
    obtain ⟨lI, i1, i2, i3⟩ := pajor n I
    have hAU : le n A U := fun k _ h => (Bool.or_eq_true _ _).mpr (.inl h)
    have hBU : le n B U := fun k _ h => (Bool.or_eq_true _ _).mpr (.inr h)
    have hIA : le n I A := fun k _ h => ((Bool.and_eq_true _ _).mp h).1
    have hIB : le n I B := fun k _ h => ((Bool.and_eq_true _ _).mp h).2
    have sup_le : ∀ {P Q R : Nat → Bool}, le n P R → le n Q R → le n (fun k => P k || Q k) R := fun h1 h2 k hk h => ((Bool.or_eq_true _ _).mp h).elim (h1 k hk) (h2 k hk)
    have le_inf : ∀ {P Q R : Nat → Bool}, le n R P → le n R Q → le n R (fun k => P k && Q k) := fun h1 h2 k hk h => (Bool.and_eq_true _ _).mpr ⟨h1 k hk h, h2 k hk h⟩
    have sup_mono : ∀ {P Q P' Q' : Nat → Bool}, le n P P' → le n Q Q' → le n (fun k => P k || Q k) (fun k => P' k || Q' k) := fun h1 h2 k hk h => (Bool.or_eq_true _ _).mpr (((Bool.or_eq_true _ _).mp h).imp (h1 k hk) (h2 k hk))
    have inf_mono : ∀ {P Q P' Q' : Nat → Bool}, le n P P' → le n Q Q' → le n (fun k => P k && Q k) (fun k => P' k && Q' k) := fun h1 h2 k hk h => (Bool.and_eq_true _ _).mpr (((Bool.and_eq_true _ _).mp h).imp (h1 k hk) (h2 k hk))
    have e1 : card (n + 1) F = card n A + card n B := rfl
    have e2 : card n U + card n I = card n A + card n B := card_sup_inf n A B
    have e3 : card (n + 1) (str (n + 1) F) = card n (str n U) + card n (fun k => str n A k && str n B k) := by
      show card n (fun k => str (n + 1) F (2 * k)) + card n (fun k => str (n + 1) F (2 * k + 1)) = _
      rw [str_L, str_R]
    have e4 : card (n + 1) (sst (n + 1) F) = card n (fun k => sst n A k || sst n B k) + card n (sst n I) := by
      show card n (fun k => sst (n + 1) F (2 * k)) + card n (fun k => sst (n + 1) F (2 * k + 1)) = _
      rw [sst_L, sst_R]
    have f1 := card_sup_inf n (str n A) (str n B)
    have f2 := card_sup_inf n (sst n A) (sst n B)
    have g1 : card n (str n I) ≤ card n (fun k => str n A k && str n B k) := card_le (le_inf (str_mono hIA) (str_mono hIB))
    have g2 : card n (fun k => str n A k || str n B k) ≤ card n (str n U) := card_le (sup_le (str_mono hAU) (str_mono hBU))
    have g3 : card n (sst n I) ≤ card n (fun k => sst n A k && sst n B k) := card_le (le_inf (sst_mono hIA) (sst_mono hIB))
    have g4 : card n (fun k => sst n A k || sst n B k) ≤ card n (sst n U) := card_le (sup_le (sst_mono hAU) (sst_mono hBU))
    rw [e1, e3, e4]
    refine ⟨?_, ?_, ?_, ?_, ?_⟩
    · refine le_of_LR ?_ ?_
      · rw [str_L, sst_L]
        exact sup_le (fun k hk h => str_mono hAU k hk (lA k hk h)) (fun k hk h => str_mono hBU k hk (lB k hk h))
      · rw [str_R, sst_R]
        exact le_inf (fun k hk h => str_mono hIA k hk (lI k hk h)) (fun k hk h => str_mono hIB k hk (lI k hk h))
    · exact Nat.le_trans (Nat.add_le_add_left g3 _) (Nat.le_trans (Nat.le_of_eq f2) (Nat.add_le_add a1 b1))
    · exact Nat.le_trans (Nat.add_le_add a2 b2) (Nat.le_trans (Nat.le_of_eq f1.symm) (Nat.add_le_add_right g2 _))
    · intro h
      obtain ⟨h1, h2, h3, h4, h5⟩ := tight a1 b1 u1 i1 e2 f2 g3 g4 h
      have m1 := card_eq lA (Nat.le_of_eq ((a3.mp h1).trans h1.symm))
      have m2 := card_eq lB (Nat.le_of_eq ((b3.mp h2).trans h2.symm))
      refine Nat.le_antisymm ?_ (Nat.le_trans (Nat.add_le_add a2 b2) (Nat.le_trans (Nat.le_of_eq f1.symm) (Nat.add_le_add_right g2 _)))
      refine Nat.le_trans (Nat.add_le_add (Nat.le_of_eq (u3.mp h3)) (Nat.le_trans (card_le (inf_mono m1 m2)) h5)) ?_
      exact Nat.le_of_eq e2
    · intro h
      obtain ⟨h1, h2, h4, h3, h5⟩ := tight' a2 b2 u2 i2 e2 f1 g1 g2 h
      have m1 := card_eq lA (Nat.le_of_eq (h1.trans (a3.mpr h1).symm))
      have m2 := card_eq lB (Nat.le_of_eq (h2.trans (b3.mpr h2).symm))
      refine Nat.le_antisymm (Nat.le_trans (Nat.add_le_add_left g3 _) (Nat.le_trans (Nat.le_of_eq f2) (Nat.add_le_add a1 b1))) ?_
      refine Nat.le_trans (Nat.le_of_eq e2.symm) ?_
      exact Nat.add_le_add (Nat.le_trans h5 (card_le (sup_mono m1 m2))) (Nat.le_of_eq (i3.mpr h4).symm)

end Mine
end PartPlain

section PartPlain2
namespace Mine

/-- x seen through the places of s -/
def msk : Nat → Nat → Nat → Nat
  | 0, _, _ => 0
  | n + 1, s, x => 2 * msk n (s / 2) (x / 2) + (s % 2) * (x % 2)
def pc : Nat → Nat → Nat
  | 0, _ => 0
  | n + 1, s => s % 2 + pc n (s / 2)

theorem msk_s (n s x : Nat) : msk (n + 1) s x = 2 * msk n (s / 2) (x / 2) + (s % 2) * (x % 2) := rfl
theorem mskE {n s : Nat} (x : Nat) (q : s % 2 = 0) : msk (n + 1) s x = 2 * msk n (s / 2) (x / 2) := by rw [msk_s, q, Nat.zero_mul]; rfl
theorem mskO {n s : Nat} (x : Nat) (q : s % 2 = 1) : msk (n + 1) s x = 2 * msk n (s / 2) (x / 2) + x % 2 := by rw [msk_s, q, Nat.one_mul]
theorem e00 {a b : Nat} : 2 * a = 2 * b ↔ a = b := Nat.mul_left_cancel_iff Nat.zero_lt_two
theorem e11 {a b : Nat} : 2 * a + 1 = 2 * b + 1 ↔ a = b := Nat.succ_inj.trans e00
theorem e10 {a b : Nat} (h : 2 * a + 1 = 2 * b) : False := by
  have := congrArg (· % 2) h
  simp only [m0, m1] at this
  cases this
theorem eRR {a b x y : Nat} : 2 * a + x % 2 = 2 * b + y % 2 ↔ a = b ∧ x % 2 = y % 2 := by
  rcases Nat.mod_two_eq_zero_or_one x with h | h <;> rcases Nat.mod_two_eq_zero_or_one y with k | k <;> rw [h, k]
  · exact e00.trans ⟨fun z => ⟨z, rfl⟩, And.left⟩
  · exact ⟨fun z => (e10 z.symm).elim, fun z => by cases z.2⟩
  · exact ⟨fun z => (e10 z).elim, fun z => by cases z.2⟩
  · exact e11.trans ⟨fun z => ⟨z, rfl⟩, And.left⟩
theorem me0 {n s x y : Nat} (q : s % 2 = 0) : msk (n + 1) s x = msk (n + 1) s y ↔ msk n (s / 2) (x / 2) = msk n (s / 2) (y / 2) := by
  rw [mskE x q, mskE y q]; exact e00
theorem me1 {n s x y : Nat} (q : s % 2 = 1) : msk (n + 1) s x = msk (n + 1) s y ↔ msk n (s / 2) (x / 2) = msk n (s / 2) (y / 2) ∧ x % 2 = y % 2 := by
  rw [mskO x q, mskO y q]; exact eRR
theorem msk_lt : ∀ (n s x : Nat), msk n s x < 2 ^ n
  | 0, _, _ => Nat.zero_lt_one
  | n + 1, s, x => by
    have := msk_lt n (s / 2) (x / 2)
    rcases Nat.mod_two_eq_zero_or_one s with h | h
    · rw [mskE x h]; exact lt_0 this
    · rw [mskO x h]
      rcases Nat.mod_two_eq_zero_or_one x with k | k <;> rw [k]
      · exact lt_0 this
      · exact lt_1 this
theorem pc_le : ∀ (n s : Nat), pc n s ≤ n
  | 0, _ => Nat.le_refl _
  | n + 1, s => Nat.le_trans (Nat.add_le_add (Nat.le_of_lt_succ (Nat.mod_lt s Nat.zero_lt_two)) (pc_le n (s / 2))) (Nat.le_of_eq (Nat.add_comm 1 n))
theorem msk_msk : ∀ (n s x : Nat), msk n s (msk n s x) = msk n s x
  | 0, _, _ => rfl
  | n + 1, s, x => by
    rcases Nat.mod_two_eq_zero_or_one s with h | h
    · rw [mskE _ h, mskE _ h, d0, msk_msk]
    · rw [mskO _ h]
      rcases Nat.mod_two_eq_zero_or_one x with k | k <;> rw [mskO x h, k]
      · rw [Nat.add_zero, d0, m0, msk_msk]; rfl
      · rw [d1, m1, msk_msk]

theorem str_iff : ∀ (n : Nat) (F : Nat → Bool) (s : Nat), s < 2 ^ n → (str n F s = true ↔ ∀ t, t < 2 ^ n → ∃ x, x < 2 ^ n ∧ F x = true ∧ msk n s x = msk n s t)
  | 0, F, s, _ => by
    constructor
    · intro h t _; exact ⟨0, by decide, h, rfl⟩
    · intro h
      obtain ⟨x, hx, hf, _⟩ := h 0 (by decide)
      have e : x = 0 := Nat.lt_one_iff.mp hx
      rw [e] at hf; exact hf
  | n + 1, F, s, hs => by
    have hs2 := lt_h hs
    unfold str
    rcases Nat.mod_two_eq_zero_or_one s with q | q
    · rw [if_pos q, str_iff n _ (s / 2) hs2]
      constructor
      · intro h t ht
        obtain ⟨x, hx, hf, hm⟩ := h (t / 2) (lt_h ht)
        rcases (Bool.or_eq_true _ _).mp hf with hf | hf
        · exact ⟨2 * x, lt_0 hx, hf, (me0 q).mpr (by rw [d0]; exact hm)⟩
        · exact ⟨2 * x + 1, lt_1 hx, hf, (me0 q).mpr (by rw [d1]; exact hm)⟩
      · intro h t ht
        obtain ⟨x, hx, hf, hm⟩ := h (2 * t) (lt_0 ht)
        have hm := (me0 q).mp hm
        rw [d0] at hm
        refine ⟨x / 2, lt_h hx, (Bool.or_eq_true _ _).mpr ?_, hm⟩
        rcases Nat.mod_two_eq_zero_or_one x with k | k
        · left; rw [x0 k]; exact hf
        · right; rw [x1 k]; exact hf
    · rw [if_neg (by rw [q]; exact Nat.one_ne_zero), Bool.and_eq_true, str_iff n _ (s / 2) hs2, str_iff n _ (s / 2) hs2]
      constructor
      · rintro ⟨h1, h2⟩ t ht
        rcases Nat.mod_two_eq_zero_or_one t with k | k
        · obtain ⟨x, hx, hf, hm⟩ := h1 (t / 2) (lt_h ht)
          exact ⟨2 * x, lt_0 hx, hf, (me1 q).mpr ⟨by rw [d0]; exact hm, (m0 x).trans k.symm⟩⟩
        · obtain ⟨x, hx, hf, hm⟩ := h2 (t / 2) (lt_h ht)
          exact ⟨2 * x + 1, lt_1 hx, hf, (me1 q).mpr ⟨by rw [d1]; exact hm, (m1 x).trans k.symm⟩⟩
      · intro h
        constructor
        · intro t ht
          obtain ⟨x, hx, hf, hm⟩ := h (2 * t) (lt_0 ht)
          obtain ⟨p1, p2⟩ := (me1 q).mp hm
          rw [d0] at p1
          exact ⟨x / 2, lt_h hx, by rw [x0 (p2.trans (m0 t))]; exact hf, p1⟩
        · intro t ht
          obtain ⟨x, hx, hf, hm⟩ := h (2 * t + 1) (lt_1 ht)
          obtain ⟨p1, p2⟩ := (me1 q).mp hm
          rw [d1] at p1
          exact ⟨x / 2, lt_h hx, by rw [x1 (p2.trans (m1 t))]; exact hf, p1⟩

theorem rv00 {p k : Nat} (h : k < p) : 2 * p - 1 - 2 * k = 2 * (p - 1 - k) + 1 := by omega
theorem rv01 (p k : Nat) : 2 * p - 1 - (2 * k + 1) = 2 * (p - 1 - k) := by omega
theorem revE {n s : Nat} (q : s % 2 = 0) (h : s < 2 ^ (n + 1)) : 2 ^ (n + 1) - 1 - s = 2 * (2 ^ n - 1 - s / 2) + 1 :=
  .trans (by rw [pow_s, x0 q]) (rv00 (lt_h h))
theorem revO {n s : Nat} (q : s % 2 = 1) : 2 ^ (n + 1) - 1 - s = 2 * (2 ^ n - 1 - s / 2) :=
  .trans (by rw [pow_s, x1 q]) (rv01 (2 ^ n) (s / 2))

theorem sst_iff : ∀ (n : Nat) (F : Nat → Bool) (s : Nat), s < 2 ^ n → (sst n F (2 ^ n - 1 - s) = true ↔ ∃ t, t < 2 ^ n ∧ ∀ x, x < 2 ^ n → msk n s x = msk n s t → F x = true)
  | 0, F, s, _ => by
    constructor
    · intro h
      exact ⟨0, by decide, fun x hx _ => by rw [Nat.lt_one_iff.mp hx]; exact h⟩
    · rintro ⟨t, _, h⟩
      exact h 0 (by decide) rfl
  | n + 1, F, s, hs => by
    have hs2 := lt_h hs
    rcases Nat.mod_two_eq_zero_or_one s with q | q
    · rw [revE q hs, show sst (n + 1) F (2 * (2 ^ n - 1 - s / 2) + 1) = _ from congrFun (sst_R n F) _, sst_iff n _ (s / 2) hs2]
      constructor
      · rintro ⟨t, ht, h⟩
        refine ⟨2 * t, lt_0 ht, fun x hx hm => ?_⟩
        have hm := (me0 q).mp hm
        rw [d0] at hm
        obtain ⟨h1, h2⟩ := (Bool.and_eq_true _ _).mp (h (x / 2) (lt_h hx) hm)
        rcases Nat.mod_two_eq_zero_or_one x with k | k
        · rw [x0 k] at h1; exact h1
        · rw [x1 k] at h2; exact h2
      · rintro ⟨t, ht, h⟩
        exact ⟨t / 2, lt_h ht, fun x hx hm => (Bool.and_eq_true _ _).mpr
          ⟨h (2 * x) (lt_0 hx) ((me0 q).mpr (by rw [d0]; exact hm)), h (2 * x + 1) (lt_1 hx) ((me0 q).mpr (by rw [d1]; exact hm))⟩⟩
    · rw [revO q, show sst (n + 1) F (2 * (2 ^ n - 1 - s / 2)) = _ from congrFun (sst_L n F) _, Bool.or_eq_true, sst_iff n _ (s / 2) hs2, sst_iff n _ (s / 2) hs2]
      constructor
      · rintro (⟨t, ht, h⟩ | ⟨t, ht, h⟩)
        · refine ⟨2 * t, lt_0 ht, fun x hx hm => ?_⟩
          obtain ⟨p1, p2⟩ := (me1 q).mp hm
          rw [d0] at p1
          have := h (x / 2) (lt_h hx) p1
          rw [x0 (p2.trans (m0 t))] at this; exact this
        · refine ⟨2 * t + 1, lt_1 ht, fun x hx hm => ?_⟩
          obtain ⟨p1, p2⟩ := (me1 q).mp hm
          rw [d1] at p1
          have := h (x / 2) (lt_h hx) p1
          rw [x1 (p2.trans (m1 t))] at this; exact this
      · rintro ⟨t, ht, h⟩
        rcases Nat.mod_two_eq_zero_or_one t with k | k
        · exact .inl ⟨t / 2, lt_h ht, fun x hx hm => h (2 * x) (lt_0 hx) ((me1 q).mpr ⟨by rw [d0]; exact hm, (m0 x).trans k.symm⟩)⟩
        · exact .inr ⟨t / 2, lt_h ht, fun x hx hm => h (2 * x + 1) (lt_1 hx) ((me1 q).mpr ⟨by rw [d1]; exact hm, (m1 x).trans k.symm⟩)⟩

theorem card_congr {n : Nat} {F G : Nat → Bool} (h : ∀ k, k < 2 ^ n → (F k = true ↔ G k = true)) : card n F = card n G :=
  Nat.le_antisymm (card_le fun k hk => (h k hk).mp) (card_le fun k hk => (h k hk).mpr)
theorem card_false : ∀ n, card n (fun _ => false) = 0
  | 0 => rfl
  | n + 1 => by unfold card; rw [card_false n]
theorem card_cd {n : Nat} {P Q : Nat → Prop} [DecidablePred P] [DecidablePred Q] (h : ∀ k, P k ↔ Q k) : card n (fun k => decide (P k)) = card n (fun k => decide (Q k)) :=
  congrArg (card n) (funext fun k => decide_eq_decide.mpr (h k))
theorem card_no {n : Nat} {P : Nat → Prop} [DecidablePred P] (h : ∀ k, ¬ P k) : card n (fun k => decide (P k)) = 0 :=
  (congrArg (card n) (funext fun k => decide_eq_false (h k))).trans (card_false n)
theorem card_st {n a b c : Nat} {F : Nat → Bool} (h1 : card n (fun k => F (2 * k)) = a) (h2 : card n (fun k => F (2 * k + 1)) = b) (h : a + b = c) : card (n + 1) F = c := by
  rw [← h, ← h1, ← h2]; rfl
theorem card_sub : ∀ (n s : Nat), card n (fun t => decide (msk n s t = t)) = 2 ^ pc n s
  | 0, s => rfl
  | n + 1, s => by
    have ih := card_sub n (s / 2)
    rcases Nat.mod_two_eq_zero_or_one s with q | q
    · refine card_st ((card_cd fun k => ?_).trans ih) (card_no fun k => ?_) ?_
      · rw [mskE _ q, d0]; exact e00
      · rw [mskE _ q, d1]; exact fun z => e10 z.symm
      · rw [pc, q, Nat.zero_add]; rfl
    · refine card_st ((card_cd fun k => ?_).trans ih) ((card_cd fun k => ?_).trans ih) ?_
      · rw [mskO _ q, d0, m0]; exact e00
      · rw [mskO _ q, d1, m1]; exact e11
      · rw [pc, q, Nat.add_comm 1, pow_s, Nat.two_mul]
theorem card_fib : ∀ (n s x : Nat), card n (fun y => decide (msk n s y = msk n s x)) = 2 ^ (n - pc n s)
  | 0, _, _ => rfl
  | n + 1, s, x => by
    have ih := card_fib n (s / 2) (x / 2)
    rcases Nat.mod_two_eq_zero_or_one s with q | q
    · refine card_st ((card_cd fun k => ?_).trans ih) ((card_cd fun k => ?_).trans ih) ?_
      · rw [me0 q, d0]
      · rw [me0 q, d1]
      · rw [pc, q, Nat.zero_add, Nat.succ_sub (pc_le n (s / 2)), pow_s, Nat.two_mul]
    · rw [pc, q, Nat.add_comm 1, Nat.add_sub_add_right]
      rcases Nat.mod_two_eq_zero_or_one x with r | r
      · refine card_st ((card_cd fun k => ?_).trans ih) (card_no fun k => ?_) rfl
        · rw [me1 q, d0, m0, r]; exact and_iff_left rfl
        · rw [me1 q, m1, r]; exact fun z => nomatch z.2
      · refine card_st (card_no fun k => ?_) ((card_cd fun k => ?_).trans ih) (Nat.zero_add _)
        · rw [me1 q, m0, r]; exact fun z => nomatch z.2
        · rw [me1 q, d1, m1, r]; exact and_iff_left rfl
theorem card_rev : ∀ (n : Nat) (G : Nat → Bool), card n (fun k => G (2 ^ n - 1 - k)) = card n G
  | 0, G => rfl
  | n + 1, G => by
    have a := card_rev n (fun k => G (2 * k))
    have b := card_rev n (fun k => G (2 * k + 1))
    have h1 : card n (fun k => G (2 ^ (n + 1) - 1 - 2 * k)) = card n (fun k => G (2 * (2 ^ n - 1 - k) + 1)) :=
      card_congr fun k hk => by rw [pow_s, rv00 hk]
    have h2 : card n (fun k => G (2 ^ (n + 1) - 1 - (2 * k + 1))) = card n (fun k => G (2 * (2 ^ n - 1 - k))) :=
      card_congr fun k hk => by rw [pow_s, rv01]
    unfold card
    rw [h1, h2, a, b, Nat.add_comm]

theorem card_one : ∀ (n x : Nat), x < 2 ^ n → card n (fun k => decide (k = x)) = 1
  | 0, x, h => by rw [Nat.lt_one_iff.mp h]; rfl
  | n + 1, x, h => by
    have ih := card_one n (x / 2) (lt_h h)
    rcases Nat.mod_two_eq_zero_or_one x with q | q
    · refine card_st ((card_cd fun k => ?_).trans ih) (card_no fun k z => e10 (Eq.trans z (x0 q).symm)) rfl
      exact ⟨fun z => by rw [← z, d0], fun z => by rw [z, x0 q]⟩
    · refine card_st (card_no fun k z => e10 ((x1 q).trans (Eq.symm z))) ((card_cd fun k => ?_).trans ih) (Nat.zero_add _)
      exact ⟨fun z => by rw [← z, d1], fun z => by rw [z, x1 q]⟩
theorem card_mem {n : Nat} : ∀ (l : List Nat), l.Nodup → (∀ x ∈ l, x < 2 ^ n) → card n (fun k => decide (k ∈ l)) = l.length
  | [], _, _ => card_no fun _ h => nomatch h
  | a :: l, hn, hl => by
    obtain ⟨ha, hn⟩ := List.nodup_cons.mp hn
    have ih := card_mem l hn fun x hx => hl x (.tail _ hx)
    have h1 := card_one n a (hl a (.head _))
    have h2 := card_sup_inf n (fun k => decide (k = a)) (fun k => decide (k ∈ l))
    have h3 : card n (fun k => decide (k = a) && decide (k ∈ l)) = 0 := by
      rw [← card_false n]
      refine card_congr fun k _ => ⟨fun z => ?_, fun z => nomatch z⟩
      obtain ⟨z1, z2⟩ := (Bool.and_eq_true _ _).mp z
      exact (ha (of_decide_eq_true z1 ▸ of_decide_eq_true z2)).elim
    have h4 : card n (fun k => decide (k ∈ a :: l)) = card n (fun k => decide (k = a) || decide (k ∈ l)) :=
      card_congr fun k _ => by rw [Bool.or_eq_true, decide_eq_true_eq, decide_eq_true_eq, decide_eq_true_eq, List.mem_cons]
    rw [h3, Nat.add_zero, h1, ih, Nat.add_comm] at h2
    rw [List.length_cons, h4, h2]
end Mine
end PartPlain2

section PartPlain3
namespace Mine

/-- what the walk over xs tells, first come, by what key shows; seen: the keys told so far -/
def nubK {α β : Type} [DecidableEq β] (key : α → β) : List β → List α → List α
  | _, [] => []
  | seen, x :: l => if key x ∈ seen then nubK key seen l else x :: nubK key (key x :: seen) l

section
variable {α β γ : Type} [DecidableEq β] [DecidableEq γ]
theorem nubK_map (key : α → β) : ∀ (seen : List β) (l : List α), (nubK key seen l).map key = nubK id seen (l.map key)
  | _, [] => rfl
  | seen, x :: l => by
    unfold nubK
    rw [List.map_cons]
    by_cases h : key x ∈ seen
    · simp only [h, if_true]
      rw [nubK_map key seen l]
      simp only [nubK, id, h, if_true]
    · simp only [h, if_false, List.map_cons]
      rw [nubK_map key (key x :: seen) l]
      simp only [nubK, id, h, if_false]
theorem nubK_mem : ∀ {seen : List β} {l : List β} {x : β}, x ∈ nubK id seen l ↔ x ∈ l ∧ x ∉ seen
  | _, [], _ => by simp [nubK]
  | seen, y :: l, x => by
    unfold nubK
    by_cases h : y ∈ seen
    · simp only [id, h, if_true, nubK_mem, List.mem_cons]
      constructor
      · rintro ⟨h1, h2⟩; exact ⟨.inr h1, h2⟩
      · rintro ⟨rfl | h1, h2⟩
        · exact absurd h h2
        · exact ⟨h1, h2⟩
    · simp only [id, h, if_false, List.mem_cons, nubK_mem, not_or]
      constructor
      · rintro (rfl | ⟨h1, h2, h3⟩)
        · exact ⟨.inl rfl, h⟩
        · exact ⟨.inr h1, h3⟩
      · rintro ⟨rfl | h1, h2⟩
        · exact .inl rfl
        · by_cases e : x = y
          · exact .inl e
          · exact .inr ⟨h1, e, h2⟩
theorem nubK_nodup : ∀ {seen : List β} {l : List β}, (nubK id seen l).Nodup
  | _, [] => List.nodup_nil
  | seen, y :: l => by
    unfold nubK
    by_cases h : y ∈ seen
    · simp only [id, h, if_true]; exact nubK_nodup
    · simp only [id, h, if_false]
      refine List.nodup_cons.mpr ⟨fun hm => ?_, nubK_nodup⟩
      exact (nubK_mem.mp hm).2 (.head _)
theorem nubK_len (g : α → β) (h : α → γ) : ∀ (S l : List α), (∀ x ∈ l, ∀ y ∈ S ++ l, g x = g y ↔ h x = h y) → (nubK id (S.map g) (l.map g)).length = (nubK id (S.map h) (l.map h)).length
  | _, [], _ => rfl
  | S, x :: l, H => by
    rw [List.map_cons, List.map_cons]
    unfold nubK
    have e : g x ∈ S.map g ↔ h x ∈ S.map h := by
      simp only [List.mem_map]
      constructor
      · rintro ⟨y, hy, e⟩
        exact ⟨y, hy, ((H x (.head _) y (List.mem_append.mpr (.inl hy))).mp e.symm).symm⟩
      · rintro ⟨y, hy, e⟩
        exact ⟨y, hy, ((H x (.head _) y (List.mem_append.mpr (.inl hy))).mpr e.symm).symm⟩
    by_cases q : g x ∈ S.map g
    · have q' := e.mp q
      simp only [id, q, q', if_true]
      exact nubK_len g h S l fun a ha b hb => H a (.tail _ ha) b (by
        rcases List.mem_append.mp hb with hb | hb
        · exact List.mem_append.mpr (.inl hb)
        · exact List.mem_append.mpr (.inr (.tail _ hb)))
    · have q' : h x ∉ S.map h := fun z => q (e.mpr z)
      simp only [id, q, q', if_false, List.length_cons]
      have := nubK_len g h (x :: S) l fun a ha b hb => H a (.tail _ ha) b (by
        rcases List.mem_append.mp hb with hb | hb
        · rcases List.mem_cons.mp hb with rfl | hb
          · exact List.mem_append.mpr (.inr (.head _))
          · exact List.mem_append.mpr (.inl hb)
        · exact List.mem_append.mpr (.inr (.tail _ hb)))
      rw [List.map_cons, List.map_cons] at this
      rw [this]
end

/-- the five figures of a number, read from the other end -/
def rv (d : Nat) : Nat := 16 * (d % 2) + 8 * (d / 2 % 2) + 4 * (d / 4 % 2) + 2 * (d / 8 % 2) + d / 16 % 2
theorem rv_lt (d : Nat) : rv d < 2 ^ 5 :=
  have h (x : Nat) : x % 2 ≤ 1 := Nat.le_of_lt_succ (Nat.mod_lt x Nat.zero_lt_two)
  Nat.lt_succ_of_le (Nat.add_le_add (Nat.add_le_add (Nat.add_le_add (Nat.add_le_add (Nat.mul_le_mul_left 16 (h _)) (Nat.mul_le_mul_left 8 (h _))) (Nat.mul_le_mul_left 4 (h _))) (Nat.mul_le_mul_left 2 (h _))) (h _))
theorem rv_rv : ∀ a : Fin 32, rv (rv a.1) = a.1 := by decide
theorem rv_inj {a b : Nat} (ha : a < 32) (hb : b < 32) (h : rv a = rv b) : a = b := by
  have h1 : rv (rv a) = a := rv_rv ⟨a, ha⟩
  have h2 : rv (rv b) = b := rv_rv ⟨b, hb⟩
  rw [← h1, h, h2]

section
variable {α : Type} [DecidableEq α] {proj : Nat → Nat → α} {D : List Nat}
theorem count_card {n : Nat} (p : Nat → Bool) : ∀ (l : List Nat), l.Nodup → (∀ x ∈ l, x < 2 ^ n) → l.countP p = card n (fun k => decide (k ∈ l) && p k) := by
  intro l hn hl
  rw [List.countP_eq_length_filter, ← card_mem (n := n) (l.filter p) (hn.filter p) fun x hx => hl x (List.mem_filter.mp hx).1]
  refine card_congr fun k _ => ?_
  simp only [decide_eq_true_eq, List.mem_filter, Bool.and_eq_true]

theorem kinds_iff (hD : D.Nodup) (hlt : ∀ d ∈ D, d < 32) {s : Nat} (hs : s < 32) (hp : ∀ d, d < 32 → ∀ e, e < 32 → (proj s d = proj s e ↔ msk 5 s (rv d) = msk 5 s (rv e))) :
    (nubK id [] (D.map (proj s))).length = 2 ^ pc 5 s ↔ str 5 (fun k => decide (k ∈ D.map rv)) s = true := by
  have h1 := nubK_len (proj s) (fun d => msk 5 s (rv d)) [] D fun x hx y hy => hp x (hlt x hx) y (hlt y (by simpa using hy))
  rw [List.map_nil, List.map_nil] at h1
  rw [h1, str_iff 5 _ s hs]
  have h2 := card_mem (n := 5) (nubK id [] (D.map fun d => msk 5 s (rv d))) nubK_nodup (fun x hx => by
    obtain ⟨d, _, rfl⟩ := List.mem_map.mp (nubK_mem.mp hx).1
    exact msk_lt ..)
  have h3 := card_sub 5 s
  have hle : le 5 (fun k => decide (k ∈ nubK id [] (D.map fun d => msk 5 s (rv d)))) (fun t => decide (msk 5 s t = t)) := by
    intro k _ hk
    obtain ⟨d, _, rfl⟩ := List.mem_map.mp (nubK_mem.mp (of_decide_eq_true hk)).1
    exact decide_eq_true (msk_msk ..)
  rw [← h2, ← h3]
  constructor
  · intro e t ht
    have := card_eq hle (Nat.le_of_eq e.symm) (msk 5 s t) (msk_lt ..) (decide_eq_true (msk_msk ..))
    obtain ⟨d, hd, e⟩ := List.mem_map.mp (nubK_mem.mp (of_decide_eq_true this)).1
    exact ⟨rv d, rv_lt d, decide_eq_true (List.mem_map.mpr ⟨d, hd, rfl⟩), e⟩
  · intro h
    refine Nat.le_antisymm (card_le hle) (card_le fun t ht hm => ?_)
    obtain ⟨x, _, hx, e⟩ := h t ht
    obtain ⟨d, hd, rfl⟩ := List.mem_map.mp (of_decide_eq_true hx)
    refine decide_eq_true (nubK_mem.mpr ⟨List.mem_map.mpr ⟨d, hd, e.trans (of_decide_eq_true hm)⟩, by simp⟩)

theorem alike_iff (hD : D.Nodup) (hlt : ∀ d ∈ D, d < 32) {s a : Nat} (hs : s < 32) (hp : ∀ d, d < 32 → ∀ e, e < 32 → (proj s d = proj s e ↔ msk 5 s (rv d) = msk 5 s (rv e)))
    (h1 : ∃ d ∈ D, a = (D.map (proj s)).count (proj s d)) (h2 : ∀ d ∈ D, (D.map (proj s)).count (proj s d) ≤ a) :
    a = 2 ^ (5 - pc 5 s) ↔ sst 5 (fun k => decide (k ∈ D.map rv)) (2 ^ 5 - 1 - s) = true := by
  have hDn : (D.map rv).Nodup := by
    refine List.pairwise_map.mpr (List.Pairwise.imp_of_mem (fun {x y} hx hy h e => h (rv_inj (hlt x hx) (hlt y hy) e)) hD)
  have hDl : ∀ x ∈ D.map rv, x < 2 ^ 5 := fun x hx => by obtain ⟨d, _, rfl⟩ := List.mem_map.mp hx; exact rv_lt d
  have cnt : ∀ d ∈ D, (D.map (proj s)).count (proj s d) = card 5 (fun k => decide (k ∈ D.map rv) && decide (msk 5 s k = msk 5 s (rv d))) := by
    intro d hd
    rw [← count_card (n := 5) (fun k => decide (msk 5 s k = msk 5 s (rv d))) _ hDn hDl, List.countP_map]
    show (D.map (proj s)).countP (· == proj s d) = _
    rw [List.countP_map]
    refine List.countP_congr fun x hx => ?_
    simp only [Function.comp_apply, beq_iff_eq, decide_eq_true_eq]
    exact hp x (hlt x hx) d (hlt d hd)
  have hle : ∀ d, le 5 (fun k => decide (k ∈ D.map rv) && decide (msk 5 s k = msk 5 s (rv d))) (fun k => decide (msk 5 s k = msk 5 s (rv d))) := fun d k _ hk => ((Bool.and_eq_true _ _).mp hk).2
  rw [sst_iff 5 _ s hs]
  constructor
  · intro e
    obtain ⟨d, hd, hda⟩ := h1
    rw [cnt d hd] at hda
    have q := card_eq (hle d) (by rw [card_fib, ← hda, e]; exact Nat.le_refl _)
    exact ⟨rv d, rv_lt d, fun x hx hm => ((Bool.and_eq_true _ _).mp (q x hx (decide_eq_true hm))).1⟩
  · rintro ⟨t, ht, h⟩
    obtain ⟨d, hd, rfl⟩ := List.mem_map.mp (of_decide_eq_true (h t ht rfl))
    have e1 : card 5 (fun k => decide (k ∈ D.map rv) && decide (msk 5 s k = msk 5 s (rv d))) = 2 ^ (5 - pc 5 s) := by
      rw [← card_fib 5 s (rv d)]
      refine card_congr fun k hk => ?_
      rw [Bool.and_eq_true]
      exact ⟨fun z => z.2, fun z => ⟨h k hk (of_decide_eq_true z), z⟩⟩
    have u := h2 d hd
    rw [cnt d hd, e1] at u
    obtain ⟨d', hd', hda⟩ := h1
    rw [cnt d' hd'] at hda
    have v := card_le (hle d')
    rw [card_fib] at v
    exact Nat.le_antisymm (by rw [hda]; exact v) u

/-- the law's last line -/
theorem law_end (hD : D.Nodup) (hlt : ∀ d ∈ D, d < 32) (hp : ∀ s, s < 32 → ∀ d, d < 32 → ∀ e, e < 32 → (proj s d = proj s e ↔ msk 5 s (rv d) = msk 5 s (rv e))) {kinds alike : Nat → Nat}
    (hk : ∀ s, s < 32 → kinds s = (nubK id [] (D.map (proj s))).length)
    (ha : ∀ s, s < 32 → (∃ d ∈ D, alike s = (D.map (proj s)).count (proj s d)) ∧ ∀ d ∈ D, (D.map (proj s)).count (proj s d) ≤ alike s) :
    (card 5 (fun s => decide (alike s = 2 ^ (5 - pc 5 s))) < D.length ∧ D.length < card 5 (fun s => decide (kinds s = 2 ^ pc 5 s))) ∨
      (card 5 (fun s => decide (alike s = 2 ^ (5 - pc 5 s))) = D.length ∧ D.length = card 5 (fun s => decide (kinds s = 2 ^ pc 5 s))) := by
  have hDn : (D.map rv).Nodup := by
    refine List.pairwise_map.mpr (List.Pairwise.imp_of_mem (fun {x y} hx hy h e => h (rv_inj (hlt x hx) (hlt y hy) e)) hD)
  have hDl : ∀ x ∈ D.map rv, x < 2 ^ 5 := fun x hx => by obtain ⟨d, _, rfl⟩ := List.mem_map.mp hx; exact rv_lt d
  obtain ⟨_, p1, p2, p3⟩ := pajor 5 (fun k => decide (k ∈ D.map rv))
  rw [card_mem _ hDn hDl, List.length_map] at p1 p2 p3
  have e1 : card 5 (fun s => decide (kinds s = 2 ^ pc 5 s)) = card 5 (str 5 (fun k => decide (k ∈ D.map rv))) := card_congr fun s hs => by
    rw [decide_eq_true_eq, hk s hs]; exact kinds_iff hD hlt hs (hp s hs)
  have e2 : card 5 (fun s => decide (alike s = 2 ^ (5 - pc 5 s))) = card 5 (sst 5 (fun k => decide (k ∈ D.map rv))) := by
    rw [← card_rev 5 (sst 5 _)]
    exact card_congr fun s hs => by
      rw [decide_eq_true_eq]; exact alike_iff hD hlt hs (hp s hs) (ha s hs).1 (ha s hs).2
  rw [e1, e2]
  rcases Nat.lt_or_eq_of_le p1 with h | h
  · exact .inl ⟨h, Nat.lt_of_le_of_ne p2 fun e => Nat.ne_of_lt h (p3.mpr e.symm)⟩
  · exact .inr ⟨h, (p3.mp h).symm⟩
end

theorem card5 (P : Nat → Bool) : card 5 P = (List.range 32).countP P := by
  rw [count_card (n := 5) P (List.range 32) List.nodup_range (fun x hx => List.mem_range.mp hx)]
  exact card_congr fun k hk => by
    rw [Bool.and_eq_true, decide_eq_true_eq, List.mem_range]; exact ⟨fun h => ⟨hk, h⟩, And.right⟩
end Mine
end PartPlain3

section PartTopA
open PySem PySem.W PyProof.Rows
namespace Mine
set_option maxRecDepth 100000 in
set_option maxHeartbeats 8000000 in
open_top hd for PySem.Challenge.rw_ij0158_01
end Mine
end PartTopA

section PartCtx
open PySem PySem.W PyProof.Rows PySem.Calls
namespace Mine
noncomputable abbrev PRG : Program := PySem.Challenge.rw_ij0158_01.row.prog
noncomputable abbrev KF (w : World) : Frag := Mine.hd.heap_39 w.params
noncomputable abbrev looseL : List PySem.Str := looseW Mine.hd.view_39
          [Str.ofString "_filemode_table", Str.ofString "filterfalse", Str.ofString "unique_everseen"] ++
        List.map (fun x => x.name) (recsOf Mine.hd.view_39) ++
      List.map (fun x => x.fst) (litsOf Mine.hd.view_39) ++
    List.map (fun x => x.name)
      (clssOf Mine.hd.view_39
        (looseW Mine.hd.view_39
          [Str.ofString "_filemode_table", Str.ofString "filterfalse", Str.ofString "unique_everseen"]))
noncomputable abbrev AA (dp un : Nat) (gd : Option (List Code)) (env : Env) (outer : List Env) : Around := { handled := none, depth := dp, frames := some (env :: outer), guards := gd, units := un }
/-- where the walk is to stop -/
def Stop (P : Prop) : Prop := P
theorem stop_intro {P : Prop} (h : Stop P) : P := h
theorem stop_out {P : Prop} (h : P) : Stop P := h
end Mine
end PartCtx

section PartEnum
open PySem PySem.W PyProof.Rows PySem.Calls
set_option maxRecDepth 100000
namespace Mine

theorem meets_enum_tuple (l : Addr) (items : Array Value) (n : Nat) (dct : Option Addr) (sl : Array (Option Value)) :
    Meets (Builtin.«enumerate.__new__» ⟨[.type "enumerate", .ref l], []⟩) (fun _ R s => s.heap.get? l = some { cls := .type "tuple", dict := dct, data := .seq items n, slots := sl } ∧
      R (.ok (.ret (.ref (s.heap.push { cls := .type "tuple_iterator", data := .fields #[.ref l, .int 0 0] }).objs.size)))
        { s with heap := (s.heap.push { cls := .type "tuple_iterator", data := .fields #[.ref l, .int 0 0] }).push { cls := .type "enumerate", data := .fields #[.none, .bool false, .ref s.heap.objs.size, rawInt 0, .none, .none] } }) :=
  .of_wp fun prog w A R s h => by
    obtain ⟨hp, g, d, tk, os⟩ := s
    obtain ⟨hl, h⟩ := h
    have hsub := sub_enumerate
    have hL : Heap.IsTuple (Shared.heap ⟨hp, g, d, tk, os⟩) l items := ⟨_, hl, rfl, n, rfl⟩
    wp_walk using wpAny_loadPart' hl
    refine wpAny_stack_any fun st => wpAny_pure ?_
    split
    · rename_i c _ _ _ _ _
      cases (c == Value.type "enumerate")
      · wp_walk using wpAny_loadPart' hl, wpAny_pyIter_tuple hL
        exact ⟨_, rfl, h⟩
      · wp_walk using wpAny_loadPart' hl, wpAny_pyIter_tuple hL
        exact ⟨_, rfl, h⟩
    · wp_walk using wpAny_loadPart' hl, wpAny_pyIter_tuple hL
      exact ⟨_, rfl, h⟩

section
variable {prog : Program} {w : World} {A : Around} {E : Value → Shared → Prop} {s : Shared}

theorem enum_call {l : Addr} {items : Array Value} {Q : Value → Shared → Prop} (hL : s.heap.IsTuple l items)
    (h : ∀ h', IsEnum h' (s.heap.objs.size + 1) s.heap.objs.size 0 .none → h'.IsTupleIter s.heap.objs.size l 0 →
      (∀ b o, s.heap.get? b = some o → h'.get? b = some o) → Q (.ref (s.heap.objs.size + 1)) { s with heap := h' }) :
    wpAny (model prog w) A (call (.type "enumerate") [.ref l]) Q E s := by
  obtain ⟨⟨c, dct, dt, sl⟩, hl, hc, n, hd⟩ := hL
  replace hc : c = .type "tuple" := hc
  replace hd : dt = .seq items n := hd
  subst hc hd
  refine callType_new F.called_enumerate (by decide) (F.typeCall_enumerate_1 _) (F.newCall_enumerate_1 _) (fun obj => F.args_object_init_2 obj _) F.entry_enumerate_new
    (meets_enum_tuple l items n dct sl) ⟨hl, ?_⟩
  have hz : (s.heap.push { cls := .type "tuple_iterator", data := .fields #[.ref l, .int 0 0] }).objs.size = s.heap.objs.size + 1 := Heap.size_push ..
  show _ ∧ _
  rw [hz]
  have he : IsEnum ((s.heap.push { cls := .type "tuple_iterator", data := .fields #[.ref l, .int 0 0] }).push
      { cls := .type "enumerate", data := .fields #[.none, .bool false, .ref s.heap.objs.size, rawInt 0, .none, .none] }) (s.heap.objs.size + 1) s.heap.objs.size 0 .none := by
    have := Heap.get?_push_size (s.heap.push { cls := .type "tuple_iterator", data := .fields #[.ref l, .int 0 0] })
      (o := { cls := .type "enumerate", data := .fields #[.none, .bool false, .ref s.heap.objs.size, rawInt 0, .none, .none] }) rfl
    rw [hz] at this; exact this
  exact ⟨⟨_, he, rfl⟩, h _ he ⟨_, Heap.get?_push_of_some _ (Heap.get?_push_size _ rfl), rfl, rfl⟩ fun b o x => Heap.get?_push_of_some _ (Heap.get?_push_of_some _ x)⟩

theorem nextOf_tuple {it l : Addr} {i : Nat} {items} {x : Value} {Q : Value → Shared → Prop} (hit : s.heap.IsTupleIter it l i)
    (hl : s.heap.IsTuple l items) (hx : items[i]? = some x)
    (hQ : ∀ h', h'.IsTupleIter it l (i + 1) → Heap.SameBut it s.heap h' → Q x { s with heap := h' }) :
    wpAny (model prog w) A (Builtin.SmallTypes.nextOf (.ref it)) Q E s := by
  obtain ⟨o, ho, hc, hd⟩ := id hit
  obtain ⟨ol, hol, _, nl, hdl⟩ := hl
  unfold Builtin.SmallTypes.nextOf
  refine wpAny_bind (wpAny_callSpecial?_slot (name := Str.ofString "__next__") hit.typeIs F.slot_tuple_iterator_next
    (wpAny_call_entry F.slot_tuple_iterator_next hit.typeIs F.entry_tuple_iterator_next ?_ (F.args_tuple_iterator_next_1 _)))
  show wpAny _ _ (field (.ref it) 0 >>= _) _ _ s
  refine wpAny_bind (wpAny_field ho hd (x := .ref l) rfl ?_)
  show wpAny _ _ (if (Value.ref l == Value.none) = true then _ else _) _ _ s
  rw [if_neg (show ¬ ((Value.ref l == Value.none) = true) from Bool.false_ne_true)]
  show wpAny _ _ (field (.ref it) 1 >>= _) _ _ s
  refine wpAny_bind (wpAny_field ho hd (x := .int i 0) rfl ?_)
  show wpAny _ _ (seqItems? (.ref l) >>= _) _ _ s
  refine wpAny_bind (wpAny_seqItems hol hdl ?_)
  simp only [Int.toNat_natCast, hx]
  refine wpAny_bind (wpAny_setField ho hd (by simp) (wpAny_pure ⟨x, rfl, wpAny_pure (hQ _ ?_ (Heap.SameBut.update ..))⟩))
  exact ⟨_, Heap.get?_update_self _ ho (Obj.isFreed_of_fields (Obj.data_mapFields hd _)), (Obj.cls_mapFields ..).trans hc, by
    rw [Obj.data_mapFields hd]; simp [rawInt]⟩

theorem enum_next_item {e it l : Addr} {i : Nat} {items : Array Value} {x old : Value} {Q : Value → Shared → Prop}
    (he : IsEnum s.heap e it i old) (hit : s.heap.IsTupleIter it l i) (hl : s.heap.IsTuple l items) (hx : items[i]? = some x) (hne : e ≠ it)
    (hQ : ∀ h', IsEnumOut h' e it ((i : Int) + 1) x s.heap.objs.size → h'.IsTupleIter it l (i + 1) →
      h'.get? s.heap.objs.size = some { cls := .type "tuple", data := .seq #[.int i s.toks, x] } →
      (∀ b o, b ≠ e → b ≠ it → s.heap.get? b = some o → h'.get? b = some o) → Q (.ref s.heap.objs.size) { s with heap := h', toks := s.toks + 1 }) :
    wpAny (model prog w) A (Builtin.«enumerate.__next__» ⟨[.ref e], []⟩) (fun fin s' => ∃ v, fin = .done (.ret v) ∧ Q v s') E s := by
  obtain ⟨hp, g, d, tk, os⟩ := s
  show wpAny _ _ (field (.ref e) 2 >>= _) _ _ _
  refine wpAny_bind (wpAny_field he rfl (x := .ref it) rfl ?_)
  refine wpAny_bind (nextOf_tuple hit hl hx fun h₁ hit₁ hs₁ => ?_)
  replace hs₁ : Heap.SameBut it hp h₁ := hs₁
  have he₁ : IsEnum h₁ e it i old := (hs₁.2 e hne).trans he
  show wpAny _ _ (field (.ref e) 3 >>= _) _ _ ⟨h₁, g, d, tk, os⟩
  refine wpAny_bind (wpAny_field he₁ rfl (x := rawInt i) rfl ?_)
  show wpAny _ _ (field (.ref e) 4 >>= _) _ _ ⟨h₁, g, d, tk, os⟩
  refine wpAny_bind (wpAny_field he₁ rfl (x := .none) rfl ?_)
  show wpAny _ _ (mkInt i >>= _) _ _ ⟨h₁, g, d, tk, os⟩
  refine wpAny_bind (wpAny_mkInt ?_)
  show wpAny _ _ (setField (.ref e) 3 (rawInt ((i : Int) + 1)) >>= _) _ _ ⟨h₁, g, d, tk + 1, os⟩
  refine wpAny_bind (wpAny_setField_rec he₁ (by simp) fun h₂ he₂ hs₂ => ?_)
  replace hs₂ : Heap.SameBut e h₁ h₂ := hs₂
  replace he₂ : IsEnum h₂ e it ((i : Int) + 1) old := he₂
  show wpAny _ _ (setField (.ref e) 4 .none >>= _) _ _ ⟨h₂, g, d, tk + 1, os⟩
  refine wpAny_bind (wpAny_setField_rec he₂ (by simp) fun h₃ he₃ hs₃ => ?_)
  replace hs₃ : Heap.SameBut e h₂ h₃ := hs₃
  replace he₃ : IsEnum h₃ e it ((i : Int) + 1) old := he₃
  show wpAny _ _ (newTuple [.int i tk, x] >>= _) _ _ ⟨h₃, g, d, tk + 1, os⟩
  refine wpAny_bind (wpAny_newTuple ?_)
  have he₄ : IsEnum (h₃.push { cls := .type "tuple", data := .seq #[.int i tk, x] }) e it ((i : Int) + 1) old := Heap.get?_push_of_some _ he₃
  generalize hh₄ : h₃.push { cls := .type "tuple", data := .seq #[.int i tk, x] } = h₄ at he₄
  have hsz : h₃.objs.size = hp.objs.size := by rw [hs₃.1, hs₂.1, hs₁.1]
  have hel : e < hp.objs.size := Heap.lt_size he
  have ht₄ : h₄.get? hp.objs.size = some { cls := .type "tuple", data := .seq #[.int i tk, x] } := by rw [← hh₄, ← hsz]; exact Heap.get?_push_size _ rfl
  have hk₄ : ∀ b o, b ≠ e → b ≠ it → hp.get? b = some o → h₄.get? b = some o := fun b o hbe hbi hb => by
    rw [← hh₄]; exact Heap.get?_push_of_some _ (hs₃.extBut b o hbe (hs₂.extBut b o hbe (hs₁.extBut b o hbi hb)))
  have hit₄ : h₄.IsTupleIter it l (i + 1) := by
    rw [← hh₄]; obtain ⟨o, ho, r⟩ := (hit₁.extBut hs₂.extBut (Ne.symm hne)).extBut hs₃.extBut (Ne.symm hne); exact ⟨o, Heap.get?_push_of_some _ ho, r⟩
  show wpAny _ _ (Builtin.SmallTypes.ownedTupleIsFree (.ref e) >>= _) _ _ ⟨h₄, g, d, tk + 1, os⟩
  rw [hsz]
  clear hh₄ he₃ hs₃ he₂ hs₂ he₁ hs₁ hit₁ hsz h₃ h₂ h₁
  refine wpAny_bind ?_
  unfold Builtin.SmallTypes.ownedTupleIsFree
  refine wpAny_bind (wpAny_field he₄ rfl (x := .none) rfl (wpAny_pure ?_))
  simp only [if_true]
  refine wpAny_bind (wpAny_rule ?_)
  refine wpAny_bind (wpAny_field he₄ rfl (x := old) rfl ?_)
  refine wpAny_bind (wpAny_setField_rec he₄ (by simp) fun h₅ he₅ hs₅ => ?_)
  replace hs₅ : Heap.SameBut e h₄ h₅ := hs₅
  replace he₅ : IsEnum h₅ e it ((i : Int) + 1) x := he₅
  show wpAny _ _ (Builtin.SmallTypes.ownedTupleHandOut (.ref e) (.ref hp.objs.size) >>= _) _ _ ⟨h₅, g, d, tk + 1, os⟩
  refine wpAny_bind ?_
  unfold Builtin.SmallTypes.ownedTupleHandOut
  refine wpAny_bind (wpAny_setField_rec he₅ (by simp) fun h₆ he₆ hs₆ => ?_)
  replace hs₆ : Heap.SameBut e h₅ h₆ := hs₆
  replace he₆ : IsEnumOut h₆ e it ((i : Int) + 1) x hp.objs.size := he₆
  refine wpAny_setField_rec he₆ (by simp) fun h₇ he₇ hs₇ => ?_
  replace hs₇ : Heap.SameBut e h₆ h₇ := hs₇
  replace he₇ : IsEnumOut h₇ e it ((i : Int) + 1) x hp.objs.size := he₇
  refine wpAny_bind (wpAny_letGo (wpAny_pure ⟨_, rfl, hQ h₇ he₇ ?_ ?_ ?_⟩))
  · exact ((hit₄.extBut hs₅.extBut (Ne.symm hne)).extBut hs₆.extBut (Ne.symm hne)).extBut hs₇.extBut (Ne.symm hne)
  · exact hs₇.extBut _ _ (Nat.ne_of_gt hel) (hs₆.extBut _ _ (Nat.ne_of_gt hel) (hs₅.extBut _ _ (Nat.ne_of_gt hel) ht₄))
  · exact fun b o hbe hbi hb => hs₇.extBut b o hbe (hs₆.extBut b o hbe (hs₅.extBut b o hbe (hk₄ b o hbe hbi hb)))

theorem pyNext_enum {e it l : Addr} {i : Nat} {items : Array Value} {x old : Value} {Q : Option Value → Shared → Prop}
    (he : IsEnum s.heap e it i old) (hit : s.heap.IsTupleIter it l i) (hl : s.heap.IsTuple l items) (hx : items[i]? = some x) (hne : e ≠ it)
    (hQ : ∀ h', IsEnumOut h' e it ((i : Int) + 1) x s.heap.objs.size → h'.IsTupleIter it l (i + 1) →
      h'.get? s.heap.objs.size = some { cls := .type "tuple", data := .seq #[.int i s.toks, x] } →
      (∀ b o, b ≠ e → b ≠ it → s.heap.get? b = some o → h'.get? b = some o) → Q (some (.ref s.heap.objs.size)) { s with heap := h', toks := s.toks + 1 }) :
    wpAny (model prog w) A (pyNext (.ref e)) Q E s := by
  have hT : s.TypeIs (.ref e) "enumerate" := ⟨_, he, rfl⟩
  unfold pyNext
  exact wpAny_bind (wpAny_attempt (wpAny_callSpecial?_slot (name := Str.ofString "__next__") hT F.slot_enumerate_next
    (wpAny_call_entry F.slot_enumerate_next hT F.entry_enumerate_next
      (enum_next_item he hit hl hx hne fun h' a b c k => wpAny_pure (hQ h' a b c k)) (F.args_enumerate_next_1 _))))

theorem nextOf_tuple_end {it l : Addr} {i : Nat} {items} {Q : Value → Shared → Prop} (hh : A.handled = none)
    (hit : s.heap.IsTupleIter it l i) (hl : s.heap.IsTuple l items) (hx : items[i]? = none)
    (hE : ∀ h' e, Heap.ExtBut it s.heap h' → (∃ o, h'.get? e = some o ∧ o.cls = .type "StopIteration") → E (.ref e) { s with heap := h' }) :
    wpAny (model prog w) A (Builtin.SmallTypes.nextOf (.ref it)) Q E s := by
  obtain ⟨o, ho, hc, hd⟩ := id hit
  obtain ⟨ol, hol, _, nl, hdl⟩ := hl
  unfold Builtin.SmallTypes.nextOf
  refine wpAny_bind (wpAny_callSpecial?_slot (name := Str.ofString "__next__") hit.typeIs F.slot_tuple_iterator_next
    (wpAny_call_entry F.slot_tuple_iterator_next hit.typeIs F.entry_tuple_iterator_next ?_ (F.args_tuple_iterator_next_1 _)))
  show wpAny _ _ (field (.ref it) 0 >>= _) _ _ s
  refine wpAny_bind (wpAny_field ho hd (x := .ref l) rfl ?_)
  show wpAny _ _ (if (Value.ref l == Value.none) = true then _ else _) _ _ s
  rw [if_neg (show ¬ ((Value.ref l == Value.none) = true) from Bool.false_ne_true)]
  show wpAny _ _ (field (.ref it) 1 >>= _) _ _ s
  refine wpAny_bind (wpAny_field ho hd (x := .int i 0) rfl ?_)
  show wpAny _ _ (seqItems? (.ref l) >>= _) _ _ s
  refine wpAny_bind (wpAny_seqItems hol hdl ?_)
  simp only [Int.toNat_natCast, hx]
  refine wpAny_bind (wpAny_rule (wpAny_bind (wpAny_setField ho hd (by simp) ?_)))
  show wpAny _ _ (newExc (.type "StopIteration") [] >>= _) _ _ _
  refine wpAny_bind ?_
  simp only [newExc, newTuple]
  refine wpAny_bind (wpAny_newObj_type ?_ (by size_fits))
  refine wpAny_bind (m := firstArgMember _ _) (wpAny_of_eq (a := Value.none) (by first | rfl | (simp only [firstArgMember]; rfl)) ?_)
  refine wpAny_newObj_type ?_ (by size_fits)
  simp only [raiseNew]
  refine wpAny_bind (wpAny_handled ?_)
  first | rw [show A.in1.handled = none from hh] | rw [hh]
  refine wpAny_bind (wpAny_pure (wpAny_throw ?_))
  exact hE _ _ (((Heap.SameBut.update ..).extBut.push _).push _) ⟨_, Heap.get?_push_size _ rfl, rfl⟩

theorem pyNext_enum_end {e it l : Addr} {i : Nat} {items : Array Value} {old : Value} {Q : Option Value → Shared → Prop} (hh : A.handled = none)
    (he : IsEnum s.heap e it i old) (hit : s.heap.IsTupleIter it l i) (hl : s.heap.IsTuple l items) (hx : items[i]? = none)
    (hQ : ∀ h', Heap.ExtBut it s.heap h' → Q none { s with heap := h' }) : wpAny (model prog w) A (pyNext (.ref e)) Q E s := by
  have hT : s.TypeIs (.ref e) "enumerate" := ⟨_, he, rfl⟩
  unfold pyNext
  refine wpAny_bind (wpAny_attempt (wpAny_callSpecial?_slot (name := Str.ofString "__next__") hT F.slot_enumerate_next
    (wpAny_call_entry F.slot_enumerate_next hT F.entry_enumerate_next ?_ (F.args_enumerate_next_1 _))))
  show wpAny _ _ (field (.ref e) 2 >>= _) _ _ _
  refine wpAny_bind (wpAny_field he rfl (x := .ref it) rfl ?_)
  refine wpAny_bind (nextOf_tuple_end hh hit hl hx fun h' x he' hx' => ?_)
  obtain ⟨o, ho, hc⟩ := hx'
  refine wpAny_bind (wpAny_isInstance (T := "StopIteration") (b := true) ⟨o, ho, hc⟩ isSubtype_stop ?_)
  exact wpAny_pure (hQ _ he')

/-- what a turn leaves: the frame, the objects of the loop at their places, the loop's own things as they were -/
def TEnd (h₀ : Heap) (L : Addr) (J : (PySem.Str → Option Value) → List (Addr × Obj) → Prop) (own : List (Addr × Obj)) (adr : List Addr) (s s' : Shared) : Prop :=
  ∃ h' tk m' news', s' = { s with heap := h', toks := tk } ∧ Fr h₀ L h' m' ∧ News h₀ L h' (news' ++ own) ∧ news'.map (·.1) = adr ∧ J m' news'

theorem TEnd.intro {h₀ h' : Heap} {L : Addr} {J : (PySem.Str → Option Value) → List (Addr × Obj) → Prop} {own news' big : List (Addr × Obj)} {adr : List Addr} {s : Shared} {tk : Nat} {m' : PySem.Str → Option Value}
    (F : Fr h₀ L h' m') (N : News h₀ L h' big) (hs : ∀ p ∈ news' ++ own, p ∈ big) (ha : news'.map (·.1) = adr) (hj : J m' news') : TEnd h₀ L J own adr s { s with heap := h', toks := tk } :=
  ⟨h', tk, m', news', rfl, F, fun p hp => N p (hs p hp), ha, hj⟩

theorem news_step {h₀ h h' : Heap} {L : Addr} {m : PySem.Str → Option Value} {ds : List Addr} {news news' : List (Addr × Obj)} (F : Fr h₀ L h m) (N : News h₀ L h news)
    (hk : ∀ b o, b ∉ ds → h.get? b = some o → h'.get? b = some o) (hd : ∀ d ∈ ds, d ≠ L ∧ h₀.get? d = none)
    (hn : ∀ p ∈ news', (p ∈ news ∧ p.1 ∉ ds) ∨ (h'.get? p.1 = some p.2 ∧ p.1 ≠ L ∧ h₀.get? p.1 = none)) : Fr h₀ L h' m ∧ News h₀ L h' news' := by
  refine ⟨⟨F.ns.at' fun o e => hk L o (fun hm => (hd L hm).1 rfl) e, fun b o e => hk b o (fun hm => by rw [(hd b hm).2] at e; cases e) (F.keep b o e), F.above⟩, fun p hp => ?_⟩
  rcases hn p hp with ⟨h1, h2⟩ | h1
  · exact ⟨hk p.1 p.2 h2 (N p h1).1, (N p h1).2⟩
  · exact h1
theorem news_fresh {h₀ h : Heap} {L a : Addr} {m : PySem.Str → Option Value} (F : Fr h₀ L h m) (ha : h.objs.size ≤ a) : a ≠ L ∧ h₀.get? a = none := by
  refine ⟨fun e => ?_, ?_⟩
  · have := F.ns.lt
    rw [e] at ha
    exact Nat.lt_irrefl _ (Nat.lt_of_lt_of_le this ha)
  · cases q : h₀.get? a with
    | none => rfl
    | some o => exact absurd (Nat.lt_of_lt_of_le (Heap.lt_size (F.keep _ _ q)) ha) (Nat.lt_irrefl _)

theorem loop_enum {h₀ : Heap} {env : Env} {elts : List PySem.Expr} {k : Nat} {tpos : Pos} {body orelse : List Stmt} {R : Result → Shared → Prop} {e it tb : Addr} {items : Array Value} (hh : A.handled = none) (ht : h₀.IsTuple tb items) (hne : e ≠ it)
    (J : Nat → (PySem.Str → Option Value) → List (Addr × Obj) → Prop) (adr : List Addr) (hadr : e ∉ adr ∧ it ∉ adr)
    (turn : ∀ i x m news h tk T t oi (s₁ : Shared), items[i]? = some x → J i m news → news.map (·.1) = adr → T ≠ e → T ≠ it → Fr h₀ env.locals h m →
      News h₀ env.locals h ((T, ({ cls := .type "tuple", data := .seq #[.int i t, x] } : Obj)) :: news ++ [(e, ({ cls := .type "enumerate", data := .fields #[.none, .bool false, .ref it, rawInt ((i : Int) + 1), .none, x] } : Obj)), (it, oi)]) → s₁ = { s with heap := h, toks := tk } →
      wpAny (model prog w) A (assign (.Tuple elts k tpos) env (.ref T)) (fun _ s₂ => wpAny (model prog w) A (execs body env) (fun f s₃ => f = .next ∧ TEnd h₀ env.locals (J (i + 1)) [(e, ({ cls := .type "enumerate", data := .fields #[.none, .bool false, .ref it, rawInt ((i : Int) + 1), .none, x] } : Obj)), (it, oi)] adr s s₃) (fun _ _ => False) s₂) (fun _ _ => False) s₁)
    (done : ∀ m news h tk, J items.size m news → Fr h₀ env.locals h m → News h₀ env.locals h news → wpAny (model prog w) A (execs orelse env) (fun f s₃ => R (.ok f) s₃) (notedBy (model prog w) A env fun e s' => R (.error e) s') { s with heap := h, toks := tk })
    {m : PySem.Str → Option Value} {news : List (Addr × Obj)} {oe oi : Obj} {old : Value} (F : Fr h₀ env.locals s.heap m) (N : News h₀ env.locals s.heap (news ++ [(e, oe), (it, oi)])) (ha : news.map (·.1) = adr) (hj : J 0 m news)
    (he : IsEnum s.heap e it 0 old) (hit : s.heap.IsTupleIter it tb 0) :
    codeAny (model prog w) A (.forLoop (.Tuple elts k tpos) (.ref e) body orelse env) R s := by
  let I : Nat → Shared → Prop := fun n s' => ∃ i h' tk m' news' oe oi old, s' = { s with heap := h', toks := tk } ∧ n = items.size - i ∧ i ≤ items.size ∧ Fr h₀ env.locals h' m' ∧ News h₀ env.locals h' (news' ++ [(e, oe), (it, oi)]) ∧ news'.map (·.1) = adr ∧ J i m' news' ∧
    IsEnum h' e it i old ∧ h'.IsTupleIter it tb i
  refine codeAny_forLoop_any I (fun n s' hI => ?_) items.size ⟨0, s.heap, s.toks, m, news, oe, oi, old, rfl, rfl, Nat.zero_le _, F, N, ha, hj, he, hit⟩
  obtain ⟨i, h', tk, m', news', oe', oi', old', rfl, rfl, hi, F', N', ha', hj', he', hit'⟩ := hI
  have ht' : Heap.IsTuple (Shared.heap { s with heap := h', toks := tk }) tb items := let ⟨o, ho, r⟩ := ht; ⟨o, F'.keep _ _ ho, r⟩
  have mem_e : ∀ p ∈ news', p.1 ≠ e ∧ p.1 ≠ it := fun p hp => by
    have hm : p.1 ∈ adr := ha' ▸ List.mem_map_of_mem hp
    exact ⟨fun q => hadr.1 (q ▸ hm), fun q => hadr.2 (q ▸ hm)⟩
  have De := (N' (e, oe') (by simp)).2
  have Di := (N' (it, oi') (by simp)).2
  have hd2 : ∀ d ∈ [e, it], d ≠ env.locals ∧ h₀.get? d = none := by
    intro d hd
    rcases List.mem_cons.mp hd with rfl | hd
    · exact De
    · rw [List.mem_singleton.mp hd]; exact Di
  by_cases hlt : i < items.size
  · have hx : items[i]? = some items[i] := Array.getElem?_eq_getElem hlt
    refine pyNext_enum he' hit' ht' hx hne fun h₁ ho hit₁ hT hk₁ => ?_
    refine wpAny_letOwnedTupleGo_enum ho fun h₂ he₂ hs₂ => ?_
    obtain ⟨oi₂, hoi, hci, hdi⟩ := id hit₁
    have hsz : (Shared.heap { s with heap := h', toks := tk }).objs.size = h'.objs.size := rfl
    have Tf := news_fresh F' (Nat.le_refl h'.objs.size)
    have hle : e < h'.objs.size := Heap.lt_size he'
    have hli : it < h'.objs.size := let ⟨_, x, _⟩ := hit'; Heap.lt_size x
    have hTe : h'.objs.size ≠ e := Nat.ne_of_gt hle
    have hTi : h'.objs.size ≠ it := Nat.ne_of_gt hli
    replace hs₂ : Heap.SameBut e h₁ h₂ := hs₂
    have hk₂ : ∀ b o, b ∉ [e, it] → h'.get? b = some o → h₂.get? b = some o := fun b o hb hbo => by
      have q1 : b ≠ e := fun z => hb (by simp [z])
      have q2 : b ≠ it := fun z => hb (by simp [z])
      exact hs₂.extBut b o q1 (hk₁ b o q1 q2 hbo)
    obtain ⟨F₂, N₂⟩ := news_step (news' := (h'.objs.size, ({ cls := .type "tuple", data := .seq #[.int i tk, items[i]] } : Obj)) :: news' ++ [(e, ({ cls := .type "enumerate", data := .fields #[.none, .bool false, .ref it, rawInt ((i : Int) + 1), .none, items[i]] } : Obj)), (it, oi₂)]) F' N' hk₂ hd2 (fun p hp => by
      rcases List.mem_append.mp hp with hp | hp
      · rcases List.mem_cons.mp hp with rfl | hp
        · exact .inr ⟨hs₂.extBut _ _ hTe hT, Tf⟩
        · refine .inl ⟨List.mem_append.mpr (.inl hp), fun hm => ?_⟩
          rcases List.mem_cons.mp hm with q | q
          · exact (mem_e p hp).1 q
          · exact (mem_e p hp).2 (List.mem_singleton.mp q)
      · rcases List.mem_cons.mp hp with rfl | hp
        · exact .inr ⟨he₂, De⟩
        · rw [List.mem_singleton.mp hp]
          exact .inr ⟨hs₂.extBut _ _ (Ne.symm hne) hoi, Di⟩)
    refine wpAny_mono (turn i items[i] m' news' h₂ (tk + 1) h'.objs.size tk oi₂ _ hx hj' ha' hTe hTi F₂ N₂ rfl) (fun _ s₂ h₂' => wpAny_mono h₂' (fun f s₃ h₃ => ?_) fun _ _ z => z.elim) fun _ _ z => z.elim
    obtain ⟨rfl, h₄, tk₄, m₄, news₄, rfl, F₄, N₄, ha₄, hj₄⟩ := h₃
    refine ⟨items.size - (i + 1), Nat.sub_succ_lt_self _ _ hlt, i + 1, h₄, tk₄, m₄, news₄, _, oi₂, items[i], rfl, rfl, hlt, F₄, N₄, ha₄, hj₄, ?_, ?_⟩
    · have := (N₄ (e, _) (List.mem_append.mpr (.inr (.head _)))).1
      simpa using this
    · exact ⟨oi₂, (N₄ (it, oi₂) (List.mem_append.mpr (.inr (.tail _ (.head _))))).1, hci, hdi⟩
  · have hin : i = items.size := Nat.le_antisymm hi (Nat.le_of_not_lt hlt)
    subst hin
    refine pyNext_enum_end hh he' hit' ht' (by simp) fun h₁ hx => ?_
    obtain ⟨F₂, N₂⟩ := news_step (news' := news') F' N' (ds := [it]) (fun b o hb hbo => hx b o (fun z => hb (by simp [z])) hbo) (fun d hd => hd2 d (.tail _ hd)) (fun p hp => .inl ⟨List.mem_append.mpr (.inl hp), fun hm => (mem_e p hp).2 (List.mem_singleton.mp hm)⟩)
    exact done m' news' h₁ tk hj' F₂ N₂
end

theorem enter {prog : Program} {w : World} {A : Around} {E : Value → Shared → Prop} {s : Shared} {K : Frag} {name qual : PySem.Str} {params : Arguments} {body : List Stmt} {scope : Scope} {dV kV doc pm cdv ct oc : Value} {an od : Option Addr} {osl : Array (Option Value)} {f : Addr} {args : List Value} {kw : List (PySem.Str × Value)} {binds : List (PySem.Str × Value)} {Q : Value → Shared → Prop}
    (X : K.In s.heap) (hlim : s.heap.NoLimit) (ho : K.lookup f = some ⟨oc, od, .func (fnOf name qual params body scope dV kV doc pm an cdv ct), osl⟩) (hcd : codeIn K cdv qual = true) (hroom : A.depth < recursionLimit)
    (hbind : BindsTo s (fnOf name qual params body scope dV kV doc pm an cdv ct) ⟨args, kw⟩ binds) (hloc : ∀ y ∈ binds, scope.names.lookup y.1 = some .local)
    (h : ∀ L' h₁, Fr s.heap L' h₁ (fun y => binds.reverse.lookup y) → News s.heap L' h₁ [] →
      wpAny (model prog w) (A.deeper (envOf qual scope L' f cdv)) (execs body (envOf qual scope L' f cdv))
        (fun fl s' => Q (match fl with | .ret v => v | _ => .none) s') (fun _ _ => False) { s with heap := h₁, toks := s.toks + binds.length })
    (hco : scope.isCoroutine = false) (hgen : scope.isGenerator = false) (hk : scope.kind = .function)
    (hcell : ∀ x ∈ scope.names, x.2 ≠ .cell) : wpAny (model prog w) A (call (.ref f) args kw) Q E s := by
  refine wpAny_call (codeAny_call_def (fd := fnOf name qual params body scope dV kV doc pm an cdv ct) (body := body) (binds := binds) hroom (X _ _ ho) rfl hlim (codeRec_of X hcd) rfl hbind hcell hloc (fun h₁ hns hk₁ => ?_) hco hgen hk)
  exact wpAny_mono (h s.heap.objs.size h₁ ⟨hns, hk₁, Nat.le_refl _⟩ (fun _ hp => nomatch hp)) (fun _ _ z => z) fun _ _ z => z.elim

theorem fr_keeps {h₀ h h' : Heap} {L : Addr} {m : PySem.Str → Option Value} (F : Fr h₀ L h m) (hk : ∀ b o, h.get? b = some o → h'.get? b = some o) : Fr h₀ L h' m :=
  ⟨F.ns.keeps hk, fun b o e => hk b o (F.keep b o e), F.above⟩
theorem news_keeps {h₀ h h' : Heap} {L : Addr} {news : List (Addr × Obj)} (N : News h₀ L h news) (hk : ∀ b o, h.get? b = some o → h'.get? b = some o) : News h₀ L h' news :=
  fun p hp => ⟨hk _ _ (N p hp).1, (N p hp).2⟩
theorem news_lt {h₀ h : Heap} {L : Addr} {news : List (Addr × Obj)} (N : News h₀ L h news) {p : Addr × Obj} (hp : p ∈ news) : p.1 < h.objs.size := Heap.lt_size (N p hp).1
theorem tuple_keeps {h h' : Heap} {a : Addr} {items : Array Value} (x : h.IsTuple a items) (hk : ∀ b o, h.get? b = some o → h'.get? b = some o) : h'.IsTuple a items := let ⟨o, ho, r⟩ := x; ⟨o, hk _ _ ho, r⟩
end Mine
end PartEnum

section PartLoop
open PySem PySem.W PyProof.Rows PySem.Calls
set_option maxRecDepth 100000
namespace Mine
section
variable {prog : Program} {w : World} {A : Around} {E : Value → Shared → Prop} {s : Shared}

theorem letGo_tupleIter {elts : List PySem.Expr} {k : Nat} {pos : Pos} {it t : Addr} {i : Nat} {v : Value} {Q : Unit → Shared → Prop} (h : s.heap.IsTupleIter it t i) (hQ : Q () s) :
    wpAny (model prog w) A (letOwnedTupleGo (.Tuple elts k pos) (.ref it) v) Q E s := by
  obtain ⟨o, ho, hc, hd⟩ := h
  obtain ⟨oc, od, oda, osl⟩ := o
  replace hc : oc = .type "tuple_iterator" := hc
  replace hd : oda = .fields #[.ref t, .int i 0] := hd
  subst hc hd
  unfold letOwnedTupleGo
  cases v <;> first | exact wpAny_pure hQ | skip
  refine wpAny_bind (wpAny_load ho ?_)
  exact wpAny_pure hQ

/-- what a turn leaves: the frame, the objects of the loop at their places, the loop's own things -/
def TE (GR : Array GenState → Array GenState → Prop) (h₀ : Heap) (L : Addr) (J : (PySem.Str → Option Value) → List (Addr × Obj) → Prop) (own : List (Addr × Obj)) (adr : List Addr) (s s' : Shared) : Prop :=
  ∃ h' g' tk m' news', s' = ⟨h', g', s.drawn, tk, s.os⟩ ∧ GR s.gens g' ∧ Fr h₀ L h' m' ∧ News h₀ L h' (news' ++ own) ∧ news'.map (·.1) = adr ∧ J m' news'
theorem TE.intro {GR : Array GenState → Array GenState → Prop} {h₀ h' : Heap} {L : Addr} {J : (PySem.Str → Option Value) → List (Addr × Obj) → Prop} {own news' big : List (Addr × Obj)} {adr : List Addr} {s : Shared} {g' : Array GenState} {tk : Nat} {m' : PySem.Str → Option Value}
    (hg : GR s.gens g') (F : Fr h₀ L h' m') (N : News h₀ L h' big) (hs : ∀ p ∈ news' ++ own, p ∈ big) (ha : news'.map (·.1) = adr) (hj : J m' news') : TE GR h₀ L J own adr s ⟨h', g', s.drawn, tk, s.os⟩ :=
  ⟨h', g', tk, m', news', rfl, hg, F, fun p hp => N p (hs p hp), ha, hj⟩

/-- what a turn leaves: the frame, the objects of the loop at their places, the loop's own things -/
def TF (GR : Array GenState → Array GenState → Prop) (h₀ : Heap) (L : Addr) (J : (PySem.Str → Option Value) → List (Addr × Obj) → Prop) (own : List (Addr × Obj)) (s s' : Shared) : Prop :=
  ∃ h' g' tk m' news', s' = ⟨h', g', s.drawn, tk, s.os⟩ ∧ GR s.gens g' ∧ Fr h₀ L h' m' ∧ News h₀ L h' (news' ++ own) ∧ J m' news'
theorem TF.intro {GR : Array GenState → Array GenState → Prop} {h₀ h' : Heap} {L : Addr} {J : (PySem.Str → Option Value) → List (Addr × Obj) → Prop} {own news' big : List (Addr × Obj)} {s : Shared} {g' : Array GenState} {tk : Nat} {m' : PySem.Str → Option Value}
    (hg : GR s.gens g') (F : Fr h₀ L h' m') (N : News h₀ L h' big) (hs : ∀ p ∈ news' ++ own, p ∈ big) (hj : J m' news') : TF GR h₀ L J own s ⟨h', g', s.drawn, tk, s.os⟩ :=
  ⟨h', g', tk, m', news', rfl, hg, F, fun p hp => N p (hs p hp), hj⟩

theorem loop_walks2 {GR : Array GenState → Array GenState → Prop} (gr : ∀ a, GR a a) (gt : ∀ a b c, GR a b → GR b c → GR a c) {h₀ : Heap} {env : Env} {target : PySem.Expr} {body orelse : List Stmt} {R : Result → Shared → Prop} {I : Addr} {fp wr : List Addr} {n : Nat} {P : Nat → Value → Prop} {St : Nat → Heap → Prop}
    (W : Walks prog w A I fp wr n P St) (J : Nat → (PySem.Str → Option Value) → List (Addr × Obj) → Prop) (oadr : List Addr)
    (hfp : ∀ b ∈ fp, b ∈ oadr ∨ ∃ o, h₀.get? b = some o) (hwr : ∀ b ∈ wr, b ∈ oadr) (hoff : ∀ i m news, J i m news → ∀ p ∈ news, p.1 ∉ oadr) (hth : ∀ i h, St i h → ∀ b ∈ wr, ∃ o, h.get? b = some o)
    (hlet : ∀ i v (s₁ : Shared) (Q : Unit → Shared → Prop), St i s₁.heap → Q () s₁ → wpAny (model prog w) A (letOwnedTupleGo target (.ref I) v) Q (fun _ _ => False) s₁)
    (turn : ∀ i v m news own h g tk (s₁ : Shared), i < n → P i v → J i m news → own.map (·.1) = oadr → GR s.gens g → Fr h₀ env.locals h m → News h₀ env.locals h (news ++ own) → s₁ = ⟨h, g, s.drawn, tk, s.os⟩ →
      wpAny (model prog w) A (assign target env v) (fun _ s₂ => wpAny (model prog w) A (execs body env) (fun f s₃ => (f = .next ∧ TF GR h₀ env.locals (J (i + 1)) own s s₃) ∨ (f = .brk ∧ R (.ok .next) s₃) ∨ ∃ v, f = .ret v ∧ R (.ok (.ret v)) s₃) (fun _ _ => False) s₂) (fun _ _ => False) s₁)
    (done : ∀ m news h g tk, J n m news → GR s.gens g → Fr h₀ env.locals h m → News h₀ env.locals h news → wpAny (model prog w) A (execs orelse env) (fun f s₃ => R (.ok f) s₃) (fun _ _ => False) ⟨h, g, s.drawn, tk, s.os⟩)
    {m : PySem.Str → Option Value} {news own : List (Addr × Obj)} (F : Fr h₀ env.locals s.heap m) (N : News h₀ env.locals s.heap (news ++ own)) (hown : own.map (·.1) = oadr) (hj : J 0 m news)
    (hst : St 0 s.heap) :
    codeAny (model prog w) A (.forLoop target (.ref I) body orelse env) R s := by
  let Iv : Nat → Shared → Prop := fun k s' => ∃ i h' g' tk m' news' own', s' = ⟨h', g', s.drawn, tk, s.os⟩ ∧ k = n - i ∧ i ≤ n ∧ GR s.gens g' ∧ Fr h₀ env.locals h' m' ∧ News h₀ env.locals h' (news' ++ own') ∧ own'.map (·.1) = oadr ∧ J i m' news' ∧ St i h'
  refine codeAny_forLoop_any Iv (fun k s' hI => ?_) n ⟨0, s.heap, s.gens, s.toks, m, news, own, rfl, rfl, Nat.zero_le _, gr _, F, N, hown, hj, hst⟩
  obtain ⟨i, h', g', tk, m', news', own', rfl, rfl, hi, hg, F', N', ho', hj', hst'⟩ := hI
  have offn : ∀ p ∈ news', p.1 ∉ wr := fun p hp hm => hoff _ _ _ hj' p hp (hwr _ hm)
  have hwd : ∀ d ∈ wr, d ≠ env.locals ∧ h₀.get? d = none := fun d hd => by
    have hm := hwr d hd
    rw [← ho'] at hm
    obtain ⟨p, hp, rfl⟩ := List.mem_map.mp hm
    exact (N' p (List.mem_append.mpr (.inr hp))).2
  by_cases hlt : i < n
  · refine W.item i _ _ _ hlt hst' fun v h₁ tk₁ hPv hst₁ hk₁ => ?_
    have hk₁' : ∀ b o, b ∉ wr → h'.get? b = some o → h₁.get? b = some o := hk₁
    let own₁ : List (Addr × Obj) := own'.map fun p => (p.1, (h₁.get? p.1).getD p.2)
    have ho₁ : own₁.map (·.1) = oadr := by
      show (own'.map _).map _ = _
      rw [List.map_map]; exact ho'
    have hown₁ : ∀ p ∈ own₁, h₁.get? p.1 = some p.2 := fun p hp => by
      obtain ⟨q, hq, rfl⟩ := List.mem_map.mp hp
      have : ∃ o, h₁.get? q.1 = some o := by
        by_cases hm : q.1 ∈ wr
        · exact hth _ _ hst₁ _ hm
        · exact ⟨q.2, hk₁' _ _ hm (N' q (List.mem_append.mpr (.inr hq))).1⟩
      obtain ⟨o, e⟩ := this
      show h₁.get? q.1 = some ((h₁.get? q.1).getD q.2)
      rw [e]; rfl
    obtain ⟨F₁, N₁⟩ := news_step (news' := news' ++ own₁) F' N' hk₁' hwd (fun p hp => by
      rcases List.mem_append.mp hp with hp | hp
      · exact .inl ⟨List.mem_append.mpr (.inl hp), offn p hp⟩
      · refine .inr ⟨hown₁ p hp, ?_⟩
        obtain ⟨q, hq, rfl⟩ := List.mem_map.mp hp
        exact (N' q (List.mem_append.mpr (.inr hq))).2)
    refine wpAny_mono (hlet (i + 1) v ⟨h₁, g', s.drawn, tk₁, s.os⟩ (fun _ s₁' => s₁' = ⟨h₁, g', s.drawn, tk₁, s.os⟩) hst₁ rfl) (fun _ s₁' e => ?_) fun _ _ z => z.elim
    subst e
    refine wpAny_mono (turn i v m' news' own₁ h₁ g' tk₁ _ hlt hPv hj' ho₁ hg F₁ N₁ rfl) (fun _ s₂ h₂ => wpAny_mono h₂ (fun f s₃ h₃ => ?_) fun _ _ z => z.elim) fun _ _ z => z.elim
    rcases h₃ with ⟨rfl, h₄, g₄, tk₄, m₄, news₄, rfl, hg₄, F₄, N₄, hj₄⟩ | ⟨rfl, hR⟩ | ⟨r, rfl, hR⟩
    · refine ⟨n - (i + 1), Nat.sub_succ_lt_self _ _ hlt, i + 1, h₄, g₄, tk₄, m₄, news₄, own₁, rfl, rfl, hlt, hg₄, F₄, N₄, ho₁, hj₄, ?_⟩
      refine W.frame _ _ _ hst₁ fun b hb o e => ?_
      rcases hfp b hb with hm | ⟨ob, hob⟩
      · rw [← ho₁] at hm
        obtain ⟨p, hp, rfl⟩ := List.mem_map.mp hm
        have q1 := hown₁ p hp
        rw [e] at q1
        have q2 := (N₄ p (List.mem_append.mpr (.inr hp))).1
        rw [q2]; exact q1.symm
      · have q1 := F₁.keep b ob hob
        rw [e] at q1
        rw [F₄.keep b ob hob]; exact q1.symm
    · exact hR
    · exact hR
  · have hin : i = n := Nat.le_antisymm hi (Nat.le_of_not_lt hlt)
    subst hin
    refine W.done _ _ _ hst' fun h₁ tk₁ hk₁ => ?_
    obtain ⟨F₁, N₁⟩ := news_step (news' := news') F' N' hk₁ hwd (fun p hp => .inl ⟨List.mem_append.mpr (.inl hp), offn p hp⟩)
    exact wpAny_mono (done m' news' h₁ g' tk₁ hj' hg F₁ N₁) (fun _ _ z => z) fun _ _ z => z.elim
theorem loop_walks {GR : Array GenState → Array GenState → Prop} (gr : ∀ a, GR a a) (gt : ∀ a b c, GR a b → GR b c → GR a c) {h₀ : Heap} {env : Env} {target : PySem.Expr} {body orelse : List Stmt} {R : Result → Shared → Prop} {I : Addr} {fp wr : List Addr} {n : Nat} {P : Nat → Value → Prop} {St : Nat → Heap → Prop}
    (W : Walks prog w A I fp wr n P St) (J : Nat → (PySem.Str → Option Value) → List (Addr × Obj) → Prop) (adr oadr : List Addr)
    (hfp : ∀ b ∈ fp, b ∈ oadr ∨ ∃ o, h₀.get? b = some o) (hwr : ∀ b ∈ wr, b ∈ oadr) (hoff : ∀ b ∈ oadr, b ∉ adr) (hth : ∀ i h, St i h → ∀ b ∈ wr, ∃ o, h.get? b = some o)
    (hlet : ∀ i v (s₁ : Shared) (Q : Unit → Shared → Prop), St i s₁.heap → Q () s₁ → wpAny (model prog w) A (letOwnedTupleGo target (.ref I) v) Q (fun _ _ => False) s₁)
    (turn : ∀ i v m news own h g tk (s₁ : Shared), i < n → P i v → J i m news → news.map (·.1) = adr → own.map (·.1) = oadr → GR s.gens g → Fr h₀ env.locals h m → News h₀ env.locals h (news ++ own) → s₁ = ⟨h, g, s.drawn, tk, s.os⟩ →
      wpAny (model prog w) A (assign target env v) (fun _ s₂ => wpAny (model prog w) A (execs body env) (fun f s₃ => (f = .next ∧ TE GR h₀ env.locals (J (i + 1)) own adr s s₃) ∨ (f = .brk ∧ R (.ok .next) s₃) ∨ ∃ v, f = .ret v ∧ R (.ok (.ret v)) s₃) (fun _ _ => False) s₂) (fun _ _ => False) s₁)
    (done : ∀ m news h g tk, J n m news → news.map (·.1) = adr → GR s.gens g → Fr h₀ env.locals h m → News h₀ env.locals h news → wpAny (model prog w) A (execs orelse env) (fun f s₃ => R (.ok f) s₃) (fun _ _ => False) ⟨h, g, s.drawn, tk, s.os⟩)
    {m : PySem.Str → Option Value} {news own : List (Addr × Obj)} (F : Fr h₀ env.locals s.heap m) (N : News h₀ env.locals s.heap (news ++ own)) (ha : news.map (·.1) = adr) (hown : own.map (·.1) = oadr) (hj : J 0 m news)
    (hst : St 0 s.heap) :
    codeAny (model prog w) A (.forLoop target (.ref I) body orelse env) R s := by
  refine loop_walks2 gr gt W (fun i m news => J i m news ∧ news.map (·.1) = adr) oadr hfp hwr (fun i m news hj p hp hm => hoff _ hm (hj.2 ▸ List.mem_map_of_mem hp)) hth hlet (fun i v m news own h g tk s₁ hi hP hj ho hg F N e => ?_) (fun m news h g tk hj => done m news h g tk hj.1 hj.2) F N hown ⟨hj, ha⟩ hst
  exact wpAny_mono (turn i v m news own h g tk s₁ hi hP hj.1 hj.2 ho hg F N e) (fun _ s₂ h₂ => wpAny_mono h₂ (fun f s₃ h₃ => h₃.imp_left fun ⟨e, h', g', tk, m', news', e2, hg, F, N, ha, hj⟩ => ⟨e, h', g', tk, m', news', e2, hg, F, N, hj, ha⟩) fun _ _ z => z) fun _ _ z => z
theorem fr_know {h₀ h : Heap} {L : Addr} {m : PySem.Str → Option Value} {x : PySem.Str} {v : Value} (F : Fr h₀ L h m) (hx : m x = some v) : Fr h₀ L h (fun y => if y = x then some v else m y) := by
  have e : (fun y => if y = x then some v else m y) = m := by
    funext y
    by_cases q : y = x
    · rw [if_pos q, q, hx]
    · rw [if_neg q]
  rw [e]; exact F
theorem own_one {own : List (Addr × Obj)} {a : Addr} (h : own.map (·.1) = [a]) : ∃ o, own = [(a, o)] := by
  cases own with
  | nil => cases h
  | cons p l =>
    cases l with
    | nil =>
      obtain ⟨b, o⟩ := p
      rw [List.map_cons, List.map_nil] at h
      have q : b = a := (List.cons.inj h).1
      exact ⟨o, by rw [q]⟩
    | cons q l => rw [List.map_cons, List.map_cons] at h; cases (List.cons.inj h).2
end
end Mine
end PartLoop

section PartTab
open PySem PySem.W PyProof.Rows PySem.Calls
namespace Mine
def fmEnts : Nat → List (Int × PySem.Str)
  | 0 => [(40960, Str.ofString "l"), (49152, Str.ofString "s"), (32768, Str.ofString "-"), (24576, Str.ofString "b"), (16384, Str.ofString "d"), (8192, Str.ofString "c"), (4096, Str.ofString "p")]
  | 1 => [(256, Str.ofString "r")]
  | 2 => [(128, Str.ofString "w")]
  | 3 => [(2112, Str.ofString "s"), (2048, Str.ofString "S"), (64, Str.ofString "x")]
  | 4 => [(32, Str.ofString "r")]
  | 5 => [(16, Str.ofString "w")]
  | 6 => [(1032, Str.ofString "s"), (1024, Str.ofString "S"), (8, Str.ofString "x")]
  | 7 => [(4, Str.ofString "r")]
  | 8 => [(2, Str.ofString "w")]
  | 9 => [(513, Str.ofString "t"), (512, Str.ofString "T"), (1, Str.ofString "x")]
  | _ => []
/-- a table as it lies: its entries' tuples -/
def TabAt (h : Heap) (tb : Addr) (ents : List (Int × PySem.Str)) : Prop :=
  ∃ items : List Value, h.IsTuple tb items.toArray ∧ items.length = ents.length ∧ ∀ (i : Nat) (e : Int × PySem.Str), ents[i]? = some e → ∃ (r : Addr) (tk tk' : Tok), items[i]? = some (Value.ref r) ∧ h.IsTuple r #[.int e.1 tk, .str e.2 tk']
theorem tab_of {h : Heap} {tb : Addr} {rs : List Addr} {ents : List (Int × PySem.Str)} (ht : h.IsTuple tb (rs.map Value.ref).toArray) (hl : rs.length = ents.length)
    (he : ∀ p ∈ rs.zip ents, ∃ tk tk', h.IsTuple p.1 #[.int p.2.1 tk, .str p.2.2 tk']) : TabAt h tb ents := by
  refine ⟨rs.map Value.ref, ht, by rw [List.length_map, hl], fun i e hi => ?_⟩
  have hlt : i < rs.length := by rw [hl]; exact (List.getElem?_eq_some_iff.mp hi).1
  have hr : rs[i]? = some rs[i] := List.getElem?_eq_getElem hlt
  obtain ⟨tk, tk', h1⟩ := he (rs[i], e) (List.mem_iff_getElem?.mpr ⟨i, by rw [List.getElem?_zip_eq_some]; exact ⟨hr, hi⟩⟩)
  exact ⟨rs[i], tk, tk', by rw [List.getElem?_map, hr]; rfl, h1⟩
theorem mem_nil_all {α : Type} {p : α → Prop} : ∀ x ∈ ([] : List α), p x := fun _ h => nomatch h
set_option maxRecDepth 100000 in
theorem tab0 {w : World} {h : Heap} (X : (Mine.hd.heap_39 w.params).In h) : TabAt h 29 (fmEnts 0) :=
  tab_of (rs := [22, 23, 24, 25, 26, 27, 28]) ⟨_, X 29 _ rfl, rfl, _, rfl⟩ rfl (List.forall_mem_cons.mpr ⟨⟨_, _, _, X 22 _ rfl, rfl, _, rfl⟩, List.forall_mem_cons.mpr ⟨⟨_, _, _, X 23 _ rfl, rfl, _, rfl⟩, List.forall_mem_cons.mpr ⟨⟨_, _, _, X 24 _ rfl, rfl, _, rfl⟩, List.forall_mem_cons.mpr ⟨⟨_, _, _, X 25 _ rfl, rfl, _, rfl⟩, List.forall_mem_cons.mpr ⟨⟨_, _, _, X 26 _ rfl, rfl, _, rfl⟩, List.forall_mem_cons.mpr ⟨⟨_, _, _, X 27 _ rfl, rfl, _, rfl⟩, List.forall_mem_cons.mpr ⟨⟨_, _, _, X 28 _ rfl, rfl, _, rfl⟩, mem_nil_all⟩⟩⟩⟩⟩⟩⟩)
set_option maxRecDepth 100000 in
theorem tab1 {w : World} {h : Heap} (X : (Mine.hd.heap_39 w.params).In h) : TabAt h 31 (fmEnts 1) :=
  tab_of (rs := [30]) ⟨_, X 31 _ rfl, rfl, _, rfl⟩ rfl (List.forall_mem_cons.mpr ⟨⟨_, _, _, X 30 _ rfl, rfl, _, rfl⟩, mem_nil_all⟩)
set_option maxRecDepth 100000 in
theorem tab2 {w : World} {h : Heap} (X : (Mine.hd.heap_39 w.params).In h) : TabAt h 33 (fmEnts 2) :=
  tab_of (rs := [32]) ⟨_, X 33 _ rfl, rfl, _, rfl⟩ rfl (List.forall_mem_cons.mpr ⟨⟨_, _, _, X 32 _ rfl, rfl, _, rfl⟩, mem_nil_all⟩)
set_option maxRecDepth 100000 in
theorem tab3 {w : World} {h : Heap} (X : (Mine.hd.heap_39 w.params).In h) : TabAt h 37 (fmEnts 3) :=
  tab_of (rs := [34, 35, 36]) ⟨_, X 37 _ rfl, rfl, _, rfl⟩ rfl (List.forall_mem_cons.mpr ⟨⟨_, _, _, X 34 _ rfl, rfl, _, rfl⟩, List.forall_mem_cons.mpr ⟨⟨_, _, _, X 35 _ rfl, rfl, _, rfl⟩, List.forall_mem_cons.mpr ⟨⟨_, _, _, X 36 _ rfl, rfl, _, rfl⟩, mem_nil_all⟩⟩⟩)
set_option maxRecDepth 100000 in
theorem tab4 {w : World} {h : Heap} (X : (Mine.hd.heap_39 w.params).In h) : TabAt h 39 (fmEnts 4) :=
  tab_of (rs := [38]) ⟨_, X 39 _ rfl, rfl, _, rfl⟩ rfl (List.forall_mem_cons.mpr ⟨⟨_, _, _, X 38 _ rfl, rfl, _, rfl⟩, mem_nil_all⟩)
set_option maxRecDepth 100000 in
theorem tab5 {w : World} {h : Heap} (X : (Mine.hd.heap_39 w.params).In h) : TabAt h 41 (fmEnts 5) :=
  tab_of (rs := [40]) ⟨_, X 41 _ rfl, rfl, _, rfl⟩ rfl (List.forall_mem_cons.mpr ⟨⟨_, _, _, X 40 _ rfl, rfl, _, rfl⟩, mem_nil_all⟩)
set_option maxRecDepth 100000 in
theorem tab6 {w : World} {h : Heap} (X : (Mine.hd.heap_39 w.params).In h) : TabAt h 45 (fmEnts 6) :=
  tab_of (rs := [42, 43, 44]) ⟨_, X 45 _ rfl, rfl, _, rfl⟩ rfl (List.forall_mem_cons.mpr ⟨⟨_, _, _, X 42 _ rfl, rfl, _, rfl⟩, List.forall_mem_cons.mpr ⟨⟨_, _, _, X 43 _ rfl, rfl, _, rfl⟩, List.forall_mem_cons.mpr ⟨⟨_, _, _, X 44 _ rfl, rfl, _, rfl⟩, mem_nil_all⟩⟩⟩)
set_option maxRecDepth 100000 in
theorem tab7 {w : World} {h : Heap} (X : (Mine.hd.heap_39 w.params).In h) : TabAt h 47 (fmEnts 7) :=
  tab_of (rs := [46]) ⟨_, X 47 _ rfl, rfl, _, rfl⟩ rfl (List.forall_mem_cons.mpr ⟨⟨_, _, _, X 46 _ rfl, rfl, _, rfl⟩, mem_nil_all⟩)
set_option maxRecDepth 100000 in
theorem tab8 {w : World} {h : Heap} (X : (Mine.hd.heap_39 w.params).In h) : TabAt h 49 (fmEnts 8) :=
  tab_of (rs := [48]) ⟨_, X 49 _ rfl, rfl, _, rfl⟩ rfl (List.forall_mem_cons.mpr ⟨⟨_, _, _, X 48 _ rfl, rfl, _, rfl⟩, mem_nil_all⟩)
set_option maxRecDepth 100000 in
theorem tab9 {w : World} {h : Heap} (X : (Mine.hd.heap_39 w.params).In h) : TabAt h 53 (fmEnts 9) :=
  tab_of (rs := [50, 51, 52]) ⟨_, X 53 _ rfl, rfl, _, rfl⟩ rfl (List.forall_mem_cons.mpr ⟨⟨_, _, _, X 50 _ rfl, rfl, _, rfl⟩, List.forall_mem_cons.mpr ⟨⟨_, _, _, X 51 _ rfl, rfl, _, rfl⟩, List.forall_mem_cons.mpr ⟨⟨_, _, _, X 52 _ rfl, rfl, _, rfl⟩, mem_nil_all⟩⟩⟩)
def fmTabs : List Addr := [29, 31, 33, 37, 39, 41, 45, 47, 49, 53]
theorem tab_all {w : World} {h : Heap} (X : (Mine.hd.heap_39 w.params).In h) {i : Nat} {x : Value} (hx : (fmTabs.map Value.ref).toArray[i]? = some x) : ∃ tb, x = .ref tb ∧ TabAt h tb (fmEnts i) := by
  have hi : i < 10 := (Array.getElem?_eq_some_iff.mp hx).1
  match i, hi, hx with
  | 0, _, hx => cases hx; exact ⟨_, rfl, tab0 X⟩
  | 1, _, hx => cases hx; exact ⟨_, rfl, tab1 X⟩
  | 2, _, hx => cases hx; exact ⟨_, rfl, tab2 X⟩
  | 3, _, hx => cases hx; exact ⟨_, rfl, tab3 X⟩
  | 4, _, hx => cases hx; exact ⟨_, rfl, tab4 X⟩
  | 5, _, hx => cases hx; exact ⟨_, rfl, tab5 X⟩
  | 6, _, hx => cases hx; exact ⟨_, rfl, tab6 X⟩
  | 7, _, hx => cases hx; exact ⟨_, rfl, tab7 X⟩
  | 8, _, hx => cases hx; exact ⟨_, rfl, tab8 X⟩
  | 9, _, hx => cases hx; exact ⟨_, rfl, tab9 X⟩
end Mine
end PartTab

section PartFM
open PySem PySem.W PyProof.Rows PySem.Calls
namespace Mine
set_option maxRecDepth 100000 in
set_option maxHeartbeats 4000000 in
theorem ifmt {w : World} {mean : ExcName → Option Value} {mg mb : PySem.Str → Option Value} {s : Shared} {A : Around}
    {mode : Int} {t : Tok} {Q E : Value → Shared → Prop} :
    (Mine.hd.heap_39 w.params).In s.heap → Top topProg looseL mean mg mb s.heap → A.depth < 700 →
    (∀ h' tk t', (∀ b o, s.heap.get? b = some o → h'.get? b = some o) → Q (.int (Builtin.bitAnd mode 61440) t') { s with heap := h', toks := tk }) →
    wpAny (model PySem.Challenge.rw_ij0158_01.row.prog w) A (call (.ref 21) [.int mode t]) Q E s := by
  w_top off
  k_fill
  intro X T hd h
  k_dflt (refine' enter ?k1 ?k5 ?k6 ?k7 ?k8 ?k9 ?kB ?_ ?c2 ?c3 ?c4 ?c5; (case k1 => k_asm); (case k5 => exact Top.nolimit (by assumption)); (case k6 => k_is); (case k7 => k_is); (case k8 => ktr_room); (case k9 => first | exact BindsTo.of_eq rfl | exact binds_K (by k_in) rfl (by k_is) rfl rfl rfl); (case c5 => decide); (case kB => exact locs rfl); (case c2 => exact rfl); (case c3 => exact rfl); (case c4 => exact rfl); k_whole; intro _ _ _ _; (try dsimp only))
  k_steps
  all_goals exact h _ _ _ (Fr.keep (by assumption))

local macro_rules | `(tactic| walk_at "call ref") => `(tactic| (k_here; (with_reducible show wpAny _ _ (call (Value.ref 21) [Value.int _ _]) _ _ _); (with_reducible rename Fr _ _ _ _ => kF); (with_reducible rename News _ _ _ _ => kN); k_dflt (refine' ifmt ?k1 ?k2 ?k3 ?_; (case k1 => exact Frag.In.keeps (by assumption) kF.keep); (case k2 => exact Top.keeps (by assumption) kF.keep); (case k3 => ktr_room)); (intro ih itk it ihk; have iF := fr_keeps kF ihk; have iN := news_keeps kN ihk; clear ihk kF kN)))
local macro_rules | `(tactic| k_room) => `(tactic| ktr_room)
local macro_rules | `(tactic| walk_at "exec For Tuple Call") => `(tactic| (k_here; refine stop_intro ?_))
local macro_rules | `(tactic| walk_at "exec For Tuple Name") => `(tactic| (k_here; refine stop_intro ?_))

def fmPick (p : Int → Bool) (d : PySem.Str) : List (Int × PySem.Str) → PySem.Str
  | [] => d
  | e :: l => if p e.1 = true then e.2 else fmPick p d l
theorem pick_at {p : Int → Bool} {d : PySem.Str} : ∀ {l : List (Int × PySem.Str)} {j : Nat} {eb : Int} {ec : PySem.Str}, (∀ (k : Nat) (e : Int × PySem.Str), k < j → l[k]? = some e → p e.1 = false) → l[j]? = some (eb, ec) → p eb = true → fmPick p d l = ec
  | [], _, _, _, _, h, _ => by simp at h
  | e :: l, 0, eb, ec, _, h, hp => by
    have q : e = (eb, ec) := by simpa using h
    subst q
    simp only [fmPick, hp, if_true]
  | e :: l, j + 1, eb, ec, hn, h, hp => by
    have h0 := hn 0 e (Nat.succ_pos _) rfl
    simp only [fmPick, h0, Bool.false_eq_true, if_false]
    exact pick_at (fun k e' hk he => hn (k + 1) e' (Nat.succ_lt_succ hk) (by simpa using he)) (by simpa using h) hp
theorem pick_none {p : Int → Bool} {d : PySem.Str} : ∀ {l : List (Int × PySem.Str)}, (∀ (k : Nat) (e : Int × PySem.Str), l[k]? = some e → p e.1 = false) → fmPick p d l = d
  | [], _ => rfl
  | e :: l, hn => by
    have h0 := hn 0 e rfl
    simp only [fmPick, h0, Bool.false_eq_true, if_false]
    exact pick_none fun k e' he => hn (k + 1) e' (by simpa using he)
def fmP (mode : Int) (i : Nat) (b : Int) : Bool := if i = 0 then decide (Builtin.bitAnd mode 61440 = b) else decide (Builtin.bitAnd mode b = b)
def fmD (i : Nat) : PySem.Str := if i = 0 then Str.ofString "?" else Str.ofString "-"
theorem strs_push {va : Array Value} {l : List PySem.Str} {x : PySem.Str} {t : Tok} (h : StrsAre va.toList l) : StrsAre (va.push (.str x t)).toList (l ++ [x]) := by
  rw [Array.toList_push]
  exact StrsAre.append' h (StrsAre.cons _ _ StrsAre.nil)

def fmSpec (mode : Int) (i : Nat) : PySem.Str := fmPick (fmP mode i) (fmD i) (fmEnts i)
def fmText (mode : Int) : PySem.Str := Txt.join (Str.ofString "") ((List.range 10).map (fmSpec mode))
theorem fmPick_len {p : Int → Bool} {d : PySem.Str} (hd : d.length ≤ 1) : ∀ {l : List (Int × PySem.Str)}, (∀ e ∈ l, e.2.length ≤ 1) → (fmPick p d l).length ≤ 1
  | [], _ => hd
  | e :: l, h => by
    unfold fmPick
    split
    · exact h e (.head _)
    · exact fmPick_len hd fun e' he => h e' (.tail _ he)
theorem fmEnts_len : ∀ i, ∀ e ∈ fmEnts i, e.2.length ≤ 1
  | 0 | 1 | 2 | 3 | 4 | 5 | 6 | 7 | 8 | 9 => by decide
  | _ + 10 => fun _ h => nomatch h
theorem fmSpec_len (mode : Int) (i : Nat) : (fmSpec mode i).length ≤ 1 := fmPick_len (by unfold fmD; split <;> decide) (fmEnts_len i)
theorem fmSpec_sum (mode : Int) : ∀ n, (((List.range n).map (fmSpec mode)).map (fun x => x.length)).sum ≤ n
  | 0 => Nat.le_refl _
  | n + 1 => by
    have h := fmSpec_sum mode n
    have q := fmSpec_len mode n
    rw [List.range_succ, List.map_append, List.map_append, List.sum_append]
    simp only [List.map_cons, List.map_nil, List.sum_cons, List.sum_nil]
    omega
def fmJ (mode : Int) (L P : Addr) (f : Nat → PySem.Str) (i : Nat) (m : PySem.Str → Option Value) (news : List (Addr × Obj)) : Prop :=
  (∃ t, m (Str.ofString "mode") = some (.int mode t)) ∧ m (Str.ofString "perm") = some (.ref P) ∧ ∃ (va : Array Value) (n : Nat), news = [(P, listOf va n)] ∧ StrsAre va.toList ((List.range i).map f)

set_option maxRecDepth 100000 in
set_option maxHeartbeats 4000000 in
theorem fm_call {w : World} {mean : ExcName → Option Value} {mg mb : PySem.Str → Option Value} {s : Shared} {dp un : Nat} {gd : Option (List Code)} {fr : Option (List Env)}
    {mode : Int} {t : Tok} {Q E : Value → Shared → Prop} :
    (Mine.hd.heap_39 w.params).In s.heap → Top topProg looseL mean mg mb s.heap → dp < 600 →
    (∀ h' tk t', (∀ b o, s.heap.get? b = some o → h'.get? b = some o) → Q (.str (fmText mode) t') { s with heap := h', toks := tk }) →
    wpAny (model PySem.Challenge.rw_ij0158_01.row.prog w) { handled := none, depth := dp, frames := fr, guards := gd, units := un } (call (.ref 61) [.int mode t]) Q E s := by
  w_top off
  k_fill
  intro X T hd h
  k_dflt (refine' enter ?k1 ?k5 ?k6 ?k7 ?k8 ?k9 ?kB ?_ ?c2 ?c3 ?c4 ?c5; (case k1 => k_asm); (case k5 => exact Top.nolimit (by assumption)); (case k6 => k_is); (case k7 => k_is); (case k8 => ktr_room); (case k9 => first | exact BindsTo.of_eq rfl | exact binds_K (by k_in) rfl (by k_is) rfl rfl rfl); (case c5 => decide); (case kB => exact locs rfl); (case c2 => exact rfl); (case c3 => exact rfl); (case c4 => exact rfl); k_whole; intro _ _ _ _; (try dsimp only))
  k_steps
  refine stop_out ?_
  refine wpAny_For ?_ (by intro _; rfl)
  k_steps
  rename Fr _ _ _ _ => F₁
  rename News _ _ _ _ => N₁
  have hT54 : s.heap.IsTuple 54 #[.ref 29, .ref 31, .ref 33, .ref 37, .ref 39, .ref 41, .ref 45, .ref 47, .ref 49, .ref 53] := ⟨_, X 54 { cls := .type "tuple", data := .seq #[.ref 29, .ref 31, .ref 33, .ref 37, .ref 39, .ref 41, .ref 45, .ref 47, .ref 49, .ref 53] } (by kernel_rfl), rfl, _, rfl⟩
  refine enum_call (tuple_keeps hT54 F₁.keep) (fun h₁ he hit hk₁ => ?_)
  have F₂ := fr_keeps F₁ hk₁
  have N₂ := news_keeps N₁ hk₁
  dsimp only
  rename_i L hA tkA P hB l1 hC
  refine wpAny_pyIter_enum he ?_
  have hPlt : P < hC.objs.size := news_lt N₁ (List.Mem.head _)
  obtain ⟨oi, hoi, hoc, hod⟩ := id hit
  have fe := news_fresh F₁ (Nat.le_succ hC.objs.size)
  have fi := news_fresh F₁ (Nat.le_refl hC.objs.size)
  refine loop_enum (h₀ := s.heap) (it := hC.objs.size) (tb := 54) rfl hT54 (Nat.succ_ne_self _) (fun i m news => fmJ mode L P (fmSpec mode) i m news) [P] ⟨fun q => absurd (List.mem_singleton.mp q) (Nat.ne_of_gt (Nat.lt_succ_of_lt hPlt)), fun q => absurd (List.mem_singleton.mp q) (Nat.ne_of_gt hPlt)⟩ ?turn ?done (news := [(P, listOf #[] 0)]) (oe := { cls := .type "enumerate", data := .fields #[.none, .bool false, .ref hC.objs.size, rawInt 0, .none, .none] }) (oi := oi) F₂ ?n rfl ?j he hit
  case n =>
    intro p hp
    rcases List.mem_cons.mp hp with rfl | hp
    · exact N₂ _ (.head _)
    · rcases List.mem_cons.mp hp with rfl | hp
      · exact ⟨he, fe⟩
      · rw [List.mem_singleton.mp hp]; exact ⟨hoi, fi⟩
  case j => exact ⟨⟨t, rfl⟩, rfl, _, _, rfl, StrsAre.nil⟩
  case done =>
    intro m₃ news₃ h₃ tk₃ hJ F₃ N₃
    obtain ⟨⟨tm, hm⟩, hp, va, n, rfl, hS⟩ := hJ
    replace F₃ : Fr s.heap L h₃ _ := fr_know (x := Str.ofString "perm") (v := .ref P) (fr_know F₃ hm) hp
    replace N₃ : News s.heap L h₃ [(P, listOf va n)] := N₃
    clear F₁ N₁ F₂ N₂
    k_steps
    rename News _ _ _ _ => N₇
    rename Fr _ _ _ _ => F₇
    refine join_listC (items := va) (ys := (List.range 10).map (fmSpec mode)) ⟨_, (N₇ _ (.head _)).1, rfl, _, rfl⟩ hS (by decide) ?_ fun t' k => ?_
    · rw [List.length_map, List.length_range]
      have := fmSpec_sum mode 10
      omega
    · k_steps
      exact h _ _ _ F₇.keep
  case turn =>
    intro i x m news hp₂ tk₂ T₂ t₂ oi₂ s₂ hx hj ha hTe hTi F₃ N₃ hs
    replace F₃ : Fr s.heap L hp₂ m := F₃
    subst hs
    obtain ⟨⟨tm, hm⟩, hp, va, n, rfl, hS⟩ := hj
    have hi : i < 10 := (Array.getElem?_eq_some_iff.mp hx).1
    obtain ⟨tb, hxt, items, hit₂, hlen, hent⟩ := tab_all X hx
    subst hxt
    replace N₃ : News s.heap L hp₂ [(T₂, { cls := .type "tuple", data := .seq #[.int i t₂, .ref tb] }), (P, listOf va n), (hC.objs.size + 1, { cls := .type "enumerate", data := .fields #[.none, .bool false, .ref hC.objs.size, rawInt ((i : Int) + 1), .none, .ref tb] }), (hC.objs.size, oi₂)] := N₃
    generalize hoe : ({ cls := .type "enumerate", data := .fields #[.none, .bool false, .ref hC.objs.size, rawInt ((i : Int) + 1), .none, .ref tb] } : Obj) = oe at N₃ ⊢
    clear he hit hoi hod hoc fe fi F₁ N₁ F₂ N₂
    k_steps
    refine stop_out ?_
    refine wpAny_For ?_ (by intro _; rfl)
    k_steps
    rename Fr _ _ _ _ => F₄
    rename News _ _ _ _ => N₄
    refine wpAny_pyIter_tuple (tuple_keeps hit₂ F₄.keep) ?_
    rename_i hD
    have hDl : ∀ p ∈ [(P, listOf va n), (hC.objs.size + 1, oe), (hC.objs.size, oi₂)], p ∈ [(T₂, ({ cls := .type "tuple", data := .seq #[.int i t₂, .ref tb] } : Obj)), (P, listOf va n), (hC.objs.size + 1, oe), (hC.objs.size, oi₂)] := fun p hp => .tail _ hp
    have hlts : ∀ p ∈ [(P, listOf va n), (hC.objs.size + 1, oe), (hC.objs.size, oi₂)], p.1 < hD.objs.size := fun p hp => news_lt N₄ (hDl p hp)
    have htb : tb < hD.objs.size := let ⟨_, q, _⟩ := hit₂; Heap.lt_size (F₄.keep _ _ q)
    have fI := news_fresh F₄ (Nat.le_refl hD.objs.size)
    refine loop_walks (GR := Eq) (fun _ => rfl) (fun _ _ _ => Eq.trans) (h₀ := s.heap) (Walks.tuple rfl hD.objs.size tb (Nat.ne_of_lt htb) items.toArray)
      (fun j m' news' => (∃ t, m' (Str.ofString "mode") = some (.int mode t)) ∧ m' (Str.ofString "perm") = some (.ref P) ∧ m' (Str.ofString "index") = some (.int i t₂) ∧
        news' = [(P, listOf va n), (hC.objs.size + 1, oe), (hC.objs.size, oi₂)] ∧
        ∀ (k : Nat) (e : Int × PySem.Str), k < j → (fmEnts i)[k]? = some e → fmP mode i e.1 = false)
      [P, hC.objs.size + 1, hC.objs.size] [hD.objs.size] ?fp ?wr ?off ?th ?lt ?turn2 ?done2 (news := [(P, listOf va n), (hC.objs.size + 1, oe), (hC.objs.size, oi₂)]) (own := [(hD.objs.size, { cls := .type "tuple_iterator", data := .fields #[.ref tb, .int 0 0] })]) (fr_keeps F₄ fun b o q => Heap.get?_push_of_some _ q) ?N rfl rfl ?j2 ?st
    case fp =>
      intro b hb
      rcases List.mem_cons.mp hb with rfl | hb
      · exact .inl (.head _)
      · rw [List.mem_singleton.mp hb]; exact .inr (let ⟨o, q, _⟩ := hit₂; ⟨o, q⟩)
    case wr => exact fun b hb => hb
    case off =>
      intro b hb
      rw [List.mem_singleton.mp hb]
      intro hm
      have q := hlts
      rcases List.mem_cons.mp hm with e | hm
      · exact Nat.ne_of_lt (hlts _ (.head _)) e.symm
      · rcases List.mem_cons.mp hm with e | hm
        · exact Nat.ne_of_lt (hlts _ (.tail _ (.head _))) e.symm
        · exact Nat.ne_of_lt (hlts _ (.tail _ (.tail _ (.head _)))) (List.mem_singleton.mp hm).symm
    case th =>
      intro j h hst b hb
      rw [List.mem_singleton.mp hb]
      obtain ⟨⟨o, q, _⟩, _⟩ := hst
      exact ⟨o, q⟩
    case lt => exact fun j v s₁ Q hst hQ => letGo_tupleIter hst.1 hQ
    case N =>
      intro p hp
      rcases List.mem_append.mp hp with hp | hp
      · exact news_keeps N₄ (fun b o q => Heap.get?_push_of_some _ q) p (hDl p hp)
      · rw [List.mem_singleton.mp hp]; exact ⟨Heap.get?_push_size _ rfl, fI⟩
    case j2 => exact ⟨⟨tm, hm⟩, hp, rfl, rfl, fun k e hk => absurd hk (Nat.not_lt_zero _)⟩
    case st => exact ⟨⟨_, Heap.get?_push_size _ rfl, rfl, rfl⟩, tuple_keeps hit₂ fun b o q => Heap.get?_push_of_some _ (F₄.keep b o q)⟩
    case done2 =>
      intro m₅ news₅ h₅ g₅ tk₅ hJ ha₅ hg₅ F₅ N₅
      subst hg₅
      obtain ⟨⟨tm', hm'⟩, hp', hi', rfl, hno⟩ := hJ
      replace F₅ : Fr s.heap L h₅ _ := fr_know (x := Str.ofString "index") (v := .int i t₂) (fr_know (x := Str.ofString "perm") (v := .ref P) (fr_know F₅ hm') hp') hi'
      replace N₅ : News s.heap L h₅ [(P, listOf va n), (hC.objs.size + 1, oe), (hC.objs.size, oi₂)] := N₅
      clear F₄ N₄ ha₅
      have nP : @LT.lt Nat instLTNat P hC.objs.size := hPlt
      have nD : @LT.lt Nat instLTNat (hC.objs.size + 1) hD.objs.size := hlts _ (.tail _ (.head _))
      have nV : va.size ≤ 10 := by rw [← Array.length_toList, hS.length, List.length_map, List.length_range]; exact Nat.le_of_lt hi
      have hall : fmSpec mode i = fmD i := pick_none fun k e he => hno k e (by rw [List.size_toArray, hlen]; exact (List.getElem?_eq_some_iff.mp he).1) he
      have fin : ∀ (t' : Tok) (h' : Heap) (m' : PySem.Str → Option Value) (big : List (Addr × Obj)) (tk' : Nat), Fr s.heap L h' m' → News s.heap L h' big → (∀ p ∈ [(P, listOf (va.push (.str (fmD i) t')) (n + 1)), (hC.objs.size + 1, oe), (hC.objs.size, oi₂)], p ∈ big) →
          (∃ t, m' (Str.ofString "mode") = some (.int mode t)) → m' (Str.ofString "perm") = some (.ref P) → TEnd s.heap L (fun m news => fmJ mode L P (fmSpec mode) (i + 1) m news) [(hC.objs.size + 1, oe), (hC.objs.size, oi₂)] [P] { s with heap := h₁, toks := tk } { s with heap := h', toks := tk' } := by
        intro t' h' m' big tk' F' N' hb q1 q2
        refine TEnd.intro (news' := [(P, listOf (va.push (.str (fmD i) t')) (n + 1))]) F' N' hb rfl ⟨q1, q2, _, _, rfl, ?_⟩
        rw [List.range_succ, List.map_append, List.map_singleton, hall]
        exact strs_push hS
      by_cases h0 : i = 0
      · subst h0
        k_steps
        all_goals (rename Fr _ _ _ _ => F₆; rename News _ _ _ _ => N₆)
        all_goals exact fin _ _ _ _ _ F₆ N₆ (fun p hp => hp) ⟨_, rfl⟩ rfl
      · have e0 : fmD i = Str.ofString "-" := by simp only [fmD, if_neg h0]
        k_steps
        all_goals (rename Fr _ _ _ _ => F₆; rename News _ _ _ _ => N₆)
        all_goals first
          | (exfalso; omega)
          | (rw [e0] at fin; exact fin _ _ _ _ _ F₆ N₆ (fun p hp => hp) ⟨_, rfl⟩ rfl)
    case turn2 =>
      intro j v m₅ news₅ own₅ h₅ g₅ tk₅ s₅ hj hv hJ ha₅ hown₅ hg₅ F₅ N₅ hs
      subst hs hg₅
      obtain ⟨⟨tm', hm'⟩, hp', hi', rfl, hno⟩ := hJ
      obtain ⟨oI, rfl⟩ := own_one hown₅
      have hje : (fmEnts i)[j]? = some ((fmEnts i)[j]'(by rw [← hlen]; simpa using hj)) := List.getElem?_eq_getElem _
      obtain ⟨r, tb₁, tb₂, hr, hrt⟩ := hent j _ hje
      generalize (fmEnts i)[j]'(by rw [← hlen]; simpa using hj) = ent at hje hrt
      obtain ⟨eb, ec⟩ := ent
      have hv' : v = .ref r := by
        have q : items[j]? = some v := by simpa using hv
        rw [hr] at q; exact (Option.some.inj q).symm
      subst hv'
      replace F₅ : Fr s.heap L h₅ _ := fr_know (x := Str.ofString "index") (v := .int i t₂) (fr_know (x := Str.ofString "perm") (v := .ref P) (fr_know F₅ hm') hp') hi'
      replace N₅ : News s.heap L h₅ [(P, listOf va n), (hC.objs.size + 1, oe), (hC.objs.size, oi₂), (hD.objs.size, oI)] := N₅
      clear F₄ N₄ hv hj hr hown₅ ha₅
      have hrt₅ := tuple_keeps hrt F₅.keep
      have nP : @LT.lt Nat instLTNat P hC.objs.size := hPlt
      have nD : @LT.lt Nat instLTNat (hC.objs.size + 1) hD.objs.size := hlts _ (.tail _ (.head _))
      have nV : va.size ≤ 10 := by rw [← Array.length_toList, hS.length, List.length_map, List.length_range]; exact Nat.le_of_lt hi
      have fin : fmP mode i eb = true → ∀ (h' : Heap) (m' : PySem.Str → Option Value) (big : List (Addr × Obj)) (tk' : Nat), Fr s.heap L h' m' → News s.heap L h' big → (∀ p ∈ [(P, listOf (va.push (.str ec tb₂)) (n + 1)), (hC.objs.size + 1, oe), (hC.objs.size, oi₂)], p ∈ big) →
          (∃ t, m' (Str.ofString "mode") = some (.int mode t)) → m' (Str.ofString "perm") = some (.ref P) → TEnd s.heap L (fun m news => fmJ mode L P (fmSpec mode) (i + 1) m news) [(hC.objs.size + 1, oe), (hC.objs.size, oi₂)] [P] { s with heap := h₁, toks := tk } { s with heap := h', toks := tk' } := by
        intro hpe h' m' big tk' F' N' hb q1 q2
        refine TEnd.intro (news' := [(P, listOf (va.push (.str ec tb₂)) (n + 1))]) F' N' hb rfl ⟨q1, q2, _, _, rfl, ?_⟩
        rw [List.range_succ, List.map_append, List.map_singleton]
        have e : fmSpec mode i = ec := pick_at hno hje hpe
        rw [e]
        exact strs_push hS
      have nx : fmP mode i eb = false → ∀ (k : Nat) (e : Int × PySem.Str), k < j + 1 → (fmEnts i)[k]? = some e → fmP mode i e.1 = false := by
        intro hpe k e hk he
        rcases Nat.lt_or_ge k j with q | q
        · exact hno k e q he
        · have : k = j := by omega
          subst this
          rw [hje] at he
          cases he
          exact hpe
      by_cases h0 : i = 0
      · subst h0
        k_steps
        all_goals (rename Fr _ _ _ _ => F₆; rename News _ _ _ _ => N₆)
        · dsimp only
          refine .inr (.inl ⟨rfl, ?_⟩)
          (try dsimp only)
          k_steps
          exact fin (by simp only [fmP, if_true]; exact decide_eq_true (by assumption)) _ _ _ _ (by assumption) N₆ (by intro p hp; exact List.mem_of_mem_take (i := 3) hp) ⟨_, rfl⟩ rfl
        · exact .inl ⟨rfl, TE.intro (news' := [(P, listOf va n), (hC.objs.size + 1, oe), (hC.objs.size, oi₂)]) rfl F₆ N₆ (fun p hp => hp) rfl ⟨⟨_, rfl⟩, rfl, rfl, rfl, nx (by simp only [fmP, if_true]; exact decide_eq_false (by assumption))⟩⟩
      · k_steps
        all_goals (rename Fr _ _ _ _ => F₆; rename News _ _ _ _ => N₆)
        all_goals first
          | (exfalso; omega)
          | exact .inl ⟨rfl, TE.intro (news' := [(P, listOf va n), (hC.objs.size + 1, oe), (hC.objs.size, oi₂)]) rfl F₆ N₆ (fun p hp => hp) rfl ⟨⟨_, rfl⟩, rfl, rfl, rfl, nx (by simp only [fmP, if_neg h0]; exact decide_eq_false (by assumption))⟩⟩
          | (dsimp only
             refine .inr (.inl ⟨rfl, ?_⟩)
             (try dsimp only)
             k_steps
             exact fin (by simp only [fmP, if_neg h0]; exact decide_eq_true (by assumption)) _ _ _ _ (by assumption) N₆ (by intro p hp; exact List.mem_of_mem_take (i := 3) hp) ⟨_, rfl⟩ rfl)
end Mine
end PartFM

section PartFMspec
open PySem PySem.W PyProof.Rows PySem.Calls
namespace Mine
def kindTab : List (Int × PySem.Str) := [(40960, Str.ofString "l"), (49152, Str.ofString "s"), (32768, Str.ofString "-"), (24576, Str.ofString "b"), (16384, Str.ofString "d"), (8192, Str.ofString "c"), (4096, Str.ofString "p"), (20480, Str.ofString "?")]
/-- the sign at place p of five -/
def sgAt (p n : Nat) : Nat := if n / 2 ^ (4 - p) % 2 = 1 then [119, 120, 114, 119, 120].getD p 0 else 45
def rowOf (sg : PySem.Str) (n : Nat) : PySem.Str := ⟨sg.cps ++ #[114, 119, 120, 114] ++ ((List.range 5).map fun p => sgAt p n).toArray⟩
theorem join0 : ∀ l : List Nat, Txt.join (Str.ofString "") (l.map fun c => (⟨#[c]⟩ : PySem.Str)) = ⟨l.toArray⟩ := by
  intro l
  show Builtin.Str.glued _ _ = _
  rw [StrLaws.glued_eq_join]
  induction l with
  | nil => rfl
  | cons c l ih =>
    cases l with
    | nil => rfl
    | cons b l =>
      simp only [List.map_cons] at ih ⊢
      show (⟨#[c]⟩ : PySem.Str) ++ Str.ofString "" ++ Str.join _ (_ :: _) = _
      rw [ih]
      show (⟨#[c] ++ #[] ++ (b :: l).toArray⟩ : PySem.Str) = _
      simp
/-- the same tables with bare figures: the kernel's work stays small -/
def entsN : Nat → List (Int × Nat)
  | 0 => [(40960, 108), (49152, 115), (32768, 45), (24576, 98), (16384, 100), (8192, 99), (4096, 112)]
  | 1 => [(256, 114)]
  | 2 => [(128, 119)]
  | 3 => [(2112, 115), (2048, 83), (64, 120)]
  | 4 => [(32, 114)]
  | 5 => [(16, 119)]
  | 6 => [(1032, 115), (1024, 83), (8, 120)]
  | 7 => [(4, 114)]
  | 8 => [(2, 119)]
  | 9 => [(513, 116), (512, 84), (1, 120)]
  | _ => []
def pickN (p : Int → Bool) (d : Nat) : List (Int × Nat) → Nat
  | [] => d
  | e :: l => if p e.1 = true then e.2 else pickN p d l
def specN (mode : Int) (i : Nat) : Nat := pickN (fmP mode i) (if i = 0 then 63 else 45) (entsN i)
def toS (e : Int × Nat) : Int × PySem.Str := (e.1, ⟨#[e.2]⟩)
theorem pick_N {p : Int → Bool} {d : Nat} : ∀ l : List (Int × Nat), fmPick p ⟨#[d]⟩ (l.map toS) = ⟨#[pickN p d l]⟩
  | [] => rfl
  | e :: l => by
    show (if p e.1 = true then (⟨#[e.2]⟩ : PySem.Str) else fmPick p ⟨#[d]⟩ (l.map toS)) = ⟨#[if p e.1 = true then e.2 else pickN p d l]⟩
    by_cases h : p e.1 = true
    · rw [if_pos h, if_pos h]
    · rw [if_neg h, if_neg h]; exact pick_N l
theorem ents_low : ∀ i < 10, fmEnts i = (entsN i).map toS := by decide +kernel
theorem fmD_N (i : Nat) : fmD i = ⟨#[if i = 0 then 63 else 45]⟩ := by
  unfold fmD
  split
  · exact (show Str.ofString "?" = ⟨#[63]⟩ by decide +kernel)
  · exact (show Str.ofString "-" = ⟨#[45]⟩ by decide +kernel)
theorem text_N (mode : Int) : fmText mode = ⟨((List.range 10).map (specN mode)).toArray⟩ := by
  unfold fmText
  rw [← join0, List.map_map]
  congr 1
  refine List.map_congr_left fun i hi => ?_
  unfold fmSpec
  rw [ents_low i (List.mem_range.mp hi), fmD_N]
  exact pick_N _
def kindN : List (Int × Nat) := [(40960, 108), (49152, 115), (32768, 45), (24576, 98), (16384, 100), (8192, 99), (4096, 112), (20480, 63)]
theorem kindTab_N : kindTab = kindN.map toS := by decide +kernel
theorem row_N : ∀ e ∈ kindN, ∀ n < 32, (List.range 10).map (specN (e.1 + 480 + ((n : Nat) : Int))) = e.2 :: 114 :: 119 :: 120 :: 114 :: (List.range 5).map (fun p => sgAt p n) := by decide +kernel
theorem fmText_row : ∀ e ∈ kindTab, ∀ n < 32, fmText (e.1 + 480 + (n : Nat)) = rowOf e.2 n := fun e he n hn => by
  rw [kindTab_N] at he
  obtain ⟨e', he', rfl⟩ := List.mem_map.mp he
  rw [text_N]
  show (⟨((List.range 10).map (specN (e'.1 + 480 + ((n : Nat) : Int)))).toArray⟩ : PySem.Str) = ⟨#[e'.2] ++ #[114, 119, 120, 114] ++ ((List.range 5).map fun p => sgAt p n).toArray⟩
  rw [row_N e' he' n hn]
  simp
end Mine
end PartFMspec

section PartGen2
open PySem PySem.W PyProof.Rows PySem.Calls
set_option maxRecDepth 100000
namespace Mine
section
variable {prog : Program} {w : World} {A : Around} {E : Value → Shared → Prop} {s : Shared}

theorem pyNext_genQ {a : Addr} {g n : Nat} {gs : GenState} {P : Nat → Shared → Shared → Prop} {Y : Protocol} {Q : Option Value → Shared → Prop} (hh : A.handled = none)
    (hl : s.heap.NoLimit) (hroom : A.depth < recursionLimit)
    (hg : s.heap.IsGen a g) (hgs : s.gens[g]? = some gs)
    (hgo : gs.Goes (model prog w) A.in1 (fun n s₀ r s₁ => r = .ok (.ret .none) ∧ P n s₀ s₁) Y n (.send .none) (s.setGen g .running))
    (hY : ∀ v s₁ gs', gs'.bare = true → Y (n - 1) (s.setGen g .running) v s₁ (fun r' s'' => match n with
        | 0 => False
        | m + 1 => gs'.Goes (model prog w) A.in1 (fun n s₀ r s₁ => r = .ok (.ret .none) ∧ P n s₀ s₁) Y m r' s'') → Q (some v) (s₁.setGen g gs'))
    (hP : ∀ s₁, P n (s.setGen g .running) s₁ → ∀ h', (∀ b o, s₁.heap.get? b = some o → h'.get? b = some o) → Q none { s₁.setGen g .finished with heap := h' }) :
    wpAny (model prog w) A (pyNext (.ref a)) Q E s := by
  unfold pyNext
  refine wpAny_bind (wpAny_attempt (wpAny_callSpecial?_slot (name := Str.ofString "__next__") hg.typeIs slot_gen_next
    (wpAny_call_entry slot_gen_next hg.typeIs entry_gen_next ?_ (args_gen_next _))))
  show wpAny _ A.in1 (Builtin.Generator.genWake (.ref a) (.send .none)) _ _ s
  unfold Builtin.Generator.genWake
  refine wpAny_bind (wpAny_holding (wpAny_genNumber hg (wpAny_bind (wpAny_genState hgs ?_))))
  cases gs with
  | running => exact hgo.elim
  | finished => exact hgo.elim
  | _ =>
    refine wpAny_bind (wpAny_roomToWake hl hroom ?_)
    show wpAny _ A.in1 (.resume g (.send .none) [] _) _ _ s
    refine wpAny_resumeQ hgs hgo (fun x s₁ hx => ?_) (fun v s₁ gs' hb hv => ?_)
    · obtain ⟨rfl, hp⟩ := hx
      show wpAny _ A.in1 (newExc (.type "StopIteration") [] >>= _) _ _ _
      refine wpAny_bind ?_
      simp only [newExc, newTuple]
      refine wpAny_bind (wpAny_newObj_type ?_ (by size_fits))
      refine wpAny_bind (m := firstArgMember _ _) (wpAny_of_eq (a := Value.none) (by first | rfl | (simp only [firstArgMember]; rfl)) ?_)
      refine wpAny_newObj_type ?_ (by size_fits)
      simp only [raiseNew]
      refine wpAny_bind (wpAny_bind (wpAny_handled ?_))
      first | rw [show A.in1.handled = none from hh] | rw [hh]
      refine wpAny_throw ?_
      refine wpAny_bind (wpAny_isInstance (T := "StopIteration") (b := true) ⟨_, Heap.get?_push_size _ rfl, rfl⟩ isSubtype_stop ?_)
      exact wpAny_pure (hP s₁ hp _ fun b o hb => Heap.get?_push_of_some _ (Heap.get?_push_of_some _ hb))
    · exact wpAny_pure ⟨v, rfl, wpAny_pure (hY v s₁ gs' hb hv)⟩
end

end Mine
end PartGen2

section PartSetM
open PySem PySem.W PyProof.Rows PySem.Calls
set_option maxRecDepth 100000
namespace Mine
namespace SetM
def boundOf (id : String) (a : Addr) : Obj := { cls := .type "builtin_function_or_method", data := .fields #[.builtin id, .ref a] }
theorem slot_get : Slot "method_descriptor" "__get__" "method_descriptor.__get__" :=
  .of (owner := "method_descriptor") (n := "__get__") (by rw [typeLookup_type, builtinLookup_eq_fast]; kernel_rfl) (by decide +kernel) (by decide +kernel) (by decide +kernel)
    (by first | exact .inl (by decide +kernel) | exact .inr (by decide +kernel)) (by rw [isSubtype_type]; kernel_rfl)
theorem entry_get : entryFor table "method_descriptor.__get__" = some Builtin.«method_descriptor.__get__» := entryFor_of_tree (by kernel_rfl)
theorem args_get (a b c : Value) : argsOk "method_descriptor.__get__" ⟨[a, b, c], []⟩ := by unfold argsOk; kernel_rfl
theorem set_none : typeLookup (.type "method_descriptor") "__set__" = pure none := by rw [typeLookup_type, builtinLookup_eq_fast]; kernel_rfl
theorem del_none : typeLookup (.type "method_descriptor") "__delete__" = pure none := by rw [typeLookup_type, builtinLookup_eq_fast]; kernel_rfl
theorem sub_set : isSubtype (.type "set") (.type "set") = pure true := by rw [isSubtype_type]; kernel_rfl

theorem type_add : typeOf (.builtin "set.add") = pure (.type "method_descriptor") := by show builtinType _ = _; rw [builtinType_eq_fast]; kernel_rfl
theorem told_add : Manifest.toldItsClass.contains "set.add" = false := by decide +kernel
theorem lk_add : typeLookup (.type "set") "add" = pure (some (.builtin "set.add")) := by rw [typeLookup_type, builtinLookup_eq_fast]; kernel_rfl
theorem owner_add : (kfb_private% "ownerAndName") "set.add" = ("set", "add") := by first | decide +kernel | kernel_rfl
theorem quiet_add {as : Args} : (Code.builtin "set.add" as).quiet = true := Code.quiet_builtin _ (by decide +kernel)
section
variable {prog : Program} {w : World} {A : Around} {E : Value → Shared → Prop} {h : Heap} {g : Array GenState} {d : Drawn} {t : Nat} {os : OsState} {a : Addr} {o : Obj}
theorem run_add {P : Fin → Shared → Prop} (hx : h.get? a = some o) (hc : o.cls = .type "set") (hq : P (.done (.ret (.ref h.objs.size))) ⟨h.push (boundOf "set.add" a), g, d, t, os⟩) :
    wpAny (model prog w) A (Builtin.«method_descriptor.__get__» ⟨[.builtin "set.add", .ref a, .type "set"], []⟩) P E ⟨h, g, d, t, os⟩ := by
  have hT : (⟨h, g, d, t, os⟩ : Shared).TypeIs (.ref a) "set" := ⟨_, hx, hc⟩
  unfold Builtin.«method_descriptor.__get__»
  refine wpAny_bind (wpAny_of_eq (a := (.builtin "set.add", some (.ref a), some (.type "set"))) (by first | rfl | kernel_rfl) ?_)
  simp only [told_add, Bool.false_eq_true, if_false]
  show wpAny _ _ ((kfb_private% "checkInstance") (.builtin "set.add") (.ref a) >>= fun _ => newFields "builtin_function_or_method" [.builtin "set.add", .ref a] >>= fun v => ret v) _ _ _
  refine wpAny_bind ?_
  refine wpAny_bind (wpAny_of_eq (a := (Str.ofString "add", Value.type "set")) (by first | rfl | kernel_rfl) ?_)
  refine wpAny_bind (wpAny_isInstance (T := "set") (b := true) hT sub_set ?_)
  refine KFB.if_not rfl ?_
  refine wpAny_pure ?_
  exact wpAny_bind (wpAny_newObj_type (wpAny_pure hq))
theorem get_add {R : Result → Shared → Prop} (hx : h.get? a = some o) (hc : o.cls = .type "set") (hq : R (.ok (.ret (.ref h.objs.size))) ⟨h.push (boundOf "set.add" a), g, d, t, os⟩) :
    codeAny (model prog w) A (.call (.builtin "method_descriptor.__get__") ⟨[.builtin "set.add", .ref a, .type "set"], []⟩) R ⟨h, g, d, t, os⟩ := by
  have hT5 : (⟨h, g, d, t, os⟩ : Shared).TypeIs (.builtin "set.add") "method_descriptor" := type_add
  exact codeAny_call_builtin slot_get.plain entry_get (slot_get.check _ _ _ _ _ _ _ _ hT5 (args_get _ _ _) (run_add hx hc hq))
theorem entry_add {tk : Tok} {led : Bool} {Q : Fin → Shared → Prop} (hx : h.get? a = some { cls := .type "set", dict := none, data := .set #[] 0 (.fresh 0 0 led) }) (hq : Q (.done (.ret (.ref h.objs.size))) ⟨h.push (boundOf "set.add" a), g, d, t, os⟩) :
    wpAny (model prog w) A (Builtin.«object.__getattribute__» ⟨[.ref a, .str "add" tk], []⟩) Q E ⟨h, g, d, t, os⟩ := by
  have hT : (⟨h, g, d, t, os⟩ : Shared).TypeIs (.ref a) "set" := ⟨_, hx, rfl⟩
  have hT5 : (⟨h, g, d, t, os⟩ : Shared).TypeIs (.builtin "set.add") "method_descriptor" := type_add
  have f4 := lk_add
  have f5 := type_add
  have f6 := slot_get.lookup
  have f7 := set_none
  have f8 := del_none
  repeat (any_goals (first | assumption | wp_step))
  refine get_add hx rfl ?_
  repeat (any_goals (first | assumption | wp_step))
theorem call_add {tk : Tok} {led : Bool} {R : Result → Shared → Prop} (hx : h.get? a = some { cls := .type "set", dict := none, data := .set #[] 0 (.fresh 0 0 led) }) (hq : R (.ok (.ret (.ref h.objs.size))) ⟨h.push (boundOf "set.add" a), g, d, t, os⟩) :
    codeAny (model prog w) A (.call (.builtin "set.__getattribute__") ⟨[.ref a, .str "add" tk], []⟩) R ⟨h, g, d, t, os⟩ :=
  codeAny_call_builtin F.slot_set_getattribute.plain F.entry_set_ga (F.slot_set_getattribute.check _ _ _ _ _ _ _ _ (show (⟨h, g, d, t, os⟩ : Shared).TypeIs (.ref a) "set" from ⟨_, hx, rfl⟩) (F.args_set_getattribute_2 _ _) (entry_add hx hq))
theorem by_add {tk : Tok} {led : Bool} {ex : Bool} {Q : Value → Shared → Prop} (hx : h.get? a = some { cls := .type "set", dict := none, data := .set #[] 0 (.fresh 0 0 led) }) (hq : Q (.ref h.objs.size) ⟨h.push (boundOf "set.add" a), g, d, t, os⟩) : wpAny (model prog w) A (getAttrBy (.ref a) (.str "add" tk) true ex) Q E ⟨h, g, d, t, os⟩ := by
  have hT : (⟨h, g, d, t, os⟩ : Shared).TypeIs (.ref a) "set" := ⟨_, hx, rfl⟩
  have f2 := F.slot_set_getattribute.lookup
  have f3 := F.slot_set_getattribute.bind (.ref a)
  unfold getAttrBy getAttrByItsOwn
  repeat (any_goals (first | assumption | wp_step))
  refine KFB.if_not (by cases ex <;> rfl) ?_
  repeat (any_goals (first | assumption | wp_step))
  refine call_add hx ?_
  repeat (any_goals (first | assumption | wp_step))
theorem attr_add {led : Bool} {ex : Bool} {Q : Value → Shared → Prop} (hx : h.get? a = some { cls := .type "set", dict := none, data := .set #[] 0 (.fresh 0 0 led) }) (hq : Q (.ref h.objs.size) ⟨h.push (boundOf "set.add" a), g, d, t + 1, os⟩) : wpAny (model prog w) A (getAttr (.ref a) "add" ex) Q E ⟨h, g, d, t, os⟩ := by
  unfold getAttr
  exact wpAny_bind (wpAny_mkText (by_add hx hq))
theorem kind_add : builtinKind "set.add" = some .method := by first | rfl | decide +kernel | kernel_rfl
theorem vara_add : Manifest.varargsMethods.contains "set.add" = false := by decide +kernel
theorem sig_add (x v : Value) : ((Manifest.signature? "set.add").map fun sig => Bind.checkArgs "set.add" { sig with full := s!"{Bind.lastOf "set"}.{Bind.lastOf "set.add"}" } ⟨[x, v], []⟩) = some (pure ()) ∨ Manifest.signature? "set.add" = none := by
  first | (left; kernel_rfl) | (right; kernel_rfl)
theorem check_add {v : Value} {s : Shared} {Q : Unit → Shared → Prop} (hT : s.TypeIs (.ref a) "set") (hcl : ∀ o c, s.heap.get? a = some o → o.data ≠ .cls c) (hq : Q () s) :
    wpAny (model prog w) A (checkBoundCall "set.add" ⟨[.ref a, v], []⟩) Q E s := by
  unfold checkBoundCall
  rcases sig_add (.ref a) v with hs | hs
  · cases hg : Manifest.signature? "set.add" with
    | none => rw [hg] at hs; cases hs
    | some sig =>
      rw [hg] at hs
      replace hs := Option.some.inj hs
      simp only [kind_add, vara_add, Bool.false_or]
      refine KFB.if_not (by decide) ?_
      refine wpAny_bind (wpAny_isInstance (T := "set") (b := false) hT (by rw [isSubtype_type]; kernel_rfl) ?_)
      refine KFB.if_not rfl ?_
      obtain ⟨o, ho, hc⟩ := id hT
      refine wpAny_bind (m := isType (.ref a)) ?_
      unfold isType loadHead
      refine wpAny_bind (wpAny_loadPart ho ?_)
      have hne : (match o.data with | .cls _ => true | _ => false) = false := by
        have := fun c => hcl o c ho
        cases hd : o.data <;> first | rfl | exact absurd hd (this _)
      refine wpAny_pure ?_
      refine KFB.if_not hne ?_
      refine wpAny_bind (wpAny_typeOf hT ?_)
      show wpAny _ _ (Bind.checkArgs "set.add" { sig with full := s!"{Bind.lastOf "set"}.{Bind.lastOf "set.add"}" } ⟨[.ref a, v], []⟩) _ _ _
      exact wpAny_of_eq (a := ()) hs hq
  · rw [hs]; exact wpAny_pure hq
theorem callB_add {x : Addr} {v : Value} {s : Shared} {b : Builtin} {Q : Value → Shared → Prop} (hb : entryFor table "set.add" = some b) (ho : s.heap.get? x = some (boundOf "set.add" a)) (hT : s.TypeIs (.ref a) "set") (hcl : ∀ o c, s.heap.get? a = some o → o.data ≠ .cls c)
    (h : ∀ A' : Around, wpAny (model prog w) A' (b ⟨[.ref a, v], []⟩) (fun fin s' => ∃ r, fin = .done (.ret r) ∧ Q r s') E s) : wpAny (model prog w) A (call (.ref x) [v]) Q E s := by
  refine wpAny_call (codeAny_of_tree ?_)
  show wpAny _ A.in1 (callAny (.ref x) ⟨[v], []⟩) _ _ s
  simp only [callAny]
  refine wpAny_bind (wpAny_load ho ?_)
  simp only [boundOf, show (Value.type "builtin_function_or_method" == Value.type "method" || Value.type "builtin_function_or_method" == Value.type "builtin_function_or_method" || Value.type "builtin_function_or_method" == Value.type "method-wrapper") = true by decide, if_true]
  refine KFB.if_so (by decide) ?_
  refine wpAny_bind (check_add hT hcl ?_)
  refine wpAny_bind (wpAny_pure (wpAny_pure ?_))
  refine ⟨quiet_add, codeAny_builtin hb (wpAny_mono (h _) (fun fin s' h' => ?_) fun _ _ z => z)⟩
  obtain ⟨r, rfl, hr⟩ := h'
  exact hr
end

theorem type_con : typeOf (.builtin "set.__contains__") = pure (.type "method_descriptor") := by show builtinType _ = _; rw [builtinType_eq_fast]; kernel_rfl
theorem told_con : Manifest.toldItsClass.contains "set.__contains__" = false := by decide +kernel
theorem lk_con : typeLookup (.type "set") "__contains__" = pure (some (.builtin "set.__contains__")) := by rw [typeLookup_type, builtinLookup_eq_fast]; kernel_rfl
theorem owner_con : (kfb_private% "ownerAndName") "set.__contains__" = ("set", "__contains__") := by first | decide +kernel | kernel_rfl
theorem quiet_con {as : Args} : (Code.builtin "set.__contains__" as).quiet = true := Code.quiet_builtin _ (by decide +kernel)
section
variable {prog : Program} {w : World} {A : Around} {E : Value → Shared → Prop} {h : Heap} {g : Array GenState} {d : Drawn} {t : Nat} {os : OsState} {a : Addr} {o : Obj}
theorem run_con {P : Fin → Shared → Prop} (hx : h.get? a = some o) (hc : o.cls = .type "set") (hq : P (.done (.ret (.ref h.objs.size))) ⟨h.push (boundOf "set.__contains__" a), g, d, t, os⟩) :
    wpAny (model prog w) A (Builtin.«method_descriptor.__get__» ⟨[.builtin "set.__contains__", .ref a, .type "set"], []⟩) P E ⟨h, g, d, t, os⟩ := by
  have hT : (⟨h, g, d, t, os⟩ : Shared).TypeIs (.ref a) "set" := ⟨_, hx, hc⟩
  unfold Builtin.«method_descriptor.__get__»
  refine wpAny_bind (wpAny_of_eq (a := (.builtin "set.__contains__", some (.ref a), some (.type "set"))) (by first | rfl | kernel_rfl) ?_)
  simp only [told_con, Bool.false_eq_true, if_false]
  show wpAny _ _ ((kfb_private% "checkInstance") (.builtin "set.__contains__") (.ref a) >>= fun _ => newFields "builtin_function_or_method" [.builtin "set.__contains__", .ref a] >>= fun v => ret v) _ _ _
  refine wpAny_bind ?_
  refine wpAny_bind (wpAny_of_eq (a := (Str.ofString "__contains__", Value.type "set")) (by first | rfl | kernel_rfl) ?_)
  refine wpAny_bind (wpAny_isInstance (T := "set") (b := true) hT sub_set ?_)
  refine KFB.if_not rfl ?_
  refine wpAny_pure ?_
  exact wpAny_bind (wpAny_newObj_type (wpAny_pure hq))
theorem get_con {R : Result → Shared → Prop} (hx : h.get? a = some o) (hc : o.cls = .type "set") (hq : R (.ok (.ret (.ref h.objs.size))) ⟨h.push (boundOf "set.__contains__" a), g, d, t, os⟩) :
    codeAny (model prog w) A (.call (.builtin "method_descriptor.__get__") ⟨[.builtin "set.__contains__", .ref a, .type "set"], []⟩) R ⟨h, g, d, t, os⟩ := by
  have hT5 : (⟨h, g, d, t, os⟩ : Shared).TypeIs (.builtin "set.__contains__") "method_descriptor" := type_con
  exact codeAny_call_builtin slot_get.plain entry_get (slot_get.check _ _ _ _ _ _ _ _ hT5 (args_get _ _ _) (run_con hx hc hq))
theorem entry_con {tk : Tok} {led : Bool} {Q : Fin → Shared → Prop} (hx : h.get? a = some { cls := .type "set", dict := none, data := .set #[] 0 (.fresh 0 0 led) }) (hq : Q (.done (.ret (.ref h.objs.size))) ⟨h.push (boundOf "set.__contains__" a), g, d, t, os⟩) :
    wpAny (model prog w) A (Builtin.«object.__getattribute__» ⟨[.ref a, .str "__contains__" tk], []⟩) Q E ⟨h, g, d, t, os⟩ := by
  have hT : (⟨h, g, d, t, os⟩ : Shared).TypeIs (.ref a) "set" := ⟨_, hx, rfl⟩
  have hT5 : (⟨h, g, d, t, os⟩ : Shared).TypeIs (.builtin "set.__contains__") "method_descriptor" := type_con
  have f4 := lk_con
  have f5 := type_con
  have f6 := slot_get.lookup
  have f7 := set_none
  have f8 := del_none
  repeat (any_goals (first | assumption | wp_step))
  refine get_con hx rfl ?_
  repeat (any_goals (first | assumption | wp_step))
theorem call_con {tk : Tok} {led : Bool} {R : Result → Shared → Prop} (hx : h.get? a = some { cls := .type "set", dict := none, data := .set #[] 0 (.fresh 0 0 led) }) (hq : R (.ok (.ret (.ref h.objs.size))) ⟨h.push (boundOf "set.__contains__" a), g, d, t, os⟩) :
    codeAny (model prog w) A (.call (.builtin "set.__getattribute__") ⟨[.ref a, .str "__contains__" tk], []⟩) R ⟨h, g, d, t, os⟩ :=
  codeAny_call_builtin F.slot_set_getattribute.plain F.entry_set_ga (F.slot_set_getattribute.check _ _ _ _ _ _ _ _ (show (⟨h, g, d, t, os⟩ : Shared).TypeIs (.ref a) "set" from ⟨_, hx, rfl⟩) (F.args_set_getattribute_2 _ _) (entry_con hx hq))
theorem by_con {tk : Tok} {led : Bool} {ex : Bool} {Q : Value → Shared → Prop} (hx : h.get? a = some { cls := .type "set", dict := none, data := .set #[] 0 (.fresh 0 0 led) }) (hq : Q (.ref h.objs.size) ⟨h.push (boundOf "set.__contains__" a), g, d, t, os⟩) : wpAny (model prog w) A (getAttrBy (.ref a) (.str "__contains__" tk) true ex) Q E ⟨h, g, d, t, os⟩ := by
  have hT : (⟨h, g, d, t, os⟩ : Shared).TypeIs (.ref a) "set" := ⟨_, hx, rfl⟩
  have f2 := F.slot_set_getattribute.lookup
  have f3 := F.slot_set_getattribute.bind (.ref a)
  unfold getAttrBy getAttrByItsOwn
  repeat (any_goals (first | assumption | wp_step))
  refine KFB.if_not (by cases ex <;> rfl) ?_
  repeat (any_goals (first | assumption | wp_step))
  refine call_con hx ?_
  repeat (any_goals (first | assumption | wp_step))
theorem attr_con {led : Bool} {ex : Bool} {Q : Value → Shared → Prop} (hx : h.get? a = some { cls := .type "set", dict := none, data := .set #[] 0 (.fresh 0 0 led) }) (hq : Q (.ref h.objs.size) ⟨h.push (boundOf "set.__contains__" a), g, d, t + 1, os⟩) : wpAny (model prog w) A (getAttr (.ref a) "__contains__" ex) Q E ⟨h, g, d, t, os⟩ := by
  unfold getAttr
  exact wpAny_bind (wpAny_mkText (by_con hx hq))
theorem kind_con : builtinKind "set.__contains__" = some .method := by first | rfl | decide +kernel | kernel_rfl
theorem vara_con : Manifest.varargsMethods.contains "set.__contains__" = false := by decide +kernel
theorem sig_con (x v : Value) : ((Manifest.signature? "set.__contains__").map fun sig => Bind.checkArgs "set.__contains__" { sig with full := s!"{Bind.lastOf "set"}.{Bind.lastOf "set.__contains__"}" } ⟨[x, v], []⟩) = some (pure ()) ∨ Manifest.signature? "set.__contains__" = none := by
  first | (left; kernel_rfl) | (right; kernel_rfl)
theorem check_con {v : Value} {s : Shared} {Q : Unit → Shared → Prop} (hT : s.TypeIs (.ref a) "set") (hcl : ∀ o c, s.heap.get? a = some o → o.data ≠ .cls c) (hq : Q () s) :
    wpAny (model prog w) A (checkBoundCall "set.__contains__" ⟨[.ref a, v], []⟩) Q E s := by
  unfold checkBoundCall
  rcases sig_con (.ref a) v with hs | hs
  · cases hg : Manifest.signature? "set.__contains__" with
    | none => rw [hg] at hs; cases hs
    | some sig =>
      rw [hg] at hs
      replace hs := Option.some.inj hs
      simp only [kind_con, vara_con, Bool.false_or]
      refine KFB.if_not (by decide) ?_
      refine wpAny_bind (wpAny_isInstance (T := "set") (b := false) hT (by rw [isSubtype_type]; kernel_rfl) ?_)
      refine KFB.if_not rfl ?_
      obtain ⟨o, ho, hc⟩ := id hT
      refine wpAny_bind (m := isType (.ref a)) ?_
      unfold isType loadHead
      refine wpAny_bind (wpAny_loadPart ho ?_)
      have hne : (match o.data with | .cls _ => true | _ => false) = false := by
        have := fun c => hcl o c ho
        cases hd : o.data <;> first | rfl | exact absurd hd (this _)
      refine wpAny_pure ?_
      refine KFB.if_not hne ?_
      refine wpAny_bind (wpAny_typeOf hT ?_)
      show wpAny _ _ (Bind.checkArgs "set.__contains__" { sig with full := s!"{Bind.lastOf "set"}.{Bind.lastOf "set.__contains__"}" } ⟨[.ref a, v], []⟩) _ _ _
      exact wpAny_of_eq (a := ()) hs hq
  · rw [hs]; exact wpAny_pure hq
theorem callB_con {x : Addr} {v : Value} {s : Shared} {b : Builtin} {Q : Value → Shared → Prop} (hb : entryFor table "set.__contains__" = some b) (ho : s.heap.get? x = some (boundOf "set.__contains__" a)) (hT : s.TypeIs (.ref a) "set") (hcl : ∀ o c, s.heap.get? a = some o → o.data ≠ .cls c)
    (h : ∀ A' : Around, wpAny (model prog w) A' (b ⟨[.ref a, v], []⟩) (fun fin s' => ∃ r, fin = .done (.ret r) ∧ Q r s') E s) : wpAny (model prog w) A (call (.ref x) [v]) Q E s := by
  refine wpAny_call (codeAny_of_tree ?_)
  show wpAny _ A.in1 (callAny (.ref x) ⟨[v], []⟩) _ _ s
  simp only [callAny]
  refine wpAny_bind (wpAny_load ho ?_)
  simp only [boundOf, show (Value.type "builtin_function_or_method" == Value.type "method" || Value.type "builtin_function_or_method" == Value.type "builtin_function_or_method" || Value.type "builtin_function_or_method" == Value.type "method-wrapper") = true by decide, if_true]
  refine KFB.if_so (by decide) ?_
  refine wpAny_bind (check_con hT hcl ?_)
  refine wpAny_bind (wpAny_pure (wpAny_pure ?_))
  refine ⟨quiet_con, codeAny_builtin hb (wpAny_mono (h _) (fun fin s' h' => ?_) fun _ _ z => z)⟩
  obtain ⟨r, rfl, hr⟩ := h'
  exact hr
end

section
variable {prog : Program} {w : World} {K : Type} [DecidableEq K] {knd : KeyKind prog w K} {A : Around} {E : Value → Shared → Prop} {s : Shared} {a x : Addr} {k : K} {key : Value} {S : K → Bool} {n : Nat} {Q : Value → Shared → Prop}
theorem callWith_bound {M : Model} {A : Around} {E : Value → Shared → Prop} {s : Shared} {id : String} {pos : Pos} {u b : Addr} {args : List (Bool × Sem Value)} {Q : Value → Shared → Prop} (hplain : args.any (·.1) = false)
    (h : wpAny M A (evalArgs (.ref u) true args []) (fun x s₁ => s₁.heap.get? u = some (boundOf id b) ∧ wpAny M A (call (.ref u) x.pos x.kw) Q E s₁) E s) : wpAny M A (callWith pos (.ref u) [] args []) Q E s := by
  unfold callWith
  refine wpAny_bind (wpAny_holding (wpAny_mono h (fun x s₁ h₁ => wpAny_bind (wpAny_standAt ?_)) fun _ _ x => x))
  obtain ⟨ho, hcall⟩ := h₁
  simp only [hplain, List.any_nil, Bool.or_false]
  refine wpAny_bind (m := keeperOf (.ref u)) ?_
  unfold keeperOf
  refine wpAny_bind (wpAny_load ho ?_)
  simp only [boundOf, show (Value.type "builtin_function_or_method" != Value.type "method") = true by decide, show (Value.type "builtin_function_or_method" == Value.type "builtin_function_or_method" || Value.type "builtin_function_or_method" == Value.type "method-wrapper") = true by decide, if_true]
  refine wpAny_pure ?_
  exact wpAny_bind (wpAny_mono hcall (fun r s₂ hr => wpAny_bind (wpAny_holding (wpAny_point (wpAny_pure hr)))) fun _ _ x => x)
theorem callWith_bound1 {M : Model} {A : Around} {E : Value → Shared → Prop} {s : Shared} {id : String} {pos : Pos} {u b : Addr} {env : Env} {e : PySem.Expr} {rest : List PySem.Expr} {Q : Value → Shared → Prop}
    (h : wpAny M A (spliced (backTo pos (starEach (e :: rest) env))) (fun vs s₁ => s₁.heap.get? u = some (boundOf id b) ∧ wpAny M A (call (.ref u) vs) Q E s₁) E s)
    (he : starEach (e :: rest) env = (false, eval e env) :: starEach rest env := by rfl) (hplain : (backTo pos (starEach rest env)).any (·.1) = false := by rfl) :
    wpAny M A (callWith pos (.ref u) [] (backTo pos (starEach (e :: rest) env)) []) Q E s := by
  rw [he] at h ⊢
  exact callWith_bound (by show (false || (backTo pos (starEach rest env)).any (·.1)) = false; rw [hplain]; rfl) (Calls.evalArgs_plain h)
theorem set_noCls (hS : s.heap.SetOf knd a S n) : ∀ o c, s.heap.get? a = some o → o.data ≠ .cls c := by
  obtain ⟨o, es, ep, t, ho, hex, hd, _⟩ := hS
  intro o' c ho' e
  rw [ho] at ho'
  cases ho'
  rw [hd] at e
  cases e
theorem call_bound_add (ho : s.heap.get? x = some (boundOf "set.add" a)) (hkey : knd.is k key = true) (hsc : key.scannable = true) (hS : s.heap.SetOf knd a S n) (hroom : n + 1 < scanBound)
    (h : ∀ h', Heap.SameBut a s.heap h' → h'.SetOf knd a (fun k' => S k' || decide (k' = k)) (if S k then n else n + 1) → Q .none { s with heap := h', toks := s.toks + 1 }) :
    wpAny (model prog w) A (call (.ref x) [key]) Q E s := by
  refine callB_add F.entry_set_add ho hS.typeIs (set_noCls hS) fun A' => ?_
  unfold Builtin.«set.add» Builtin.Frozenset.oneOther
  simp only [List.isEmpty_nil, bind_assoc]
  unfold Builtin.Frozenset.addrOf setAdd
  refine wpAny_bind (wpAny_pure ?_)
  try dsimp only
  refine wpAny_bind (wpAny_pure ?_)
  try dsimp only
  refine wpAny_bind ?_
  refine wpAny_holding ?_
  refine wpAny_bind (knd.pyHash hkey ?_)
  refine wpAny_setAddHashed_of (s := { s with toks := s.toks + 1 }) hkey hsc hS hroom fun h' hsb hS' => ?_
  show wpAny _ _ (ret Value.none) _ _ _
  exact wpAny_pure ⟨_, rfl, h h' hsb hS'⟩
theorem call_bound_con (ho : s.heap.get? x = some (boundOf "set.__contains__" a)) (hkey : knd.is k key = true) (hsc : key.scannable = true) (hS : s.heap.SetOf knd a S n)
    (h : Q (.bool (S k)) { s with toks := s.toks + 1 }) : wpAny (model prog w) A (call (.ref x) [key]) Q E s := by
  refine callB_con entry_set_contains ho hS.typeIs (set_noCls hS) fun A' => ?_
  unfold Builtin.«frozenset.__contains__» Builtin.Frozenset.oneOther
  simp only [List.isEmpty_nil, bind_assoc]
  unfold Builtin.Frozenset.addrOf Builtin.Frozenset.withSetAsKey setContains
  refine wpAny_bind (wpAny_pure ?_)
  try dsimp only
  refine wpAny_bind (wpAny_pure ?_)
  try dsimp only
  refine wpAny_bind (wpAny_tryCatch ?_)
  refine wpAny_holding ?_
  refine wpAny_bind (knd.pyHash hkey ?_)
  refine wpAny_bind (wpAny_setFind_of (s := { s with toks := s.toks + 1 }) hkey hsc hS fun r hr => ?_)
  refine wpAny_pure ?_
  show wpAny _ _ (ret (Value.bool r.isSome)) _ _ _
  rw [hr]
  exact wpAny_pure ⟨_, rfl, h⟩
end
end SetM
end Mine
end PartSetM

section PartGenP
open PySem PySem.W PyProof.Rows PySem.Calls
set_option maxRecDepth 100000
namespace Mine

/-- an iterator that fills the list at S: everything but S stays as the iterator needs it -/
structure WalkP (prog : Program) (w : World) (A : Around) (I S : Addr) (n : Nat) (P : Nat → Value → Prop) (St : Nat → Shared → Prop) (Fin : Shared → Prop) : Prop where
  typ : ∀ i s, St i s → s.TypeIs (.ref I) "generator"
  frame : ∀ i (s : Shared) h', St i s → (∀ b o, b ≠ S → s.heap.get? b = some o → h'.get? b = some o) → St i { s with heap := h' }
  item : ∀ i (s : Shared) oS (Q : Option Value → Shared → Prop) (E : Value → Shared → Prop), i < n → St i s → s.heap.get? S = some oS →
    (∀ v s', P i v → St (i + 1) s' → s'.heap.get? S = some oS → Q (some v) s') → wpAny (model prog w) A (pyNext (.ref I)) Q E s
  done : ∀ (s : Shared) oS (Q : Option Value → Shared → Prop) (E : Value → Shared → Prop), St n s → s.heap.get? S = some oS → (∀ s', Fin s' → s'.heap.get? S = some oS → Q none s') → wpAny (model prog w) A (pyNext (.ref I)) Q E s
  self : ∀ i (s : Shared) (Q : Value → Shared → Prop) (E : Value → Shared → Prop), St i s → Q (.ref I) s → wpAny (model prog w) A (pyIter (.ref I)) Q E s

section
variable {prog : Program} {w : World} {A : Around} {s : Shared} {R : Result → Shared → Prop}
variable {I S : Addr} {n : Nat} {P : Nat → Value → Prop} {St : Nat → Shared → Prop} {Fin : Shared → Prop}

theorem extend_loopP (W : WalkP prog w A.in1 I S n P St Fin) (hn : n ≤ sizeLine) (res : Value) :
    ∀ (k i : Nat) (s : Shared) (acc : Array Value) (c : Nat), n - i = k → i ≤ n → St i s → s.heap.get? S = some { cls := .type "list", dict := none, data := .seq acc c, slots := #[] } → ItemsOf P acc i →
    (∀ s' acc' c', Fin s' → s'.heap.get? S = some { cls := .type "list", dict := none, data := .seq acc' c', slots := #[] } → ItemsOf P acc' n → R (.ok (.ret res)) s') →
    codeAny (model prog w) A (.builtin "list.extend.loop" ⟨[.ref S, .ref I, res], []⟩) R s := by
  intro k
  induction k with
  | zero =>
    intro i s acc c hk hi hst hS hacc hR
    have hin : i = n := Nat.le_antisymm hi (Nat.sub_eq_zero_iff_le.mp hk)
    subst hin
    refine codeAny_builtin F.entry_extend_loop ?_
    rw [Around.under_plainId F.plain_extend_loop _]
    show wpAny _ A.in1 (pyNext (.ref I) >>= _) _ _ s
    refine wpAny_bind (W.done s _ _ _ hst hS fun s' hm hS' => ?_)
    exact wpAny_pure (hR s' acc c hm hS' hacc)
  | succ k ih =>
    intro i s acc c hk hi hst hS hacc hR
    have hlt : i < n := Nat.lt_of_sub_eq_succ hk
    refine codeAny_builtin F.entry_extend_loop ?_
    rw [Around.under_plainId F.plain_extend_loop _]
    show wpAny _ A.in1 (pyNext (.ref I) >>= _) _ _ s
    refine wpAny_bind (W.item i s _ _ _ hlt hst hS fun v s' hP hst' hS' => ?_)
    show wpAny _ A.in1 (updateSeq S (·.push v) >>= _) _ _ _
    refine wpAny_bind ?_
    refine wpAny_updateSeq hS' rfl (wpAny_pure ⟨plainId_quiet F.plain_extend_loop _, ih (i + 1) _ (acc.push v) _ (by rw [Nat.sub_succ, hk]; rfl) hlt (W.frame _ s' _ hst' fun b o hb e => ?_) (Heap.get?_update_self _ hS' rfl) (hacc.push hP) hR⟩)
      (by rw [hacc.1]; exact Nat.le_trans hi (Nat.le_trans hn (by decide))) (by show (acc.push v).size ≤ sizeLine + 1; rw [Array.size_push, hacc.1]; exact Nat.succ_le_succ (Nat.le_trans hi hn))
    exact (Heap.get?_update_other _ _ (Ne.symm hb)).trans e

theorem extend_genP (W : WalkP prog w A.in1 I S n P St Fin) (hSI : S ≠ I) (res : Value) (c₀ : Nat) (hst : St 0 s)
    (hS : s.heap.get? S = some { cls := .type "list", data := .seq #[] c₀ })
    (hR : ∀ s' acc' c', Fin s' → s'.heap.get? S = some { cls := .type "list", dict := none, data := .seq acc' c', slots := #[] } → ItemsOf P acc' n → R (.ok (.ret res)) s') (hn : n ≤ sizeLine) :
    wpAny (model prog w) A.in1 (Builtin.List.listExtendWith (.ref S) (.ref I) res)
      (fun fin s' => match fin with | .done f => R (.ok f) s' | .again c' => c'.quiet = true ∧ codeAny (model prog w) A c' R s') (fun e s' => R (.error e) s') s := by
  unfold Builtin.List.listExtendWith
  refine wpAny_bind (wpAny_typeOf (W.typ 0 _ hst) ?_)
  have h1 : Builtin.List.listSameRef (.ref S) (.ref I) = false := by simp [Builtin.List.listSameRef, hSI]
  have h2 : (Value.type "generator" == Value.type "list") = false := by decide
  have h3 : (Value.type "generator" == Value.type "tuple") = false := by decide
  simp only [h1, h2, h3, Bool.or_false, Bool.false_eq_true, if_false]
  refine wpAny_bind (W.self 0 _ _ _ hst ?_)
  refine wpAny_bind (wpAny_holding ?_)
  unfold Builtin.List.listLengthHint
  refine wpAny_bind (wpAny_specialOf (W.typ 0 _ hst) F.gen_no_len ?_)
  show wpAny _ A.in1 (specialOf (Value.ref I) (Str.ofString "__length_hint__") >>= _) _ _ _
  refine wpAny_bind (wpAny_specialOf (W.typ 0 _ hst) F.gen_no_hint ?_)
  refine wpAny_pure ?_
  show wpAny _ A.in1 (rule "list.extend.makes-room" >>= fun _ => Builtin.List.listTouch (.ref S) >>= fun _ =>
    again (.builtin "list.extend.loop" ⟨[.ref S, .ref I, res], []⟩)) _ _ _
  refine wpAny_bind (wpAny_rule ?_)
  refine wpAny_bind ?_
  show wpAny _ A.in1 (updateSeq S (·.push .none) >>= fun _ => updateSeq S (·.pop)) _ _ _
  refine wpAny_bind (wpAny_updateSeq hS rfl ?_)
  have hS₂ := Heap.get?_update_self (Obj.mapSeq (·.push Value.none)) hS rfl
  refine wpAny_updateSeq (hz := by seq_fits) hS₂ rfl ?_
  have hS₃ := Heap.get?_update_self (Obj.mapSeq (·.pop)) hS₂ rfl
  have oth : ∀ b o, b ≠ S → s.heap.get? b = some o → ((s.heap.update S (Obj.mapSeq (·.push Value.none))).update S (Obj.mapSeq (·.pop))).get? b = some o :=
    fun b o hb e => (Heap.get?_update_other _ _ (Ne.symm hb)).trans ((Heap.get?_update_other _ _ (Ne.symm hb)).trans e)
  exact wpAny_pure ⟨plainId_quiet F.plain_extend_loop _, extend_loopP W hn _ n 0 _ _ _ rfl (Nat.zero_le _) (W.frame 0 s _ hst oth) hS₃ (ItemsOf.nil P) hR⟩

theorem list_initP (W : WalkP prog w A.in1 I S n P St Fin) (hSI : S ≠ I) (hst : St 0 s) (hS : s.heap.get? S = some { cls := .type "list", data := .seq #[] })
    (hR : ∀ s' acc' c', Fin s' → s'.heap.get? S = some { cls := .type "list", dict := none, data := .seq acc' c', slots := #[] } → ItemsOf P acc' n → R (.ok (.ret .none)) s') (hn : n ≤ sizeLine) :
    wpAny (model prog w) A.in1 (Builtin.«list.__init__» ⟨[.ref S, .ref I], []⟩)
      (fun fin s' => match fin with | .done f => R (.ok f) s' | .again c' => c'.quiet = true ∧ codeAny (model prog w) A c' R s') (fun e s' => R (.error e) s') s := by
  show wpAny _ A.in1 (do let old ← Builtin.List.listItems (.ref S); Builtin.List.listUpdate (.ref S) (fun _ => #[]); letGo old.toList.reverse; Builtin.List.listExtendWith (.ref S) (.ref I) .none) _ _ s
  refine wpAny_bind ?_
  unfold Builtin.List.listItems
  refine wpAny_bind (wpAny_seqItems hS rfl (wpAny_pure ?_))
  show wpAny _ A.in1 (updateSeq S (fun _ => #[]) >>= fun _ => letGo (#[] : Array Value).toList.reverse >>= fun _ => Builtin.List.listExtendWith (.ref S) (.ref I) .none) _ _ s
  refine wpAny_bind (wpAny_updateSeq hS rfl ?_)
  have hS₂ := Heap.get?_update_self (Obj.mapSeq (fun _ => (#[] : Array Value))) hS rfl
  have oth : ∀ b o, b ≠ S → s.heap.get? b = some o → (s.heap.update S (Obj.mapSeq (fun _ => (#[] : Array Value)))).get? b = some o :=
    fun b o hb e => (Heap.get?_update_other _ _ (Ne.symm hb)).trans e
  refine wpAny_bind (wpAny_letGo ?_)
  exact extend_genP W hSI .none _ (W.frame 0 s _ hst oth) hS₂ hR hn
end

section
variable {prog : Program} {w : World} {A : Around} {E : Value → Shared → Prop} {s : Shared}
variable {I : Addr} {n : Nat} {P : Nat → Value → Prop} {St : Nat → Shared → Prop} {Fin : Shared → Prop}

theorem call_listP {Q : Value → Shared → Prop} (W : WalkP prog w A.in1.in1 I s.heap.objs.size n P St Fin) (hI : I < s.heap.objs.size) (hst : St 0 { s with heap := s.heap.push { cls := .type "list", data := .seq #[] } })
    (hQ : ∀ s' acc' c', Fin s' → s'.heap.get? s.heap.objs.size = some { cls := .type "list", dict := none, data := .seq acc' c', slots := #[] } → ItemsOf P acc' n → Q (.ref s.heap.objs.size) s') (hn : n ≤ sizeLine) :
    wpAny (model prog w) A (call (.type "list") [.ref I]) Q E s := by
  refine callType_codes (Q₁ := fun obj s₁ => obj = .ref s.heap.objs.size ∧ s₁ = { s with heap := s.heap.push { cls := .type "list", data := .seq #[] } }) F.called_list (F.typeCall_list_1 _) F.entry_list_init
    (code_list_new _ ⟨rfl, rfl⟩) fun obj s₁ h₁ => ?_
  obtain ⟨rfl, rfl⟩ := h₁
  have hS : (s.heap.push { cls := .type "list", data := .seq #[] }).get? s.heap.objs.size = some { cls := .type "list", data := .seq #[] } := Heap.get?_push_size _ rfl
  refine ⟨⟨_, hS, rfl⟩, F.args_list_init_2 _ _, list_initP W (Nat.ne_of_gt hI) hst hS (fun s' acc' c' hf hS' hacc => ?_) hn⟩
  exact ⟨rfl, hQ s' acc' c' hf hS' hacc⟩
end
end Mine
end PartGenP

section PartGenP2
open PySem PySem.W PyProof.Rows PySem.Calls
set_option maxRecDepth 100000
namespace Mine
def SinceP (S a : Addr) (s₀ s : Shared) : Prop := ∃ h' tk, s = { s₀ with heap := h', toks := tk } ∧ (∀ o, s₀.heap.get? S = some o → h'.get? S = some o) ∧ (∀ o, s₀.heap.get? a = some o → h'.get? a = some o) ∧ (∀ o, s₀.heap.get? cStatics = some o → h'.get? cStatics = some o)
theorem SinceP.refl (S a : Addr) (s : Shared) : SinceP S a s s := ⟨s.heap, s.toks, rfl, fun _ e => e, fun _ e => e, fun _ e => e⟩
theorem SinceP.step {S a : Addr} {s₀ s : Shared} (x : SinceP S a s₀ s) {h' : Heap} {tk : Nat} (h1 : ∀ o, s.heap.get? S = some o → h'.get? S = some o) (h2 : ∀ o, s.heap.get? a = some o → h'.get? a = some o) (h3 : ∀ o, s.heap.get? cStatics = some o → h'.get? cStatics = some o) : SinceP S a s₀ { s with heap := h', toks := tk } := by
  obtain ⟨h₁, tk₁, rfl, k1, k2, k3⟩ := x
  exact ⟨h', tk, rfl, fun o e => h1 o (k1 o e), fun o e => h2 o (k2 o e), fun o e => h3 o (k3 o e)⟩
def pR (S a : Addr) (FinH : Heap → Prop) : GenEnd := fun n s₀ r s₁ => r = .ok (.ret .none) ∧ (n = 0 ∧ SinceP S a s₀ s₁ ∧ FinH s₁.heap)
def pY (S a : Addr) (N : Nat) (P : Nat → Value → Prop) : Protocol := fun m s₀ v s kap =>
  P (N - 1 - m) v ∧ SinceP S a s₀ s ∧ ∀ s'' : Shared, (∀ b o, b ≠ S → s.heap.get? b = some o → s''.heap.get? b = some o) → (∃ oS, s''.heap.get? S = some oS) → kap (.send .none) s''
def GenStP (prog : Program) (w : World) (A : Around) (a S : Addr) (g N : Nat) (P : Nat → Value → Prop) (FinH : Heap → Prop) (g₀ : Array GenState) (d : Drawn) (os : OsState) (j : Nat) (s : Shared) : Prop :=
  s.heap.IsGen a g ∧ s.heap.NoLimit ∧ s.drawn = d ∧ s.os = os ∧ GenOnlyQ g g₀ s.gens ∧ ∃ gs, s.gens[g]? = some gs ∧ ∀ s'' : Shared, (∀ b o, b ≠ S → s.heap.get? b = some o → s''.heap.get? b = some o) → (∃ oS, s''.heap.get? S = some oS) →
    gs.Goes (model prog w) A.in1 (pR S a FinH) (pY S a N P) (N - j) (.send .none) s''
def pFin (g : Nat) (FinH : Heap → Prop) (g₀ : Array GenState) (d : Drawn) (os : OsState) (s' : Shared) : Prop :=
  ∃ h' g' tk, s' = ⟨h', g', d, tk, os⟩ ∧ GenOnlyQ g g₀ g' ∧ FinH h'

theorem gidx {N j m : Nat} (hj : j < N) (hm : N - j = m + 1) : N - 1 - (m + 1 - 1) = j ∧ N - (j + 1) = m := by
  have e : N = j + (m + 1) := by rw [← hm]; exact (Nat.add_sub_cancel' (Nat.le_of_lt hj)).symm
  subst e
  refine ⟨?_, ?_⟩
  · show j + m - m = j
    exact Nat.add_sub_cancel ..
  · show j + m + 1 - (j + 1) = m
    rw [Nat.add_sub_add_right]; exact Nat.add_sub_cancel_left ..
theorem pWalks {prog : Program} {w : World} {A : Around} (hh : A.handled = none) (hroom : A.depth < recursionLimit) (a S : Addr) (g N : Nat) (P : Nat → Value → Prop) (FinH : Heap → Prop) (g₀ : Array GenState) (d : Drawn) (os : OsState)
    (haS : a ≠ S) (hcS : cStatics ≠ S) (hfin : ∀ h h', FinH h → (∀ b o, h.get? b = some o → h'.get? b = some o) → FinH h') :
    WalkP prog w A a S N P (GenStP prog w A a S g N P FinH g₀ d os) (pFin g FinH g₀ d os) where
  typ := fun i s st => st.1.typeIs
  frame := fun j s h' st hk =>
    ⟨let ⟨o, nm, qn, ho, r⟩ := st.1; ⟨o, nm, qn, hk a o haS ho, r⟩,
     (let ⟨mc, hns, hnn⟩ := st.2.1; ⟨mc, hns.at' fun o e => hk cStatics o hcS e, hnn⟩), st.2.2.1, st.2.2.2.1, st.2.2.2.2.1,
     let ⟨gs, hgs, hgo⟩ := st.2.2.2.2.2; ⟨gs, hgs, fun s'' hal => hgo s'' fun b o hb e => hal b o hb (hk b o hb e)⟩⟩
  item := fun j s oS Q E hj st hS hQ => by
    obtain ⟨hg, hl, rfl, rfl, hG, gs, hgs, hgo⟩ := st
    obtain ⟨m, hm⟩ : ∃ m, N - j = m + 1 := Nat.exists_eq_succ_of_ne_zero (Nat.sub_ne_zero_of_lt hj)
    rw [hm] at hgo
    refine pyNext_genQ (P := fun n s₀ s₁ => n = 0 ∧ SinceP S a s₀ s₁ ∧ FinH s₁.heap) hh hl hroom hg hgs (hgo _ (fun _ _ _ e => e) ⟨oS, hS⟩) (fun v s₁ gs' hb hv => ?_) (fun s₁ hp h' hk => ?_)
    · obtain ⟨hF, ⟨h₁, tk₁, rfl, k1, k2, k3⟩, hkap⟩ := hv
      have hidx : N - 1 - (m + 1 - 1) = j := (gidx hj hm).1
      rw [hidx] at hF
      refine hQ v _ hF ⟨let ⟨o, nm, qn, ho, r⟩ := hg; ⟨o, nm, qn, k2 o ho, r⟩, (let ⟨mc, hns, hnn⟩ := hl; ⟨mc, hns.at' fun o e => k3 o e, hnn⟩), rfl, rfl, hG.trans (GenOnlyQ.of ((GenOnly.setGen s g .running).trans (GenOnly.setGen _ g gs')) (setGen_self (gs := .running) (setGen_self hgs)) hb), gs', setGen_self (gs := .running) (setGen_self hgs), fun s'' hal => ?_⟩ (k1 _ hS)
      have e : N - (j + 1) = m := (gidx hj hm).2
      rw [e]
      exact hkap s'' hal
    · exact absurd hp.1 (Nat.succ_ne_zero m)
  done := fun s oS Q E st hS hQ => by
    obtain ⟨hg, hl, rfl, rfl, hG, gs, hgs, hgo⟩ := st
    rw [Nat.sub_self] at hgo
    refine pyNext_genQ (P := fun n s₀ s₁ => n = 0 ∧ SinceP S a s₀ s₁ ∧ FinH s₁.heap) hh hl hroom hg hgs (hgo _ (fun _ _ _ e => e) ⟨oS, hS⟩) (fun v s₁ gs' hb hv => ?_) (fun s₁ hp h' hk => ?_)
    · obtain ⟨_, ⟨h₁, tk₁, rfl, k1, k2, k3⟩, hkap⟩ := hv
      exact False.elim (hkap _ (fun _ _ _ e => e) ⟨oS, k1 _ hS⟩)
    · obtain ⟨_, ⟨h₁, tk₁, rfl, k1, k2, k3⟩, hfh⟩ := hp
      refine hQ _ ⟨h', _, tk₁, rfl, hG.trans (GenOnlyQ.of ((GenOnly.setGen s g .running).trans (GenOnly.setGen _ g .finished)) (setGen_self (gs := .running) (setGen_self hgs)) rfl), hfin _ _ hfh hk⟩ (hk _ _ (k1 _ hS))
  self := fun _ _ _ _ st hQ => wpAny_pyIter_gen st.1 hQ
end Mine
end PartGenP2

section PartSegR
open PySem PySem.W PyProof.Rows PySem.Calls
set_option maxRecDepth 100000
namespace Mine
section
variable {prog : Program} {w : World} {A : Around} {R : GenEnd} {Y : Protocol} {n : Nat} {s₀ : Shared} {c : Code} {fs : List Frame} {s : Shared} {env : Env}
  {K : Flow → Sem PySem.Fin} {H : Value → Sem PySem.Fin} {gd : Bool → Bool} {lv : List Value → List Value}

theorem segX {α : Type} {m : Sem α} {K : α → Sem PySem.Fin} (h : wpAny (model prog w) (A.over c fs) m (fun a s' => Seg (model prog w) A R Y n s₀ c (K a) fs s') (fun _ _ => False) s) :
    Seg (model prog w) A R Y n s₀ c (m.wrap K H gd lv) fs s :=
  seg_wrap (wpAny_mono h (fun _ _ z => z) fun _ _ z => z.elim)

theorem seg_leafs {st : Stmt} {rest : List Stmt} (h : wpAny (model prog w) (A.over c fs) (exec st env) (fun f s' => f = .next ∧ Seg (model prog w) A R Y n s₀ c ((execs rest env).wrap K H gd lv) fs s') (fun _ _ => False) s) :
    Seg (model prog w) A R Y n s₀ c ((execs (st :: rest) env).wrap K H gd lv) fs s := by
  refine seg_execs_cons (segX (wpAny_mono h (fun f s' z => ?_) fun _ _ z => z))
  obtain ⟨rfl, z⟩ := z
  exact z

theorem seg_Ifs {test : PySem.Expr} {body orelse rest : List Stmt} {pos : Pos}
    (h : wpAny (model prog w) (A.over c fs) (isTrue test env (eval test env)) (fun b s₂ => Seg (model prog w) A R Y n s₀ c ((execs (cond b body orelse) env).wrap (fun f => match f with | .next => (execs rest env).wrap K H gd lv | f => K f) H gd lv) fs s₂) (fun _ _ => False) s) :
    Seg (model prog w) A R Y n s₀ c ((execs (.If test body orelse pos :: rest) env).wrap K H gd lv) fs s := by
  refine seg_execs_cons ?_
  rw [exec_If]
  refine seg_bind_wrap (wpAny_standAt ?_)
  refine seg_bind_wrap (wpAny_mono h (fun b s' z => ?_) fun _ _ z => z.elim)
  cases b <;> exact z

theorem loop_cut {M : Model} {t : Sem PySem.Fin} (I : Nat → Nat → Shared → Shared → Prop) {n : Nat} {s₀ s : Shared} (k : Nat) (hI : I k n s₀ s)
    (step : ∀ k n s₀ s, (∀ k' n' s₀' s', k' < k → I k' n' s₀' s' → Seg M A R Y n' s₀' c t fs s') → I k n s₀ s → Seg M A R Y n s₀ c t fs s) : Seg M A R Y n s₀ c t fs s := by
  have key : ∀ K k, k < K → ∀ n s₀ s, I k n s₀ s → Seg M A R Y n s₀ c t fs s := by
    intro K
    induction K with
    | zero => intro k hk; exact absurd hk (Nat.not_lt_zero _)
    | succ K ih => exact fun k hk n s₀ s h => step k n s₀ s (fun k' n' s₀' s' hk' h' => ih k' (Nat.lt_of_lt_of_le hk' (Nat.le_of_lt_succ hk)) n' s₀' s' h') h
  exact key (k + 1) k (Nat.lt_succ_self _) n s₀ s hI
def forRest (env : Env) (K : Flow → Sem PySem.Fin) (H : Value → Sem PySem.Fin) (gd : Bool → Bool) (lv : List Value → List Value) : Result → Sem PySem.Fin := fun r => ((match r with | .ok f => (.pure f : Sem Flow) | .error e => .raise e).onRaise fun (x : Value) => do
        if (← field x 1) == Value.none then unsupported "frame.own-activation:exception-without-traceback"
        setFlight x env.frame).wrap K H gd lv
theorem seg_Fors {target iter : PySem.Expr} {body orelse rest : List Stmt} {pos : Pos}
    (h : wpAny (model prog w) (A.over c fs) (eval iter env) (fun x s₁ => wpAny (model prog w) (A.over c fs) (pyIter x) (fun it s₂ =>
      ∀ p, Seg (model prog w) A R Y n s₀ (.forLoop target it body orelse env) ((model prog w).den (.forLoop target it body orelse env))
        (.ret (forRest env (fun f => match f with | .next => (execs rest env).wrap K H gd lv | f => K f) H gd lv) none (gd false) (lv []) c p [] :: fs) s₂) (fun _ _ => False) s₁) (fun _ _ => False) s)
    (hs : ∀ x, foldedSetIterable iter env x = pure x := by intro _; rfl) :
    Seg (model prog w) A R Y n s₀ c ((execs (.For target iter body orelse pos :: rest) env).wrap K H gd lv) fs s := by
  refine seg_execs_cons ?_
  rw [exec_For]
  refine seg_bind_wrap (wpAny_standAt ?_)
  refine seg_bind_wrap (wpAny_mono h (fun x s₁ h₁ => ?_) fun _ _ z => z.elim)
  refine seg_bind_wrap (wpAny_of_eq (hs x) ?_)
  refine seg_bind_wrap (wpAny_standAt ?_)
  refine seg_bind_wrap (wpAny_holding (wpAny_mono h₁ (fun it s₂ h₂ => ?_) fun _ _ z => z.elim))
  exact seg_call h₂

theorem seg_turn {target it : _} {body orelse : List Stmt}
    (h : wpAny (model prog w) (A.over (.forLoop target it body orelse env) fs) (pyNext it) (fun r s₁ => match r with
      | none => Seg (model prog w) A R Y n s₀ (.block orelse env) ((model prog w).den (.block orelse env)) fs s₁
      | some v => wpAny (model prog w) (A.over (.forLoop target it body orelse env) fs) (letOwnedTupleGo target it v) (fun _ s₂ =>
          wpAny (model prog w) (A.over (.forLoop target it body orelse env) fs) (assign target env v) (fun _ s₃ =>
            Seg (model prog w) A R Y n s₀ (.forLoop target it body orelse env) ((execs body env).wrap (fun f => match f with
              | .next | .cont => .pure (.again (.forLoop target it body orelse env))
              | .brk => .pure (.done .next)
              | .ret v => .pure (.done (.ret v))) (fun e => (do noteFrame e env; theTreesLotGoes e : Sem Unit).wrap (fun _ => .raise e) .raise id id) id id) fs s₃) (fun _ _ => False) s₂) (fun _ _ => False) s₁) (fun _ _ => False) s) :
    Seg (model prog w) A R Y n s₀ (.forLoop target it body orelse env) ((model prog w).den (.forLoop target it body orelse env)) fs s := by
  show Seg _ A R Y n s₀ _ ((forTurn target it body orelse env).onRaise (fun x => do noteFrame x env; theTreesLotGoes x)) fs s
  unfold forTurn
  rw [Sem.onRaise_eq_wrap]
  refine seg_bind_wrap (wpAny_standAt ?_)
  refine seg_bind_wrap (wpAny_onRaise (wpAny_mono h (fun r s₁ h₁ => ?_) fun _ _ z => z.elim))
  cases r with
  | none => exact seg_again rfl h₁
  | some v =>
    refine seg_bind_wrap (wpAny_mono h₁ (fun _ s₂ h₂ => ?_) fun _ _ z => z.elim)
    refine seg_bind_wrap (wpAny_mono h₂ (fun _ s₃ h₃ => ?_) fun _ _ z => z.elim)
    rw [Sem.bind_eq_wrap', Sem.wrap_wrap]
    rw [Sem.wrap_congr (execs body env) _ _ (K' := fun f => match f with
              | .next | .cont => .pure (.again (.forLoop target it body orelse env))
              | .brk => .pure (.done .next)
              | .ret v => .pure (.done (.ret v))) (H' := (fun e => (do noteFrame e env; theTreesLotGoes e : Sem Unit).wrap (fun _ => .raise e) .raise id id))
        (fun f => by cases f <;> rfl)
        (fun e => by first | exact Sem.bind_eq_wrap _ _ | (show (do noteFrame e env; theTreesLotGoes e : Sem Unit).bind (fun _ => .raise e) = _; rw [Sem.bind_eq_wrap]))]
    exact h₃
theorem seg_blockNil (h : Seg (model prog w) A R Y n s₀ (.block [] env) (leafOf (.ok .next)) fs s) : Seg (model prog w) A R Y n s₀ (.block [] env) ((model prog w).den (.block [] env)) fs s := h
end
end Mine
end PartSegR

section PartUeA
open PySem PySem.W PyProof.Rows PySem.Calls
set_option maxRecDepth 100000
namespace Mine
theorem allBare_push {a : Array GenState} {c : Code} (x : AllBare a) : AllBare (a.push (.fresh c)) := fun y hy => by
  rcases Array.mem_push.mp hy with h | rfl
  · exact x y h
  · rfl
theorem enterGen {prog : Program} {w : World} {A : Around} {E : Value → Shared → Prop} {s : Shared} {K : Frag} {name qual : PySem.Str} {params : Arguments} {body : List Stmt} {scope : Scope} {dV kV doc pm cdv ct oc : Value} {an od : Option Addr} {osl : Array (Option Value)} {f : Addr} {args : List Value} {kw : List (PySem.Str × Value)} {binds : List (PySem.Str × Value)} {Q : Value → Shared → Prop}
    (X : K.In s.heap) (hlim : s.heap.NoLimit) (ho : K.lookup f = some ⟨oc, od, .func (fnOf name qual params body scope dV kV doc pm an cdv ct), osl⟩) (hcd : codeIn K cdv qual = true) (hroom : A.depth < recursionLimit)
    (hbind : BindsTo s (fnOf name qual params body scope dV kV doc pm an cdv ct) ⟨args, kw⟩ binds) (hloc : ∀ y ∈ binds, scope.names.lookup y.1 = some .local)
    (h : ∀ h₁ h₂ g₀, Fr s.heap s.heap.objs.size h₁ (fun y => binds.reverse.lookup y) → (∀ b o, h₁.get? b = some o → h₂.get? b = some o) → h₂.IsGen h₁.objs.size s.gens.size → h₂.objs.size = h₁.objs.size + 1 →
      g₀[s.gens.size]? = some (.fresh (.func body (envOf qual scope s.heap.objs.size f cdv))) → (AllBare s.gens → AllBare g₀) → Q (.ref h₁.objs.size) ⟨h₂, g₀, s.drawn, s.toks + binds.length + 1 + 1, s.os⟩)
    (hco : scope.isCoroutine = false) (hgen : scope.isGenerator = true) (hk : scope.kind = .function)
    (hcell : ∀ x ∈ scope.names, x.2 ≠ .cell) : wpAny (model prog w) A (call (.ref f) args kw) Q E s := by
  refine wpAny_call (codeAny_call_generator (fd := fnOf name qual params body scope dV kV doc pm an cdv ct) (body := body) hroom (X _ _ ho) rfl hco hgen rfl (codeRec_of X hcd) (hbind _ _ _ _ ?_))
  refine wpAny_newFunctionEnv hcell hloc (fun h₀ hns₀ hsb₀ => ⟨hlim.fresh _ hsb₀, ?_⟩) hk
  have hk₁ : ∀ b o, s.heap.get? b = some o → h₀.get? b = some o := fun b o e => hsb₀.extBut b o (Nat.ne_of_lt (Heap.lt_size e)) (Heap.get?_push_of_some _ e)
  exact h h₀ _ _ ⟨hns₀, hk₁, Nat.le_refl _⟩ (fun b o e => Heap.get?_push_of_some _ e) ⟨_, _, _, Heap.get?_push_size _ rfl, rfl, rfl, rfl⟩ (Heap.size_push ..) Array.getElem?_push_size allBare_push
theorem over_func (dp un : Nat) (gd : Option (List Code)) (fr : Option (List Env)) (b : List Stmt) (env : Env) : ∃ dp' un' gd' fr', dp' ≤ dp + 2 ∧ ({ handled := none, depth := dp, frames := fr, guards := gd, units := un } : Around).over (.func b env) [] = { handled := none, depth := dp', frames := fr', guards := gd', units := un' } :=
  ⟨_, _, _, _, Nat.le_succ _, rfl⟩
theorem over_for (dp un : Nat) (gd : Option (List Code)) (fr : Option (List Env)) (b : List Stmt) (env : Env) (t : PySem.Expr) (it : Value) (lb lo : List Stmt) (k : Result → Sem PySem.Fin) (p : Pos) : ∃ dp' un' gd' fr', dp' ≤ dp + 2 ∧ ({ handled := none, depth := dp, frames := fr, guards := gd, units := un } : Around).over (.forLoop t it lb lo env) [.ret k none (id false) (id []) (.func b env) p []] = { handled := none, depth := dp', frames := fr', guards := gd', units := un' } :=
  ⟨_, _, _, _, Nat.le_succ _, rfl⟩
theorem since_of {S a : Addr} {s₀ s₃ : Shared} {h' h₀ : Heap} {tk : Nat} (x : SinceP S a s₀ s₃) (k0 : ∀ b o, h₀.get? b = some o → s₃.heap.get? b = some o) (k1 : ∀ b o, h₀.get? b = some o → h'.get? b = some o) (hc : h₀.NoLimit)
    (hS : ∃ o, s₃.heap.get? S = some o ∧ h'.get? S = some o) (ha : ∃ o, s₃.heap.get? a = some o ∧ h'.get? a = some o) : SinceP S a s₀ { s₃ with heap := h', toks := tk } := by
  refine x.step (fun o e => ?_) (fun o e => ?_) (fun o e => ?_)
  · obtain ⟨o', q1, q2⟩ := hS; rw [q1] at e; cases e; exact q2
  · obtain ⟨o', q1, q2⟩ := ha; rw [q1] at e; cases e; exact q2
  · obtain ⟨_, ⟨o', _, _, q, _⟩, _⟩ := hc
    rw [k0 _ _ q] at e; cases e; exact k1 _ _ q
theorem news_upd {h₀ h h' : Heap} {L : Addr} {m : PySem.Str → Option Value} {pre post : List (Addr × Obj)} {d : Addr} {o o' : Obj} (F : Fr h₀ L h m) (N : News h₀ L h (pre ++ (d, o) :: post)) (nd : ((pre ++ (d, o) :: post).map (·.1)).Nodup)
    (hk : ∀ b o, b ≠ d → h.get? b = some o → h'.get? b = some o) (hd : h'.get? d = some o') : Fr h₀ L h' m ∧ News h₀ L h' (pre ++ (d, o') :: post) := by
  have hN := N (d, o) (List.mem_append.mpr (.inr (.head _)))
  rw [List.map_append, List.map_cons] at nd
  have h1 := (List.nodup_append.mp nd)
  have hk' : ∀ b o, b ∉ [d] → h.get? b = some o → h'.get? b = some o := fun b o hb e => hk b o (fun q => hb (by rw [q]; exact .head _)) e
  refine news_step (ds := [d]) (news' := pre ++ (d, o') :: post) F N hk' (fun x hx => by rw [List.mem_singleton.mp hx]; exact hN.2) (fun p hp => ?_)
  rcases List.mem_append.mp hp with hp | hp
  · refine .inl ⟨List.mem_append.mpr (.inl hp), fun q => ?_⟩
    exact h1.2.2 _ (List.mem_map_of_mem (f := fun x : Addr × Obj => x.1) hp) _ (.head _) (List.mem_singleton.mp q)
  · rcases List.mem_cons.mp hp with rfl | hp
    · exact .inr ⟨hd, hN.2⟩
    · refine .inl ⟨List.mem_append.mpr (.inr (.tail _ hp)), fun q => ?_⟩
      refine (List.nodup_cons.mp h1.2.1).1 ?_
      have q' : p.1 = d := List.mem_singleton.mp q
      show d ∈ _
      rw [← q']
      exact List.mem_map_of_mem (f := fun x : Addr × Obj => x.1) hp
theorem nd_cons {x y : Nat} {l : List Nat} (h : y < x) (hl : (y :: l).Pairwise (· > ·)) : (x :: y :: l).Pairwise (· > ·) :=
  List.pairwise_cons.mpr ⟨fun z hz => (List.mem_cons.mp hz).elim (fun e => by rw [e]; exact h) fun hz => Nat.lt_trans ((List.pairwise_cons.mp hl).1 z hz) h, hl⟩
theorem nd_of {l : List Nat} (h : l.Pairwise (· > ·)) : l.Nodup := h.imp fun h => Nat.ne_of_gt h
theorem nd9 {I x dx BC BA D a S l : Nat} (h1 : x < I) (h2 : dx < x) (h3 : BC < dx) (h4 : BA < BC) (h5 : D < BA) (h6 : S < D) (h7 : a < S) (h8 : l < a) : [I, x, dx, BC, BA, D, a, S, l].Nodup :=
  (List.Perm.nodup_iff (.cons I (.cons x (.cons dx (.cons BC (.cons BA (.cons D (.swap a S [l])))))))).mp
    (nd_of (nd_cons h1 (nd_cons h2 (nd_cons h3 (nd_cons h4 (nd_cons h5 (nd_cons h6 (nd_cons h7 (nd_cons h8 (List.pairwise_singleton _ _))))))))))
def BareTo (a b : Array GenState) : Prop := AllBare a → AllBare b
theorem BareTo.refl (a : Array GenState) : BareTo a a := fun x => x
theorem BareTo.trans {a b c : Array GenState} (x : BareTo a b) (y : BareTo b c) : BareTo a c := fun z => y (x z)
end Mine
end PartUeA

section PartUeKey
open PySem PySem.W PyProof.Rows PySem.Calls
set_option maxRecDepth 100000
namespace Mine
local macro_rules | `(tactic| k_room) => `(tactic| ktr_room)
theorem strs_at {vs : Array Value} {ys : List PySem.Str} (h : StrsAre vs.toList ys) {i : Nat} (hi : i < ys.length) : ∃ r t, vs[i]? = some (.str r t) ∧ ys[i]? = some r := by
  have key : ∀ {l : List Value} {ys : List PySem.Str}, StrsAre l ys → ∀ {i : Nat}, i < ys.length → ∃ r t, l[i]? = some (Value.str r t) ∧ ys[i]? = some r := by
    intro l ys h
    induction h with
    | nil => intro i hi; exact absurd hi (Nat.not_lt_zero _)
    | cons y t _ ih =>
      intro i hi
      cases i with
      | zero => exact ⟨y, t, rfl, rfl⟩
      | succ i => simpa using ih (i := i) (by simpa using hi)
  obtain ⟨r, t, h1, h2⟩ := key h hi
  exact ⟨r, t, by simpa using h1, h2⟩
theorem list_keeps {h h' : Heap} {a : Addr} {items : Array Value} (x : h.IsList a items) (hk : ∀ b o, h.get? b = some o → h'.get? b = some o) : h'.IsList a items := let ⟨o, ho, r⟩ := x; ⟨o, hk _ _ ho, r⟩
theorem nubK_le {α β : Type} [DecidableEq β] (key : α → β) : ∀ (seen : List β) (l : List α), (nubK key seen l).length ≤ l.length
  | _, [] => Nat.le_refl _
  | seen, x :: l => by
    unfold nubK
    split
    · exact Nat.le_succ_of_le (nubK_le key seen l)
    · exact Nat.succ_le_succ (nubK_le key _ l)
theorem strs_of_items {ys : List PySem.Str} {acc : Array Value} (h : ItemsOf (fun j v => ∃ t r, v = .str r t ∧ ys[j]? = some r) acc ys.length) : StrsAre acc.toList ys := by
  obtain ⟨h1, h2⟩ := h
  have key : ∀ (l : List Value) (ys : List PySem.Str), l.length = ys.length → (∀ (j : Nat) (v : Value), l[j]? = some v → ∃ t r, v = Value.str r t ∧ ys[j]? = some r) → StrsAre l ys := by
    intro l
    induction l with
    | nil =>
      intro ys hl _
      cases ys with
      | nil => exact .nil
      | cons y ys => cases hl
    | cons v l ih =>
      intro ys hl hv
      cases ys with
      | nil => cases hl
      | cons y ys =>
        obtain ⟨t, r, rfl, hr⟩ := hv 0 v rfl
        obtain rfl : y = r := by simpa using hr
        exact .cons _ _ (ih ys (by simpa using hl) fun j v' hj => by simpa using hv (j + 1) v' (by simpa using hj))
  exact key acc.toList ys (by rw [Array.length_toList]; exact h1) fun j v hj => h2 j v (by simpa using hj)
set_option maxRecDepth 100000 in
set_option maxHeartbeats 4000000 in
theorem ue_key {w : World} {mean : ExcName → Option Value} {mg mb : PySem.Str → Option Value} {s : Shared} {dp un : Nat} {gd : Option (List Code)} {fr : Option (List Env)} {h₀ : Heap}
    {src C nt : Addr} {oC : Obj} {fdC : FuncData} {items : Array Value} {rs : List PySem.Str} {κ : PySem.Str → PySem.Str} {KS : Nat → Heap → Prop} {Q E : Value → Shared → Prop} :
    (Mine.hd.heap_39 w.params).In h₀ → Top topProg looseL mean mg mb h₀ → dp < 450 →
    (∀ b o, h₀.get? b = some o → s.heap.get? b = some o) → h₀.objs.size ≤ s.heap.objs.size →
    h₀.IsList src items → StrsAre items.toList rs → rs.length ≤ 64 →
    h₀.get? C = some oC → oC.data = .func fdC → KS 0 s.heap → h₀.get? nt = none →
    (∀ j h, KS j h → ∃ o, h.get? nt = some o) → (∀ j h h', KS j h → (∀ b o, h₀.get? b = some o → h'.get? b = some o) → (∀ o, h.get? nt = some o → h'.get? nt = some o) → KS j h') →
    (∀ (j : Nat) (r : PySem.Str) (t : Tok) (s₁ : Shared) (dp' un' : Nat) (gd' : Option (List Code)) (fr' : Option (List Env)) (Q' E' : Value → Shared → Prop), rs[j]? = some r → dp' < dp + 10 → KS j s₁.heap → (∀ b o, h₀.get? b = some o → s₁.heap.get? b = some o) →
      (∀ h' tk t', KS (j + 1) h' → (∀ b o, b ≠ nt → s₁.heap.get? b = some o → h'.get? b = some o) → Q' (.str (κ r) t') { s₁ with heap := h', toks := tk }) →
      wpAny (model PySem.Challenge.rw_ij0158_01.row.prog w) { handled := none, depth := dp', frames := fr', guards := gd', units := un' } (call (.ref C) [.str r t]) Q' E' s₁) →
    (∀ (a : Addr) (s' : Shared), (∀ b o, s.heap.get? b = some o → s'.heap.get? b = some o) → s'.drawn = s.drawn → s'.os = s.os → BareTo s.gens s'.gens →
      (∀ (Q' E' : Value → Shared → Prop), (∀ h' g' tk (acc : Array Value) c, (∀ b o, h₀.get? b = some o → h'.get? b = some o) → KS rs.length h' → BareTo s.gens g' → h'.get? s'.heap.objs.size = some { cls := .type "list", dict := none, data := .seq acc c, slots := #[] } → StrsAre acc.toList (nubK κ [] rs) → Q' (.ref s'.heap.objs.size) ⟨h', g', s.drawn, tk, s.os⟩) →
        wpAny (model PySem.Challenge.rw_ij0158_01.row.prog w) { handled := none, depth := dp, frames := fr, guards := gd, units := un } (call (.type "list") [.ref a]) Q' E' s') → Q (.ref a) s') →
    wpAny (model PySem.Challenge.rw_ij0158_01.row.prog w) { handled := none, depth := dp, frames := fr, guards := gd, units := un } (call (.ref 106) [.ref src, .ref C]) Q E s := by
  w_top off
  k_fill
  intro X T hd hsub hsz hsrc hitems hlen hC0 hC1 hk0 hnt0 hKN hKS hkey hQ
  obtain ⟨on, hon⟩ := hKN _ _ hk0
  have hnt : nt < s.heap.objs.size := Heap.lt_size hon
  have Xs : (Mine.hd.heap_39 w.params).In s.heap := X.keeps hsub
  have lim : s.heap.NoLimit := (Top.nolimit T).keeps hsub
  k_dflt (refine' enterGen ?k1 ?k5 ?k6 ?k7 ?k8 ?k9 ?kB ?_ ?c2 ?c3 ?c4 ?c5; (case k1 => k_asm); (case k5 => k_asm); (case k6 => k_is); (case k7 => k_is); (case k8 => ktr_room); (case k9 => first | exact BindsTo.of_eq rfl | exact binds_K (by k_asm) rfl (by k_is) rfl rfl rfl); (case c5 => decide); (case kB => exact locs rfl); (case c2 => exact rfl); (case c3 => exact rfl); (case c4 => exact rfl); (try dsimp only))
  intro h₁ h₂ g₀ F₁ hk₂ hgen hsz₂ hgs hbare
  refine hQ _ _ (fun b o e => hk₂ b o (F₁.keep b o e)) rfl rfl ?_ fun Q' E' hQ' => ?_
  · exact hbare
  have hrk : ∀ j, j ≤ rs.length → (nubK κ [] rs).length ≤ 64 := fun _ _ => Nat.le_trans (nubK_le _ _ _) hlen
  have hL₁ : s.heap.objs.size < h₁.objs.size := let ⟨_, _, _, q, _⟩ := F₁.ns; Heap.lt_size q
  have hcs0 : cStatics < h₀.objs.size := let ⟨_, ⟨_, _, _, q, _⟩, _⟩ := Top.nolimit T; Heap.lt_size q
  have hcs2 : cStatics < h₂.objs.size := by
    rw [hsz₂]
    exact Nat.lt_succ_of_lt (Nat.lt_of_lt_of_le hcs0 (Nat.le_trans hsz (Nat.le_of_lt hL₁)))
  refine call_listP (n := (nubK κ [] rs).length) (P := fun j v => ∃ t r, v = .str r t ∧ (nubK κ [] rs)[j]? = some r) (pWalks rfl ?room _ _ s.gens.size _ _ (fun h' => (∀ b o, h₀.get? b = some o → h'.get? b = some o) ∧ KS rs.length h') g₀ s.drawn s.os ?hne ?hcs ?hfin) ?hlt ?hst ?hend ?hn
  case room =>
    show dp < recursionLimit
    have : recursionLimit = 1000 := by first | rfl | decide
    omega
  case hne => exact Nat.ne_of_lt (show h₁.objs.size < h₂.objs.size by rw [hsz₂]; exact Nat.lt_succ_self _)
  case hcs => exact Nat.ne_of_lt hcs2
  case hfin => exact fun h h' x hk => ⟨fun b o e => hk b o (x.1 b o e), hKS _ _ _ x.2 (fun b o e => hk b o (x.1 b o e)) fun o e => hk _ o e⟩
  case hlt => show h₁.objs.size < h₂.objs.size; rw [hsz₂]; exact Nat.lt_succ_self _
  case hn => 
    have : 1000 ≤ sizeLine := by decide
    exact Nat.le_trans (hrk 0 (Nat.zero_le _)) (by omega)
  case hend =>
    rintro s' acc c' ⟨h', g', tk, rfl, hg, hf, hk⟩ hS hacc
    refine hQ' _ _ _ _ _ hf hk ?_ hS ?_
    · exact fun x => hg.bare (hbare x)
    · exact strs_of_items hacc
  case hst =>
    refine ⟨hgen.push _, ?_, rfl, rfl, .inl rfl, _, hgs, fun s₂ hal hS => And.intro rfl (seg_func ?_)⟩
    · exact lim.keeps fun b o e => Heap.get?_push_of_some _ (hk₂ b o (F₁.keep b o e))
    obtain ⟨oS, hoS⟩ := hS
    obtain ⟨oa, nm, qn, hoa, ha1, ha2, ha3⟩ := id hgen
    replace hal : ∀ b o, b ≠ h₂.objs.size → h₂.get? b = some o → s₂.heap.get? b = some o := fun b o hb e => hal b o hb (Heap.get?_push_of_some _ e)
    replace hoS : s₂.heap.get? h₂.objs.size = some oS := hoS
    have hLS : s.heap.objs.size ≠ h₂.objs.size := Nat.ne_of_lt (by rw [hsz₂]; exact Nat.lt_succ_of_lt hL₁)
    have hLa : h₁.objs.size ≠ s.heap.objs.size := Nat.ne_of_gt hL₁
    have hSa : h₂.objs.size ≠ h₁.objs.size := Nat.ne_of_gt (by rw [hsz₂]; exact Nat.lt_succ_self _)
    have hlow : ∀ b, b < s.heap.objs.size → ∀ o, s.heap.get? b = some o → s₂.heap.get? b = some o := fun b hb o e => hal b o (Nat.ne_of_lt (show b < h₂.objs.size by rw [hsz₂]; exact Nat.lt_succ_of_lt (Nat.lt_trans hb hL₁))) (hk₂ b o (F₁.keep b o e))
    have hnone : ∀ b, s.heap.objs.size ≤ b → h₀.get? b = none := fun b hb => by
      cases q : h₀.get? b with
      | none => rfl
      | some o => exact absurd (Heap.lt_size q) (Nat.not_lt.mpr (Nat.le_trans hsz hb))
    have FS : Fr h₀ s.heap.objs.size s₂.heap _ := ⟨(F₁.ns.keeps hk₂).at' fun o e => hal _ o hLS e, fun b o e => hlow b (Heap.lt_size (hsub b o e)) o (hsub b o e), hsz⟩
    have NS : News h₀ s.heap.objs.size s₂.heap [(h₁.objs.size, oa), (h₂.objs.size, oS), (nt, on)] := fun p hp => by
      rcases List.mem_cons.mp hp with rfl | hp
      · exact ⟨hal _ _ (Ne.symm hSa) hoa, hLa, hnone _ (Nat.le_of_lt hL₁)⟩
      rcases List.mem_cons.mp hp with rfl | hp
      rotate_left
      · rw [List.mem_singleton.mp hp]
        exact ⟨hlow _ hnt _ hon, Nat.ne_of_lt hnt, hnt0⟩
      · exact ⟨hoS, Ne.symm hLS, hnone _ (by rw [hsz₂]; exact Nat.le_of_lt (Nat.lt_succ_of_lt hL₁))⟩
    have hk2 : KS 0 s₂.heap := hKS _ _ _ hk0 (fun b o e => FS.keep b o e) fun o e => hlow nt hnt o e
    dsimp only [Nat.sub_zero]
    generalize hSS : h₂.objs.size = S at *
    generalize haa : h₁.objs.size = a at *
    refine seg_leafs ?_
    obtain ⟨dp', un', gd', fr', hdp, e⟩ := over_func dp (un+1+1+1) gd fr _ _
    rw [e]
    have haS := (NS _ (.head _)).1
    have hFSk := FS.keep
    clear hgs hgen hk₂ F₁ hal hQ' hQ hoa ha1 ha2 ha3 hrk
    k_steps
    clear e hdp dp' un' gd' fr'
    refine seg_leafs ?_
    obtain ⟨dp', un', gd', fr', hdp, e⟩ := over_func dp (un+1+1+1) gd fr _ _
    rw [e]
    k_steps
    rename Fr _ _ _ _ => FA
    rename News _ _ _ _ => NA
    rename_i D _ led hsi hss lD hB
    refine SetM.attr_add (NA _ (.head _)).1 ?_
    have FB := FA.push (SetM.boundOf "set.add" D)
    have NB := NA.push FA (SetM.boundOf "set.add" D)
    have lDBA := Heap.lt_size (NA _ (.head _)).1
    have lSBA := Heap.lt_size (NA _ (.tail _ (.tail _ (.head _)))).1
    have lnBA := Heap.lt_size (NA _ (.tail _ (.tail _ (.tail _ (.head _))))).1
    clear FA NA
    generalize hBA : hB.objs.size = BA at *
    k_steps
    rename Fr _ _ _ _ => FA
    rename News _ _ _ _ => NA
    rename_i hE
    clear e hdp
    refine seg_Ifs ?_
    obtain ⟨dp', un', gd', fr', hdp, e⟩ := over_func dp (un+1+1+1) gd fr _ _
    rw [e]
    k_steps
    rename Fr _ _ _ _ => FA
    rename News _ _ _ _ => NA
    clear e hdp dp' un' gd' fr'
    refine seg_Fors ?_ (by intro _; rfl)
    obtain ⟨dp', un', gd', fr', hdp, e⟩ := over_func dp (un+1+1+1) gd fr _ _
    rw [e]
    k_steps
    rename Fr _ _ _ _ => FA
    rename News _ _ _ _ => NA
    have hSB : S < hE.objs.size := Heap.lt_size (NA _ (.tail _ (.tail _ (.tail _ (.head _))))).1
    refine wpAny_pyIter_list (list_keeps hsrc FA.keep) ?_
    intro p
    have FB := FA.push (o := { cls := .type "list_iterator", data := .fields #[.ref src, .int 0 0] })
    have NB := NA.push FA { cls := .type "list_iterator", data := .fields #[.ref src, .int 0 0] }
    generalize hII : hE.objs.size = I at *
    have iBA : BA < I := by rw [← hII]; exact Heap.lt_size (NA _ (.head _)).1
    have iD : D < I := by rw [← hII]; exact Heap.lt_size (NA _ (.tail _ (.head _))).1
    have ia : a < I := by rw [← hII]; exact Heap.lt_size (NA _ (.tail _ (.tail _ (.head _)))).1
    have iS : S < I := by rw [← hII]; exact Heap.lt_size (NA _ (.tail _ (.tail _ (.tail _ (.head _))))).1
    have int : nt < I := by rw [← hII]; exact Heap.lt_size (NA _ (.tail _ (.tail _ (.tail _ (.tail _ (.head _)))))).1
    have hnS : nt < S := by rw [hsz₂]; exact Nat.lt_succ_of_lt (Nat.lt_trans hnt hL₁)
    have hna : nt < a := Nat.lt_trans hnt hL₁
    have hSlt : a < S := by rw [hsz₂]; exact Nat.lt_succ_self _
    have hI4 : ∀ p ∈ [BA, D, a, S, nt], p ≠ I := by
      intro p hp
      simp only [List.mem_cons, List.not_mem_nil, or_false] at hp
      rcases hp with rfl | rfl | rfl | rfl | rfl <;> exact Nat.ne_of_lt (by assumption)
    have hn4 : ∀ p ∈ [I, BA, D, a, S], p ≠ nt := by
      intro p hp
      simp only [List.mem_cons, List.not_mem_nil, or_false] at hp
      rcases hp with rfl | rfl | rfl | rfl | rfl
      · exact Nat.ne_of_gt int
      · exact Nat.ne_of_gt lnBA
      · exact Nat.ne_of_gt lD.2.2
      · exact Nat.ne_of_gt hna
      · exact Nat.ne_of_gt hnS
    have hD4 : ∀ p ∈ [I, BA, a, S, nt], p ≠ D := by
      intro p hp
      simp only [List.mem_cons, List.not_mem_nil, or_false] at hp
      rcases hp with rfl | rfl | rfl | rfl | rfl
      · exact Nat.ne_of_gt iD
      · exact Nat.ne_of_gt lDBA
      · exact Nat.ne_of_lt lD.1
      · exact Nat.ne_of_lt lD.2.1
      · exact Nat.ne_of_lt lD.2.2
    have hS4 : ∀ p ∈ [I, BA, D, a, nt], p ≠ S := by
      intro p hp
      simp only [List.mem_cons, List.not_mem_nil, or_false] at hp
      rcases hp with rfl | rfl | rfl | rfl | rfl
      · exact Nat.ne_of_gt iS
      · exact Nat.ne_of_gt lSBA
      · exact Nat.ne_of_gt lD.2.1
      · exact Nat.ne_of_lt hSlt
      · exact Nat.ne_of_lt hnS
    refine loop_cut (fun k n s₀ s₃ => ∃ i seen m so oI oS on, k = rs.length - i ∧ i ≤ rs.length ∧ n = (nubK κ seen (rs.drop i)).length ∧ n ≤ (nubK κ [] rs).length ∧ (nubK κ [] rs).drop ((nubK κ [] rs).length - n) = nubK κ seen (rs.drop i) ∧ seen.length ≤ i ∧
      Fr h₀ s.heap.objs.size s₃.heap m ∧ m (Str.ofString "seen") = some (.ref D) ∧ m (Str.ofString "seen_add") = some (.ref BA) ∧ m (Str.ofString "key") = some (.ref C) ∧
      News h₀ s.heap.objs.size s₃.heap [(I, oI), (BA, SetM.boundOf "set.add" D), (D, so), (a, oa), (S, oS), (nt, on)] ∧ so.SetObjOf (PySem.strKind PySem.Challenge.rw_ij0158_01.row.prog w) (fun x => decide (x ∈ seen)) seen.length ∧ Heap.IsListIter s₃.heap I src i ∧ KS i s₃.heap ∧ SinceP S a s₀ s₃) (rs.length - 0) ?h0 ?step
    case h0 =>
      refine ⟨0, [], _, _, _, oS, on, rfl, Nat.zero_le _, rfl, Nat.le_refl _, by rw [Nat.sub_self]; rfl, Nat.le_refl _, FB, rfl, rfl, rfl, NB, hss, ?_, ?_, ?_⟩
      · exact ⟨_, (NB _ (.head _)).1, rfl, rfl⟩
      · exact hKS _ _ _ hk2 (fun b o e => FB.keep b o e) fun o e => (by rw [hlow nt hnt _ hon] at e; cases e; exact (NB _ (.tail _ (.tail _ (.tail _ (.tail _ (.tail _ (.head _))))))).1)
      · exact since_of (s₃ := s₂) (SinceP.refl _ _ _) hFSk FB.keep (Top.nolimit T) ⟨_, hoS, (NB _ (.tail _ (.tail _ (.tail _ (.tail _ (.head _)))))).1⟩ ⟨_, haS, (NB _ (.tail _ (.tail _ (.tail _ (.head _))))).1⟩
    case step =>
      intro k n s₀ s₃ IH hI
      obtain ⟨i, seen, m, so, oI, oS, on, rfl, hi, hn, hnN, hdrop, hsl, F₃, hm1, hm2, hm3, N₃, hso, hit, hks, hsince⟩ := hI
      refine seg_turn ?_
      obtain ⟨dp', un', gd', fr', hdp, e⟩ := over_for dp (un+1+1+1) gd fr _ _ _ _ _ _ _ p
      rw [e]
      by_cases hlt : i < rs.length
      · obtain ⟨r, t, hx, hr⟩ := strs_at hitems hlt
        refine wpAny_pyNext_list_item hit (list_keeps hsrc F₃.keep) hx fun h' hit' hs' => ?_
        dsimp only
        refine wpAny_of_eq (a := ()) rfl ?_
        obtain ⟨oI', hoI', hcI', hdI'⟩ := id hit'
        have NI := N₃ _ (.head _)
        have hIlt : ∀ p ∈ [(BA, SetM.boundOf "set.add" D), (D, so), (a, oa), (S, oS), (nt, on)], p.1 ≠ I := fun p hp => hI4 _ (by have := List.mem_map_of_mem (f := Prod.fst) hp; exact this)
        obtain ⟨F₄, N₄⟩ := news_step (ds := [I]) (news' := [(I, oI'), (BA, SetM.boundOf "set.add" D), (D, so), (a, oa), (S, oS), (nt, on)]) F₃ N₃ (fun b o hb e => hs'.extBut b o (fun q => hb (by rw [q]; exact .head _)) e) (fun d hd => by rw [List.mem_singleton.mp hd]; exact NI.2) (fun p hp => by
          rcases List.mem_cons.mp hp with rfl | hp
          · exact .inr ⟨hoI', NI.2⟩
          · exact .inl ⟨.tail _ hp, fun q => hIlt p hp (List.mem_singleton.mp q)⟩)
        have hnt4 : h'.get? nt = some on := (N₄ _ (.tail _ (.tail _ (.tail _ (.tail _ (.tail _ (.head _))))))).1
        have hS3 := (N₃ _ (.tail _ (.tail _ (.tail _ (.tail _ (.head _)))))).1
        have ha3 := (N₃ _ (.tail _ (.tail _ (.tail _ (.head _))))).1
        have hk3 := F₃.keep
        have hrd : rs.drop i = r :: rs.drop (i + 1) := by rw [List.drop_eq_getElem_cons hlt]; congr 1; exact (List.getElem?_eq_some_iff.mp hr).2
        have hks₄ : KS i h' := hKS _ _ _ hks (fun b o e => F₄.keep b o e) fun o e => hs'.extBut _ _ (hI4 _ (by simp)) e
        clear F₃ N₃ hit hit' hs'
        replace F₄ := fr_know (x := Str.ofString "key") (v := .ref C) (fr_know (x := Str.ofString "seen_add") (v := .ref BA) (fr_know (x := Str.ofString "seen") (v := .ref D) F₄ hm1) hm2) hm3
        k_steps
        clear e hdp dp' un' gd' fr'
        rename Fr _ _ _ _ => FA
        rename News _ _ _ _ => NA
        refine seg_leafs ?_
        obtain ⟨dp', un', gd', fr', hdp, e⟩ := over_for dp (un+1+1+1) gd fr _ _ _ _ _ _ _ p
        rw [e]
        rename_i hF
        have hks₅ : KS i hF := hKS _ _ _ hks₄ (fun b o e => FA.keep b o e) fun o e => (by rw [hnt4] at e; cases e; exact (NA _ (.tail _ (.tail _ (.tail _ (.tail _ (.tail _ (.head _))))))).1)
        k_steps
        refine hkey i r t _ _ _ _ _ _ _ hr (by omega) (hKS _ _ _ hks₅ (fun b o e => FA.keep b o e) fun o e => (by exact e)) FA.keep (fun h' tk t' hk6 hkk => ?_)
        obtain ⟨on', hon'⟩ := hKN _ _ hk6
        have Nnt := NA _ (.tail _ (.tail _ (.tail _ (.tail _ (.tail _ (.head _))))))
        obtain ⟨F₄, N₄⟩ := news_step (ds := [nt]) (news' := [(I, oI'), (BA, SetM.boundOf "set.add" D), (D, so), (a, oa), (S, oS), (nt, on')]) FA NA (fun b o hb e => hkk b o (fun q => hb (by rw [q]; exact .head _)) e) (fun d hd => by rw [List.mem_singleton.mp hd]; exact Nnt.2) (fun p hp => by
          have hp' : p ∈ [(I, oI'), (BA, SetM.boundOf "set.add" D), (D, so), (a, oa), (S, oS)] ++ [(nt, on')] := hp
          rcases List.mem_append.mp hp' with hp | hp
          · exact .inl ⟨List.mem_append.mpr (.inl hp) |> fun x => (x : p ∈ [(I, oI'), (BA, SetM.boundOf "set.add" D), (D, so), (a, oa), (S, oS)] ++ [(nt, on)]), fun q => hn4 p.1 (by have := List.mem_map_of_mem (f := Prod.fst) hp; exact this) (List.mem_singleton.mp q)⟩
          · rw [List.mem_singleton.mp hp]; exact .inr ⟨hon', Nnt.2⟩)
        clear FA NA hks hks₄ hks₅
        k_steps
        clear e hdp dp' un' gd' fr'
        rename Fr _ _ _ _ => FA
        rename News _ _ _ _ => NA
        refine seg_Ifs ?_
        obtain ⟨dp', un', gd', fr', hdp, e⟩ := over_for dp (un+1+1+1) gd fr _ _ _ _ _ _ _ p
        rw [e]
        k_steps
        have hsb : seen.length + 1 < scanBound := by
          have : 1000 ≤ scanBound := by decide
          omega
        refine wpAny_notInSet_of (knd := PySem.strKind PySem.Challenge.rw_ij0158_01.row.prog w) (k := κ r) (S := fun x => decide (x ∈ seen)) (n := seen.length) (by simp [PySem.strKind, Value.isStrOf]) rfl (hso.setOf (NA _ (.tail _ (.tail _ (.head _)))).1 (by omega)) ?_
        by_cases hin : κ r ∈ seen
        · simp only [hin, decide_true, Bool.not_true]
          k_steps
          refine seg_again rfl (IH (rs.length - (i + 1)) n _ _ (by omega) ⟨i + 1, seen, _, so, oI', oS, on', rfl, hlt, ?_, hnN, ?_, Nat.le_succ_of_le hsl, FA, rfl, rfl, rfl, NA, hso, ⟨oI', (NA _ (.head _)).1, hcI', hdI'⟩, ?_, ?_⟩)
          · rw [hn, hrd]; simp only [nubK, hin, if_true]
          · rw [hdrop, hrd]; simp only [nubK, hin, if_true]
          · exact hKS _ _ _ hk6 (fun b o e => FA.keep b o e) fun o e => (by rw [hon'] at e; cases e; exact (NA _ (.tail _ (.tail _ (.tail _ (.tail _ (.tail _ (.head _))))))).1)
          · exact since_of hsince hk3 FA.keep (Top.nolimit T) ⟨_, hS3, (NA _ (.tail _ (.tail _ (.tail _ (.tail _ (.head _)))))).1⟩ ⟨_, ha3, (NA _ (.tail _ (.tail _ (.tail _ (.head _))))).1⟩
        · simp only [hin, decide_false, Bool.not_false]
          k_steps
          clear e hdp dp' un' gd' fr'
          refine seg_leafs ?_
          obtain ⟨dp', un', gd', fr', hdp, e⟩ := over_for dp (un+1+1+1) gd fr _ _ _ _ _ _ _ p
          rw [e]
          k_steps
          refine SetM.callWith_bound1 (id := "set.add") (b := D) ?_
          k_steps
          · exact (NA _ (.tail _ (.head _))).1
          refine SetM.call_bound_add (knd := PySem.strKind PySem.Challenge.rw_ij0158_01.row.prog w) (k := κ r) (S := fun x => decide (x ∈ seen)) (n := seen.length) (NA _ (.tail _ (.head _))).1 (by simp [PySem.strKind, Value.isStrOf]) rfl (hso.setOf (NA _ (.tail _ (.tail _ (.head _)))).1 (by omega)) (by omega) fun h6 hs6 hset => ?_
          obtain ⟨so', hso', hsoo⟩ := hset.objOf
          have ND := NA _ (.tail _ (.tail _ (.head _)))
          obtain ⟨F₆, N₆⟩ := news_step (ds := [D]) (news' := [(I, oI'), (BA, SetM.boundOf "set.add" D), (D, so'), (a, oa), (S, oS), (nt, on')]) FA NA (fun b o hb e => hs6.extBut b o (fun q => hb (by rw [q]; exact .head _)) e) (fun d hd => by rw [List.mem_singleton.mp hd]; exact ND.2) (fun p hp => by
            rcases List.mem_cons.mp hp with rfl | hp
            · exact .inl ⟨.head _, fun q => hD4 I (by simp) (List.mem_singleton.mp q)⟩
            rcases List.mem_cons.mp hp with rfl | hp
            · exact .inl ⟨.tail _ (.head _), fun q => hD4 BA (by simp) (List.mem_singleton.mp q)⟩
            rcases List.mem_cons.mp hp with rfl | hp
            · exact .inr ⟨hso', ND.2⟩
            · exact .inl ⟨.tail _ (.tail _ (.tail _ hp)), fun q => hD4 p.1 (by have := List.mem_map_of_mem (f := Prod.fst) hp; exact .tail _ (.tail _ this)) (List.mem_singleton.mp q)⟩)
          clear FA NA
          k_steps
          · exact trivial
          clear e hdp dp' un' gd' fr'
          rename Fr _ _ _ _ => FA
          rename News _ _ _ _ => NA
          have hnub : nubK κ seen (rs.drop i) = r :: nubK κ (κ r :: seen) (rs.drop (i + 1)) := by rw [hrd]; simp only [nubK, hin, if_false]
          obtain ⟨n', rfl⟩ : ∃ n', n = n' + 1 := ⟨_, by rw [hn, hnub]; rfl⟩
          refine seg_execs_cons ?_
          refine seg_Expr_Yield (hco := ?_) (hi := ?_) rfl rfl rfl ?_
          rotate_left
          · rfl
          · rfl
          obtain ⟨dp', un', gd', fr', hdp, e⟩ := over_for dp (un+1+1+1) gd fr _ _ _ _ _ _ _ p
          rw [e]
          k_steps
          rename_i kap hkap
          have hNd : (nubK κ [] rs)[(nubK κ [] rs).length - (n' + 1)]? = some r := by
            have q := congrArg (fun l => l[0]?) hdrop
            simp only [List.getElem?_drop, hnub, List.getElem?_cons_zero, Nat.add_zero] at q
            exact q
          have hnt6 := (NA _ (.tail _ (.tail _ (.tail _ (.tail _ (.tail _ (.head _))))))).1
          refine ⟨⟨t, r, rfl, by rw [show (nubK κ [] rs).length - 1 - n' = (nubK κ [] rs).length - (n' + 1) by omega]; exact hNd⟩, since_of (s₃ := s₃) hsince hk3 FA.keep (Top.nolimit T) ⟨_, hS3, (NA _ (.tail _ (.tail _ (.tail _ (.tail _ (.head _)))))).1⟩ ⟨_, ha3, (NA _ (.tail _ (.tail _ (.tail _ (.head _))))).1⟩, fun s'' hal'' hS'' => hkap .none s'' ?_⟩
          obtain ⟨oS'', hoS''⟩ := hS''
          replace hal'' : ∀ b o, b ≠ S → h6.get? b = some o → s''.heap.get? b = some o := hal''
          have NS' := NA _ (.tail _ (.tail _ (.tail _ (.tail _ (.head _)))))
          obtain ⟨F₇, N₇⟩ := news_step (ds := [S]) (news' := [(I, oI'), (BA, SetM.boundOf "set.add" D), (D, so'), (a, oa), (S, oS''), (nt, on')]) FA NA (fun b o hb e => hal'' b o (fun q => hb (by rw [q]; exact .head _)) e) (fun d hd => by rw [List.mem_singleton.mp hd]; exact NS'.2) (fun p hp => by
            rcases List.mem_cons.mp hp with rfl | hp
            · exact .inl ⟨.head _, fun q => hS4 I (by simp) (List.mem_singleton.mp q)⟩
            rcases List.mem_cons.mp hp with rfl | hp
            · exact .inl ⟨.tail _ (.head _), fun q => hS4 BA (by simp) (List.mem_singleton.mp q)⟩
            rcases List.mem_cons.mp hp with rfl | hp
            · exact .inl ⟨.tail _ (.tail _ (.head _)), fun q => hS4 D (by simp) (List.mem_singleton.mp q)⟩
            rcases List.mem_cons.mp hp with rfl | hp
            · exact .inl ⟨.tail _ (.tail _ (.tail _ (.head _))), fun q => hS4 a (by simp) (List.mem_singleton.mp q)⟩
            rcases List.mem_cons.mp hp with rfl | hp
            · exact .inr ⟨hoS'', NS'.2⟩
            · rw [List.mem_singleton.mp hp]
              exact .inl ⟨.tail _ (.tail _ (.tail _ (.tail _ (.tail _ (.head _))))), fun q => hS4 nt (by simp) (List.mem_singleton.mp q)⟩)
          refine seg_again rfl (IH (rs.length - (i + 1)) n' _ _ (by omega) ⟨i + 1, κ r :: seen, _, so', oI', oS'', on', rfl, hlt, ?_, Nat.le_of_succ_le hnN, ?_, Nat.succ_le_succ hsl, F₇, rfl, rfl, rfl, N₇, ?_, ⟨oI', (N₇ _ (.head _)).1, hcI', hdI'⟩, ?_, SinceP.refl _ _ _⟩)
          · have q := hn; rw [hnub, List.length_cons] at q; omega
          · have q := congrArg List.tail hdrop
            rw [hnub, List.tail_cons, List.tail_drop] at q
            rw [← q]; congr 1; omega
          · have e1 : (fun x => decide (x ∈ κ r :: seen)) = fun k' => decide (k' ∈ seen) || decide (k' = κ r) := by
              funext x
              simp only [List.mem_cons]
              rw [Bool.eq_iff_iff]
              simp [or_comm]
            rw [e1, List.length_cons]
            simpa [hin] using hsoo
          · exact hKS _ _ _ hk6 (fun b o e => F₇.keep b o e) fun o e => (by rw [hon'] at e; cases e; exact (N₇ _ (.tail _ (.tail _ (.tail _ (.tail _ (.tail _ (.head _))))))).1)
      · have hin : i = rs.length := Nat.le_antisymm hi (Nat.le_of_not_lt hlt)
        have hisz : items.size = rs.length := by rw [← Array.length_toList]; exact hitems.length
        refine wpAny_pyNext_list_end rfl hit (list_keeps hsrc F₃.keep) (by rw [hin, ← hisz]; simp) (fun h' hx' => ?_)
        dsimp only
        have NI := N₃ _ (.head _)
        refine seg_blockNil (seg_leaf (.ok .next) ?_)
        have hk' : ∀ b o, h₀.get? b = some o → h'.get? b = some o := fun b o e => hx' b o (fun q => by rw [q] at e; exact absurd (NI.2.2.symm.trans e) (by simp)) (F₃.keep b o e)
        refine seg_end (.ok (.ret .none)) ⟨rfl, ?_, ?_, hk', ?_⟩
        · rw [hn, hin, List.drop_length]; rfl
        · exact since_of (tk := s₃.toks) hsince F₃.keep hk' (Top.nolimit T) ⟨oS, (N₃ _ (.tail _ (.tail _ (.tail _ (.tail _ (.head _)))))).1, hx' _ _ (hI4 _ (by simp)) (N₃ _ (.tail _ (.tail _ (.tail _ (.tail _ (.head _)))))).1⟩ ⟨oa, (N₃ _ (.tail _ (.tail _ (.tail _ (.head _))))).1, hx' _ _ (hI4 _ (by simp)) (N₃ _ (.tail _ (.tail _ (.tail _ (.head _))))).1⟩
        · exact hin ▸ hKS _ _ _ hks hk' fun o e => hx' _ _ (hI4 _ (by simp)) e
end Mine
end PartUeKey

section PartFfA
open PySem PySem.W PyProof.Rows PySem.Calls
set_option maxRecDepth 100000
namespace Mine
theorem enterC {prog : Program} {w : World} {A : Around} {s : Shared} {K : Frag} {name qual : PySem.Str} {params : Arguments} {body : List Stmt} {scope : Scope} {dV kV doc pm cdv ct oc : Value} {an od : Option Addr} {osl : Array (Option Value)} {f : Addr} {args : List Value} {kw : List (PySem.Str × Value)} {binds : List (PySem.Str × Value)} {R : Result → Shared → Prop}
    (X : K.In s.heap) (hlim : s.heap.NoLimit) (ho : K.lookup f = some ⟨oc, od, .func (fnOf name qual params body scope dV kV doc pm an cdv ct), osl⟩) (hcd : codeIn K cdv qual = true) (hroom : A.depth < recursionLimit)
    (hbind : BindsTo s (fnOf name qual params body scope dV kV doc pm an cdv ct) ⟨args, kw⟩ binds) (hloc : ∀ y ∈ binds, scope.names.lookup y.1 = some .local)
    (h : ∀ h₁, Fr s.heap s.heap.objs.size h₁ (fun y => binds.reverse.lookup y) →
      wpAny (model prog w) (A.deeper (envOf qual scope s.heap.objs.size f cdv)) (execs body (envOf qual scope s.heap.objs.size f cdv))
        (fun fl s' => R (.ok (.ret (match fl with | .ret v => v | _ => .none))) s')
        (fun e s' => wpAny (model prog w) (A.deeper (envOf qual scope s.heap.objs.size f cdv)) (leaving (envOf qual scope s.heap.objs.size f cdv) e) (fun _ s'' => R (.error e) s'') (fun e' s'' => R (.error e') s'') s')
        { s with heap := h₁, toks := s.toks + binds.length })
    (hco : scope.isCoroutine = false) (hgen : scope.isGenerator = false) (hk : scope.kind = .function)
    (hcell : ∀ x ∈ scope.names, x.2 ≠ .cell) : codeAny (model prog w) A (.call (.ref f) ⟨args, kw⟩) R s :=
  codeAny_call_def (fd := fnOf name qual params body scope dV kV doc pm an cdv ct) (body := body) (binds := binds) hroom (X _ _ ho) rfl hlim (codeRec_of X hcd) rfl hbind hcell hloc (fun h₁ hns hk₁ => h h₁ ⟨hns, hk₁, Nat.le_refl _⟩) hco hgen hk
theorem fr_hide {h₁ h : Heap} {L : Addr} {m : PySem.Str → Option Value} (F : Fr h₁ L h m) (as : List Addr) : Fr (hideAll h₁ as) L h m := ⟨F.ns, fun b o e => F.keep b o (of_hideAll _ e), Nat.le_trans (Nat.le_of_eq (hideAll_size _ _)) F.above⟩
def WNext (I : Nat → Shared → Prop) (n : Nat) (s : Shared) : Prop := ∃ m, m < n ∧ I m s
theorem while_inv {prog : Program} {w : World} {A : Around} {R : Result → Shared → Prop} {s : Shared} {test : PySem.Expr} {body orelse : List Stmt} {env : Env} (I : Nat → Shared → Prop)
    (turn : ∀ n s, I n s →
      wpAny (model prog w) A (isTrue test env (eval test env)) (fun b s₂ =>
        if b then wpAny (model prog w) A (execs body env) (fun f s₃ => match f with
            | .next | .cont => WNext I n s₃
            | .brk => R (.ok .next) s₃
            | .ret v => R (.ok (.ret v)) s₃) (notedBy (model prog w) A env fun e s' => R (.error e) s') s₂
        else wpAny (model prog w) A (execs orelse env) (fun f s₃ => R (.ok f) s₃) (notedBy (model prog w) A env fun e s' => R (.error e) s') s₂)
        (notedBy (model prog w) A env fun e s' => R (.error e) s') s)
    (n : Nat) (h : I n s) : codeAny (model prog w) A (.whileLoop test body orelse env) R s := codeAny_whileLoop I turn n h
section
variable {prog : Program} {w : World} {A : Around} {E : Value → Shared → Prop} {s : Shared}
theorem iter_list {l : Addr} {items : Array Value} {Q : Value → Shared → Prop} (hl : s.heap.IsList l items)
    (hQ : Q (.ref s.heap.objs.size) { s with heap := s.heap.push { cls := .type "list_iterator", data := .fields #[.ref l, .int 0 0] } }) :
    wpAny (model prog w) A (call (.builtin "iter") [.ref l]) Q E s := by
  refine call_function_entry (by decide +kernel) (by decide +kernel) kdk_entry_iter (kdk_args_iter _) ?_
  unfold Builtin.«iter»
  refine wpAny_bind (m := someArgs "iter" 1 2 _) (wpAny_of_eq (a := [Value.ref l]) (by first | rfl | kernel_rfl) ?_)
  show wpAny _ _ (pyIter (.ref l) >>= _) _ _ _
  exact wpAny_bind (wpAny_pyIter_list hl (wpAny_pure ⟨_, rfl, hQ⟩))
theorem next_list {it l : Addr} {i : Nat} {items : Array Value} {x : Value} {Q : Value → Shared → Prop} (hit : s.heap.IsListIter it l i)
    (hl : s.heap.IsList l items) (hx : items[i]? = some x) (hQ : ∀ h', h'.IsListIter it l (i + 1) → Heap.SameBut it s.heap h' → Q x { s with heap := h' }) :
    wpAny (model prog w) A (call (.builtin "next") [.ref it]) Q E s := by
  refine call_function_entry (by decide +kernel) (by decide +kernel) kdk_entry_next (kdk_args_next _) ?_
  unfold Builtin.«next»
  refine wpAny_bind (m := someArgs "next" 1 2 _) (wpAny_of_eq (a := [Value.ref it]) (by first | rfl | kernel_rfl) ?_)
  dsimp only
  refine wpAny_bind (wpAny_specialOf (name := Str.ofString "__next__") hit.typeIs slot_listiter_next.lookup ?_)
  refine wpAny_ite_split (fun hab => absurd hab (by decide)) (fun _ => ?_)
  obtain ⟨o, ho, hc, hd⟩ := id hit
  obtain ⟨ol, hol, _, nl, hdl⟩ := hl
  refine wpAny_bind (wpAny_callSpecial?_slot (name := Str.ofString "__next__") hit.typeIs slot_listiter_next
    (wpAny_call_entry slot_listiter_next hit.typeIs entry_listiter_next ?_ (args_listiter_next _)))
  show wpAny _ _ (field (.ref it) 0 >>= _) _ _ s
  refine wpAny_bind (wpAny_field ho hd (x := .ref l) rfl ?_)
  show wpAny _ _ (if (Value.ref l == Value.none) = true then _ else _) _ _ s
  rw [if_neg (show ¬ ((Value.ref l == Value.none) = true) from Bool.false_ne_true)]
  show wpAny _ _ (field (.ref it) 1 >>= _) _ _ s
  refine wpAny_bind (wpAny_field ho hd (x := .int i 0) rfl ?_)
  show wpAny _ _ (seqItems? (.ref l) >>= _) _ _ s
  refine wpAny_bind (wpAny_seqItems hol hdl ?_)
  simp only [Int.toNat_natCast, hx]
  refine wpAny_bind (wpAny_setField ho hd (by simp) (wpAny_pure ⟨x, rfl, wpAny_pure ⟨_, rfl, hQ _ ?_ (Heap.SameBut.update ..)⟩⟩))
  exact ⟨_, Heap.get?_update_self _ ho (Obj.isFreed_of_fields (Obj.data_mapFields hd _)), (Obj.cls_mapFields ..).trans hc, by
    rw [Obj.data_mapFields hd]; simp [rawInt]⟩
theorem next_list_end {it l : Addr} {i : Nat} {items : Array Value} {Q : Value → Shared → Prop} (hh : A.handled = none) (hit : s.heap.IsListIter it l i)
    (hl : s.heap.IsList l items) (hx : items[i]? = none) (hE : ∀ h₁ h' e, Heap.SameBut it s.heap h₁ → Heap.MadeExcOf h₁ h' e (.type "StopIteration") [] → E (.ref e) { s with heap := h' }) :
    wpAny (model prog w) A (call (.builtin "next") [.ref it]) Q E s := by
  refine call_function_entry (by decide +kernel) (by decide +kernel) kdk_entry_next (kdk_args_next _) ?_
  unfold Builtin.«next»
  refine wpAny_bind (m := someArgs "next" 1 2 _) (wpAny_of_eq (a := [Value.ref it]) (by first | rfl | kernel_rfl) ?_)
  dsimp only
  refine wpAny_bind (wpAny_specialOf (name := Str.ofString "__next__") hit.typeIs slot_listiter_next.lookup ?_)
  refine wpAny_ite_split (fun hab => absurd hab (by decide)) (fun _ => ?_)
  obtain ⟨o, ho, hc, hd⟩ := id hit
  obtain ⟨ol, hol, _, nl, hdl⟩ := hl
  refine wpAny_bind (wpAny_callSpecial?_slot (name := Str.ofString "__next__") hit.typeIs slot_listiter_next
    (wpAny_call_entry slot_listiter_next hit.typeIs entry_listiter_next ?_ (args_listiter_next _)))
  show wpAny _ _ (field (.ref it) 0 >>= _) _ _ s
  refine wpAny_bind (wpAny_field ho hd (x := .ref l) rfl ?_)
  show wpAny _ _ (if (Value.ref l == Value.none) = true then _ else _) _ _ s
  rw [if_neg (show ¬ ((Value.ref l == Value.none) = true) from Bool.false_ne_true)]
  show wpAny _ _ (field (.ref it) 1 >>= _) _ _ s
  refine wpAny_bind (wpAny_field ho hd (x := .int i 0) rfl ?_)
  show wpAny _ _ (seqItems? (.ref l) >>= _) _ _ s
  refine wpAny_bind (wpAny_seqItems hol hdl ?_)
  simp only [Int.toNat_natCast, hx]
  refine wpAny_bind (wpAny_rule (wpAny_bind (wpAny_setField ho hd (by simp) ?_)))
  show wpAny _ _ (newExc (.type "StopIteration") [] >>= _) _ _ _
  refine wpAny_bind ?_
  simp only [newExc, newTuple]
  refine wpAny_bind (wpAny_newObj_type ?_ (by size_fits))
  refine wpAny_bind (m := firstArgMember _ _) (wpAny_of_eq (a := Value.none) (by first | rfl | (simp only [firstArgMember]; rfl)) ?_)
  refine wpAny_newObj_type ?_ (by size_fits)
  simp only [raiseNew]
  refine wpAny_bind (wpAny_handled ?_)
  first | rw [show A.in1.handled = none from hh] | (dsimp only [Around.in1]; rw [hh])
  refine wpAny_bind (wpAny_pure (wpAny_throw ?_))
  have hn : ∀ (h : Heap) b, h.objs.size ≤ b → h.get? b = none := fun h b hb => by
    cases q : h.get? b with
    | none => rfl
    | some o => exact absurd (Heap.lt_size q) (Nat.not_lt.mpr hb)
  refine hE (s.heap.update it (Obj.mapFields fun x => x.setIfInBounds 0 .none)) _ _ (Heap.SameBut.update ..) ⟨fun b o e => Heap.get?_push_of_some _ (Heap.get?_push_of_some _ e), hn _ _ (by rw [Heap.size_push]; exact Nat.le_succ _), _, Heap.get?_push_size _ rfl, hn _ _ (Nat.le_refl _), Heap.get?_push_of_some _ (Heap.get?_push_size _ rfl)⟩
end
end Mine
end PartFfA

section PartFfInit
open PySem PySem.W PyProof.Rows PySem.Calls
set_option maxRecDepth 100000
namespace Mine
local macro_rules | `(tactic| k_room) => `(tactic| ktr_room)
set_option maxRecDepth 100000 in
set_option maxHeartbeats 4000000 in
theorem ff_init {w : World} {mean : ExcName → Option Value} {mg mb : PySem.Str → Option Value} {s : Shared} {dp un : Nat} {gd : Option (List Code)} {fr : Option (List Env)} {h₀ : Heap}
    {src x dx BC : Addr} {items : Array Value} {R : Result → Shared → Prop} :
    (Mine.hd.heap_39 w.params).In h₀ → Top topProg looseL mean mg mb h₀ → dp < 500 →
    (∀ b o, h₀.get? b = some o → s.heap.get? b = some o) → h₀.get? x = none → h₀.get? dx = none → @LT.lt Nat instLTNat dx x →
    s.heap.get? x = some (instObj 94 dx) → s.heap.get? dx = some (dictOf [] 0) → h₀.IsList src items →
    (∀ h' I tk ox, (∀ b o, b ≠ x → b ≠ dx → s.heap.get? b = some o → h'.get? b = some o) → h'.get? x = some ox → h'.get? dx = some (dictOf [] 0) → ox = { instObj 94 dx with slots := #[some (.ref BC), some (.ref I)] } → h'.get? I = some { cls := .type "list_iterator", data := .fields #[.ref src, .int 0 0] } → s.heap.objs.size ≤ I → R (.ok (.ret .none)) { s with heap := h', toks := tk }) →
    codeAny (model PySem.Challenge.rw_ij0158_01.row.prog w) { handled := none, depth := dp, frames := fr, guards := gd, units := un } (.call (.ref 76) ⟨[.ref x, .ref BC, .ref src], []⟩) R s := by
  w_top off
  k_fill
  intro X T hd hsub hx0 hdx0 hxd hx hdx hsrc hR
  have Xs : (Mine.hd.heap_39 w.params).In s.heap := X.keeps hsub
  have lim : s.heap.NoLimit := (Top.nolimit T).keeps hsub
  k_dflt (refine' enterC ?k1 ?k5 ?k6 ?k7 ?k8 ?k9 ?kB ?_ ?c2 ?c3 ?c4 ?c5; (case k1 => k_asm); (case k5 => k_asm); (case k6 => k_is); (case k7 => k_is); (case k8 => ktr_room); (case k9 => first | exact BindsTo.of_eq rfl | exact binds_K (by k_asm) rfl (by k_is) rfl rfl rfl); (case c5 => decide); (case kB => exact locs rfl); (case c2 => exact rfl); (case c3 => exact rfl); (case c4 => exact rfl); (try dsimp only))
  intro h₁ F₁
  have hsub2 : ∀ b o, h₀.get? b = some o → (hideAll s.heap [x, dx]).get? b = some o := fun b o e => hideAll_get _ (hsub b o e) (fun hm => by
    rcases List.mem_cons.mp hm with q | q
    · rw [q, hx0] at e; cases e
    · rw [List.mem_singleton.mp q, hdx0] at e; cases e)
  have X₂ : (Mine.hd.heap_39 w.params).In (hideAll s.heap [x, dx]) := X.keeps hsub2
  have T₂ : Top topProg looseL mean mg mb (hideAll s.heap [x, dx]) := T.keeps hsub2
  have F₂ := fr_hide F₁ [x, dx]
  have hL : ∀ b, b < s.heap.objs.size → b ≠ s.heap.objs.size := fun b hb => Nat.ne_of_lt hb
  have N₂ : News (hideAll s.heap [x, dx]) s.heap.objs.size h₁ [(x, instObj 94 dx), (dx, dictOf [] 0)] := fun p hp => by
    rcases List.mem_cons.mp hp with rfl | hp
    · exact ⟨F₁.keep _ _ hx, Nat.ne_of_lt (Heap.lt_size hx), hideAll_none _ (.head _)⟩
    · rw [List.mem_singleton.mp hp]; exact ⟨F₁.keep _ _ hdx, Nat.ne_of_lt (Heap.lt_size hdx), hideAll_none _ (.tail _ (.head _))⟩
  have nx : @LT.lt Nat instLTNat x s.heap.objs.size := Heap.lt_size hx
  have ndx : @LT.lt Nat instLTNat dx s.heap.objs.size := Heap.lt_size hdx
  have hsrc₂ : (hideAll s.heap [x, dx]).IsList src items := list_keeps hsrc hsub2
  have hLsz : @LE.le Nat instLENat s.heap.objs.size s.heap.objs.size := Nat.le_refl _
  generalize hgg : hideAll s.heap [x, dx] = g at *
  generalize hLL : s.heap.objs.size = L at *
  clear F₁ hsrc hsub hsub2 X T
  k_steps
  rename Fr _ _ _ _ => FA
  rename News _ _ _ _ => NA
  refine iter_list (list_keeps hsrc₂ FA.keep) ?_
  have FB := FA.push (o := { cls := .type "list_iterator", data := .fields #[.ref src, .int 0 0] })
  have NB := NA.push FA { cls := .type "list_iterator", data := .fields #[.ref src, .int 0 0] }
  have hLI : L ≤ h₁.objs.size := by
    obtain ⟨_, _, _, q, _⟩ := FA.ns
    exact Nat.le_of_lt (Heap.lt_size q)
  have nxI : @LT.lt Nat instLTNat x h₁.objs.size := Heap.lt_size (NA _ (.head _)).1
  have ndI : @LT.lt Nat instLTNat dx h₁.objs.size := Heap.lt_size (NA _ (.tail _ (.head _))).1
  clear FA NA
  generalize hII : h₁.objs.size = I at *
  k_steps
  rename Fr _ _ _ _ => FA
  rename News _ _ _ _ => NA
  have hg : ∀ b o, b ≠ x → b ≠ dx → s.heap.get? b = some o → g.get? b = some o := fun b o q1 q2 e => by
    rw [← hgg]
    exact hideAll_get _ e (fun hm => by
      rcases List.mem_cons.mp hm with q | q
      · exact q1 q
      · exact q2 (List.mem_singleton.mp q))
  exact hR _ I _ _ (fun b o q1 q2 e => FA.keep b o (hg b o q1 q2 e)) (NA _ (.tail _ (.head _))).1 (NA _ (.tail _ (.tail _ (.head _)))).1 rfl (NA _ (.head _)).1 hLI
end Mine
end PartFfInit

section PartFfNext
open PySem PySem.W PyProof.Rows PySem.Calls
set_option maxRecDepth 100000
namespace Mine
local macro_rules | `(tactic| k_room) => `(tactic| ktr_room)
local macro_rules | `(tactic| walk_at "exec While") => `(tactic| (k_here; refine stop_intro ?_))
set_option maxRecDepth 100000 in
set_option maxHeartbeats 4000000 in
theorem ff_next {w : World} {mean : ExcName → Option Value} {mg mb : PySem.Str → Option Value} {s : Shared} {dp un : Nat} {gd : Option (List Code)} {outer : List Env} {h₀ bz : Heap}
    {src x dx BC D I i : Nat} {so : Obj} {seen : List PySem.Str} {items : Array Value} {rs : List PySem.Str} {R : Result → Shared → Prop} :
    (Mine.hd.heap_39 w.params).In h₀ → Top topProg looseL mean mg mb h₀ → dp < 500 →
    (∀ b o, h₀.get? b = some o → s.heap.get? b = some o) → h₀.get? x = none → h₀.get? dx = none → h₀.get? I = none → dx < x → x < I →
    s.heap.get? x = some ({ cls := .ref 94, dict := some dx, data := .plain, slots := #[some (.ref BC), some (.ref I)] } : Obj) → s.heap.get? dx = some (dictOf [] 0) → s.heap.IsListIter I src i → h₀.IsList src items → StrsAre items.toList rs →
    s.heap.get? BC = some (SetM.boundOf "set.__contains__" D) → s.heap.get? D = some so → so.SetObjOf (PySem.strKind PySem.Challenge.rw_ij0158_01.row.prog w) (fun x => decide (x ∈ seen)) seen.length → seen.length ≤ 64 → i ≤ rs.length → BC ≠ I → D ≠ I → D ≠ x → D ≠ dx → BC ≠ x → BC ≠ dx →
    s.heap.FunFrames bz outer →
    (∀ h' tk r t i', nubK id seen (rs.drop i) = r :: nubK id (r :: seen) (rs.drop i') → r ∉ seen → i < i' → i' ≤ rs.length → (∀ b o, b ≠ I → s.heap.get? b = some o → h'.get? b = some o) → h'.IsListIter I src i' → R (.ok (.ret (.str r t))) { s with heap := h', toks := tk }) →
    (∀ h' tk e, nubK id seen (rs.drop i) = [] → (∃ o, h'.get? e = some o ∧ o.cls = .type "StopIteration") → (∀ b o, b ≠ I → b ∉ outer.filterMap (·.frame) → s.heap.get? b = some o → h'.get? b = some o) → (∀ b ∈ outer.filterMap (·.frame), ∀ m, s.heap.Ns b m → h'.Ns b m) → R (.error (.ref e)) { s with heap := h', toks := tk }) →
    codeAny (model PySem.Challenge.rw_ij0158_01.row.prog w) { handled := none, depth := dp, frames := some outer, guards := gd, units := un } (.call (.ref 90) ⟨[.ref x], []⟩) R s := by
  w_top off
  k_fill
  intro X T hd hsub hx0 hdx0 hI0 hdxx hxI hx hdx hit hsrc hitems hBC hD hso hsl hi hBCI hDI hDx hDdx hBCx hBCdx hff hitem hend
  have Xs : (Mine.hd.heap_39 w.params).In s.heap := X.keeps hsub
  have lim : s.heap.NoLimit := (Top.nolimit T).keeps hsub
  obtain ⟨oI, hoI, hIc, hId⟩ := id hit
  k_dflt (refine' enterC ?k1 ?k5 ?k6 ?k7 ?k8 ?k9 ?kB ?_ ?c2 ?c3 ?c4 ?c5; (case k1 => k_asm); (case k5 => k_asm); (case k6 => k_is); (case k7 => k_is); (case k8 => ktr_room); (case k9 => first | exact BindsTo.of_eq rfl | exact binds_K (by k_asm) rfl (by k_is) rfl rfl rfl); (case c5 => decide); (case kB => exact locs rfl); (case c2 => exact rfl); (case c3 => exact rfl); (case c4 => exact rfl); (try dsimp only))
  intro h₁ F₁
  have hmem : ∀ b, b ≠ I → b ≠ x → b ≠ dx → b ∉ [I, x, dx] := fun b q1 q2 q3 hm => by
    simp only [List.mem_cons, List.not_mem_nil, or_false] at hm
    rcases hm with q | q | q
    · exact q1 q
    · exact q2 q
    · exact q3 q
  have hsub2 : ∀ b o, h₀.get? b = some o → (hideAll s.heap [I, x, dx]).get? b = some o := fun b o e => hideAll_get _ (hsub b o e) (hmem b (fun q => by rw [q, hI0] at e; cases e) (fun q => by rw [q, hx0] at e; cases e) (fun q => by rw [q, hdx0] at e; cases e))
  have X₂ : (Mine.hd.heap_39 w.params).In (hideAll s.heap [I, x, dx]) := X.keeps hsub2
  have T₂ : Top topProg looseL mean mg mb (hideAll s.heap [I, x, dx]) := T.keeps hsub2
  have F₂ := fr_hide F₁ [I, x, dx]
  have N₂ : News (hideAll s.heap [I, x, dx]) s.heap.objs.size h₁ [(I, oI), (x, { cls := .ref 94, dict := some dx, data := .plain, slots := #[some (.ref BC), some (.ref I)] }), (dx, dictOf [] 0)] := fun p hp => by
    rcases List.mem_cons.mp hp with rfl | hp
    · exact ⟨F₁.keep _ _ hoI, Nat.ne_of_lt (Heap.lt_size hoI), hideAll_none _ (.head _)⟩
    rcases List.mem_cons.mp hp with rfl | hp
    · exact ⟨F₁.keep _ _ hx, Nat.ne_of_lt (Heap.lt_size hx), hideAll_none _ (.tail _ (.head _))⟩
    · rw [List.mem_singleton.mp hp]; exact ⟨F₁.keep _ _ hdx, Nat.ne_of_lt (Heap.lt_size hdx), hideAll_none _ (.tail _ (.tail _ (.head _)))⟩
  have hsrc₂ : (hideAll s.heap [I, x, dx]).IsList src items := list_keeps hsrc hsub2
  have hBC₂ : (hideAll s.heap [I, x, dx]).get? BC = some (SetM.boundOf "set.__contains__" D) := hideAll_get _ hBC (hmem _ hBCI hBCx hBCdx)
  have hD₂ : (hideAll s.heap [I, x, dx]).get? D = some so := hideAll_get _ hD (hmem _ hDI hDx hDdx)
  have nI : I < s.heap.objs.size := Heap.lt_size hoI
  have hgg : ∀ b o, b ≠ I → b ≠ x → b ≠ dx → s.heap.get? b = some o → (hideAll s.heap [I, x, dx]).get? b = some o := fun b o q1 q2 q3 e => hideAll_get _ e (hmem b q1 q2 q3)
  generalize hideAll s.heap [I, x, dx] = g at *
  generalize hLL : s.heap.objs.size = L at *
  clear F₁ hsrc hsub2 X T hmem
  k_steps
  refine stop_out ?_
  rename Fr _ _ _ _ => FA
  rename News _ _ _ _ => NA
  refine wpAny_While (while_inv (fun n s' => ∃ j m h' tk oJ, s' = { s with heap := h', toks := tk } ∧ n = rs.length - j ∧ i ≤ j ∧ j ≤ rs.length ∧ nubK id seen (rs.drop i) = nubK id seen (rs.drop j) ∧ Fr g L h' m ∧ m (Str.ofString "self") = some (.ref x) ∧ m (Str.ofString "func") = some (.ref BC) ∧
    News g L h' [(I, oJ), (x, { cls := .ref 94, dict := some dx, data := .plain, slots := #[some (.ref BC), some (.ref I)] }), (dx, dictOf [] 0)] ∧ oJ.cls = .type "list_iterator" ∧ oJ.data = .fields #[.ref src, .int j 0]) ?turn (rs.length - i)
    ⟨i, _, _, _, oI, rfl, rfl, Nat.le_refl _, hi, rfl, FA, rfl, rfl, NA, hIc, hId⟩)
  case turn =>
    clear FA NA
    rintro n s' ⟨j, m, h', tk, oJ, rfl, rfl, hij, hj, hnub, FA, hm1, hm2, NA, hJc, hJd⟩
    replace FA := fr_know (x := Str.ofString "func") (v := .ref BC) (fr_know (x := Str.ofString "self") (v := .ref x) FA hm1) hm2
    k_steps
    rename Fr _ _ _ _ => FA
    rename News _ _ _ _ => NA
    have NI := NA _ (.head _)
    by_cases hlt : j < rs.length
    · obtain ⟨r, t, hx', hr⟩ := strs_at hitems hlt
      have hrd : rs.drop j = r :: rs.drop (j + 1) := by rw [List.drop_eq_getElem_cons hlt]; congr 1; exact (List.getElem?_eq_some_iff.mp hr).2
      refine next_list ⟨oJ, NI.1, hJc, hJd⟩ (list_keeps hsrc₂ FA.keep) hx' (fun h₂ hit₂ hs₂ => ?_)
      obtain ⟨oJ', hoJ', hJc', hJd'⟩ := id hit₂
      obtain ⟨FB, NB⟩ := news_step (ds := [I]) (news' := [(I, oJ'), (x, { cls := .ref 94, dict := some dx, data := .plain, slots := #[some (.ref BC), some (.ref I)] }), (dx, dictOf [] 0)]) FA NA (fun b o hb e => hs₂.extBut b o (fun q => hb (by rw [q]; exact .head _)) e) (fun d hd => by rw [List.mem_singleton.mp hd]; exact NI.2) (fun p hp => by
        rcases List.mem_cons.mp hp with rfl | hp
        · exact .inr ⟨hoJ', NI.2⟩
        rcases List.mem_cons.mp hp with rfl | hp
        · exact .inl ⟨.tail _ (.head _), fun q => Nat.ne_of_lt hxI (List.mem_singleton.mp q)⟩
        · rw [List.mem_singleton.mp hp]
          exact .inl ⟨.tail _ (.tail _ (.head _)), fun q => Nat.ne_of_lt (Nat.lt_trans hdxx hxI) (List.mem_singleton.mp q)⟩)
      clear FA NA
      k_steps
      refine SetM.callWith_bound1 (id := "set.__contains__") (b := D) ?_
      k_steps
      rename Fr _ _ _ _ => FA
      rename News _ _ _ _ => NA
      have hsb : seen.length < scanBound := by
        have : 1000 ≤ scanBound := by decide
        omega
      refine SetM.call_bound_con (a := D) (knd := PySem.strKind PySem.Challenge.rw_ij0158_01.row.prog w) (k := r) (S := fun x => decide (x ∈ seen)) (n := seen.length) (FA.keep _ _ hBC₂) (by simp [PySem.strKind, Value.isStrOf]) rfl (hso.setOf (FA.keep _ _ hD₂) hsb) ?_
      by_cases hin : r ∈ seen
      · simp only [hin, decide_true]
        k_steps
        rename Fr _ _ _ _ => FA
        rename News _ _ _ _ => NA
        refine ⟨rs.length - (j + 1), by omega, j + 1, _, _, _, oJ', rfl, rfl, Nat.le_succ_of_le hij, hlt, ?_, FA, rfl, rfl, NA, hJc', hJd'⟩
        rw [hnub, hrd]; simp only [nubK, hin, id, if_true]
      · simp only [hin, decide_false]
        k_steps
        rename Fr _ _ _ _ => FA
        rename News _ _ _ _ => NA
        dsimp only
        k_steps
        refine hitem _ _ r t (j + 1) ?_ hin (Nat.lt_succ_of_le hij) hlt (fun b o hb e => ?_) ⟨oJ', (NA _ (.head _)).1, hJc', hJd'⟩
        · rw [hnub, hrd]; simp only [nubK, hin, id, if_false]
        · by_cases q1 : b = x
          · subst q1; rw [hx] at e; cases e; exact (NA _ (.tail _ (.head _))).1
          by_cases q2 : b = dx
          · subst q2; rw [hdx] at e; cases e; exact (NA _ (.tail _ (.tail _ (.head _)))).1
          exact FA.keep b o (hgg b o hb q1 q2 e)
    · have hj' : j = rs.length := Nat.le_antisymm hj (Nat.le_of_not_lt hlt)
      refine next_list_end rfl ⟨oJ, NI.1, hJc, hJd⟩ (list_keeps hsrc₂ FA.keep) ?_ (fun h₂ h₃ e hs₂ hmade => ?_)
      · have : items.size = rs.length := by rw [← Array.length_toList]; exact hitems.length
        rw [hj', ← this]; simp
      have kk : ∀ b o, b ≠ I → s.heap.get? b = some o → h₂.get? b = some o := fun b o hb e => by
        refine hs₂.extBut b o hb ?_
        by_cases q1 : b = x
        · subst q1; rw [hx] at e; cases e; exact (NA _ (.tail _ (.head _))).1
        by_cases q2 : b = dx
        · subst q2; rw [hdx] at e; cases e; exact (NA _ (.tail _ (.tail _ (.head _)))).1
        exact FA.keep b o (hgg b o hb q1 q2 e)
      have hLI : L ≠ I := Nat.ne_of_gt nI
      have hfo : h₂.FunFrames bz outer := hff.of_keeps fun b o e hd => ⟨o, kk b o (fun q => by subst q; rw [hoI] at e; cases e; exact hd _ hId) e, rfl⟩
      refine PassesOwn.leaving _ _ ?_
      show wpAny _ _ (leaving _ (.ref e)) _ _ _
      refine wpAny_leaves_madeW (base := hideAll h₂ (L :: outer.filterMap (·.frame))) (h := h₂) rfl rfl (fun b o q => of_hideAll _ q) ⟨fun z => ScopeKind.noConfusion z, ?_, funFrames_hide hfo fun env henv a ha => .tail _ (List.mem_filterMap.mpr ⟨env, henv, ha⟩)⟩ hmade (fun h₄ t hfl _ _ hup => ?_)
      · obtain ⟨oL, es, ep, q1, q2, _⟩ := FA.ns
        exact ⟨L, oL, rfl, hideAll_none _ (.head _), hs₂.extBut _ _ hLI q1, fun vs => by rw [q2]; exact fun z => by cases z⟩
      obtain ⟨f1, f2, f3, oe, vs, T, oT, ts, he, ⟨hcls, h0⟩, _⟩ := hfl
      refine hend _ _ _ ?_ ⟨oe, he, hcls⟩ (fun b o hb hbl q => f1 b o (hideAll_get _ (kk b o hb q) (fun hm => ?_))) (fun b hb m hns => hup.ns ((hns.at' fun o q => kk b o ?_ q).keeps hmade.keeps))
      · rw [hnub, hj', List.drop_length]; rfl
      · rcases List.mem_cons.mp hm with q' | q'
        · rw [q', ← hLL] at q; exact Nat.lt_irrefl _ (Heap.lt_size q)
        · exact hbl q'
      · intro q
        obtain ⟨oL, es, ep, q1, q2, _⟩ := hns
        rw [q, hoI] at q1
        cases q1
        rw [hId] at q2
        cases q2
end Mine
end PartFfNext

section PartFfIter
open PySem PySem.W PyProof.Rows PySem.Calls
set_option maxRecDepth 100000
namespace Mine
local macro_rules | `(tactic| k_room) => `(tactic| ktr_room)
set_option maxRecDepth 100000 in
set_option maxHeartbeats 4000000 in
theorem ff_iter {w : World} {mean : ExcName → Option Value} {mg mb : PySem.Str → Option Value} {s : Shared} {dp un : Nat} {gd : Option (List Code)} {fr : Option (List Env)} {h₀ : Heap}
    {x : Addr} {R : Result → Shared → Prop} :
    (Mine.hd.heap_39 w.params).In h₀ → Top topProg looseL mean mg mb h₀ → dp < 500 →
    (∀ b o, h₀.get? b = some o → s.heap.get? b = some o) →
    (∀ h' tk, (∀ b o, s.heap.get? b = some o → h'.get? b = some o) → R (.ok (.ret (.ref x))) { s with heap := h', toks := tk }) →
    codeAny (model PySem.Challenge.rw_ij0158_01.row.prog w) { handled := none, depth := dp, frames := fr, guards := gd, units := un } (.call (.ref 83) ⟨[.ref x], []⟩) R s := by
  w_top off
  k_fill
  intro X T hd hsub hR
  have Xs : (Mine.hd.heap_39 w.params).In s.heap := X.keeps hsub
  have Ts : Top topProg looseL mean mg mb s.heap := T.keeps hsub
  have lim : s.heap.NoLimit := (Top.nolimit T).keeps hsub
  k_dflt (refine' enterC ?k1 ?k5 ?k6 ?k7 ?k8 ?k9 ?kB ?_ ?c2 ?c3 ?c4 ?c5; (case k1 => k_asm); (case k5 => k_asm); (case k6 => k_is); (case k7 => k_is); (case k8 => ktr_room); (case k9 => first | exact BindsTo.of_eq rfl | exact binds_K (by k_asm) rfl (by k_is) rfl rfl rfl); (case c5 => decide); (case kB => exact locs rfl); (case c2 => exact rfl); (case c3 => exact rfl); (case c4 => exact rfl); (try dsimp only))
  intro h₁ F₁
  have N₁ : News s.heap s.heap.objs.size h₁ [] := fun p hp => nomatch hp
  clear X T hsub
  k_steps
  exact hR _ _ (Fr.keep (by assumption))
theorem mem2 {env el : Env} {L l : Addr} (h1 : env.frame = some L) (h2 : el.frame = some l) : ∀ b ∈ [env, el].filterMap (·.frame), b = L ∨ b = l := by
  intro b hb
  simp only [List.filterMap_cons, h1, h2, List.filterMap_nil, List.mem_cons, List.not_mem_nil, or_false] at hb
  exact hb
theorem mem2' {env el : Env} {L l : Addr} (h1 : env.frame = some L) (h2 : el.frame = some l) : l ∈ [env, el].filterMap (·.frame) := by
  simp only [List.filterMap_cons, h1, h2, List.filterMap_nil, List.mem_cons, List.not_mem_nil, or_false, or_true]
theorem lt6 {I x dx BC BA D : Nat} (h1 : x < I) (h2 : dx < x) (h3 : BC < dx) (h4 : BA < BC) (h5 : D < BA) : BC ≠ I ∧ D ≠ I ∧ D ≠ x ∧ D ≠ dx ∧ BC ≠ x ∧ BC ≠ dx :=
  have a := Nat.lt_trans h3 h2
  have b := Nat.lt_trans a h1
  have c := Nat.lt_trans h5 h4
  ⟨Nat.ne_of_lt b, Nat.ne_of_lt (Nat.lt_trans c b), Nat.ne_of_lt (Nat.lt_trans c a), Nat.ne_of_lt (Nat.lt_trans c h3), Nat.ne_of_lt a, Nat.ne_of_lt h3⟩
theorem over_under (dp un : Nat) (gd : Option (List Code)) (fr : Option (List Env)) (C : Addr) (rest : List Value) : ∃ dp' un' gd', dp' ≤ dp + 2 ∧ ({ handled := none, depth := dp, frames := fr, guards := gd, units := un } : Around).under (.builtin "type.__call__" ⟨.ref C :: rest, []⟩) = { handled := none, depth := dp', frames := fr, guards := gd', units := un' } :=
  ⟨_, _, _, Nat.le_succ _, rfl⟩
theorem over_for2 (dp un : Nat) (gd : Option (List Code)) (fr : List Env) (b : List Stmt) (env : Env) (t : PySem.Expr) (it : Value) (lb lo : List Stmt) (k : Result → Sem PySem.Fin) (p : Pos) : ∃ dp' un' gd', dp' ≤ dp + 2 ∧ ({ handled := none, depth := dp, frames := some fr, guards := gd, units := un } : Around).over (.forLoop t it lb lo env) [.ret k none (id false) (id []) (.func b env) p []] = { handled := none, depth := dp', frames := some (env :: fr), guards := gd', units := un' } :=
  ⟨_, _, _, Nat.le_succ _, rfl⟩
end Mine
end PartFfIter

section PartUeNone
open PySem PySem.W PyProof.Rows PySem.Calls
set_option maxRecDepth 100000
namespace Mine
local macro_rules | `(tactic| k_room) => `(tactic| ktr_room)
set_option maxRecDepth 100000 in
set_option maxHeartbeats 4000000 in
theorem ue_none {w : World} {mean : ExcName → Option Value} {mg mb : PySem.Str → Option Value} {s : Shared} {dp un : Nat} {gd : Option (List Code)} {el : Env} {h₀ : Heap}
    {src Ll : Addr} {ml : PySem.Str → Option Value} {items : Array Value} {rs : List PySem.Str} {Q E : Value → Shared → Prop} :
    (Mine.hd.heap_39 w.params).In h₀ → Top topProg looseL mean mg mb h₀ → dp < 450 →
    (∀ b o, h₀.get? b = some o → s.heap.get? b = some o) → h₀.objs.size ≤ s.heap.objs.size →
    h₀.IsList src items → StrsAre items.toList rs → rs.length ≤ 64 →
    el.frame = some Ll → el.scope.kind ≠ .module → s.heap.Ns Ll ml → h₀.get? Ll = none →
    (∀ (a : Addr) (s' : Shared), (∀ b o, s.heap.get? b = some o → s'.heap.get? b = some o) → s'.drawn = s.drawn → s'.os = s.os → BareTo s.gens s'.gens →
      (∀ (Q' E' : Value → Shared → Prop), (∀ h' g' tk (acc : Array Value) c, (∀ b o, h₀.get? b = some o → h'.get? b = some o) → h'.Ns Ll ml → BareTo s.gens g' → h'.get? s'.heap.objs.size = some { cls := .type "list", dict := none, data := .seq acc c, slots := #[] } → StrsAre acc.toList (nubK id [] rs) → Q' (.ref s'.heap.objs.size) ⟨h', g', s.drawn, tk, s.os⟩) →
        wpAny (model PySem.Challenge.rw_ij0158_01.row.prog w) { handled := none, depth := dp, frames := some [el], guards := gd, units := un } (call (.type "list") [.ref a]) Q' E' s') → Q (.ref a) s') →
    wpAny (model PySem.Challenge.rw_ij0158_01.row.prog w) { handled := none, depth := dp, frames := some [el], guards := gd, units := un } (call (.ref 106) [.ref src]) Q E s := by
  w_top off
  k_fill
  intro X T hd hsub hsz hsrc hitems hlen helf helk hNl hl0 hQ
  obtain ⟨on, les, lep, hon, hond, honr⟩ := id hNl
  have hnt : Ll < s.heap.objs.size := Heap.lt_size hon
  have hnt0 := hl0
  have Xs : (Mine.hd.heap_39 w.params).In s.heap := X.keeps hsub
  have lim : s.heap.NoLimit := (Top.nolimit T).keeps hsub
  k_dflt (refine' enterGen ?k1 ?k5 ?k6 ?k7 ?k8 ?k9 ?kB ?_ ?c2 ?c3 ?c4 ?c5; (case k1 => k_asm); (case k5 => k_asm); (case k6 => k_is); (case k7 => k_is); (case k8 => ktr_room); (case k9 => first | exact BindsTo.of_eq rfl | exact binds_K (by k_asm) rfl (by k_is) rfl rfl rfl); (case c5 => decide); (case kB => exact locs rfl); (case c2 => exact rfl); (case c3 => exact rfl); (case c4 => exact rfl); (try dsimp only))
  intro h₁ h₂ g₀ F₁ hk₂ hgen hsz₂ hgs hbare
  refine hQ _ _ (fun b o e => hk₂ b o (F₁.keep b o e)) rfl rfl ?_ fun Q' E' hQ' => ?_
  · exact hbare
  have hrk : ∀ j, j ≤ rs.length → (nubK id [] rs).length ≤ 64 := fun _ _ => Nat.le_trans (nubK_le _ _ _) hlen
  have hL₁ : s.heap.objs.size < h₁.objs.size := let ⟨_, _, _, q, _⟩ := F₁.ns; Heap.lt_size q
  have hcs0 : cStatics < h₀.objs.size := let ⟨_, ⟨_, _, _, q, _⟩, _⟩ := Top.nolimit T; Heap.lt_size q
  have hcs2 : cStatics < h₂.objs.size := by
    rw [hsz₂]
    exact Nat.lt_succ_of_lt (Nat.lt_of_lt_of_le hcs0 (Nat.le_trans hsz (Nat.le_of_lt hL₁)))
  refine call_listP (n := (nubK id [] rs).length) (P := fun j v => ∃ t r, v = .str r t ∧ (nubK id [] rs)[j]? = some r) (pWalks rfl ?room _ _ s.gens.size _ _ (fun h' => (∀ b o, h₀.get? b = some o → h'.get? b = some o) ∧ h'.Ns Ll ml) g₀ s.drawn s.os ?hne ?hcs ?hfin) ?hlt ?hst ?hend ?hn
  case room =>
    show dp < recursionLimit
    have : recursionLimit = 1000 := by first | rfl | decide
    omega
  case hne => exact Nat.ne_of_lt (show h₁.objs.size < h₂.objs.size by rw [hsz₂]; exact Nat.lt_succ_self _)
  case hcs => exact Nat.ne_of_lt hcs2
  case hfin => exact fun h h' x hk => ⟨fun b o e => hk b o (x.1 b o e), x.2.keeps hk⟩
  case hlt => show h₁.objs.size < h₂.objs.size; rw [hsz₂]; exact Nat.lt_succ_self _
  case hn => 
    have : 1000 ≤ sizeLine := by decide
    exact Nat.le_trans (hrk 0 (Nat.zero_le _)) (by omega)
  case hend =>
    rintro s' acc c' ⟨h', g', tk, rfl, hg, hf, hk⟩ hS hacc
    refine hQ' _ _ _ _ _ hf hk ?_ hS ?_
    · exact fun x => hg.bare (hbare x)
    · exact strs_of_items hacc
  case hst =>
    refine ⟨hgen.push _, ?_, rfl, rfl, .inl rfl, _, hgs, fun s₂ hal hS => And.intro rfl (seg_func ?_)⟩
    · exact lim.keeps fun b o e => Heap.get?_push_of_some _ (hk₂ b o (F₁.keep b o e))
    obtain ⟨oS, hoS⟩ := hS
    obtain ⟨oa, nm, qn, hoa, ha1, ha2, ha3⟩ := id hgen
    replace hal : ∀ b o, b ≠ h₂.objs.size → h₂.get? b = some o → s₂.heap.get? b = some o := fun b o hb e => hal b o hb (Heap.get?_push_of_some _ e)
    replace hoS : s₂.heap.get? h₂.objs.size = some oS := hoS
    have hLS : s.heap.objs.size ≠ h₂.objs.size := Nat.ne_of_lt (by rw [hsz₂]; exact Nat.lt_succ_of_lt hL₁)
    have hLa : h₁.objs.size ≠ s.heap.objs.size := Nat.ne_of_gt hL₁
    have hSa : h₂.objs.size ≠ h₁.objs.size := Nat.ne_of_gt (by rw [hsz₂]; exact Nat.lt_succ_self _)
    have hlow : ∀ b, b < s.heap.objs.size → ∀ o, s.heap.get? b = some o → s₂.heap.get? b = some o := fun b hb o e => hal b o (Nat.ne_of_lt (show b < h₂.objs.size by rw [hsz₂]; exact Nat.lt_succ_of_lt (Nat.lt_trans hb hL₁))) (hk₂ b o (F₁.keep b o e))
    have hnone : ∀ b, s.heap.objs.size ≤ b → h₀.get? b = none := fun b hb => by
      cases q : h₀.get? b with
      | none => rfl
      | some o => exact absurd (Heap.lt_size q) (Nat.not_lt.mpr (Nat.le_trans hsz hb))
    have FS : Fr h₀ s.heap.objs.size s₂.heap _ := ⟨(F₁.ns.keeps hk₂).at' fun o e => hal _ o hLS e, fun b o e => hlow b (Heap.lt_size (hsub b o e)) o (hsub b o e), hsz⟩
    have NS : News h₀ s.heap.objs.size s₂.heap [(h₁.objs.size, oa), (h₂.objs.size, oS), (Ll, on)] := fun p hp => by
      rcases List.mem_cons.mp hp with rfl | hp
      · exact ⟨hal _ _ (Ne.symm hSa) hoa, hLa, hnone _ (Nat.le_of_lt hL₁)⟩
      rcases List.mem_cons.mp hp with rfl | hp
      rotate_left
      · rw [List.mem_singleton.mp hp]
        exact ⟨hlow _ hnt _ hon, Nat.ne_of_lt hnt, hnt0⟩
      · exact ⟨hoS, Ne.symm hLS, hnone _ (by rw [hsz₂]; exact Nat.le_of_lt (Nat.lt_succ_of_lt hL₁))⟩
    dsimp only [Nat.sub_zero]
    generalize hSS : h₂.objs.size = S at *
    generalize haa : h₁.objs.size = a at *
    refine seg_leafs ?_
    obtain ⟨dp', un', gd', fr', hdp, e⟩ := over_func dp (un+1+1+1) gd (some [el]) _ _
    rw [e]
    have haS := (NS _ (.head _)).1
    have hFSk := FS.keep
    clear hgs hgen hk₂ F₁ hal hQ' hQ hoa ha1 ha2 ha3 hrk
    k_steps
    clear e hdp dp' un' gd' fr'
    refine seg_leafs ?_
    obtain ⟨dp', un', gd', fr', hdp, e⟩ := over_func dp (un+1+1+1) gd (some [el]) _ _
    rw [e]
    k_steps
    rename Fr _ _ _ _ => FA
    rename News _ _ _ _ => NA
    rename_i D _ led hsi hss lD hB
    refine SetM.attr_add (NA _ (.head _)).1 ?_
    have FB := FA.push (SetM.boundOf "set.add" D)
    have NB := NA.push FA (SetM.boundOf "set.add" D)
    have lDBA := Heap.lt_size (NA _ (.head _)).1
    have lSBA := Heap.lt_size (NA _ (.tail _ (.tail _ (.head _)))).1
    have lnBA := Heap.lt_size (NA _ (.tail _ (.tail _ (.tail _ (.head _))))).1
    clear FA NA
    generalize hBA : hB.objs.size = BA at *
    k_steps
    rename Fr _ _ _ _ => FA
    rename News _ _ _ _ => NA
    rename_i hE
    clear e hdp
    refine seg_Ifs ?_
    obtain ⟨dp', un', gd', fr', hdp, e⟩ := over_func dp (un+1+1+1) gd (some [el]) _ _
    rw [e]
    k_steps
    rename Fr _ _ _ _ => FA
    rename News _ _ _ _ => NA
    clear e hdp dp' un' gd' fr'
    refine seg_Fors ?_ (by intro _; rfl)
    obtain ⟨dp', un', gd', fr', hdp, e⟩ := over_func dp (un+1+1+1) gd (some [el]) _ _
    rw [e]
    k_steps
    rename Fr _ _ _ _ => FA
    rename News _ _ _ _ => NA
    refine SetM.attr_con (NA _ (.tail _ (.head _))).1 ?_
    have FB := FA.push (SetM.boundOf "set.__contains__" D)
    have NB := NA.push FA (SetM.boundOf "set.__contains__" D)
    have lDBC := Heap.lt_size (NA _ (.tail _ (.head _))).1
    have lBABC := Heap.lt_size (NA _ (.head _)).1
    have lSBC := Heap.lt_size (NA _ (.tail _ (.tail _ (.tail _ (.head _))))).1
    have lnBC := Heap.lt_size (NA _ (.tail _ (.tail _ (.tail _ (.tail _ (.head _)))))).1
    clear FA NA
    generalize hBC : hE.objs.size = BC at *
    k_steps
    refine' call_cls ?k1 ?k2 ?k3 ?k4 ?k5 ?k6 ?_
    case k1 => k_asm
    case k2 => k_asm
    case k3 => k_asm
    case k4 => k_is
    case k5 => k_is
    case k6 => k_is
    intro x dx h₃ FA NA l1 l2
    clear FB NB
    have ldx : BC < dx := l1 (BC, SetM.boundOf "set.__contains__" D) (.head _)
    clear e
    obtain ⟨dp2, un2, gd2, hdp2, e⟩ := over_under dp' un' gd' fr' 94 [.ref BC, .ref src]
    rw [e]
    clear e
    refine ff_init X T (by omega) FA.keep (NA _ (.head _)).2.2 (NA _ (.tail _ (.head _))).2.2 l2 (NA _ (.head _)).1 (NA _ (.tail _ (.head _))).1 hsrc (fun h₄ I tk₄ ox hk₄ hx₄ hdx₄ hox hI₄ hIge => ?_)
    have lxI : x < I := Nat.lt_of_lt_of_le (Heap.lt_size (NA _ (.head _)).1) hIge
    refine ⟨rfl, ?_⟩
    dsimp only
    have hLs3 : s.heap.objs.size < h₃.objs.size := let ⟨_, _, _, q, _⟩ := FA.ns; Heap.lt_size q
    have hI0 : h₀.get? I = none := hnone _ (Nat.le_trans (Nat.le_of_lt hLs3) hIge)
    have hIL : I ≠ s.heap.objs.size := Nat.ne_of_gt (Nat.lt_of_lt_of_le hLs3 hIge)
    have laS : a < S := by rw [hsz₂]; exact Nat.lt_succ_self _
    have hnd : [I, x, dx, BC, BA, D, a, S, Ll].Nodup := nd9 lxI l2 ldx lBABC lDBA lD.2.1 (by rw [hsz₂]; exact Nat.lt_succ_self _) (Nat.lt_trans hnt hL₁)
    have hdx3 := (NA _ (.tail _ (.head _))).1
    obtain ⟨FB, NB⟩ := news_upd (pre := []) (d := x) (o' := ox) FA NA (List.nodup_cons.mp hnd).2 (fun b o hb e => by
      by_cases q : b = dx
      · subst q; rw [hdx3] at e; cases e; exact hdx₄
      · exact hk₄ b o hb q e) hx₄
    subst hox
    have NC : News h₀ s.heap.objs.size h₄ ((I, { cls := .type "list_iterator", data := .fields #[.ref src, .int 0 0] }) :: _) := fun p hp => by
      rcases List.mem_cons.mp hp with rfl | hp
      · exact ⟨hI₄, hIL, hI0⟩
      · exact NB p hp
    have hFAk := FB.keep
    have hndd := hnd
    clear FA NA NB hk₄ hx₄ hdx₄
    refine' owit_iter FB X (InstAt.of_news NC (.tail _ (.head _)) (.tail _ (.tail _ (.head _)))) ?hs ?hf ?_
    case hs => k_is
    case hf => k_is
    refine wpAny_call ?_
    refine ff_iter X T (by omega) FB.keep (fun h₅ tk₅ hk₅ => ?_)
    have FA := fr_keeps FB hk₅
    have NA := news_keeps NC hk₅
    clear FB NC
    refine' owit_it FA X (InstAt.of_news NA (.tail _ (.head _)) (.tail _ (.tail _ (.head _)))) ?hs2 ?_
    case hs2 => k_is
    intro p
    refine loop_cut (fun k n s₀ s₃ => ∃ i seen m so oI oS, k = rs.length - i ∧ i ≤ rs.length ∧ n = (nubK id seen (rs.drop i)).length ∧ n ≤ (nubK id [] rs).length ∧ (nubK id [] rs).drop ((nubK id [] rs).length - n) = nubK id seen (rs.drop i) ∧ seen.length ≤ i ∧
      Fr h₀ s.heap.objs.size s₃.heap m ∧ m (Str.ofString "seen_add") = some (.ref BA) ∧
      News h₀ s.heap.objs.size s₃.heap [(I, oI), (x, { cls := .ref 94, dict := some dx, data := .plain, slots := #[some (.ref BC), some (.ref I)] }), (dx, dictOf [] 0), (BC, SetM.boundOf "set.__contains__" D), (BA, SetM.boundOf "set.add" D), (D, so), (a, oa), (S, oS), (Ll, on)] ∧ so.SetObjOf (PySem.strKind PySem.Challenge.rw_ij0158_01.row.prog w) (fun x => decide (x ∈ seen)) seen.length ∧ Heap.IsListIter s₃.heap I src i ∧ SinceP S a s₀ s₃) (rs.length - 0) ?h0 ?step
    case h0 =>
      refine ⟨0, [], _, _, _, oS, rfl, Nat.zero_le _, rfl, Nat.le_refl _, by rw [Nat.sub_self]; rfl, Nat.le_refl _, FA, rfl, NA, hss, ⟨_, (NA _ (.head _)).1, rfl, rfl⟩, ?_⟩
      exact since_of (s₃ := s₂) (SinceP.refl _ _ _) hFSk FA.keep (Top.nolimit T) ⟨_, hoS, (NA _ (.tail _ (.tail _ (.tail _ (.tail _ (.tail _ (.tail _ (.tail _ (.head _))))))))).1⟩ ⟨_, haS, (NA _ (.tail _ (.tail _ (.tail _ (.tail _ (.tail _ (.tail _ (.head _)))))))).1⟩
    case step =>
      intro k n s₀ s₃ IH hI
      obtain ⟨i, seen, m, so, oI, oS, rfl, hi, hn, hnN, hdrop, hsl, F₃, hm1, N₃, hso, hit, hsince⟩ := hI
      refine seg_turn ?_
      obtain ⟨dp', un', gd', hdp, e⟩ := over_for2 dp (un+1+1+1) gd [el] _ _ _ _ _ _ _ p
      rw [e]
      have gx := N₃ _ (.tail _ (.head _))
      have gdx := N₃ _ (.tail _ (.tail _ (.head _)))
      have gBC := N₃ _ (.tail _ (.tail _ (.tail _ (.head _))))
      have gD := N₃ _ (.tail _ (.tail _ (.tail _ (.tail _ (.tail _ (.head _))))))
      have ga := N₃ _ (.tail _ (.tail _ (.tail _ (.tail _ (.tail _ (.tail _ (.head _)))))))
      have gS := N₃ _ (.tail _ (.tail _ (.tail _ (.tail _ (.tail _ (.tail _ (.tail _ (.head _))))))))
      have gL := N₃ _ (.tail _ (.tail _ (.tail _ (.tail _ (.tail _ (.tail _ (.tail _ (.tail _ (.head _)))))))))
      have hk3 := F₃.keep
      refine' owit_next F₃ X (InstAt.of_news N₃ (.tail _ (.head _)) (.tail _ (.tail _ (.head _)))) ?hs3 ?hf3 ?_
      case hs3 => k_is
      case hf3 => k_is
      refine wpAny_call ?_
      have n6 := lt6 lxI l2 ldx lBABC lDBA
      obtain ⟨oLg, qes, qep, gLg, gLgd, _⟩ := id F₃.ns
      refine ff_next (bz := h₀) X T (by omega) F₃.keep gx.2.2 gdx.2.2 hI0 l2 lxI gx.1 gdx.1 hit hsrc hitems gBC.1 gD.1 hso (by omega) hi n6.1 n6.2.1 n6.2.2.1 n6.2.2.2.1 n6.2.2.2.2.1 n6.2.2.2.2.2 ?hff (fun h' tk r t i' hnub hnin hii hi' hkk hit' => ?_) (fun h' tk e' hnub hcls hkk hns => ?_)
      case hff =>
        exact ⟨fun z => ScopeKind.noConfusion z, ⟨_, oLg, rfl, hnone _ (Nat.le_refl _), gLg, fun vs => by rw [gLgd]; exact fun z => by cases z⟩, helk, ⟨Ll, on, helf, hl0, gL.1, fun vs => by rw [hond]; exact fun z => by cases z⟩, trivial⟩
      · dsimp only
        refine wpAny_of_eq (a := ()) rfl ?_
        obtain ⟨oI', hoI', hcI', hdI'⟩ := id hit'
        obtain ⟨F₄, N₄⟩ := news_upd (pre := []) (d := I) (o' := oI') F₃ N₃ hnd hkk hoI'
        clear F₃ N₃ hit hit' hkk
        have hns : r ∉ seen := hnin
        replace F₄ := fr_know (x := Str.ofString "seen_add") (v := .ref BA) F₄ hm1
        rw [hnub] at hn hdrop
        obtain ⟨n', rfl⟩ : ∃ n', n = n' + 1 := ⟨_, by rw [hn]; rfl⟩
        k_steps
        clear e hdp dp' un' gd'
        refine seg_leafs ?_
        obtain ⟨dp', un', gd', hdp, e⟩ := over_for2 dp (un+1+1+1) gd [el] _ _ _ _ _ _ _ p
        rw [e]
        k_steps
        rename Fr _ _ _ _ => FA
        rename News _ _ _ _ => NA
        refine SetM.callWith_bound1 (id := "set.add") (b := D) ?_
        k_steps
        · exact (NA _ (.tail _ (.tail _ (.tail _ (.tail _ (.head _)))))).1
        have hsb : seen.length + 1 < scanBound := by
          have : 1000 ≤ scanBound := by decide
          omega
        have ND := NA _ (.tail _ (.tail _ (.tail _ (.tail _ (.tail _ (.head _))))))
        refine SetM.call_bound_add (knd := PySem.strKind PySem.Challenge.rw_ij0158_01.row.prog w) (k := r) (S := fun x => decide (x ∈ seen)) (n := seen.length) (NA _ (.tail _ (.tail _ (.tail _ (.tail _ (.head _)))))).1 (by simp [PySem.strKind, Value.isStrOf]) rfl (hso.setOf ND.1 (by omega)) (by omega) fun h6 hs6 hset => ?_
        obtain ⟨so', hso', hsoo⟩ := hset.objOf
        obtain ⟨F₆, N₆⟩ := news_upd (pre := [(I, oI'), (x, { cls := .ref 94, dict := some dx, data := .plain, slots := #[some (.ref BC), some (.ref I)] }), (dx, dictOf [] 0), (BC, SetM.boundOf "set.__contains__" D), (BA, SetM.boundOf "set.add" D)]) (d := D) (o' := so') FA NA hndd (fun b o hb e => hs6.extBut b o hb e) hso'
        clear FA NA
        k_steps
        · exact trivial
        clear e hdp dp' un' gd'
        rename Fr _ _ _ _ => FA
        rename News _ _ _ _ => NA
        refine seg_execs_cons ?_
        refine seg_Expr_Yield (hco := ?_) (hi := ?_) rfl rfl rfl ?_
        rotate_left
        · rfl
        · rfl
        obtain ⟨dp', un', gd', hdp, e⟩ := over_for2 dp (un+1+1+1) gd [el] _ _ _ _ _ _ _ p
        rw [e]
        k_steps
        rename_i kap hkap
        have hNd : (nubK id [] rs)[(nubK id [] rs).length - (n' + 1)]? = some r := by
          have q := congrArg (fun l => l[0]?) hdrop
          simp only [List.getElem?_drop, List.getElem?_cons_zero, Nat.add_zero] at q
          exact q
        have ga' := NA _ (.tail _ (.tail _ (.tail _ (.tail _ (.tail _ (.tail _ (.head _)))))))
        have gS' := NA _ (.tail _ (.tail _ (.tail _ (.tail _ (.tail _ (.tail _ (.tail _ (.head _))))))))
        refine ⟨⟨t, r, rfl, by rw [show (nubK id [] rs).length - 1 - n' = (nubK id [] rs).length - (n' + 1) by omega]; exact hNd⟩, since_of (s₃ := s₃) hsince hk3 FA.keep (Top.nolimit T) ⟨_, gS.1, gS'.1⟩ ⟨_, ga.1, ga'.1⟩, fun s'' hal'' hS'' => hkap .none s'' ?_⟩
        obtain ⟨oS'', hoS''⟩ := hS''
        replace hal'' : ∀ b o, b ≠ S → h6.get? b = some o → s''.heap.get? b = some o := hal''
        obtain ⟨F₇, N₇⟩ := news_upd (pre := [(I, oI'), (x, { cls := .ref 94, dict := some dx, data := .plain, slots := #[some (.ref BC), some (.ref I)] }), (dx, dictOf [] 0), (BC, SetM.boundOf "set.__contains__" D), (BA, SetM.boundOf "set.add" D), (D, so'), (a, oa)]) (d := S) (o' := oS'') FA NA hndd hal'' hoS''
        refine seg_again rfl (IH (rs.length - i') n' _ _ ?_ ⟨i', r :: seen, _, so', oI', oS'', rfl, hi', ?_, Nat.le_of_succ_le hnN, ?_, ?_, F₇, rfl, N₇, ?_, ⟨oI', (N₇ _ (.head _)).1, hcI', hdI'⟩, SinceP.refl _ _ _⟩)
        · omega
        · have q := hn; rw [List.length_cons] at q; omega
        · have q := congrArg List.tail hdrop
          rw [List.tail_cons, List.tail_drop] at q
          rw [← q]; congr 1; omega
        · exact Nat.le_trans (Nat.succ_le_succ hsl) hii
        · have e1 : (fun x => decide (x ∈ r :: seen)) = fun k' => decide (k' ∈ seen) || decide (k' = r) := by
            funext x
            simp only [List.mem_cons]
            rw [Bool.eq_iff_iff]
            simp [or_comm]
          rw [e1, List.length_cons]
          simpa [hns] using hsoo
      · show OwitStop _ _ _ _ (.ref e') _
        unfold OwitStop
        refine wpAny_isInstance (T := "StopIteration") (b := true) hcls isSubtype_stop ?_
        dsimp only [if_true]
        rw [if_pos rfl]
        refine seg_blockNil (seg_leaf (.ok .next) ?_)
        have hk' : ∀ b o, h₀.get? b = some o → h'.get? b = some o := fun b o q => hkk b o (fun z => by rw [z, hI0] at q; cases q) (fun z => by
          rcases mem2 rfl helf b z with z | z
          · rw [z, hnone _ (Nat.le_refl _)] at q; cases q
          · rw [z, hl0] at q; cases q) (F₃.keep b o q)
        refine seg_end (.ok (.ret .none)) ⟨rfl, ?_, ?_, hk', ?_⟩
        · rw [hn, hnub]; rfl
        · refine since_of (tk := tk) hsince F₃.keep hk' (Top.nolimit T) ⟨oS, gS.1, hkk _ _ (Nat.ne_of_lt (Nat.lt_trans lSBC (Nat.lt_trans ldx (Nat.lt_trans l2 lxI)))) (fun z => ?_) gS.1⟩ ⟨oa, ga.1, hkk _ _ (Nat.ne_of_lt (Nat.lt_trans laS (Nat.lt_trans lSBC (Nat.lt_trans ldx (Nat.lt_trans l2 lxI))))) (fun z => ?_) ga.1⟩
          · rcases mem2 rfl helf _ z with z | z
            · exact hLS z.symm
            · exact Nat.ne_of_gt (Nat.lt_trans hnt (Nat.lt_trans hL₁ laS)) z
          · rcases mem2 rfl helf _ z with z | z
            · exact hLa z
            · exact Nat.ne_of_gt (Nat.lt_trans hnt hL₁) z
        · exact hns Ll (mem2' rfl helf) ml (hNl.at' fun o q => by rw [hon] at q; cases q; exact gL.1)
end Mine
end PartUeNone

section PartLwA
open PySem PySem.W PyProof.Rows PySem.Calls
set_option maxRecDepth 100000
namespace Mine
theorem ints_at {vs : Array Value} {ns : List Int} (h : IntsAre vs.toList ns) {i : Nat} {v : Value} (hv : vs[i]? = some v) : ∃ n t, v = .int n t ∧ ns[i]? = some n := by
  have key : ∀ {l : List Value} {ns : List Int}, IntsAre l ns → ∀ {i : Nat} {v : Value}, l[i]? = some v → ∃ n t, v = Value.int n t ∧ ns[i]? = some n := by
    intro l ns h
    induction h with
    | nil => intro i v hv; simp at hv
    | cons n t _ ih =>
      intro i v hv
      cases i with
      | zero => exact ⟨n, t, by simpa using hv.symm, rfl⟩
      | succ i => simpa using ih (i := i) (by simpa using hv)
  exact key h (by simpa using hv)
theorem ints_len {vs : Array Value} {ns : List Int} (h : IntsAre vs.toList ns) : vs.size = ns.length := by
  have key : ∀ {l : List Value} {ns : List Int}, IntsAre l ns → l.length = ns.length := by
    intro l ns h
    induction h with
    | nil => rfl
    | cons n t _ ih => simp [ih]
  rw [← Array.length_toList]; exact key h
/-- what a list comprehension over ints leaves, when each turn gives a text -/
theorem pair_strs {f : Int → PySem.Str} : ∀ {vs : List Value} {ns : List Int} {ys : List Value}, vs.length = ns.length → (∀ (j : Nat) (v : Value), vs[j]? = some v → ∃ n t, v = Value.int n t ∧ ns[j]? = some n) →
    Paired (fun v y => ∀ n t, v = Value.int n t → ∃ u, y = Value.str (f n) u) vs ys → StrsAre ys (ns.map f)
  | [], [], _, _, _, .nil => .nil
  | [], _ :: _, _, h, _, _ => by cases h
  | _ :: _, [], _, h, _, _ => by cases h
  | v :: vs, n :: ns, _, hl, hv, .cons hF hP => by
    obtain ⟨n', t, rfl, hn⟩ := hv 0 v rfl
    obtain rfl : n = n' := by simpa using hn
    obtain ⟨u, rfl⟩ := hF n t rfl
    exact .cons _ _ (pair_strs (by simpa using hl) (fun j v hj => by simpa using hv (j + 1) v (by simpa using hj)) hP)
theorem item_len (x : PySem.Str) (i : Int) : (Txt.item x i).length ≤ 1 := Nat.le_refl 1
theorem items_sum (x : PySem.Str) : ∀ ps : List Int, ((ps.map (Txt.item x)).map (fun y => y.length)).sum ≤ ps.length
  | [] => Nat.le_refl _
  | p :: ps => by
    have h1 := items_sum x ps
    have h2 := item_len x p
    simp only [List.map_cons, List.sum_cons, List.length_cons]
    exact Nat.le_trans (Nat.add_le_add h2 h1) (Nat.le_of_eq (Nat.add_comm 1 _))
theorem strs_get {vs : Array Value} {ys : List PySem.Str} (h : StrsAre vs.toList ys) {i : Nat} {v : Value} (hv : vs[i]? = some v) : ∃ r t, v = .str r t ∧ ys[i]? = some r := by
  have hi : i < ys.length := by
    have := (Array.getElem?_eq_some_iff.mp hv).1
    rw [← h.length, Array.length_toList]; exact this
  obtain ⟨r, t, h1, h2⟩ := strs_at h hi
  rw [hv] at h1
  exact ⟨r, t, Option.some.inj h1, h2⟩
theorem pair_ints {f : PySem.Str → Int} : ∀ {vs : List Value} {ns : List PySem.Str} {ys : List Value}, vs.length = ns.length → (∀ (j : Nat) (v : Value), vs[j]? = some v → ∃ n t, v = Value.str n t ∧ ns[j]? = some n) →
    Paired (fun v y => ∀ n t, v = Value.str n t → ∃ u, y = Value.int (f n) u) vs ys → IntsAre ys (ns.map f)
  | [], [], _, _, _, .nil => .nil
  | [], _ :: _, _, h, _, _ => by cases h
  | _ :: _, [], _, h, _, _ => by cases h
  | v :: vs, n :: ns, _, hl, hv, .cons hF hP => by
    obtain ⟨n', t, rfl, hn⟩ := hv 0 v rfl
    obtain rfl : n = n' := by simpa using hn
    obtain ⟨u, rfl⟩ := hF n t rfl
    exact .cons _ _ (pair_ints (by simpa using hl) (fun j v hj => by simpa using hv (j + 1) v (by simpa using hj)) hP)
theorem enterCells {prog : Program} {w : World} {A : Around} {E : Value → Shared → Prop} {s : Shared} {K : Frag} {name qual : PySem.Str} {params : Arguments} {body : List Stmt} {scope : Scope} {dV kV doc pm cdv ct oc : Value} {an od : Option Addr} {osl : Array (Option Value)} {f : Addr} {args : List Value} {kw : List (PySem.Str × Value)} {binds : List (PySem.Str × Value)} {Q : Value → Shared → Prop}
    (X : K.In s.heap) (hlim : s.heap.NoLimit) (ho : K.lookup f = some ⟨oc, od, .func (fnOf name qual params body scope dV kV doc pm an cdv ct), osl⟩) (hcd : codeIn K cdv qual = true) (hroom : A.depth < recursionLimit)
    (hbind : BindsTo s (fnOf name qual params body scope dV kV doc pm an cdv ct) ⟨args, kw⟩ binds) (hkind : (binds.all fun y => scope.names.lookup y.1 == some .local || scope.names.lookup y.1 == some .cell) = true)
    (hnd : ((cellsFrom 0 scope.names []).map (·.1)).Nodup)
    (h : ∀ h₁ tk cells, Fr s.heap s.heap.objs.size h₁ (bindL (envOfC qual scope s.heap.objs.size f cdv).kindOf binds fun _ => none) → News s.heap s.heap.objs.size h₁ cells →
      CellsAre (bindC (envOfC qual scope s.heap.objs.size f cdv).kindOf binds fun _ => none) (cellsFrom (s.heap.objs.size + 1) scope.names []) cells →
      wpAny (model prog w) (A.deeper (envOfC qual scope s.heap.objs.size f cdv)) (execs body (envOfC qual scope s.heap.objs.size f cdv))
        (fun fl s' => Q (match fl with | .ret v => v | _ => .none) s') (fun _ _ => False) { s with heap := h₁, toks := tk })
    (hco : scope.isCoroutine = false) (hgen : scope.isGenerator = false) (hk : scope.kind = .function) : wpAny (model prog w) A (call (.ref f) args kw) Q E s := by
  refine wpAny_call (codeAny_call_function (fd := fnOf name qual params body scope dV kV doc pm an cdv ct) (body := body) hroom (X _ _ ho) rfl hco hgen rfl (codeRec_of X hcd) (hbind _ _ _ _ ?_))
  refine wpAny_newFunctionEnv_cells hk (kindsX hkind _) fun env' he s' x => ?_
  subst he
  refine ⟨hlim.keeps x.toInCall.keep, codeAny_func ?_⟩
  obtain ⟨h₁, tk, rfl, _⟩ := x.done
  have hk₁ := x.toInCall.keep
  obtain ⟨cells, NC, Y⟩ := Cl.news (h₀ := s.heap) (Nat.le_refl _) fun n c hm => ⟨x.cell n c (lookup_of_mem_nodup (cellsFrom_names scope.names 0 (s.heap.objs.size + 1) [] [] rfl ▸ hnd) hm), x.above n c hm⟩
  exact wpAny_mono (h h₁ tk cells ⟨x.toInCall.ns, hk₁, Nat.le_refl _⟩ NC Y) (fun fl s' hl => hl) fun _ _ z => z.elim
theorem newEnv_one {M : Model} {A : Around} {E : Value → Shared → Prop} {s : Shared} {scope : Scope} {clos : List (PySem.Str × Addr)} {x : PySem.Str} {v : Value} {qual : PySem.Str} {func : Option Addr} {code : Value} {Q : Env → Shared → Prop}
    (hk : scope.kind = .function) (hcf : ∀ n, (cellsFrom n scope.names clos) = (x, n) :: clos) (hpc : ∀ h, pushCells h scope.names = h.push { cls := .type "cell", data := .cell none }) (hl : scope.names.lookup x = some .cell)
    (hQ : ∀ h' oc, (∀ b o, s.heap.get? b = some o → h'.get? b = some o) → h'.Ns s.heap.objs.size (fun _ => none) → h'.get? (s.heap.objs.size + 1) = some oc → oc.data = .cell (some v) →
      Q (newEnv scope s.heap.objs.size mainGlobals ((x, s.heap.objs.size + 1) :: clos) qual func code none builtinsNs) { s with heap := h' }) :
    wpAny M A (newFunctionEnv scope mainGlobals clos [(x, v)] qual func code none builtinsNs) Q E s := by
  simp only [newFunctionEnv, Option.isSome_none, Bool.false_eq_true, if_false]
  refine wpAny_bind (wpAny_alloc ?_)
  refine wpAny_bind (wpAny_layCells _ (fun name kind cells => by cases hkc : kind == NameKind.cell <;> simp [hkc]) _ _ _ _ ?_)
  dsimp only
  rw [hcf, hpc]
  have hz : (s.heap.push { cls := .type "frame", data := .dict #[] }).objs.size = s.heap.objs.size + 1 := Heap.size_push ..
  rw [hz]
  rw [List.forIn_cons]
  have hcl : ((s.heap.push { cls := .type "frame", data := .dict #[] }).push { cls := .type "cell", data := .cell none }).get? (s.heap.objs.size + 1) = some { cls := .type "cell", data := .cell none } := by
    have := Heap.get?_push_size (s.heap.push { cls := .type "frame", data := .dict #[] }) (o := { cls := .type "cell", data := .cell none }) rfl
    rw [hz] at this; exact this
  have hlk : List.lookup x ((x, s.heap.objs.size + 1) :: clos) = some (s.heap.objs.size + 1) := by rw [List.lookup_cons]; simp
  refine wpAny_bind (wpAny_bind (wpAny_bind (wpAny_storeName_cell (env := newEnv scope s.heap.objs.size mainGlobals ((x, s.heap.objs.size + 1) :: clos) qual func code none builtinsNs) (c := s.heap.objs.size + 1) (v₀ := none) hk hl hlk ⟨_, hcl, rfl⟩ fun h' hc hs => ?_)))
  refine wpAny_pure ?_
  dsimp only
  rw [List.forIn_nil]
  refine wpAny_pure ?_
  refine wpAny_pure ?_
  obtain ⟨oc, hoc, hod⟩ := hc
  have hk1 : ∀ b o, b ≠ s.heap.objs.size + 1 → (s.heap.push { cls := .type "frame", data := .dict #[] }).get? b = some o → h'.get? b = some o := fun b o hb e => hs.extBut b o hb (Heap.get?_push_of_some _ e)
  refine hQ h' oc (fun b o e => hk1 b o (Nat.ne_of_lt (Nat.lt_succ_of_lt (Heap.lt_size e))) (Heap.get?_push_of_some _ e)) ?_ hoc hod
  exact (Heap.Ns.new s.heap (.type "frame")).at' fun o e => hk1 _ o (Nat.ne_of_lt (Nat.lt_succ_self _)) e
theorem enterNest1 {prog : Program} {w : World} {A : Around} {E : Value → Shared → Prop} {s : Shared} {name qual : PySem.Str} {params : Arguments} {body : List Stmt} {scope : Scope} {cl : List (PySem.Str × Addr)} {doc pm ctv : Value} {c' f : Addr} {args : List Value} {kw : List (PySem.Str × Value)} {x : PySem.Str} {v : Value} {Q : Value → Shared → Prop}
    (hlim : s.heap.NoLimit) (ho : s.heap.get? f = some (fnMade name qual params body scope cl doc pm c' ctv)) (hcd : s.heap.CodeRec (.ref c') qual) (hroom : A.depth < recursionLimit)
    (hbind : BindsTo s (fnX name qual params body scope cl .none .none doc pm none (.ref c') ctv) ⟨args, kw⟩ [(x, v)])
    (hcf : ∀ n, (cellsFrom n scope.names cl) = (x, n) :: cl) (hpc : ∀ h, pushCells h scope.names = h.push { cls := .type "cell", data := .cell none }) (hl : scope.names.lookup x = some .cell)
    (h : ∀ h₁ ox, Fr s.heap s.heap.objs.size h₁ (fun _ => none) → h₁.get? (s.heap.objs.size + 1) = some ox → ox.data = .cell (some v) →
      wpAny (model prog w) (A.deeper (envX qual scope s.heap.objs.size f (.ref c') ((x, s.heap.objs.size + 1) :: cl))) (execs body (envX qual scope s.heap.objs.size f (.ref c') ((x, s.heap.objs.size + 1) :: cl)))
        (fun fl s' => Q (match fl with | .ret v => v | _ => .none) s') (fun _ _ => False) { s with heap := h₁ })
    (hco : scope.isCoroutine = false) (hgen : scope.isGenerator = false) (hk : scope.kind = .function) : wpAny (model prog w) A (call (.ref f) args kw) Q E s := by
  refine wpAny_call (codeAny_call_function (fd := fnX name qual params body scope cl .none .none doc pm none (.ref c') ctv) (body := body) hroom ho rfl hco hgen rfl hcd (hbind _ _ _ _ ?_))
  refine newEnv_one hk hcf hpc hl fun h' oc hk₁ hns hoc hod => ?_
  refine ⟨hlim.keeps hk₁, codeAny_func ?_⟩
  exact wpAny_mono (h h' oc ⟨hns, hk₁, Nat.le_refl _⟩ hoc hod) (fun _ _ z => z) fun _ _ z => z.elim
end Mine
end PartLwA

section PartNestT
open PySem PySem.W PyProof.Rows PySem.Calls
set_option maxRecDepth 100000
namespace Mine
theorem nd_top {x : Nat} {l : List Nat} (h : ∀ y ∈ l, y < x) (hl : l.Nodup) : (x :: l).Nodup := List.nodup_cons.mpr ⟨fun hm => Nat.lt_irrefl _ (h _ hm), hl⟩
/-- the code table of a nested def, before its first call and behind it -/
def TabQ (pos : Pos) (qual : PySem.Str) (ps : Array Value) (cA : Addr) (oc : Obj) : Prop :=
  ps = #[] ∨ (ps = #[rawInt pos.line, rawInt pos.col, .ref cA] ∧ ∃ vs tq, oc.data = .fields vs ∧ vs[1]? = some (.str qual tq))
/-- a nested def, whether or not its code table holds it already -/
theorem nestTab_K {M : Model} {A : Around} {E : Value → Shared → Prop} {s : Shared} {h₀ : Heap} {L a c P : Addr} {m mg mb : PySem.Str → Option Value} {cn : PySem.Str} {cs : Scope} {ccd : Value} {cl : List (PySem.Str × Addr)} {x1 x2 x3 : Addr × Obj}
    {p : Program} {loose : List PySem.Str} {mean : ExcName → Option Value} {name qual : PySem.Str} {params : Arguments} {body : List Stmt} {scope : Scope} {ps : Array Value} {pos : Pos} {firstLine : Nat} {clos : List (PySem.Str × Addr)} {cA : Addr} {oc : Obj} {Q : Value → Shared → Prop}
    (F : Fr h₀ L s.heap m) (N : News h₀ L s.heap [x1, x2, x3, (P, tabObj ps)]) (T : Top p loose mean mg mb h₀) (C : CodeHd h₀ c P) (hcd : ccd = .ref c) (hcl : closureFor scope (envX cn cs L a ccd cl) = pure clos)
    (hT : TabQ pos qual ps cA oc) (hc : s.heap.get? cA = some oc ∧ cA ≠ L ∧ h₀.get? cA = none) (hn : [cA, x1.1, x2.1, x3.1, P].Nodup)
    (h : ∀ f c' oc' vs t ctv doc h' tk, Fr h₀ L h' m → News h₀ L h' [(f, fnMade name qual params body scope clos doc ((mg (Str.ofString "__name__")).getD .none) c' ctv), (c', oc'), x1, x2, x3, (P, tabObj #[rawInt pos.line, rawInt pos.col, .ref c'])] →
      oc'.data = .fields vs → vs[1]? = some (.str qual t) → [f, c', x1.1, x2.1, x3.1, P].Nodup → x1.1 < f → Q (.ref f) { s with heap := h', toks := tk }) :
    wpAny M A (makeFunction name qual params (.stmts body) scope (envX cn cs L a ccd cl) [] [] [] pos firstLine) Q E s := by
  have hn2 := (List.nodup_cons.mp hn).2
  rcases hT with rfl | ⟨rfl, vs, tq, e1, e2⟩
  · obtain ⟨q1, q2⟩ := List.nodup_cons.mp hn2
    obtain ⟨q2, q3⟩ := List.nodup_cons.mp q2
    have q3 := (List.nodup_cons.mp q3).1
    refine nest_K F N T C hcd (.tail (fun e => q1 (by rw [e]; exact .tail _ (.tail _ (.head _)))) (.tail (fun e => q2 (by rw [e]; exact .tail _ (.head _))) (.tail (fun e => q3 (by rw [e]; exact .head _)) (.head fun _ hp => nomatch hp)))) (by simp [TriplesOk]) rfl hcl fun f c' oc' vs t ctv doc h' tk F' N' d1 d2 l1 l2 => ?_
    have l3 : ∀ y ∈ [x1.1, x2.1, x3.1, P], y < c' := fun y hy => by
      obtain ⟨q, hq, rfl⟩ := List.mem_map.mp (show y ∈ [x1, x2, x3, (P, tabObj #[])].map (·.1) from hy)
      exact l1 q hq
    exact h f c' oc' vs t ctv doc h' tk F' N' d1 d2 (nd_top (fun y hy => (List.mem_cons.mp hy).elim (fun e => by rw [e]; exact l2) fun hy => Nat.lt_trans (l3 y hy) l2) (nd_top l3 hn2)) (Nat.lt_trans (l1 _ (.head _)) l2)
  · have N2 : News h₀ L s.heap ((cA, oc) :: [x1, x2, x3, (P, tabObj #[rawInt pos.line, rawInt pos.col, .ref cA])]) := fun q hq => by
      rcases List.mem_cons.mp hq with rfl | hq
      · exact hc
      · exact N q hq
    refine nestHit_K (c' := cA) F N2 T C hcd (.tail _ (.tail _ (.tail _ (.tail _ (.head _))))) (by simp [TriplesOk, rawInt]) (by simp [codeAmong, rawInt]) hcl fun f ctv doc h' tk F' N' l1 => ?_
    exact h f cA oc vs tq ctv doc h' tk F' N' e1 e2 (nd_top (fun y hy => by
      obtain ⟨q, hq, rfl⟩ := List.mem_map.mp (show y ∈ ((cA, oc) :: [x1, x2, x3, (P, tabObj #[rawInt pos.line, rawInt pos.col, .ref cA])]).map (·.1) from hy)
      exact l1 q hq) hn) (l1 _ (.tail _ (.head _)))
end Mine
end PartNestT

section PartLwC
open PySem PySem.W PyProof.Rows PySem.Calls
set_option maxRecDepth 100000
namespace Mine
/-- what _law_cut notes of a row -/
def lcut (ps : List Int) (r : PySem.Str) : PySem.Str := Txt.join (Str.ofString "") (ps.map (Txt.item r))
local macro_rules | `(tactic| k_room) => `(tactic| ktr_room)
/-- the code table of the nested def, before its first call and behind it -/
def TabSt (tps : Array Value) (cA : Addr) (oc : Obj) : Prop :=
  tps = #[] ∨ (tps = #[rawInt 79, rawInt 4, .ref cA] ∧ ∃ vs tq, oc.data = .fields vs ∧ vs[1]? = some (.str (Str.ofString "_law_walk.<locals>._law_cut") tq))
local macro_rules | `(tactic| walk_at "exec FunctionDef") => `(tactic| (k_here; refine stop_intro ?_))
local macro_rules | `(tactic| walk_at "eval ListComp") => `(tactic| (k_here; refine stop_intro ?_))
set_option maxRecDepth 100000 in
set_option maxHeartbeats 4000000 in
theorem lw_core {w : World} {mean : ExcName → Option Value} {mg mb : PySem.Str → Option Value} {s : Shared} {dp un : Nat} {gd : Option (List Code)} {fr : Option (List Env)} {g : Heap}
    {rw pl cA : Addr} {oc : Obj} {tps items pitems : Array Value} {rs : List PySem.Str} {ps : List Int} {Q E : Value → Shared → Prop} :
    (Mine.hd.heap_39 w.params).In g → Top topProg looseL mean mg mb g → CodeHd g 110 108 → dp < 400 →
    (∀ b o, g.get? b = some o → s.heap.get? b = some o) → g.objs.size = s.heap.objs.size → g.get? 108 = none → s.heap.get? 108 = some (tabObj tps) →
    s.heap.get? cA = some oc → g.get? cA = none → @Ne Nat cA 108 → TabSt tps cA oc →
    g.IsList rw items → StrsAre items.toList rs → rs.length ≤ 64 → 0 < rs.length → g.IsList pl pitems → IntsAre pitems.toList ps → ps.length ≤ 5 → (∀ p ∈ ps, 0 ≤ p ∧ p < 10) → (∀ r ∈ rs, r.length = 10) →
    (∀ (h' : Heap) (g' : Array GenState) (tk : Nat) (T c' : Addr) (M : Int) (t1 t2 : Tok) (oc' : Obj), (∀ b o, g.get? b = some o → h'.get? b = some o) → BareTo s.gens g' →
      h'.get? 108 = some (tabObj #[rawInt 79, rawInt 4, .ref c']) → h'.get? c' = some oc' → TabSt #[rawInt 79, rawInt 4, .ref c'] c' oc' → g.get? c' = none → c' ≠ 108 →
      h'.get? T = some { cls := .type "tuple", data := .seq #[.int ((nubK (lcut ps) [] rs).length : Nat) t1, .int M t2] } → g.get? T = none →
      (M ∈ (rs.map (lcut ps)).map fun k => PySem.Spec.countIn (.str k) ((rs.map (lcut ps)).map PyData.str)) → (∀ a ∈ (rs.map (lcut ps)).map fun k => PySem.Spec.countIn (.str k) ((rs.map (lcut ps)).map PyData.str), a ≤ M) →
      Q (.ref T) ⟨h', g', s.drawn, tk, s.os⟩) →
    wpAny (model PySem.Challenge.rw_ij0158_01.row.prog w) { handled := none, depth := dp, frames := fr, guards := gd, units := un } (call (.ref 111) [.ref rw, .ref pl]) Q E s := by
  w_top off
  k_fill
  intro X₂ T₂ CH₂ hd hgs hgsz htn htab hcA hcAn hcA8 hTab hrw₂ hrs hlen hrpos hpl₂ hpi hpn hp10 hr10 hQ
  have Xs : (Mine.hd.heap_39 w.params).In s.heap := X₂.keeps hgs
  have lim : s.heap.NoLimit := (Top.nolimit T₂).keeps hgs
  k_dflt (refine' enterCells ?k1 ?k5 ?k6 ?k7 ?k8 ?k9 ?kB ?kD ?_ ?c2 ?c3 ?c4; (case k1 => k_asm); (case k5 => k_asm); (case k6 => k_is); (case k7 => k_is); (case k8 => ktr_room); (case k9 => first | exact BindsTo.of_eq rfl | exact binds_K (by k_asm) rfl (by k_is) rfl rfl rfl); (case kB => exact rfl); (case kD => decide +kernel); (case c2 => exact rfl); (case c3 => exact rfl); (case c4 => exact rfl); (try dsimp only))
  intro h₁ tk₁ cells F₁ N₁ Y
  k_cells Y
  have F₂ : Fr g s.heap.objs.size h₁ _ := ⟨F₁.ns, fun b o e => F₁.keep b o (hgs b o e), Nat.le_of_eq hgsz⟩
  have htl : 108 < s.heap.objs.size := Heap.lt_size htab
  rename_i oN oP dN dP
  replace dN : oN.data = .cell none := dN
  replace dP : oP.data = .cell (some (.ref pl)) := dP
  replace F₂ : Fr g s.heap.objs.size h₁ (fun y => if y = Str.ofString "rows" then some (.ref rw) else none) := F₂
  have nN := N₁ _ (.head _)
  have nP := N₁ _ (.tail _ (.head _))
  have hid : ∀ b, s.heap.get? b = none → g.get? b = none := fun b e => by
    cases q : g.get? b with
    | none => rfl
    | some o => have := hgs _ _ q; rw [e] at this; cases this
  have lcA : @LT.lt Nat instLTNat cA s.heap.objs.size := Heap.lt_size hcA
  have N₂ : News g s.heap.objs.size h₁ [(s.heap.objs.size + 1 + 1, oN), (s.heap.objs.size + 1, oP), (108, tabObj tps), (cA, oc)] := fun p hp => by
    rcases List.mem_cons.mp hp with rfl | hp
    · exact ⟨nN.1, nN.2.1, hid _ nN.2.2⟩
    rcases List.mem_cons.mp hp with rfl | hp
    · exact ⟨nP.1, nP.2.1, hid _ nP.2.2⟩
    rcases List.mem_cons.mp hp with rfl | hp
    · exact ⟨F₁.keep _ _ htab, Nat.ne_of_lt htl, htn⟩
    · rw [List.mem_singleton.mp hp]; exact ⟨F₁.keep _ _ hcA, Nat.ne_of_lt lcA, hcAn⟩
  have htl' : @LT.lt Nat instLTNat 108 s.heap.objs.size := htl
  generalize hLL : s.heap.objs.size = L at *
  clear F₁ N₁ nN nP hid htab hcA
  k_steps
  refine stop_out ?_
  rename Fr _ _ _ _ => FA
  rename News _ _ _ _ => NA
  rename_i nt hy1 lnt hy2 oN2 dN2
  have hn5 : [cA, nt, L + 1 + 1, L + 1, 108].Nodup := List.nodup_cons.mpr ⟨fun hm => by
    rcases List.mem_cons.mp hm with e | hm
    · exact Nat.ne_of_lt lnt.2.2.2 e
    rcases List.mem_cons.mp hm with e | hm
    · exact Nat.ne_of_lt (Nat.lt_succ_of_lt (Nat.lt_succ_of_lt lcA)) e
    rcases List.mem_cons.mp hm with e | hm
    · exact Nat.ne_of_lt (Nat.lt_succ_of_lt lcA) e
    · exact hcA8 (List.mem_singleton.mp hm), nd_of (nd_cons lnt.1 (nd_cons (Nat.lt_succ_self _) (nd_cons (Nat.lt_succ_of_lt htl') (List.pairwise_singleton _ _))))⟩
  refine nestDef_K rfl rfl rfl ?_
  refine nestTab_K (x1 := (nt, listOf #[] 0)) (x2 := (L + 1 + 1, oN2)) (x3 := (L + 1, oP)) FA (fun p hp => NA p ?mem) T₂ CH₂ rfl rfl hTab (NA _ (.tail _ (.tail _ (.tail _ (.tail _ (.head _)))))) hn5 ?_
  case mem =>
    rcases List.mem_cons.mp hp with rfl | hp
    · exact .head _
    rcases List.mem_cons.mp hp with rfl | hp
    · exact .tail _ (.head _)
    rcases List.mem_cons.mp hp with rfl | hp
    · exact .tail _ (.tail _ (.head _))
    · rw [List.mem_singleton.mp hp]; exact .tail _ (.tail _ (.tail _ (.head _)))
  intro fA c' oc' vs tq ctv dcv hy3 tk3 F₃ N₃ dc1 dc2 hnd lf
  clear FA NA hn5
  k_steps
  rename Fr _ _ _ _ => FA
  rename News _ _ _ _ => NA
  rename_i hX
  have gf := NA _ (.head _)
  have gc := NA _ (.tail _ (.head _))
  have gnt := NA _ (.tail _ (.tail _ (.head _)))
  have gcN := NA _ (.tail _ (.tail _ (.tail _ (.head _))))
  have gcP := NA _ (.tail _ (.tail _ (.tail _ (.tail _ (.head _)))))
  have hcn := (List.nodup_cons.mp (List.nodup_cons.mp hnd).2).1
  have hcnt : c' ≠ nt := fun e => hcn (by rw [e]; exact .head _)
  have hc8 : c' ≠ 108 := fun e => hcn (by rw [e]; exact .tail _ (.tail _ (.tail _ (.head _))))
  have hidk : ∀ b o, b ≠ nt → hX.get? b = some o → (hideAll hX [nt]).get? b = some o := fun b o q e => hideAll_get _ e (fun hm => q (List.mem_singleton.mp hm))
  have gnt0 : ∀ b o, g.get? b = some o → (hideAll hX [nt]).get? b = some o := fun b o e => hidk b o (fun q => by rw [q, gnt.2.2] at e; cases e) (FA.keep b o e)
  refine ue_key (h₀ := hideAll hX [nt]) (src := rw) (C := fA) (nt := nt) (rs := rs) (items := items) (κ := lcut ps) (KS := fun j h => ∃ va n, h.get? nt = some (listOf va n) ∧ StrsAre va.toList ((rs.take j).map (lcut ps))) (X₂.keeps gnt0) (T₂.keeps gnt0) ?dlt (fun b o e => of_hideAll _ e) (Nat.le_of_eq (hideAll_size _ _)) (list_keeps hrw₂ gnt0) hrs hlen (hidk _ _ ?hne gf.1) rfl ⟨_, _, gnt.1, .nil⟩ (hideAll_none _ (.head _)) (fun j h ⟨va, n, e, _⟩ => ⟨_, e⟩) (fun j h h' ⟨va, n, e, q⟩ _ hk => ⟨va, n, hk _ e, q⟩) ?key ?cont
  case dlt => ktr_room
  case hne => exact Nat.ne_of_gt lf
  case key =>
    intro j r t s₁ dp' un' gd' fr' Q' E' hr hdp' hks hk₁ hQ'
    obtain ⟨va, n, hva, hvs⟩ := hks
    refine' enterNest1 ?e1 ?e2 ?e3 ?room ?e5 ?e6 ?e7 ?e8 ?_ ?e9 ?e10 ?e11
    case e1 => exact (Top.nolimit T₂).keeps fun b o e => hk₁ b o (gnt0 b o e)
    case e2 => exact hk₁ _ _ (hidk _ _ (Nat.ne_of_gt lf) gf.1)
    case e3 => exact ⟨c', oc', vs, _, rfl, hk₁ _ _ (hidk _ _ hcnt gc.1), dc1, dc2⟩
    case room =>
      show dp' < _
      have : recursionLimit = 1000 := by first | rfl | decide
      have : dp' < dp + 1 + 10 := hdp'
      omega
    case e5 => exact BindsTo.of_eq rfl
    case e6 => exact fun _ => rfl
    case e7 => exact fun _ => rfl
    case e8 => exact rfl
    case e9 => exact rfl
    case e10 => exact rfl
    case e11 => exact rfl
    intro h₂ oR F₅ goR dR
    have kg : ∀ b o, g.get? b = some o → s₁.heap.get? b = some o := fun b o e => hk₁ b o (gnt0 b o e)
    have kG : ∀ b o, g.get? b = some o → (hideAll s₁.heap [nt, L + 1 + 1, L + 1]).get? b = some o := fun b o e => hideAll_get _ (kg b o e) (fun hm => by
      rcases List.mem_cons.mp hm with q | hm
      · rw [q, gnt.2.2] at e; cases e
      rcases List.mem_cons.mp hm with q | hm
      · rw [q, gcN.2.2] at e; cases e
      · rw [List.mem_singleton.mp hm, gcP.2.2] at e; cases e)
    have X₃ : (Mine.hd.heap_39 w.params).In (hideAll s₁.heap [nt, L + 1 + 1, L + 1]) := X₂.keeps kG
    have T₃ : Top topProg looseL mean mg mb (hideAll s₁.heap [nt, L + 1 + 1, L + 1]) := T₂.keeps kG
    have hpl₃ := list_keeps hpl₂ kG
    have F₆ := fr_hide F₅ [nt, L + 1 + 1, L + 1]
    have gcN₁ := hk₁ _ _ (hidk _ _ ?n3 gcN.1)
    case n3 => exact Nat.ne_of_lt lnt.1
    have gcP₁ := hk₁ _ _ (hidk _ _ ?n4 gcP.1)
    case n4 => exact Nat.ne_of_lt lnt.2.1
    have N₆ : News (hideAll s₁.heap [nt, L + 1 + 1, L + 1]) s₁.heap.objs.size h₂ [(s₁.heap.objs.size + 1, oR), (nt, listOf va n), (L + 1 + 1, oN2), (L + 1, oP)] := fun p hp => by
      rcases List.mem_cons.mp hp with rfl | hp
      · exact ⟨goR, Nat.ne_of_gt (Nat.lt_succ_self _), Heap.get?_none_of_le (by rw [hideAll_size]; exact Nat.le_succ _)⟩
      rcases List.mem_cons.mp hp with rfl | hp
      · exact ⟨F₅.keep _ _ hva, Nat.ne_of_lt (Heap.lt_size hva), hideAll_none _ (.head _)⟩
      rcases List.mem_cons.mp hp with rfl | hp
      · exact ⟨F₅.keep _ _ gcN₁, Nat.ne_of_lt (Heap.lt_size gcN₁), hideAll_none _ (.tail _ (.head _))⟩
      · rw [List.mem_singleton.mp hp]
        exact ⟨F₅.keep _ _ gcP₁, Nat.ne_of_lt (Heap.lt_size gcP₁), hideAll_none _ (.tail _ (.tail _ (.head _)))⟩
    have hGG : ∀ b o, b ≠ nt → b ≠ L + 1 + 1 → b ≠ L + 1 → s₁.heap.get? b = some o → (hideAll s₁.heap [nt, L + 1 + 1, L + 1]).get? b = some o := fun b o q1 q2 q3 e => hideAll_get _ e (fun hm => by
      rcases List.mem_cons.mp hm with q | hm
      · exact q1 q
      rcases List.mem_cons.mp hm with q | hm
      · exact q2 q
      · exact q3 (List.mem_singleton.mp hm))
    clear X₂ T₂ gf gc FA NA F₅
    generalize hideAll s₁.heap [nt, L + 1 + 1, L + 1] = G at *
    generalize hL2 : s₁.heap.objs.size = L2 at *
    k_steps
    refine stop_out ?_
    refine wpAny_ListComp_free (fun _ => true) (fun v y => ∀ n t, v = Value.int n t → ∃ u, y = Value.str (Txt.item r n) u) (by rfl) (by decide) rfl (by decide) rfl ?_
    k_steps
    rename Fr _ _ _ _ => FA
    rename News _ _ _ _ => NA
    refine wpAny_pyIter_list (list_keeps hpl₃ FA.keep) ?_
    have hpI : pl < h₂.objs.size := let ⟨_, q, _⟩ := hpl₃; Heap.lt_size (FA.keep _ _ q)
    have hoRB := (NA _ (.head _)).1
    have hpsz := ints_len hpi
    refine ⟨h₂.objs.size, [h₂.objs.size, pl], [h₂.objs.size], pitems.size, _, _, rfl, Walks.list rfl _ pl (Nat.ne_of_lt hpI) pitems, ?_, ⟨⟨_, Heap.get?_push_size _ rfl, rfl, rfl⟩, list_keeps hpl₃ fun b o e => Heap.get?_push_of_some _ (FA.keep b o e)⟩, ?_, ⟨?_, ?_⟩, ?_⟩
    · have : 1000 ≤ sizeLine := by decide
      omega
    · intro b hb
      show b < (h₂.push _).objs.size
      rw [Heap.size_push]
      rcases List.mem_cons.mp hb with rfl | hb
      · exact Nat.lt_succ_self _
      · rw [List.mem_singleton.mp hb]; exact Nat.lt_succ_of_lt hpI
    · exact fun C i v s₃ m₃ E'' _ _ _ _ _ _ => wpAny_pure ⟨rfl, s₃.heap, s₃.toks, rfl, fun _ _ e => e⟩
    · intro C i v s₃ m₃ E'' _ hv _ hn hm hk _
      obtain ⟨p, tp, rfl, hp⟩ := ints_at hpi hv
      have hpp := hp10 p (List.mem_of_getElem? hp)
      have hrl := hr10 r (List.mem_of_getElem? hr)
      refine Subscript_ (wpAny_Name (wpAny_loadName_cell rfl rfl rfl ⟨oR, hk _ _ (fun q => Nat.ne_of_lt (Heap.lt_size hoRB) (List.mem_singleton.mp q)) (Heap.get?_push_of_some _ hoRB), dR⟩ ?_))
      refine wpAny_Name (wpAny_loadName_local rfl rfl hn hm ?_)
      refine KXi.item (n := 10) hrl (by omega) (by omega) (by omega) (fun _ => ⟨fun n' t' e => ?_, s₃.heap, _, rfl, fun _ _ e => e⟩)
      cases e
      exact ⟨_, rfl⟩
    · intro Dl h₇ tk₇ ys vsl hD0 hDl hDp hvl hvs' hpair hkk
      rw [List.filter_eq_self.mpr (fun _ _ => rfl)] at hpair
      have hstr : StrsAre ys.toList (ps.map (Txt.item r)) := pair_strs (by rw [hvl, hpsz]) (fun j v hj => ints_at hpi (hvs' j v hj)) hpair
      have kB : ∀ b o, h₂.get? b = some o → h₇.get? b = some o := fun b o e => hkk b o (fun q => Nat.ne_of_lt (Heap.lt_size e) (List.mem_singleton.mp q)) (Heap.get?_push_of_some _ e)
      have FB := fr_keeps FA kB
      have NB := news_keeps NA kB
      clear FA NA
      dsimp only
      k_steps
      refine join_listC (items := ys) (ys := ps.map (Txt.item r)) hDl hstr (by decide) ?_ fun t' k => ?_
      · have := items_sum r ps
        rw [List.length_map]
        omega
      have o1 : @LT.lt Nat instLTNat nt L2 := by rw [← hL2]; exact Heap.lt_size hva
      have o2 : @LT.lt Nat instLTNat (L + 1 + 1) nt := lnt.1
      have o3 : @LT.lt Nat instLTNat (L + 1) nt := lnt.2.1
      have oV : va.size ≤ 64 := by
        rw [← Array.length_toList, hvs.length, List.length_map, List.length_take]
        omega
      k_steps
      dsimp only
      rename Fr _ _ _ _ => FA
      rename News _ _ _ _ => NA
      have hget : (List.map (lcut ps) (List.take j rs) ++ [Txt.join (Str.ofString "") (List.map (Txt.item r) ps)]).getD (-1 + ((List.map (lcut ps) (List.take j rs) ++ [Txt.join (Str.ofString "") (List.map (Txt.item r) ps)]).length : Int)).toNat Str.empty = lcut ps r := by
        have e1 : (-1 + ((List.map (lcut ps) (List.take j rs) ++ [Txt.join (Str.ofString "") (List.map (Txt.item r) ps)]).length : Int)).toNat = (List.map (lcut ps) (List.take j rs)).length := by
          rw [List.length_append, List.length_singleton]
          omega
        rw [e1, List.getD_eq_getElem?_getD, List.getElem?_append_right (Nat.le_refl _), Nat.sub_self]
        rfl
      rw [hget]
      refine hQ' _ _ _ ⟨_, _, (NA _ (.tail _ (.head _))).1, ?_⟩ (fun b o hb e => ?_)
      · rw [List.take_succ, hr, List.map_append]
        exact strs_push hvs
      · by_cases q1 : b = L + 1 + 1
        · rw [q1, gcN₁] at e; cases e; rw [q1]; exact (NA _ (.tail _ (.tail _ (.head _)))).1
        by_cases q2 : b = L + 1
        · rw [q2, gcP₁] at e; cases e; rw [q2]; exact (NA _ (.tail _ (.tail _ (.tail _ (.head _))))).1
        exact FA.keep b o (hGG b o hb q1 q2 e)
  case cont =>
    intro a s' hk' hdr hos hbare hlist
    have FB := fr_keeps FA hk'
    have NB := news_keeps NA hk'
    have back : ∀ (h' : Heap) (on' : Obj), (∀ b o, (hideAll hX [nt]).get? b = some o → h'.get? b = some o) → h'.get? nt = some on' → Fr g L h' _ ∧ News g L h' _ := fun h' on' kk hon' =>
      news_upd (pre := [(fA, _), (c', oc')]) (d := nt) (o' := on') FA NA ?nd (fun b o hb e => kk b o (hidk b o hb e)) hon'
    case nd => exact hnd
    clear FA NA
    k_steps
    refine hlist _ _ (fun h₇ g₇ tk₇ acc cc hkeep hks hbt hSl hstr => ?_)
    obtain ⟨va, n, hva, hvs⟩ := hks
    obtain ⟨FA, NA⟩ := back _ _ hkeep hva
    rw [List.take_of_length_le (Nat.le_refl _)] at hvs
    rename Fr g L s'.heap _ => FS'
    have fS := news_fresh FS' (Nat.le_refl s'.heap.objs.size)
    have NC : News g L h₇ ((s'.heap.objs.size, listOf acc cc) :: _) := fun p hp => by
      rcases List.mem_cons.mp hp with rfl | hp
      · exact ⟨hSl, fS⟩
      · exact NA p hp
    clear back NA FS'
    have hnl : (nubK (lcut ps) [] rs).length ≤ 64 := Nat.le_trans (nubK_le _ _ _) hlen
    have oV : acc.size ≤ 64 := by rw [← Array.length_toList, hstr.length]; exact hnl
    have oV2 : va.size ≤ 64 := by rw [← Array.length_toList, hvs.length, List.length_map]; exact hlen
    generalize hSS : s'.heap.objs.size = S at *
    k_steps
    refine stop_out ?_
    refine wpAny_ListComp_free (fun _ => true) (fun v y => ∀ k t, v = Value.str k t → ∃ u, y = Value.int (PySem.Spec.countIn (.str k) ((rs.map (lcut ps)).map PyData.str)) u) (by rfl) (by decide) rfl (by decide) rfl ?_
    k_steps
    rename Fr _ _ _ _ => FA
    rename News _ _ _ _ => NA
    have gnt7 := NA _ (.tail _ (.tail _ (.tail _ (.head _))))
    refine wpAny_pyIter_list (l := nt) (items := va) ⟨_, gnt7.1, rfl, _, rfl⟩ ?_
    rename_i hvs hY
    have hntI : nt < hY.objs.size := Heap.lt_size gnt7.1
    have gcN7 := (NA _ (.tail _ (.tail _ (.tail _ (.tail _ (.head _)))))).1
    have hvsz : va.size = rs.length := by rw [← Array.length_toList, hvs.length, List.length_map]
    refine ⟨hY.objs.size, [hY.objs.size, nt], [hY.objs.size], va.size, _, _, rfl, Walks.list rfl _ nt (Nat.ne_of_lt hntI) va, ?_, ⟨⟨_, Heap.get?_push_size _ rfl, rfl, rfl⟩, ⟨_, Heap.get?_push_of_some _ gnt7.1, rfl, _, rfl⟩⟩, ?_, ⟨?_, ?_⟩, ?_⟩
    · have : 1000 ≤ sizeLine := by decide
      omega
    · intro b hb
      show b < (hY.push _).objs.size
      rw [Heap.size_push]
      rcases List.mem_cons.mp hb with rfl | hb
      · exact Nat.lt_succ_self _
      · rw [List.mem_singleton.mp hb]; exact Nat.lt_succ_of_lt hntI
    · exact fun C i v s₃ m₃ E'' _ _ _ _ _ _ => wpAny_pure ⟨rfl, s₃.heap, s₃.toks, rfl, fun _ _ e => e⟩
    · intro C i v s₃ m₃ E'' _ hv _ hnn hm hk _
      obtain ⟨r, tp, rfl, hr⟩ := strs_get hvs hv
      have hnt3 : s₃.heap.get? nt = some (listOf va n) := hk _ _ (fun q => Nat.ne_of_lt hntI (List.mem_singleton.mp q)) (Heap.get?_push_of_some _ gnt7.1)
      have hcn3 := hk _ _ (fun q => Nat.ne_of_lt (Heap.lt_size gcN7) (List.mem_singleton.mp q)) (Heap.get?_push_of_some _ gcN7)
      have hl3 : s₃.heap.IsList nt va.toList.toArray := ⟨_, hnt3, rfl, _, rfl⟩
      refine methodCall_KW (wpAny_Name (wpAny_loadName_cell rfl rfl rfl ⟨_, hcn3, dN2⟩ ?_))
      refine getMethod_builtin hl3.typeIs PySem.F.plainAttrs_list PySem.F.slot_list_count PySem.F.type_list_count (fun a e => by cases e; exact ⟨_, hnt3, rfl⟩) ?_
      refine Calls.callWith_builtin rfl ?_
      refine Calls.evalArgs_plain ?_
      refine Calls.spliced_cons (wpAny_Name (wpAny_loadName_local rfl rfl hnn hm ?_))
      refine Calls.spliced_nil ?_
      refine count_list_strs hl3 hvs ⟨fun k' t' e => ?_, s₃.heap, _, rfl, fun _ _ e => e⟩
      cases e
      exact ⟨_, rfl⟩
    · intro Dl h₈ tk₈ ys vsl hD0 hDl hDp hvl hvs' hpair hkk
      rw [List.filter_eq_self.mpr (fun _ _ => rfl)] at hpair
      have hints : IntsAre ys.toList ((rs.map (lcut ps)).map fun k => PySem.Spec.countIn (.str k) ((rs.map (lcut ps)).map PyData.str)) := pair_ints (by rw [hvl, hvsz, List.length_map]) (fun j v hj => strs_get hvs (hvs' j v hj)) hpair
      have hpos2 : 0 < ((rs.map (lcut ps)).map fun k => PySem.Spec.countIn (.str k) ((rs.map (lcut ps)).map PyData.str)).length := by rw [List.length_map, List.length_map]; exact hrpos
      have kB : ∀ b o, hY.get? b = some o → h₈.get? b = some o := fun b o e => hkk b o (fun q => Nat.ne_of_lt (Heap.lt_size e) (List.mem_singleton.mp q)) (Heap.get?_push_of_some _ e)
      have FB := fr_keeps FA kB
      have NB := news_keeps NA kB
      clear FA NA
      dsimp only
      k_steps
      rename News _ _ _ _ => NA
      rename Fr _ _ _ _ => FA
      have gT := NA _ (.head _)
      have gc := NA _ (.tail _ (.tail _ (.tail _ (.head _))))
      have gcN' := NA _ (.tail _ (.tail _ (.tail _ (.tail _ (.tail _ (.head _))))))
      have g108' := NA _ (.tail _ (.tail _ (.tail _ (.tail _ (.tail _ (.tail _ (.tail _ (.head _))))))))
      exact hQ _ _ _ _ c' _ _ _ oc' FA.keep hbt g108'.1 gc.1 (.inr ⟨rfl, vs, tq, dc1, dc2⟩) gc.2.2 hc8 gT.1 gT.2.2 (by assumption) (by assumption)
end Mine
end PartLwC

section PartLawP
open PySem PySem.W PyProof.Rows PySem.Calls
set_option maxRecDepth 100000
namespace Mine
/-- the places of s -/
def plN (s : Nat) : List Nat := (List.range 5).filter fun p => s / 2 ^ p % 2 == 1
def plI (s : Nat) : List Int := (plN s).map fun p : Nat => (5 : Int) + (p : Int)
theorem plN_len : ∀ s < 32, (plN s).length = pc 5 s := by decide +kernel
theorem plI_len {s : Nat} (h : s < 32) : (plI s).length = pc 5 s := by rw [plI, List.length_map, plN_len s h]
theorem plI_len5 {s : Nat} (h : s < 32) : (plI s).length ≤ 5 := by rw [plI_len h]; exact pc_le 5 s
theorem plI_mem {s : Nat} : ∀ p ∈ plI s, 0 ≤ p ∧ p < 10 := by
  intro p hp
  obtain ⟨q, hq, rfl⟩ := List.mem_map.mp hp
  exact (show ∀ q < 5, 0 ≤ (5 : Int) + ((q : Nat) : Int) ∧ (5 : Int) + ((q : Nat) : Int) < 10 by decide) q (List.mem_range.mp (List.mem_filter.mp hq).1)
theorem rv_bit : ∀ p < 5, ∀ d < 32, rv d / 2 ^ p % 2 = d / 2 ^ (4 - p) % 2 := by decide +kernel
theorem sgAt_eq {p d e : Nat} (hp : p < 5) : sgAt p d = sgAt p e ↔ d / 2 ^ (4 - p) % 2 = e / 2 ^ (4 - p) % 2 := by
  have h3 : ([119, 120, 114, 119, 120] : List Nat).getD p 0 ≠ 45 := by
    match p, hp with
    | 0, _ | 1, _ | 2, _ | 3, _ | 4, _ => decide
  unfold sgAt
  rcases Nat.mod_two_eq_zero_or_one (d / 2 ^ (4 - p)) with h | h <;> rcases Nat.mod_two_eq_zero_or_one (e / 2 ^ (4 - p)) with k | k <;> rw [h, k]
  · exact ⟨fun _ => rfl, fun _ => rfl⟩
  · exact ⟨fun z => absurd (Eq.symm z) h3, fun z => nomatch z⟩
  · exact ⟨fun z => absurd z h3, fun z => nomatch z⟩
  · exact ⟨fun _ => rfl, fun _ => rfl⟩
theorem msk_iff : ∀ (n s x y : Nat), (msk n s x = msk n s y ↔ ∀ p, p < n → s / 2 ^ p % 2 = 1 → x / 2 ^ p % 2 = y / 2 ^ p % 2)
  | 0, _, _, _ => ⟨fun _ p hp => absurd hp (Nat.not_lt_zero p), fun _ => rfl⟩
  | n + 1, s, x, y => by
    have e : ∀ z p : Nat, z / 2 ^ (p + 1) = z / 2 / 2 ^ p := fun z p => by rw [Nat.pow_succ, Nat.mul_comm, Nat.div_div_eq_div_mul]
    have up : (∀ p, p < n → s / 2 / 2 ^ p % 2 = 1 → x / 2 / 2 ^ p % 2 = y / 2 / 2 ^ p % 2) → ∀ p, p + 1 < n + 1 → s / 2 ^ (p + 1) % 2 = 1 → x / 2 ^ (p + 1) % 2 = y / 2 ^ (p + 1) % 2 := fun h p hp hs => by
      rw [e] at hs ⊢; rw [e]; exact h p (Nat.lt_of_succ_lt_succ hp) hs
    have dn : (∀ p, p < n + 1 → s / 2 ^ p % 2 = 1 → x / 2 ^ p % 2 = y / 2 ^ p % 2) → ∀ p, p < n → s / 2 / 2 ^ p % 2 = 1 → x / 2 / 2 ^ p % 2 = y / 2 / 2 ^ p % 2 := fun h p hp hs => by
      have := h (p + 1) (Nat.succ_lt_succ hp) (by rw [e]; exact hs)
      rwa [e, e] at this
    rcases Nat.mod_two_eq_zero_or_one s with q | q
    · rw [me0 q, msk_iff n]
      refine ⟨fun h p hp hs => ?_, dn⟩
      cases p with
      | zero => rw [Nat.pow_zero, Nat.div_one, q] at hs; cases hs
      | succ p => exact up h p hp hs
    · rw [me1 q, msk_iff n]
      refine ⟨fun ⟨h, h2⟩ p hp hs => ?_, fun h => ⟨dn h, ?_⟩⟩
      · cases p with
        | zero => rw [Nat.pow_zero, Nat.div_one, Nat.div_one]; exact h2
        | succ p => exact up h p hp hs
      · have := h 0 (Nat.succ_pos n) (by rw [Nat.pow_zero, Nat.div_one]; exact q)
        rwa [Nat.pow_zero, Nat.div_one, Nat.div_one] at this
/-- a row's sign at place 5+p -/
theorem row_at {sg : PySem.Str} (hl : sg.length = 1) {p : Nat} (hp : p < 5) (d : Nat) : Txt.item (rowOf sg d) (5 + (p : Int)) = ⟨#[sgAt p d]⟩ := by
  obtain ⟨⟨l⟩⟩ := sg
  match l, hl with
  | [c], _ =>
    match p, hp with
    | 0, _ | 1, _ | 2, _ | 3, _ | 4, _ => rfl
theorem lcut_row {sg : PySem.Str} (hl : sg.length = 1) (s d : Nat) : lcut (plI s) (rowOf sg d) = ⟨((plN s).map fun p => sgAt p d).toArray⟩ := by
  unfold lcut plI
  rw [← join0, List.map_map, List.map_map]
  congr 1
  refine List.map_congr_left fun p hp => ?_
  have hp5 : p < 5 := List.mem_range.mp (List.mem_filter.mp hp).1
  exact row_at hl hp5 d
theorem proj_iff {sg : PySem.Str} (hl : sg.length = 1) {s d e : Nat} (hd : d < 32) (he : e < 32) : lcut (plI s) (rowOf sg d) = lcut (plI s) (rowOf sg e) ↔ msk 5 s (rv d) = msk 5 s (rv e) := by
  rw [lcut_row hl, lcut_row hl, msk_iff]
  constructor
  · intro h p hp hs
    rw [rv_bit p hp d hd, rv_bit p hp e he]
    have h1 : ((plN s).map fun p => sgAt p d) = (plN s).map fun p => sgAt p e := by
      have := congrArg (fun z : PySem.Str => z.cps.toList) h
      simpa using this
    have h2 := List.map_inj_left.mp h1 p (List.mem_filter.mpr ⟨List.mem_range.mpr hp, by simpa using hs⟩)
    exact (sgAt_eq hp).mp h2
  · intro h
    congr 2
    refine List.map_congr_left fun p hp => ?_
    have hp5 : p < 5 := List.mem_range.mp (List.mem_filter.mp hp).1
    have := h p hp5 (by simpa using (List.mem_filter.mp hp).2)
    rw [rv_bit p hp5 d hd, rv_bit p hp5 e he] at this
    exact (sgAt_eq hp5).mpr this
theorem bits_inj : ∀ d < 32, ∀ e < 32, (∀ p < 5, d / 2 ^ (4 - p) % 2 = e / 2 ^ (4 - p) % 2) → d = e := fun d hd e he h => by
  have a : d % 2 = e % 2 := by
    have := h 4 (by decide)
    rwa [Nat.sub_self, Nat.pow_zero, Nat.div_one, Nat.div_one] at this
  refine rv_inj hd he ?_
  unfold rv
  rw [a, show d / 2 % 2 = e / 2 % 2 from h 3 (by decide), show d / 4 % 2 = e / 4 % 2 from h 2 (by decide), show d / 8 % 2 = e / 8 % 2 from h 1 (by decide), show d / 16 % 2 = e / 16 % 2 from h 0 (by decide)]
theorem rowOf_inj {sg : PySem.Str} {d e : Nat} (hd : d < 32) (he : e < 32) (h : rowOf sg d = rowOf sg e) : d = e := by
  have h1 : ((List.range 5).map fun p => sgAt p d) = (List.range 5).map fun p => sgAt p e := by
    have := congrArg (fun z : PySem.Str => z.cps.toList) h
    simpa [rowOf] using this
  have h2 : ∀ p < 5, d / 2 ^ (4 - p) % 2 = e / 2 ^ (4 - p) % 2 := fun p hp => (sgAt_eq hp).mp (List.map_inj_left.mp h1 p (List.mem_range.mpr hp))
  exact bits_inj d hd e he h2
theorem nub_inj {α β : Type} [DecidableEq α] [DecidableEq β] (f : α → β) : ∀ (l S : List α), (∀ x ∈ l, ∀ y ∈ S ++ l, f x = f y → x = y) → nubK id (S.map f) (l.map f) = (nubK id S l).map f
  | [], _, _ => rfl
  | x :: l, S, H => by
    rw [List.map_cons]
    unfold nubK
    have e : f x ∈ S.map f ↔ x ∈ S := by
      constructor
      · intro h
        obtain ⟨y, hy, q⟩ := List.mem_map.mp h
        rw [H x (.head _) y (List.mem_append.mpr (.inl hy)) q.symm]; exact hy
      · exact fun h => List.mem_map.mpr ⟨x, h, rfl⟩
    by_cases q : x ∈ S
    · have q' := e.mpr q
      simp only [id, q, q', if_true]
      exact nub_inj f l S fun a ha b hb => H a (.tail _ ha) b (by
        rcases List.mem_append.mp hb with hb | hb
        · exact List.mem_append.mpr (.inl hb)
        · exact List.mem_append.mpr (.inr (.tail _ hb)))
    · have q' : f x ∉ S.map f := fun z => q (e.mp z)
      simp only [id, q, q', if_false, List.map_cons]
      have := nub_inj f l (x :: S) fun a ha b hb => H a (.tail _ ha) b (by
        rcases List.mem_append.mp hb with hb | hb
        · rcases List.mem_cons.mp hb with rfl | hb
          · exact List.mem_append.mpr (.inr (.head _))
          · exact List.mem_append.mpr (.inl hb)
        · exact List.mem_append.mpr (.inr (.tail _ hb)))
      rw [List.map_cons] at this
      rw [this]
theorem nub_rows {sg : PySem.Str} {l : List Nat} (h : ∀ d ∈ l, d < 32) : nubK id [] (l.map (rowOf sg)) = (nubK id [] l).map (rowOf sg) :=
  nub_inj (rowOf sg) l [] fun x hx y hy e => rowOf_inj (h x hx) (h y (by simpa using hy)) e
theorem nub_snoc {α : Type} [DecidableEq α] (x : α) : ∀ (l S : List α), nubK id S (l ++ [x]) = nubK id S l ++ (if x ∈ l ∨ x ∈ S then [] else [x])
  | [], S => by
    simp only [List.nil_append, nubK, id, List.not_mem_nil, false_or]
  | y :: l, S => by
    rw [List.cons_append]
    unfold nubK
    by_cases q : y ∈ S
    · simp only [id, q, if_true]
      rw [nub_snoc x l S]
      congr 1
      by_cases e : x = y
      · subst e; simp [q]
      · simp [e]
    · simp only [id, q, if_false, List.cons_append]
      rw [nub_snoc x l (y :: S)]
      congr 2
      simp only [List.mem_cons]
      by_cases h1 : x = y <;> by_cases h2 : x ∈ l <;> by_cases h3 : x ∈ S <;> simp [h1, h2, h3]
theorem nub_take {α : Type} [DecidableEq α] {l : List α} {k : Nat} {x : α} (h : l[k]? = some x) : nubK id [] (l.take (k + 1)) = nubK id [] (l.take k) ++ (if x ∈ l.take k then [] else [x]) := by
  rw [List.take_succ, h]
  show nubK id [] (l.take k ++ [x]) = _
  rw [nub_snoc]
  simp
theorem countIn_str (k : PySem.Str) : ∀ l : List PySem.Str, PySem.Spec.countIn (.str k) (l.map PyData.str) = (l.count k : Nat)
  | [] => rfl
  | x :: l => by
    rw [List.map_cons]
    show (if PySem.Spec.same (.str x) (.str k) then (1 : Int) else 0) + PySem.Spec.countIn (.str k) (l.map PyData.str) = _
    rw [countIn_str k l, List.count_cons]
    have : PySem.Spec.same (.str x) (.str k) = (x == k) := by simp [PySem.Spec.same]
    rw [this]
    cases x == k
    · exact Int.zero_add _
    · exact Int.add_comm 1 _
/-- the greatest count -/
def most (l : List PySem.Str) : Nat := (l.map fun k => l.count k).foldr max 0
theorem foldr_max : ∀ (l : List Nat), (l ≠ [] → l.foldr max 0 ∈ l) ∧ ∀ a ∈ l, a ≤ l.foldr max 0
  | [] => ⟨fun h => absurd rfl h, fun _ h => nomatch h⟩
  | a :: l => by
    have h := foldr_max l
    rw [List.foldr_cons]
    constructor
    · intro _
      by_cases q : l = []
      · subst q; simp
      · rcases Nat.le_total a (l.foldr max 0) with e | e
        · rw [Nat.max_eq_right e]; exact .tail _ (h.1 q)
        · rw [Nat.max_eq_left e]; exact .head _
    · intro b hb
      rcases List.mem_cons.mp hb with rfl | hb
      · exact Nat.le_max_left ..
      · exact Nat.le_trans (h.2 b hb) (Nat.le_max_right ..)
theorem most_eq {l : List PySem.Str} {M : Int} (h1 : M ∈ l.map fun k => PySem.Spec.countIn (.str k) (l.map PyData.str)) (h2 : ∀ a ∈ l.map fun k => PySem.Spec.countIn (.str k) (l.map PyData.str), a ≤ M) : M = (most l : Nat) := by
  obtain ⟨k, hk, rfl⟩ := List.mem_map.mp h1
  rw [countIn_str]
  have h := foldr_max (l.map fun k => l.count k)
  have e1 := h.2 (l.count k) (List.mem_map.mpr ⟨k, hk, rfl⟩)
  have e2 : most l ∈ l.map fun k => l.count k := h.1 (fun q => by
    have : (l.map fun k => l.count k).length = 0 := by rw [q]; rfl
    rw [List.length_map] at this
    rw [List.length_eq_zero_iff.mp this] at hk; cases hk)
  obtain ⟨k', hk', q⟩ := List.mem_map.mp e2
  have e3 := h2 _ (List.mem_map.mpr ⟨k', hk', rfl⟩)
  rw [countIn_str, countIn_str, q] at e3
  exact congrArg (fun n : Nat => (n : Int)) (Nat.le_antisymm e1 (Int.ofNat_le.mp e3))
theorem pair_ii {f : Int → Int} : ∀ {vs : List Value} {ns : List Int} {ys : List Value}, vs.length = ns.length → (∀ (j : Nat) (v : Value), vs[j]? = some v → ∃ n t, v = Value.int n t ∧ ns[j]? = some n) →
    Paired (fun v y => ∀ n t, v = Value.int n t → ∃ u, y = Value.int (f n) u) vs ys → IntsAre ys (ns.map f)
  | [], [], _, _, _, .nil => .nil
  | [], _ :: _, _, h, _, _ => by cases h
  | _ :: _, [], _, h, _, _ => by cases h
  | v :: vs, n :: ns, _, hl, hv, .cons hF hP => by
    obtain ⟨n', t, rfl, hn⟩ := hv 0 v rfl
    obtain rfl : n = n' := by simpa using hn
    obtain ⟨u, rfl⟩ := hF n t rfl
    exact .cons _ _ (pair_ii (by simpa using hl) (fun j v hj => by simpa using hv (j + 1) v (by simpa using hj)) hP)
theorem new_off {h₀ h : Heap} {L D : Addr} {m : PySem.Str → Option Value} (F : Fr h₀ L h m) (hD : h.get? D = none) : D ≠ L ∧ h₀.get? D = none := by
  constructor
  · rintro rfl
    obtain ⟨o, _, _, ho, _⟩ := F.ns
    rw [hD] at ho; cases ho
  · cases q : h₀.get? D with
    | none => rfl
    | some o => have := F.keep _ _ q; rw [hD] at this; cases this
theorem new_ne {h₀ h : Heap} {L D : Addr} {news : List (Addr × Obj)} (N : News h₀ L h news) (hD : h.get? D = none) : ∀ p ∈ news, @Ne Nat D p.1 := fun p hp e => by
  have := (N p hp).1
  rw [← (e : D = p.1), hD] at this; cases this
/-- the numbers of a script -/
def numsN (xs : List Int) : List Nat := (xs.take 10).map (fun n => (Int.fmod n 32).toNat) ++ [21]
theorem numsN_lt {xs : List Int} : ∀ d ∈ numsN xs, d < 32 := by
  intro d hd
  rcases List.mem_append.mp hd with h | h
  · obtain ⟨n, _, rfl⟩ := List.mem_map.mp h
    have h1 := PySem.W.fmod_lo n (n := 32) (by decide)
    exact (Int.toNat_lt h1).mpr (PySem.W.fmod_hi n (n := 32) (by decide))
  · rw [List.mem_singleton.mp h]; decide
theorem numsN_len (xs : List Int) : (numsN xs).length ≤ 11 := by
  unfold numsN
  rw [List.length_append, List.length_map, List.length_take, List.length_singleton]
  exact Nat.succ_le_succ (Nat.min_le_left ..)
theorem numsN_ne (xs : List Int) : numsN xs ≠ [] := by unfold numsN; simp
theorem numsN_int (xs : List Int) : (List.take 10 xs).map (fun n => Int.fmod n 32) ++ [21] = (numsN xs).map fun n : Nat => (n : Int) := by
  unfold numsN
  rw [List.map_append, List.map_map]
  congr 1
  refine List.map_congr_left fun n _ => ?_
  have h1 := PySem.W.fmod_lo n (n := 32) (by decide)
  exact (Int.toNat_of_nonneg h1).symm
theorem new_lt {h₀ h : Heap} {L : Addr} {news : List (Addr × Obj)} (N : News h₀ L h news) : ∀ p ∈ news, @LT.lt Nat instLTNat p.1 h.objs.size := fun p hp => Heap.lt_size (N p hp).1
theorem ltc5 {N L : Nat} (h : L + 1 + 1 + 1 + 1 < N) (h0 : 108 < L) : @LT.lt Nat instLTNat (L + 1 + 1 + 1 + 1) N ∧ @LT.lt Nat instLTNat (L + 1 + 1 + 1) N ∧ @LT.lt Nat instLTNat (L + 1 + 1) N ∧ @LT.lt Nat instLTNat (L + 1) N ∧ @LT.lt Nat instLTNat 108 N := 
  have a := Nat.lt_of_succ_lt h
  have b := Nat.lt_of_succ_lt a
  have c := Nat.lt_of_succ_lt b
  ⟨h, a, b, c, Nat.lt_trans h0 (Nat.lt_of_succ_lt c)⟩
theorem ltc6 {R N L : Nat} (h : N < R) (h0 : L + 1 + 1 + 1 + 1 < N ∧ L + 1 + 1 + 1 < N ∧ L + 1 + 1 < N ∧ L + 1 < N ∧ 108 < N) : @LT.lt Nat instLTNat N R ∧ @LT.lt Nat instLTNat (L + 1 + 1 + 1 + 1) R ∧ @LT.lt Nat instLTNat (L + 1 + 1 + 1) R ∧ @LT.lt Nat instLTNat (L + 1 + 1) R ∧ @LT.lt Nat instLTNat (L + 1) R ∧ @LT.lt Nat instLTNat 108 R := ⟨h, Nat.lt_trans h0.1 h, Nat.lt_trans h0.2.1 h, Nat.lt_trans h0.2.2.1 h, Nat.lt_trans h0.2.2.2.1 h, Nat.lt_trans h0.2.2.2.2 h⟩
theorem ltc7 {D R N L : Nat} (h : R < D) (h0 : N < R ∧ L + 1 + 1 + 1 + 1 < R ∧ L + 1 + 1 + 1 < R ∧ L + 1 + 1 < R ∧ L + 1 < R ∧ 108 < R) : @LT.lt Nat instLTNat R D ∧ @LT.lt Nat instLTNat N D ∧ @LT.lt Nat instLTNat (L + 1 + 1 + 1 + 1) D ∧ @LT.lt Nat instLTNat (L + 1 + 1 + 1) D ∧ @LT.lt Nat instLTNat (L + 1 + 1) D ∧ @LT.lt Nat instLTNat (L + 1) D ∧ @LT.lt Nat instLTNat 108 D := ⟨h, Nat.lt_trans h0.1 h, Nat.lt_trans h0.2.1 h, Nat.lt_trans h0.2.2.1 h, Nat.lt_trans h0.2.2.2.1 h, Nat.lt_trans h0.2.2.2.2.1 h, Nat.lt_trans h0.2.2.2.2.2 h⟩
theorem ltc8 {I D R N L : Nat} (h : D < I) (h0 : R < D ∧ N < D ∧ L + 1 + 1 + 1 + 1 < D ∧ L + 1 + 1 + 1 < D ∧ L + 1 + 1 < D ∧ L + 1 < D ∧ 108 < D) : @LT.lt Nat instLTNat D I ∧ @LT.lt Nat instLTNat R I ∧ @LT.lt Nat instLTNat N I ∧ @LT.lt Nat instLTNat (L + 1 + 1 + 1 + 1) I ∧ @LT.lt Nat instLTNat (L + 1 + 1 + 1) I ∧ @LT.lt Nat instLTNat (L + 1 + 1) I ∧ @LT.lt Nat instLTNat (L + 1) I ∧ @LT.lt Nat instLTNat 108 I := ⟨h, Nat.lt_trans h0.1 h, Nat.lt_trans h0.2.1 h, Nat.lt_trans h0.2.2.1 h, Nat.lt_trans h0.2.2.2.1 h, Nat.lt_trans h0.2.2.2.2.1 h, Nat.lt_trans h0.2.2.2.2.2.1 h, Nat.lt_trans h0.2.2.2.2.2.2 h⟩
theorem kind_len : ∀ e ∈ kindTab, e.2.length = 1 := by decide
theorem getD_int {N0 : List Nat} {i : Nat} : (N0.map fun n : Nat => (n : Int)).getD ((i : Nat) : Int).toNat 0 = ((N0.getD i 0 : Nat) : Int) := by
  rw [Int.toNat_natCast, List.getD_eq_getElem?_getD, List.getD_eq_getElem?_getD, List.getElem?_map]
  cases N0[i]? <;> rfl
theorem any_iff {N0 : List Nat} {i : Nat} : ((List.take ((i : Nat) : Int).toNat (N0.map fun n : Nat => (n : Int))).any fun x => x == (N0.map fun n : Nat => (n : Int)).getD ((i : Nat) : Int).toNat 0) = true ↔ N0.getD i 0 ∈ N0.take i := by
  rw [getD_int, Int.toNat_natCast, ← List.map_take, List.any_eq_true]
  constructor
  · rintro ⟨x, hx, e⟩
    obtain ⟨n, hn, rfl⟩ := List.mem_map.mp hx
    have : n = N0.getD i 0 := Int.ofNat_inj.mp (eq_of_beq e)
    rw [← this]; exact hn
  · intro h
    exact ⟨_, List.mem_map.mpr ⟨_, h, rfl⟩, beq_self_eq_true _⟩
theorem getD_at {N0 : List Nat} {i : Nat} (hi : i < N0.length) : N0[i]? = some (N0.getD i 0) := by
  rw [List.getD_eq_getElem?_getD, List.getElem?_eq_getElem hi]; rfl
theorem due_skip {N0 : List Nat} {i : Nat} (hi : i < N0.length) (h : ((List.take ((i : Nat) : Int).toNat (N0.map fun n : Nat => (n : Int))).any fun x => x == (N0.map fun n : Nat => (n : Int)).getD ((i : Nat) : Int).toNat 0) = true) : nubK id [] (N0.take (i + 1)) = nubK id [] (N0.take i) := by
  rw [nub_take (getD_at hi), if_pos (any_iff.mp h), List.append_nil]
theorem due_add {N0 : List Nat} {i : Nat} (hi : i < N0.length) (h : ((List.take ((i : Nat) : Int).toNat (N0.map fun n : Nat => (n : Int))).any fun x => x == (N0.map fun n : Nat => (n : Int)).getD ((i : Nat) : Int).toNat 0) = false) : nubK id [] (N0.take (i + 1)) = nubK id [] (N0.take i) ++ [N0.getD i 0] := by
  rw [nub_take (getD_at hi), if_neg (fun q => by rw [any_iff.mpr q] at h; cases h)]
theorem walks_lt {prog : Program} {w : World} {A : Around} {I : Addr} {fp wr : List Addr} {n : Nat} {P : Nat → Value → Prop} {St : Nat → Heap → Prop} (W : Walks prog w A I fp wr n P St) : Walks prog w A I fp wr n (fun i v => i < n ∧ P i v) St :=
  { sub := W.sub, frame := W.frame, item := fun i s Q E hi st hQ => W.item i s Q E hi st fun v h t hv => hQ v h t ⟨hi, hv⟩, done := W.done, self := W.self }
theorem fdm {x k : Nat} : Int.fmod (Int.fdiv ((x : Nat) : Int) (2 ^ k)) 2 = ((x / 2 ^ k % 2 : Nat) : Int) := by
  have e : (2 : Int) ^ k = ((2 ^ k : Nat) : Int) := by rw [Int.natCast_pow]; rfl
  rw [e, ← Int.ofNat_fdiv, show (2 : Int) = ((2 : Nat) : Int) from rfl, ← Int.ofNat_fmod]
theorem sg_yes {N0 : List Nat} {i : Nat} (p : Nat) {k : Nat} (hk : 4 - p = k) (h : Int.fmod (Int.fdiv ((N0.map fun n : Nat => (n : Int)).getD ((i : Nat) : Int).toNat 0) (2 ^ k)) 2 = 1) : sgAt p (N0.getD i 0) = ([119, 120, 114, 119, 120] : List Nat).getD p 0 := by
  rw [getD_int, fdm] at h
  unfold sgAt
  rw [hk, if_pos (Int.ofNat_inj.mp h)]
theorem sg_no {N0 : List Nat} {i : Nat} (p : Nat) {k : Nat} (hk : 4 - p = k) (h : Int.fmod (Int.fdiv ((N0.map fun n : Nat => (n : Int)).getD ((i : Nat) : Int).toNat 0) (2 ^ k)) 2 ≠ 1) : sgAt p (N0.getD i 0) = 45 := by
  rw [getD_int, fdm] at h
  unfold sgAt
  rw [hk, if_neg fun z => h (congrArg (fun n : Nat => (n : Int)) z)]
theorem five {p : Nat} (h : p < 5) : p = 0 ∨ p = 1 ∨ p = 2 ∨ p = 3 ∨ p = 4 := match p, h with
  | 0, _ => .inl rfl
  | 1, _ => .inr (.inl rfl)
  | 2, _ => .inr (.inr (.inl rfl))
  | 3, _ => .inr (.inr (.inr (.inl rfl)))
  | 4, _ => .inr (.inr (.inr (.inr rfl)))
theorem fiver : (5 : Int) - ((0 : Nat) : Int) = Builtin.Range.rangeSize 0 5 1 := by decide +kernel
theorem pair_five {x : Nat} {vsl : List Value} {ys : Array Value} (hl : vsl.length = 5) (h : ∀ (j : Nat) (v : Value), vsl[j]? = some v → j < 5 ∧ ∃ t, v = Value.int (0 + ((j : Nat) : Int) * 1) t)
    (hp : Paired (fun v y => ∀ n t, v = Value.int n t → ∃ u, y = Value.str ⟨#[sgAt n.toNat x]⟩ u) vsl ys.toList) : StrsAre ys.toList (((List.range 5).map fun p => sgAt p x).map fun c => (⟨#[c]⟩ : PySem.Str)) := by
  have := pair_strs (f := fun n => ⟨#[sgAt n.toNat x]⟩) (ns := (List.range 5).map fun p : Nat => ((p : Nat) : Int)) (by rw [hl]; rfl) (fun j v hj => by
    obtain ⟨hj5, t, rfl⟩ := h j v hj
    refine ⟨_, t, rfl, ?_⟩
    rw [List.getElem?_map, List.getElem?_range hj5]
    show some ((j : Nat) : Int) = _
    rw [Int.mul_one, Int.zero_add]) hp
  rw [List.map_map] at this
  rw [List.map_map]
  exact this
theorem join_five (x : Nat) : Txt.join (Str.ofString "") (((List.range 5).map fun p => sgAt p x).map fun c => (⟨#[c]⟩ : PySem.Str)) = ⟨((List.range 5).map fun p => sgAt p x).toArray⟩ := join0 _
theorem row_is (sg : PySem.Str) (x : Nat) : (sg ++ Str.ofString "rwxr" : PySem.Str) ++ (⟨((List.range 5).map fun p => sgAt p x).toArray⟩ : PySem.Str) = rowOf sg x := rfl
theorem nub_ne {α : Type} [DecidableEq α] {l : List α} (h : l ≠ []) : nubK id [] l ≠ [] := by
  cases l with
  | nil => exact absurd rfl h
  | cons x l => unfold nubK; simp
def kindsF (rs : List PySem.Str) (s : Nat) : Nat := (nubK (lcut (plI s)) [] rs).length
def alikeF (rs : List PySem.Str) (s : Nat) : Nat := most (rs.map (lcut (plI s)))
def shownF (rs : List PySem.Str) (i : Nat) : Nat := (List.range i).countP fun s => decide (kindsF rs s = 2 ^ pc 5 s)
def filledF (rs : List PySem.Str) (i : Nat) : Nat := (List.range i).countP fun s => decide (alikeF rs s = 2 ^ (5 - pc 5 s))
theorem shown_succ (rs : List PySem.Str) (i : Nat) : shownF rs (i + 1) = shownF rs i + if kindsF rs i = 2 ^ pc 5 i then 1 else 0 := by
  unfold shownF
  rw [List.range_succ, List.countP_append, List.countP_singleton]
  simp only [decide_eq_true_eq]
theorem filled_succ (rs : List PySem.Str) (i : Nat) : filledF rs (i + 1) = filledF rs i + if alikeF rs i = 2 ^ (5 - pc 5 i) then 1 else 0 := by
  unfold filledF
  rw [List.range_succ, List.countP_append, List.countP_singleton]
  simp only [decide_eq_true_eq]
theorem law_last {sg : PySem.Str} (hl : sg.length = 1) {D : List Nat} (hD : D.Nodup) (hlt : ∀ d ∈ D, d < 32) (hne : D ≠ []) :
    (filledF (D.map (rowOf sg)) 32 < D.length ∧ D.length < shownF (D.map (rowOf sg)) 32) ∨ (filledF (D.map (rowOf sg)) 32 = D.length ∧ D.length = shownF (D.map (rowOf sg)) 32) := by
  have := law_end (proj := fun s d => lcut (plI s) (rowOf sg d)) hD hlt (fun s _ d hd e he => proj_iff hl hd he) (kinds := kindsF (D.map (rowOf sg))) (alike := alikeF (D.map (rowOf sg)))
    (fun s _ => by
      unfold kindsF
      rw [← List.length_map (f := lcut (plI s)), nubK_map, List.map_map]
      rfl)
    (fun s _ => by
      have h := foldr_max (((D.map (rowOf sg)).map (lcut (plI s))).map fun k => ((D.map (rowOf sg)).map (lcut (plI s))).count k)
      have e : (D.map (rowOf sg)).map (lcut (plI s)) = D.map (fun d => lcut (plI s) (rowOf sg d)) := by rw [List.map_map]; rfl
      constructor
      · have h1 := h.1 (fun q => hne (by simpa using q))
        obtain ⟨k, hk, q⟩ := List.mem_map.mp h1
        rw [e] at hk
        obtain ⟨d, hd, rfl⟩ := List.mem_map.mp hk
        refine ⟨d, hd, ?_⟩
        rw [e] at q
        unfold alikeF most
        rw [e]
        exact q.symm
      · intro d hd
        have h2 := h.2 _ (List.mem_map.mpr ⟨lcut (plI s) (rowOf sg d), by rw [e]; exact List.mem_map.mpr ⟨d, hd, rfl⟩, rfl⟩)
        unfold alikeF most
        rw [e] at h2 ⊢
        exact h2)
  rw [card5, card5] at this
  exact this
end Mine
end PartLawP

section PartEqS
open PySem PySem.W PyProof.Rows PySem.Calls PyProof.V PySem.Spec
set_option maxRecDepth 100000
namespace Mine
theorem ks_canLayAll0 : ∀ ns : List PySem.Str, (∀ x ∈ ns, PyData.strOk x = true) → PyData.canLayAll0 (ns.map PyData.str) = true
  | [], _ => rfl
  | x :: r, h => by
    have h1 := h x (.head _)
    have h2 := ks_canLayAll0 r fun y hy => h y (.tail _ hy)
    simp [PyData.canLayAll0, PyData.canLay0, h1, h2]
theorem ks_depthAll : ∀ ns : List PySem.Str, PyData.depthAll (ns.map PyData.str) = 0
  | [] => rfl
  | _ :: r => by simp [PyData.depthAll, PyData.depth, ks_depthAll r]
theorem ks_shaped (ns : List PySem.Str) (h : ∀ x ∈ ns, PyData.strOk x = true) : SeqAt.shaped (.list (ns.map PyData.str)) = true := by
  simp [SeqAt.shaped, PyData.canLay0, PyData.depth, ks_canLayAll0 ns h, ks_depthAll]
theorem ks_sameAll : ∀ ns ms : List PySem.Str, PySem.Spec.sameAll (ns.map PyData.str) (ms.map PyData.str) = decide (ns = ms)
  | [], [] => by simp [PySem.Spec.sameAll]
  | [], _ :: _ => by simp [PySem.Spec.sameAll]
  | _ :: _, [] => by simp [PySem.Spec.sameAll]
  | a :: r, b :: t => by
    simp only [List.map_cons, PySem.Spec.sameAll, PySem.Spec.same, ks_sameAll r t]
    by_cases h : a = b <;> by_cases h' : r = t <;> simp [h, h']
theorem ks_same (ns ms : List PySem.Str) : PySem.Spec.same (.list (ns.map PyData.str)) (.list (ms.map PyData.str)) = decide (ns = ms) := by
  simp only [PySem.Spec.same]; exact ks_sameAll ns ms
theorem ks_carried : ∀ {vs : List Value} {ns : List PySem.Str}, StrsAre vs ns → CarriedAll vs (ns.map PyData.str)
  | _, _, .nil => .nil
  | _, _, .cons _ t r => .cons (.str _ t) (ks_carried r)
theorem sgAt_lt {p d : Nat} (hp : p < 5) : sgAt p d < 1114112 := by
  unfold sgAt
  split
  · exact (show ∀ p < 5, ([119, 120, 114, 119, 120] : List Nat).getD p 0 < 1114112 by decide) p hp
  · decide
theorem row_ok : ∀ e ∈ kindTab, ∀ d < 32, PyData.strOk (rowOf e.2 d) = true := fun e he d _ => by
  refine Array.all_eq_true_iff_forall_mem.mpr fun x hx => ?_
  rcases Array.mem_append.mp hx with hx | hx
  · rcases Array.mem_append.mp hx with hx | hx
    · exact Array.all_eq_true_iff_forall_mem.mp ((show ∀ e ∈ kindTab, PyData.strOk e.2 = true by decide +kernel) e he) x hx
    · exact Array.all_eq_true_iff_forall_mem.mp (show PyData.strOk ⟨#[114, 119, 120, 114]⟩ = true by decide +kernel) x hx
  · obtain ⟨p, hp, rfl⟩ := List.mem_map.mp (List.mem_toArray.mp hx)
    exact decide_eq_true (sgAt_lt (List.mem_range.mp hp))
theorem row_len : ∀ e ∈ kindTab, ∀ d < 32, (rowOf e.2 d).length = 10 := fun e he d _ => by
  show (e.2.cps ++ #[114, 119, 120, 114] ++ ((List.range 5).map fun p => sgAt p d).toArray).size = 10
  rw [Array.size_append, Array.size_append]
  show e.2.cps.size + 4 + ((List.range 5).map fun p => sgAt p d).length = 10
  rw [List.length_map, List.length_range, show e.2.cps.size = 1 from kind_len e he]
section
variable {prog : Program} {w : World} {A : Around} {E : Value → Shared → Prop} {s : Shared} {a b : Addr} {xs ys : List Value} {ns ms : List PySem.Str} {Q : Value → Shared → Prop}
theorem ne_strs (ha : s.heap.IsList a xs.toArray) (hb : s.heap.IsList b ys.toArray) (hi : StrsAre xs ns) (hj : StrsAre ys ms) (hk : ∀ x ∈ ns, PyData.strOk x = true) (hk' : ∀ x ∈ ms, PyData.strOk x = true) (hu : A.units + 64 < cLine) (h : Q (.bool (!decide (ns = ms))) s) :
    wpAny (model prog w) A (compareOp .NotEq (.ref a) (.ref b)) Q E s :=
  ne_dataH_same (reads_newData ha (ks_carried hi)) (reads_newData hb (ks_carried hj)) (ks_shaped _ hk) (ks_shaped _ hk') hu (SeqAt.noMix_of_shape (.list .str) rfl _ _ (list_map_has fun _ => rfl) (list_map_has fun _ => rfl)) (by rw [ks_same]; exact h)
end
end Mine
end PartEqS

section PartEndB
open PySem PySem.W PyProof.Rows PySem.Calls
set_option maxRecDepth 100000
namespace Mine
/-- how the law ends: True, and the old heap as it was but for the code table that has grown -/
def Fin (s₁ : Shared) (tabs : List (Addr × Addr)) (r : Result) (s' : Shared) : Prop :=
  r = .ok (.ret (.bool true)) ∧ (∀ b o, (ghostOf s₁.heap tabs).get? b = some o → s'.heap.get? b = some o) ∧ s'.os = s₁.os ∧ AllBare s'.gens ∧ GrownAll tabs s'.heap
theorem fin_post {M : Model} {A : Around} {cd : Code} {s s₁ : Shared} {cw : ClaimW} {cl : PySem.Str → Option Addr} {mean : ExcName → Option Value} {args : List WData} {tabs : List (Addr × Addr)} (hT : TabsAt tabs s₁.heap) (hr : ∀ a x, cw.raises a x = false)
    (hp : cw.post args (.bool true) args = true) (h : codeAny M A cd (Fin s₁ tabs) s) : codeAny M A cd (GoodWG cw cl mean args s₁) s := by
  refine codeAny_mono h ?_
  rintro r s' ⟨rfl, hkeep, hos, hbare, hgrown⟩
  have cases2 : ∀ b o, s₁.heap.get? b = some o → s'.heap.get? b = some o ∨ ∃ q ∈ tabs, q.2 = b := fun b o e => by
    by_cases q : ∃ q ∈ tabs, q.2 = b
    · exact .inr q
    · exact .inl (hkeep b o (ghost_ne e fun hm => q (let ⟨x, hx, e⟩ := List.mem_map.mp hm; ⟨x, hx, e⟩)))
  refine ⟨.inl ⟨.bool true, .bool true, [], rfl, hr _, .bool _, hp, fun _ => ⟨List.nodup_nil, fun _ hm => nomatch hm⟩⟩, ⟨fun b o e => ?_, fun b o e => ?_⟩, hos, hbare⟩
  · rcases cases2 b o e with q | ⟨x, hx, rfl⟩
    · exact .inl q
    · obtain ⟨ps, hps⟩ := hgrown.get x hx
      have he := (hT x hx).2
      obtain rfl : o = tabObj #[] := Option.some.inj (e.symm.trans he)
      exact .inr (.inl ⟨((hT x hx).1.tab he).isCodeTable, rfl, #[], ps, rfl, by rw [Array.empty_append]; exact hps⟩)
  · rcases cases2 b o e with q | ⟨x, hx, rfl⟩
    · exact ⟨o, q⟩
    · obtain ⟨ps, hps⟩ := hgrown.get x hx
      exact ⟨_, hps⟩
end Mine
end PartEndB

section PartLawW
open PySem PySem.W PyProof.Rows PySem.Calls
set_option maxRecDepth 100000
namespace Mine
theorem pair_places {i : Nat} {vsl : List Value} {ys : Array Value} (hl : vsl.length = 5) (h : ∀ (j : Nat) (v : Value), vsl[j]? = some v → j < 5 ∧ ∃ t, v = Value.int (0 + ((j : Nat) : Int) * 1) t)
    (hp : Paired (fun v y => ∀ n t, v = Value.int n t → ∃ u, y = Value.int (5 + n) u) (vsl.filter fun v => match v with | .int n _ => decide (i / 2 ^ n.toNat % 2 = 1) | _ => false) ys.toList) : IntsAre ys.toList (plI i) := by
  have key : ∀ (ns : List Nat) (vs ys : List Value), vs.length = ns.length → (∀ (j : Nat) (v : Value), vs[j]? = some v → ∃ n t, v = Value.int ((n : Nat) : Int) t ∧ ns[j]? = some n) →
      Paired (fun v y => ∀ n t, v = Value.int n t → ∃ u, y = Value.int (5 + n) u) (vs.filter fun v => match v with | .int n _ => decide (i / 2 ^ n.toNat % 2 = 1) | _ => false) ys → IntsAre ys ((ns.filter fun p => i / 2 ^ p % 2 == 1).map fun p : Nat => (5 : Int) + (p : Int)) := by
    intro ns
    induction ns with
    | nil =>
      intro vs ys hl _ hP
      obtain rfl : vs = [] := List.length_eq_zero_iff.mp (by simpa using hl)
      cases hP
      exact .nil
    | cons n ns ih =>
      intro vs ys hl hv hP
      cases vs with
      | nil => simp at hl
      | cons v vs =>
        obtain ⟨n', t, rfl, hn⟩ := hv 0 v rfl
        obtain rfl : n = n' := by simpa using hn
        have hv' : ∀ (j : Nat) (v : Value), vs[j]? = some v → ∃ n t, v = Value.int ((n : Nat) : Int) t ∧ ns[j]? = some n := fun j v hj => by simpa using hv (j + 1) v (by simpa using hj)
        have hl' : vs.length = ns.length := by simpa using hl
        by_cases q : i / 2 ^ n % 2 = 1
        · rw [List.filter_cons_of_pos (by simpa using q)] at hP ⊢
          cases hP with
          | cons hF hP =>
            obtain ⟨u, rfl⟩ := hF _ _ rfl
            exact .cons _ _ (ih _ _ hl' hv' hP)
        · rw [List.filter_cons_of_neg (by simpa using q)] at hP ⊢
          exact ih _ _ hl' hv' hP
  refine key (List.range 5) vsl ys.toList (by rw [hl]; rfl) (fun j v hj => ?_) hp
  obtain ⟨hj5, t, rfl⟩ := h j v hj
  exact ⟨j, t, by rw [Int.mul_one, Int.zero_add], List.getElem?_range hj5⟩
theorem bit_eq {i k : Nat} : (Int.fmod (Int.fdiv ((i : Nat) : Int) (2 ^ k)) 2 == 1) = decide (i / 2 ^ k % 2 = 1) := by
  rw [fdm, Bool.eq_iff_iff, beq_iff_eq, decide_eq_true_eq]
  exact ⟨fun h => Int.ofNat_inj.mp h, fun h => congrArg (fun n : Nat => (n : Int)) h⟩
def MidA {α : Type} (P : α → Shared → Prop) (v : α) (s : Shared) : Prop := P v s
theorem wpAny_valA {α : Type} {M : Model} {A : Around} {E : Value → Shared → Prop} {s : Shared} {m : Sem α} {Q : α → Shared → Prop} (P : α → Shared → Prop) (h1 : wpAny M A m (MidA P) (fun _ _ => False) s) (h2 : ∀ v s', P v s' → Q v s') : wpAny M A m Q E s :=
  wpAny_mono h1 h2 fun _ _ z => z.elim
theorem small32 : Builtin.Range.small 0 32 1 = true := by decide +kernel
theorem size32 : (32 : Int) - ((0 : Nat) : Int) = Builtin.Range.rangeSize 0 32 1 := by decide +kernel
theorem BareTo.rfl' (a : Array GenState) : BareTo a a := fun x => x
theorem BareTo.trans' (a b c : Array GenState) (h1 : BareTo a b) (h2 : BareTo b c) : BareTo a c := fun x => h2 (h1 x)
theorem pow_nat {n : Nat} {k : Nat} : (((n : Nat) : Int) = 2 ^ ((k : Nat) : Int).toNat) ↔ n = 2 ^ k := by
  rw [Int.toNat_natCast]
  have e : (2 : Int) ^ k = ((2 ^ k : Nat) : Int) := by rw [Int.natCast_pow]; rfl
  rw [e]
  exact Int.ofNat_inj
theorem sub_nat {k : Nat} : (5 - ((k : Nat) : Int)).toNat = (((5 - k : Nat) : Int)).toNat := Int.toNat_sub 5 k
section
variable {rs : List PySem.Str} {i : Nat}
theorem shown_yes (hi : i < 32) (h : (((nubK (lcut (plI i)) [] rs).length : Nat) : Int) = 2 ^ (((plI i).length : Nat) : Int).toNat) : ((shownF rs i : Nat) : Int) + 1 = ((shownF rs (i + 1) : Nat) : Int) := by
  rw [pow_nat, plI_len hi] at h
  rw [shown_succ, if_pos (show kindsF rs i = _ from h)]; rfl
theorem shown_no (hi : i < 32) (h : (((nubK (lcut (plI i)) [] rs).length : Nat) : Int) ≠ 2 ^ (((plI i).length : Nat) : Int).toNat) : ((shownF rs i : Nat) : Int) = ((shownF rs (i + 1) : Nat) : Int) := by
  rw [Ne, pow_nat, plI_len hi] at h
  rw [shown_succ, if_neg (show ¬ kindsF rs i = _ from h)]; rfl
theorem filled_yes (hi : i < 32) (h : ((most (rs.map (lcut (plI i))) : Nat) : Int) = 2 ^ (5 - (((plI i).length : Nat) : Int)).toNat) : ((filledF rs i : Nat) : Int) + 1 = ((filledF rs (i + 1) : Nat) : Int) := by
  rw [sub_nat, pow_nat, plI_len hi] at h
  rw [filled_succ, if_pos (show alikeF rs i = _ from h)]; rfl
theorem filled_no (hi : i < 32) (h : ((most (rs.map (lcut (plI i))) : Nat) : Int) ≠ 2 ^ (5 - (((plI i).length : Nat) : Int)).toNat) : ((filledF rs i : Nat) : Int) = ((filledF rs (i + 1) : Nat) : Int) := by
  rw [Ne, sub_nat, pow_nat, plI_len hi] at h
  rw [filled_succ, if_neg (show ¬ alikeF rs i = _ from h)]; rfl
end
/-- kept from omega's eyes -/
def CNe (cA RW L IT : Nat) : Prop := cA ≠ RW ∧ cA ≠ L + 1 + 1 + 1 + 1 ∧ cA ≠ 108 ∧ cA ≠ IT
def JS (L : Addr) (rs : List PySem.Str) (RW IT : Addr) (ra : Array Value) (rc : Nat) (i : Nat) (m : PySem.Str → Option Value) (news : List (Addr × Obj)) : Prop :=
  (∃ t, m (Str.ofString "shown") = some (.int ((shownF rs i : Nat) : Int) t)) ∧ (∃ t, m (Str.ofString "filled") = some (.int ((filledF rs i : Nat) : Int) t)) ∧ m (Str.ofString "rows") = some (.ref RW) ∧
    ∃ oS cv tps cA oc, news = [(RW, listOf ra rc), (L + 1 + 1 + 1 + 1, oS), (108, tabObj tps), (cA, oc)] ∧ oS.data = .cell cv ∧ TabSt tps cA oc ∧ CNe cA RW L IT
theorem lw_any {w : World} {mean : ExcName → Option Value} {mg mb : PySem.Str → Option Value} {s : Shared} {dp un : Nat} {gd : Option (List Code)} {fr : Option (List Env)} {g : Heap} {L : Addr} {m : PySem.Str → Option Value}
    {RW PL cA IT : Addr} {oc oS oI : Obj} {tps acc pys : Array Value} {cc pn : Nat} {rs : List PySem.Str} {ps : List Int} {Q E : Value → Shared → Prop}
    (X : (Mine.hd.heap_39 w.params).In g) (T : Top topProg looseL mean mg mb g) (CH : CodeHd g 110 108) (hd : dp < 400) (F : Fr g L s.heap m)
    (N : News g L s.heap [(PL, listOf pys pn), (RW, listOf acc cc), (L + 1 + 1 + 1 + 1, oS), (108, tabObj tps), (cA, oc), (IT, oI)])
    (hst : TabSt tps cA oc) (hrs : StrsAre acc.toList rs) (hlen : rs.length ≤ 64) (hpos : 0 < rs.length) (hps : IntsAre pys.toList ps) (hpl : ps.length ≤ 5) (hp10 : ∀ p ∈ ps, 0 ≤ p ∧ p < 10) (hr10 : ∀ r ∈ rs, r.length = 10)
    (np8 : @Ne Nat PL 108) (nr8 : @Ne Nat RW 108) (nl8 : @Ne Nat (L + 1 + 1 + 1 + 1) 108) (ni8 : @Ne Nat IT 108)
    (ncp : @Ne Nat cA PL) (ncs : CNe cA RW L IT)
    (hQ : ∀ (h' : Heap) (g' : Array GenState) (tk : Nat) (Tu c' : Addr) (t1 t2 : Tok) (oc' : Obj), Fr g L h' m →
      News g L h' [(Tu, { cls := .type "tuple", data := .seq #[.int ((nubK (lcut ps) [] rs).length : Nat) t1, .int ((most (rs.map (lcut ps)) : Nat) : Int) t2] }), (PL, listOf pys pn), (RW, listOf acc cc), (L + 1 + 1 + 1 + 1, oS), (108, tabObj #[rawInt 79, rawInt 4, .ref c']), (c', oc'), (IT, oI)] →
      BareTo s.gens g' → TabSt #[rawInt 79, rawInt 4, .ref c'] c' oc' →
      CNe c' RW L IT →
      Q (.ref Tu) ⟨h', g', s.drawn, tk, s.os⟩) :
    wpAny (model PySem.Challenge.rw_ij0158_01.row.prog w) { handled := none, depth := dp, frames := fr, guards := gd, units := un } (call (.ref 111) [.ref RW, .ref PL]) Q E s := by
  have g108 := N _ (.tail _ (.tail _ (.tail _ (.head _))))
  have gPL := N _ (.head _)
  have gRW := N _ (.tail _ (.head _))
  have gL4 := N _ (.tail _ (.tail _ (.head _)))
  have gcA := N _ (.tail _ (.tail _ (.tail _ (.tail _ (.head _)))))
  have gIT := N _ (.tail _ (.tail _ (.tail _ (.tail _ (.tail _ (.head _))))))
  have hid : ∀ b o, b ≠ 108 → b ≠ cA → s.heap.get? b = some o → (hideAll s.heap [108, cA]).get? b = some o := fun b o q q' e => hideAll_get _ e (fun hm => (List.mem_cons.mp hm).elim q fun hm => q' (List.mem_singleton.mp hm))
  have off : ∀ b o, g.get? b = some o → b ≠ 108 ∧ b ≠ cA := fun b o e => ⟨fun q => (by rw [q, g108.2.2] at e; cases e), fun q => (by rw [q, gcA.2.2] at e; cases e)⟩
  have kg : ∀ b o, g.get? b = some o → (hideAll s.heap [108, cA]).get? b = some o := fun b o e => hid b o (off b o e).1 (off b o e).2 (F.keep b o e)
  have hPL := hid _ _ np8 ncp.symm gPL.1
  have hRW := hid _ _ nr8 ncs.1.symm gRW.1
  have hL4 := hid _ _ nl8 ncs.2.1.symm gL4.1
  have hIT := hid _ _ ni8 ncs.2.2.2.symm gIT.1
  refine lw_core (g := hideAll s.heap [108, cA]) (X.keeps kg) (T.keeps kg) (CH.keeps kg) hd (fun b o e => of_hideAll _ e) (hideAll_size _ _) (hideAll_none _ (.head _)) g108.1 gcA.1 (hideAll_none _ (.tail _ (.head _))) ncs.2.2.1 hst
    ⟨_, hRW, rfl, _, rfl⟩ hrs hlen hpos ⟨_, hPL, rfl, _, rfl⟩ hps hpl hp10 hr10 ?_
  intro h' g' tk Tu c' M t1 t2 oc' hk hb h108 hc' hS hcn hc8 hTu hTn hM1 hM2
  obtain rfl := most_eq hM1 hM2
  obtain ⟨oL, es, ep, hoL, hr⟩ := F.ns
  have hoL' := hid _ _ (fun q => g108.2.1 (Eq.symm q)) (fun q => gcA.2.1 (Eq.symm q)) hoL
  have no : ∀ {x b : Addr} {o : Obj}, (hideAll s.heap [108, cA]).get? x = none → (hideAll s.heap [108, cA]).get? b = some o → @Ne Nat x b := fun e1 e2 q => by rw [(q : _ = _), e2] at e1; cases e1
  have gn : ∀ {x : Addr}, (hideAll s.heap [108, cA]).get? x = none → g.get? x = none := fun {x} e => by
    cases q : g.get? x with
    | none => rfl
    | some o => rw [kg _ _ q] at e; cases e
  refine hQ h' g' tk Tu c' t1 t2 oc' ⟨⟨oL, es, ep, hk _ _ hoL', hr⟩, fun b o e => hk b o (kg b o e), F.above⟩ ?_ hb hS ⟨no hcn hRW, no hcn hL4, hc8, no hcn hIT⟩
  intro p hp
  rcases List.mem_cons.mp hp with rfl | hp
  · exact ⟨hTu, no hTn hoL', gn hTn⟩
  rcases List.mem_cons.mp hp with rfl | hp
  · exact ⟨hk _ _ hPL, gPL.2⟩
  rcases List.mem_cons.mp hp with rfl | hp
  · exact ⟨hk _ _ hRW, gRW.2⟩
  rcases List.mem_cons.mp hp with rfl | hp
  · exact ⟨hk _ _ hL4, gL4.2⟩
  rcases List.mem_cons.mp hp with rfl | hp
  · exact ⟨h108, g108.2⟩
  rcases List.mem_cons.mp hp with rfl | hp
  · exact ⟨hc', no hcn hoL', gn hcn⟩
  · rw [List.mem_singleton.mp hp]; exact ⟨hk _ _ hIT, gIT.2⟩
end Mine
end PartLawW

section PartLawD
open PySem PySem.W PyProof.Rows PySem.Calls
set_option maxRecDepth 100000
namespace Mine
def Mid (P : Flow → Shared → Prop) (f : Flow) (s : Shared) : Prop := P f s
def MidFlag : Prop := True
theorem wpAny_mid {M : Model} {A : Around} {E : Value → Shared → Prop} {s : Shared} {m : Sem Flow} {Q : Flow → Shared → Prop} (P : Flow → Shared → Prop) (h1 : wpAny M A m (Mid P) (fun _ _ => False) s) (h2 : ∀ s', P .next s' → Q .next s') (h3 : ∀ f s', P f s' → f = .next) : wpAny M A m Q E s :=
  wpAny_mono h1 (fun f s' h => by have e := h3 f s' h; subst e; exact h2 s' h) fun _ _ z => z.elim
def MidV (P : Value → Shared → Prop) (v : Value) (s : Shared) : Prop := P v s
theorem wpAny_val {M : Model} {A : Around} {E : Value → Shared → Prop} {s : Shared} {m : Sem Value} {Q : Value → Shared → Prop} (P : Value → Shared → Prop) (h1 : wpAny M A m (MidV P) (fun _ _ => False) s) (h2 : ∀ v s', P v s' → Q v s') : wpAny M A m Q E s :=
  wpAny_mono h1 h2 fun _ _ z => z.elim
def P2 (g : Heap) (L scr : Addr) (oS oKk oN : Obj) (s₁ : Shared) (f : Flow) (s' : Shared) : Prop := f = .next ∧ ∃ e ∈ kindTab, ∃ h' tk m' oK t1 t2, s' = { s₁ with heap := h', toks := tk } ∧ Fr g L h' m' ∧ m' (Str.ofString "script") = some (.ref scr) ∧ m' (Str.ofString "sign") = some (.str e.2 t2) ∧ oK.data = .cell (some (.int e.1 t1)) ∧
  News g L h' [(L + 1 + 1 + 1 + 1, oS), (L + 1 + 1 + 1, oKk), (L + 1 + 1, oN), (L + 1, oK), (108, tabObj #[])]
theorem P2.intro {g : Heap} {L scr : Addr} {oS oKk oN : Obj} {s₁ : Shared} {h' : Heap} {tk : Nat} {m' : PySem.Str → Option Value} {oK : Obj} {t1 t2 : Tok} {e : Int × PySem.Str} {big : List (Addr × Obj)} (he : e ∈ kindTab) (F : Fr g L h' m') (N : News g L h' big) (h1 : m' (Str.ofString "script") = some (.ref scr)) (h2 : m' (Str.ofString "sign") = some (.str e.2 t2)) (h3 : oK.data = .cell (some (.int e.1 t1)))
    (hs : ∀ p ∈ [(L + 1 + 1 + 1 + 1, oS), (L + 1 + 1 + 1, oKk), (L + 1 + 1, oN), (L + 1, oK), (108, tabObj #[])], p ∈ big) : P2 g L scr oS oKk oN s₁ .next { s₁ with heap := h', toks := tk } :=
  ⟨rfl, e, he, h', tk, m', oK, t1, t2, rfl, F, h1, h2, h3, fun p hp => N p (hs p hp)⟩
def GoFlag : Prop := True
/-- after the numbers -/
def P3 (g : Heap) (L : Addr) (sg : PySem.Str) (kd : Int) (N0 : List Nat) (oS oKk oK : Obj) (s₁ : Shared) (f : Flow) (s' : Shared) : Prop := f = .next ∧ ∃ h' tk m' oN NU ul t2, s' = { s₁ with heap := h', toks := tk } ∧ Fr g L h' m' ∧ m' (Str.ofString "sign") = some (.str sg t2) ∧ oN.data = .cell (some (.ref NU)) ∧ IntsAre ul (N0.map fun n : Nat => (n : Int)) ∧
  L + 1 + 1 + 1 + 1 < NU ∧ News g L h' [(NU, listOf (List.toArray ul) 0), (L + 1 + 1 + 1 + 1, oS), (L + 1 + 1 + 1, oKk), (L + 1 + 1, oN), (L + 1, oK), (108, tabObj #[])]
theorem P3.intro {g : Heap} {L : Addr} {sg : PySem.Str} {kd : Int} {N0 : List Nat} {oS oKk oK : Obj} {s₁ : Shared} {h' : Heap} {tk : Nat} {m' : PySem.Str → Option Value} {oN : Obj} {NU : Addr} {ul : List Value} {t2 : Tok} {big : List (Addr × Obj)} (F : Fr g L h' m') (N : News g L h' big) (h2 : m' (Str.ofString "sign") = some (.str sg t2)) (h3 : oN.data = .cell (some (.ref NU))) (hi : IntsAre ul (N0.map fun n : Nat => (n : Int)))
    (hl : L + 1 + 1 + 1 + 1 < NU) (hs : ∀ p ∈ [(NU, listOf (List.toArray ul) 0), (L + 1 + 1 + 1 + 1, oS), (L + 1 + 1 + 1, oKk), (L + 1 + 1, oN), (L + 1, oK), (108, tabObj #[])], p ∈ big) : P3 g L sg kd N0 oS oKk oK s₁ .next { s₁ with heap := h', toks := tk } :=
  ⟨rfl, h', tk, m', oN, NU, ul, t2, rfl, F, h2, h3, hi, hl, fun p hp => N p (hs p hp)⟩
/-- after the rows -/
def P4 (g : Heap) (L : Addr) (sg : PySem.Str) (D : List Nat) (NU : Addr) (ul : List Value) (oS oKk oN oK : Obj) (s₁ : Shared) (f : Flow) (s' : Shared) : Prop := f = .next ∧ ∃ h' g' tk m' RW acc cc t2, s' = ⟨h', g', s₁.drawn, tk, s₁.os⟩ ∧ BareTo s₁.gens g' ∧ Fr g L h' m' ∧ m' (Str.ofString "sign") = some (.str sg t2) ∧ m' (Str.ofString "rows") = some (.ref RW) ∧ StrsAre (Array.toList acc) (D.map (rowOf sg)) ∧
  NU < RW ∧ News g L h' [(RW, listOf acc cc), (NU, listOf (List.toArray ul) 0), (L + 1 + 1 + 1 + 1, oS), (L + 1 + 1 + 1, oKk), (L + 1 + 1, oN), (L + 1, oK), (108, tabObj #[])]
theorem P4.intro {g : Heap} {L : Addr} {sg : PySem.Str} {D : List Nat} {NU : Addr} {ul : List Value} {oS oKk oN oK : Obj} {s₁ : Shared} {h' : Heap} {g' : Array GenState} {tk : Nat} {m' : PySem.Str → Option Value} {RW : Addr} {acc : Array Value} {cc : Nat} {t2 : Tok} {big : List (Addr × Obj)} (hb : BareTo s₁.gens g') (F : Fr g L h' m') (N : News g L h' big) (h2 : m' (Str.ofString "sign") = some (.str sg t2)) (h3 : m' (Str.ofString "rows") = some (.ref RW)) (hi : StrsAre (Array.toList acc) (D.map (rowOf sg)))
    (hl : NU < RW) (hs : ∀ p ∈ [(RW, listOf acc cc), (NU, listOf (List.toArray ul) 0), (L + 1 + 1 + 1 + 1, oS), (L + 1 + 1 + 1, oKk), (L + 1 + 1, oN), (L + 1, oK), (108, tabObj #[])], p ∈ big) : P4 g L sg D NU ul oS oKk oN oK s₁ .next ⟨h', g', s₁.drawn, tk, s₁.os⟩ :=
  ⟨rfl, h', g', tk, m', RW, acc, cc, t2, rfl, hb, F, h2, h3, hi, hl, fun p hp => N p (hs p hp)⟩
/-- after the due loop -/
def P5 (g : Heap) (L : Addr) (rs : List PySem.Str) (RW : Addr) (ra : Array Value) (rc : Nat) (oS oN oK : Obj) (s₁ : Shared) (f : Flow) (s' : Shared) : Prop := f = .next ∧ ∃ h' tk m' DU va nd oKk NU oU, s' = { s₁ with heap := h', toks := tk } ∧ Fr g L h' m' ∧ m' (Str.ofString "rows") = some (.ref RW) ∧ m' (Str.ofString "due") = some (.ref DU) ∧ StrsAre (Array.toList va) rs ∧
  RW < DU ∧ News g L h' [(DU, listOf va nd), (RW, listOf ra rc), (NU, oU), (L + 1 + 1 + 1 + 1, oS), (L + 1 + 1 + 1, oKk), (L + 1 + 1, oN), (L + 1, oK), (108, tabObj #[])]
/-- after the 32 turns -/
def P6 (g : Heap) (L : Addr) (rs : List PySem.Str) (RW : Addr) (ra : Array Value) (rc : Nat) (s₁ : Shared) (f : Flow) (s' : Shared) : Prop := f = .next ∧ ∃ h' g' tk m' t1 t2, s' = ⟨h', g', s₁.drawn, tk, s₁.os⟩ ∧ BareTo s₁.gens g' ∧ Fr g L h' m' ∧ m' (Str.ofString "rows") = some (.ref RW) ∧ m' (Str.ofString "shown") = some (.int ((shownF rs 32 : Nat) : Int) t1) ∧ m' (Str.ofString "filled") = some (.int ((filledF rs 32 : Nat) : Int) t2) ∧
  News g L h' [(RW, listOf ra rc)] ∧ ∃ ps, h'.get? 108 = some (tabObj ps)
theorem small11 : ∀ n ≤ 11, Builtin.Range.small 0 (n : Nat) 1 = true := by decide +kernel
theorem rsize11 : ∀ n ≤ 11, Builtin.Range.rangeSize 0 (n : Nat) 1 = (n : Nat) := by decide +kernel
def JD (L : Addr) (sg : PySem.Str) (N0 : List Nat) (DU RW NU : Addr) (ra : Array Value) (rc : Nat) (ul : List Value) (oS oN oK : Obj) (i : Nat) (m : PySem.Str → Option Value) (news : List (Addr × Obj)) : Prop :=
  (∃ t, m (Str.ofString "sign") = some (.str sg t)) ∧ m (Str.ofString "rows") = some (.ref RW) ∧ m (Str.ofString "due") = some (.ref DU) ∧ ∃ va nd oKk cv, news = [(DU, listOf va nd), (RW, listOf ra rc), (NU, listOf (List.toArray ul) 0), (L + 1 + 1 + 1 + 1, oS), (L + 1 + 1 + 1, oKk), (L + 1 + 1, oN), (L + 1, oK), (108, tabObj #[])] ∧
    oKk.data = .cell cv ∧ StrsAre (Array.toList va) ((nubK id [] (N0.take i)).map (rowOf sg))
theorem new_offs {h₀ h : Heap} {L : Addr} {news : List (Addr × Obj)} (N : News h₀ L h news) : ∀ b ∈ [h.objs.size], b ∉ news.map (·.1) := fun b hb hm => by
  rw [List.mem_singleton.mp hb] at hm
  obtain ⟨p, hp, q⟩ := List.mem_map.mp hm
  exact Nat.ne_of_lt (new_lt N p hp) q
theorem ltI {L RW D I : Nat} (h1 : L + 1 + 1 + 1 + 1 < RW) (h2 : RW < D) (h3 : D < I) (h4 : 108 < L) : @LT.lt Nat instLTNat RW I ∧ @LT.lt Nat instLTNat (L + 1 + 1 + 1 + 1) I ∧ @LT.lt Nat instLTNat 108 I ∧ @LT.lt Nat instLTNat 108 RW ∧ @LT.lt Nat instLTNat 108 (L + 1 + 1 + 1 + 1) :=
  have a := Nat.lt_trans h2 h3
  have b := Nat.lt_of_lt_of_le h4 (Nat.le_add_right L 4)
  ⟨a, Nat.lt_trans h1 a, Nat.lt_trans b (Nat.lt_trans h1 a), Nat.lt_trans b h1, b⟩
local macro_rules | `(tactic| walk_at "eval ListComp") => `(tactic| (k_here; refine stop_intro ?_))
local macro_rules | `(tactic| walk_at "compareOp NotEq ref ref") => `(tactic| (k_here; refine stop_intro ?_))
local macro_rules | `(tactic| k_go0) => `(tactic| (
  k_fill
  intro w s₀ s₁ mg mb G Y fa o pm cd doc dV kV ho hd hcd hD hmg hg args vals as hpre hlay hrd hwl hlo
  have KX := km_in_of Y
  km_tabs Y
  have X := (Ground.X G).1
  have V := (Ground.X G).2
  refine Ground.open G ?_
  intro T B D TE TW
  try (refine guard_noD D (by decide +kernel) ?_; clear D)
  km_lay T hmg ho hd cd
  clear hmg
  wrow_args hpre hlay hrd hwl hlo
  all_goals (
    first | refine callC_kw (enter_call ?_) | refine enter_call ?_
    w_top on
    (refine fin_post (tabs := [(110, 108)]) ?hTT (fun _ _ => rfl) ?hPP ?_)
    (case hTT => assumption)
    (case hPP => exact postW_of (by wrow_shape) (by wtm_val) (by first | rfl | simp))
    w_call any ho hd hcd hD T F
    clear hd
    kn_ghosts F T
    k_drop
    skip)))
local macro_rules | `(tactic| walk_at "exec Assign cons ListComp") => `(tactic| (k_here; refine stop_intro ?_))
local macro_rules | `(tactic| walk_at "eval BoolOp") => `(tactic| (k_here; rename GoFlag => gf; clear gf; refine stop_intro ?_))
local macro_rules | `(tactic| walk_at "exec For") => `(tactic| (k_here; refine stop_intro ?_))
local macro_rules | `(tactic| walk_at "exec Assign") => `(tactic| (k_here; with_reducible show wpAny _ _ (exec (Stmt.Assign [Expr.Tuple _ _ _] _ _) _) _ _ _; refine stop_intro ?_))
local macro_rules | `(tactic| walk_at "call ref") => `(tactic| (k_here; (with_reducible show wpAny _ _ (call (Value.ref 61) [Value.int _ _]) _ _ _); refine stop_intro ?_))
local macro_rules | `(tactic| walk_at "call ref") => `(tactic| (k_here; (with_reducible show wpAny _ _ (call (Value.ref 106) [Value.ref _]) _ _ _); refine stop_intro ?_))
local macro_rules | `(tactic| walk_at "call ref") => `(tactic| (k_here; (with_reducible show wpAny _ _ (call (Value.ref 111) [Value.ref _, Value.ref _]) _ _ _); refine stop_intro ?_))
local macro_rules | `(tactic| walk_at "exec Assign") => `(tactic| (k_here; with_reducible show wpAny _ _ (exec (Stmt.Assign [Expr.Name _ _] (Expr.BinOp _ _ _ _) _) _) _ _ _; rename GoFlag => gf; clear gf; refine stop_intro ?_))
local macro_rules | `(tactic| walk_at "exec Assign") => `(tactic| (k_here; with_reducible show wpAny _ _ (exec (Stmt.Assign [Expr.Name _ _] (Expr.Call _ _ _ _) _) _) _ _ _; rename GoFlag => gf; clear gf; refine stop_intro ?_))
set_option maxHeartbeats 8000000 in
theorem holds : PySem.Challenge.rw_ij0158_01.Holds := Mine.hd (by
  k_go0
  all_goals (try k_fold)
  rename Frag.In _ _ => X
  rename CodeHd _ _ _ => CH
  rename Below _ _ _ _ => KB
  rename Top _ _ _ _ _ _ => T
  rename IntsAre _ _ => hI
  rename Heap.IsList _ _ _ => hscr
  rename Fr _ _ _ _ => FA
  rename News _ _ _ _ => NA
  rename CellsAre _ _ _ => X0
  rename_i oS oKk oN oK dS dKk dN dK l0
  rename_i w s0 s1 mg mb G0 Y0 fa o0 pm0 cd0 doc0 ho0 hcd0 hg0 Xx V0 T0 B0 TE0 TW0 xs hs0 hly hLy hr0 hl2 a1 a2 scr vals a3 hLl ra0 w10 r00 hr1 hcond hcond2 hD0 h1 tk1
  replace dS : oS.data = .cell none := dS
  replace dKk : oKk.data = .cell none := dKk
  replace dN : oN.data = .cell none := dN
  replace dK : oK.data = .cell none := dK
  have hxs : xs.length ≤ 63 := by omega
  k_steps
  refine stop_out ?_
  rename Fr _ _ _ _ => FA
  rename News _ _ _ _ => NA
  refine wpAny_mid (P2 (ghostOf s1.heap [(110, 108)]) s1.heap.objs.size scr oS oKk oN s1) ?h1 ?h2 (fun f s' h => h.1)
  case h1 =>
    refine Assign_Tuple ?_
    refine Subscript_ ?_
    k_steps
    all_goals (rename Fr _ _ _ _ => FA; rename News _ _ _ _ => NA)
    all_goals dsimp only [Mid]
    all_goals first
      | exact P2.intro (e := (40960, Str.ofString "l")) (.head _) FA NA rfl rfl (by assumption) (fun p hp => List.mem_of_mem_drop (i := 10) hp)
      | exact P2.intro (e := (49152, Str.ofString "s")) (.tail _ (.head _)) FA NA rfl rfl (by assumption) (fun p hp => List.mem_of_mem_drop (i := 10) hp)
      | exact P2.intro (e := (32768, Str.ofString "-")) (.tail _ (.tail _ (.head _))) FA NA rfl rfl (by assumption) (fun p hp => List.mem_of_mem_drop (i := 10) hp)
      | exact P2.intro (e := (24576, Str.ofString "b")) (.tail _ (.tail _ (.tail _ (.head _)))) FA NA rfl rfl (by assumption) (fun p hp => List.mem_of_mem_drop (i := 10) hp)
      | exact P2.intro (e := (16384, Str.ofString "d")) (.tail _ (.tail _ (.tail _ (.tail _ (.head _))))) FA NA rfl rfl (by assumption) (fun p hp => List.mem_of_mem_drop (i := 10) hp)
      | exact P2.intro (e := (8192, Str.ofString "c")) (.tail _ (.tail _ (.tail _ (.tail _ (.tail _ (.head _)))))) FA NA rfl rfl (by assumption) (fun p hp => List.mem_of_mem_drop (i := 10) hp)
      | exact P2.intro (e := (4096, Str.ofString "p")) (.tail _ (.tail _ (.tail _ (.tail _ (.tail _ (.tail _ (.head _))))))) FA NA rfl rfl (by assumption) (fun p hp => List.mem_of_mem_drop (i := 10) hp)
      | exact P2.intro (e := (20480, Str.ofString "?")) (.tail _ (.tail _ (.tail _ (.tail _ (.tail _ (.tail _ (.tail _ (.head _)))))))) FA NA rfl rfl (by assumption) (fun p hp => List.mem_of_mem_drop (i := 10) hp)
  case h2 =>
    intro s' hP
    obtain ⟨_, e, he, h', tk, m', oK', t1, t2, rfl, F, hm1, hm2, dK', N⟩ := hP
    replace F : Fr (ghostOf s1.heap [(110, 108)]) s1.heap.objs.size h' _ := fr_know (x := Str.ofString "sign") (fr_know (x := Str.ofString "script") F hm1) hm2
    have hL108 : @LT.lt Nat instLTNat 108 s1.heap.objs.size := l0
    generalize hg : ghostOf s1.heap [(110, 108)] = g at *
    generalize hL : s1.heap.objs.size = L at *
    clear FA NA
    have gf : GoFlag := trivial
    k_steps
    refine stop_out ?_
    rename Fr _ _ _ _ => FA
    rename News _ _ _ _ => NA
    refine wpAny_mid (P3 g L e.2 e.1 (numsN xs) oS oKk oK' s1) ?h3 ?h4 (fun f s' h => h.1)
    case h3 =>
      k_steps
      refine stop_out ?_
      refine wpAny_ListComp_free (fun _ => true) (fun v y => ∀ n t, v = Value.int n t → ∃ u, y = Value.int (Int.fmod n 32) u) (by rfl) (by decide) rfl (by decide) rfl ?_
      k_steps
      rename Fr _ _ _ _ => FA
      rename News _ _ _ _ => NA
      rename_i SL wl hSH hIl hCl hLl2 lSL
      have gS := NA _ (.head _)
      have hSI : SL < hSH.objs.size := Heap.lt_size gS.1
      have hwl : wl.toArray.size = (List.take 10 xs).length := ints_len (vs := wl.toArray) hIl
      refine wpAny_pyIter_list (l := SL) (items := wl.toArray) ⟨_, gS.1, rfl, _, rfl⟩ ?_
      refine ⟨hSH.objs.size, [hSH.objs.size, SL], [hSH.objs.size], wl.toArray.size, _, _, rfl, Walks.list rfl _ SL (Nat.ne_of_lt hSI) wl.toArray, ?_, ⟨⟨_, Heap.get?_push_size _ rfl, rfl, rfl⟩, ⟨_, Heap.get?_push_of_some _ gS.1, rfl, _, rfl⟩⟩, ?_, ⟨?_, ?_⟩, ?_⟩
      · have : 1000 ≤ sizeLine := by decide
        omega
      · intro b hb
        show b < (hSH.push _).objs.size
        rw [Heap.size_push]
        rcases List.mem_cons.mp hb with rfl | hb
        · exact Nat.lt_succ_self _
        · rw [List.mem_singleton.mp hb]; exact Nat.lt_succ_of_lt hSI
      · exact fun C i v s₃ m₃ E'' _ _ _ _ _ _ => wpAny_pure ⟨rfl, s₃.heap, s₃.toks, rfl, fun _ _ e => e⟩
      · intro C i v s₃ m₃ E'' _ hv _ hnn hm hk _
        obtain ⟨r, tp, rfl, hr⟩ := ints_at (vs := wl.toArray) hIl hv
        refine wpAny_val (fun v s' => ∃ u tk, v = Value.int (Int.fmod r 32) u ∧ s' = { s₃ with toks := tk }) (wpAny_BinOp (wpAny_Name (wpAny_loadName_local rfl rfl hnn hm ?_))) ?_
        · k_steps
          exact ⟨_, _, rfl, rfl⟩
        · rintro _ _ ⟨u, tk, rfl, rfl⟩
          exact ⟨fun n' t' e => by cases e; exact ⟨_, rfl⟩, s₃.heap, _, rfl, fun _ _ e => e⟩
      · intro Dl h₈ tk₈ ys vsl hD0 hDl hDp hvl hvs' hpair hkk
        rw [List.filter_eq_self.mpr (fun _ _ => rfl)] at hpair
        have hints : IntsAre ys.toList ((List.take 10 xs).map fun n => Int.fmod n 32) := pair_ii (by rw [hvl, hwl]) (fun j v hj => ints_at (vs := wl.toArray) hIl (hvs' j v hj)) hpair
        have kB : ∀ b o, hSH.get? b = some o → h₈.get? b = some o := fun b o e => hkk b o (fun q => Nat.ne_of_lt (Heap.lt_size e) (List.mem_singleton.mp q)) (Heap.get?_push_of_some _ e)
        have FB := fr_keeps FA kB
        have NB := news_keeps NA kB
        have fD := news_fresh FA (Nat.le_refl hSH.objs.size)
        obtain ⟨nD, hDp⟩ := hDp
        obtain ⟨yl⟩ := ys
        replace hints : IntsAre yl ((List.take 10 xs).map fun n => Int.fmod n 32) := hints
        have hn10 : ((List.take 10 xs).map fun n => Int.fmod n 32).length ≤ 10 := by rw [List.length_map, List.length_take]; exact Nat.min_le_left ..
        have NC : News g L h₈ ((Dl, listOf (List.toArray yl) nD) :: _) := fun p hp => by
          rcases List.mem_cons.mp hp with rfl | hp
          · exact ⟨hDp, new_off (fr_keeps FA fun b o e => Heap.get?_push_of_some _ e) hD0⟩
          · exact NB p hp
        have nDl := new_ne (news_keeps NA fun b o e => Heap.get?_push_of_some _ e) hD0
        have nDl' : @Ne Nat Dl SL ∧ @Ne Nat Dl (L + 1 + 1 + 1 + 1) ∧ @Ne Nat Dl (L + 1 + 1 + 1) ∧ @Ne Nat Dl (L + 1 + 1) ∧ @Ne Nat Dl (L + 1) ∧ @Ne Nat Dl 108 := ⟨nDl _ (.head _), nDl _ (.tail _ (.head _)), nDl _ (.tail _ (.tail _ (.head _))), nDl _ (.tail _ (.tail _ (.tail _ (.head _)))), nDl _ (.tail _ (.tail _ (.tail _ (.tail _ (.head _))))), nDl _ (.tail _ (.tail _ (.tail _ (.tail _ (.tail _ (.head _))))))⟩
        clear nDl
        clear FA NA NB
        dsimp only
        k_steps
        refine stop_out ?_
        rename Fr _ _ _ _ => FA
        rename News _ _ _ _ => NA
        rename_i NU ul hNH2 hNI lNU hNH oN3 dN3
        rw [numsN_int] at hNI
        exact P3.intro FA NA rfl dN3 hNI lNU.2.2.2.1 (fun p hp => by
          rcases List.mem_cons.mp hp with rfl | hp
          · exact .head _
          · exact List.mem_of_mem_drop (i := 4) (List.mem_of_mem_drop (i := 0) hp))
    case h4 =>
      intro s₂' hP3
      obtain ⟨_, hNH, tk3, m3, oN3, NU, ul, t3, rfl, F3, hm3, dN3, hNI, lNU', N3⟩ := hP3
      replace F3 : Fr g L hNH _ := fr_know (x := Str.ofString "sign") F3 hm3
      dsimp only
      clear FA NA
      have N0l := numsN_lt (xs := xs)
      have N0n := numsN_len xs
      have N0e := numsN_ne xs
      generalize numsN xs = N0 at *
      have gf : GoFlag := trivial
      k_steps
      refine stop_out ?_
      rename Fr _ _ _ _ => FA
      rename News _ _ _ _ => NA
      refine wpAny_mid (P4 g L e.2 (nubK id [] N0) NU ul oS oKk oN3 oK' s1) ?h5 ?h6 (fun f s' h => h.1)
      case h5 =>
        k_steps
        refine stop_out ?_
        refine wpAny_ListComp_free (fun _ => true) (fun v y => ∀ n t, v = Value.int n t → ∃ u, y = Value.str (fmText (e.1 + 480 + n)) u) (by rfl) (by decide) rfl (by decide) rfl ?_
        k_steps
        rename Fr _ _ _ _ => FA
        rename News _ _ _ _ => NA
        have gN := NA _ (.head _)
        have hNIl : NU < hNH.objs.size := Heap.lt_size gN.1
        have hul : ul.toArray.size = (List.map (fun n : Nat => (n : Int)) N0).length := ints_len (vs := ul.toArray) hNI
        rw [List.length_map] at hul
        refine wpAny_pyIter_list (l := NU) (items := ul.toArray) ⟨_, gN.1, rfl, _, rfl⟩ ?_
        refine ⟨hNH.objs.size, [hNH.objs.size, NU], [hNH.objs.size], ul.toArray.size, _, _, rfl, Walks.list rfl _ NU (Nat.ne_of_lt hNIl) ul.toArray, ?_, ⟨⟨_, Heap.get?_push_size _ rfl, rfl, rfl⟩, ⟨_, Heap.get?_push_of_some _ gN.1, rfl, _, rfl⟩⟩, ?_, ⟨?_, ?_⟩, ?_⟩
        · rw [hul]; exact Nat.le_trans N0n (by decide)
        · intro b hb
          show b < (hNH.push _).objs.size
          rw [Heap.size_push]
          rcases List.mem_cons.mp hb with rfl | hb
          · exact Nat.lt_succ_self _
          · rw [List.mem_singleton.mp hb]; exact Nat.lt_succ_of_lt hNIl
        · exact fun C i v s₃ m₃ E'' _ _ _ _ _ _ => wpAny_pure ⟨rfl, s₃.heap, s₃.toks, rfl, fun _ _ e => e⟩
        · intro C i v s₃ m₃ E'' hC hv _ hnn hm hk _
          replace hC : (hNH.push _).objs.size ≤ C := hC
          rw [Heap.size_push] at hC
          obtain ⟨r, tp, rfl, hr⟩ := ints_at (vs := ul.toArray) hNI hv
          have kk : ∀ b o, hNH.get? b = some o → s₃.heap.get? b = some o := fun b o e => hk b o (fun q => Nat.ne_of_lt (Heap.lt_size e) (List.mem_singleton.mp q)) (Heap.get?_push_of_some _ e)
          have FC : Fr g C s₃.heap _ := fr_know (x := Str.ofString "n") ⟨hnn, fun b o e => kk b o (FA.keep b o e), Nat.le_trans FA.above (Nat.le_trans (Nat.le_of_lt FA.ns.lt) (Nat.le_of_succ_le hC))⟩ hm
          have hne : ∀ p ∈ [(NU, listOf (List.toArray ul) 0), (L + 1 + 1 + 1 + 1, oS), (L + 1 + 1 + 1, oKk), (L + 1 + 1, oN3), (L + 1, oK'), (108, tabObj #[])], p.1 ≠ C := fun p hp => Nat.ne_of_lt (Nat.lt_of_lt_of_le (Heap.lt_size (NA p hp).1) (Nat.le_of_succ_le hC))
          have NC : News g C s₃.heap [(NU, listOf (List.toArray ul) 0), (L + 1 + 1 + 1 + 1, oS), (L + 1 + 1 + 1, oKk), (L + 1 + 1, oN3), (L + 1, oK'), (108, tabObj #[])] := fun p hp => ⟨kk _ _ (NA p hp).1, hne p hp, (NA p hp).2.2⟩
          clear FA NA
          refine wpAny_val (fun v s' => ∃ u h' tk, v = Value.str (fmText (e.1 + 480 + r)) u ∧ (∀ b o, s₃.heap.get? b = some o → h'.get? b = some o) ∧ s' = { s₃ with heap := h', toks := tk }) ?_ ?_
          · k_steps
            rotate_left 4
            refine stop_out ?_
            refine fm_call (X.keeps FC.keep) (T.keeps FC.keep) (by decide) ?_
            intro hF tkF tF hkF
            k_steps
            exact ⟨_, _, _, rfl, hkF, rfl⟩
            all_goals first | exact (0 : Nat) | exact Str.empty | exact Value.none | exact []
          · rintro _ _ ⟨u, h', tk, rfl, hkp, rfl⟩
            exact ⟨fun n' t' e => by cases e; exact ⟨_, rfl⟩, h', _, rfl, hkp⟩
        · intro Dr hR tkR ys vsl hDr0 hDl hDp hvl hvs' hpair hkk
          rw [List.filter_eq_self.mpr (fun _ _ => rfl)] at hpair
          have hstr : StrsAre ys.toList ((N0.map fun n : Nat => (n : Int)).map fun n => fmText (e.1 + 480 + n)) := pair_strs (by rw [hvl, hul, List.length_map]) (fun j v hj => ints_at (vs := ul.toArray) hNI (hvs' j v hj)) hpair
          have hrow : ((N0.map fun n : Nat => (n : Int)).map fun n => fmText (e.1 + 480 + n)) = N0.map (rowOf e.2) := by
            rw [List.map_map]
            exact List.map_congr_left fun n hn => fmText_row e he n (N0l n hn)
          rw [hrow] at hstr
          have kB : ∀ b o, hNH.get? b = some o → hR.get? b = some o := fun b o e => hkk b o (fun q => Nat.ne_of_lt (Heap.lt_size e) (List.mem_singleton.mp q)) (Heap.get?_push_of_some _ e)
          have FB := fr_keeps FA kB
          have NB := news_keeps NA kB
          obtain ⟨nD, hDp⟩ := hDp
          have NC : News g L hR ((Dr, listOf ys nD) :: _) := fun p hp => by
            rcases List.mem_cons.mp hp with rfl | hp
            · exact ⟨hDp, new_off (fr_keeps FA fun b o e => Heap.get?_push_of_some _ e) hDr0⟩
            · exact NB p hp
          have nDl := new_ne (news_keeps NA fun b o e => Heap.get?_push_of_some _ e) hDr0
          have nDr' : @Ne Nat Dr NU ∧ @Ne Nat Dr (L + 1 + 1 + 1 + 1) ∧ @Ne Nat Dr (L + 1 + 1 + 1) ∧ @Ne Nat Dr (L + 1 + 1) ∧ @Ne Nat Dr (L + 1) ∧ @Ne Nat Dr 108 := ⟨nDl _ (.head _), nDl _ (.tail _ (.head _)), nDl _ (.tail _ (.tail _ (.head _))), nDl _ (.tail _ (.tail _ (.tail _ (.head _)))), nDl _ (.tail _ (.tail _ (.tail _ (.tail _ (.head _))))), nDl _ (.tail _ (.tail _ (.tail _ (.tail _ (.tail _ (.head _))))))⟩
          clear nDl FA NA NB
          dsimp only
          k_steps
          rename Fr _ _ _ _ => FA
          rename News _ _ _ _ => NA
          refine stop_out ?_
          have hLR : @LT.lt Nat instLTNat L hR.objs.size := FA.ns.lt
          have gD := NA _ (.head _)
          have hnL : g.get? L = none := Heap.get?_none_of_le FA.above
          have kg : ∀ b o, g.get? b = some o → (hideAll hR [L]).get? b = some o := fun b o e => hideAll_get _ (FA.keep b o e) (fun hm => by rw [List.mem_singleton.mp hm, hnL] at e; cases e)
          refine ue_none (h₀ := hideAll hR [L]) (Ll := L) (X.keeps kg) (T.keeps kg) (by decide) (fun b o e => of_hideAll _ e) (Nat.le_of_eq (hideAll_size _ _)) (src := Dr) (items := ys) ⟨_, hideAll_get _ gD.1 (fun hm => gD.2.1 (List.mem_singleton.mp hm)), rfl, _, rfl⟩ hstr ?len rfl (fun q => nomatch q) FA.ns (hideAll_none _ (.head _)) ?cont
          case len => rw [List.length_map]; exact Nat.le_trans N0n (by decide)
          case cont =>
            intro a s' hk' hdr hos hbare hlist
            have FB := fr_keeps FA hk'
            have NB := news_keeps NA hk'
            have habove := FA.above
            have back : ∀ h₇ : Heap, (∀ b o, (hideAll hR [L]).get? b = some o → h₇.get? b = some o) → News g L h₇ _ := fun h₇ hkeep p hp => ⟨hkeep _ _ (hideAll_get _ (NA p hp).1 (fun hm => (NA p hp).2.1 (List.mem_singleton.mp hm))), (NA p hp).2⟩
            have fS := news_fresh FB (Nat.le_refl s'.heap.objs.size)
            clear FA NA
            k_steps
            refine hlist _ _ (fun h₇ g₇ tk₇ acc cc hkeep hns hbt hSl hstr2 => ?_)
            have FA : Fr g L h₇ _ := ⟨hns, fun b o e => hkeep b o (kg b o e), habove⟩
            have NA0 := back h₇ hkeep
            have NA : News g L h₇ ((s'.heap.objs.size, listOf acc cc) :: _) := fun p hp => by
              rcases List.mem_cons.mp hp with rfl | hp
              · exact ⟨hSl, fS⟩
              · exact NA0 p hp
            rename Fr g L s'.heap _ => FX
            rename News g L s'.heap _ => NX
            have hlt := new_lt NX
            have lR1 := hlt _ (.tail _ (.tail _ (.head _)))
            have lR2 := hlt _ (.tail _ (.tail _ (.tail _ (.head _))))
            have lR3 := hlt _ (.tail _ (.tail _ (.tail _ (.tail _ (.head _)))))
            have lR4 := hlt _ (.tail _ (.tail _ (.tail _ (.tail _ (.tail _ (.head _))))))
            have lR5 := hlt _ (.tail _ (.tail _ (.tail _ (.tail _ (.tail _ (.tail _ (.head _)))))))
            have lR6 := hlt _ (.tail _ (.head _))
            have lR7 := hlt _ (.head _)
            clear hlt FX NX NA0 back
            rw [nub_rows N0l] at hstr2
            have Dn : (nubK id [] N0).Nodup := nubK_nodup
            have Dl : ∀ d ∈ nubK id [] N0, d < 32 := fun d hd => N0l d (nubK_mem.mp hd).1
            have De : nubK id [] N0 ≠ [] := nub_ne N0e
            have Dle : (nubK id [] N0).length ≤ 11 := Nat.le_trans (nubK_le _ _ _) N0n
            generalize hRW : s'.heap.objs.size = RW at *
            k_steps
            rename Fr _ _ _ _ => FA
            rename News _ _ _ _ => NA
            exact P4.intro hbt FA NA rfl rfl hstr2 lR6 (fun p hp => by
              rcases List.mem_cons.mp hp with rfl | hp
              · exact .head _
              · exact .tail _ (.tail _ hp))
      case h6 =>
        intro s₃' hP4
        obtain ⟨_, h4, g4, tk4, m4, RW, acc, cc, t4, rfl, hb4, F4, hm4, hr4, hstr, lRW, N4⟩ := hP4
        clear FA NA
        replace F4 : Fr g L h4 _ := fr_know (x := Str.ofString "rows") (fr_know (x := Str.ofString "sign") F4 hm4) hr4
        dsimp only
        k_steps
        refine stop_out ?_
        rename Fr _ _ _ _ => FA
        rename News _ _ _ _ => NA
        rename_i DU hq1 lDU hq2
        refine wpAny_mid (P5 g L ((nubK id [] N0).map (rowOf e.2)) RW acc cc oS oN3 oK' ⟨h4, g4, s1.drawn, tk4, s1.os⟩) ?h7 ?h8 (fun f s' h => h.1)
        case h7 =>
          refine wpAny_For ?_ (by intro _; rfl)
          k_steps
          rename Fr _ _ _ _ => FA
          rename News _ _ _ _ => NA
          rename IsRange _ _ _ _ _ _ _ _ => hR
          rw [List.length_map] at hR
          refine wpAny_pyIter_range hR (small11 _ N0n) ?_
          rename_i tkB hA tkA t₁ u₁ v₁ kAB
          rw [rsize11 _ N0n]
          have hpk : ∀ b o, hA.get? b = some o → (hA.push { cls := .type "range_iterator", data := .fields #[rawInt 0, rawInt ((N0.length : Nat) : Int), rawInt 1] }).get? b = some o := fun b o e => Heap.get?_push_of_some _ e
          have FB := fr_keeps FA hpk
          have NB := news_keeps NA hpk
          have hIt := Heap.get?_push_size hA (o := { cls := .type "range_iterator", data := .fields #[rawInt 0, rawInt ((N0.length : Nat) : Int), rawInt 1] }) rfl
          have fI := news_fresh FA (Nat.le_refl hA.objs.size)
          have hltA := new_lt NA
          have lIt : @LT.lt Nat instLTNat DU hA.objs.size := hltA _ (.head _)
          clear hltA
          have hoffA := new_offs NA
          dsimp only
          generalize hIQ : hA.objs.size = IT at *
          refine loop_walks (GR := Eq) (fun _ => rfl) (fun _ _ _ => Eq.trans) (h₀ := g) (Walks.range rfl IT 0 1 N0.length) (JD L e.2 N0 DU RW NU acc cc ul oS oN3 oK') [DU, RW, NU, L + 1 + 1 + 1 + 1, L + 1 + 1 + 1, L + 1 + 1, L + 1, 108] [IT] (fun b hb => .inl hb) (fun b hb => hb) ?off ?th ?lt ?turn ?done (news := [(DU, listOf #[] 0), (RW, listOf acc cc), (NU, listOf (List.toArray ul) 0), (L + 1 + 1 + 1 + 1, oS), (L + 1 + 1 + 1, oKk), (L + 1 + 1, oN3), (L + 1, oK'), (108, tabObj #[])]) (own := [(IT, { cls := .type "range_iterator", data := .fields #[rawInt 0, rawInt ((N0.length : Nat) : Int), rawInt 1] })]) FB ?N rfl rfl ?j ?st
          case off => exact hoffA
          case th =>
            intro j h hst b hb
            rw [List.mem_singleton.mp hb]
            exact ⟨_, hst⟩
          case lt => exact fun j v s₁ Q hst hQ => by unfold letOwnedTupleGo; exact wpAny_pure hQ
          case N =>
            intro p hp
            rcases List.mem_append.mp hp with hp | hp
            · exact NB p hp
            · rw [List.mem_singleton.mp hp]; exact ⟨hIt, fI⟩
          case j => exact ⟨⟨_, rfl⟩, rfl, rfl, _, _, _, _, rfl, dKk, .nil⟩
          case st =>
            have e1 : (0 : Int) + ((0 : Nat) : Int) * 1 = 0 := by decide
            have e2 : ((N0.length : Nat) : Int) - ((0 : Nat) : Int) = ((N0.length : Nat) : Int) := Int.sub_zero _
            show IsRangeIter _ IT (0 + ((0 : Nat) : Int) * 1) (((N0.length : Nat) : Int) - ((0 : Nat) : Int)) 1
            rw [e1, e2]; exact hIt
          have nNU := ltc5 (show @LT.lt Nat instLTNat (L + 1 + 1 + 1 + 1) NU from lNU') (show @LT.lt Nat instLTNat 108 L from hL108)
          have nRW := ltc6 (show @LT.lt Nat instLTNat NU RW from lRW) nNU
          have nDU := ltc7 (show @LT.lt Nat instLTNat RW DU from lDU.1) nRW
          have nIT := ltc8 (show @LT.lt Nat instLTNat DU IT from lIt) nDU
          case done =>
            intro m₃ news₃ h₃ g₃ tk₃ hJ ha₃ hg₃ F₃ N₃
            subst hg₃
            obtain ⟨⟨t, hm⟩, hr, hd, va, nd, oKk', cv, rfl, hcv, hS⟩ := hJ
            rw [List.take_of_length_le (Nat.le_refl _)] at hS
            clear FA NA FB NB
            replace F₃ : Fr g L h₃ m₃ := F₃
            replace N₃ : News g L h₃ [(DU, listOf va nd), (RW, listOf acc cc), (NU, listOf (List.toArray ul) 0), (L + 1 + 1 + 1 + 1, oS), (L + 1 + 1 + 1, oKk'), (L + 1 + 1, oN3), (L + 1, oK'), (108, tabObj #[])] := N₃
            k_steps
            exact ⟨rfl, h₃, _, m₃, DU, va, nd, oKk', NU, _, rfl, F₃, hr, hd, hS, lDU.1, N₃⟩
          case turn =>
            intro i v m news own hp₂ gp₂ tk₂ s₂ hi hv hj ha hown hgp F₃ N₃ hs
            obtain ⟨⟨t, hm⟩, hr, hd, va, nd, oKk', cv, rfl, hcv, hS⟩ := hj
            obtain ⟨oI, rfl⟩ := own_one hown
            subst hs hgp
            obtain ⟨ti, rfl⟩ := hv
            have ei : (0 : Int) + ((i : Nat) : Int) * 1 = ((i : Nat) : Int) := by rw [Int.mul_one, Int.zero_add]
            rw [ei]
            clear FA NA FB NB
            replace F₃ : Fr g L hp₂ _ := fr_know (x := Str.ofString "due") (fr_know (x := Str.ofString "rows") (fr_know (x := Str.ofString "sign") F₃ hm) hr) hd
            replace N₃ : News g L hp₂ [(DU, listOf va nd), (RW, listOf acc cc), (NU, listOf (List.toArray ul) 0), (L + 1 + 1 + 1 + 1, oS), (L + 1 + 1 + 1, oKk'), (L + 1 + 1, oN3), (L + 1, oK'), (108, tabObj #[]), (IT, oI)] := N₃
            have hsg : e.2.length = 1 := kind_len e he
            k_steps
            all_goals (rename Fr _ _ _ _ => FA; rename News _ _ _ _ => NA)
            case' _ =>
              rename_i o1 d1 tX t1 TL wl hX hTI hTC hTL lTL hTl hTi hany
              exact .inl ⟨rfl, TE.intro (news' := [(DU, listOf va nd), (RW, listOf acc cc), (NU, listOf (List.toArray ul) 0), (L + 1 + 1 + 1 + 1, oS), (L + 1 + 1 + 1, _), (L + 1 + 1, oN3), (L + 1, oK'), (108, tabObj #[])]) rfl FA NA (fun p hp => .tail _ hp) rfl ⟨⟨_, rfl⟩, rfl, rfl, _, _, _, _, rfl, d1, by rw [due_skip hi hany]; exact hS⟩⟩
            refine stop_out ?_
            rename_i oK5 dK5 tX t1 TL wl hX hTI hTC hTL lTL hTl hTi hany tS kS hSL
            refine wpAny_ListComp_free (fun _ => true) (fun v y => ∀ n t, v = Value.int n t → ∃ u, y = Value.str ⟨#[sgAt n.toNat (N0.getD i 0)]⟩ u) (by rfl) (by decide) rfl (by decide) rfl ?_
            have NZ := NA
            clear NA
            have NA : News g L hX [(DU, listOf va nd), (RW, listOf acc cc), (NU, listOf (List.toArray ul) 0), (L + 1 + 1 + 1 + 1, oS), (L + 1 + 1 + 1, oK5), (L + 1 + 1, oN3), (L + 1, oK'), (108, tabObj #[]), (IT, oI)] := fun p hp => NZ p (.tail _ hp)
            clear NZ
            k_steps
            rename Fr _ _ _ _ => FA
            rename News _ _ _ _ => NA
            rename IsRange _ _ _ _ _ _ _ _ => hR5
            refine wpAny_pyIter_range hR5 (small11 5 (by decide)) ?_
            rename_i hY tkY tr1 tr2 tr3 hkY
            refine ⟨hY.objs.size, [hY.objs.size], [hY.objs.size], 5, _, _, rfl, walks_lt (Walks.range rfl _ 0 1 5), by decide, ?_, ?_, ⟨?_, ?_⟩, ?_⟩
            · show IsRangeIter _ _ (0 + ((0 : Nat) : Int) * 1) ((5 : Int) - ((0 : Nat) : Int)) 1
              rw [fiver]
              exact Heap.get?_push_size _ rfl
            · intro b hb
              show b < (hY.push _).objs.size
              rw [Heap.size_push, List.mem_singleton.mp hb]; exact Nat.lt_succ_self _
            · exact fun C i v s₃ m₃ E'' _ _ _ _ _ _ => wpAny_pure ⟨rfl, s₃.heap, s₃.toks, rfl, fun _ _ e => e⟩
            · intro C p v s₃ m₃ E'' hC hv _ hnn hm2 hk _
              replace hC : (hY.push _).objs.size ≤ C := hC
              rw [Heap.size_push] at hC
              obtain ⟨hp5, tp, rfl⟩ := hv
              have kk : ∀ b o, hY.get? b = some o → s₃.heap.get? b = some o := fun b o e => hk b o (fun q => Nat.ne_of_lt (Heap.lt_size e) (List.mem_singleton.mp q)) (Heap.get?_push_of_some _ e)
              have hne : ∀ p ∈ [(DU, listOf va nd), (RW, listOf acc cc), (NU, listOf (List.toArray ul) 0), (L + 1 + 1 + 1 + 1, oS), (L + 1 + 1 + 1, oK5), (L + 1 + 1, oN3), (L + 1, oK'), (108, tabObj #[]), (IT, oI)], p.1 ≠ C := fun p hp => Nat.ne_of_lt (Nat.lt_of_lt_of_le (Heap.lt_size (NA p hp).1) (Nat.le_of_succ_le hC))
              have NC : News g C s₃.heap [(DU, listOf va nd), (RW, listOf acc cc), (NU, listOf (List.toArray ul) 0), (L + 1 + 1 + 1 + 1, oS), (L + 1 + 1 + 1, oK5), (L + 1 + 1, oN3), (L + 1, oK'), (108, tabObj #[]), (IT, oI)] := fun p hp => ⟨kk _ _ (NA p hp).1, hne p hp, (NA p hp).2.2⟩
              have FC : Fr g C s₃.heap m₃ := ⟨hnn, fun b o e => kk b o (FA.keep b o e), Nat.le_trans FA.above (Nat.le_trans (Nat.le_of_lt FA.ns.lt) (Nat.le_of_succ_le hC))⟩
              clear FA NA hne
              refine wpAny_val (fun v s' => ∃ u h' tk, v = Value.str ⟨#[sgAt p (N0.getD i 0)]⟩ u ∧ (∀ b o, s₃.heap.get? b = some o → h'.get? b = some o) ∧ s' = { s₃ with heap := h', toks := tk }) ?_ ?_
              · rcases five hp5 with rfl | rfl | rfl | rfl | rfl
                · replace FC : Fr g C s₃.heap _ := fr_know (x := Str.ofString "p") (v := .int 0 tp) FC hm2
                  k_steps
                  all_goals first
                    | exact (0 : Nat)
                    | exact Str.empty
                    | exact Value.none
                    | exact []
                    | exact ⟨_, _, _, congrArg (fun z => Value.str ⟨#[z]⟩ _) (sg_no 0 (k := 4) rfl (by assumption)).symm, fun _ _ e => e, rfl⟩
                    | exact ⟨_, _, _, congrArg (fun z => Value.str ⟨#[z]⟩ _) (sg_yes 0 (k := 4) rfl (by assumption)).symm, fun _ _ e => e, rfl⟩
                · replace FC : Fr g C s₃.heap _ := fr_know (x := Str.ofString "p") (v := .int 1 tp) FC hm2
                  k_steps
                  all_goals first
                    | exact (0 : Nat)
                    | exact Str.empty
                    | exact Value.none
                    | exact []
                    | exact ⟨_, _, _, congrArg (fun z => Value.str ⟨#[z]⟩ _) (sg_no 1 (k := 3) rfl (by assumption)).symm, fun _ _ e => e, rfl⟩
                    | exact ⟨_, _, _, congrArg (fun z => Value.str ⟨#[z]⟩ _) (sg_yes 1 (k := 3) rfl (by assumption)).symm, fun _ _ e => e, rfl⟩
                · replace FC : Fr g C s₃.heap _ := fr_know (x := Str.ofString "p") (v := .int 2 tp) FC hm2
                  k_steps
                  all_goals first
                    | exact (0 : Nat)
                    | exact Str.empty
                    | exact Value.none
                    | exact []
                    | exact ⟨_, _, _, congrArg (fun z => Value.str ⟨#[z]⟩ _) (sg_no 2 (k := 2) rfl (by assumption)).symm, fun _ _ e => e, rfl⟩
                    | exact ⟨_, _, _, congrArg (fun z => Value.str ⟨#[z]⟩ _) (sg_yes 2 (k := 2) rfl (by assumption)).symm, fun _ _ e => e, rfl⟩
                · replace FC : Fr g C s₃.heap _ := fr_know (x := Str.ofString "p") (v := .int 3 tp) FC hm2
                  k_steps
                  all_goals first
                    | exact (0 : Nat)
                    | exact Str.empty
                    | exact Value.none
                    | exact []
                    | exact ⟨_, _, _, congrArg (fun z => Value.str ⟨#[z]⟩ _) (sg_no 3 (k := 1) rfl (by assumption)).symm, fun _ _ e => e, rfl⟩
                    | exact ⟨_, _, _, congrArg (fun z => Value.str ⟨#[z]⟩ _) (sg_yes 3 (k := 1) rfl (by assumption)).symm, fun _ _ e => e, rfl⟩
                · replace FC : Fr g C s₃.heap _ := fr_know (x := Str.ofString "p") (v := .int 4 tp) FC hm2
                  k_steps
                  all_goals first
                    | exact (0 : Nat)
                    | exact Str.empty
                    | exact Value.none
                    | exact []
                    | exact ⟨_, _, _, congrArg (fun z => Value.str ⟨#[z]⟩ _) (sg_no 4 (k := 0) rfl (by assumption)).symm, fun _ _ e => e, rfl⟩
                    | exact ⟨_, _, _, congrArg (fun z => Value.str ⟨#[z]⟩ _) (sg_yes 4 (k := 0) rfl (by assumption)).symm, fun _ _ e => e, rfl⟩
              · rintro _ _ ⟨u, h', tk, rfl, hkp, rfl⟩
                exact ⟨fun n' t' e => by cases e; exact ⟨u, by rw [Int.mul_one, Int.zero_add, Int.toNat_natCast]⟩, h', _, rfl, hkp⟩
            · intro Dl h₈ tk₈ ys vsl hD0 hDl hDp hvl hvs' hpair hkk
              rw [List.filter_eq_self.mpr (fun _ _ => rfl)] at hpair
              have hstr5 := pair_five hvl hvs' hpair
              have kB : ∀ b o, hY.get? b = some o → h₈.get? b = some o := fun b o e => hkk b o (fun q => Nat.ne_of_lt (Heap.lt_size e) (List.mem_singleton.mp q)) (Heap.get?_push_of_some _ e)
              have FB := fr_keeps FA kB
              have NB := news_keeps NA kB
              clear FA NA
              dsimp only
              have oV : va.size ≤ 64 := by
                rw [← Array.length_toList, hS.length, List.length_map]
                exact Nat.le_trans (nubK_le _ _ _) (by rw [List.length_take]; exact Nat.le_trans (Nat.min_le_right ..) (Nat.le_trans N0n (by decide)))
              k_steps
              refine join_listC (items := ys) (ys := ((List.range 5).map fun p => sgAt p (N0.getD i 0)).map fun c => (⟨#[c]⟩ : PySem.Str)) hDl hstr5 (by decide) ?_ fun t' k => ?_
              · simp [List.range, List.range.loop, Str.length]
              rw [join_five]
              have oJ : (⟨((List.range 5).map fun p => sgAt p (N0.getD i 0)).toArray⟩ : PySem.Str).length = 5 := rfl
              k_steps
              rename Fr _ _ _ _ => FA
              rename News _ _ _ _ => NA
              rw [row_is] at NA
              exact .inl ⟨rfl, TE.intro (news' := [(DU, listOf (va.push (.str (rowOf e.2 (N0.getD i 0)) _)) (nd + 1)), (RW, listOf acc cc), (NU, listOf (List.toArray ul) 0), (L + 1 + 1 + 1 + 1, oS), (L + 1 + 1 + 1, oK5), (L + 1 + 1, oN3), (L + 1, oK'), (108, tabObj #[])]) rfl FA NA (fun p hp => hp) rfl ⟨⟨_, rfl⟩, rfl, rfl, _, _, _, _, rfl, dK5, by rw [due_add hi hany, List.map_append]; exact strs_push hS⟩⟩
        case h8 =>
          intro s₄' hP5
          obtain ⟨_, h5, tk5, m5, DU5, va, nd, oKk5, NU5, oU, rfl, F5, hr5, hd5, hS5, lDU5, N5⟩ := hP5
          clear FA NA
          replace F5 : Fr g L h5 _ := fr_know (x := Str.ofString "due") (fr_know (x := Str.ofString "rows") F5 hr5) hd5
          dsimp only
          have Dn : (nubK id [] N0).Nodup := nubK_nodup
          have Dl : ∀ d ∈ nubK id [] N0, d < 32 := fun d hd => N0l d (nubK_mem.mp hd).1
          have De : nubK id [] N0 ≠ [] := nub_ne N0e
          have Dle : (nubK id [] N0).length ≤ 11 := Nat.le_trans (nubK_le _ _ _) N0n
          have nRW8 : @LT.lt Nat instLTNat (L + 1 + 1 + 1 + 1) RW := Nat.lt_trans lNU' lRW
          have nDU8 : @LT.lt Nat instLTNat RW DU5 := lDU5
          clear lDU lDU5 lRW lNU' hNI N0l N0n N0e hq1 hq2 hd5 hr5 hm4 hr4 hm3 dN3 DU
          generalize nubK id [] N0 = D at *
          have rok : ∀ x ∈ D.map (rowOf e.2), PyData.strOk x = true := fun x hx => by obtain ⟨d, hd, rfl⟩ := List.mem_map.mp hx; exact row_ok e he d (Dl d hd)
          have r10 : ∀ x ∈ D.map (rowOf e.2), x.length = 10 := fun x hx => by obtain ⟨d, hd, rfl⟩ := List.mem_map.mp hx; exact row_len e he d (Dl d hd)
          have rl : (D.map (rowOf e.2)).length ≤ 11 := by rw [List.length_map]; exact Dle
          k_steps
          refine stop_out ?_
          rename Fr _ _ _ _ => FA
          rename News _ _ _ _ => NA
          refine ne_strs (xs := Array.toList acc) (ys := Array.toList va) ⟨_, (NA _ (.tail _ (.head _))).1, rfl, _, rfl⟩ ⟨_, (NA _ (.head _)).1, rfl, _, rfl⟩ hstr hS5 rok rok ?u ?_
          case u => ke_room
          rw [decide_eq_true rfl]
          k_steps
          refine stop_out ?_
          rename Fr _ _ _ _ => FA
          rename News _ _ _ _ => NA
          rename_i h50 h51
          refine wpAny_mid (P6 g L (D.map (rowOf e.2)) RW acc cc ⟨h51, g4, s1.drawn, tk5, s1.os⟩) ?h9 ?h10 (fun f s' h => h.1)
          case h9 =>
            refine wpAny_For ?_ (by intro _; rfl)
            k_steps
            rename Fr _ _ _ _ => FA
            rename News _ _ _ _ => NA
            rename IsRange _ _ _ _ _ _ _ _ => hR
            refine wpAny_pyIter_range hR small32 ?_
            rename_i hA tkA t₁ u₁ v₁ kAB
            have hpk : ∀ b o, hA.get? b = some o → (hA.push { cls := .type "range_iterator", data := .fields #[rawInt 0, rawInt (Builtin.Range.rangeSize 0 32 1), rawInt 1] }).get? b = some o := fun b o e => Heap.get?_push_of_some _ e
            have FB := fr_keeps FA hpk
            have NB := news_keeps NA hpk
            have hIt := Heap.get?_push_size hA (o := { cls := .type "range_iterator", data := .fields #[rawInt 0, rawInt (Builtin.Range.rangeSize 0 32 1), rawInt 1] }) rfl
            have fI := news_fresh FA (Nat.le_refl hA.objs.size)
            have lIt : @LT.lt Nat instLTNat DU5 hA.objs.size := new_lt NA _ (.head _)
            dsimp only
            generalize hIQ : hA.objs.size = IT at *
            have hrl : 0 < (D.map (rowOf e.2)).length := by rw [List.length_map]; exact List.length_pos_iff.mpr De
            have fst8 : shownF (D.map (rowOf e.2)) 0 = 0 := rfl
            have fst9 : filledF (D.map (rowOf e.2)) 0 = 0 := rfl
            generalize hrs9 : D.map (rowOf e.2) = rs at *
            have nI := ltI nRW8 nDU8 lIt (show @LT.lt Nat instLTNat 108 L from hL108)
            refine loop_walks2 (GR := BareTo) BareTo.rfl' BareTo.trans' (h₀ := g) (walks_lt (Walks.range rfl IT 0 1 32)) (JS L rs RW IT acc cc) [IT] (fun b hb => .inl hb) (fun b hb => hb) ?off ?th ?lt ?turn ?done (news := [(RW, listOf acc cc), (L + 1 + 1 + 1 + 1, oS), (108, tabObj #[]), (DU5, listOf va nd)]) (own := [(IT, { cls := .type "range_iterator", data := .fields #[rawInt 0, rawInt (Builtin.Range.rangeSize 0 32 1), rawInt 1] })]) FB ?N rfl ?j ?st
            case off =>
              rintro i m news ⟨_, _, _, oS', cv, tps, cA, oc, rfl, _, _, q1, q2, q3, q4⟩ p hp hm
              have hm' := List.mem_singleton.mp hm
              rcases List.mem_cons.mp hp with rfl | hp
              · exact Nat.ne_of_lt nI.1 hm'
              rcases List.mem_cons.mp hp with rfl | hp
              · exact Nat.ne_of_lt nI.2.1 hm'
              rcases List.mem_cons.mp hp with rfl | hp
              · exact Nat.ne_of_lt nI.2.2.1 hm'
              · rw [List.mem_singleton.mp hp] at hm'
                exact q4 hm'
            case th =>
              intro j h hst b hb
              rw [List.mem_singleton.mp hb]
              exact ⟨_, hst⟩
            case lt => exact fun j v s₁ Q hst hQ => by unfold letOwnedTupleGo; exact wpAny_pure hQ
            case N =>
              intro p hp
              rcases List.mem_cons.mp hp with rfl | hp
              · exact NB _ (.tail _ (.head _))
              rcases List.mem_cons.mp hp with rfl | hp
              · exact NB _ (.tail _ (.tail _ (.tail _ (.head _))))
              rcases List.mem_cons.mp hp with rfl | hp
              · exact NB _ (.tail _ (.tail _ (.tail _ (.tail _ (.tail _ (.tail _ (.tail _ (.head _))))))))
              rcases List.mem_cons.mp hp with rfl | hp
              · exact NB _ (.head _)
              · rw [List.mem_singleton.mp hp]; exact ⟨hIt, fI⟩
            case j => exact ⟨⟨_, by rw [fst8]; rfl⟩, ⟨_, by rw [fst9]; rfl⟩, rfl, _, _, _, _, _, rfl, dS, .inl rfl, ⟨Nat.ne_of_gt nDU8, Nat.ne_of_gt (Nat.lt_trans nRW8 nDU8), Nat.ne_of_gt (Nat.lt_trans nI.2.2.2.1 nDU8), Nat.ne_of_lt lIt⟩⟩
            case st =>
              have e1 : (0 : Int) + ((0 : Nat) : Int) * 1 = 0 := by decide
              show IsRangeIter _ IT (0 + ((0 : Nat) : Int) * 1) ((32 : Int) - ((0 : Nat) : Int)) 1
              rw [e1, size32]; exact hIt
            case done =>
              intro m₃ news₃ h₃ g₃ tk₃ hJ hg₃ F₃ N₃
              obtain ⟨⟨t1, hs1⟩, ⟨t2, hf1⟩, hr1, oS', cv, tps, cA, oc, rfl, _, _, _⟩ := hJ
              clear FA NA FB NB
              replace F₃ : Fr g L h₃ m₃ := F₃
              replace N₃ : News g L h₃ [(RW, listOf acc cc), (L + 1 + 1 + 1 + 1, oS'), (108, tabObj tps), (cA, oc)] := N₃
              k_steps
              exact ⟨rfl, h₃, g₃, _, m₃, t1, t2, rfl, hg₃, F₃, hr1, hs1, hf1, fun p hp => N₃ p (by rw [List.mem_singleton.mp hp]; exact .head _), tps, (N₃ _ (.tail _ (.tail _ (.head _)))).1⟩
            case turn =>
              intro i v m news own hp₂ gp₂ tk₂ s₂ hi hv hj hown hgp F₃ N₃ hs
              obtain ⟨⟨t1, hs1⟩, ⟨t2, hf1⟩, hr1, oS6, cv, tps, cA, oc, rfl, hcv, hTab, hcne⟩ := hj
              obtain ⟨oI, rfl⟩ := own_one hown
              subst hs
              obtain ⟨_, ti, rfl⟩ := hv
              have ei : (0 : Int) + ((i : Nat) : Int) * 1 = ((i : Nat) : Int) := by rw [Int.mul_one, Int.zero_add]
              rw [ei]
              clear FA NA FB NB
              replace F₃ : Fr g L hp₂ _ := fr_know (x := Str.ofString "rows") (fr_know (x := Str.ofString "filled") (fr_know (x := Str.ofString "shown") F₃ hs1) hf1) hr1
              replace N₃ : News g L hp₂ [(RW, listOf acc cc), (L + 1 + 1 + 1 + 1, oS6), (108, tabObj tps), (cA, oc), (IT, oI)] := N₃
              have nc4 : @Ne Nat cA (L + 1 + 1 + 1 + 1) := hcne.2.1
              k_steps
              refine stop_out ?_
              clear nc4
              rename Fr _ _ _ _ => FA
              rename News _ _ _ _ => NA
              refine wpAny_Assign_ListComp_free (fun v => match v with | .int n _ => decide (i / 2 ^ n.toNat % 2 = 1) | _ => false) (fun v y => ∀ n t, v = Value.int n t → ∃ u, y = Value.int (5 + n) u) (by rfl) (by rfl) (by decide) rfl (by decide) rfl rfl rfl ?_
              k_steps
              rename Fr _ _ _ _ => FA
              rename News _ _ _ _ => NA
              rename IsRange _ _ _ _ _ _ _ _ => hR5
              refine wpAny_pyIter_range hR5 (small11 5 (by decide)) ?_
              rename_i hX oS7 FX NX dS7 hY tkY tr1 tr2 tr3 hkY
              clear FX NX
              have hpk : ∀ b o, hY.get? b = some o → (hY.push { cls := .type "range_iterator", data := .fields #[rawInt 0, rawInt (Builtin.Range.rangeSize 0 5 1), rawInt 1] }).get? b = some o := fun b o e => Heap.get?_push_of_some _ e
              refine ⟨hY.objs.size, [hY.objs.size], [hY.objs.size], 5, _, _, _, rfl, walks_lt (Walks.range rfl _ 0 1 5), by decide, ?_, ?_, ?_, FA.ns.keeps hpk, ⟨?_, ?_⟩, ?_⟩
              · show IsRangeIter _ _ (0 + ((0 : Nat) : Int) * 1) ((5 : Int) - ((0 : Nat) : Int)) 1
                rw [fiver]
                exact Heap.get?_push_size _ rfl
              · intro b hb
                show b < (hY.push _).objs.size
                rw [Heap.size_push, List.mem_singleton.mp hb]; exact Nat.lt_succ_self _
              · exact fun hm => Nat.ne_of_lt FA.ns.lt (List.mem_singleton.mp hm)
              · intro C p v s₃ m₃ E'' hC hv hnn hm2 hk _
                replace hC : (hY.push _).objs.size ≤ C := hC
                rw [Heap.size_push] at hC
                obtain ⟨hp5, tp, rfl⟩ := hv
                have kk : ∀ b o, hY.get? b = some o → s₃.heap.get? b = some o := fun b o e => hk b o (fun q => Nat.ne_of_lt (Heap.lt_size e) (List.mem_singleton.mp q)) (Heap.get?_push_of_some _ e)
                have hne : ∀ p ∈ [(RW, listOf acc cc), (L + 1 + 1 + 1 + 1, oS7), (108, tabObj tps), (cA, oc), (IT, oI)], p.1 ≠ C := fun p hp => Nat.ne_of_lt (Nat.lt_of_lt_of_le (Heap.lt_size (NA p hp).1) (Nat.le_of_succ_le hC))
                have NC : News g C s₃.heap [(RW, listOf acc cc), (L + 1 + 1 + 1 + 1, oS7), (108, tabObj tps), (cA, oc), (IT, oI)] := fun p hp => ⟨kk _ _ (NA p hp).1, hne p hp, (NA p hp).2.2⟩
                have FC : Fr g C s₃.heap m₃ := ⟨hnn, fun b o e => kk b o (FA.keep b o e), Nat.le_trans FA.above (Nat.le_trans (Nat.le_of_lt FA.ns.lt) (Nat.le_of_succ_le hC))⟩
                clear FA NA hne
                rw [List.forIn_cons]
                refine wpAny_bind ?_
                rw [if_pos rfl]
                refine wpAny_bind ?_
                refine wpAny_valA (fun b s' => b = decide (i / 2 ^ p % 2 = 1) ∧ ∃ tk, s' = { s₃ with toks := tk }) ?_ ?_
                rotate_left 1
                · rintro _ _ ⟨rfl, tk, rfl⟩
                  refine wpAny_pure ?_
                  dsimp only
                  rw [List.forIn_nil]
                  refine wpAny_pure ⟨?_, s₃.heap, tk, rfl, fun _ _ e => e⟩
                  show _ = decide (i / 2 ^ ((0 : Int) + ((p : Nat) : Int) * 1).toNat % 2 = 1)
                  rw [Int.mul_one, Int.zero_add, Int.toNat_natCast]
                rcases five hp5 with rfl | rfl | rfl | rfl | rfl
                · replace FC : Fr g C s₃.heap _ := fr_know (x := Str.ofString "p") (v := .int 0 tp) FC hm2
                  k_steps
                  all_goals first
                    | exact (0 : Nat)
                    | exact Str.empty
                    | exact Value.none
                    | exact []
                    | exact ⟨bit_eq (i := i) (k := 0), _, rfl⟩
                · replace FC : Fr g C s₃.heap _ := fr_know (x := Str.ofString "p") (v := .int 1 tp) FC hm2
                  k_steps
                  all_goals first
                    | exact (0 : Nat)
                    | exact Str.empty
                    | exact Value.none
                    | exact []
                    | exact ⟨bit_eq (i := i) (k := 1), _, rfl⟩
                · replace FC : Fr g C s₃.heap _ := fr_know (x := Str.ofString "p") (v := .int 2 tp) FC hm2
                  k_steps
                  all_goals first
                    | exact (0 : Nat)
                    | exact Str.empty
                    | exact Value.none
                    | exact []
                    | exact ⟨bit_eq (i := i) (k := 2), _, rfl⟩
                · replace FC : Fr g C s₃.heap _ := fr_know (x := Str.ofString "p") (v := .int 3 tp) FC hm2
                  k_steps
                  all_goals first
                    | exact (0 : Nat)
                    | exact Str.empty
                    | exact Value.none
                    | exact []
                    | exact ⟨bit_eq (i := i) (k := 3), _, rfl⟩
                · replace FC : Fr g C s₃.heap _ := fr_know (x := Str.ofString "p") (v := .int 4 tp) FC hm2
                  k_steps
                  all_goals first
                    | exact (0 : Nat)
                    | exact Str.empty
                    | exact Value.none
                    | exact []
                    | exact ⟨bit_eq (i := i) (k := 4), _, rfl⟩
              · intro C p v s₃ m₃ E'' hC hv _ hnn hm2 hk _
                replace hC : (hY.push _).objs.size ≤ C := hC
                rw [Heap.size_push] at hC
                obtain ⟨hp5, tp, rfl⟩ := hv
                have kk : ∀ b o, hY.get? b = some o → s₃.heap.get? b = some o := fun b o e => hk b o (fun q => Nat.ne_of_lt (Heap.lt_size e) (List.mem_singleton.mp q)) (Heap.get?_push_of_some _ e)
                have FC : Fr g C s₃.heap _ := fr_know (x := Str.ofString "p") ⟨hnn, fun b o e => kk b o (FA.keep b o e), Nat.le_trans FA.above (Nat.le_trans (Nat.le_of_lt FA.ns.lt) (Nat.le_of_succ_le hC))⟩ hm2
                have NC : News g C s₃.heap [] := fun p hp => nomatch hp
                clear FA NA
                refine wpAny_val (fun v s' => ∃ u tk, v = Value.int (5 + (0 + ((p : Nat) : Int) * 1)) u ∧ s' = { s₃ with toks := tk }) ?_ ?_
                · k_steps
                  all_goals first
                    | exact ⟨_, _, rfl, rfl⟩
                    | exact (0 : Nat)
                    | exact Str.empty
                    | exact Value.none
                    | exact []
                · rintro _ _ ⟨u, tk, rfl, rfl⟩
                  exact ⟨fun n' t' e => by cases e; exact ⟨_, rfl⟩, s₃.heap, _, rfl, fun _ _ e => e⟩
              · intro Dl h₈ tk₈ ys vsl hD0 hDl hDp hvl hvs' hpair hns hkk
                have hplI := pair_places hvl hvs' hpair
                obtain ⟨nD, hDp⟩ := hDp
                have hnL : g.get? L = none := Heap.get?_none_of_le FA.above
                have offI : ∀ b o, hY.get? b = some o → b ∉ [hY.objs.size] := fun b o e hm => Nat.ne_of_lt (Heap.lt_size e) (List.mem_singleton.mp hm)
                have habove := FA.above
                have FB : Fr g L h₈ _ := ⟨hns, fun b o e => hkk b o (fun q => by have q' : b = L := q; rw [q', hnL] at e; cases e) (offI b o (FA.keep b o e)) (hpk b o (FA.keep b o e)), habove⟩
                have nDn := new_ne (news_keeps NA hpk) hD0
                have ncp : @Ne Nat cA Dl := fun q => nDn _ (.tail _ (.tail _ (.tail _ (.head _)))) q.symm
                have np8 : @Ne Nat Dl 108 := nDn _ (.tail _ (.tail _ (.head _)))
                have NB : News g L h₈ [(Dl, listOf ys nD), (RW, listOf acc cc), (L + 1 + 1 + 1 + 1, oS7), (108, tabObj tps), (cA, oc), (IT, oI)] := fun p hp => by
                  rcases List.mem_cons.mp hp with rfl | hp
                  · exact ⟨hDp, new_off (fr_keeps FA hpk) hD0⟩
                  · exact ⟨hkk _ _ (NA p hp).2.1 (offI _ _ (NA p hp).1) (hpk _ _ (NA p hp).1), (NA p hp).2⟩
                clear FA NA nDn offI
                dsimp only
                have hp5 : (plI i).length ≤ 5 := plI_len5 hi
                k_steps
                refine stop_out ?_
                refine Assign_Tuple ?_
                k_steps
                refine stop_out ?_
                rename Fr _ _ _ _ => FA
                rename News _ _ _ _ => NA
                refine lw_any X T CH (by decide) FA NA hTab hstr (by omega) hrl hplI hp5 (fun p hp => plI_mem p hp) r10 np8 (Nat.ne_of_gt nI.2.2.2.1) (Nat.ne_of_gt nI.2.2.2.2) (Nat.ne_of_gt nI.2.2.1) ncp hcne ?_
                intro h₉ g₉ tk₉ Tu c' u1 u2 oc' F₉ N₉ hb₉ hTab₉ hcne₉
                clear FA NA
                k_steps
                all_goals (rename Fr _ _ _ _ => FA; rename News _ _ _ _ => NA)
                all_goals first
                  | exact .inl ⟨rfl, TF.intro (news' := [(RW, listOf acc cc), (L + 1 + 1 + 1 + 1, oS7), (108, tabObj #[rawInt 79, rawInt 4, .ref c']), (c', oc')]) (BareTo.trans' _ _ _ hgp hb₉) FA NA (fun p hp => .tail _ (.tail _ hp)) ⟨⟨_, congrArg (fun z => some (Value.int z _)) (shown_yes hi (by assumption))⟩, ⟨_, congrArg (fun z => some (Value.int z _)) (filled_yes hi (by assumption))⟩, rfl, oS7, _, _, c', oc', rfl, dS7, hTab₉, hcne₉⟩⟩
                  | exact .inl ⟨rfl, TF.intro (news' := [(RW, listOf acc cc), (L + 1 + 1 + 1 + 1, oS7), (108, tabObj #[rawInt 79, rawInt 4, .ref c']), (c', oc')]) (BareTo.trans' _ _ _ hgp hb₉) FA NA (fun p hp => .tail _ (.tail _ hp)) ⟨⟨_, congrArg (fun z => some (Value.int z _)) (shown_yes hi (by assumption))⟩, ⟨_, congrArg (fun z => some (Value.int z _)) (filled_no hi (by assumption))⟩, rfl, oS7, _, _, c', oc', rfl, dS7, hTab₉, hcne₉⟩⟩
                  | exact .inl ⟨rfl, TF.intro (news' := [(RW, listOf acc cc), (L + 1 + 1 + 1 + 1, oS7), (108, tabObj #[rawInt 79, rawInt 4, .ref c']), (c', oc')]) (BareTo.trans' _ _ _ hgp hb₉) FA NA (fun p hp => .tail _ (.tail _ hp)) ⟨⟨_, congrArg (fun z => some (Value.int z _)) (shown_no hi (by assumption))⟩, ⟨_, congrArg (fun z => some (Value.int z _)) (filled_yes hi (by assumption))⟩, rfl, oS7, _, _, c', oc', rfl, dS7, hTab₉, hcne₉⟩⟩
                  | exact .inl ⟨rfl, TF.intro (news' := [(RW, listOf acc cc), (L + 1 + 1 + 1 + 1, oS7), (108, tabObj #[rawInt 79, rawInt 4, .ref c']), (c', oc')]) (BareTo.trans' _ _ _ hgp hb₉) FA NA (fun p hp => .tail _ (.tail _ hp)) ⟨⟨_, congrArg (fun z => some (Value.int z _)) (shown_no hi (by assumption))⟩, ⟨_, congrArg (fun z => some (Value.int z _)) (filled_no hi (by assumption))⟩, rfl, oS7, _, _, c', oc', rfl, dS7, hTab₉, hcne₉⟩⟩
          case h10 =>
            intro s₅' hP6
            obtain ⟨_, h6, g6, tk6, m6, t61, t62, rfl, hb6, F6, hr6, hs6, hf6, N6, h108⟩ := hP6
            clear FA NA
            replace F6 : Fr g L h6 _ := fr_know (x := Str.ofString "filled") (fr_know (x := Str.ofString "shown") (fr_know (x := Str.ofString "rows") F6 hr6) hs6) hf6
            have keep6 := F6.keep
            dsimp only
            have hlast := law_last (kind_len e he) Dn Dl De
            have racc : acc.size = D.length := by rw [← Array.length_toList, hstr.length, List.length_map]
            generalize shownF (D.map (rowOf e.2)) 32 = SH at *
            generalize filledF (D.map (rowOf e.2)) 32 = FI at *
            have gf : GoFlag := trivial
            k_steps
            refine stop_out ?_
            refine wpAny_val (fun v s' => v = Value.bool true ∧ ∃ tk, s' = ⟨h6, g6, s1.drawn, tk, s1.os⟩) ?_ ?_
            · rw [← racc] at hlast
              rcases hlast with ⟨q1, q2⟩ | ⟨q1, q2⟩
              · k_steps
                all_goals first
                  | (exfalso; omega)
                  | exact ⟨congrArg Value.bool (decide_eq_true (by omega)), _, rfl⟩
                  | exact ⟨congrArg Value.bool (beq_iff_eq.mpr (by omega)), _, rfl⟩
              · k_steps
                all_goals first
                  | (exfalso; omega)
                  | exact ⟨congrArg Value.bool (decide_eq_true (by omega)), _, rfl⟩
                  | exact ⟨congrArg Value.bool (beq_iff_eq.mpr (by omega)), _, rfl⟩
            · rintro _ _ ⟨rfl, tk7, rfl⟩
              dsimp only
              exact ⟨rfl, fun b o e => keep6 b o (by rw [← hg]; exact e), rfl, hb6 (hb4 (by rw [hg0]; exact AllBare.empty)), ⟨h108, True.intro⟩⟩
          )
end Mine
end PartLawD

theorem PySem.Challenge.cw_ij0158_01_holds : PySem.Challenge.rw_ij0158_01.Holds :=
  Mine.holds
