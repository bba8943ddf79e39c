import PyProof.Rows.All
import Wide.All
import OpenK.AllK
import Wide.FinOn
import PySem.Challenge.RW_rw0095_01
set_option Elab.async false
set_option maxRecDepth 100000

section
namespace Mine
noncomputable def mE (k : Nat) : Nat := if k = 0 then 0x5555 else if k = 1 then 0x3333 else if k = 2 then 0x0F0F else 0x00FF
noncomputable def mOr (k M : Nat) : Nat := (M ||| (M >>> (2 ^ k))) &&& mE k
noncomputable def mAnd (k M : Nat) : Nat := (M &&& (M >>> (2 ^ k))) &&& mE k
noncomputable def shN (M C : Nat) : Nat → Nat
  | 0 => if M = C then 1 else 0
  | k + 1 => shN M C k + shN (mOr k M) (mOr k C) k
noncomputable def stN (M : Nat) : Nat → Nat
  | 0 => if M = 0 then 0 else 1
  | k + 1 => stN M k + stN (mAnd k M) k
/-! the same, in the words that the kernel counts fast -/
noncomputable def or0 (M : Nat) : Nat := Nat.land (Nat.lor M (Nat.shiftRight M 1)) 0x5555
noncomputable def or1 (M : Nat) : Nat := Nat.land (Nat.lor M (Nat.shiftRight M 2)) 0x3333
noncomputable def or2 (M : Nat) : Nat := Nat.land (Nat.lor M (Nat.shiftRight M 4)) 0x0F0F
noncomputable def or3 (M : Nat) : Nat := Nat.land (Nat.lor M (Nat.shiftRight M 8)) 0x00FF
noncomputable def an0 (M : Nat) : Nat := Nat.land (Nat.land M (Nat.shiftRight M 1)) 0x5555
noncomputable def an1 (M : Nat) : Nat := Nat.land (Nat.land M (Nat.shiftRight M 2)) 0x3333
noncomputable def an2 (M : Nat) : Nat := Nat.land (Nat.land M (Nat.shiftRight M 4)) 0x0F0F
noncomputable def an3 (M : Nat) : Nat := Nat.land (Nat.land M (Nat.shiftRight M 8)) 0x00FF
noncomputable def sh0 (M C : Nat) : Nat := cond (Nat.beq M C) 1 0
noncomputable def sh1 (M C : Nat) : Nat := Nat.add (sh0 M C) (sh0 (or0 M) (or0 C))
noncomputable def sh2 (M C : Nat) : Nat := Nat.add (sh1 M C) (sh1 (or1 M) (or1 C))
noncomputable def sh3 (M C : Nat) : Nat := Nat.add (sh2 M C) (sh2 (or2 M) (or2 C))
noncomputable def sh4 (M C : Nat) : Nat := Nat.add (sh3 M C) (sh3 (or3 M) (or3 C))
noncomputable def st0 (M : Nat) : Nat := cond (Nat.beq M 0) 0 1
noncomputable def st1 (M : Nat) : Nat := Nat.add (st0 M) (st0 (an0 M))
noncomputable def st2 (M : Nat) : Nat := Nat.add (st1 M) (st1 (an1 M))
noncomputable def st3 (M : Nat) : Nat := Nat.add (st2 M) (st2 (an2 M))
noncomputable def st4 (M : Nat) : Nat := Nat.add (st3 M) (st3 (an3 M))
theorem sh0_eq (M C : Nat) : sh0 M C = shN M C 0 := by
  unfold sh0 shN
  by_cases h : M = C
  · rw [if_pos h, h, Nat.beq_refl]; rfl
  · rw [if_neg h]
    cases q : Nat.beq M C with
    | false => rfl
    | true => exact (h (Nat.eq_of_beq_eq_true q)).elim
theorem sh1_eq (M C : Nat) : sh1 M C = shN M C 1 := by
  show sh0 M C + sh0 (mOr 0 M) (mOr 0 C) = shN M C 0 + shN (mOr 0 M) (mOr 0 C) 0
  rw [sh0_eq, sh0_eq]
theorem sh2_eq (M C : Nat) : sh2 M C = shN M C 2 := by
  show sh1 M C + sh1 (mOr 1 M) (mOr 1 C) = shN M C 1 + shN (mOr 1 M) (mOr 1 C) 1
  rw [sh1_eq, sh1_eq]
theorem sh3_eq (M C : Nat) : sh3 M C = shN M C 3 := by
  show sh2 M C + sh2 (mOr 2 M) (mOr 2 C) = shN M C 2 + shN (mOr 2 M) (mOr 2 C) 2
  rw [sh2_eq, sh2_eq]
theorem sh4_eq (M C : Nat) : sh4 M C = shN M C 4 := by
  show sh3 M C + sh3 (mOr 3 M) (mOr 3 C) = shN M C 3 + shN (mOr 3 M) (mOr 3 C) 3
  rw [sh3_eq, sh3_eq]
theorem st0_eq (M : Nat) : st0 M = stN M 0 := by
  unfold st0 stN
  by_cases h : M = 0
  · rw [if_pos h, h, Nat.beq_refl]; rfl
  · rw [if_neg h]
    cases q : Nat.beq M 0 with
    | false => rfl
    | true => exact (h (Nat.eq_of_beq_eq_true q)).elim
theorem st1_eq (M : Nat) : st1 M = stN M 1 := by
  show st0 M + st0 (mAnd 0 M) = stN M 0 + stN (mAnd 0 M) 0
  rw [st0_eq, st0_eq]
theorem st2_eq (M : Nat) : st2 M = stN M 2 := by
  show st1 M + st1 (mAnd 1 M) = stN M 1 + stN (mAnd 1 M) 1
  rw [st1_eq, st1_eq]
theorem st3_eq (M : Nat) : st3 M = stN M 3 := by
  show st2 M + st2 (mAnd 2 M) = stN M 2 + stN (mAnd 2 M) 2
  rw [st2_eq, st2_eq]
theorem st4_eq (M : Nat) : st4 M = stN M 4 := by
  show st3 M + st3 (mAnd 3 M) = stN M 3 + stN (mAnd 3 M) 3
  rw [st3_eq, st3_eq]
noncomputable def okP (t s p : Nat) : Bool := and (Nat.ble t p) (and (Nat.ble p s) (cond (Nat.beq t p) (Nat.beq s p) (not (Nat.beq s p))))
noncomputable def okM (M p : Nat) : Bool := and (Nat.ble (st4 M) p) (and (Nat.ble p (sh4 M 0xFFFF)) (cond (Nat.beq (st4 M) p) (Nat.beq (sh4 M 0xFFFF) p) (not (Nat.beq (sh4 M 0xFFFF) p))))
theorem okM_iff {M p : Nat} (h : okM M p = true) : stN M 4 ≤ p ∧ p ≤ shN M 0xFFFF 4 ∧ (stN M 4 = p ↔ shN M 0xFFFF 4 = p) := by
  unfold okM at h
  rw [st4_eq, sh4_eq] at h
  rw [Bool.and_eq_true, Bool.and_eq_true] at h
  refine ⟨Nat.le_of_ble_eq_true h.1, Nat.le_of_ble_eq_true h.2.1, ?_⟩
  have h3 := h.2.2
  rw [← Nat.beq_eq, ← Nat.beq_eq]
  revert h3
  cases Nat.beq (stN M 4) p <;> cases Nat.beq (shN M 65535 4) p <;> simp
noncomputable def okAll (M p b : Nat) : Nat → Bool
  | 0 => okM M p
  | i + 1 => and (okAll M p b i) (match b with | 0 => true | b + 1 => okAll (Nat.add M (Nat.pow 2 i)) (Nat.succ p) b i)
theorem okAll_true : okAll 0 0 5 16 = true := by decide +kernel
end Mine
end

section
namespace Mine
noncomputable def chM (chi : Nat → Bool) : Nat → Nat
  | 0 => 0
  | i + 1 => chM chi i + if chi i = true then 2 ^ i else 0
noncomputable def chN (chi : Nat → Bool) : Nat → Nat
  | 0 => 0
  | i + 1 => chN chi i + if chi i = true then 1 else 0
theorem okAll_sound (chi : Nat → Bool) : ∀ (i M p b : Nat), okAll M p b i = true → chN chi i ≤ b → okM (M + chM chi i) (p + chN chi i) = true
  | 0, M, p, b, h, _ => h
  | i + 1, M, p, b, h, hb => by
    unfold okAll at h
    rw [Bool.and_eq_true] at h
    unfold chM chN
    unfold chN at hb
    by_cases hc : chi i = true
    · rw [if_pos hc] at hb ⊢
      rw [if_pos hc]
      cases b with
      | zero => omega
      | succ b =>
        have := okAll_sound chi i (M + 2 ^ i) (p + 1) b h.2 (by omega)
        rw [show M + (chM chi i + 2 ^ i) = M + 2 ^ i + chM chi i by omega, show p + (chN chi i + 1) = p + 1 + chN chi i by omega]
        exact this
    · rw [if_neg hc] at hb ⊢
      rw [if_neg hc]
      exact okAll_sound chi i M p b h.1 (by omega)
theorem okM_of (chi : Nat → Bool) (h : chN chi 16 ≤ 5) : okM (chM chi 16) (chN chi 16) = true := by
  have := okAll_sound chi 16 0 0 5 okAll_true h
  rwa [Nat.zero_add, Nat.zero_add] at this
end Mine
end

section
namespace Mine
theorem chM_lt (chi : Nat → Bool) : ∀ i, chM chi i < 2 ^ i
  | 0 => by unfold chM; decide
  | i + 1 => by
    have := chM_lt chi i
    unfold chM
    rw [Nat.pow_succ]
    split <;> omega
theorem chM_bit (chi : Nat → Bool) (j : Nat) : ∀ i, (chM chi i).testBit j = (decide (j < i) && chi j)
  | 0 => by
    unfold chM
    rw [Nat.zero_testBit]
    simp
  | i + 1 => by
    have hlt := chM_lt chi i
    have ih := chM_bit chi j i
    unfold chM
    by_cases hc : chi i = true
    · rw [if_pos hc, Nat.add_comm]
      rcases Nat.lt_trichotomy j i with h | h | h
      · rw [Nat.testBit_two_pow_add_gt h, ih]
        simp [h, Nat.lt_succ_of_lt h]
      · subst h
        rw [Nat.testBit_two_pow_add_eq, ih]
        simp [hc]
      · rw [Nat.testBit_lt_two_pow]
        · simp [Nat.not_lt.mpr h]
        · exact Nat.lt_of_lt_of_le (show 2 ^ i + chM chi i < 2 ^ (i + 1) by rw [Nat.pow_succ]; omega) (Nat.pow_le_pow_right (by decide) h)
    · rw [if_neg hc, Nat.add_zero, ih]
      rcases Nat.lt_trichotomy j i with h | h | h
      · simp [h, Nat.lt_succ_of_lt h]
      · subst h; simp [hc]
      · simp [Nat.not_lt.mpr h, Nat.not_lt.mpr (Nat.le_of_lt h)]
end Mine
end

section
namespace Mine
/-- the shadow on the coordinates of c, from coordinate k - 1 down -/
noncomputable def orP (c : Nat) : Nat → Nat → Nat
  | 0, M => M
  | k + 1, M => orP c k (if c.testBit k = true then M else mOr k M)
noncomputable def andP (c : Nat) : Nat → Nat → Nat
  | 0, M => M
  | k + 1, M => andP c k (if c.testBit k = true then M else mAnd k M)
theorem flen_succ (p : Nat → Bool) (n : Nat) : ((List.range (n + 1)).filter p).length = ((List.range n).filter p).length + if p n = true then 1 else 0 := by
  rw [List.range_succ, List.filter_append, List.length_append]
  congr 1
  cases h : p n <;> simp [h]
theorem shN_eq (M C : Nat) : shN M C 4 = ((List.range 16).filter fun c => decide (orP c 4 M = orP c 4 C)).length := by
  simp only [flen_succ, List.range_zero, List.filter_nil, List.length_nil, decide_eq_true_eq]
  simp only [shN, orP]
  simp (config := { decide := true }) only [if_true, if_false]
  omega
theorem stN_eq (M : Nat) : stN M 4 = ((List.range 16).filter fun c => decide (andP c 4 M ≠ 0)).length := by
  simp only [flen_succ, List.range_zero, List.filter_nil, List.length_nil, decide_eq_true_eq]
  simp only [stN, andP]
  simp (config := { decide := true }) only [if_true, if_false, ite_not]
  omega
end Mine
end

section
namespace Mine
theorem mOr_or (k A B : Nat) : mOr k (A ||| B) = mOr k A ||| mOr k B := by
  unfold mOr
  apply Nat.eq_of_testBit_eq
  intro i
  simp only [Nat.testBit_and, Nat.testBit_or, Nat.testBit_shiftRight]
  cases A.testBit i <;> cases B.testBit i <;> cases A.testBit (2 ^ k + i) <;> cases B.testBit (2 ^ k + i) <;> cases (mE k).testBit i <;> rfl
theorem mAnd_and (k A B : Nat) : mAnd k (A &&& B) = mAnd k A &&& mAnd k B := by
  unfold mAnd
  apply Nat.eq_of_testBit_eq
  intro i
  simp only [Nat.testBit_and, Nat.testBit_shiftRight]
  cases A.testBit i <;> cases B.testBit i <;> cases A.testBit (2 ^ k + i) <;> cases B.testBit (2 ^ k + i) <;> cases (mE k).testBit i <;> rfl
theorem orP_or (c : Nat) : ∀ (k A B : Nat), orP c k (A ||| B) = orP c k A ||| orP c k B
  | 0, _, _ => rfl
  | k + 1, A, B => by
    unfold orP
    by_cases h : c.testBit k = true
    · rw [if_pos h, if_pos h, if_pos h, orP_or c k]
    · rw [if_neg h, if_neg h, if_neg h, mOr_or, orP_or c k]
theorem andP_and (c : Nat) : ∀ (k A B : Nat), andP c k (A &&& B) = andP c k A &&& andP c k B
  | 0, _, _ => rfl
  | k + 1, A, B => by
    unfold andP
    by_cases h : c.testBit k = true
    · rw [if_pos h, if_pos h, if_pos h, andP_and c k]
    · rw [if_neg h, if_neg h, if_neg h, mAnd_and, andP_and c k]
theorem orP_bit : ((List.range 16).all fun c => (List.range 16).all fun f => Nat.beq (orP c 4 (2 ^ f)) (2 ^ (f &&& c))) = true := by decide +kernel
theorem orP_zero : ((List.range 16).all fun c => Nat.beq (orP c 4 0) 0) = true := by decide +kernel
theorem andP_all : ((List.range 16).all fun c => Nat.beq (andP c 4 0xFFFF) (orP c 4 0xFFFF)) = true := by decide +kernel
theorem andP_bit : ((List.range 16).all fun c => (List.range 16).all fun f => Nat.beq (andP c 4 (0xFFFF - 2 ^ f)) (orP c 4 0xFFFF - 2 ^ (f &&& c))) = true := by decide +kernel
end Mine
end

section
namespace Mine
theorem chM_succ_or (chi : Nat → Bool) (i : Nat) : chM chi (i + 1) = chM chi i ||| (if chi i = true then 2 ^ i else 0) := by
  apply Nat.eq_of_testBit_eq
  intro j
  rw [chM_bit, Nat.testBit_or, chM_bit]
  by_cases hc : chi i = true
  · rw [if_pos hc, Nat.testBit_two_pow]
    by_cases h : i = j
    · subst h; simp [hc]
    · have e : decide (j < i + 1) = decide (j < i) := by
        apply decide_eq_decide.mpr; omega
      rw [e, decide_eq_false h, Bool.or_false]
  · rw [if_neg hc, Nat.zero_testBit, Bool.or_false]
    by_cases h : i = j
    · subst h; simp [hc]
    · have e : decide (j < i + 1) = decide (j < i) := by
        apply decide_eq_decide.mpr; omega
      rw [e]
theorem orP_bit' {c f : Nat} (hc : c < 16) (hf : f < 16) : orP c 4 (2 ^ f) = 2 ^ (f &&& c) := by
  have h := List.all_eq_true.mp orP_bit c (List.mem_range.mpr hc)
  exact Nat.eq_of_beq_eq_true (List.all_eq_true.mp h f (List.mem_range.mpr hf))
theorem orP_zero' {c : Nat} (hc : c < 16) : orP c 4 0 = 0 :=
  Nat.eq_of_beq_eq_true (List.all_eq_true.mp orP_zero c (List.mem_range.mpr hc))
theorem orP_chM (chi : Nat → Bool) {c : Nat} (hc : c < 16) (x : Nat) : ∀ i, i ≤ 16 → (orP c 4 (chM chi i)).testBit x = (List.range i).any fun f => chi f && (f &&& c == x)
  | 0, _ => by
    rw [show chM chi 0 = 0 from rfl, orP_zero' hc, Nat.zero_testBit]; rfl
  | i + 1, hi => by
    have ih := orP_chM chi hc x i (by omega)
    rw [chM_succ_or, orP_or, Nat.testBit_or, ih, List.range_succ, List.any_append]
    congr 1
    rw [List.any_cons, List.any_nil, Bool.or_false]
    by_cases h : chi i = true
    · rw [if_pos h, orP_bit' hc (by omega), Nat.testBit_two_pow, h, Bool.true_and]
      rfl
    · have h' : chi i = false := by simpa using h
      rw [if_neg h, orP_zero' hc, Nat.zero_testBit, h', Bool.false_and]
theorem full_true : chM (fun _ => true) 16 = 0xFFFF := by decide
theorem and_lt' {a b : Nat} (h : a < 16) : a &&& b < 16 := Nat.lt_of_le_of_lt Nat.and_le_left h
theorem full_iff (chi : Nat → Bool) {c : Nat} (hc : c < 16) : orP c 4 (chM chi 16) = orP c 4 0xFFFF ↔ ∀ x, x < 16 → x &&& c = x → ∃ f, f < 16 ∧ chi f = true ∧ f &&& c = x := by
  rw [← full_true]
  constructor
  · intro h x hx e
    have h1 := orP_chM chi hc x 16 (Nat.le_refl _)
    have h2 := orP_chM (fun _ => true) hc x 16 (Nat.le_refl _)
    rw [h, h2] at h1
    have h3 : ((List.range 16).any fun f => true && (f &&& c == x)) = true :=
      List.any_eq_true.mpr ⟨x, List.mem_range.mpr hx, by rw [Bool.true_and, e]; exact beq_self_eq_true x⟩
    rw [h3] at h1
    obtain ⟨f, hf, q⟩ := List.any_eq_true.mp h1.symm
    rw [Bool.and_eq_true] at q
    exact ⟨f, List.mem_range.mp hf, q.1, eq_of_beq q.2⟩
  · intro h
    apply Nat.eq_of_testBit_eq
    intro x
    rw [orP_chM chi hc x 16 (Nat.le_refl _), orP_chM (fun _ => true) hc x 16 (Nat.le_refl _)]
    apply Bool.eq_iff_iff.mpr
    rw [List.any_eq_true, List.any_eq_true]
    constructor
    · rintro ⟨f, hf, q⟩
      rw [Bool.and_eq_true] at q
      exact ⟨f, hf, by rw [Bool.true_and]; exact q.2⟩
    · rintro ⟨f, hf, q⟩
      rw [Bool.true_and] at q
      have q := eq_of_beq q
      have hf := List.mem_range.mp hf
      obtain ⟨f', hf', hc', e⟩ := h x (q ▸ and_lt' hf) (by rw [← q, Nat.and_assoc, Nat.and_self])
      exact ⟨f', List.mem_range.mpr hf', by rw [hc', Bool.true_and, e]; exact beq_self_eq_true x⟩
noncomputable def coM (chi : Nat → Bool) : Nat → Nat
  | 0 => 0xFFFF
  | i + 1 => coM chi i &&& (if chi i = true then 0xFFFF else 0xFFFF - 2 ^ i)
theorem ffff_bit (j : Nat) : (0xFFFF : Nat).testBit j = decide (j < 16) := by
  rw [show (0xFFFF : Nat) = 2 ^ 16 - 1 by decide, Nat.testBit_two_pow_sub_one]
theorem lack_bit : ∀ i, i < 16 → ∀ j, j < 16 → (0xFFFF - 2 ^ i).testBit j = decide (j ≠ i) := by decide +kernel
theorem coM_bit (chi : Nat → Bool) (j : Nat) : ∀ i, i ≤ 16 → (coM chi i).testBit j = (decide (j < 16) && (decide (i ≤ j) || chi j))
  | 0, _ => by
    unfold coM
    rw [ffff_bit]; simp
  | i + 1, hi => by
    have ih := coM_bit chi j i (by omega)
    unfold coM
    rw [Nat.testBit_and, ih]
    by_cases hj : j < 16
    · by_cases hc : chi i = true
      · rw [if_pos hc, ffff_bit, decide_eq_true hj, Bool.and_true, Bool.true_and]
        by_cases e : i = j
        · subst e; simp [hc]
        · congr 1
          apply decide_eq_decide.mpr; omega
      · rw [if_neg hc, lack_bit i (by omega) j hj, decide_eq_true hj, Bool.true_and]
        by_cases e : i = j
        · subst e; simp [hc]
        · rw [decide_eq_true (Ne.symm e), Bool.and_true]
          congr 1
          apply decide_eq_decide.mpr; omega
    · simp [hj]
theorem coM_eq (chi : Nat → Bool) : coM chi 16 = chM chi 16 := by
  apply Nat.eq_of_testBit_eq
  intro j
  rw [coM_bit chi j 16 (Nat.le_refl _), chM_bit]
  by_cases h : j < 16
  · rw [decide_eq_true h, decide_eq_false (show ¬ 16 ≤ j by omega), Bool.false_or]
  · simp [h]
theorem andP_bit' : ∀ c, c < 16 → ∀ f, f < 16 → andP c 4 (0xFFFF - 2 ^ f) = orP c 4 0xFFFF - 2 ^ (f &&& c) := by
  intro c hc f hf
  have h := List.all_eq_true.mp andP_bit c (List.mem_range.mpr hc)
  exact Nat.eq_of_beq_eq_true (List.all_eq_true.mp h f (List.mem_range.mpr hf))
theorem andP_all' {c : Nat} (hc : c < 16) : andP c 4 0xFFFF = orP c 4 0xFFFF :=
  Nat.eq_of_beq_eq_true (List.all_eq_true.mp andP_all c (List.mem_range.mpr hc))
theorem orP_lt : ∀ c, c < 16 → orP c 4 0xFFFF < 65536 := by decide +kernel
theorem andP_lack : ∀ c, c < 16 → ∀ f, f < 16 → ∀ x, x < 16 → (orP c 4 0xFFFF - 2 ^ (f &&& c)).testBit x = ((orP c 4 0xFFFF).testBit x && !(f &&& c == x)) := by decide +kernel
theorem andP_coM (chi : Nat → Bool) {c : Nat} (hc : c < 16) {x : Nat} (hx : x < 16) : ∀ i, i ≤ 16 → (andP c 4 (coM chi i)).testBit x = ((orP c 4 0xFFFF).testBit x && (List.range i).all fun f => chi f || !(f &&& c == x))
  | 0, _ => by
    rw [show coM chi 0 = 0xFFFF from rfl, andP_all' hc]
    simp
  | i + 1, hi => by
    have ih := andP_coM chi hc hx i (by omega)
    unfold coM
    rw [andP_and, Nat.testBit_and, ih, List.range_succ, List.all_append]
    rw [List.all_cons, List.all_nil, Bool.and_true]
    by_cases h : chi i = true
    · rw [if_pos h, andP_all' hc, h, Bool.true_or, Bool.and_true]
      cases (orP c 4 65535).testBit x <;> simp
    · have h' : chi i = false := by simpa using h
      rw [if_neg h, andP_bit' c hc i (by omega), andP_lack c hc i (by omega) x hx, h', Bool.false_or]
      cases (orP c 4 65535).testBit x <;> simp
theorem orP_ffff {c x : Nat} (hc : c < 16) : (orP c 4 0xFFFF).testBit x = true ↔ x < 16 ∧ x &&& c = x := by
  rw [← full_true, orP_chM _ hc x 16 (Nat.le_refl _), List.any_eq_true]
  constructor
  · rintro ⟨f, hf, q⟩
    rw [Bool.true_and] at q
    have q := eq_of_beq q
    exact ⟨q ▸ and_lt' (List.mem_range.mp hf), by rw [← q, Nat.and_assoc, Nat.and_self]⟩
  · rintro ⟨h1, h2⟩
    exact ⟨x, List.mem_range.mpr h1, by rw [Bool.true_and, h2]; exact beq_self_eq_true x⟩
theorem andP_small : ∀ c, c < 16 → ∀ k, k ≤ 4 → ∀ M, andP c k M ≤ M := by
  intro c hc k
  induction k with
  | zero => intro _ M; exact Nat.le_refl _
  | succ k ih =>
    intro hk M
    unfold andP
    refine Nat.le_trans (ih (by omega) _) ?_
    split
    · exact Nat.le_refl _
    · unfold mAnd
      exact Nat.le_trans Nat.and_le_left Nat.and_le_left
theorem firm_iff (chi : Nat → Bool) {c : Nat} (hc : c < 16) : andP c 4 (chM chi 16) ≠ 0 ↔ ∃ x, x < 16 ∧ x &&& c = x ∧ ∀ f, f < 16 → f &&& c = x → chi f = true := by
  have hlt : andP c 4 (chM chi 16) < 2 ^ 16 := Nat.lt_of_le_of_lt (andP_small c hc 4 (Nat.le_refl _) _) (chM_lt chi 16)
  have key : ∀ x, x < 16 → ((andP c 4 (chM chi 16)).testBit x = true ↔ x &&& c = x ∧ ∀ f, f < 16 → f &&& c = x → chi f = true) := by
    intro x hx
    rw [← coM_eq, andP_coM chi hc hx 16 (Nat.le_refl _), Bool.and_eq_true, orP_ffff hc, List.all_eq_true]
    constructor
    · rintro ⟨h1, h2⟩
      refine ⟨h1.2, fun f hf e => ?_⟩
      have := h2 f (List.mem_range.mpr hf)
      rw [e, beq_self_eq_true, Bool.not_true, Bool.or_false] at this
      exact this
    · rintro ⟨h1, h2⟩
      refine ⟨⟨hx, h1⟩, fun f hf => ?_⟩
      by_cases e : f &&& c = x
      · rw [h2 f (List.mem_range.mp hf) e, Bool.true_or]
      · rw [beq_eq_false_iff_ne.mpr e, Bool.not_false, Bool.or_true]
  constructor
  · intro h
    obtain ⟨x, hx⟩ := Nat.exists_testBit_of_ne_zero h
    have hx16 : x < 16 := by
      apply Decidable.byContradiction
      intro q
      rw [Nat.testBit_lt_two_pow (Nat.lt_of_lt_of_le hlt (Nat.pow_le_pow_right (by decide) (by omega)))] at hx
      cases hx
    exact ⟨x, hx16, (key x hx16).mp hx⟩
  · rintro ⟨x, hx, h⟩ e
    have := (key x hx).mpr h
    rw [e, Nat.zero_testBit] at this
    cases this
end Mine
end

section
namespace Mine
section
variable {α : Type} {l m : List α}
theorem nodup_full (hl : l.Nodup) (hm : m.Nodup) (hs : ∀ x ∈ l, x ∈ m) : l.length = m.length ↔ ∀ x ∈ m, x ∈ l := by
  classical
  constructor
  · intro e x hx
    apply Decidable.byContradiction
    intro q
    have : (x :: l).length ≤ m.length := List.Nodup.length_le_of_subset (List.nodup_cons.mpr ⟨q, hl⟩) (fun y hy => by
      rcases List.mem_cons.mp hy with rfl | hy
      · exact hx
      · exact hs y hy)
    rw [List.length_cons] at this
    omega
  · intro h
    exact Nat.le_antisymm (List.Nodup.length_le_of_subset hl (fun y hy => hs y hy)) (List.Nodup.length_le_of_subset hm (fun y hy => h y hy))
theorem nodup_less (hl : l.Nodup) (hm : m.Nodup) (hs : ∀ x ∈ l, x ∈ m) : l.length < m.length ↔ ∃ x, x ∈ m ∧ x ∉ l := by
  classical
  have h1 := nodup_full hl hm hs
  have h2 : l.length ≤ m.length := List.Nodup.length_le_of_subset hl (fun y hy => hs y hy)
  constructor
  · intro h
    apply Decidable.byContradiction
    intro q
    have : l.length = m.length := h1.mpr fun x hx => by
      apply Decidable.byContradiction
      intro q2
      exact q ⟨x, hx, q2⟩
    omega
  · rintro ⟨x, hx, q⟩
    have : ¬ l.length = m.length := fun e => q (h1.mp e x hx)
    omega
theorem nodup_map {β : Type} {f : α → β} (hl : l.Nodup) (inj : ∀ x ∈ l, ∀ y ∈ l, f x = f y → x = y) : (l.map f).Nodup := by
  refine List.pairwise_map.mpr ?_
  refine List.Pairwise.imp_of_mem ?_ hl
  intro a b ha hb h e
  exact h (inj a ha b hb e)
end
theorem range_filter_nodup (p : Nat → Bool) (n : Nat) : ((List.range n).filter p).Nodup := List.Nodup.sublist List.filter_sublist List.nodup_range
theorem chN_eq (chi : Nat → Bool) : ∀ i, chN chi i = ((List.range i).filter chi).length
  | 0 => rfl
  | i + 1 => by
    unfold chN
    rw [flen_succ, chN_eq chi i]
theorem fam_len {fam : List Nat} (nd : fam.Nodup) (lt : ∀ f ∈ fam, f < 16) : chN (fun f => fam.contains f) 16 = fam.length := by
  rw [chN_eq]
  apply List.Perm.length_eq
  apply (List.perm_ext_iff_of_nodup (range_filter_nodup _ _) nd).mpr
  intro a
  rw [List.mem_filter, List.mem_range]
  simp only [List.contains_iff_mem]
  exact ⟨fun h => h.2, fun h => ⟨lt a h, h⟩⟩
noncomputable def famM (fam : List Nat) : Nat := chM (fun f => fam.contains f) 16
noncomputable def fullP (fam : List Nat) (c : Nat) : Bool := decide (orP c 4 (famM fam) = orP c 4 0xFFFF)
noncomputable def firmP (fam : List Nat) (c : Nat) : Bool := decide (andP c 4 (famM fam) ≠ 0)
theorem sand {fam : List Nat} (nd : fam.Nodup) (lt : ∀ f ∈ fam, f < 16) (len : fam.length ≤ 5) :
    ((List.range 16).filter (firmP fam)).length ≤ fam.length ∧ fam.length ≤ ((List.range 16).filter (fullP fam)).length ∧ (((List.range 16).filter (firmP fam)).length = fam.length ↔ ((List.range 16).filter (fullP fam)).length = fam.length) := by
  have e := fam_len nd lt
  have h := okM_of (fun f => fam.contains f) (by rw [e]; exact len)
  rw [e] at h
  have h := okM_iff h
  rw [stN_eq, shN_eq] at h
  exact h
theorem fullP_iff {fam : List Nat} (lt : ∀ f ∈ fam, f < 16) {c : Nat} (hc : c < 16) : fullP fam c = true ↔ ∀ x, x < 16 → x &&& c = x → ∃ f ∈ fam, f &&& c = x := by
  unfold fullP famM
  rw [decide_eq_true_eq, full_iff _ hc]
  constructor
  · intro h x hx e
    obtain ⟨f, _, h2, h3⟩ := h x hx e
    exact ⟨f, List.contains_iff_mem.mp h2, h3⟩
  · intro h x hx e
    obtain ⟨f, h2, h3⟩ := h x hx e
    exact ⟨f, lt f h2, List.contains_iff_mem.mpr h2, h3⟩
theorem firmP_iff {fam : List Nat} {c : Nat} (hc : c < 16) : firmP fam c = true ↔ ∃ x, x < 16 ∧ x &&& c = x ∧ ∀ f, f < 16 → f &&& c = x → f ∈ fam := by
  unfold firmP famM
  rw [decide_eq_true_eq, firm_iff _ hc]
  constructor
  · rintro ⟨x, h1, h2, h3⟩
    exact ⟨x, h1, h2, fun f hf e => List.contains_iff_mem.mp (h3 f hf e)⟩
  · rintro ⟨x, h1, h2, h3⟩
    exact ⟨x, h1, h2, fun f hf e => List.contains_iff_mem.mpr (h3 f hf e)⟩
theorem below_len : ∀ c, c < 16 → ((List.range 16).filter fun x => decide (x &&& c = x)).length = 2 ^ ((List.range 4).filter fun k => c.testBit k).length := by decide +kernel
theorem fibre_len : ∀ c, c < 16 → ∀ x, x < 16 → x &&& c = x → ((List.range 16).filter fun f => decide (f &&& c = x)).length = 16 / 2 ^ ((List.range 4).filter fun k => c.testBit k).length := by decide +kernel
theorem zero_bel : ∀ c, c < 16 → ∀ x, x < 16 → (x &&& c = 0 ↔ x &&& (15 - c) = x) := by decide +kernel
theorem and_sub : ∀ c, c < 16 → ∀ x, x < 16 → (x &&& c) &&& c = x &&& c := by
  intro c _ x _
  rw [Nat.and_assoc, Nat.and_self]
theorem filter_perm {α β : Type} (p : β → Bool) (f : α → β) (l : List α) : ((l.map f).filter p) = ((l.filter fun a => p (f a)).map f) := by
  rw [List.filter_map]; rfl
end Mine
end

section
open PySem PySem.W PyProof.Rows
namespace Mine
noncomputable def lawok.tw12915272587783644447 : Unit := ()
section
set_option Elab.async true
theorem lawok (h : PySem.Challenge.rw_rw0095_01.row.wellSaid = true → PySem.Challenge.rw_rw0095_01.row.Holds) : PySem.Challenge.rw_rw0095_01.Holds := by
  o_law
  exact h (by assumption)
#print axioms lawok
end
section
local macro_rules
  | `(tactic| o_law) => `(tactic| refine (lawok fun said => ?_))
local macro_rules
  | `(tactic| refine $f:ident $args*) => do
    if f.getId.eraseMacroScopes == `PySem.W.holds_open then
      let hc := Lean.mkIdent `hc
      let hl ← `(And.left ?$hc)
      let hr ← `(And.right ?$hc)
      let args := args.map fun a => if a.raw.isOfKind `Lean.Parser.Term.syntheticHole then (if a.raw[1].getId == `hl then ⟨hl⟩ else if a.raw[1].getId == `hc then ⟨hr⟩ else a) else a
      `(tactic| refine ($f:ident $args*))
    else Lean.Macro.throwUnsupported
set_option maxHeartbeats 8000000 in
open_top hd for PySem.Challenge.rw_rw0095_01
end
abbrev walkP {A B C : Prop} (_ : A ∧ B → C) : Prop := B
noncomputable def hdB.tw9054272795579136358 : Unit := ()
noncomputable def hdB.tw14178025227080847483 : Unit := ()
noncomputable def hdB.tw357486453476387696 : Unit := ()
noncomputable def hdB.tw6436757530797042678 : Unit := ()
noncomputable def hdB.tw2508255044705368994 : Unit := ()
noncomputable def hdB.tw2265560327912529385 : Unit := ()
noncomputable def hdB.tw11362559904866403366 : Unit := ()
noncomputable def hdB.tw14855114312446775136 : Unit := ()
noncomputable def hdB.tw17371808425873655603 : Unit := ()
noncomputable def hdB.tw14462266103304059295 : Unit := ()
noncomputable def hdB.tw1037494485235192942 : Unit := ()
noncomputable def hdB.tw15621496085921696543 : Unit := ()
noncomputable def hdB.tw12915272587783644447 : Unit := ()
noncomputable def hdB.tw9582267612733671975 : Unit := ()
noncomputable def hdB.tw3014761482063366610 : Unit := ()
noncomputable def hdB.tw7482460364270962437 : Unit := ()
noncomputable def hdB.tw12121465228893195976 : Unit := ()
noncomputable def hdB.tw2623596306161115307 : Unit := ()
noncomputable def hdB.tw668618408895024685 : Unit := ()
noncomputable def hdB.tw3650052124063349327 : Unit := ()
noncomputable def hdB.tw7667574777284888042 : Unit := ()
noncomputable def hdB.tw2665809999045362088 : Unit := ()
noncomputable def hdB.tw11713390208890728763 : Unit := ()
noncomputable def hdB.tw7492309392156930401 : Unit := ()
noncomputable def hdB.tw342761422158820985 : Unit := ()
noncomputable def hdB.tw3268217366877557047 : Unit := ()
noncomputable def hdB.tw585818438832230338 : Unit := ()
noncomputable def hdB.tw13125912538608747775 : Unit := ()
noncomputable def hdB.tw4000525249030752688 : Unit := ()
noncomputable def hdB.tw299938981094323616 : Unit := ()
noncomputable def hdB.tw3164886504659311240 : Unit := ()
noncomputable def hdB.tw4545316125209686589 : Unit := ()
noncomputable def hdB.tw304498082078896603 : Unit := ()
noncomputable def hdB.tw7719808077391009046 : Unit := ()
noncomputable def hdB.tw15824934991705157211 : Unit := ()
noncomputable def hdB.tw11482827068820897443 : Unit := ()
noncomputable def hdB.tw3735879744019519321 : Unit := ()
noncomputable def hdB.tw16916819751288464985 : Unit := ()
noncomputable def hdB.tw8655766837842485168 : Unit := ()
noncomputable def hdB.tw3062318533441013502 : Unit := ()
noncomputable def hdB.tw5440839110025663238 : Unit := ()
noncomputable def hdB.tw11795842734721691587 : Unit := ()
noncomputable def hdB.tw6656644580461239143 : Unit := ()
noncomputable def hdB.tw3757706975819446724 : Unit := ()
noncomputable def hdB.tw12895445867983455260 : Unit := ()
noncomputable def hdB.tw1166161374489413734 : Unit := ()
noncomputable def hdB.tw11183744455006915406 : Unit := ()
noncomputable def hdB.tw2413006937299057871 : Unit := ()
noncomputable def hdB.tw4445835014924388238 : Unit := ()
noncomputable def hdB.tw5531940682735581251 : Unit := ()
noncomputable def hdB.tw14115210864076159499 : Unit := ()
noncomputable def hdB.tw7543728327453514637 : Unit := ()
noncomputable def hdB.tw1937859905759843691 : Unit := ()
noncomputable def hdB.tw17406437000009256231 : Unit := ()
noncomputable def hdB.tw11659693942920300766 : Unit := ()
noncomputable def hdB.tw17613021108526889041 : Unit := ()
noncomputable def hdB.tw13667637310302148573 : Unit := ()
noncomputable def hdB.tw17729147277269775027 : Unit := ()
noncomputable def hdB.tw13746921442394327067 : Unit := ()
noncomputable def hdB.tw5125508512252173286 : Unit := ()
noncomputable def hdB.tw16412120454687595198 : Unit := ()
noncomputable def hdB.tw3458390905309759915 : Unit := ()
noncomputable def hdB.tw9675038262582241039 : Unit := ()
noncomputable def hdB.tw2362126760149829728 : Unit := ()
noncomputable def hdB.tw16130361550949837719 : Unit := ()
noncomputable def hdB.tw3832316067602002327 : Unit := ()
noncomputable def hdB.tw1575164312096275578 : Unit := ()
noncomputable def hdB.tw469471460557195721 : Unit := ()
noncomputable def hdB.tw10980803861594726508 : Unit := ()
noncomputable def hdB.tw10108678295390518827 : Unit := ()
noncomputable def hdB.tw15593434951601035113 : Unit := ()
noncomputable def hdB.tw3498705600851153900 : Unit := ()
noncomputable def hdB.tw15149662732187716555 : Unit := ()
noncomputable def hdB.tw3280270315929798061 : Unit := ()
noncomputable def hdB.tw15111066346477986514 : Unit := ()
noncomputable def hdB.tw1580486368215317366 : Unit := ()
noncomputable def hdB.tw9564319652454610802 : Unit := ()
noncomputable def hdB.tw10642989400151223516 : Unit := ()
noncomputable def hdB.tw1693065149019444002 : Unit := ()
noncomputable def hdB.tw15362547606912218797 : Unit := ()
noncomputable def hdB.tw10441261176214844751 : Unit := ()
noncomputable def hdB.tw5715187211417067332 : Unit := ()
noncomputable def hdB.tw8954021856323439541 : Unit := ()
noncomputable def hdB.tw1158832275023106724 : Unit := ()
noncomputable def hdB.tw9750752736118853896 : Unit := ()
noncomputable def hdB.tw270889976600660389 : Unit := ()
noncomputable def hdB.tw17697541003869173353 : Unit := ()
noncomputable def hdB.tw1876119605214829474 : Unit := ()
noncomputable def hdB.tw7551803222299772709 : Unit := ()
noncomputable def hdB.tw3544564916812182217 : Unit := ()
noncomputable def hdB.tw1077975695720109095 : Unit := ()
noncomputable def hdB.tw2618842436287251215 : Unit := ()
noncomputable def hdB.tw7930358113307292092 : Unit := ()
noncomputable def hdB.tw10060322204140854051 : Unit := ()
noncomputable def hdB.tw11595376594288628323 : Unit := ()
noncomputable def hdB.tw1567674862446675252 : Unit := ()
noncomputable def hdB.tw11224744963066051376 : Unit := ()
noncomputable def hdB.tw17420311958413718024 : Unit := ()
noncomputable def hdB.tw2481013044295023079 : Unit := ()
noncomputable def hdB.tw4715909564279490599 : Unit := ()
noncomputable def hdB.tw11961221387738270199 : Unit := ()
noncomputable def hdB.tw13457857228918000261 : Unit := ()
noncomputable def hdB.tw17300909421566774829 : Unit := ()
noncomputable def hdB.tw16782366003448107953 : Unit := ()
noncomputable def hdB.tw2267848042059933890 : Unit := ()
noncomputable def hdB.tw8588139144424366184 : Unit := ()
noncomputable def hdB.tw1907717185123728532 : Unit := ()
noncomputable def hdB.tw10597516979169754136 : Unit := ()
noncomputable def hdB.tw9030146355110135838 : Unit := ()
noncomputable def hdB.tw16746263990297221009 : Unit := ()
noncomputable def hdB.tw1291560030329231177 : Unit := ()
noncomputable def hdB.tw8373230726180981414 : Unit := ()
noncomputable def hdB.tw264929452996465385 : Unit := ()
noncomputable def hdB.tw18169167528460811145 : Unit := ()
noncomputable def hdB.tw9945731310052136310 : Unit := ()
noncomputable def hdB.tw17079801678903252499 : Unit := ()
noncomputable def hdB.tw5836973686768349771 : Unit := ()
noncomputable def hdB.tw3478187454854146901 : Unit := ()
noncomputable def hdB.tw10022493443994453556 : Unit := ()
noncomputable def hdB.tw14800520555378786896 : Unit := ()
noncomputable def hdB.tw14623064324234582753 : Unit := ()
noncomputable def hdB.tw5870520432641999468 : Unit := ()
noncomputable def hdB.tw7459707963837674275 : Unit := ()
noncomputable def hdB.tw17123866650101628069 : Unit := ()
noncomputable def hdB.tw4037764731641616190 : Unit := ()
noncomputable def hdB.tw1624202427199547862 : Unit := ()
noncomputable def hdB.tw2424918535888130946 : Unit := ()
noncomputable def hdB.tw12350290554024461484 : Unit := ()
noncomputable def hdB.tw11070328013853497411 : Unit := ()
noncomputable def hdB.tw12945742787389048372 : Unit := ()
noncomputable def hdB.tw16827805947678527737 : Unit := ()
noncomputable def hdB.tw12298941560419162866 : Unit := ()
noncomputable def hdB.tw6459092502424417849 : Unit := ()
noncomputable def hdB.tw6011689294237824266 : Unit := ()
noncomputable def hdB.tw12925433372861902915 : Unit := ()
noncomputable def hdB.tw8095688435998659605 : Unit := ()
noncomputable def hdB.tw8410189745787444058 : Unit := ()
noncomputable def hdB.tw14496876250492689157 : Unit := ()
noncomputable def hdB.tw4245343567101900450 : Unit := ()
noncomputable def hdB.tw7370903057073754117 : Unit := ()
noncomputable def hdB.tw7554889739185199633 : Unit := ()
noncomputable def hdB.tw15221339949622065445 : Unit := ()
noncomputable def hdB.tw11472156807468514366 : Unit := ()
noncomputable def hdB.tw619201577190429196 : Unit := ()
noncomputable def hdB.tw5494116333833214884 : Unit := ()
noncomputable def hdB.tw10069893116795676841 : Unit := ()
noncomputable def hdB.tw17900398159134317328 : Unit := ()
noncomputable def hdB.tw3121427921150283421 : Unit := ()
noncomputable def hdB.tw13545014690401975451 : Unit := ()
noncomputable def hdB.tw17666534235357057668 : Unit := ()
noncomputable def hdB.tw4510443462975947490 : Unit := ()
noncomputable def hdB.tw5446816296623458443 : Unit := ()
noncomputable def hdB.tw15554911399689854881 : Unit := ()
noncomputable def hdB.tw13004355628820261972 : Unit := ()
noncomputable def hdB.tw13616919266760702678 : Unit := ()
noncomputable def hdB.tw11325272670927728529 : Unit := ()
noncomputable def hdB.tw12390307180394536303 : Unit := ()
noncomputable def hdB.tw17734793083080367011 : Unit := ()
noncomputable def hdB.tw3824508104138655170 : Unit := ()
noncomputable def hdB.tw8481956533258568393 : Unit := ()
noncomputable def hdB.tw12459982240640925766 : Unit := ()
noncomputable def hdB.tw1895142442474255442 : Unit := ()
noncomputable def hdB.tw8552204545470072017 : Unit := ()
noncomputable def hdB.tw791999467782746870 : Unit := ()
noncomputable def hdB.tw2113225105515834590 : Unit := ()
noncomputable def hdB.tw12019407507685918210 : Unit := ()
noncomputable def hdB.tw2985657244198069386 : Unit := ()
noncomputable def hdB.tw240405987588173071 : Unit := ()
noncomputable def hdB.tw16941374662749536870 : Unit := ()
noncomputable def hdB.tw13632635975726206561 : Unit := ()
noncomputable def hdB.tw5046426319620708743 : Unit := ()
noncomputable def hdB.tw13673512206823028918 : Unit := ()
noncomputable def hdB.tw14468032189948372016 : Unit := ()
noncomputable def hdB.tw14869531685949068814 : Unit := ()
noncomputable def hdB.tw5777407546050399979 : Unit := ()
noncomputable def hdB.tw10866005096071933182 : Unit := ()
noncomputable def hdB.tw12206338054501810692 : Unit := ()
noncomputable def hdB.tw7043266504223566557 : Unit := ()
noncomputable def hdB.tw4967869514264762311 : Unit := ()
noncomputable def hdB.tw11178301008774375505 : Unit := ()
noncomputable def hdB.tw3476577946124217138 : Unit := ()
noncomputable def hdB.tw12351255435464108759 : Unit := ()
noncomputable def hdB.tw6110686151392366723 : Unit := ()
noncomputable def hdB.tw2954915873864698198 : Unit := ()
noncomputable def hdB.tw3899013711103537869 : Unit := ()
noncomputable def hdB.tw387065550045987659 : Unit := ()
noncomputable def hdB.tw14876197665731765544 : Unit := ()
noncomputable def hdB.tw1190763802638642144 : Unit := ()
noncomputable def hdB.tw13727409396599668426 : Unit := ()
noncomputable def hdB.tw7826120709584893094 : Unit := ()
noncomputable def hdB.tw9953882558772560754 : Unit := ()
noncomputable def hdB.tw17608040398677175246 : Unit := ()
noncomputable def hdB.tw14082276074121790986 : Unit := ()
noncomputable def hdB.tw4819786184586176959 : Unit := ()
noncomputable def hdB.tw10564106306941357646 : Unit := ()
noncomputable def hdB.tw7082041653413005565 : Unit := ()
noncomputable def hdB.tw5847151782237450365 : Unit := ()
noncomputable def hdB.tw682091708474766446 : Unit := ()
noncomputable def hdB.tw7436724688407103429 : Unit := ()
noncomputable def hdB.tw18109030573209504455 : Unit := ()
noncomputable def hdB.tw7523516978520037582 : Unit := ()
noncomputable def hdB.tw17047190971544547498 : Unit := ()
noncomputable def hdB.tw17674987870521649420 : Unit := ()
noncomputable def hdB.tw12472836561579236130 : Unit := ()
noncomputable def hdB.tw7940194487319868815 : Unit := ()
noncomputable def hdB.tw8025886064268435494 : Unit := ()
noncomputable def hdB.tw15441225245813983239 : Unit := ()
noncomputable def hdB.tw2365183520060900018 : Unit := ()
noncomputable def hdB.tw7429813505782984202 : Unit := ()
noncomputable def hdB.tw10500252777688787156 : Unit := ()
noncomputable def hdB.tw3966424089453082575 : Unit := ()
noncomputable def hdB.tw470303381046504887 : Unit := ()
noncomputable def hdB.tw7297625631817721215 : Unit := ()
noncomputable def hdB.tw4755080220442578388 : Unit := ()
noncomputable def hdB.tw11184113148176895768 : Unit := ()
noncomputable def hdB.tw16800492414846272916 : Unit := ()
noncomputable def hdB.tw5162896999475180960 : Unit := ()
noncomputable def hdB.tw12897870276625455991 : Unit := ()
noncomputable def hdB.tw9236426176275505474 : Unit := ()
noncomputable def hdB.tw1117236269706048856 : Unit := ()
noncomputable def hdB.tw12465037708608856900 : Unit := ()
noncomputable def hdB.tw7715918671982151301 : Unit := ()
noncomputable def hdB.tw5608524710857020919 : Unit := ()
noncomputable def hdB.tw13175114098249543397 : Unit := ()
noncomputable def hdB.tw13970814353881476035 : Unit := ()
noncomputable def hdB.tw11933645823338073336 : Unit := ()
noncomputable def hdB.tw4016324500546980905 : Unit := ()
noncomputable def hdB.tw2848056539902326636 : Unit := ()
noncomputable def hdB.tw429837847446832234 : Unit := ()
noncomputable def hdB.tw2442163973523392638 : Unit := ()
noncomputable def hdB.tw6730435261167549585 : Unit := ()
noncomputable def hdB.tw10307350567725656123 : Unit := ()
noncomputable def hdB.tw6536962184675341995 : Unit := ()
noncomputable def hdB.tw12555892037645455305 : Unit := ()
noncomputable def hdB.tw4987366480647570960 : Unit := ()
noncomputable def hdB.tw16842207455543367420 : Unit := ()
noncomputable def hdB.tw8166725304363817857 : Unit := ()
noncomputable def hdB.tw17724133119369632007 : Unit := ()
noncomputable def hdB.tw2184959090338958156 : Unit := ()
noncomputable def hdB.tw15350950590689632322 : Unit := ()
noncomputable def hdB.tw13938864372151246667 : Unit := ()
noncomputable def hdB.tw17429376801974289189 : Unit := ()
noncomputable def hdB.tw3687989244648305856 : Unit := ()
noncomputable def hdB.tw12821702077017125785 : Unit := ()
noncomputable def hdB.tw5693732006539243449 : Unit := ()
noncomputable def hdB.tw5587731341446346607 : Unit := ()
noncomputable def hdB.tw4420651534285528108 : Unit := ()
noncomputable def hdB.tw6413035107479245678 : Unit := ()
noncomputable def hdB.tw16534755379847859287 : Unit := ()
noncomputable def hdB.tw8945988725222144165 : Unit := ()
noncomputable def hdB.tw605705598431006433 : Unit := ()
noncomputable def hdB.tw4997005998663214776 : Unit := ()
noncomputable def hdB.tw12707543306421425798 : Unit := ()
noncomputable def hdB.tw7298993710392231658 : Unit := ()
noncomputable def hdB.tw9667606896861302818 : Unit := ()
noncomputable def hdB.tw7570751443664710377 : Unit := ()
noncomputable def hdB.tw11404497032303267387 : Unit := ()
noncomputable def hdB.tw6435024659882922718 : Unit := ()
noncomputable def hdB.tw229294656457795788 : Unit := ()
noncomputable def hdB.tw12114421149688805392 : Unit := ()
noncomputable def hdB.tw2354170974341163307 : Unit := ()
noncomputable def hdB.tw1401062199950177088 : Unit := ()
noncomputable def hdB.tw7623491627983602615 : Unit := ()
noncomputable def hdB.tw6405352750367309641 : Unit := ()
noncomputable def hdB.tw3614981238973869419 : Unit := ()
section
local macro_rules
  | `(tactic| o_law) => `(tactic| refine (lawok fun said => ?_))
local macro_rules
  | `(tactic| refine $f:ident $rest*) => do
    if f.getId.eraseMacroScopes == `PySem.W.holds_open then
      `(tactic| refine (hd ⟨?$(Lean.mkIdent `hl), $(Lean.mkIdent `walk)⟩).2)
    else Lean.Macro.throwUnsupported
set_option Elab.async true
set_option maxHeartbeats 8000000 in
theorem hdB (walk : walkP hd) : PySem.Challenge.rw_rw0095_01.Holds := by
  w_on
  o_law
  o_head Hook.none
#print axioms hdB
end
end Mine
end

namespace Mine
open PySem PySem.W PySem.Calls PyProof.Rows


section
open PySem PySem.W PySem.Calls PyProof.Rows

noncomputable abbrev lse : List Str := looseW hd.view_1 [Str.ofString "_name_disallowed_re", Str.ofString "_value_disallowed_re", Str.ofString "bisect_left", Str.ofString "COMPILER_FLAG_NAMES"]

/-- what every heap of the call bears: the text's objects and the top's facts -/
structure Gd (w : World) (mean : ExcName → Option Value) (mg mb : Str → Option Value) (h : Heap) : Prop where
  X : (hd.heap_1 w.params).In h
  T : Top hd.view_1 lse mean mg mb h

theorem Gd.keeps {w : World} {mean : ExcName → Option Value} {mg mb : Str → Option Value} {h h' : Heap} (G : Gd w mean mg mb h) (k : h.StaysIn h') : Gd w mean mg mb h' :=
  ⟨G.X.keeps k, G.T.keeps k⟩

/-- room for calls -/
structure Rm (A : Around) (d u : Nat) : Prop where
  hd : A.handled = none
  dp : A.depth + d < recursionLimit
  un : A.units + u < cLine

theorem Rm.less {A : Around} {d u d' u' : Nat} (r : Rm A d u) (h1 : d' ≤ d) (h2 : u' ≤ u) : Rm A d' u' := ⟨r.hd, by have := r.dp; omega, by have := r.un; omega⟩
theorem Rm.deeper {A : Around} {d u : Nat} {env : Env} (r : Rm A (d + 1) (u + 3)) : Rm (A.deeper env) d u := ⟨r.hd, by have := r.dp; show A.depth + 1 + d < _; omega, by have := r.un; show A.units + 3 + u < _; omega⟩

section
variable {prog : Program} {w : World} {A : Around} {s : Shared} {K : Frag} {R : Result → Shared → Prop} {name qual : Str} {params : Arguments} {body : List Stmt} {scope : Scope} {dV kV doc pm cdv ct oc : Value} {an od : Option Addr} {osl : Array (Option Value)} {f : Addr} {args : Args} {binds : List (Str × Value)}

theorem enter (X : K.In s.heap) (hlim : s.heap.NoLimit) (hroom : A.depth < recursionLimit)
    (ho : K.lookup f = some ⟨oc, od, .func (fnOf name qual params body scope dV kV doc pm an cdv ct), osl⟩) (hcd : codeIn K cdv qual = true)
    (hbind : BindsTo s (fnOf name qual params body scope dV kV doc pm an cdv ct) args binds) (hloc : ∀ y ∈ binds, scope.names.lookup y.1 = some .local)
    (h : ∀ L' h₁, Fr s.heap L' h₁ (fun y => binds.reverse.lookup y) → News s.heap L' h₁ [] →
      wpAny (model prog w) (A.deeper (envX qual scope L' f cdv [])) (execs body (envX qual scope L' f cdv []))
        (fun fl s' => R (.ok (.ret (match fl with | .ret v => v | _ => .none))) s') (fun _ _ => False)
        { s with heap := h₁, toks := s.toks + binds.length })
    (hcell : ∀ x ∈ scope.names, x.2 ≠ .cell) (hco : scope.isCoroutine = false) (hgen : scope.isGenerator = false) (hk : scope.kind = .function) :
    codeAny (model prog w) A (.call (.ref f) args) R s := by
  refine codeAny_call_def (fd := fnOf name qual params body scope dV kV doc pm an cdv ct) (body := body) (binds := binds) hroom (X _ _ ho) rfl hlim (codeRec_of X hcd) rfl hbind hcell hloc (fun h₁ hns hk₁ => ?_) hco hgen hk
  exact wpAny_mono (h s.heap.objs.size h₁ ⟨hns, hk₁, Nat.le_refl _⟩ News.nil) (fun fl s' hl => hl) fun _ _ y => y.elim

theorem enterC (X : K.In s.heap) (hlim : s.heap.NoLimit) (hroom : A.depth < recursionLimit)
    (ho : K.lookup f = some ⟨oc, od, .func (fnOf name qual params body scope dV kV doc pm an cdv ct), osl⟩) (hcd : codeIn K cdv qual = true)
    (hbind : BindsTo s (fnOf name qual params body scope dV kV doc pm an cdv ct) args binds)
    (hkind : (binds.all fun y => scope.names.lookup y.1 == some .local || scope.names.lookup y.1 == some .cell) = true)
    (hnd : ((cellsFrom 0 scope.names []).map (·.1)).Nodup)
    (h : ∀ L' h₁ tk cells, Fr s.heap L' h₁ (bindL (envOfC qual scope L' f cdv).kindOf binds fun _ => none) → News s.heap L' h₁ cells →
      CellsAre (bindC (envOfC qual scope L' f cdv).kindOf binds fun _ => none) (cellsFrom (L' + 1) scope.names []) cells →
      wpAny (model prog w) (A.deeper (envOfC qual scope L' f cdv)) (execs body (envOfC qual scope L' f cdv))
        (fun fl s' => R (.ok (.ret (match fl with | .ret v => v | _ => .none))) s') (fun _ _ => False)
        { s with heap := h₁, toks := tk })
    (hco : scope.isCoroutine = false) (hgen : scope.isGenerator = false) (hk : scope.kind = .function) :
    codeAny (model prog w) A (.call (.ref f) args) R s := by
  refine codeAny_call_function (fd := fnOf name qual params body scope dV kV doc pm an cdv ct) hroom (X _ _ ho) rfl hco hgen rfl (codeRec_of X hcd) (hbind _ _ _ _ ?_)
  refine wpAny_newFunctionEnv_cells hk (kindsX hkind _) fun env' he s' x => ?_
  subst he
  refine ⟨hlim.keeps x.toInCall.keep, codeAny_func ?_⟩
  obtain ⟨h₁, tk, rfl, _⟩ := x.done
  have hk₁ := x.toInCall.keep
  obtain ⟨cells, NC, Y⟩ := Cl.news (h₀ := s.heap) (Nat.le_refl _) fun n c hm => ⟨x.cell n c (lookup_of_mem_nodup (cellsFrom_names scope.names 0 (s.heap.objs.size + 1) [] [] rfl ▸ hnd) hm), x.above n c hm⟩
  exact wpAny_mono (h s.heap.objs.size h₁ tk cells ⟨x.toInCall.ns, hk₁, Nat.le_refl _⟩ NC Y) (fun fl s' hl => hl) fun _ _ y => y.elim
end
end

section
open PySem PySem.W PySem.Calls PyProof.Rows

/-- how a turn of a for ends -/
noncomputable def TurnEnd (h₀ : Heap) (L : Addr) (ic : String) (adr : List Addr) (own : List (Addr × Obj)) (J : (Str → Option Value) → List (Addr × Obj) → List (Addr × Obj) → Prop) (s₁ : Shared) (Q : Flow → Shared → Prop) (f : Flow) (s₃ : Shared) : Prop :=
  match f with
  | .ret v => Q (.ret v) s₃
  | .brk => Q .next s₃
  | _ => ∃ h' tk m' nx kept led, s₃ = { s₁ with heap := h', toks := tk } ∧ Fr h₀ L h' m' ∧ News h₀ L h' led ∧ (∀ p ∈ nx, p ∈ led) ∧ (∀ p ∈ kept, p ∈ led) ∧ (∀ p ∈ own, p ∈ led) ∧
      nx.map (·.1) = adr ∧ (∀ p ∈ kept, p.1 ∉ adr ∧ p.2.cls ≠ .type ic) ∧ J m' nx kept

section
variable {prog : Program} {w : World} {A : Around} {s : Shared} {env : Env} {h₀ : Heap}

theorem for_led {Q : Flow → Shared → Prop} {tgt : Expr} {body orelse : List Stmt} {I : Addr} {fp : List Addr} {n : Nat} {P : Nat → Value → Prop} {St : Nat → Heap → Prop} {m : Str → Option Value}
    {news kept : List (Addr × Obj)} (ic : String) (W : Walks prog w A I fp [I] n P St) (hic : ∀ i h, St i h → ∃ o, h.get? I = some o ∧ o.cls = .type ic)
    (hLf : env.locals ∉ fp) (hI : h₀.get? I = none) (hIn : I ∉ news.map (·.1)) (hfp : ∀ b ∈ fp, h₀.get? b = none → b ∉ news.map (·.1))
    (hst : St 0 s.heap) (F : Fr h₀ env.locals s.heap m) (N : News h₀ env.locals s.heap (news ++ kept))
    (hk : ∀ p ∈ kept, p.1 ∉ news.map (·.1) ∧ p.2.cls ≠ .type ic)
    (J : Nat → (Str → Option Value) → List (Addr × Obj) → List (Addr × Obj) → Prop) (h0 : J 0 m news kept)
    (turn : ∀ i v m₁ nx kp own h tk, i < n → P i v → J i m₁ nx kp → nx.map (·.1) = news.map (·.1) → OwnOff (kp ++ own) (news.map (·.1)) →
      (∀ b ∈ fp, h₀.get? b = none → ∀ o, h.get? b = some o → (b, o) ∈ own) → Fr h₀ env.locals h m₁ → News h₀ env.locals h (nx ++ (kp ++ own)) →
      wpAny (model prog w) A (assign tgt env v) (fun _ s₂ => wpAny (model prog w) A (execs body env) (TurnEnd h₀ env.locals ic (news.map (·.1)) own (J (i + 1)) { s with heap := h, toks := tk } Q) (fun _ _ => False) s₂)
        (fun _ _ => False) { s with heap := h, toks := tk })
    (done : ∀ m₁ nx kp h tk, J n m₁ nx kp → nx.map (·.1) = news.map (·.1) → OwnOff kp (news.map (·.1)) → Fr h₀ env.locals h m₁ → News h₀ env.locals h (nx ++ kp) → wpAny (model prog w) A (execs orelse env) Q (fun _ _ => False) { s with heap := h, toks := tk })
    (hlet : ∀ i v (s₁ : Shared) (Q : Unit → Shared → Prop) (E : Value → Shared → Prop), P i v → St (i + 1) s₁.heap → Q () s₁ → wpAny (model prog w) A (letOwnedTupleGo tgt (.ref I) v) Q E s₁) :
    codeAny (model prog w) A (.forLoop tgt (.ref I) body orelse env) (fun r s' => match r with | .ok f => Q f s' | .error e => cameBackBy (model prog w) A env (fun _ _ => False) e s') s := by
  have hLw : env.locals ≠ I := fun e => hLf (e ▸ W.sub _ (List.mem_singleton.mpr rfl))
  refine codeAny_forLoop_any
    (fun k s' => ∃ h' tk m' nx kp i, s' = { s with heap := h', toks := tk } ∧ St i h' ∧ Fr h₀ env.locals h' m' ∧ News h₀ env.locals h' (nx ++ kp) ∧ nx.map (·.1) = news.map (·.1) ∧ (∀ p ∈ kp, p.1 ∉ news.map (·.1) ∧ p.2.cls ≠ .type ic) ∧ J i m' nx kp ∧ i ≤ n ∧ k = n + 1 - i) ?_ (n + 1)
    ⟨s.heap, s.toks, m, news, kept, 0, rfl, hst, F, N, rfl, hk, h0, Nat.zero_le _, rfl⟩
  rintro k s' ⟨h', tk, m', nx, kp, i, rfl, hst', F', N', hnx, hkp, hJ, hi, rfl⟩
  obtain ⟨oI, hoI, hcI⟩ := hic _ _ hst'
  have offI : ∀ p ∈ nx ++ kp, p.1 ≠ I := by
    intro p hp e
    rcases List.mem_append.mp hp with h1 | h1
    · exact hIn (hnx ▸ e ▸ List.mem_map.mpr ⟨p, h1, rfl⟩)
    · have h2 := (N' p hp).1
      rw [e, hoI] at h2
      cases h2
      exact (hkp p h1).2 hcI
  have next : ∀ h₁ : Heap, (∀ b o, b ∉ [I] → h'.get? b = some o → h₁.get? b = some o) → Fr h₀ env.locals h₁ m' ∧ News h₀ env.locals h₁ (nx ++ kp) := fun h₁ hk₁ =>
    ⟨⟨F'.ns.at' fun o e => hk₁ _ o (fun q => hLw (List.mem_singleton.mp q)) e, fun b o e => hk₁ b o (fun q => by rw [List.mem_singleton.mp q, hI] at e; cases e) (F'.keep b o e), F'.above⟩,
      fun p hp => ⟨hk₁ _ _ (fun q => offI p hp (List.mem_singleton.mp q)) (N' p hp).1, (N' p hp).2⟩⟩
  by_cases hlt : i < n
  · refine wpAny_noRaise (W.item i _ _ _ hlt hst' fun v h₁ tk₁ hP hst₁ hk₁ => ?_)
    obtain ⟨F₁, N₁⟩ := next h₁ hk₁
    have Nown : News h₀ env.locals h₁ (ownOf h₀ fp h₁) := news_ownOf hLf
    have N₂ : News h₀ env.locals h₁ (nx ++ (kp ++ ownOf h₀ fp h₁)) := by
      intro p hp
      rcases List.mem_append.mp hp with h1 | h1
      · exact N₁ p (List.mem_append_left _ h1)
      · rcases List.mem_append.mp h1 with h2 | h2
        · exact N₁ p (List.mem_append_right _ h2)
        · exact Nown p h2
    have hoff : OwnOff (kp ++ ownOf h₀ fp h₁) (news.map (·.1)) := by
      intro p hp b hb e
      rcases List.mem_append.mp hp with h1 | h1
      · exact (hkp p h1).1 (e ▸ hb)
      · have h2 := ownOf_sub p h1
        exact hfp p.1 h2 (Nown p h1).2.2 (e ▸ hb)
    refine hlet i v _ _ _ hP hst₁ ?_
    refine wpAny_mono (turn i v m' nx kp (ownOf h₀ fp h₁) h₁ tk₁ hlt hP hJ hnx hoff (fun b hb hn o e => mem_ownOf hb hn e) F₁ N₂) (fun _ s₂ h₂ => ?_) fun _ _ e => e.elim
    refine wpAny_mono h₂ (fun f s₃ h₃ => ?_) fun _ _ e => e.elim
    have fin : (∃ h' tk m' nx kept led, s₃ = { s with heap := h', toks := tk } ∧ Fr h₀ env.locals h' m' ∧ News h₀ env.locals h' led ∧ (∀ p ∈ nx, p ∈ led) ∧ (∀ p ∈ kept, p ∈ led) ∧ (∀ p ∈ ownOf h₀ fp h₁, p ∈ led) ∧
        nx.map (·.1) = news.map (·.1) ∧ (∀ p ∈ kept, p.1 ∉ news.map (·.1) ∧ p.2.cls ≠ .type ic) ∧ J (i + 1) m' nx kept) →
        ∃ m_1, m_1 < n + 1 - i ∧ ∃ h' tk m' nx kp i, s₃ = { s with heap := h', toks := tk } ∧ St i h' ∧ Fr h₀ env.locals h' m' ∧ News h₀ env.locals h' (nx ++ kp) ∧ nx.map (·.1) = news.map (·.1) ∧ (∀ p ∈ kp, p.1 ∉ news.map (·.1) ∧ p.2.cls ≠ .type ic) ∧ J i m' nx kp ∧ i ≤ n ∧ m_1 = n + 1 - i := by
      rintro ⟨h₃', tk₃, m₂, nx₂, kp₂, led, rfl, F₃, N₃, hs1, hs2, hs3, hnx₂, hkp₂, hJ₃⟩
      refine ⟨n + 1 - (i + 1), by omega, h₃', tk₃, m₂, nx₂, kp₂, i + 1, rfl, ?_, F₃, ?_, hnx₂, hkp₂, hJ₃, hlt, rfl⟩
      · refine W.frame _ _ _ hst₁ fun b hb o e => ?_
        cases hn : h₀.get? b with
        | some o₀ =>
          have : o₀ = o := by have := F₁.keep b o₀ hn; rw [e] at this; exact (Option.some.inj this).symm
          exact this ▸ F₃.keep b o₀ hn
        | none => exact (N₃ _ (hs3 _ (mem_ownOf hb hn e))).1
      · intro p hp
        rcases List.mem_append.mp hp with h1 | h1
        · exact N₃ p (hs1 p h1)
        · exact N₃ p (hs2 p h1)
    cases f with
    | ret v => exact h₃
    | brk => exact h₃
    | next => exact fin h₃
    | cont => exact fin h₃
  · have hin : i = n := by omega
    subst hin
    refine wpAny_noRaise (W.done _ _ _ hst' fun h₁ tk₁ hk₁ => ?_)
    obtain ⟨F₁, N₁⟩ := next h₁ hk₁
    exact wpAny_noRaise (done m' nx kp h₁ tk₁ hJ hnx (fun p hp b hb e => (hkp p hp).1 (e ▸ hb)) F₁ N₁)

/-- a for over a list: what the walk meets behind the iterable -/
theorem for_list {Q : Flow → Shared → Prop} {tgt : Expr} {body orelse : List Stmt} {l : Addr} {vs : List Value} {m : Str → Option Value} {news kept : List (Addr × Obj)}
    (hh : A.handled = none) (hl : s.heap.IsList l vs.toArray) (F : Fr h₀ env.locals s.heap m) (N : News h₀ env.locals s.heap (news ++ kept))
    (hln : (∃ o, h₀.get? l = some o) ∨ l ∉ news.map (·.1)) (hlL : l ≠ env.locals)
    (hk : ∀ p ∈ kept, p.1 ∉ news.map (·.1) ∧ p.2.cls ≠ .type "list_iterator")
    (J : Nat → (Str → Option Value) → List (Addr × Obj) → List (Addr × Obj) → Prop) (h0 : J 0 m news kept)
    (turn : ∀ i v m₁ nx kp own h tk, vs[i]? = some v → J i m₁ nx kp → nx.map (·.1) = news.map (·.1) → OwnOff (kp ++ own) (news.map (·.1)) →
      Fr h₀ env.locals h m₁ → News h₀ env.locals h (nx ++ (kp ++ own)) →
      wpAny (model prog w) A (assign tgt env v) (fun _ s₂ => wpAny (model prog w) A (execs body env) (TurnEnd h₀ env.locals "list_iterator" (news.map (·.1)) own (J (i + 1)) { s with heap := h, toks := tk } Q) (fun _ _ => False) s₂)
        (fun _ _ => False) { s with heap := h, toks := tk })
    (done : ∀ m₁ nx kp h tk, J vs.length m₁ nx kp → nx.map (·.1) = news.map (·.1) → OwnOff kp (news.map (·.1)) → Fr h₀ env.locals h m₁ → News h₀ env.locals h (nx ++ kp) → wpAny (model prog w) A (execs orelse env) Q (fun _ _ => False) { s with heap := h, toks := tk })
    (ht : ∀ v, letOwnedTupleGo tgt (.ref s.heap.objs.size) v = pure ()) :
    wpAny (model prog w) A (pyIter (.ref l)) (fun it s₂ => codeAny (model prog w) A (.forLoop tgt it body orelse env) (fun r s' => match r with | .ok f => Q f s' | .error e => cameBackBy (model prog w) A env (fun _ _ => False) e s') s₂) (fun _ _ => False) s := by
  obtain ⟨ol, hol, hol'⟩ := id hl
  have hne : l ≠ s.heap.objs.size := Nat.ne_of_lt (Heap.lt_size hol)
  refine wpAny_pyIter_list hl ?_
  have W := Walks.list (prog := prog) (w := w) hh s.heap.objs.size l hne vs.toArray
  have hnew := next_is_new F
  have hIn : s.heap.objs.size ∉ news.map (·.1) := fun q => by
    obtain ⟨p, hp, e⟩ := List.mem_map.mp q
    exact absurd (Heap.lt_size (N p (List.mem_append_left _ hp)).1) (e ▸ Nat.lt_irrefl _)
  have hsz : vs.toArray.size = vs.length := by simp
  refine for_led (s := { s with heap := s.heap.push { cls := .type "list_iterator", data := .fields #[.ref l, .int 0 0] } }) (news := news) (kept := kept) "list_iterator" W ?_ ?_ hnew hIn ?_ ?_ (F.push _) ?_ hk J h0 ?_ ?_ (fun _ v _ _ _ _ _ hq => wpAny_of_eq (ht v) hq)
  · rintro i h ⟨⟨o, ho, hc, _⟩, _⟩; exact ⟨o, ho, hc⟩
  · intro hm
    rcases List.mem_cons.mp hm with e | hm
    · exact absurd F.ns.lt (e ▸ Nat.lt_irrefl _)
    · exact hlL (List.mem_singleton.mp hm).symm
  · intro b hb hn
    rcases List.mem_cons.mp hb with e | hm
    · exact e ▸ hIn
    · have := List.mem_singleton.mp hm
      subst this
      rcases hln with ⟨o, ho⟩ | h
      · rw [ho] at hn; cases hn
      · exact h
  · exact ⟨⟨_, Heap.get?_push_size _ rfl, rfl, rfl⟩, hl.at fun o e => Heap.get?_push_of_some _ e⟩
  · exact fun p hp => ⟨Heap.get?_push_of_some _ (N p hp).1, (N p hp).2⟩
  · intro i v m₁ nx kp own h tk hi hP hJ hnx hoff _ F₁ N₁
    exact turn i v m₁ nx kp own h tk (by simpa using hP) hJ hnx hoff F₁ N₁
  · intro m₁ nx kp h tk hJ hnx hoff F₁ N₁
    rw [hsz] at hJ
    exact done m₁ nx kp h tk hJ hnx hoff F₁ N₁
/-- a for over a list: what the walk meets behind the iterable -/
theorem for_listT {Q : Flow → Shared → Prop} {elts : List Expr} {x1} {tp : Pos} {body orelse : List Stmt} {l : Addr} {vs : List Value} {m : Str → Option Value} {news kept : List (Addr × Obj)}
    (hh : A.handled = none) (hl : s.heap.IsList l vs.toArray) (F : Fr h₀ env.locals s.heap m) (N : News h₀ env.locals s.heap (news ++ kept))
    (hln : (∃ o, h₀.get? l = some o) ∨ l ∉ news.map (·.1)) (hlL : l ≠ env.locals)
    (hk : ∀ p ∈ kept, p.1 ∉ news.map (·.1) ∧ p.2.cls ≠ .type "list_iterator")
    (J : Nat → (Str → Option Value) → List (Addr × Obj) → List (Addr × Obj) → Prop) (h0 : J 0 m news kept)
    (turn : ∀ i v m₁ nx kp own h tk, vs[i]? = some v → J i m₁ nx kp → nx.map (·.1) = news.map (·.1) → OwnOff (kp ++ own) (news.map (·.1)) →
      Fr h₀ env.locals h m₁ → News h₀ env.locals h (nx ++ (kp ++ own)) →
      wpAny (model prog w) A (assign (.Tuple elts x1 tp) env v) (fun _ s₂ => wpAny (model prog w) A (execs body env) (TurnEnd h₀ env.locals "list_iterator" (news.map (·.1)) own (J (i + 1)) { s with heap := h, toks := tk } Q) (fun _ _ => False) s₂)
        (fun _ _ => False) { s with heap := h, toks := tk })
    (done : ∀ m₁ nx kp h tk, J vs.length m₁ nx kp → nx.map (·.1) = news.map (·.1) → OwnOff kp (news.map (·.1)) → Fr h₀ env.locals h m₁ → News h₀ env.locals h (nx ++ kp) → wpAny (model prog w) A (execs orelse env) Q (fun _ _ => False) { s with heap := h, toks := tk })
    (hv : ∀ v ∈ vs, ∃ a, v = .ref a) :
    wpAny (model prog w) A (pyIter (.ref l)) (fun it s₂ => codeAny (model prog w) A (.forLoop (.Tuple elts x1 tp) it body orelse env) (fun r s' => match r with | .ok f => Q f s' | .error e => cameBackBy (model prog w) A env (fun _ _ => False) e s') s₂) (fun _ _ => False) s := by
  obtain ⟨ol, hol, hol'⟩ := id hl
  have hne : l ≠ s.heap.objs.size := Nat.ne_of_lt (Heap.lt_size hol)
  refine wpAny_pyIter_list hl ?_
  have W := Walks.list (prog := prog) (w := w) hh s.heap.objs.size l hne vs.toArray
  have hnew := next_is_new F
  have hIn : s.heap.objs.size ∉ news.map (·.1) := fun q => by
    obtain ⟨p, hp, e⟩ := List.mem_map.mp q
    exact absurd (Heap.lt_size (N p (List.mem_append_left _ hp)).1) (e ▸ Nat.lt_irrefl _)
  have hsz : vs.toArray.size = vs.length := by simp
  refine for_led (s := { s with heap := s.heap.push { cls := .type "list_iterator", data := .fields #[.ref l, .int 0 0] } }) (news := news) (kept := kept) "list_iterator" W ?_ ?_ hnew hIn ?_ ?_ (F.push _) ?_ hk J h0 ?_ ?_ (fun i v s₁ Q₁ E₁ hP st hq => by
      obtain ⟨a, rfl⟩ := hv v (List.mem_of_getElem? (by simpa using hP))
      exact wpAny_letOwnedTupleGo_listiter st.1 hq)
  · rintro i h ⟨⟨o, ho, hc, _⟩, _⟩; exact ⟨o, ho, hc⟩
  · intro hm
    rcases List.mem_cons.mp hm with e | hm
    · exact absurd F.ns.lt (e ▸ Nat.lt_irrefl _)
    · exact hlL (List.mem_singleton.mp hm).symm
  · intro b hb hn
    rcases List.mem_cons.mp hb with e | hm
    · exact e ▸ hIn
    · have := List.mem_singleton.mp hm
      subst this
      rcases hln with ⟨o, ho⟩ | h
      · rw [ho] at hn; cases hn
      · exact h
  · exact ⟨⟨_, Heap.get?_push_size _ rfl, rfl, rfl⟩, hl.at fun o e => Heap.get?_push_of_some _ e⟩
  · exact fun p hp => ⟨Heap.get?_push_of_some _ (N p hp).1, (N p hp).2⟩
  · intro i v m₁ nx kp own h tk hi hP hJ hnx hoff _ F₁ N₁
    exact turn i v m₁ nx kp own h tk (by simpa using hP) hJ hnx hoff F₁ N₁
  · intro m₁ nx kp h tk hJ hnx hoff F₁ N₁
    rw [hsz] at hJ
    exact done m₁ nx kp h tk hJ hnx hoff F₁ N₁
end
end

section
open PySem PySem.W PySem.Calls PyProof.Rows

theorem Gd.fr {w : World} {mean : ExcName → Option Value} {mg mb : Str → Option Value} {h₀ h : Heap} {L : Addr} {m : Str → Option Value} (X : (hd.heap_1 w.params).In h₀) (T : Top hd.view_1 lse mean mg mb h₀) (F : Fr h₀ L h m) : Gd w mean mg mb h :=
  ⟨X.keeps F.keep, T.keeps F.keep⟩

theorem stays_trans {a b c : Heap} (h1 : a.StaysIn b) (h2 : b.StaysIn c) : a.StaysIn c := fun x o e => h2 x o (h1 x o e)

/-- a new object of a call that came back, onto the ledger -/
theorem News.more {h₀ h h' : Heap} {L a : Addr} {o : Obj} {m : Str → Option Value} {news : List (Addr × Obj)} (F : Fr h₀ L h m) (N : News h₀ L h news) (k : h.StaysIn h') (ha : h.get? a = none) (ho : h'.get? a = some o) :
    News h₀ L h' ((a, o) :: news) := by
  intro p hp
  rcases List.mem_cons.mp hp with rfl | hp
  · refine ⟨ho, ?_, ?_⟩
    · rintro rfl
      obtain ⟨oL, _, _, hL, _⟩ := F.ns
      rw [hL] at ha; cases ha
    · cases q : h₀.get? a with
      | none => rfl
      | some o' => have := F.keep _ _ q; rw [ha] at this; cases this
  · exact (N.grown k) p hp

/-- the frame's names behind a loop -/
theorem fr_map {h₀ h : Heap} {L : Addr} {m m' : Str → Option Value} (F : Fr h₀ L h m) (e : m = m') : Fr h₀ L h m' := e ▸ F

theorem TurnEnd.next {h₀ h' : Heap} {L : Addr} {ic : String} {adr : List Addr} {own led nx kept : List (Addr × Obj)} {J : (Str → Option Value) → List (Addr × Obj) → List (Addr × Obj) → Prop} {s₁ : Shared} {Q : Flow → Shared → Prop} {tk : Nat} {m' : Str → Option Value}
    (F : Fr h₀ L h' m') (N : News h₀ L h' led) (h1 : ∀ p ∈ nx, p ∈ led) (h2 : ∀ p ∈ kept, p ∈ led) (h3 : ∀ p ∈ own, p ∈ led) (h4 : nx.map (·.1) = adr) (h5 : ∀ p ∈ kept, p.1 ∉ adr ∧ p.2.cls ≠ .type ic) (hJ : J m' nx kept) :
    TurnEnd h₀ L ic adr own J s₁ Q .next { s₁ with heap := h', toks := tk } := ⟨h', tk, m', nx, kept, led, rfl, F, N, h1, h2, h3, h4, h5, hJ⟩

theorem ints_at {vs : List Value} {ns : List Int} {i : Nat} {v : Value} (h : IntsAre vs ns) (hv : vs[i]? = some v) : ∃ t, i < ns.length ∧ v = .int (ns.getD i 0) t := by
  have hlt : i < vs.length := by
    rcases Nat.lt_or_ge i vs.length with h1 | h1
    · exact h1
    · rw [List.getElem?_eq_none h1] at hv; cases hv
  have hlt' : i < ns.length := by rw [← h.length]; exact hlt
  obtain ⟨t, hx⟩ := h.get i ns[i] (by simp [hlt'])
  refine ⟨t, hlt', ?_⟩
  rw [hx] at hv
  rw [← Option.some.inj hv]
  simp [List.getD, hlt']

theorem take_snoc {α : Type} (d : α) {ns : List α} {i : Nat} (h : i < ns.length) : ns.take (i + 1) = ns.take i ++ [ns.getD i d] := by
  rw [List.take_add_one]
  simp [List.getD, h]

theorem ints_push {its : Array Value} {ns : List Int} (h : IntsAre its.toList ns) (n : Int) (t : Tok) : IntsAre (its.push (.int n t)).toList (ns ++ [n]) := by
  rw [Array.toList_push]
  have : ∀ {vs : List Value} {ns : List Int}, IntsAre vs ns → IntsAre (vs ++ [.int n t]) (ns ++ [n]) := by
    intro vs ns h
    induction h with
    | nil => exact .cons _ _ .nil
    | cons x y _ ih => exact .cons _ _ ih
  exact this h
theorem strs_push {its : Array Value} {ns : List Str} (h : StrsAre its.toList ns) (n : Str) (t : Tok) : StrsAre (its.push (.str n t)).toList (ns ++ [n]) := by
  rw [Array.toList_push]
  have : ∀ {vs : List Value} {ns : List Str}, StrsAre vs ns → StrsAre (vs ++ [.str n t]) (ns ++ [n]) := by
    intro vs ns h
    induction h with
    | nil => exact .cons _ _ .nil
    | cons x y _ ih => exact .cons _ _ ih
  exact this h
theorem ints_size {its : Array Value} {ns : List Int} {k : Nat} (h : IntsAre its.toList ns) (hk : ns.length ≤ k) (hk2 : k ≤ 4096) : its.size ≤ sizeLine := by
  have := h.length
  rw [sizeLine_eq]
  simp at this
  omega

theorem in_head {α : Type} {x : α} {own : List α} : ∀ p ∈ [x], p ∈ x :: own := fun _ hp => by rw [List.mem_singleton.mp hp]; exact .head _
theorem in_tail {α : Type} {x : α} {own : List α} : ∀ p ∈ own, p ∈ x :: own := fun _ hp => .tail _ hp
theorem in_nil {α : Type} {own : List α} : ∀ p ∈ ([] : List α), p ∈ own := fun _ hp => nomatch hp
theorem kept_nil {adr : List Addr} {ic : String} : ∀ p ∈ ([] : List (Addr × Obj)), p.1 ∉ adr ∧ p.2.cls ≠ .type ic := fun _ hp => nomatch hp
theorem upd2 {α β : Type} [DecidableEq α] (x : α) (a u : β) (m : α → β) : (fun y => if y = x then a else if y = x then u else m y) = fun y => if y = x then a else m y := by
  funext y; by_cases h : y = x <;> simp [h]
theorem upd0 {α β : Type} [DecidableEq α] (x : α) (m : α → β) : m = fun y => if y = x then m x else m y := by
  funext y; by_cases h : y = x <;> simp [h]
section
variable {prog : Program} {w : World} {A : Around} {E : Value → Shared → Prop} {s : Shared} {h₀ : Heap} {L a : Addr} {m : Str → Option Value} {own : List (Addr × Obj)} {adr : List Addr}
theorem app_led {its : Array Value} {n : Nat} {x : Value} {Q : Value → Shared → Prop} (F : Fr h₀ L s.heap m) (N : News h₀ L s.heap ((a, W.listOf its n) :: own)) (hoff : OwnOff own adr) (ha : a ∈ adr) (hsz : its.size ≤ sizeLine)
    (h : ∀ h', Fr h₀ L h' m → News h₀ L h' ((a, W.listOf (its.push x) (n + 1)) :: own) → Q .none { s with heap := h' }) : wpAny (model prog w) A (call (.builtin "list.append") [.ref a, x]) Q E s :=
  append_K F N (Upd.head fun p hp => hoff p hp a ha) h hsz
end

end

local macro_rules | `(tactic| walk_at "exec For Name Name cons nil") => `(tactic| (k_dflt (refine wpAny_For ?_ (by intro _; rfl))))
local macro_rules | `(tactic| walk_at "exec For Name Subscript cons nil") => `(tactic| (k_dflt (refine wpAny_For ?_ (by intro _; rfl))))
local macro_rules | `(tactic| walk_at "exec For Name Call cons nil") => `(tactic| (k_dflt (refine wpAny_For ?_ (by intro _; rfl))))
local macro_rules | `(tactic| walk_at "exec For Name Call cons cons") => `(tactic| (k_dflt (refine wpAny_For ?_ (by intro _; rfl))))
local macro_rules | `(tactic| walk_at "exec For Tuple Name cons nil") => `(tactic| (k_dflt (refine wpAny_For ?_ (by intro _; rfl))))
local macro_rules | `(tactic| walk_at "mroom") => `(tactic| (simp only [Around.deeper]; omega))

section
open PySem PySem.W PySem.Calls PyProof.Rows
local macro_rules | `(tactic| walk_at "mw") => `(tactic| (repeat' (first | walk1 | (dsimp only; walk1))))
variable {w : World} {mean : ExcName → Option Value} {mg mb : Str → Option Value}
noncomputable def famF (ns : List Int) : List Int := ns.foldl (fun acc n => if acc.any (fun x => x == n.fmod 16) then acc else acc ++ [n.fmod 16]) []
theorem famF_snoc (ns : List Int) (n : Int) : famF (ns ++ [n]) = if (famF ns).any (fun x => x == n.fmod 16) then famF ns else famF ns ++ [n.fmod 16] := by
  unfold famF
  rw [List.foldl_append]
  rfl
theorem famF_length (ns : List Int) : (famF ns).length ≤ ns.length := by
  have : ∀ (ns acc : List Int), (ns.foldl (fun acc n => if acc.any (fun x => x == n.fmod 16) then acc else acc ++ [n.fmod 16]) acc).length ≤ acc.length + ns.length := by
    intro ns
    induction ns with
    | nil => intro acc; simp
    | cons n r ih =>
      intro acc
      rw [List.foldl_cons]
      refine Nat.le_trans (ih _) ?_
      split <;> simp <;> omega
  have h := this ns []
  rw [List.length_nil, Nat.zero_add] at h
  exact h

set_option maxHeartbeats 4000000 in
theorem fam_spec {A : Around} {s : Shared} {R : Result → Shared → Prop} {l : Addr} {vs : List Value} {ns : List Int} (G : Gd w mean mg mb s.heap) (r : Rm A 3 20)
   (hl : s.heap.IsList l vs.toArray) (hi : IntsAre vs ns) (hn : ns.length ≤ 64)
   (hR : ∀ a h' tk its n, s.heap.StaysIn h' → s.heap.get? a = none → h'.get? a = some (W.listOf its n) → IntsAre its.toList (famF ns) → R (.ok (.ret (.ref a))) { s with heap := h', toks := tk })
   : codeAny (model PySem.Challenge.rw_rw0095_01.row.prog w) A (.call (.ref 216) ⟨[.ref l], []⟩) R s := by
  obtain ⟨X, T⟩ := G
  refine' enter (binds := [(Str.ofString "numbers", .ref l)]) X T.nolimit ?hr ?k6 ?k7 ?k9 ?kB ?_ ?c5 ?c6 ?c7 ?c8
  case hr => exact Nat.lt_of_le_of_lt (Nat.le_add_right _ _) r.dp
  case k6 => k_dflt k_is
  case k7 => k_dflt k_is
  case k9 => exact BindsTo.of_eq rfl
  case kB => exact locs rfl
  case c5 => decide
  case c6 => rfl
  case c7 => rfl
  case c8 => rfl
  intro L h₁ F N
  w_top on
  walk_at "mw"
  rename_i a h2 _ h3 F2 N2
  refine' for_list (news := [(a, W.listOf #[] 0)]) (kept := []) ?a1 ?a2 ?a3 ?a4 ?a5 ?a6 ?a7
    (fun i m nx kp => kp = [] ∧ ∃ its n u, nx = [(a, W.listOf its n)] ∧ IntsAre its.toList (famF (ns.take i)) ∧ m = fun y => if y = Str.ofString "number" then u else if y = Str.ofString "family" then some (Value.ref a) else List.lookup y [(Str.ofString "numbers", Value.ref l)].reverse) ?a8 ?_ ?_ ?a9
  case a1 => exact r.hd
  case a3 => exact F2
  case a4 => exact N2
  case a2 => exact (hl.at fun o e => F2.keep _ o e)
  case a5 => exact (Or.inl (let ⟨o, ho, _⟩ := hl; ⟨o, ho⟩))
  case a6 => obtain ⟨o, ho, _⟩ := hl; exact Nat.ne_of_lt (Nat.lt_of_lt_of_le (Heap.lt_size ho) F2.above)
  case a7 => simp
  case a8 => exact ⟨rfl, #[], 0, none, rfl, IntsAre.nil, upd0 _ _⟩
  case a9 => intro _; rfl
  · rintro i v m₁ nx kp own h tk hv ⟨rfl, its, n, u, rfl, hI, rfl⟩ hnx hoff F' N'
    obtain ⟨t, hlt, rfl⟩ := ints_at hi hv
    have hsz : its.size ≤ sizeLine := ints_size hI (k := 64) (Nat.le_trans (famF_length _) (Nat.le_trans (List.length_take_le' _ _) hn)) (by omega)
    have hs : famF (ns.take (i + 1)) = _ := (congrArg famF (take_snoc 0 hlt)).trans (famF_snoc _ _)
    clear F2 N2
    dsimp only [List.nil_append, List.cons_append] at N' hoff
    refine wpAny_assign_Name ?_
    walk_at "mw"
    · rename_i hb
      rw [if_pos hb] at hs
      refine TurnEnd.next (nx := [(a, W.listOf its n)]) (kept := []) (by assumption) (by assumption) in_head in_nil in_tail rfl kept_nil ⟨rfl, its, n, some (Value.int (ns.getD i 0) t), rfl, hs ▸ hI, upd2 _ _ _ _⟩
    · rename_i hb
      rw [hb, if_neg (by decide)] at hs
      refine app_led (by assumption) (by assumption) hoff (.head _) hsz ?_
      intro h5 F5 N5
      walk_at "mw"
      refine TurnEnd.next (nx := [(a, W.listOf (its.push _) (n + 1))]) (kept := []) F5 N5 in_head in_nil in_tail rfl kept_nil ⟨rfl, _, _, some (Value.int (ns.getD i 0) t), rfl, hs ▸ ints_push hI _ _, upd2 _ _ _ _⟩
  · rintro m₁ nx kp h tk ⟨rfl, its, n, u, rfl, hI, rfl⟩ hnx hoff F' N'
    clear F2 N2
    walk_at "mw"
    refine hR _ _ _ _ _ F'.keep (N' _ (.head _)).2.2 (N' _ (.head _)).1 ?_
    rw [hi.length, List.take_length] at hI
    exact hI

end

section
open PySem PySem.W PySem.Calls PyProof.Rows
/-- a name that the frame bears, brought to the front -/
theorem fr_see {h₀ h : Heap} {L : Addr} {m : Str → Option Value} {x : Str} {v : Value} (F : Fr h₀ L h m) (e : m x = some v) : Fr h₀ L h (fun y => if y = x then some v else m y) := by
  have : m = fun y => if y = x then some v else m y := by
    funext y
    by_cases hy : y = x
    · rw [if_pos hy, hy, e]
    · rw [if_neg hy]
  exact this ▸ F
section
variable {prog : Program} {w : World} {A : Around} {E : Value → Shared → Prop} {hp : Heap} {gn} {dr} {tk : Nat} {os} {h₀ : Heap} {L l : Addr} {m : Str → Option Value} {news : List (Addr × Obj)} {value slice : PySem.Expr} {vs : List Value} {ns : List Int} {Q : Value → Shared → Prop}
theorem sl_from {x : Int} {t : Tok} (F : Fr h₀ L hp m) (N : News h₀ L hp news) (hl : hp.IsList l vs.toArray) (hi : IntsAre vs ns) (h0 : 0 ≤ x) (hz : ns.length ≤ 4096)
    (h : ∀ D ws h', Fr h₀ L h' m → News h₀ L h' ((D, listOf (List.toArray ws) 0) :: news) → IntsAre ws (ns.drop x.toNat) → (∀ p ∈ news, p.1 < D) → Q (.ref D) ⟨h', gn, dr, tk, os⟩)
    (hs : subscripted slice false (.ref l) (.ref hp.objs.size) = operate [.ref hp.objs.size, .ref l] (getItem (.ref l) (.ref hp.objs.size)) := by with_unfolding_all rfl) (ht : ∀ r, letTemporaryGo value (.ref l) r = pure () := by intro _; with_unfolding_all rfl) :
    wpAny (model prog w) A (subscriptTail value slice (.ref l) (.ref hp.objs.size)) Q E ⟨hp.push { cls := .type "slice", data := .fields #[.int x t, .none, .none] }, gn, dr, tk, os⟩ :=
  kmk_slice (s := ⟨hp, gn, dr, tk, os⟩) F N hl (.int x t) .none (fun D h' F' N' lt => h D _ h' F' (by rw [Array.toArray_toList]; exact N') (kmk_from hi h0) lt) hs ht (by rw [sizeLine_eq, List.size_toArray, hi.length]; omega)
theorem sl_upto {x : Int} {t : Tok} (F : Fr h₀ L hp m) (N : News h₀ L hp news) (hl : hp.IsList l vs.toArray) (hi : IntsAre vs ns) (h0 : 0 ≤ x) (hz : ns.length ≤ 4096)
    (h : ∀ D ws h', Fr h₀ L h' m → News h₀ L h' ((D, listOf (List.toArray ws) 0) :: news) → IntsAre ws (ns.take x.toNat) → (∀ p ∈ news, p.1 < D) → Q (.ref D) ⟨h', gn, dr, tk, os⟩)
    (hs : subscripted slice false (.ref l) (.ref hp.objs.size) = operate [.ref hp.objs.size, .ref l] (getItem (.ref l) (.ref hp.objs.size)) := by with_unfolding_all rfl) (ht : ∀ r, letTemporaryGo value (.ref l) r = pure () := by intro _; with_unfolding_all rfl) :
    wpAny (model prog w) A (subscriptTail value slice (.ref l) (.ref hp.objs.size)) Q E ⟨hp.push { cls := .type "slice", data := .fields #[.none, .int x t, .none] }, gn, dr, tk, os⟩ :=
  kmk_slice (s := ⟨hp, gn, dr, tk, os⟩) F N hl .none (.int x t) (fun D h' F' N' lt => h D _ h' F' (by rw [Array.toArray_toList]; exact N') (kmk_upto hi h0) lt) hs ht (by rw [sizeLine_eq, List.size_toArray, hi.length]; omega)
end
section
variable {prog : Program} {w : World} {A : Around} {E : Value → Shared → Prop} {s : Shared} {a b : Addr} {xs ys : List Value} {ns ms : List Int} {Q : Value → Shared → Prop}
theorem ne_ints_no (ha : s.heap.IsList a xs.toArray) (hb : s.heap.IsList b ys.toArray) (hi : IntsAre xs ns) (hj : IntsAre ys ms) (hu : A.units + 64 < cLine) (e : ns = ms) (h : Q (.bool false) s) :
    wpAny (model prog w) A (compareOp .NotEq (.ref a) (.ref b)) Q E s := ke_ne_ints ha hb hi hj hu (by rw [decide_eq_true e]; exact h)
theorem ne_ints_yes (ha : s.heap.IsList a xs.toArray) (hb : s.heap.IsList b ys.toArray) (hi : IntsAre xs ns) (hj : IntsAre ys ms) (hu : A.units + 64 < cLine) (e : ns ≠ ms) (h : Q (.bool true) s) :
    wpAny (model prog w) A (compareOp .NotEq (.ref a) (.ref b)) Q E s := ke_ne_ints ha hb hi hj hu (by rw [decide_eq_false e]; exact h)
end
theorem cls_ne {a b : String} (h : a ≠ b) : Value.type a ≠ Value.type b := fun q => by injection q with q; exact h q
/-- one kept list -/
theorem kept_one {adr : List Addr} {D : Addr} {its : Array Value} {n : Nat} (h : D ∉ adr) : ∀ p ∈ [(D, W.listOf its n)], p.1 ∉ adr ∧ p.2.cls ≠ .type "list_iterator" := fun p hp => by
  rw [List.mem_singleton.mp hp]
  exact ⟨h, cls_ne (by decide)⟩
theorem not_mem_one {D a : Addr} (h : D ≠ a) : D ∉ [a] := fun q => h (List.mem_singleton.mp q)
section
variable {prog : Program} {w : World} {A : Around} {s : Shared} {env : Env} {h₀ : Heap}
/-- a for over range(n) -/
theorem for_range {Q : Flow → Shared → Prop} {tgt : Expr} {body orelse : List Stmt} {rg : Addr} {n : Nat} {t u v : Tok} {m : Str → Option Value} {news kept : List (Addr × Obj)}
    (hh : A.handled = none) (hr : IsRange s.heap rg 0 (n : Int) 1 t u v) (hn : n < 1000) (F : Fr h₀ env.locals s.heap m) (N : News h₀ env.locals s.heap (news ++ kept))
    (hk : ∀ p ∈ kept, p.1 ∉ news.map (·.1) ∧ p.2.cls ≠ .type "range_iterator")
    (J : Nat → (Str → Option Value) → List (Addr × Obj) → List (Addr × Obj) → Prop) (h0 : J 0 m news kept)
    (turn : ∀ i t m₁ nx kp own h tk, i < n → J i m₁ nx kp → nx.map (·.1) = news.map (·.1) → OwnOff (kp ++ own) (news.map (·.1)) →
      Fr h₀ env.locals h m₁ → News h₀ env.locals h (nx ++ (kp ++ own)) →
      wpAny (model prog w) A (assign tgt env (.int (i : Int) t)) (fun _ s₂ => wpAny (model prog w) A (execs body env) (TurnEnd h₀ env.locals "range_iterator" (news.map (·.1)) own (J (i + 1)) { s with heap := h, toks := tk } Q) (fun _ _ => False) s₂)
        (fun _ _ => False) { s with heap := h, toks := tk })
    (done : ∀ m₁ nx kp h tk, J n m₁ nx kp → nx.map (·.1) = news.map (·.1) → OwnOff kp (news.map (·.1)) → Fr h₀ env.locals h m₁ → News h₀ env.locals h (nx ++ kp) → wpAny (model prog w) A (execs orelse env) Q (fun _ _ => False) { s with heap := h, toks := tk })
    (ht : ∀ v, letOwnedTupleGo tgt (.ref s.heap.objs.size) v = pure ()) :
    wpAny (model prog w) A (pyIter (.ref rg)) (fun it s₂ => codeAny (model prog w) A (.forLoop tgt it body orelse env) (fun r s' => match r with | .ok f => Q f s' | .error e => cameBackBy (model prog w) A env (fun _ _ => False) e s') s₂) (fun _ _ => False) s := by
  have hsz : Builtin.Range.rangeSize 0 (n : Int) 1 = ((n : Nat) : Int) := by unfold Builtin.Range.rangeSize; split <;> simp_all <;> omega
  have hsm : Builtin.Range.small 0 (n : Int) 1 = true := by
    have h9 : ∀ k : Int, 0 ≤ k → k ≤ 1000 → Builtin.Range.rangeFitsLong k = true := fun k h1 h2 => by unfold Builtin.Range.rangeFitsLong; simp; omega
    unfold Builtin.Range.small
    rw [hsz, h9 0 (by omega) (by omega), h9 n (by omega) (by omega), h9 1 (by omega) (by omega), if_pos (by omega), h9 _ (by omega) (by omega)]
    simp
  refine wpAny_pyIter_range hr hsm ?_
  have hnew := next_is_new F
  have hIn : s.heap.objs.size ∉ news.map (·.1) := fun q => by
    obtain ⟨p, hp, e⟩ := List.mem_map.mp q
    exact absurd (Heap.lt_size (N p (List.mem_append_left _ hp)).1) (e ▸ Nat.lt_irrefl _)
  refine for_led (s := { s with heap := s.heap.push { cls := .type "range_iterator", data := .fields #[rawInt 0, rawInt (Builtin.Range.rangeSize 0 (n : Int) 1), rawInt 1] } }) (news := news) (kept := kept) "range_iterator"
    (LCg.range_walks (I := s.heap.objs.size) hh 0 n) ?_ ?_ hnew hIn ?_ ?_ (F.push _) ?_ hk J h0 ?_ ?_ (fun _ v _ _ _ _ _ hq => wpAny_of_eq (ht v) hq)
  · intro i h st; exact ⟨_, st, rfl⟩
  · intro hm
    exact absurd F.ns.lt (List.mem_singleton.mp hm ▸ Nat.lt_irrefl _)
  · intro b hb _
    rw [List.mem_singleton.mp hb]; exact hIn
  · show IsRangeIter _ _ _ _ _
    rw [hsz]
    simpa using Heap.get?_push_size _ rfl
  · exact fun p hp => ⟨Heap.get?_push_of_some _ (N p hp).1, (N p hp).2⟩
  · intro i v m₁ nx kp own h tk hi hP hJ hnx hoff _ F₁ N₁
    obtain ⟨t, rfl⟩ := hP
    rw [Int.zero_add]
    exact turn i t m₁ nx kp own h tk hi hJ hnx hoff F₁ N₁
  · intro m₁ nx kp h tk hJ hnx hoff F₁ N₁
    exact done m₁ nx kp h tk hJ hnx hoff F₁ N₁
end
theorem fr_see2 {h₀ h : Heap} {L : Addr} {m : Str → Option Value} {x x2 : Str} {v v2 : Value} (F : Fr h₀ L h m) (e : m x = some v) (e2 : m x2 = some v2) : Fr h₀ L h (fun y => if y = x then some v else if y = x2 then some v2 else m y) := by
  have : m = fun y => if y = x then some v else if y = x2 then some v2 else m y := by
    funext y
    by_cases hy : y = x
    · rw [if_pos hy, hy, e]
    · rw [if_neg hy]
      by_cases hy2 : y = x2
      · rw [if_pos hy2, hy2, e2]
      · rw [if_neg hy2]
  exact this ▸ F
theorem fr_see3 {h₀ h : Heap} {L : Addr} {m : Str → Option Value} {x x2 x3 : Str} {v v2 v3 : Value} (F : Fr h₀ L h m) (e : m x = some v) (e2 : m x2 = some v2) (e3 : m x3 = some v3) : Fr h₀ L h (fun y => if y = x then some v else if y = x2 then some v2 else if y = x3 then some v3 else m y) := by
  have : m = fun y => if y = x then some v else if y = x2 then some v2 else if y = x3 then some v3 else m y := by
    funext y
    by_cases hy : y = x
    · rw [if_pos hy, hy, e]
    · rw [if_neg hy]
      by_cases hy2 : y = x2
      · rw [if_pos hy2, hy2, e2]
      · rw [if_neg hy2]
        by_cases hy3 : y = x3
        · rw [if_pos hy3, hy3, e3]
        · rw [if_neg hy3]
  exact this ▸ F
theorem fr_see4 {h₀ h : Heap} {L : Addr} {m : Str → Option Value} {x x2 x3 x4 : Str} {v v2 v3 v4 : Value} (F : Fr h₀ L h m) (e : m x = some v) (e2 : m x2 = some v2) (e3 : m x3 = some v3) (e4 : m x4 = some v4) : Fr h₀ L h (fun y => if y = x then some v else if y = x2 then some v2 else if y = x3 then some v3 else if y = x4 then some v4 else m y) := by
  have : m = fun y => if y = x then some v else if y = x2 then some v2 else if y = x3 then some v3 else if y = x4 then some v4 else m y := by
    funext y
    by_cases hy : y = x
    · rw [if_pos hy, hy, e]
    · rw [if_neg hy]
      by_cases hy2 : y = x2
      · rw [if_pos hy2, hy2, e2]
      · rw [if_neg hy2]
        by_cases hy3 : y = x3
        · rw [if_pos hy3, hy3, e3]
        · rw [if_neg hy3]
          by_cases hy4 : y = x4
          · rw [if_pos hy4, hy4, e4]
          · rw [if_neg hy4]
  exact this ▸ F
section
variable {prog : Program} {w : World} {A : Around} {h₀ : Heap} {L : Addr} {m : Str → Option Value} {env : Env} {ct elt : Expr} {x : Str} {scope : Scope} {cl : List (Str × Addr)} {s : Shared} {S : List (Addr × Obj) → Prop} {P : Nat → Value → Prop} {Fin : List Value → List (Addr × Obj) → Prop} {news : List (Addr × Obj)}
/-- a comprehension by an invariant -/
theorem comp_U {n : Nat} (Inv : Nat → List Value → List (Addr × Obj) → Prop) (h0 : Inv 0 [] news)
    (turn : ∀ i ys news v I oI C oC D m₂ h tk (E' : Value → Shared → Prop), i < n → P i v → Inv i ys news → LCg.NsObj oC m₂ → m₂ x = some v → Fr h₀ L h m → News h₀ L h ((I, oI) :: (C, oC) :: (D, LCg.lst ys) :: news) → LCg.Off3 I C D news → ((@Ne Nat I C) ∧ (@Ne Nat I D) ∧ (@Ne Nat C D)) →
      wpAny (model prog w) A (eval elt (compEnvC scope cl C env)) (LCg.CompEnd h₀ L m { s with heap := h, toks := tk } I oI C oC D (LCg.lst ys) S (fun y news' => Inv (i + 1) (ys ++ [y]) news')) E' { s with heap := h, toks := tk })
    (fin : ∀ ys news, Inv n ys news → Fin ys news) : LCg.CompRest prog w A h₀ L m env elt x scope cl s S P Fin n 0 [] news := by
  have key : ∀ (j i : Nat) (ys : List Value) (news : List (Addr × Obj)), i + j = n → Inv i ys news → LCg.CompRest prog w A h₀ L m env elt x scope cl s S P Fin j i ys news := by
    intro j
    induction j with
    | zero =>
      intro i ys news hi hy
      obtain rfl : i = n := by omega
      exact LCg.CompRest.zero (fin ys news hy)
    | succ j ih =>
      intro i ys news hi hy
      refine LCg.CompRest.succ ?_
      intro v I oI C oC D m₂ h tk E' hv hC hx F N off ne
      refine wpAny_mono (turn i ys news v I oI C oC D m₂ h tk E' (by omega) hv hy hC hx F N off ne) (fun y s₂ hq => ?_) fun _ _ e => e
      obtain ⟨h', tk', nw, e, F', N', off', hS, hn⟩ := hq
      exact ⟨h', tk', nw, e, F', N', off', hS, ih (i + 1) _ _ (by omega) hn⟩
  exact key n 0 [] news (by omega) h0
theorem comp_T {n : Nat} (Inv : Nat → List Value → List (Addr × Obj) → Prop) (h0 : Inv 0 [] news)
    (turn : ∀ i ys news v I oI C oC D m₂ h tk (E' : Value → Shared → Prop), i < n → P i v → Inv i ys news → LCg.NsObj oC m₂ → m₂ x = some v → Fr h₀ L h m → News h₀ L h ((I, oI) :: (C, oC) :: (D, LCg.lst ys) :: news) → LCg.Off3 I C D news → ((@Ne Nat I C) ∧ (@Ne Nat I D) ∧ (@Ne Nat C D)) →
      wpAny (model prog w) A (isTrue ct (compEnvC scope cl C env) (eval ct (compEnvC scope cl C env))) (fun ok s' => if ok = true then
        wpAny (model prog w) A (eval elt (compEnvC scope cl C env)) (LCg.CompEnd h₀ L m { s with heap := h, toks := tk } I oI C oC D (LCg.lst ys) S (fun y news' => Inv (i + 1) (ys ++ [y]) news')) E' s'
        else LCg.CompEnd h₀ L m { s with heap := h, toks := tk } I oI C oC D (LCg.lst ys) S (fun _ news' => Inv (i + 1) ys news') Value.none s') E' { s with heap := h, toks := tk })
    (fin : ∀ ys news, Inv n ys news → Fin ys news) : LCt.CompRestT prog w A h₀ L m env ct elt x scope cl s S P Fin n 0 [] news := by
  have key : ∀ (j i : Nat) (ys : List Value) (news : List (Addr × Obj)), i + j = n → Inv i ys news → LCt.CompRestT prog w A h₀ L m env ct elt x scope cl s S P Fin j i ys news := by
    intro j
    induction j with
    | zero =>
      intro i ys news hi hy
      obtain rfl : i = n := by omega
      exact LCt.CompRestT.zero (fin ys news hy)
    | succ j ih =>
      intro i ys news hi hy
      refine LCt.CompRestT.succ ?_
      intro v I oI C oC D m₂ h tk E' hv hC hx F N off ne
      refine wpAny_mono (turn i ys news v I oI C oC D m₂ h tk E' (by omega) hv hy hC hx F N off ne) (fun ok s₂ hq => ?_) fun _ _ e => e
      by_cases ho : ok = true
      · rw [if_pos ho] at hq ⊢
        refine wpAny_mono hq (fun y s₃ hq => ?_) fun _ _ e => e
        obtain ⟨h', tk', nw, e, F', N', off', hS, hn⟩ := hq
        exact ⟨h', tk', nw, e, F', N', off', hS, ih (i + 1) _ _ (by omega) hn⟩
      · rw [if_neg ho] at hq ⊢
        obtain ⟨h', tk', nw, e, F', N', off', hS, hn⟩ := hq
        exact ⟨h', tk', nw, e, F', N', off', hS, ih (i + 1) _ _ (by omega) hn⟩
  exact key n 0 [] news (by omega) h0
end
theorem strs_append {vs ws : List Value} {ns ms : List Str} (h : StrsAre vs ns) (h2 : StrsAre ws ms) : StrsAre (vs ++ ws) (ns ++ ms) := by
  induction h with
  | nil => exact h2
  | cons x y _ ih => exact .cons _ _ ih
section
variable {prog : Program} {w : World} {A : Around} {E : Value → Shared → Prop} {s : Shared} {h₀ : Heap} {L a b : Addr} {m : Str → Option Value} {news : List (Addr × Obj)} {vs ws : List Value} {ns ms : List Str} {Q : Value → Shared → Prop}
theorem add_strs (F : Fr h₀ L s.heap m) (N : News h₀ L s.heap news) (ha : s.heap.IsList a vs.toArray) (hb : s.heap.IsList b ws.toArray) (hi : StrsAre vs ns) (hj : StrsAre ws ms)
    (h : ∀ D us h', Fr h₀ L h' m → News h₀ L h' ((D, listOf (List.toArray us) 0) :: news) → (∀ p ∈ news, p.1 < D) → StrsAre us (ns ++ ms) → Q (.ref D) { s with heap := h' })
    (hz : vs.length + ws.length ≤ sizeLine) : wpAny (model prog w) A (binaryOp .Add (.ref a) (.ref b)) Q E s :=
  kmk_add_lit F N ha hb rfl (fun D h' F' N' lt => h D _ h' F' N' lt (strs_append hi hj)) hz
end
end

local macro_rules | `(tactic| walk_at "mw") => `(tactic| ((try dsimp only); (try k_fold); repeat' ((fail_if_success walk_at "mstop"); first | (k_unmd; k_unfold; (try dsimp only)) | walk1 | (dsimp only; walk1))))
local macro_rules | `(tactic| walk_at "mw0") => `(tactic| ((try dsimp only); repeat' ((fail_if_success walk_at "mstop"); first | (k_unmd; k_unfold; (try dsimp only)) | walk1 | (dsimp only; walk1))))

section
open PySem PySem.W PySem.Calls PyProof.Rows
local macro_rules | `(tactic| walk_at "mstop") => `(tactic| first | (with_reducible show wpAny _ _ (subscriptTail (PySem.Expr.Name _ _) (PySem.Expr.Slice _ _ _ _) (Value.ref _) (Value.ref _)) _ _ _) | (with_reducible show wpAny _ _ (call (Value.ref _) _) _ _ _))
variable {w : World} {mean : ExcName → Option Value} {mg mb : Str → Option Value}
noncomputable def numF (ns : List Int) : List Int := ns.take 5 ++ ([19, 3, 34, 97] : List Int).drop ns.length

set_option maxHeartbeats 4000000 in
theorem num_spec {A : Around} {s : Shared} {R : Result → Shared → Prop} {l : Addr} {vs : List Value} {ns : List Int} (G : Gd w mean mg mb s.heap) (r : Rm A 3 20)
   (hl : s.heap.IsList l vs.toArray) (hi : IntsAre vs ns) (hn : ns.length ≤ 64)
   (hR : ∀ a h' tk its n, s.heap.StaysIn h' → s.heap.get? a = none → h'.get? a = some (W.listOf its n) → IntsAre its.toList (numF ns) → R (.ok (.ret (.ref a))) { s with heap := h', toks := tk })
   : codeAny (model PySem.Challenge.rw_rw0095_01.row.prog w) A (.call (.ref 197) ⟨[.ref l], []⟩) R s := by
  obtain ⟨X, T⟩ := G
  refine' enter (binds := [(Str.ofString "script", .ref l)]) X T.nolimit ?hr ?k6 ?k7 ?k9 ?kB ?_ ?c5 ?c6 ?c7 ?c8
  case hr => exact Nat.lt_of_le_of_lt (Nat.le_add_right _ _) r.dp
  case k6 => k_dflt k_is
  case k7 => k_dflt k_is
  case k9 => exact BindsTo.of_eq rfl
  case kB => exact locs rfl
  case c5 => decide
  case c6 => rfl
  case c7 => rfl
  case c8 => rfl
  intro L h₁ F N
  w_top on
  walk_at "mw"
  refine sl_upto (by assumption) (by assumption) (hl.at fun o e => F.keep _ o e) hi (by decide) (by omega) ?_
  intro D1 ws1 h2 F2 N2 I2 l2; k_lt l2
  walk_at "mw"
  refine sl_from (ns := [19, 3, 34, 97]) (by assumption) (by assumption) (News.isList (by assumption) (by k_mem)) (.cons _ _ (.cons _ _ (.cons _ _ (.cons _ _ .nil)))) (by omega) (by decide) ?_
  intro D2 ws2 h3 F3 N3 I3 l3; k_lt l3
  walk_at "mw"
  rename_i D4 ws4 h4 F4 N4 I4 l4
  refine hR _ _ _ _ _ F4.keep (N4 _ (.head _)).2.2 (N4 _ (.head _)).1 I4

end

local macro_rules | `(tactic| walk_at "room") => `(tactic| ((rename Rm _ _ _ => hrr); (have hrun := hrr.un); (have hrdp := hrr.dp); (simp only [Around.deeper, Around.in1, recursionLimit, cLine] at hrun hrdp ⊢); omega))

section
open PySem PySem.W PySem.Calls PyProof.Rows
local macro_rules | `(tactic| walk_at "mstop") => `(tactic| first | (with_reducible show wpAny _ _ (subscriptTail (PySem.Expr.Name _ _) (PySem.Expr.Slice _ _ _ _) (Value.ref _) (Value.ref _)) _ _ _) | (with_reducible show wpAny _ _ (call (Value.ref _) _) _ _ _) | (with_reducible show wpAny _ _ (compareOp _ (Value.ref _) (Value.ref _)) _ _ _))
variable {w : World} {mean : ExcName → Option Value} {mg mb : Str → Option Value}
noncomputable def plcF (a b c d : Int) : List Int :=
  let p0 := (a.fdiv 16).fmod 4
  let p1 := p0 + 1 + (b.fdiv 16).fmod 4
  let p2 := p1 + 1 + (c.fdiv 16).fmod 4
  let p3 := p2 + 1 + (d.fdiv 16).fmod 4
  [p0, p1, p2, p3]

theorem ints4 {ws : List Value} {a b c d : Int} (h : IntsAre ws [a, b, c, d]) : ∃ t1 t2 t3 t4, ws = [.int a t1, .int b t2, .int c t3, .int d t4] := by
  cases h with | cons _ t1 h => cases h with | cons _ t2 h => cases h with | cons _ t3 h => cases h with | cons _ t4 h => cases h; exact ⟨t1, t2, t3, t4, rfl⟩

theorem ints1 {ws : List Value} {a : Int} (h : IntsAre ws [a]) : ∃ t1, ws = [.int a t1] := by
  cases h with | cons _ t1 h => cases h; exact ⟨t1, rfl⟩
theorem ints2 {ws : List Value} {a b : Int} (h : IntsAre ws [a, b]) : ∃ t1 t2, ws = [.int a t1, .int b t2] := by
  cases h with | cons _ t1 h => cases h with | cons _ t2 h => cases h; exact ⟨t1, t2, rfl⟩
theorem ints3 {ws : List Value} {a b c : Int} (h : IntsAre ws [a, b, c]) : ∃ t1 t2 t3, ws = [.int a t1, .int b t2, .int c t3] := by
  cases h with | cons _ t1 h => cases h with | cons _ t2 h => cases h with | cons _ t3 h => cases h; exact ⟨t1, t2, t3, rfl⟩

set_option maxHeartbeats 4000000 in
theorem plc_spec {A : Around} {s : Shared} {R : Result → Shared → Prop} {l : Addr} {vs : List Value} {ns : List Int} {a b c d : Int} {rest : List Int} (G : Gd w mean mg mb s.heap) (r : Rm A 3 100)
   (hl : s.heap.IsList l vs.toArray) (hi : IntsAre vs ns) (hns : ns = a :: b :: c :: d :: rest) (hn : ns.length ≤ 64)
   (hR : ∀ a' h' tk its n, s.heap.StaysIn h' → s.heap.get? a' = none → h'.get? a' = some (W.listOf its n) → IntsAre its.toList (plcF a b c d) → R (.ok (.ret (.ref a'))) { s with heap := h', toks := tk })
   : codeAny (model PySem.Challenge.rw_rw0095_01.row.prog w) A (.call (.ref 204) ⟨[.ref l], []⟩) R s := by
  obtain ⟨X, T⟩ := G
  obtain ⟨Ah, Ad, Af, Ag, Au⟩ := A
  obtain rfl : Ah = none := r.hd
  refine' enter (binds := [(Str.ofString "numbers", .ref l)]) X T.nolimit ?hr ?k6 ?k7 ?k9 ?kB ?_ ?c5 ?c6 ?c7 ?c8
  case hr => exact Nat.lt_of_le_of_lt (Nat.le_add_right _ _) r.dp
  case k6 => k_dflt k_is
  case k7 => k_dflt k_is
  case k9 => exact BindsTo.of_eq rfl
  case kB => exact locs rfl
  case c5 => decide
  case c6 => rfl
  case c7 => rfl
  case c8 => rfl
  intro L h₁ F N
  w_top on
  walk_at "mw"
  rename_i a' _ _ _ F1 N1
  dsimp only
  refine sl_upto (by assumption) (by assumption) (hl.at fun o e => (show Fr _ _ _ _ by assumption).keep _ o e) hi (by decide) (by omega) ?_
  intro D1 ws1 h2 F2 N2 I2 l1
  subst hns
  obtain ⟨t1, t2, t3, t4, rfl⟩ := ints4 I2
  walk_at "mw"
  refine' for_list (vs := [Value.int a t1, Value.int b t2, Value.int c t3, Value.int d t4]) (news := [(a', W.listOf #[] 0)]) (kept := []) ?a1 ?a2 ?a3 ?a4 ?a5 ?a6 ?a7
    (fun i m nx kp => kp = [] ∧ ∃ its n, nx = [(a', W.listOf (List.toArray its) n)] ∧ IntsAre its ((plcF a b c d).take i) ∧ m (Str.ofString "places") = some (.ref a')) ?a8 ?_ ?_ ?a9
  case a1 => rfl
  case a2 => exact News.isList N2 (by k_mem)
  case a3 => exact F2
  case a4 => exact fun p hp => N2 p (by rw [List.mem_singleton.mp hp]; k_mem)
  case a5 => exact Or.inr (show D1 ∉ [a'] by rw [List.mem_singleton]; exact (Nat.ne_of_lt (l1 _ (.head _))).symm)
  case a6 => exact (N2 _ (.head _)).2.1
  case a7 => simp
  case a8 => exact ⟨rfl, [], 0, rfl, .nil, rfl⟩
  case a9 => intro _; rfl
  · rintro i v m₁ nx kp own h tk hv ⟨rfl, its, n, rfl, hI, hm⟩ hnx hoff F' N'
    clear F2
    replace F' := fr_see F' hm
    dsimp only [List.nil_append, List.cons_append] at N' hoff
    refine wpAny_assign_Name ?_
    rcases i with _ | _ | _ | _ | i
    · cases hv
      cases hI
      walk_at "mw"
      refine ne_ints_no (ns := []) (ms := []) (News.isList (by assumption) (.tail _ (.head _))) (News.isList (by assumption) (.head _)) (by repeat constructor) .nil (by walk_at "room") (by simp) ?_
      walk_at "mw"
      rename News _ _ _ _ => N9
      refine app_led (by assumption) (fun p hp => N9 p (.tail _ hp)) hoff (.head _) (Nat.le_of_ble_eq_true rfl) ?_
      intro h5 F5 N5
      walk_at "mw"
      exact TurnEnd.next (nx := [_]) (kept := []) F5 N5 in_head in_nil in_tail rfl kept_nil ⟨rfl, [_], _, rfl, (by repeat constructor), rfl⟩
    · cases hv
      obtain ⟨u1, rfl⟩ := ints1 hI
      walk_at "mw"
      refine ne_ints_yes (ns := [_]) (ms := []) (News.isList (by assumption) (.tail _ (.head _))) (News.isList (by assumption) (.head _)) (by repeat constructor) .nil (by walk_at "room") (by simp) ?_
      walk_at "mw"
      rename News _ _ _ _ => N9
      refine app_led (by assumption) (fun p hp => N9 p (.tail _ hp)) hoff (.head _) (Nat.le_of_ble_eq_true rfl) ?_
      intro h5 F5 N5
      walk_at "mw"
      exact TurnEnd.next (nx := [_]) (kept := []) F5 N5 in_head in_nil in_tail rfl kept_nil ⟨rfl, [_, _], _, rfl, (by repeat constructor), rfl⟩
    · cases hv
      obtain ⟨u1, u2, rfl⟩ := ints2 hI
      walk_at "mw"
      refine ne_ints_yes (ns := [_, _]) (ms := []) (News.isList (by assumption) (.tail _ (.head _))) (News.isList (by assumption) (.head _)) (by repeat constructor) .nil (by walk_at "room") (by simp) ?_
      walk_at "mw"
      rename News _ _ _ _ => N9
      refine app_led (by assumption) (fun p hp => N9 p (.tail _ hp)) hoff (.head _) (Nat.le_of_ble_eq_true rfl) ?_
      intro h5 F5 N5
      walk_at "mw"
      exact TurnEnd.next (nx := [_]) (kept := []) F5 N5 in_head in_nil in_tail rfl kept_nil ⟨rfl, [_, _, _], _, rfl, (by repeat constructor), rfl⟩
    · cases hv
      obtain ⟨u1, u2, u3, rfl⟩ := ints3 hI
      walk_at "mw"
      refine ne_ints_yes (ns := [_, _, _]) (ms := []) (News.isList (by assumption) (.tail _ (.head _))) (News.isList (by assumption) (.head _)) (by repeat constructor) .nil (by walk_at "room") (by simp) ?_
      walk_at "mw"
      rename News _ _ _ _ => N9
      refine app_led (by assumption) (fun p hp => N9 p (.tail _ hp)) hoff (.head _) (Nat.le_of_ble_eq_true rfl) ?_
      intro h5 F5 N5
      walk_at "mw"
      exact TurnEnd.next (nx := [_]) (kept := []) F5 N5 in_head in_nil in_tail rfl kept_nil ⟨rfl, [_, _, _, _], _, rfl, (by repeat constructor), rfl⟩
    · simp at hv
  · rintro m₁ nx kp h tk ⟨rfl, its, n, rfl, hI, hm⟩ hnx hoff F' N'
    clear F2
    replace F' := fr_see F' hm
    walk_at "mw"
    refine hR _ _ _ _ _ F'.keep (N' _ (.head _)).2.2 (N' _ (.head _)).1 ?_
    exact hI

end

local macro_rules | `(tactic| walk_at "mstopl") => `(tactic| first | walk_at "mstop" | (with_reducible show wpAny _ _ (newList _) _ _ _))
local macro_rules | `(tactic| walk_at "mwl") => `(tactic| ((try dsimp only); (try k_fold); repeat' ((fail_if_success walk_at "mstopl"); first | (k_unmd; k_unfold; (try dsimp only)) | walk1 | (dsimp only; walk1))))
local macro_rules | `(tactic| walk_at "compU") => `(tactic| (k_dflt (refine LCg.ListComp_U (F₀ := by k_asm) (by with_unfolding_all rfl) (by decide) (by rfl) (by decide) (by rfl) ?_)))
local macro_rules | `(tactic| walk_at "compT") => `(tactic| (k_dflt (refine LCt.ListComp_T (F₀ := by k_asm) (by with_unfolding_all rfl) (by decide) (by rfl) (by decide) (by rfl) ?_)))
local macro_rules | `(tactic| walk_at "acompU") => `(tactic| (k_dflt (refine LCg.Assign_ListComp_U (F₀ := by k_asm) (by rfl) (by with_unfolding_all rfl) (by with_unfolding_all rfl) (by decide) (by rfl) (by decide) (by rfl) (by rfl) (by rfl) ?_)))
local macro_rules | `(tactic| walk_at "acompT") => `(tactic| (k_dflt (refine LCt.Assign_ListComp_T (F₀ := by k_asm) (by rfl) (by with_unfolding_all rfl) (by with_unfolding_all rfl) (by decide) (by rfl) (by decide) (by rfl) (by rfl) (by rfl) ?_)))

section
open PySem PySem.W PySem.Calls PyProof.Rows
local macro_rules | `(tactic| walk_at "mstop") => `(tactic| first | (with_reducible show wpAny _ _ (subscriptTail (PySem.Expr.Name _ _) (PySem.Expr.Slice _ _ _ _) (Value.ref _) (Value.ref _)) _ _ _) | (with_reducible show wpAny _ _ (call (Value.ref _) _) _ _ _) | (with_reducible show wpAny _ _ (compareOp _ (Value.ref _) (Value.ref _)) _ _ _) | (with_reducible show wpAny _ _ (binaryOp Operator.Add (Value.ref _) (Value.ref _)) _ _ _) | (with_reducible show wpAny _ _ (exec (PySem.Stmt.Assign [_] (PySem.Expr.ListComp _ _ _ _) _) _) _ _ _) | (with_reducible show wpAny _ _ (eval (PySem.Expr.ListComp _ _ _ _) _) _ _ _) | (with_reducible show LCg.CompSrc _ _ _ _ _ _ _ _ _ _ _ _ _ _) | (with_reducible show LCt.CompSrcT _ _ _ _ _ _ _ _ _ _ _ _ _ _ _))
variable {w : World} {mean : ExcName → Option Value} {mg mb : Str → Option Value}
noncomputable def mskF (ps : List Int) : List Int := ps.foldl (fun acc p => acc ++ acc.map (fun x => x + 2 ^ p.toNat)) [0]

theorem mskF_snoc (ps : List Int) (p : Int) : mskF (ps ++ [p]) = mskF ps ++ (mskF ps).map (fun x => x + 2 ^ p.toNat) := by
  unfold mskF
  rw [List.foldl_append]
  rfl
theorem mskF_len (ps : List Int) : (mskF ps).length = 2 ^ ps.length := by
  have key : ∀ (ps acc : List Int), (ps.foldl (fun acc p => acc ++ acc.map (fun x => x + 2 ^ p.toNat)) acc).length = acc.length * 2 ^ ps.length := by
    intro ps
    induction ps with
    | nil => intro acc; simp
    | cons p r ih =>
      intro acc
      rw [List.foldl_cons, ih, List.length_append, List.length_map, List.length_cons, Nat.pow_succ, ← Nat.two_mul, Nat.mul_comm 2, Nat.mul_assoc, Nat.mul_comm 2]
  rw [mskF, key]
  simp
theorem mskF_length (ps : List Int) (h : ps.length ≤ 4) : (mskF ps).length ≤ 16 := by
  rw [mskF_len]
  have : ps.length = 0 ∨ ps.length = 1 ∨ ps.length = 2 ∨ ps.length = 3 ∨ ps.length = 4 := by omega
  rcases this with e | e | e | e | e <;> rw [e] <;> decide

set_option maxHeartbeats 4000000 in
theorem msk_spec {A : Around} {s : Shared} {R : Result → Shared → Prop} {l : Addr} {vs : List Value} {ns : List Int} (G : Gd w mean mg mb s.heap) (r : Rm A 3 100)
   (hl : s.heap.IsList l vs.toArray) (hi : IntsAre vs ns) (hn : ns.length ≤ 4) (hb : ∀ p ∈ ns, 0 ≤ p ∧ p < 16)
   (hR : ∀ a' h' tk its n, s.heap.StaysIn h' → s.heap.get? a' = none → h'.get? a' = some (W.listOf its n) → IntsAre its.toList (mskF ns) → R (.ok (.ret (.ref a'))) { s with heap := h', toks := tk })
   : codeAny (model PySem.Challenge.rw_rw0095_01.row.prog w) A (.call (.ref 209) ⟨[.ref l], []⟩) R s := by
  obtain ⟨X, T⟩ := G
  obtain ⟨Ah, Ad, Af, Ag, Au⟩ := A
  obtain rfl : Ah = none := r.hd
  refine' enterC (binds := [(Str.ofString "places", .ref l)]) X T.nolimit ?hr ?k6 ?k7 ?k9 ?kB ?kn ?_ ?c6 ?c7 ?c8
  case hr => exact Nat.lt_of_le_of_lt (Nat.le_add_right _ _) r.dp
  case k6 => k_dflt k_is
  case k7 => k_dflt k_is
  case k9 => exact BindsTo.of_eq rfl
  case kB => rfl
  case kn => decide
  case c6 => rfl
  case c7 => rfl
  case c8 => rfl
  intro L h₁ tk₁ cells F N CL
  w_top on
  obtain ⟨oc, rfl, d1⟩ := CellsAre.one CL
  replace d1 : oc.data = .cell none := d1
  walk_at "mw"
  rename_i a' _ l1 _ F1 N1
  try dsimp only
  refine' for_list (vs := vs) (news := [(L + 1, oc)]) (kept := [(a', _)]) ?a1 ?a2 ?a3 ?a4 ?a5 ?a6 ?a7
    (fun i m nx kp => (∃ oc x, nx = [(L + 1, oc)] ∧ oc.data = .cell x) ∧ ∃ D its n, kp = [(D, W.listOf (List.toArray its) n)] ∧ IntsAre its (mskF (ns.take i)) ∧ m (Str.ofString "masks") = some (.ref D)) ?a8 ?_ ?_ ?a9
  case a1 => rfl
  case a2 => exact (hl.at fun o e => F1.keep _ o e)
  case a3 => exact F1
  case a4 => exact fun p hp => N1 p (by simp only [List.cons_append, List.nil_append, List.mem_cons, List.not_mem_nil, or_false] at hp ⊢; exact hp.symm)
  case a5 => exact (Or.inl (let ⟨o, ho, _⟩ := hl; ⟨o, ho⟩))
  case a6 => obtain ⟨o, ho, _⟩ := hl; exact Nat.ne_of_lt (Nat.lt_of_lt_of_le (Heap.lt_size ho) F1.above)
  case a7 => exact kept_one (not_mem_one (Nat.ne_of_lt l1).symm)
  case a8 => exact ⟨⟨_, _, rfl, d1⟩, _, _, _, rfl, .cons _ _ .nil, rfl⟩
  case a9 => intro _; rfl
  · rintro i v m₁ nx kp own h tk hv ⟨⟨oc, x, rfl, hoc⟩, D, its, n, rfl, hI, hm⟩ hnx hoff F' N'
    clear F1
    replace F' := fr_see F' hm
    obtain ⟨t, hlt, rfl⟩ := ints_at hi hv
    dsimp only [List.nil_append, List.cons_append] at N' hoff
    refine wpAny_assign_Name ?_
    walk_at "mw"
    walk_at "compU"
    walk_at "mw"
    rename_i hh9 oc' F9 N9 d9
    have hpb := hb _ (List.getElem_mem hlt : ns[i] ∈ ns)
    have hpe : ns.getD i 0 = ns[i] := by simp [List.getD, hlt]
    rw [← hpe] at hpb
    generalize hpl : ns.getD i 0 = pl at *
    refine LCg.CompSrc.ledger (by rfl) F9 N9 (.tail _ (.head _)) (by have := mskF_length (ns.take i) (by rw [List.length_take]; omega); have := hI.length; rw [sizeLine_eq, List.size_toArray]; omega) ?_
    intro g'
    refine kcf_list (fun x => x + 2 ^ pl.toNat) hI ?_ ?_
    · intro k t' I oI C oC D' m₂ ys h' tk' E' hk hC hx F' N' off' ne' _
      walk_at "mw"
    · intro ys hy
      walk_at "mw"
      rename_i D9 h9 tk9 F9 N9 o9
      have hlen : (mskF (ns.take i)).length ≤ 16 := mskF_length _ (by rw [List.length_take]; omega)
      refine kmk_add_ints F9 N9 (News.isList N9 (.tail _ (.tail _ (.head _)))) (News.isList N9 (.head _)) hI hy ?_ (by rw [sizeLine_eq, List.length_map]; omega)
      intro D' ws' h' F' N' l1 hI'
      walk_at "mw"
      rename Fr _ _ _ _ => F5
      rename News _ _ _ _ => N5
      exact TurnEnd.next (nx := [(L + 1, oc')]) (kept := [(D', _)]) F5 N5 (fun p hp => .tail _ (.tail _ (by rw [List.mem_singleton.mp hp]; exact .head _))) (fun p hp => by rw [List.mem_singleton.mp hp]; exact .head _) (fun p hp => .tail _ (.tail _ (.tail _ (.tail _ hp)))) rfl (kept_one (not_mem_one (Nat.ne_of_lt (l1 _ (.tail _ (.head _)))).symm)) ⟨⟨_, _, rfl, d9⟩, _, _, _, rfl, by rw [take_snoc 0 hlt, hpl, mskF_snoc]; exact hI', rfl⟩
  · rintro m₁ nx kp h tk ⟨⟨oc, x, rfl, hoc⟩, D, its, n, rfl, hI, hm⟩ hnx hoff F' N'
    clear F1
    replace F' := fr_see F' hm
    walk_at "mw"
    refine hR _ _ _ _ _ F'.keep (N' _ (.tail _ (.head _))).2.2 (N' _ (.tail _ (.head _))).1 ?_
    rw [hi.length, List.take_length] at hI
    exact hI

end

section
open PySem PySem.W PySem.Calls PyProof.Rows
noncomputable def flagNames : List Str := [Str.ofString "OPTIMIZED", Str.ofString "NEWLOCALS", Str.ofString "VARARGS", Str.ofString "VARKEYWORDS", Str.ofString "NESTED", Str.ofString "GENERATOR", Str.ofString "NOFREE", Str.ofString "COROUTINE", Str.ofString "ITERABLE_COROUTINE", Str.ofString "ASYNC_GENERATOR",
  Str.ofString "0x400", Str.ofString "0x800", Str.ofString "0x1000", Str.ofString "0x2000", Str.ofString "0x4000", Str.ofString "0x8000"]
noncomputable def flagName (i : Nat) : Str := flagNames.getD i Str.empty
noncomputable def namesTo (k i : Nat) : List Str := ((List.range i).filter fun j => k.testBit j).map flagName
theorem namesTo_succ (k i : Nat) : namesTo k (i + 1) = namesTo k i ++ if k.testBit i then [flagName i] else [] := by
  unfold namesTo
  rw [List.range_succ, List.filter_append, List.map_append]
  congr 1
  by_cases h : k.testBit i = true
  · rw [if_pos h]; simp [h]
  · rw [if_neg h]; simp [h]
theorem pr_and (k i : Nat) : Builtin.bitAnd ((k / 2 ^ i * 2 ^ i : Nat) : Int) (1 * 2 ^ (i : Int).toNat) = if k.testBit i then 2 ^ i else 0 := by
  have e : (1 * 2 ^ (i : Int).toNat : Int) = ((2 ^ i : Nat) : Int) := by simp
  rw [e]
  unfold Builtin.bitAnd
  rw [decide_eq_true (show (0 : Int) ≤ ((k / 2 ^ i * 2 ^ i : Nat) : Int) by omega), decide_eq_true (show (0 : Int) ≤ ((2 ^ i : Nat) : Int) from Int.natCast_nonneg _)]
  have hn : (k / 2 ^ i * 2 ^ i) &&& 2 ^ i = if k.testBit i then 2 ^ i else 0 := by
    apply Nat.eq_of_testBit_eq
    intro j
    rw [Nat.testBit_and, Nat.testBit_mul_two_pow, Nat.testBit_two_pow]
    by_cases hj : i = j
    · subst hj
      rw [decide_eq_true rfl, Bool.and_true, decide_eq_true (Nat.le_refl i), Bool.true_and, Nat.testBit_div_two_pow, Nat.sub_self, Nat.zero_add]
      by_cases h : k.testBit i = true
      · rw [if_pos h, h, Nat.testBit_two_pow]; simp
      · rw [if_neg h]; simpa using h
    · rw [decide_eq_false hj, Bool.and_false]
      by_cases h : k.testBit i = true
      · rw [if_pos h, Nat.testBit_two_pow]; simpa using hj
      · rw [if_neg h]; simp
  show (((((k / 2 ^ i * 2 ^ i : Nat) : Int).toNat &&& ((2 ^ i : Nat) : Int).toNat : Nat)) : Int) = _
  rw [Int.toNat_natCast, Int.toNat_natCast, hn]
  split <;> simp
theorem pr_next {k i : Nat} (h : k.testBit i = true) : Builtin.bitXor ((k / 2 ^ i * 2 ^ i : Nat) : Int) (1 * 2 ^ (i : Int).toNat) = ((k / 2 ^ (i + 1) * 2 ^ (i + 1) : Nat) : Int) := by
  rw [bitXor_and, pr_and, if_pos h]
  have e : (1 * 2 ^ (i : Int).toNat : Int) = ((2 ^ i : Nat) : Int) := by simp
  rw [e]
  rw [Nat.testBit_eq_decide_div_mod_eq] at h
  have h1 := of_decide_eq_true h
  have h2 : k / 2 ^ (i + 1) = k / 2 ^ i / 2 := by rw [Nat.pow_succ, Nat.div_div_eq_div_mul]
  rw [h2, Nat.pow_succ]
  generalize k / 2 ^ i = q at *
  have h3 : q = q / 2 * 2 + 1 := by omega
  generalize hp : 2 ^ i = p
  have hp' : (2 : Int) ^ i = (p : Int) := by rw [← hp]; simp
  rw [hp']
  have h4 : q * p = q / 2 * (p * 2) + p := by
    rw [h3, Nat.add_mul, Nat.one_mul]
    have : (q / 2 * 2 + 1) / 2 = q / 2 := by omega
    rw [this, Nat.mul_assoc, Nat.mul_comm 2]
  rw [h4]
  omega
theorem pr_same {k i : Nat} (h : k.testBit i = false) : k / 2 ^ (i + 1) * 2 ^ (i + 1) = k / 2 ^ i * 2 ^ i := by
  rw [Nat.testBit_eq_decide_div_mod_eq] at h
  have h1 := of_decide_eq_false h
  have h2 : k / 2 ^ (i + 1) = k / 2 ^ i / 2 := by rw [Nat.pow_succ, Nat.div_div_eq_div_mul]
  rw [h2, Nat.pow_succ]
  generalize k / 2 ^ i = q at *
  have h3 : q = q / 2 * 2 := by omega
  rw [Nat.mul_comm (2 ^ i), ← Nat.mul_assoc, ← h3]
theorem pr_bit {k i : Nat} (hk : k < 65536) (h : Builtin.bitAnd ((k / 2 ^ i * 2 ^ i : Nat) : Int) (1 * 2 ^ (i : Int).toNat) ≠ 0) : i < 16 ∧ k.testBit i = true := by
  rw [pr_and] at h
  have hb : k.testBit i = true := by
    cases q : k.testBit i with
    | true => rfl
    | false => rw [q] at h; simp at h
  refine ⟨?_, hb⟩
  by_cases h16 : i < 16
  · exact h16
  · have := Nat.testBit_lt_two_pow (x := k) (i := i) (Nat.lt_of_lt_of_le hk (Nat.pow_le_pow_right (n := 2) (by decide) (show 16 ≤ i by omega)))
    rw [hb] at this; cases this
theorem pr_nobit {k i : Nat} (h : Builtin.bitAnd ((k / 2 ^ i * 2 ^ i : Nat) : Int) (1 * 2 ^ (i : Int).toNat) = 0) : k.testBit i = false := by
  rw [pr_and] at h
  cases q : k.testBit i with
  | false => rfl
  | true =>
    rw [q, if_pos rfl] at h
    have : (0 : Int) < 2 ^ i := Int.pow_pos (by decide)
    omega
theorem pr_hex {i : Nat} (h : i < 16) : (baseText "0x" 16 (1 * 2 ^ (i : Int).toNat)).length ≤ sizeLine := by
  have key : ∀ j : Nat, j < 16 → (baseText "0x" 16 (1 * 2 ^ (j : Int).toNat)).length ≤ 8 := by decide +kernel
  exact Nat.le_trans (key i h) (by rw [sizeLine_eq]; decide)
noncomputable def compTab : List (Int × PyData) :=
  [(1, PyData.str { cps := #[79, 80, 84, 73, 77, 73, 90, 69, 68] }), (2, PyData.str { cps := #[78, 69, 87, 76, 79, 67, 65, 76, 83] }), (4, PyData.str { cps := #[86, 65, 82, 65, 82, 71, 83] }), (8, PyData.str { cps := #[86, 65, 82, 75, 69, 89, 87, 79, 82, 68, 83] }), (16, PyData.str { cps := #[78, 69, 83, 84, 69, 68] }), (32, PyData.str { cps := #[71, 69, 78, 69, 82, 65, 84, 79, 82] }), (64, PyData.str { cps := #[78, 79, 70, 82, 69, 69] }), (128, PyData.str { cps := #[67, 79, 82, 79, 85, 84, 73, 78, 69] }), (256, PyData.str { cps := #[73, 84, 69, 82, 65, 66, 76, 69, 95, 67, 79, 82, 79, 85, 84, 73, 78, 69] }), (512, PyData.str { cps := #[65, 83, 89, 78, 67, 95, 71, 69, 78, 69, 82, 65, 84, 79, 82] })]
theorem pr_flat {i : Nat} (h : i < 16) {v : Value} (hv : PyProof.V.Flat v ((Spec.lookup (.int (1 * 2 ^ (i : Int).toNat)) (compTab.map fun p => (PyData.int p.1, p.2))).getD (.str (baseText "0x" 16 (1 * 2 ^ (i : Int).toNat))))) : ∃ t, v = .str (flagName i) t := by
  have key : ∀ j : Nat, j < 16 → (Spec.lookup (.int (1 * 2 ^ (j : Int).toNat)) (compTab.map fun p => (PyData.int p.1, p.2))).getD (.str (baseText "0x" 16 (1 * 2 ^ (j : Int).toNat))) = .str (flagName j) := by
    intro j hj
    have : j = 0 ∨ j = 1 ∨ j = 2 ∨ j = 3 ∨ j = 4 ∨ j = 5 ∨ j = 6 ∨ j = 7 ∨ j = 8 ∨ j = 9 ∨ j = 10 ∨ j = 11 ∨ j = 12 ∨ j = 13 ∨ j = 14 ∨ j = 15 := by omega
    rcases this with rfl | rfl | rfl | rfl | rfl | rfl | rfl | rfl | rfl | rfl | rfl | rfl | rfl | rfl | rfl | rfl <;> kernel_rfl
  rw [key i h] at hv
  cases hv default with
  | str _ t => exact ⟨t, rfl⟩
theorem namesTo_length (k i : Nat) : (namesTo k i).length ≤ i := by
  unfold namesTo
  rw [List.length_map]
  exact Nat.le_trans (List.length_filter_le _ _) (by rw [List.length_range]; exact Nat.le_refl _)
theorem namesTo_all {k i j : Nat} (h : k / 2 ^ i = 0) (hij : i ≤ j) : namesTo k j = namesTo k i := by
  induction j with
  | zero => rw [Nat.le_zero.mp hij]
  | succ j ih =>
    by_cases e : i = j + 1
    · rw [e]
    · rw [namesTo_succ, ih (by omega)]
      have : k.testBit j = false := Nat.testBit_lt_two_pow (Nat.lt_of_lt_of_le (Nat.lt_of_not_le fun q => by
        have := Nat.div_pos q (Nat.pow_pos (n := i) (by decide : 0 < 2))
        omega) (Nat.pow_le_pow_right (by decide) (show i ≤ j by omega)))
      rw [this]; simp
theorem pr_zero {k i : Nat} (h : k.testBit i = false) (q : k / 2 ^ (i + 1) = 0) : k / 2 ^ i = 0 := by
  rw [Nat.testBit_eq_decide_div_mod_eq] at h
  have h1 := of_decide_eq_false h
  have h2 : k / 2 ^ (i + 1) = k / 2 ^ i / 2 := by rw [Nat.pow_succ, Nat.div_div_eq_div_mul]
  omega
theorem strs_snoc {vs : List Value} {ns : List Str} (h : StrsAre vs ns) (n : Str) (t : Tok) : StrsAre (vs ++ [.str n t]) (ns ++ [n]) := by
  induction h with
  | nil => exact .cons _ _ .nil
  | cons x y _ ih => exact .cons _ _ ih
theorem ints_snoc {vs : List Value} {ns : List Int} (h : IntsAre vs ns) (n : Int) (t : Tok) : IntsAre (vs ++ [.int n t]) (ns ++ [n]) := by
  induction h with
  | nil => exact .cons _ _ .nil
  | cons x y _ ih => exact .cons _ _ ih
theorem flagName_len (j : Nat) : (flagName j).length ≤ 18 := by
  by_cases h : j < 16
  · have key : ∀ j : Nat, j < 16 → (flagName j).length ≤ 18 := by decide +kernel
    exact key j h
  · have e : flagNames[j]? = none := List.getElem?_eq_none (show 16 ≤ j by omega)
    unfold flagName List.getD
    rw [e]
    decide
theorem sum_le {l : List Str} {B : Nat} (h : ∀ y ∈ l, y.length ≤ B) : (l.map (·.length)).sum ≤ l.length * B := by
  induction l with
  | nil => simp
  | cons a r ih =>
    have h1 := ih fun y hy => h y (List.mem_cons_of_mem _ hy)
    have h2 := h a List.mem_cons_self
    rw [List.map_cons, List.sum_cons, List.length_cons, Nat.succ_mul]
    omega
theorem namesTo_sum (k i : Nat) (hi : i ≤ 32) : ((namesTo k i).map (·.length)).sum + (namesTo k i).length ≤ 1048576 := by
  have h1 := sum_le (l := namesTo k i) (B := 18) (by
    intro y hy
    unfold namesTo at hy
    obtain ⟨j, _, rfl⟩ := List.mem_map.mp hy
    exact flagName_len j)
  have h2 := namesTo_length k i
  have h3 : (namesTo k i).length * 18 ≤ 32 * 18 := Nat.mul_le_mul_right _ (Nat.le_trans h2 hi)
  omega
/-- the words of a number of flags -/
noncomputable def wordsOf (l : List Str) : Str := if l = [] then Str.ofString "0x0" else Txt.join (Str.ofString ", ") l
theorem namesTo_ne {k i : Nat} (h : k.testBit i = true) : namesTo k (i + 1) ≠ [] := by
  rw [namesTo_succ, if_pos h]
  simp
end

section
open PySem PySem.W PySem.Calls PyProof.Rows
local macro_rules | `(tactic| walk_at "mstop") => `(tactic| first | (with_reducible show wpAny _ _ (subscriptTail (PySem.Expr.Name _ _) (PySem.Expr.Slice _ _ _ _) (Value.ref _) (Value.ref _)) _ _ _) | (with_reducible show wpAny _ _ (call (Value.ref _) _) _ _ _) | (with_reducible show wpAny _ _ (compareOp _ (Value.ref _) (Value.ref _)) _ _ _) | (with_reducible show wpAny _ _ (binaryOp Operator.Add (Value.ref _) (Value.ref _)) _ _ _) | (with_reducible show LCg.CompSrc _ _ _ _ _ _ _ _ _ _ _ _ _ _))
variable {w : World} {mean : ExcName → Option Value} {mg mb : Str → Option Value}
set_option maxHeartbeats 4000000 in
theorem pretty_spec {A : Around} {s : Shared} {R : Result → Shared → Prop} {k : Nat} {t : Tok} (G : Gd w mean mg mb s.heap) (r : Rm A 3 100)
   (hk : k < 65536)
   (hR : ∀ h' tk t, s.heap.StaysIn h' → R (.ok (.ret (.str (wordsOf (namesTo k 16)) t))) { s with heap := h', toks := tk })
   : codeAny (model PySem.Challenge.rw_rw0095_01.row.prog w) A (.call (.ref 190) ⟨[.int k t], []⟩) R s := by
  obtain ⟨X, T⟩ := G
  obtain ⟨Ah, Ad, Af, Ag, Au⟩ := A
  obtain rfl : Ah = none := r.hd
  refine' enter (binds := [(Str.ofString "flags", .int k t)]) X T.nolimit ?hr ?k6 ?k7 ?k9 ?kB ?_ ?c5 ?c6 ?c7 ?c8
  case hr => exact Nat.lt_of_le_of_lt (Nat.le_add_right _ _) r.dp
  case k6 => k_dflt k_is
  case k7 => k_dflt k_is
  case k9 => exact BindsTo.of_eq rfl
  case kB => exact locs rfl
  case c5 => decide
  case c6 => rfl
  case c7 => rfl
  case c8 => rfl
  intro L h₁ F N
  w_top on
  walk_at "mwl"
  refine newList_K (by assumption) (by assumption) ?_
  intro a' h2 F2 N2 l2
  walk_at "mw"
  rename_i hrg F1 N1 _
  refine' for_range (n := 32) (news := [(a', W.listOf #[] 0)]) (kept := []) ?a1 ?a2 ?a3 ?a4 ?a5 ?a6
    (fun i m nx kp => kp = [] ∧ (∃ its n, nx = [(a', W.listOf (List.toArray its) n)] ∧ StrsAre its (namesTo k i)) ∧ m (Str.ofString "names") = some (.ref a') ∧ ∃ t, m (Str.ofString "flags") = some (.int ((k / 2 ^ i * 2 ^ i : Nat) : Int) t) ∧ (k = 0 ∨ k / 2 ^ i ≠ 0)) ?a8 ?_ ?_ ?a9
  case a1 => rfl
  case a2 => assumption
  case a3 => decide
  case a4 => assumption
  case a5 => assumption
  case a6 => exact fun p hp => nomatch hp
  case a8 => exact ⟨rfl, ⟨[], _, rfl, .nil⟩, rfl, t, (by show some (Value.int (k : Int) t) = _; rw [Nat.pow_zero, Nat.div_one, Nat.mul_one]), (by rw [Nat.pow_zero, Nat.div_one]; omega)⟩
  case a9 => intro _; rfl
  · rintro i ti m₁ nx kp own h tk hi ⟨rfl, ⟨its, n, rfl, hI⟩, hm1, tf, hm2, hd⟩ hnx hoff F' N'
    clear F1
    replace F' := fr_see2 F' hm1 hm2
    dsimp only [List.nil_append, List.cons_append] at N' hoff
    refine wpAny_assign_Name ?_
    walk_at "mw"
    · rename Builtin.bitAnd _ _ ≠ 0 => hb
      obtain ⟨hb1, hb2⟩ : i < 16 ∧ k.testBit i = true := pr_bit hk hb
      refine P.hex_of_int ?_ (pr_hex hb1)
      walk_at "mw"
      rename KTD.Keyed _ _ _ => kyX
      rename Fr _ _ _ _ => F3
      refine call_get2_intTab ((kyX.keep F3.keep) _ _) (.str _ _) (fun v hv => ?_)
      obtain ⟨tv, rfl⟩ := pr_flat hb1 hv
      walk_at "mw"
      rename News _ _ _ _ => N4
      refine app_led (by assumption) N4 hoff (.head _) (by have := hI.length; have := namesTo_length k i; rw [sizeLine_eq, List.size_toArray]; omega) ?_
      intro h5 F5 N5
      rw [List.push_toArray] at N5
      have hI' : StrsAre (its ++ [.str (flagName i) tv]) (namesTo k (i + 1)) := by rw [namesTo_succ, if_pos hb2]; exact strs_snoc hI _ _
      walk_at "mw"
      · rename Builtin.bitXor _ _ ≠ 0 => hx
        rw [pr_next hb2] at hx
        exact TurnEnd.next (nx := [(a', W.listOf (List.toArray (its ++ [_])) _)]) (kept := []) (by assumption) (by assumption) in_head in_nil in_tail rfl kept_nil ⟨rfl, ⟨_, _, rfl, hI'⟩, rfl, ⟨_, by rw [← pr_next hb2]; rfl, Or.inr fun q => hx (by rw [q, Nat.zero_mul]; rfl)⟩⟩
      · rename Builtin.bitXor _ _ = 0 => hx
        rw [pr_next hb2] at hx
        show wpAny _ _ _ _ _ _
        walk_at "mw"
        rename Fr _ _ _ _ => F6
        rename News _ _ _ _ => N6
        refine join_listW (News.isList N6 (.head _)) hI' (by decide) (namesTo_sum _ _ (by omega)) ?_
        intro t' k'
        walk_at "mw"
        have h0 : k / 2 ^ (i + 1) = 0 := by
          rcases Nat.mul_eq_zero.mp (Int.ofNat_eq_zero.mp hx) with q | q
          · exact q
          · exact absurd q (Nat.pos_iff_ne_zero.mp (Nat.pow_pos (by decide)))
        have e : Txt.join (Str.ofString ", ") (namesTo k (i + 1)) = wordsOf (namesTo k 16) := by
          rw [namesTo_all h0 (show i + 1 ≤ 16 by omega), wordsOf, if_neg (namesTo_ne hb2)]
        rw [e]
        exact hR _ _ _ F6.keep
    · rename Builtin.bitAnd _ _ = 0 => hb
      have hb2 := pr_nobit hb
      exact TurnEnd.next (nx := [(a', W.listOf (List.toArray its) n)]) (kept := []) (by assumption) (by assumption) in_head in_nil in_tail rfl kept_nil ⟨rfl, ⟨_, _, rfl, by rw [namesTo_succ, if_neg (by rw [hb2]; decide), List.append_nil]; exact hI⟩, rfl, ⟨_, by rw [pr_same hb2]; rfl, hd.imp id fun h1 q => h1 (pr_zero hb2 q)⟩⟩
  · rintro m₁ nx kp h tk ⟨rfl, ⟨its, n, rfl, hI⟩, hm1, tf, hm2, hd⟩ hnx hoff F' N'
    clear F1
    replace F' := fr_see2 F' hm1 hm2
    have hk0 : k = 0 := hd.resolve_right fun q => q (Nat.div_eq_of_lt (by omega))
    subst hk0
    obtain rfl : its = [] := by cases hI; rfl
    walk_at "mw"
    rename Fr _ _ _ _ => F6
    rename News _ _ _ _ => N6
    refine join_listW (ys := [Str.ofString "0x0"]) (News.isList N6 (.head _)) (.cons _ _ .nil) (by decide) (by decide) ?_
    intro t' k'
    walk_at "mw"
    exact hR _ _ _ F6.keep

end

section
open PySem PySem.W PySem.Calls PyProof.Rows
theorem kqdPs_strs : ∀ ns : List Str, kqdPs (ns.map Dat.str) = ns.map PyData.str
  | [] => rfl
  | n :: r => by rw [List.map_cons, kqdPs, kqdP, kqdPs_strs r, List.map_cons]
theorem carried_strs : ∀ {vs : List Value} {ns : List Str}, StrsAre vs ns → CarriedAll vs (ns.map PyData.str)
  | _, _, .nil => .nil
  | _, _, .cons n t h => .cons (.str n t) (carried_strs h)
theorem strs_shaped {ns : List Str} (h : ∀ x ∈ ns, PyData.strOk x = true) : SeqAt.shaped (.list (ns.map PyData.str)) = true := by
  have la := kqd_lay 1 (.list (ns.map Dat.str)) (by
    rw [kqdOk, List.all_eq_true]
    intro d hd
    obtain ⟨x, hx, rfl⟩ := List.mem_map.mp hd
    rw [kqdOk]; exact h x hx)
  rw [kqdP, kqdPs_strs] at la
  unfold SeqAt.shaped
  rw [la.1, Bool.true_and]
  exact decide_eq_true (Nat.le_trans la.2 (by decide))
theorem strs_eqv {ns ms : List Str} (h : ∀ x ∈ ns, PyData.strOk x = true) (h2 : ∀ x ∈ ms, PyData.strOk x = true) : PyData.eqv (.list (ns.map PyData.str)) (.list (ms.map PyData.str)) = decide (ns = ms) := by
  have ok : ∀ {ns : List Str}, (∀ x ∈ ns, PyData.strOk x = true) → kqdOk 1 (.list (ns.map Dat.str)) = true := by
    intro ns h
    rw [kqdOk, List.all_eq_true]
    intro d hd
    obtain ⟨x, hx, rfl⟩ := List.mem_map.mp hd
    rw [kqdOk]; exact h x hx
  have q := kqd_eqv 1 (.list (ns.map Dat.str)) (.list (ms.map Dat.str)) 1 (ok h) (ok h2)
  rw [kqdP, kqdP, kqdPs_strs, kqdPs_strs, Dat.list.injEq] at q
  have inj : ns.map Dat.str = ms.map Dat.str ↔ ns = ms := by
    constructor
    · exact List.map_inj_right (fun _ _ e => by injection e) |>.mp
    · rintro rfl; rfl
  by_cases hq : ns = ms
  · rw [decide_eq_true hq]; exact q.mpr (inj.mpr hq)
  · rw [decide_eq_false hq]; exact Bool.eq_false_iff.mpr fun x => hq (inj.mp (q.mp x))
section
variable {prog : Program} {w : World} {A : Around} {E : Value → Shared → Prop} {s : Shared} {a b : Addr} {xs ys : List Value} {ns ms : List Str} {Q : Value → Shared → Prop}
theorem ne_strs (ha : s.heap.IsList a xs.toArray) (hb : s.heap.IsList b ys.toArray) (hi : StrsAre xs ns) (hj : StrsAre ys ms) (h1 : ∀ x ∈ ns, PyData.strOk x = true) (h2 : ∀ x ∈ ms, PyData.strOk x = true) (hu : A.units + 64 < cLine) (h : Q (.bool (!decide (ns = ms))) s) :
    wpAny (model prog w) A (compareOp .NotEq (.ref a) (.ref b)) Q E s :=
  ne_dataH (reads_newData ha (carried_strs hi)) (reads_newData hb (carried_strs hj)) (strs_shaped h1) (strs_shaped h2) hu (by rw [strs_eqv h1 h2]; exact h)
theorem eq_strs (ha : s.heap.IsList a xs.toArray) (hb : s.heap.IsList b ys.toArray) (hi : StrsAre xs ns) (hj : StrsAre ys ms) (h1 : ∀ x ∈ ns, PyData.strOk x = true) (h2 : ∀ x ∈ ms, PyData.strOk x = true) (hu : A.units + 64 < cLine) (h : Q (.bool (decide (ns = ms))) s) :
    wpAny (model prog w) A (compareOp .Eq (.ref a) (.ref b)) Q E s :=
  eq_dataH (reads_newData ha (carried_strs hi)) (reads_newData hb (carried_strs hj)) (strs_shaped h1) (strs_shaped h2) hu (by rw [strs_eqv h1 h2]; exact h)
end
theorem flagName_ok (j : Nat) : PyData.strOk (flagName j) = true := by
  by_cases h : j < 16
  · have key : ∀ j : Nat, j < 16 → PyData.strOk (flagName j) = true := by decide +kernel
    exact key j h
  · have e : flagNames[j]? = none := List.getElem?_eq_none (show 16 ≤ j by omega)
    unfold flagName List.getD
    rw [e]
    decide +kernel
end

section
open PySem PySem.W PySem.Calls PyProof.Rows
local macro_rules | `(tactic| walk_at "mstop") => `(tactic| first | (with_reducible show wpAny _ _ (subscriptTail (PySem.Expr.Name _ _) (PySem.Expr.Slice _ _ _ _) (Value.ref _) (Value.ref _)) _ _ _) | (with_reducible show wpAny _ _ (call (Value.ref _) _) _ _ _) | (with_reducible show wpAny _ _ (compareOp _ (Value.ref _) (Value.ref _)) _ _ _) | (with_reducible show wpAny _ _ (binaryOp Operator.Add (Value.ref _) (Value.ref _)) _ _ _) | (with_reducible show wpAny _ _ (exec (PySem.Stmt.Assign [_] (PySem.Expr.ListComp _ _ _ _) _) _) _ _ _) | (with_reducible show wpAny _ _ (eval (PySem.Expr.ListComp _ _ _ _) _) _ _ _) | (with_reducible show LCg.CompSrc _ _ _ _ _ _ _ _ _ _ _ _ _ _) | (with_reducible show LCt.CompSrcT _ _ _ _ _ _ _ _ _ _ _ _ _ _ _))
variable {w : World} {mean : ExcName → Option Value} {mg mb : Str → Option Value}
noncomputable def wordsL (c : Nat) (ps : List Int) (i : Nat) : List Str := ((List.range i).filter fun k => c.testBit k).map fun k => flagName (ps.getD k 0).toNat
theorem wordsL_succ (c : Nat) (ps : List Int) (i : Nat) : wordsL c ps (i + 1) = wordsL c ps i ++ if c.testBit i then [flagName (ps.getD i 0).toNat] else [] := by
  unfold wordsL
  rw [List.range_succ, List.filter_append, List.map_append]
  congr 1
  by_cases h : c.testBit i = true
  · rw [if_pos h]; simp [h]
  · rw [if_neg h]; simp [h]

theorem w_bit {c i : Nat} (h : Builtin.bitAnd ((c : Int).fdiv (2 ^ (i : Int).toNat)) 1 = 1) : c.testBit i = true := by
  rw [bitAnd_m1] at h
  rw [Nat.testBit_eq_decide_div_mod_eq]
  apply decide_eq_true
  have e : (c : Int).fdiv (2 ^ (i : Int).toNat) = ((c / 2 ^ i : Nat) : Int) := by
    rw [Int.toNat_natCast, Int.fdiv_eq_ediv_of_nonneg _ (Int.le_of_lt (Int.pow_pos (by decide)))]
    simp
  rw [e] at h
  omega
theorem w_nobit {c i : Nat} (h : ¬ Builtin.bitAnd ((c : Int).fdiv (2 ^ (i : Int).toNat)) 1 = 1) : c.testBit i = false := by
  cases q : c.testBit i with
  | false => rfl
  | true =>
    rw [Nat.testBit_eq_decide_div_mod_eq] at q
    have q := of_decide_eq_true q
    exfalso
    apply h
    have e : (c : Int).fdiv (2 ^ (i : Int).toNat) = ((c / 2 ^ i : Nat) : Int) := by
      rw [Int.toNat_natCast, Int.fdiv_eq_ediv_of_nonneg _ (Int.le_of_lt (Int.pow_pos (by decide)))]
      simp
    rw [bitAnd_m1, e]
    omega
theorem wordsL_ok (c : Nat) (ps : List Int) (i : Nat) : ∀ x ∈ wordsL c ps i, PyData.strOk x = true := by
  intro x hx
  unfold wordsL at hx
  obtain ⟨k, _, rfl⟩ := List.mem_map.mp hx
  exact flagName_ok _

theorem wordsL_sum (c : Nat) (ps : List Int) : ((wordsL c ps 4).map (·.length)).sum + (wordsL c ps 4).length ≤ 1048576 := by
  have h1 := sum_le (l := wordsL c ps 4) (B := 18) (by
    intro y hy
    unfold wordsL at hy
    obtain ⟨j, _, rfl⟩ := List.mem_map.mp hy
    exact flagName_len _)
  have h2 : (wordsL c ps 4).length ≤ 4 := by
    unfold wordsL
    rw [List.length_map]
    exact Nat.le_trans (List.length_filter_le _ _) (by rw [List.length_range]; exact Nat.le_refl _)
  omega

set_option maxHeartbeats 4000000 in
theorem words_spec {A : Around} {s : Shared} {R : Result → Shared → Prop} {l : Addr} {vs : List Value} {ps : List Int} {c : Nat} {t : Tok} (G : Gd w mean mg mb s.heap) (r : Rm A 3 100)
   (hl : s.heap.IsList l vs.toArray) (hi : IntsAre vs ps) (hn : ps.length = 4) (hb : ∀ p ∈ ps, 0 ≤ p ∧ p < 16) (hc : c < 16)
   (hR : ∀ h' tk t, s.heap.StaysIn h' → R (.ok (.ret (.str (wordsOf (wordsL c ps 4)) t))) { s with heap := h', toks := tk })
   : codeAny (model PySem.Challenge.rw_rw0095_01.row.prog w) A (.call (.ref 221) ⟨[.int c t, .ref l], []⟩) R s := by
  obtain ⟨X, T⟩ := G
  obtain ⟨Ah, Ad, Af, Ag, Au⟩ := A
  obtain rfl : Ah = none := r.hd
  refine' enterC (binds := [(Str.ofString "choice", .int c t), (Str.ofString "places", .ref l)]) X T.nolimit ?hr ?k6 ?k7 ?k9 ?kB ?kn ?_ ?c6 ?c7 ?c8
  case hr => exact Nat.lt_of_le_of_lt (Nat.le_add_right _ _) r.dp
  case k6 => k_dflt k_is
  case k7 => k_dflt k_is
  case k9 => exact BindsTo.of_eq rfl
  case kB => rfl
  case kn => decide
  case c6 => rfl
  case c7 => rfl
  case c8 => rfl
  intro L h₁ tk₁ cells F N CL
  w_top on
  obtain ⟨o1, o2, o3, rfl, d1, d2, d3⟩ := CellsAre.three CL
  replace d1 : o1.data = .cell none := d1
  replace d2 : o2.data = .cell (some (.ref l)) := d2
  replace d3 : o3.data = .cell (some (.int c t)) := d3
  clear CL
  walk_at "mw"
  rename Fr _ _ _ _ => F2
  rename News _ _ _ _ => N2
  refine add_strs F2 N2 (News.isList N2 (.tail _ (.head _))) (News.isList N2 (.head _)) (by repeat constructor) (by repeat constructor) ?_ (Nat.le_of_ble_eq_true rfl)
  intro D3 us h3 F3 N3 l3 hS
  k_lt l3
  replace hS : StrsAre us flagNames := hS
  walk_at "mw"
  walk_at "acompT"
  walk_at "mw"
  rename IsRange _ _ _ _ _ _ _ _ => hr4
  rename Fr _ _ _ _ => F4
  rename News _ _ _ _ => N4
  k_unfold
  refine LCt.CompSrcT.range (n := 4) rfl F4 N4 hr4 rfl rfl (Nat.le_of_ble_eq_true rfl) ?_
  intro g
  refine comp_T (fun i ys nw => nw = _ ∧ StrsAre ys (wordsL c ps i)) ⟨rfl, .nil⟩ ?_ ?_
  · rintro i ys _ v I oI C oC D m₂ h tk E' hi4 ⟨tv, rfl⟩ ⟨rfl, hy⟩ hC hx F5 N5 off ne
    rw [Int.zero_add] at hx
    have hp := hb _ (List.getElem_mem (show i < ps.length by omega))
    have hpe : ps.getD i 0 = ps[i] := by simp [List.getD, show i < ps.length by omega]
    rw [← hpe] at hp
    walk_at "mw"
    · rename_i hbit _
      have hb2 := w_bit hbit
      refine item_strsA (News.isList N5 (.tail _ (.tail _ (.tail _ (.head _))))) hS hp.1 (by show _ < ((16 : Nat) : Int); exact hp.2) (Int.lt_trans hp.2 (by decide)) ?_
      intro t'
      refine LCg.CompEnd.intro F5 N5 _ (fun p hp => hp) off trivial ⟨rfl, ?_⟩
      rw [wordsL_succ, if_pos hb2]
      exact strs_snoc hy _ _
    · rename_i hbit
      have hb2 := w_nobit hbit
      refine LCg.CompEnd.intro F5 N5 _ (fun p hp => hp) off trivial ⟨rfl, ?_⟩
      rw [wordsL_succ, if_neg (by rw [hb2]; decide), List.append_nil]
      exact hy
  · rintro ys _ ⟨rfl, hy⟩
    walk_at "mw"
    rename News _ _ _ _ => N7
    rename Fr _ _ _ _ => F7
    refine ne_strs (ms := []) (News.isList N7 (.tail _ (.head _))) (News.isList N7 (.head _)) hy .nil (wordsL_ok _ _ _) (fun _ h => nomatch h) (by walk_at "room") ?_
    walk_at "mw"
    · rename decide _ = true => he
      have e : Str.ofString "0x0" = wordsOf (wordsL c ps 4) := by rw [wordsOf, if_pos (of_decide_eq_true he)]
      rw [e]
      exact hR _ _ _ F7.keep
    · rename decide _ = false => he
      refine join_listW (News.isList N7 (.tail _ (.head _))) hy (by decide) (wordsL_sum _ _) ?_
      intro t' k'
      walk_at "mw"
      have e : Txt.join (Str.ofString ", ") (wordsL c ps 4) = wordsOf (wordsL c ps 4) := by rw [wordsOf, if_neg (of_decide_eq_false he)]
      rw [e]
      exact hR _ _ _ F7.keep

end

section
open PySem PySem.W PySem.Calls PyProof.Rows PySem.Builtin PySem.Builtin.Re
theorem slot_pat_search : Slot "re.Pattern" "search" "re.Pattern.search" :=
  .of (owner := "re.Pattern") (n := "search") (by rw [typeLookup_type, builtinLookup_eq_fast]; kernel_rfl) (by decide +kernel) (by decide +kernel) (by decide +kernel)
    (by first | exact .inl (by decide +kernel) | exact .inr (by decide +kernel)) (by rw [isSubtype_type]; kernel_rfl)
theorem type_pat_search : typeOf (.builtin "re.Pattern.search") = pure (.type "method_descriptor") := by show builtinType _ = _; rw [builtinType_eq_fast]; kernel_rfl
theorem entry_pat_search : entryFor table "re.Pattern.search" = some Builtin.«re.Pattern.search» := entryFor_of_tree (by kernel_rfl)
theorem owner_pat : Manifest.owners.lookup (String.ofList ['n', 'r', 'e', 't', 't', 'a', 'P', '.', 'e', 'r'].reverse) = some Manifest.sig_re_Pattern := by kernel_rfl
theorem args_pat_search (a b : Value) : argsOk "re.Pattern.search" ⟨[a, b], []⟩ := by
  unfold argsOk; rw [signature?_of (id := "re.Pattern.search") (n := ['h', 'c', 'r', 'a', 'e', 's']) (o := ['n', 'r', 'e', 't', 't', 'a', 'P', '.', 'e', 'r']) (by kernel_rfl) owner_pat]; kernel_rfl
theorem plain_pat : PlainAttrs "re.Pattern" :=
  ⟨⟨"object.__getattribute__", by rw [typeLookup_type, builtinLookup_eq_fast]; kernel_rfl, by decide +kernel⟩, by rw [typeLookup_type, builtinLookup_eq_fast]; kernel_rfl⟩
theorem named_pat (v : Value) : reNamed "re.Pattern.search" "search" ["string", "pos", "endpos"] 1 [v] [] = pure [some v, none, none] := by
  rfl
noncomputable def quietM (m : Sre.M) : Prop := m.outcome = none ∧ m.answer = some false ∧ m.frames = []
noncomputable def plainTxt (text : Array Nat) : Prop := ∀ j : Nat, j < text.size → 32 ≤ text.getD j 0 ∧ text.getD j 0 < 127

theorem admitted_no {code text : Array Nat} (hset : ∀ c : Nat, 32 ≤ c → c < 127 → ∀ seen, ∃ seen', Sre.inSet code c code.size 5 true seen = .ok (false, seen')) (ht : plainTxt text) (m : Sre.M) (hc : m.code = code) (hx : m.text = text) (hl : m.lim ≤ text.size) :
    ∀ fuel s seen, ∃ seen', Sre.M.admitted m fuel s seen = .ok (none, seen') := by
  intro fuel
  induction fuel with
  | zero => intro s seen; exact ⟨seen, rfl⟩
  | succ n ih =>
    intro s seen
    unfold Sre.M.admitted
    by_cases h : s ≥ m.lim
    · rw [if_pos h]; exact ⟨seen, rfl⟩
    · rw [if_neg h, hc, hx]
      obtain ⟨h1, h2⟩ := ht s (by omega)
      obtain ⟨seen', e⟩ := hset _ h1 h2 seen
      rw [e]
      exact ih (s + 1) seen'

theorem attempt_no {code text : Array Nat} (hset : ∀ c : Nat, 32 ≤ c → c < 127 → ∀ seen, ∃ seen', Sre.inSet code c code.size 5 true seen = .ok (false, seen')) (ht : plainTxt text)
    (hfirst : ∀ m : Sre.M, m.code = code → m.hasFirstSet = true) (m : Sre.M) (hc : m.code = code) (hx : m.text = text) (hl : m.lim ≤ text.size) (ho : m.outcome = none) (hf : m.frames = []) : quietM (m.attemptFrom 0 true) := by
  unfold Sre.M.attemptFrom
  rw [hfirst m hc, if_neg (by decide)]
  obtain ⟨seen', e⟩ := admitted_no hset ht m hc hx hl (m.lim + 1 - 0) 0 m.seen
  rw [e]
  exact ⟨ho, rfl, hf⟩
theorem search_no {code text : Array Nat} {lim : Nat} (hset : ∀ c : Nat, 32 ≤ c → c < 127 → ∀ seen, ∃ seen', Sre.inSet code c code.size 5 true seen = .ok (false, seen')) (ht : plainTxt text) (hl : lim ≤ text.size)
    (hfirst : ∀ m : Sre.M, m.code = code → m.hasFirstSet = true) : quietM (Sre.forSearch code text 0 0 lim false) := by
  unfold Sre.forSearch
  dsimp only
  split
  · exact ⟨rfl, rfl, rfl⟩
  · exact attempt_no hset ht hfirst _ rfl rfl hl rfl rfl

noncomputable def nameCode : Array Nat := #[14, 10, 4, 1, 1, 22, 0, 31, 16, 127, 0, 13, 7, 22, 0, 31, 16, 127, 0, 1]
noncomputable def valueCode : Array Nat := #[14, 14, 4, 1, 1, 9, 4294966783, 0, 0, 2147483648, 0, 0, 0, 0, 0, 13, 11, 9, 4294966783, 0, 0, 2147483648, 0, 0, 0, 0, 0, 1]
theorem set_name : ∀ c : Nat, 32 ≤ c → c < 127 → ∀ seen, ∃ seen', Sre.inSet nameCode c nameCode.size 5 true seen = .ok (false, seen') := by
  intro c h1 h2 seen
  have a1 : ¬ ((0 ≤ c && c ≤ 31) = true) := by simp; omega
  have a2 : ¬ ((c == 127) = true) := by simp; omega
  refine ⟨((seen.add 22).add 16).add 0, ?_⟩
  show (if (0 ≤ c && c ≤ 31) = true then _ else _) = _
  rw [if_neg a1]
  show (if (c == 127) = true then _ else _) = _
  rw [if_neg a2]
  rfl
theorem set_value : ∀ c : Nat, 32 ≤ c → c < 127 → ∀ seen, ∃ seen', Sre.inSet valueCode c valueCode.size 5 true seen = .ok (false, seen') := by
  intro c h1 h2 seen
  have key : ∀ c : Nat, c < 127 → 32 ≤ c → ¬ ((c < 256 && (valueCode.getD (5 + (1 + c / 32)) 0).testBit (c % 32)) = true) := by decide +kernel
  refine ⟨(seen.add 9).add 0, ?_⟩
  show (if (c < 256 && (valueCode.getD (5 + (1 + c / 32)) 0).testBit (c % 32)) = true then _ else _) = _
  rw [if_neg (key c h2 h1)]
  rfl
theorem first_name : ∀ m : Sre.M, m.code = nameCode → m.hasFirstSet = true := by
  intro m h
  unfold Sre.M.hasFirstSet
  rw [h]
  rfl
theorem first_value : ∀ m : Sre.M, m.code = valueCode → m.hasFirstSet = true := by
  intro m h
  unfold Sre.M.hasFirstSet
  rw [h]
  rfl
theorem pow64 : (2 : Nat) ^ 64 = 18446744073709551615 + 1 := by decide
theorem drive_no {M : Model} {A : Around} {E : Value → Shared → Prop} {s : Shared} {Q : Option Sre.M → Shared → Prop} {m : Sre.M} (h : quietM m) (hQ : Q none s) : wpAny M A (reRunToEnd m) Q E s := by
  obtain ⟨ho, ha, hf⟩ := h
  have hstep : Sre.M.step m = { m with outcome := some .failed } := by
    unfold Sre.M.step
    rw [ho, ha, hf]
    rfl
  have hrun : Sre.M.runFor reTurnSteps m = { m with outcome := some .failed } := by
    show Sre.M.runFor (3 + 1) m = _
    rw [Sre.M.runFor, ho, hstep]
    rfl
  unfold reRunToEnd
  refine wpAny_bind ?_
  rw [pow64, reDrive, hrun]
  refine wpAny_pure ?_
  refine wpAny_bind ?_
  have loop : ∀ (l : List Nat) (m : Sre.M) (Q : PUnit → Shared → Prop), Q ⟨⟩ s → wpAny M A (forIn l ⟨⟩ fun i r => do
      if m.seen.has i = true then do
        rule (Sre.names.getD i "")
        pure (ForInStep.yield ⟨⟩)
      else pure (ForInStep.yield ⟨⟩)) Q E s := by
    intro l m
    induction l with
    | nil => intro Q hQ; rw [List.forIn_nil]; exact wpAny_pure hQ
    | cons a r ih =>
      intro Q hQ
      rw [List.forIn_cons]
      refine wpAny_bind ?_
      split
      · exact wpAny_bind (wpAny_rule (wpAny_pure (ih Q hQ)))
      · exact wpAny_pure (ih Q hQ)
  exact loop _ { m with outcome := some .failed } _ (wpAny_pure hQ)
noncomputable def patObj (p0 p1 p3 p4 : Value) (t2 t6 : Tok) (c : Addr) : Obj := { cls := .type "re.Pattern", data := .fields #[p0, p1, .int 0 t2, p3, p4, .ref c, .int 0 t6] }
theorem search_pat {prog : Program} {w : World} {A : Around} {E : Value → Shared → Prop} {s : Shared} {Q : Value → Shared → Prop} {a c : Addr} {x : Str} {t : Tok} {op oc : Obj} {f0 f1 f3 f4 : Value} {t2 t6 : Tok} {cs : Array Value} {n : Nat} {code : Array Nat}
    (ho : s.heap.get? a = some op) (hcls : op.cls = .type "re.Pattern") (hd : op.data = .fields #[f0, f1, .int 0 t2, f3, f4, .ref c, .int 0 t6]) (hc : s.heap.get? c = some oc) (hcd : oc.data = .seq cs n) (hcode : (cs.map reRawOf).map (·.toNat) = code)
    (hset : ∀ c : Nat, 32 ≤ c → c < 127 → ∀ seen, ∃ seen', Sre.inSet code c code.size 5 true seen = .ok (false, seen')) (hfirst : ∀ m : Sre.M, m.code = code → m.hasFirstSet = true) (ht : plainTxt x.cps)
    (h : Q .none s) : wpAny (model prog w) A (call (.builtin "re.Pattern.search") [.ref a, .str x t]) Q E s := by
  refine wpAny_call (codeAny_call_builtin slot_pat_search.plain entry_pat_search (slot_pat_search.check _ _ _ _ _ _ _ _ ⟨_, ho, hcls⟩ (args_pat_search _ _) ?_))
  unfold Builtin.«re.Pattern.search»
  refine wpAny_bind ?_
  unfold reTarget
  refine wpAny_bind ?_
  rw [named_pat]
  refine wpAny_pure ?_
  dsimp only
  refine wpAny_bind (wpAny_pure (wpAny_bind (wpAny_pure (wpAny_bind (wpAny_fieldsOf ho hd ?_)))))
  have htx : reTextOf (.str x t) = pure (x.cps, 0) := rfl
  refine wpAny_bind ?_
  rw [htx]
  refine wpAny_pure ?_
  dsimp only
  have hk6 : reRawNat (#[f0, f1, .int 0 t2, f3, f4, .ref c, .int 0 t6].getD 6 .none) = 0 := rfl
  rw [hk6, if_neg (by decide), if_neg (by decide)]
  refine wpAny_bind ?_
  have hnc : reNoCollectionInside (.str x t) 0 = pure () := rfl
  rw [hnc]
  refine wpAny_pure ?_
  refine wpAny_bind ?_
  show wpAny _ _ (reRawItems (.ref c)) _ _ _
  unfold reRawItems
  refine wpAny_bind (wpAny_seqItems hc hcd ?_)
  refine wpAny_pure ?_
  refine wpAny_pure ?_
  dsimp only [Option.getD_some]
  rw [hcode]
  unfold reAnswer
  refine wpAny_bind (drive_no ?_ ?_)
  · show quietM (Sre.forSearch code x.cps 0 (min (0 : Int).toNat x.cps.size) _ false)
    have e : min (0 : Int).toNat x.cps.size = 0 := by simp
    rw [e]
    exact search_no hset ht (Nat.min_le_right _ _) hfirst
  · exact wpAny_pure h
theorem meth_pat {M : Model} {A : Around} {E : Value → Shared → Prop} {s : Shared} {pl : Sem Bool} {Q : Value × List Value → Shared → Prop} {a : Addr} {op : Obj} (ho : s.heap.get? a = some op) (hcls : op.cls = .type "re.Pattern") (hdict : op.dict = none)
    (h : Q (.builtin "re.Pattern.search", [.ref a]) s) : wpAny M A (getMethod (.ref a) (Str.ofString "search") pl) Q E s :=
  getMethod_builtin ⟨_, ho, hcls⟩ plain_pat slot_pat_search type_pat_search (fun _ e => by cases e; exact ⟨_, ho, hdict⟩) h
end

section
open PySem PySem.W PySem.Calls PyProof.Rows
local macro_rules | `(tactic| walk_at "mstop") => `(tactic| first | (with_reducible show wpAny _ _ (subscriptTail (PySem.Expr.Name _ _) (PySem.Expr.Slice _ _ _ _) (Value.ref _) (Value.ref _)) _ _ _) | (with_reducible show wpAny _ _ (call (Value.ref _) _) _ _ _) | (with_reducible show wpAny _ _ (compareOp _ (Value.ref _) (Value.ref _)) _ _ _) | (with_reducible show wpAny _ _ (binaryOp Operator.Add (Value.ref _) (Value.ref _)) _ _ _) | (with_reducible show wpAny _ _ (exec (PySem.Stmt.Assign [_] (PySem.Expr.ListComp _ _ _ _) _) _) _ _ _) | (with_reducible show wpAny _ _ (eval (PySem.Expr.ListComp _ _ _ _) _) _ _ _) | (with_reducible show LCg.CompSrc _ _ _ _ _ _ _ _ _ _ _ _ _ _) | (with_reducible show LCt.CompSrcT _ _ _ _ _ _ _ _ _ _ _ _ _ _ _))
variable {w : World} {mean : ExcName → Option Value} {mg mb : Str → Option Value}
local macro_rules | `(tactic| walk_at "mstop") => `(tactic| (with_reducible show wpAny _ _ (getMethod (Value.ref _) (Str.ofString "search") _) _ _ _))
local macro_rules | `(tactic| walk_at "mstop") => `(tactic| (with_reducible show wpAny _ _ (call (Value.builtin "re.Pattern.search") _) _ _ _))

set_option maxHeartbeats 4000000 in
theorem conv_spec {A : Around} {s : Shared} {R : Result → Shared → Prop} {self : Value} {x : Str} {t : Tok} {b : Bool} (G : Gd w mean mg mb s.heap) (r : Rm A 3 100)
   (hx : plainTxt x.cps)
   (hR : ∀ h' tk, s.heap.StaysIn h' → R (.ok (.ret (.str x t))) { s with heap := h', toks := tk })
   : codeAny (model PySem.Challenge.rw_rw0095_01.row.prog w) A (.call (.ref 70) ⟨[self, .str x t], [(Str.ofString "name", .bool b)]⟩) R s := by
  obtain ⟨X, T⟩ := G
  obtain ⟨Ah, Ad, Af, Ag, Au⟩ := A
  obtain rfl : Ah = none := r.hd
  refine' enter (binds := [(Str.ofString "self", self), (Str.ofString "value", .str x t), (Str.ofString "name", .bool b)]) X T.nolimit ?hr ?k6 ?k7 ?k9 ?kB ?_ ?c5 ?c6 ?c7 ?c8
  case hr => exact Nat.lt_of_le_of_lt (Nat.le_add_right _ _) r.dp
  case k6 => k_dflt k_is
  case k7 => k_dflt k_is
  case k9 => exact BindsTo.of_eq rfl
  case kB => exact locs rfl
  case c5 => decide
  case c6 => rfl
  case c7 => rfl
  case c8 => rfl
  intro L h₁ F N
  w_top on
  walk_at "mw"
  · rename Fr _ _ _ _ => F2
    have Xh := X.keeps F2.keep
    refine meth_pat (Xh 43 _ (by k_is)) rfl rfl ?_
    walk_at "mw"
    refine search_pat (code := nameCode) (Xh 43 _ (by k_is)) rfl rfl (Xh 42 _ (by k_is)) rfl (by decide +kernel) set_name first_name hx ?_
    walk_at "mw"
    exact hR _ _ F2.keep
  · rename Fr _ _ _ _ => F2
    have Xh := X.keeps F2.keep
    refine meth_pat (Xh 48 _ (by k_is)) rfl rfl ?_
    walk_at "mw"
    refine search_pat (code := valueCode) (Xh 48 _ (by k_is)) rfl rfl (Xh 47 _ (by k_is)) rfl (by decide +kernel) set_value first_value hx ?_
    walk_at "mw"
    exact hR _ _ F2.keep

end

section
open PySem PySem.W PySem.Calls PyProof.Rows
/-- a list's items: pairs of texts -/
inductive PairsAt (h : Heap) : List Value → List (Str × Str) → Prop
  | nil : PairsAt h [] []
  | cons {a : Addr} {x y : Str} {t t' : Tok} {n : Nat} {vs : List Value} {ps : List (Str × Str)} : h.get? a = some { cls := .type "tuple", data := .seq #[.str x t, .str y t'] n } → PairsAt h vs ps → PairsAt h (.ref a :: vs) ((x, y) :: ps)
theorem PairsAt.keeps {h h' : Heap} (k : ∀ b o, h.get? b = some o → h'.get? b = some o) : ∀ {vs : List Value} {ps : List (Str × Str)}, PairsAt h vs ps → PairsAt h' vs ps
  | _, _, .nil => .nil
  | _, _, .cons e r => .cons (k _ _ e) (PairsAt.keeps k r)
theorem PairsAt.length {h : Heap} : ∀ {vs : List Value} {ps : List (Str × Str)}, PairsAt h vs ps → vs.length = ps.length
  | _, _, .nil => rfl
  | _, _, .cons _ r => by rw [List.length_cons, List.length_cons, PairsAt.length r]
theorem PairsAt.at {h : Heap} : ∀ {vs : List Value} {ps : List (Str × Str)}, PairsAt h vs ps → ∀ {i : Nat} {v : Value}, vs[i]? = some v → ∃ a x y t t' n, v = .ref a ∧ ps[i]? = some (x, y) ∧ h.get? a = some { cls := .type "tuple", data := .seq #[.str x t, .str y t'] n }
  | _, _, .nil, i, v, e => by simp at e
  | _, _, .cons e r, 0, v, q => by
    simp at q; subst q
    exact ⟨_, _, _, _, _, _, rfl, rfl, e⟩
  | _, _, .cons e r, i + 1, v, q => by
    obtain ⟨a, x, y, t, t', n, h1, h2, h3⟩ := PairsAt.at r (i := i) (v := v) (by simpa using q)
    exact ⟨a, x, y, t, t', n, h1, by simpa using h2, h3⟩

section
variable {prog : Program} {w : World} {A : Around} {s : Shared} {K : Frag} {R : Result → Shared → Prop} {name qual : Str} {params : Arguments} {body : List Stmt} {scope : Scope} {dV kV doc pm cdv ct oc : Value} {an od : Option Addr} {osl : Array (Option Value)} {f : Addr} {args : Args} {binds : List (Str × Value)}
/-- enter a def, the objects at as free to be changed -/
theorem enterH (as : List Addr) {h₀ : Heap} (X : K.In h₀) (st : ∀ b o, h₀.get? b = some o → s.heap.get? b = some o) (hlim : s.heap.NoLimit) (hroom : A.depth < recursionLimit)
    (ho : K.lookup f = some ⟨oc, od, .func (fnOf name qual params body scope dV kV doc pm an cdv ct), osl⟩) (hcd : codeIn K cdv qual = true)
    (hbind : BindsTo s (fnOf name qual params body scope dV kV doc pm an cdv ct) args binds) (hloc : ∀ y ∈ binds, scope.names.lookup y.1 = some .local)
    (h : ∀ L' h₁, Fr (hideAll s.heap as) L' h₁ (fun y => binds.reverse.lookup y) → L' = s.heap.objs.size → (∀ b o, s.heap.get? b = some o → h₁.get? b = some o) →
      wpAny (model prog w) (A.deeper (envX qual scope L' f cdv [])) (execs body (envX qual scope L' f cdv []))
        (fun fl s' => R (.ok (.ret (match fl with | .ret v => v | _ => .none))) s') (fun _ _ => False)
        { s with heap := h₁, toks := s.toks + binds.length })
    (hcell : ∀ x ∈ scope.names, x.2 ≠ .cell) (hco : scope.isCoroutine = false) (hgen : scope.isGenerator = false) (hk : scope.kind = .function) :
    codeAny (model prog w) A (.call (.ref f) args) R s := by
  have Xs := X.keeps st
  refine codeAny_call_def (fd := fnOf name qual params body scope dV kV doc pm an cdv ct) (body := body) (binds := binds) hroom (Xs _ _ ho) rfl hlim (codeRec_of Xs hcd) rfl hbind hcell hloc (fun h₁ hns hk₁ => ?_) hco hgen hk
  exact wpAny_mono (h s.heap.objs.size h₁ ⟨hns, fun b o e => hk₁ b o (of_hideAll _ e), Nat.le_of_eq (hideAll_size _ _)⟩ rfl hk₁) (fun fl s' hl => hl) fun _ _ y => y.elim
end
theorem hide_keeps {h₀ h : Heap} {as : List Addr} (st : ∀ b o, h₀.get? b = some o → h.get? b = some o) (hoff : ∀ a ∈ as, h₀.get? a = none) : ∀ b o, h₀.get? b = some o → (hideAll h as).get? b = some o :=
  fun b o e => hideAll_get _ (st b o e) (fun hb => by rw [hoff b hb] at e; cases e)
theorem PairsAt.refs {h : Heap} : ∀ {vs : List Value} {ps : List (Str × Str)}, PairsAt h vs ps → ∀ v ∈ vs, ∃ a, v = .ref a
  | _, _, .nil, v, e => nomatch e
  | _, _, .cons _ r, v, q => by
    rcases List.mem_cons.mp q with rfl | q
    · exact ⟨_, rfl⟩
    · exact PairsAt.refs r v q
theorem PairsAt.hide {h : Heap} {as : List Addr} (hk : ∀ a ∈ as, ∀ o, h.get? a = some o → o.cls ≠ .type "tuple") : ∀ {vs : List Value} {ps : List (Str × Str)}, PairsAt h vs ps → PairsAt (hideAll h as) vs ps
  | _, _, .nil => .nil
  | _, _, .cons e r => .cons (hideAll_get _ e (fun q => hk _ q _ e rfl)) (PairsAt.hide hk r)
/-- the dict of a Headers -/
abbrev hdrDict (w : World) (t : Tok) (l : Addr) : Obj := dictOf [{ hash := PyData.keyHash w.params (Str.ofString "_headers"), key := .str (Str.ofString "_headers") t, val := .ref l }] 1
/-- pairs of texts, of a ledger -/
inductive PairsL (kp : List (Addr × Obj)) : List Value → List (Str × Str) → Prop
  | nil : PairsL kp [] []
  | cons {a : Addr} {x y : Str} {t t' : Tok} {n : Nat} {vs : List Value} {ps : List (Str × Str)} : (a, ({ cls := .type "tuple", data := .seq #[.str x t, .str y t'] n } : Obj)) ∈ kp → PairsL kp vs ps → PairsL kp (.ref a :: vs) ((x, y) :: ps)
theorem PairsL.mono {kp kp' : List (Addr × Obj)} (k : ∀ p ∈ kp, p ∈ kp') : ∀ {vs : List Value} {ps : List (Str × Str)}, PairsL kp vs ps → PairsL kp' vs ps
  | _, _, .nil => .nil
  | _, _, .cons e r => .cons (k _ e) (PairsL.mono k r)
theorem PairsL.at {kp : List (Addr × Obj)} {h : Heap} (k : ∀ p ∈ kp, h.get? p.1 = some p.2) : ∀ {vs : List Value} {ps : List (Str × Str)}, PairsL kp vs ps → PairsAt h vs ps
  | _, _, .nil => .nil
  | _, _, .cons e r => .cons (k _ e) (PairsL.at k r)
theorem PairsL.snoc {kp : List (Addr × Obj)} {a : Addr} {x y : Str} {t t' : Tok} {n : Nat} (e : (a, ({ cls := .type "tuple", data := .seq #[.str x t, .str y t'] n } : Obj)) ∈ kp) : ∀ {vs : List Value} {ps : List (Str × Str)}, PairsL kp vs ps → PairsL kp (vs ++ [.ref a]) (ps ++ [(x, y)])
  | _, _, .nil => .cons e .nil
  | _, _, .cons e2 r => .cons e2 (PairsL.snoc e r)
theorem and_nat (a b : Nat) : Builtin.bitAnd (a : Int) (b : Int) = ((a &&& b : Nat) : Int) := by
  unfold Builtin.bitAnd
  rw [decide_eq_true (Int.natCast_nonneg a), decide_eq_true (Int.natCast_nonneg b)]
  rfl
theorem and_lt {a b : Nat} (h : a < 16) : a &&& b < 16 := Nat.lt_of_le_of_lt Nat.and_le_left h
noncomputable def prAt (W : List Str) (fam : List Nat) (c k : Nat) : Str × Str :=
  (if k % 2 = 1 then Txt.swapcase (W.getD (fam.getD k 0 &&& c) Str.empty) else W.getD (fam.getD k 0 &&& c) Str.empty, W.getD (fam.getD k 0 &&& (15 - c)) Str.empty)
noncomputable def prsTo (W : List Str) (fam : List Nat) (c i : Nat) : List (Str × Str) := (List.range i).map (prAt W fam c)
theorem prsTo_succ (W : List Str) (fam : List Nat) (c i : Nat) : prsTo W fam c (i + 1) = prsTo W fam c i ++ [prAt W fam c i] := by
  unfold prsTo
  rw [List.range_succ, List.map_append]
  rfl
end

local macro_rules | `(tactic| walk_at "mstop") => `(tactic| first | (with_reducible show wpAny _ _ (subscriptTail (PySem.Expr.Name _ _) (PySem.Expr.Slice _ _ _ _) (Value.ref _) (Value.ref _)) _ _ _) | (with_reducible show wpAny _ _ (call (Value.ref _) _ _) _ _ _) | (with_reducible show wpAny _ _ (compareOp _ (Value.ref _) (Value.ref _)) _ _ _) | (with_reducible show wpAny _ _ (binaryOp Operator.Add (Value.ref _) (Value.ref _)) _ _ _) | (with_reducible show wpAny _ _ (exec (PySem.Stmt.Assign [_] (PySem.Expr.ListComp _ _ _ _) _) _) _ _ _) | (with_reducible show wpAny _ _ (eval (PySem.Expr.ListComp _ _ _ _) _) _ _ _) | (with_reducible show LCg.CompSrc _ _ _ _ _ _ _ _ _ _ _ _ _ _) | (with_reducible show LCt.CompSrcT _ _ _ _ _ _ _ _ _ _ _ _ _ _ _))

section
open PySem PySem.W PySem.Calls PyProof.Rows
variable {w : World} {mean : ExcName → Option Value} {mg mb : Str → Option Value}
local macro_rules | `(tactic| walk_at "mstop") => `(tactic| (with_reducible show wpAny _ _ (call (Value.type "type") _) _ _ _))

set_option maxHeartbeats 4000000 in
theorem init_spec {A : Around} {s : Shared} {R : Result → Shared → Prop} {h₀ : Heap} {x dx l : Addr} {vs : List Value} {n : Nat} {ps : List (Str × Str)} (X₀ : (hd.heap_1 w.params).In h₀) (T₀ : Top hd.view_1 lse mean mg mb h₀) (st : ∀ b o, h₀.get? b = some o → s.heap.get? b = some o) (r : Rm A 5 130)
   (hx0 : h₀.get? x = none) (hd0 : h₀.get? dx = none) (hx : s.heap.get? x = some (instObj 169 dx)) (hdx : s.heap.get? dx = some (dictOf [] 0)) (hne : x ≠ dx)
   (hl : s.heap.get? l = some (W.listOf vs.toArray n)) (hlx : l ≠ x) (hld : l ≠ dx) (hp : PairsAt s.heap vs ps) (hpl : ∀ p ∈ ps, plainTxt p.1.cps ∧ plainTxt p.2.cps) (hn : ps.length ≤ 64)
   (hR : ∀ h' tk tq, (∀ b o, b ≠ dx → s.heap.get? b = some o → h'.get? b = some o) → h'.get? dx = some (hdrDict w tq l) → R (.ok (.ret .none)) { s with heap := h', toks := tk })
   : codeAny (model PySem.Challenge.rw_rw0095_01.row.prog w) A (.call (.ref 63) ⟨[.ref x, .ref l], []⟩) R s := by
  obtain ⟨Ah, Ad, Af, Ag, Au⟩ := A
  obtain rfl : Ah = none := r.hd
  have Tn := (T₀.keeps st).nolimit
  refine' enterH (binds := [(Str.ofString "self", .ref x), (Str.ofString "headers", .ref l)]) [x, dx] X₀ st Tn ?hr ?k6 ?k7 ?k9 ?kB ?_ ?c5 ?c6 ?c7 ?c8
  case hr => exact Nat.lt_of_le_of_lt (Nat.le_add_right _ _) r.dp
  case k6 => k_dflt k_is
  case k7 => k_dflt k_is
  case k9 => exact binds_K (X₀.keeps st) rfl (by k_is) rfl rfl rfl
  case kB => exact locs rfl
  case c5 => decide
  case c6 => rfl
  case c7 => rfl
  case c8 => rfl
  have hgk := hide_keeps (as := [x, dx]) st (fun a ha => by
    rcases List.mem_cons.mp ha with rfl | ha
    · exact hx0
    · rw [List.mem_singleton.mp ha]; exact hd0)
  have hlg : (hideAll s.heap [x, dx]).get? l = some (W.listOf vs.toArray n) := hideAll_get _ hl (by simp [hlx, hld])
  have hxg : (hideAll s.heap [x, dx]).get? x = none := hideAll_none _ (.head _)
  have hdg : (hideAll s.heap [x, dx]).get? dx = none := hideAll_none _ (.tail _ (.head _))
  have hpg : PairsAt (hideAll s.heap [x, dx]) vs ps := hp.hide (by
    intro a ha o e q
    rcases List.mem_cons.mp ha with rfl | ha
    · rw [hx] at e; cases e; cases q
    · rw [List.mem_singleton.mp ha, hdx] at e; cases e; exact absurd q (cls_ne (by decide)))
  have hgg : ∀ b o, s.heap.get? b = some o → b ∉ [x, dx] → (hideAll s.heap [x, dx]).get? b = some o := fun b o e hb => hideAll_get _ e hb
  generalize hideAll s.heap [x, dx] = g at hgk hlg hxg hdg hpg hgg ⊢
  have hk0 : ∀ tq, ∀ p ∈ [(x, instObj 169 dx), (dx, hdrDict w tq l)], p.1 ∉ ([] : List Addr) ∧ p.2.cls ≠ .type "list_iterator" := by
    intro tq p hp
    refine ⟨by simp, ?_⟩
    rcases List.mem_cons.mp hp with rfl | hp
    · intro q; cases q
    · rw [List.mem_singleton.mp hp]; exact cls_ne (by decide)
  have X := X₀.keeps hgk
  have T := T₀.keeps hgk
  intro L h₁ F hL hk₁
  have N : News g L h₁ [(x, instObj 169 dx), (dx, dictOf [] 0)] := by
    intro p hp
    rcases List.mem_cons.mp hp with rfl | hp
    · exact ⟨hk₁ _ _ hx, by rw [hL]; exact Nat.ne_of_lt (Heap.lt_size hx), hxg⟩
    · rw [List.mem_singleton.mp hp]
      exact ⟨hk₁ _ _ hdx, by rw [hL]; exact Nat.ne_of_lt (Heap.lt_size hdx), hdg⟩
  have hlI : g.IsList l vs.toArray := ⟨_, hlg, rfl, _, rfl⟩
  w_top on
  walk_at "mw"
  rename Fr _ _ _ _ => F2
  refine kto_cont (T := "list") ⟨_, F2.keep _ _ hlg, rfl⟩ rfl ?_
  walk_at "mw"
  rename Fr _ _ _ _ => F3
  rename News _ _ _ _ => N3
  refine' for_listT (vs := vs) (news := []) (kept := [(x, instObj 169 dx), (dx, hdrDict w _ l)]) ?a1 ?a2 ?a3 ?a4 ?a5 ?a6 ?a7
    (fun i m nx kp => nx = [] ∧ (∃ tq, kp = [(x, instObj 169 dx), (dx, hdrDict w tq l)]) ∧ m (Str.ofString "self") = some (.ref x)) ?a8 ?_ ?_ ?a9
  case a1 => rfl
  case a2 => exact hlI.at fun o e => F3.keep _ o e
  case a3 => exact F3
  case a4 => exact N3
  case a5 => exact Or.inl ⟨_, hlg⟩
  case a6 => exact Nat.ne_of_lt (Nat.lt_of_lt_of_le (Heap.lt_size hlg) F3.above)
  case a7 => exact hk0 _
  case a8 => exact ⟨rfl, ⟨_, rfl⟩, rfl⟩
  case a9 => exact hp.refs
  · rintro i v m₁ nx kp own h tk hv ⟨rfl, ⟨tq, rfl⟩, hm⟩ hnx hoff F' N'
    clear F3
    replace F' := fr_see F' hm
    dsimp only [List.nil_append, List.cons_append] at N' hoff
    obtain ⟨a, y1, y2, u1, u2, n2, rfl, hps, hag⟩ := PairsAt.at hpg hv
    refine unpackN_ F' N' ⟨_, F'.keep _ _ hag, rfl, _, rfl⟩ rfl rfl rfl ?_
    intro h2 F2 N2
    walk_at "mw"
    rename Fr _ _ _ _ => F3
    rename News _ _ _ _ => N3
    refine wpAny_call (conv_spec (b := true) (Gd.fr X T F3) ((Rm.deeper (d := 4) (u := 127) r).less (by decide) (by decide)) (hpl _ (List.mem_of_getElem? hps)).1 ?_)
    intro h4 tk4 hk4
    replace F3 := F3.keeps hk4
    replace N3 := N3.grown hk4
    walk_at "mw"
    rename Fr _ _ _ _ => F3
    rename News _ _ _ _ => N3
    refine wpAny_call (conv_spec (b := false) (Gd.fr X T F3) ((Rm.deeper (d := 4) (u := 127) r).less (by decide) (by decide)) (hpl _ (List.mem_of_getElem? hps)).2 ?_)
    intro h4 tk4 hk4
    replace F3 := F3.keeps hk4
    replace N3 := N3.grown hk4
    walk_at "mw"
    exact TurnEnd.next (nx := []) (kept := [(x, instObj 169 dx), (dx, hdrDict w tq l)]) F3 N3 in_nil (fun p hp => by simp only [List.mem_cons, List.not_mem_nil, or_false] at hp ⊢; rcases hp with rfl | rfl <;> simp) (fun p hp => .tail _ (.tail _ hp)) rfl (hk0 _) ⟨rfl, ⟨_, rfl⟩, rfl⟩
  · rintro m₁ nx kp h tk ⟨rfl, ⟨tq, rfl⟩, hm⟩ hnx hoff F' N'
    clear F3
    walk_at "mw"
    refine hR _ _ _ (fun b o hb e => ?_) (N' _ (.tail _ (.head _))).1
    by_cases hbx : b = x
    · rw [hbx] at e ⊢
      rw [hx] at e; cases e
      exact (N' _ (.head _)).1
    · exact F'.keep _ _ (hgg b o e (by simp [hbx, hb]))

end

section
open PySem PySem.W PySem.Calls PyProof.Rows PySem.Builtin PySem.Builtin.Str
noncomputable def lowA (c : Nat) : Nat := if 65 ≤ c ∧ c ≤ 90 then c + 32 else c
noncomputable def upA (c : Nat) : Nat := if 97 ≤ c ∧ c ≤ 122 then c - 32 else c
noncomputable def swA (c : Nat) : Nat := if 65 ≤ c ∧ c ≤ 90 then c + 32 else if 97 ≤ c ∧ c ≤ 122 then c - 32 else c
theorem ascii_low : ∀ c : Nat, c < 127 → Unicode.lowerOf c = [lowA c] := by decide +kernel
theorem ascii_up : ∀ c : Nat, c < 127 → Unicode.upperOf c = [upA c] := by decide +kernel
theorem ascii_isU : ∀ c : Nat, c < 127 → Unicode.isUpper c = decide (65 ≤ c ∧ c ≤ 90) := by decide +kernel
theorem ascii_isL : ∀ c : Nat, c < 127 → Unicode.isLower c = decide (97 ≤ c ∧ c ≤ 122) := by decide +kernel
noncomputable def mapT (g : Nat → Nat) (x : Str) : Str := ⟨x.cps.map g⟩
theorem flat_map (g : Nat → Nat) (x : Array Nat) : (x.map fun c => #[g c]).flatten = x.map g := by
  have key : ∀ (l : List Nat) (acc : Array Nat), (l.map fun c => #[g c]).foldl (fun acc xs => acc ++ xs) acc = acc ++ (l.map g).toArray := by
    intro l
    induction l with
    | nil => intro acc; simp
    | cons a r ih => intro acc; rw [List.map_cons, List.foldl_cons, ih]; simp
  obtain ⟨l⟩ := x
  have h2 : (#[] : Array Nat) ++ (l.map g).toArray = (l.map g).toArray := by simp
  rw [show (Array.map (fun c => #[g c]) ⟨l⟩) = (List.map (fun c => #[g c]) l).toArray from List.map_toArray .., show Array.map g ⟨l⟩ = (List.map g l).toArray from List.map_toArray ..]
  rw [← h2, ← key l #[]]
  unfold Array.flatten
  rw [List.foldl_toArray]
  rfl
theorem placed_map {x : Str} {f : Nat → Nat → List Nat} {g : Nat → Nat} (h : ∀ i (hi : i < x.cps.size), f i x.cps[i] = [g x.cps[i]]) : placed x f = x.cps.map g := by
  unfold placed
  have e : (x.cps.mapIdx fun i c => (f i c).toArray) = x.cps.map fun c => #[g c] := by
    apply Array.ext
    · simp
    · intro i h1 h2
      simp only [Array.getElem_mapIdx, Array.getElem_map]
      rw [h i (by simpa using h1)]
  rw [e]
  exact flat_map g x.cps
theorem plain_at {x : Array Nat} (h : plainTxt x) {i : Nat} (hi : i < x.size) : 32 ≤ x[i] ∧ x[i] < 127 := by
  have := h i hi
  rwa [Array.getD_eq_getD_getElem?, Array.getElem?_eq_getElem hi] at this
theorem lowerAt_plain {x : Array Nat} (h : plainTxt x) {i : Nat} (hi : i < x.size) : Unicode.lowerAt x i = [lowA x[i]] := by
  have h1 := plain_at h hi
  unfold Unicode.lowerAt
  rw [Array.getElem?_eq_getElem hi]
  dsimp only
  rw [if_neg, ascii_low _ h1.2]
  intro q
  have := (Bool.and_eq_true_iff.mp q).1
  have := beq_iff_eq.mp this
  omega
theorem lower_plain {x : Str} (h : plainTxt x.cps) : Txt.lower x = mapT lowA x := by
  unfold Txt.lower mapT
  rw [placed_map fun i hi => lowerAt_plain h hi]
theorem upper_plain {x : Str} (h : plainTxt x.cps) : Txt.upper x = mapT upA x := by
  unfold Txt.upper mapT
  rw [placed_map fun i hi => ascii_up _ (plain_at h hi).2]
theorem swap_plain {x : Str} (h : plainTxt x.cps) : Txt.swapcase x = mapT swA x := by
  unfold Txt.swapcase mapT
  rw [placed_map (g := swA)]
  intro i hi
  have h1 := plain_at h hi
  rw [ascii_isU _ h1.2, ascii_isL _ h1.2, lowerAt_plain h hi, ascii_up _ h1.2]
  unfold swA lowA upA
  by_cases a : 65 ≤ x.cps[i] ∧ x.cps[i] ≤ 90
  · simp [a]
  · by_cases b : 97 ≤ x.cps[i] ∧ x.cps[i] ≤ 122
    · simp [a, b]
    · simp [a, b]
theorem plain_map {g : Nat → Nat} (hg : ∀ c : Nat, 32 ≤ c → c < 127 → 32 ≤ g c ∧ g c < 127) {x : Str} (h : plainTxt x.cps) : plainTxt (mapT g x).cps := by
  intro j hj
  have hj' : j < x.cps.size := by simpa [mapT] using hj
  have := plain_at h hj'
  unfold mapT
  rw [Array.getD_eq_getD_getElem?, Array.getElem?_map, Array.getElem?_eq_getElem hj']
  exact hg _ this.1 this.2
theorem lowA_ok (c : Nat) (h1 : 32 ≤ c) (h2 : c < 127) : 32 ≤ lowA c ∧ lowA c < 127 := by unfold lowA; split <;> omega
theorem upA_ok (c : Nat) (h1 : 32 ≤ c) (h2 : c < 127) : 32 ≤ upA c ∧ upA c < 127 := by unfold upA; split <;> omega
theorem swA_ok (c : Nat) (h1 : 32 ≤ c) (h2 : c < 127) : 32 ≤ swA c ∧ swA c < 127 := by unfold swA; split <;> (try split) <;> omega
theorem plain_lower {x : Str} (h : plainTxt x.cps) : plainTxt (Txt.lower x).cps := by rw [lower_plain h]; exact plain_map lowA_ok h
theorem plain_upper {x : Str} (h : plainTxt x.cps) : plainTxt (Txt.upper x).cps := by rw [upper_plain h]; exact plain_map upA_ok h
theorem plain_swap {x : Str} (h : plainTxt x.cps) : plainTxt (Txt.swapcase x).cps := by rw [swap_plain h]; exact plain_map swA_ok h
theorem mapT_comp (f g : Nat → Nat) (x : Str) : mapT f (mapT g x) = mapT (f ∘ g) x := by unfold mapT; simp
theorem low_sw (c : Nat) : lowA (swA c) = lowA c := by unfold lowA swA; (repeat' split) <;> omega
theorem low_up (c : Nat) : lowA (upA c) = lowA c := by unfold lowA upA; (repeat' split) <;> omega
theorem low_low (c : Nat) : lowA (lowA c) = lowA c := by unfold lowA; (repeat' split) <;> omega
theorem lower_swap {x : Str} (h : plainTxt x.cps) : Txt.lower (Txt.swapcase x) = Txt.lower x := by
  rw [lower_plain (plain_swap h), swap_plain h, lower_plain h, mapT_comp]
  congr 1
  funext c; exact low_sw c
theorem lower_upper {x : Str} (h : plainTxt x.cps) : Txt.lower (Txt.upper x) = Txt.lower x := by
  rw [lower_plain (plain_upper h), upper_plain h, lower_plain h, mapT_comp]
  congr 1
  funext c; exact low_up c
theorem lower_lower {x : Str} (h : plainTxt x.cps) : Txt.lower (Txt.lower x) = Txt.lower x := by
  rw [lower_plain (plain_lower h), lower_plain h, mapT_comp]
  congr 1
  funext c; exact low_low c
theorem plain_ok {x : Str} (h : plainTxt x.cps) : PyData.strOk x = true := by
  unfold PyData.strOk
  rw [Array.all_eq_true]
  intro i hi
  exact decide_eq_true (Nat.lt_trans (plain_at h hi).2 (by decide))
theorem len_mapT (g : Nat → Nat) (x : Str) : (mapT g x).length = x.length := by unfold mapT Str.length; simp
theorem fits {x : Str} (h : x.length ≤ 400) : tooLong x.length = false := by
  unfold tooLong sizeLine
  exact decide_eq_false (by omega)
/-- a text of the law: plain and short -/
structure Wd (x : Str) : Prop where
  plain : plainTxt x.cps
  short : x.length ≤ 100
theorem Wd.lower {x : Str} (h : Wd x) : Wd (Txt.lower x) := ⟨plain_lower h.plain, by rw [lower_plain h.plain, len_mapT]; exact h.short⟩
theorem Wd.upper {x : Str} (h : Wd x) : Wd (Txt.upper x) := ⟨plain_upper h.plain, by rw [upper_plain h.plain, len_mapT]; exact h.short⟩
theorem Wd.swap {x : Str} (h : Wd x) : Wd (Txt.swapcase x) := ⟨plain_swap h.plain, by rw [swap_plain h.plain, len_mapT]; exact h.short⟩
theorem Wd.fits {x : Str} (h : Wd x) : tooLong x.length = false := Mine.fits (Nat.le_trans h.short (by decide))
theorem Wd.ok {x : Str} (h : Wd x) : PyData.strOk x = true := plain_ok h.plain
section
variable {prog : Program} {w : World} {A : Around} {E : Value → Shared → Prop} {s : Shared}
theorem item_ints {value slice : PySem.Expr} {a : Addr} {l : List Value} {ys : List Int} {k : Int} {u : Tok} {Q : Value → Shared → Prop} (hl : s.heap.IsList a l.toArray) (hi : IntsAre l ys)
    (h0 : 0 ≤ k) (hk : k < ys.length) (hfit : k < 2 ^ 63) (h : ∀ t', Q (.int (ys.getD k.toNat 0) t') s)
    (hs : subscripted slice false (.ref a) (.int k u) = operate [.ref a, .int k u] (getItem (.ref a) (.int k u)) := by with_unfolding_all rfl) (hg : ∀ r, letTemporaryGo value (.ref a) r = pure () := by intro _; with_unfolding_all rfl) :
    wpAny (model prog w) A (subscriptTail value slice (.ref a) (.int k u)) Q E s := by
  have hlt : k.toNat < ys.length := by omega
  have e : ys[k.toNat]? = some (ys.getD k.toNat 0) := by simp [List.getD, hlt]
  obtain ⟨t, ht⟩ := hi.get _ _ e
  exact item_listL hl h0 hfit ht (h t) hs hg
end
theorem getD_mem {α : Type} {l : List α} {i : Nat} {d : α} (h : i < l.length) : l.getD i d ∈ l := by
  have : l.getD i d = l[i] := by simp [List.getD, h]
  rw [this]
  exact List.getElem_mem h
theorem sw2 {α : Type} {x y : α} {l : List α} {p : α} (h : p ∈ x :: y :: l) : p ∈ y :: x :: l := by
  simp only [List.mem_cons] at h ⊢
  rcases h with h | h | h
  · exact .inr (.inl h)
  · exact .inl h
  · exact .inr (.inr h)
theorem off_cons {o : Obj} {T a : Addr} {l : List (Addr × Obj)} (h : T ≠ a) (ho : OwnOff l [a]) : OwnOff ((T, o) :: l) [a] := by
  intro p hp b hb
  rcases List.mem_cons.mp hp with rfl | hp
  · rw [List.mem_singleton.mp hb]; exact h
  · exact ho p hp b hb
theorem mem_sub {α : Type} {x p : α} {l l' : List α} (h : p ∈ x :: l) : p ∈ x :: (l ++ l') := by
  rcases List.mem_cons.mp h with rfl | h
  · exact .head _
  · exact .tail _ (List.mem_append_left _ h)
theorem PairsL.len {kp : List (Addr × Obj)} : ∀ {vs : List Value} {ps : List (Str × Str)}, PairsL kp vs ps → vs.length = ps.length
  | _, _, .nil => rfl
  | _, _, .cons _ r => by rw [List.length_cons, List.length_cons, PairsL.len r]
theorem prsTo_length (W : List Str) (fam : List Nat) (c i : Nat) : (prsTo W fam c i).length = i := by unfold prsTo; rw [List.length_map, List.length_range]
theorem fm_yes {i : Nat} (h : (i : Int).fmod 2 = 1) : i % 2 = 1 := by
  rw [Int.fmod_eq_emod_of_nonneg _ (by decide)] at h
  omega
theorem fm_no {i : Nat} (h : ¬ (i : Int).fmod 2 = 1) : ¬ i % 2 = 1 := by
  rw [Int.fmod_eq_emod_of_nonneg _ (by decide)] at h
  omega
theorem PairsAt.keepsD {h h' : Heap} {d : Addr} {od : Obj} (hd : h.get? d = some od) (hc : od.cls ≠ .type "tuple") (k : ∀ b o, b ≠ d → h.get? b = some o → h'.get? b = some o) : ∀ {vs : List Value} {ps : List (Str × Str)}, PairsAt h vs ps → PairsAt h' vs ps
  | _, _, .nil => .nil
  | _, _, .cons e r => .cons (k _ _ (fun q => by rw [q, hd] at e; cases e; exact hc rfl) e) (PairsAt.keepsD hd hc k r)
theorem prsTo_wd {W : List Str} {fam : List Nat} {c i : Nat} (hW : W.length = 16) (hWd : ∀ x ∈ W, Wd x) (hf : ∀ f ∈ fam, f < 16) (hi : i ≤ fam.length) : ∀ p ∈ prsTo W fam c i, Wd p.1 ∧ Wd p.2 := by
  intro p hp
  unfold prsTo at hp
  obtain ⟨k, hk, rfl⟩ := List.mem_map.mp hp
  have hk' : k < fam.length := Nat.lt_of_lt_of_le (List.mem_range.mp hk) hi
  have hfk := hf _ (getD_mem (d := 0) hk')
  have w1 : Wd (W.getD (fam.getD k 0 &&& c) Str.empty) := hWd _ (getD_mem (by rw [hW]; exact and_lt hfk))
  have w2 : Wd (W.getD (fam.getD k 0 &&& (15 - c)) Str.empty) := hWd _ (getD_mem (by rw [hW]; exact and_lt hfk))
  unfold prAt
  refine ⟨?_, w2⟩
  dsimp only
  split
  · exact w1.swap
  · exact w1
/-- a Headers in the heap h, all its objects made behind h₀ -/
noncomputable def TabAt (w : World) (h₀ h : Heap) (x : Addr) (ps : List (Str × Str)) : Prop :=
  ∃ dx l tq its n kp, h.get? x = some (instObj 169 dx) ∧ h.get? dx = some (hdrDict w tq l) ∧ h.get? l = some (PySem.W.listOf (List.toArray its) n) ∧ PairsL kp its ps ∧ (∀ p ∈ kp, h.get? p.1 = some p.2 ∧ p.2.cls = .type "tuple") ∧
    h₀.get? x = none ∧ h₀.get? dx = none ∧ h₀.get? l = none ∧ ∀ p ∈ kp, h₀.get? p.1 = none
theorem TabAt.keeps {w : World} {h₀ h h' : Heap} {x : Addr} {ps : List (Str × Str)} (t : TabAt w h₀ h x ps) (k : ∀ b o, h.get? b = some o → h'.get? b = some o) : TabAt w h₀ h' x ps := by
  obtain ⟨dx, l, tq, its, n, kp, h1, h2, h3, h4, h5, h6, h7, h8, h9⟩ := t
  exact ⟨dx, l, tq, its, n, kp, k _ _ h1, k _ _ h2, k _ _ h3, h4, fun p hp => ⟨k _ _ (h5 p hp).1, (h5 p hp).2⟩, h6, h7, h8, h9⟩
theorem none_of {h₀ h₁ : Heap} (k : ∀ b o, h₀.get? b = some o → h₁.get? b = some o) {a : Addr} (e : h₁.get? a = none) : h₀.get? a = none := by
  cases q : h₀.get? a with
  | none => rfl
  | some o => rw [k a o q] at e; cases e
theorem TabAt.base {w : World} {h₀ h₁ h : Heap} {x : Addr} {ps : List (Str × Str)} (t : TabAt w h₁ h x ps) (k : ∀ b o, h₀.get? b = some o → h₁.get? b = some o) : TabAt w h₀ h x ps := by
  obtain ⟨dx, l, tq, its, n, kp, h1, h2, h3, h4, h5, h6, h7, h8, h9⟩ := t
  exact ⟨dx, l, tq, its, n, kp, h1, h2, h3, h4, h5, none_of k h6, none_of k h7, none_of k h8, fun p hp => none_of k (h9 p hp)⟩
theorem hideF {base h : Heap} {L : Addr} {m : Str → Option Value} (as : List Addr) (F : Fr base L h m) : Fr (hideAll base as) L h m :=
  ⟨F.ns, fun b o e => F.keep b o (of_hideAll _ e), Nat.le_trans (Nat.le_of_eq (hideAll_size _ _)) F.above⟩
theorem hideN {base h : Heap} {L : Addr} {m : Str → Option Value} {news led : List (Addr × Obj)} {as : List Addr} (F : Fr base L h m) (N : News base L h news) (hl : ∀ p ∈ led, base.get? p.1 = some p.2 ∧ p.1 ∈ as) : News (hideAll base as) L h (led ++ news) := by
  intro p hp
  rcases List.mem_append.mp hp with hp | hp
  · have e := (hl p hp).1
    exact ⟨F.keep _ _ e, Nat.ne_of_lt (Nat.lt_of_lt_of_le (Heap.lt_size e) F.above), hideAll_none _ (hl p hp).2⟩
  · refine ⟨(N p hp).1, (N p hp).2.1, ?_⟩
    cases q : (hideAll base as).get? p.1 with
    | none => rfl
    | some o => have := of_hideAll _ q; rw [(N p hp).2.2] at this; cases this
theorem stays_hide {base h : Heap} {L : Addr} {m : Str → Option Value} {news led : List (Addr × Obj)} (F : Fr (hideAll base (led.map (·.1))) L h m) (N : ∀ p ∈ led, h.get? p.1 = some p.2) (hl : ∀ p ∈ led, base.get? p.1 = some p.2) : ∀ b o, base.get? b = some o → h.get? b = some o := by
  intro b o e
  by_cases hb : b ∈ led.map (·.1)
  · obtain ⟨p, hp, rfl⟩ := List.mem_map.mp hb
    rw [hl p hp] at e
    rw [N p hp, e]
  · exact F.keep b o (hideAll_get _ e hb)
theorem mem_back {α : Type} {c p : α} {l : List α} (h : p ∈ c :: l) : p ∈ l ++ [c] := by
  rcases List.mem_cons.mp h with rfl | h
  · exact List.mem_append_right _ (.head _)
  · exact List.mem_append_left _ h
theorem PairsL.get {kp : List (Addr × Obj)} : ∀ {vs : List Value} {ps : List (Str × Str)}, PairsL kp vs ps → ∀ {i : Nat} {v : Value}, vs[i]? = some v → ∃ a x y t t' n, v = .ref a ∧ ps[i]? = some (x, y) ∧ (a, ({ cls := .type "tuple", data := .seq #[.str x t, .str y t'] n } : Obj)) ∈ kp
  | _, _, .nil, i, v, e => by simp at e
  | _, _, .cons e r, 0, v, q => by
    simp at q; subst q
    exact ⟨_, _, _, _, _, _, rfl, rfl, e⟩
  | _, _, .cons e r, i + 1, v, q => by
    obtain ⟨a, x, y, t, t', n, h1, h2, h3⟩ := PairsL.get r (i := i) (v := v) (by simpa using q)
    exact ⟨a, x, y, t, t', n, h1, by simpa using h2, h3⟩
theorem take_some {α : Type} {l : List α} {i : Nat} {x : α} (h : l[i]? = some x) : l.take (i + 1) = l.take i ++ [x] := by
  rw [List.take_add_one, h]; rfl
/-- the values of a name -/
noncomputable def valsOf (ps : List (Str × Str)) (nm : Str) : List Str := (ps.filter fun p => Txt.lower p.1 == Txt.lower nm).map (·.2)
theorem valsOf_snoc (ps : List (Str × Str)) (p : Str × Str) (nm : Str) : valsOf (ps ++ [p]) nm = valsOf ps nm ++ if Txt.lower p.1 == Txt.lower nm then [p.2] else [] := by
  unfold valsOf
  rw [List.filter_append, List.map_append]
  congr 1
  by_cases h : (Txt.lower p.1 == Txt.lower nm) = true
  · rw [if_pos h]; simp [h]
  · rw [if_neg h]; simp [h]
section
variable {prog : Program} {w : World} {A : Around} {E : Value → Shared → Prop} {s : Shared}
theorem item_pair0 {value slice : PySem.Expr} {t : Addr} {v v' : Value} {n : Nat} {tk : Tok} {Q : Value → Shared → Prop} (hT : s.heap.get? t = some { cls := .type "tuple", data := .seq #[v, v'] n }) (h : Q v s)
    (hs : subscripted slice false (.ref t) (.int 0 tk) = operate [.ref t, .int 0 tk] (getItem (.ref t) (.int 0 tk)) := by with_unfolding_all rfl) (hg : ∀ r, letTemporaryGo value (.ref t) r = pure () := by intro _; with_unfolding_all rfl) :
    wpAny (model prog w) A (subscriptTail value slice (.ref t) (.int 0 tk)) Q E s :=
  item_tuple (j := 0) (items := #[v, v']) ⟨_, hT, rfl, _, rfl⟩ (by decide) (by decide) rfl rfl h hs hg
theorem item_pair1 {value slice : PySem.Expr} {t : Addr} {v v' : Value} {n : Nat} {tk : Tok} {Q : Value → Shared → Prop} (hT : s.heap.get? t = some { cls := .type "tuple", data := .seq #[v, v'] n }) (h : Q v' s)
    (hs : subscripted slice false (.ref t) (.int 1 tk) = operate [.ref t, .int 1 tk] (getItem (.ref t) (.int 1 tk)) := by with_unfolding_all rfl) (hg : ∀ r, letTemporaryGo value (.ref t) r = pure () := by intro _; with_unfolding_all rfl) :
    wpAny (model prog w) A (subscriptTail value slice (.ref t) (.int 1 tk)) Q E s :=
  item_tuple (j := 1) (items := #[v, v']) ⟨_, hT, rfl, _, rfl⟩ (by decide) (by decide) rfl rfl h hs hg
end
theorem off1_mem {D : Addr} : ∀ {l : List (Addr × Obj)}, LCg.Off1 D l → ∀ p ∈ l, p.1 ≠ D
  | [], _, _, h => nomatch h
  | _ :: _, x, p, h => by
    rcases List.mem_cons.mp h with rfl | h
    · exact x.1
    · exact off1_mem x.2 p h
theorem fresh_hide {base g : Heap} {D : Addr} {led : List (Addr × Obj)} (hgg : ∀ b o, base.get? b = some o → b ∉ led.map (·.1) → g.get? b = some o) (hD : g.get? D = none) (hne : ∀ p ∈ led, p.1 ≠ D) : base.get? D = none := by
  cases q : base.get? D with
  | none => rfl
  | some o =>
    have := hgg D o q (fun hm => by obtain ⟨p, hp, e⟩ := List.mem_map.mp hm; exact hne p hp e)
    rw [hD] at this; cases this
section
variable {prog : Program} {w : World} {A : Around} {h₀ : Heap} {L : Addr} {m : Str → Option Value} {env : Env} {elt : Expr} {x x₂ : Str} {scope : Scope} {cl : List (Str × Addr)} {s : Shared} {S : List (Addr × Obj) → Prop} {P : Nat → Value → Prop} {Fin : List Value → List (Addr × Obj) → Prop} {news : List (Addr × Obj)}
theorem comp_P {n : Nat} (Inv : Nat → List Value → List (Addr × Obj) → Prop) (h0 : Inv 0 [] news)
    (turn : ∀ i ys news v, i < n → P i v → Inv i ys news → ∃ (t : Addr) (ot : Obj) (v₁ v₂ : Value) (nt : Nat), v = .ref t ∧ (t, ot) ∈ news ∧ ot.cls = .type "tuple" ∧ ot.data = .seq #[v₁, v₂] nt ∧
      ∀ I oI C oC D m₂ h tk (E' : Value → Shared → Prop), LCg.NsObj oC m₂ → m₂ x = some v₁ → m₂ x₂ = some v₂ → Fr h₀ L h m → News h₀ L h ((I, oI) :: (C, oC) :: (D, LCg.lst ys) :: news) → LCg.Off3 I C D news → ((@Ne Nat I C) ∧ (@Ne Nat I D) ∧ (@Ne Nat C D)) →
      wpAny (model prog w) A (eval elt (compEnvC scope cl C env)) (LCg.CompEnd h₀ L m { s with heap := h, toks := tk } I oI C oC D (LCg.lst ys) S (fun y news' => Inv (i + 1) (ys ++ [y]) news')) E' { s with heap := h, toks := tk })
    (fin : ∀ ys news, Inv n ys news → Fin ys news) : LCp.CompRestP prog w A h₀ L m env elt x x₂ scope cl s S P Fin n 0 [] news := by
  have key : ∀ (j i : Nat) (ys : List Value) (news : List (Addr × Obj)), i + j = n → Inv i ys news → LCp.CompRestP prog w A h₀ L m env elt x x₂ scope cl s S P Fin j i ys news := by
    intro j
    induction j with
    | zero =>
      intro i ys news hi hy
      obtain rfl : i = n := by omega
      exact LCp.CompRestP.zero (fin ys news hy)
    | succ j ih =>
      intro i ys news hi hy
      refine LCp.CompRestP.succ ?_
      intro v hv
      obtain ⟨t, ot, v₁, v₂, nt, e1, e2, e3, e4, T⟩ := turn i ys news v (by omega) hv hy
      refine ⟨t, ot, v₁, v₂, nt, e1, e2, e3, e4, ?_⟩
      intro I oI C oC D m₂ h tk E' hC hx hx2 F N off ne
      refine wpAny_mono (T I oI C oC D m₂ h tk E' hC hx hx2 F N off ne) (fun y s₂ hq => ?_) fun _ _ e => e
      obtain ⟨h', tk', nw, e, F', N', off', hS, hn⟩ := hq
      exact ⟨h', tk', nw, e, F', N', off', hS, ih (i + 1) _ _ (by omega) hn⟩
  exact key n 0 [] news (by omega) h0
end
theorem binds_K2 {s : Shared} {K : Frag} {fd : FuncData} {args : Args} {binds : List (Str × Value)} {T d : Addr} {o od : Obj} {items : Array Value} {n nd : Nat} {es : Array DictEntry} {name : Str} {k : Option (Array Value) → Sem (List (Str × Value))} {k2 : Option Value → Sem (List (Str × Value))} (X : K.In s.heap)
    (hd : fd.defaults = .ref T) (ho : K.lookup T = some o) (hs : o.data = .seq items n) (hod : K.lookup d = some od) (hes : od.data = .dict es nd) (hsk : StrKeys es)
    (h₁ : bindArgs fd args = seqItems? fd.defaults >>= k) (h₂ : k (some items) = nsGet d name >>= k2) (h₃ : k2 (nsFind es name) = pure binds) : BindsTo s fd args binds := by
  intro M A E Q hq
  rw [h₁, hd]
  refine wpAny_bind (wpAny_seqItems (X _ _ ho) hs ?_)
  rw [h₂]
  refine wpAny_bind (wpAny_nsGet (m := nsFind es) ⟨od, es, nd, X _ _ hod, hes, hsk, fun _ => rfl⟩ ?_)
  rw [h₃]
  exact wpAny_pure hq
end

section
open PySem PySem.W PySem.Calls PyProof.Rows
variable {w : World} {mean : ExcName → Option Value} {mg mb : Str → Option Value}
local macro_rules | `(tactic| walk_at "mstop") => `(tactic| (with_reducible show wpAny _ _ (call (Value.builtin "str.swapcase") _) _ _ _))
local macro_rules | `(tactic| walk_at "mstop") => `(tactic| (with_reducible show wpAny _ _ (call (Value.builtin "list.append") _) _ _ _))
local macro_rules | `(tactic| walk_at "mstop") => `(tactic| (with_reducible show wpAny _ _ (subscriptTail (PySem.Expr.Name _ _) _ (Value.ref _) (Value.int _ _)) _ _ _))

set_option maxHeartbeats 4000000 in
theorem table_spec {A : Around} {s : Shared} {R : Result → Shared → Prop} {lf lt : Addr} {c : Nat} {tc : Tok} {fvs tvs : List Value} {fam : List Nat} {Ws : List Str} (G : Gd w mean mg mb s.heap) (r : Rm A 8 170)
   (hc : c < 16) (hlf : s.heap.IsList lf fvs.toArray) (hif : IntsAre fvs (fam.map Int.ofNat)) (hfl : fam.length ≤ 5) (hf16 : ∀ f ∈ fam, f < 16)
   (hlt : s.heap.IsList lt tvs.toArray) (hit : StrsAre tvs Ws) (hW : Ws.length = 16) (hWd : ∀ x ∈ Ws, Wd x)
   (hR : ∀ h' tk x, s.heap.StaysIn h' → TabAt w s.heap h' x (prsTo Ws fam c fam.length) → R (.ok (.ret (.ref x))) { s with heap := h', toks := tk })
   : codeAny (model PySem.Challenge.rw_rw0095_01.row.prog w) A (.call (.ref 228) ⟨[.int c tc, .ref lf, .ref lt], []⟩) R s := by
  obtain ⟨X, T⟩ := G
  obtain ⟨Ah, Ad, Af, Ag, Au⟩ := A
  obtain rfl : Ah = none := r.hd
  refine' enter (binds := [(Str.ofString "choice", .int c tc), (Str.ofString "family", .ref lf), (Str.ofString "told", .ref lt)]) X T.nolimit ?hr ?k6 ?k7 ?k9 ?kB ?_ ?c5 ?c6 ?c7 ?c8
  case hr => exact Nat.lt_of_le_of_lt (Nat.le_add_right _ _) r.dp
  case k6 => k_dflt k_is
  case k7 => k_dflt k_is
  case k9 => exact BindsTo.of_eq rfl
  case kB => exact locs rfl
  case c5 => decide
  case c6 => rfl
  case c7 => rfl
  case c8 => rfl
  intro L h₁ F N
  w_top on
  walk_at "mwl"
  refine newList_K (by assumption) (by assumption) ?_
  intro a' h2 F2 N2 l2
  have hlt2 : ∀ {h L m}, Fr s.heap L h m → h.IsList lt tvs.toArray := fun F => hlt.at fun o e => F.keep _ o e
  have hlf2 : ∀ {h L m}, Fr s.heap L h m → h.IsList lf fvs.toArray := fun F => hlf.at fun o e => F.keep _ o e
  walk_at "mw"
  rename IsRange _ _ _ _ _ _ _ _ => hrg
  rename Fr _ _ _ _ => F1
  rename News _ _ _ _ => N1
  have hcc : (15 : Int) - (c : Int) = ((15 - c : Nat) : Int) := by omega
  refine' for_range (n := (fam.map Int.ofNat).length) (news := [(a', W.listOf #[] 0)]) (kept := []) ?a1 ?a2 ?a3 ?a4 ?a5 ?a6
    (fun i m nx kp => (∀ p ∈ kp, p.2.cls = .type "tuple") ∧ (∃ its n, nx = [(a', W.listOf (List.toArray its) n)] ∧ PairsL kp its (prsTo Ws fam c i)) ∧ m (Str.ofString "pairs") = some (.ref a') ∧ m (Str.ofString "choice") = some (.int c tc) ∧ m (Str.ofString "family") = some (.ref lf) ∧ m (Str.ofString "told") = some (.ref lt)) ?a8 ?_ ?_ ?a9
  case a1 => rfl
  case a2 => exact hrg
  case a3 => rw [List.length_map]; omega
  case a4 => exact F1
  case a5 => exact N1
  case a6 => exact fun p hp => nomatch hp
  case a8 => exact ⟨fun p hp => (nomatch hp), ⟨[], _, rfl, .nil⟩, rfl, rfl, rfl, rfl⟩
  case a9 => intro _; rfl
  · rintro i ti m₁ nx kp own h tk hi ⟨hkc, ⟨its, n, rfl, hI⟩, hm1, hm2, hm3, hm4⟩ hnx hoff F' N'
    clear F1 hrg
    rw [List.length_map] at hi
    replace F' := fr_see4 F' hm1 hm2 hm3 hm4
    dsimp only [List.nil_append, List.cons_append] at N' hoff
    have hfi := hf16 _ (List.getElem_mem hi)
    have hfe : (fam.map Int.ofNat).getD i 0 = ((fam.getD i 0 : Nat) : Int) := by simp [List.getD, hi]
    have hfe2 : fam.getD i 0 = fam[i] := by simp [List.getD, hi]
    rw [← hfe2] at hfi
    refine wpAny_assign_Name ?_
    walk_at "mw"
    refine item_ints (hlf2 (by assumption)) hif (Int.natCast_nonneg _) (by rw [List.length_map]; exact Int.ofNat_lt.mpr hi) (Int.lt_trans (Int.ofNat_lt.mpr (Nat.lt_of_lt_of_le hi hfl)) (by decide)) ?_
    intro t1
    rw [Int.toNat_natCast, hfe]
    walk_at "mw"
    rw [and_nat]
    refine item_strsA (hlt2 (by assumption)) hit (Int.natCast_nonneg _) (by rw [hW]; exact Int.ofNat_lt.mpr (and_lt hfi)) (Int.lt_trans (Int.ofNat_lt.mpr (and_lt hfi)) (by decide)) ?_
    intro t2
    rw [Int.toNat_natCast]
    walk_at "mw"
    · rename Int.fmod _ 2 = 1 => hk1
      have hk2 : i % 2 = 1 := fm_yes hk1
      have hwn : Wd (Ws.getD (fam.getD i 0 &&& c) Str.empty) := hWd _ (getD_mem (by rw [hW]; exact and_lt hfi))
      refine SC.swapcase hwn.swap.fits ?_
      walk_at "mw"
      refine item_ints (hlf2 (by assumption)) hif (Int.natCast_nonneg _) (by rw [List.length_map]; exact Int.ofNat_lt.mpr hi) (Int.lt_trans (Int.ofNat_lt.mpr (Nat.lt_of_lt_of_le hi hfl)) (by decide)) ?_
      intro t3
      rw [Int.toNat_natCast, hfe]
      walk_at "mw"
      rw [hcc, and_nat]
      refine item_strsA (hlt2 (by assumption)) hit (Int.natCast_nonneg _) (by rw [hW]; exact Int.ofNat_lt.mpr (and_lt hfi)) (Int.lt_trans (Int.ofNat_lt.mpr (and_lt hfi)) (by decide)) ?_
      intro t4
      rw [Int.toNat_natCast]
      walk_at "mw"
      rename_i T9 _ F9 N9 l9
      refine app_led (by assumption) (fun p hp => N9 p (sw2 hp)) (own := (T9, _) :: (kp ++ own)) (off_cons (Nat.ne_of_gt l9.1) hoff) (.head _) (by have := PairsL.len hI; rw [sizeLine_eq, List.size_toArray, this, prsTo_length]; omega) ?_
      intro h5 F5 N5
      rw [List.push_toArray] at N5
      walk_at "mw"
      refine TurnEnd.next (nx := [(a', W.listOf (List.toArray (its ++ [.ref T9])) (n + 1))]) (kept := (T9, _) :: kp) F5 N5 in_head (fun p hp => .tail _ (mem_sub hp)) (fun p hp => .tail _ (.tail _ (List.mem_append_right _ hp))) rfl (fun p hp => ?_) ⟨fun p hp => ?_, ⟨_, _, rfl, ?_⟩, rfl, rfl, rfl, rfl⟩
      · rcases List.mem_cons.mp hp with rfl | hp
        · exact ⟨not_mem_one (Nat.ne_of_gt l9.1), cls_ne (by decide)⟩
        · exact ⟨fun q => hoff p (List.mem_append_left _ hp) _ q rfl, by rw [hkc p hp]; exact cls_ne (by decide)⟩
      · rcases List.mem_cons.mp hp with rfl | hp
        · rfl
        · exact hkc p hp
      · rw [prsTo_succ]
        have e : prAt Ws fam c i = (Txt.swapcase (Ws.getD (fam.getD i 0 &&& c) Str.empty), Ws.getD (fam.getD i 0 &&& (15 - c)) Str.empty) := by
          unfold prAt
          rw [if_pos hk2]
        rw [e]
        exact PairsL.snoc (.head _) (hI.mono fun p hp => .tail _ hp)
    · rename ¬ Int.fmod _ 2 = 1 => hk1
      have hk2 : ¬ i % 2 = 1 := fm_no hk1
      refine item_ints (hlf2 (by assumption)) hif (Int.natCast_nonneg _) (by rw [List.length_map]; exact Int.ofNat_lt.mpr hi) (Int.lt_trans (Int.ofNat_lt.mpr (Nat.lt_of_lt_of_le hi hfl)) (by decide)) ?_
      intro t3
      rw [Int.toNat_natCast, hfe]
      walk_at "mw"
      rw [hcc, and_nat]
      refine item_strsA (hlt2 (by assumption)) hit (Int.natCast_nonneg _) (by rw [hW]; exact Int.ofNat_lt.mpr (and_lt hfi)) (Int.lt_trans (Int.ofNat_lt.mpr (and_lt hfi)) (by decide)) ?_
      intro t4
      rw [Int.toNat_natCast]
      walk_at "mw"
      rename_i T9 _ F9 N9 l9
      refine app_led (by assumption) (fun p hp => N9 p (sw2 hp)) (own := (T9, _) :: (kp ++ own)) (off_cons (Nat.ne_of_gt l9.1) hoff) (.head _) (by have := PairsL.len hI; rw [sizeLine_eq, List.size_toArray, this, prsTo_length]; omega) ?_
      intro h5 F5 N5
      rw [List.push_toArray] at N5
      walk_at "mw"
      refine TurnEnd.next (nx := [(a', W.listOf (List.toArray (its ++ [.ref T9])) (n + 1))]) (kept := (T9, _) :: kp) F5 N5 in_head (fun p hp => .tail _ (mem_sub hp)) (fun p hp => .tail _ (.tail _ (List.mem_append_right _ hp))) rfl (fun p hp => ?_) ⟨fun p hp => ?_, ⟨_, _, rfl, ?_⟩, rfl, rfl, rfl, rfl⟩
      · rcases List.mem_cons.mp hp with rfl | hp
        · exact ⟨not_mem_one (Nat.ne_of_gt l9.1), cls_ne (by decide)⟩
        · exact ⟨fun q => hoff p (List.mem_append_left _ hp) _ q rfl, by rw [hkc p hp]; exact cls_ne (by decide)⟩
      · rcases List.mem_cons.mp hp with rfl | hp
        · rfl
        · exact hkc p hp
      · rw [prsTo_succ]
        have e : prAt Ws fam c i = (Ws.getD (fam.getD i 0 &&& c) Str.empty, Ws.getD (fam.getD i 0 &&& (15 - c)) Str.empty) := by
          unfold prAt
          rw [if_neg hk2]
        rw [e]
        exact PairsL.snoc (.head _) (hI.mono fun p hp => .tail _ hp)
  · rintro m₁ nx kp h tk ⟨hkc, ⟨its, n, rfl, hI⟩, hm1, hm2, hm3, hm4⟩ hnx hoff F' N'
    clear F1
    replace F' := fr_see4 F' hm1 hm2 hm3 hm4
    walk_at "mw"
    have hkk : ∀ b o, h.get? b = some o → h.get? b = some o := fun _ _ e => e
    refine call_cls (fI := 63) F' X N' (by k_is) (by k_is) (by k_is) ?_
    intro x dx h6 F6 N6 l6 l7
    have hpa : PairsAt h6 its (prsTo Ws fam c fam.length) := by
      rw [List.length_map] at hI
      exact hI.at fun p hp => (N6 p (.tail _ (.tail _ (.tail _ hp)))).1
    have nx6 := N6 _ (.head _)
    have nd6 := N6 _ (.tail _ (.head _))
    have nl6 := N6 _ (.tail _ (.tail _ (.head _)))
    have l8 : a' < dx := l6 _ (.head _)
    refine init_spec (h₀ := s.heap) X T F6.keep ?rm nx6.2.2 nd6.2.2 nx6.1 nd6.1 (Nat.ne_of_gt l7) nl6.1 (Nat.ne_of_lt (Nat.lt_trans l8 l7)) (Nat.ne_of_lt l8) hpa ?pl ?le ?_
    case rm =>
      have h1 : Ad + 8 < recursionLimit := r.dp
      have h2 : Au + 170 < cLine := r.un
      refine ⟨rfl, ?_, ?_⟩
      · show Ad + 1 + 1 + 5 < recursionLimit
        omega
      · show Au + 3 + 1 + 130 < cLine
        omega
    case pl => exact fun p hp => ⟨(prsTo_wd hW hWd hf16 (Nat.le_refl _) p hp).1.plain, (prsTo_wd hW hWd hf16 (Nat.le_refl _) p hp).2.plain⟩
    case le => rw [prsTo_length]; omega
    intro h7 tk7 tq k7 d7
    refine ⟨rfl, ?_⟩
    walk_at "mw"
    rw [List.length_map] at hI
    refine hR _ _ x (fun b o e => k7 b o (fun q => by rw [q, nd6.2.2] at e; cases e) (F6.keep b o e)) ⟨dx, a', tq, its, n, kp, k7 _ _ (Nat.ne_of_gt l7) nx6.1, d7, k7 _ _ (Nat.ne_of_lt l8) nl6.1, hI, fun p hp => ⟨?_, hkc p hp⟩, nx6.2.2, nd6.2.2, nl6.2.2, fun p hp => (N6 p (.tail _ (.tail _ (.tail _ hp)))).2.2⟩
    have e := (N6 p (.tail _ (.tail _ (.tail _ hp)))).1
    refine k7 _ _ (fun q => ?_) e
    rw [q, nd6.1] at e
    have hc2 := hkc p hp
    rw [← Option.some.inj e] at hc2
    exact absurd hc2 (cls_ne (by decide))

end

local macro_rules | `(tactic| walk_at "call builtin:str.lower") => `(tactic| (refine SC.lower (Wd.fits (Wd.lower (by assumption))) ?_))
local macro_rules | `(tactic| walk_at "call builtin:str.upper") => `(tactic| (refine SC.upper (Wd.fits (Wd.upper (by assumption))) ?_))

section
open PySem PySem.W PySem.Calls PyProof.Rows
variable {w : World} {mean : ExcName → Option Value} {mg mb : Str → Option Value}
local macro_rules | `(tactic| walk_at "mstop") => `(tactic| (with_reducible show wpAny _ _ (subscriptTail (PySem.Expr.Name _ _) (PySem.Expr.Constant _ _ _) (Value.ref _) (Value.int _ _)) _ _ _))
set_option maxHeartbeats 4000000 in
theorem getall_spec {A : Around} {s : Shared} {R : Result → Shared → Prop} {h₀ : Heap} {x : Addr} {ps : List (Str × Str)} {nm : Str} {tn : Tok} (X₀ : (hd.heap_1 w.params).In h₀) (T₀ : Top hd.view_1 lse mean mg mb h₀) (st : ∀ b o, h₀.get? b = some o → s.heap.get? b = some o) (r : Rm A 6 150)
   (tab : TabAt w h₀ s.heap x ps) (hps : ∀ p ∈ ps, Wd p.1 ∧ Wd p.2) (hnm : Wd nm) (hlen : ps.length ≤ 5)
   (hR : ∀ a' h' tk its n, s.heap.StaysIn h' → s.heap.get? a' = none → h'.get? a' = some (PySem.W.listOf (List.toArray its) n) → StrsAre its (valsOf ps nm) → R (.ok (.ret (.ref a'))) { s with heap := h', toks := tk })
   : codeAny (model PySem.Challenge.rw_rw0095_01.row.prog w) A (.call (.ref 108) ⟨[.ref x, .str nm tn], []⟩) R s := by
  have G : Gd w mean mg mb s.heap := ⟨X₀.keeps st, T₀.keeps st⟩
  obtain ⟨X, T⟩ := G
  obtain ⟨Ah, Ad, Af, Ag, Au⟩ := A
  obtain rfl : Ah = none := r.hd
  refine' enterC (binds := [(Str.ofString "self", .ref x), (Str.ofString "name", .str nm tn)]) X T.nolimit ?hr ?k6 ?k7 ?k9 ?kB ?kn ?_ ?c6 ?c7 ?c8
  case hr => exact Nat.lt_of_le_of_lt (Nat.le_add_right _ _) r.dp
  case k6 => k_dflt k_is
  case k7 => k_dflt k_is
  case k9 => exact BindsTo.of_eq rfl
  case kB => rfl
  case kn => decide
  case c6 => rfl
  case c7 => rfl
  case c8 => rfl
  intro L h₁ tk₁ cells F N CL
  w_top on
  obtain ⟨oc, rfl, d1⟩ := CellsAre.one CL
  replace d1 : oc.data = .cell (some (.str nm tn)) := d1
  clear CL
  obtain ⟨dx, l, tq, its, n, kp, t1, t2, t3, t4, t5, f1, f2, f3, f4⟩ := tab
  have hl : ∀ p ∈ (x, instObj 169 dx) :: (dx, hdrDict w tq l) :: (l, PySem.W.listOf (List.toArray its) n) :: kp, s.heap.get? p.1 = some p.2 ∧ h₀.get? p.1 = none := by
    intro p hp
    rcases List.mem_cons.mp hp with rfl | hp
    · exact ⟨t1, f1⟩
    · rcases List.mem_cons.mp hp with rfl | hp
      · exact ⟨t2, f2⟩
      · rcases List.mem_cons.mp hp with rfl | hp
        · exact ⟨t3, f3⟩
        · exact ⟨(t5 p hp).1, f4 p hp⟩
  have hgk := hide_keeps (as := ((x, instObj 169 dx) :: (dx, hdrDict w tq l) :: (l, PySem.W.listOf (List.toArray its) n) :: kp).map (·.1)) st (fun a ha => by
    obtain ⟨p, hp, rfl⟩ := List.mem_map.mp ha
    exact (hl p hp).2)
  have N1 := hideN F N (led := (x, instObj 169 dx) :: (dx, hdrDict w tq l) :: (l, PySem.W.listOf (List.toArray its) n) :: kp) fun p hp => ⟨(hl p hp).1, List.mem_map_of_mem hp⟩
  have F1 := hideF (((x, instObj 169 dx) :: (dx, hdrDict w tq l) :: (l, PySem.W.listOf (List.toArray its) n) :: kp).map (·.1)) F
  have stays : ∀ {h L m}, Fr (hideAll s.heap (((x, instObj 169 dx) :: (dx, hdrDict w tq l) :: (l, PySem.W.listOf (List.toArray its) n) :: kp).map (·.1))) L h m → (∀ p ∈ (x, instObj 169 dx) :: (dx, hdrDict w tq l) :: (l, PySem.W.listOf (List.toArray its) n) :: kp, h.get? p.1 = some p.2) → ∀ b o, s.heap.get? b = some o → h.get? b = some o := fun F N => stays_hide (news := []) F N fun p hp => (hl p hp).1
  have hLs := F.above
  have hgg : ∀ b o, s.heap.get? b = some o → b ∉ ((x, instObj 169 dx) :: (dx, hdrDict w tq l) :: (l, PySem.W.listOf (List.toArray its) n) :: kp).map (·.1) → (hideAll s.heap (((x, instObj 169 dx) :: (dx, hdrDict w tq l) :: (l, PySem.W.listOf (List.toArray its) n) :: kp).map (·.1))).get? b = some o := fun b o e hb => hideAll_get _ e hb
  have hne : ∀ p ∈ (x, instObj 169 dx) :: (dx, hdrDict w tq l) :: (l, PySem.W.listOf (List.toArray its) n) :: kp, p.1 ≠ L + 1 := fun p hp q => by
    have := Heap.lt_size (hl p hp).1
    rw [q] at this
    exact absurd (Nat.lt_of_lt_of_le this hLs) (Nat.not_lt.mpr (Nat.le_succ L))
  clear X T F N
  generalize hideAll s.heap (((x, instObj 169 dx) :: (dx, hdrDict w tq l) :: (l, PySem.W.listOf (List.toArray its) n) :: kp).map (·.1)) = g at *
  have X := X₀.keeps hgk
  have T := T₀.keeps hgk
  replace N1 : News g L h₁ ((L + 1, oc) :: (x, instObj 169 dx) :: (dx, hdrDict w tq l) :: (l, PySem.W.listOf (List.toArray its) n) :: kp) := fun p hp => N1 p (mem_back hp)
  walk_at "mw"
  rename Fr _ _ _ _ => F3
  rename News _ _ _ _ => N3
  refine wpAny_call (conv_spec (b := true) (Gd.fr X T F3) ((Rm.deeper (d := 5) (u := 147) r).less (by decide) (by decide)) hnm.lower.plain ?_)
  intro h4 tk4 hk4
  replace F3 := F3.keeps hk4
  replace N3 := N3.grown hk4
  walk_at "mw"
  refine storeX_C F3 N3 (by rfl) (UpdF.head hne) d1 ?_
  clear F3 N3
  intro h5 oc5 F5 N5 d5
  walk_at "mw"
  walk_at "compT"
  walk_at "mw"
  k_unfold
  try dsimp only
  refine LCt.CompSrcT.ledger rfl F5 N5 (.tail _ (.tail _ (.tail _ (.head _)))) (by rw [sizeLine_eq, List.size_toArray, t4.len]; omega) ?_
  intro g'
  refine comp_T (fun i ys nw => nw = _ ∧ StrsAre ys (valsOf (ps.take i) nm)) ⟨rfl, .nil⟩ ?_ ?_
  · rintro i ys _ v I oI C oC D m₂ h tk E' hi4 hv ⟨rfl, hy⟩ hC hx F6 N6 off ne
    obtain ⟨ta, k1, v1, u1, u2, n2, rfl, hps2, hmem⟩ := t4.get (by simpa using hv)
    have hw := hps _ (List.mem_of_getElem? hps2)
    have hw1 : Wd k1 := hw.1
    have hT := N6 _ (.tail _ (.tail _ (.tail _ (.tail _ (.tail _ (.tail _ (.tail _ hmem)))))))
    walk_at "mw"
    refine item_pair0 hT.1 ?_
    walk_at "mw"
    · refine item_pair1 hT.1 ?_
      rename (_ == _) = true => hc9
      refine LCg.CompEnd.intro F6 N6 _ (fun p hp => hp) off (.inr ⟨_, .tail _ (.tail _ (.tail _ (.head _))), rfl, _, rfl⟩) ⟨rfl, ?_⟩
      rw [take_some hps2, valsOf_snoc, if_pos hc9]
      exact strs_snoc hy _ _
    · rename (_ == _) = false => hc9
      refine LCg.CompEnd.intro F6 N6 _ (fun p hp => hp) off (.inr ⟨_, .tail _ (.tail _ (.tail _ (.head _))), rfl, _, rfl⟩) ⟨rfl, ?_⟩
      rw [take_some hps2, valsOf_snoc, if_neg (by rw [hc9]; decide), List.append_nil]
      exact hy
  · rintro ys _ ⟨rfl, hy⟩
    walk_at "mw"
    rename Fr _ _ _ _ => F7
    rename News _ _ _ _ => N7
    refine hR _ _ _ _ _ (stays F7 fun p hp => (N7 p (.tail _ (.tail _ hp))).1) ?_ (N7 _ (.head _)).1 ?_
    · rename _ ∧ _ => o1
      exact fresh_hide hgg (N7 _ (.head _)).2.2 (off1_mem o1.2)
    · rw [List.size_toArray, t4.len, List.take_length] at hy
      exact hy

end

local macro_rules | `(tactic| walk_at "compP") => `(tactic| (k_dflt (refine LCp.ListComp_P (F₀ := by k_asm) (by with_unfolding_all rfl) (by decide) (by rfl) (by decide) (by rfl) (by rfl) (by decide) ?_)))
local macro_rules | `(tactic| walk_at "mstop") => `(tactic| (with_reducible show LCp.SrcLP _ _ _ _ _ _ _ _ _ _ _ _ _ _ _))

section
open PySem PySem.W PySem.Calls PyProof.Rows
variable {w : World} {mean : ExcName → Option Value} {mg mb : Str → Option Value}
set_option maxHeartbeats 4000000 in
theorem keys_spec {A : Around} {s : Shared} {R : Result → Shared → Prop} {h₀ : Heap} {x : Addr} {ps : List (Str × Str)} (X₀ : (hd.heap_1 w.params).In h₀) (T₀ : Top hd.view_1 lse mean mg mb h₀) (st : ∀ b o, h₀.get? b = some o → s.heap.get? b = some o) (r : Rm A 6 150)
   (tab : TabAt w h₀ s.heap x ps) (hlen : ps.length ≤ 5)
   (hR : ∀ a' h' tk its n, s.heap.StaysIn h' → s.heap.get? a' = none → h'.get? a' = some (PySem.W.listOf (List.toArray its) n) → StrsAre its (ps.map (·.1)) → R (.ok (.ret (.ref a'))) { s with heap := h', toks := tk })
   : codeAny (model PySem.Challenge.rw_rw0095_01.row.prog w) A (.call (.ref 121) ⟨[.ref x], []⟩) R s := by
  have G : Gd w mean mg mb s.heap := ⟨X₀.keeps st, T₀.keeps st⟩
  obtain ⟨X, T⟩ := G
  obtain ⟨Ah, Ad, Af, Ag, Au⟩ := A
  obtain rfl : Ah = none := r.hd
  refine' enter (binds := [(Str.ofString "self", .ref x)]) X T.nolimit ?hr ?k6 ?k7 ?k9 ?kB ?_ ?c5 ?c6 ?c7 ?c8
  case hr => exact Nat.lt_of_le_of_lt (Nat.le_add_right _ _) r.dp
  case k6 => k_dflt k_is
  case k7 => k_dflt k_is
  case k9 => exact BindsTo.of_eq rfl
  case kB => exact locs rfl
  case c5 => decide
  case c6 => rfl
  case c7 => rfl
  case c8 => rfl
  intro L h₁ F N
  w_top on
  obtain ⟨dx, l, tq, its, n, kp, t1, t2, t3, t4, t5, f1, f2, f3, f4⟩ := tab
  have hl : ∀ p ∈ (x, instObj 169 dx) :: (dx, hdrDict w tq l) :: (l, PySem.W.listOf (List.toArray its) n) :: kp, s.heap.get? p.1 = some p.2 ∧ h₀.get? p.1 = none := by
    intro p hp
    rcases List.mem_cons.mp hp with rfl | hp
    · exact ⟨t1, f1⟩
    · rcases List.mem_cons.mp hp with rfl | hp
      · exact ⟨t2, f2⟩
      · rcases List.mem_cons.mp hp with rfl | hp
        · exact ⟨t3, f3⟩
        · exact ⟨(t5 p hp).1, f4 p hp⟩
  have hgk := hide_keeps (as := ((x, instObj 169 dx) :: (dx, hdrDict w tq l) :: (l, PySem.W.listOf (List.toArray its) n) :: kp).map (·.1)) st (fun a ha => by
    obtain ⟨p, hp, rfl⟩ := List.mem_map.mp ha
    exact (hl p hp).2)
  have N1 := hideN F N (led := (x, instObj 169 dx) :: (dx, hdrDict w tq l) :: (l, PySem.W.listOf (List.toArray its) n) :: kp) fun p hp => ⟨(hl p hp).1, List.mem_map_of_mem hp⟩
  have F1 := hideF (((x, instObj 169 dx) :: (dx, hdrDict w tq l) :: (l, PySem.W.listOf (List.toArray its) n) :: kp).map (·.1)) F
  have stays : ∀ {h L m}, Fr (hideAll s.heap (((x, instObj 169 dx) :: (dx, hdrDict w tq l) :: (l, PySem.W.listOf (List.toArray its) n) :: kp).map (·.1))) L h m → (∀ p ∈ (x, instObj 169 dx) :: (dx, hdrDict w tq l) :: (l, PySem.W.listOf (List.toArray its) n) :: kp, h.get? p.1 = some p.2) → ∀ b o, s.heap.get? b = some o → h.get? b = some o := fun F N => stays_hide (news := []) F N fun p hp => (hl p hp).1
  have hLs := F.above
  have hgg : ∀ b o, s.heap.get? b = some o → b ∉ ((x, instObj 169 dx) :: (dx, hdrDict w tq l) :: (l, PySem.W.listOf (List.toArray its) n) :: kp).map (·.1) → (hideAll s.heap (((x, instObj 169 dx) :: (dx, hdrDict w tq l) :: (l, PySem.W.listOf (List.toArray its) n) :: kp).map (·.1))).get? b = some o := fun b o e hb => hideAll_get _ e hb
  have hne : ∀ p ∈ (x, instObj 169 dx) :: (dx, hdrDict w tq l) :: (l, PySem.W.listOf (List.toArray its) n) :: kp, p.1 ≠ L + 1 := fun p hp q => by
    have := Heap.lt_size (hl p hp).1
    rw [q] at this
    exact absurd (Nat.lt_of_lt_of_le this hLs) (Nat.not_lt.mpr (Nat.le_succ L))
  clear X T F N
  generalize hideAll s.heap (((x, instObj 169 dx) :: (dx, hdrDict w tq l) :: (l, PySem.W.listOf (List.toArray its) n) :: kp).map (·.1)) = g at *
  have X := X₀.keeps hgk
  have T := T₀.keeps hgk
  rw [List.append_nil] at N1
  walk_at "mw"
  walk_at "compP"
  walk_at "mw"
  k_unfold
  try dsimp only
  refine LCp.SrcLP.ledger rfl (by assumption) (by assumption) (.tail _ (.tail _ (.head _))) (by rw [sizeLine_eq, List.size_toArray, t4.len]; omega) ?_
  intro g'
  refine comp_P (fun i ys nw => nw = _ ∧ StrsAre ys ((ps.take i).map (·.1))) ⟨rfl, .nil⟩ ?_ ?_
  · rintro i ys _ v hi4 hv ⟨rfl, hy⟩
    obtain ⟨ta, k1, v1, u1, u2, n2, rfl, hps2, hmem⟩ := t4.get (by simpa using hv)
    refine ⟨ta, _, _, _, _, rfl, .tail _ (.tail _ (.tail _ hmem)), rfl, rfl, ?_⟩
    intro I oI C oC D m₂ h tk E' hC hx hx2 F6 N6 off ne
    walk_at "mw"
    refine LCg.CompEnd.intro F6 N6 _ (fun p hp => hp) off (.inr ⟨_, .tail _ (.tail _ (.head _)), rfl, _, rfl⟩) ⟨rfl, ?_⟩
    rw [take_some hps2, List.map_append]
    exact strs_snoc hy _ _
  · rintro ys _ ⟨rfl, hy⟩
    walk_at "mw"
    rename Fr _ _ _ _ => F7
    rename News _ _ _ _ => N7
    refine hR _ _ _ _ _ (stays F7 fun p hp => (N7 p (.tail _ hp)).1) ?_ (N7 _ (.head _)).1 ?_
    · rename _ ∧ _ => o1
      exact fresh_hide hgg (N7 _ (.head _)).2.2 (off1_mem o1)
    · rw [List.size_toArray, t4.len, List.take_length] at hy
      exact hy

end

section
open PySem PySem.W PySem.Calls PyProof.Rows
theorem wp_else {M : Model} {A : Around} {α : Type} {c : Bool} {t e : Sem α} {Q : α → Shared → Prop} {E : Value → Shared → Prop} {s : Shared} (h : wpAny M A e Q E s) (hc : c = false) : wpAny M A (if c = true then t else e) Q E s := by
  subst hc; exact h
theorem wp_then {M : Model} {A : Around} {α : Type} {c : Bool} {t e : Sem α} {Q : α → Shared → Prop} {E : Value → Shared → Prop} {s : Shared} (h : wpAny M A t Q E s) (hc : c = true) : wpAny M A (if c = true then t else e) Q E s := by
  subst hc; exact h
set_option maxHeartbeats 1000000 in
theorem binds_bis {s : Shared} {fd : FuncData} {a x : Value} {T d : Addr} {o od : Obj} {n nd : Nat} {es : Array DictEntry} {t : Tok} {p1 p2 p3 p4 p5 : Pos} {kd : List (Option Expr)} {dd : List Expr}
    (hp : fd.params = { posonlyargs := [], args := [⟨Str.ofString "a", none, p1⟩, ⟨Str.ofString "x", none, p2⟩, ⟨Str.ofString "lo", none, p3⟩, ⟨Str.ofString "hi", none, p4⟩], vararg := none, kwonlyargs := [⟨Str.ofString "key", none, p5⟩], kw_defaults := kd, kwarg := none, defaults := dd })
    (hd : fd.defaults = .ref T) (hk : fd.kwdefaults = .ref d) (ho : s.heap.get? T = some o) (hs : o.data = .seq #[.int 0 t, .none] n) (hod : s.heap.get? d = some od) (hes : od.data = .dict es nd) (hsk : StrKeys es) (hf : nsFind es (Str.ofString "key") = some .none) :
    BindsTo s fd ⟨[a, x], []⟩ [(Str.ofString "a", a), (Str.ofString "x", x), (Str.ofString "lo", .int 0 t), (Str.ofString "hi", .none), (Str.ofString "key", .none)] := by
  intro M A E Q hq
  unfold bindArgs
  rw [hp, hd, hk]
  dsimp only
  rw [List.forIn_nil]
  refine wpAny_bind (wpAny_pure ?_)
  refine wpAny_bind (wpAny_seqItems ho hs ?_)
  dsimp only
  refine' wp_else ?_ ?h1
  case h1 => rfl
  refine' wp_else ?_ ?h2
  case h2 => rfl
  refine wpAny_bind ?_
  show wpAny _ _ (forIn [(Str.ofString "lo", Value.int 0 t), (Str.ofString "hi", Value.none)] [(Str.ofString "a", a), (Str.ofString "x", x)] _) _ _ _
  rw [List.forIn_cons]
  refine wpAny_bind ?_
  dsimp only
  refine' wp_then ?_ ?h3
  case h3 => rfl
  refine wpAny_pure ?_
  dsimp only
  rw [List.forIn_cons]
  refine wpAny_bind ?_
  refine' wp_then ?_ ?h4
  case h4 => rfl
  refine wpAny_pure ?_
  dsimp only
  rw [List.forIn_nil]
  refine wpAny_pure ?_
  refine wpAny_bind ?_
  show wpAny _ _ (forIn [Str.ofString "key"] _ _) _ _ _
  rw [List.forIn_cons]
  refine wpAny_bind ?_
  refine' wp_then ?_ ?h5
  case h5 => rfl
  refine wpAny_bind (wpAny_nsGet (m := nsFind es) ⟨od, es, nd, hod, hes, hsk, fun _ => rfl⟩ ?_)
  rw [hf]
  refine wpAny_pure ?_
  dsimp only
  rw [List.forIn_nil]
  refine wpAny_pure ?_
  refine' wp_else ?_ ?h6
  case h6 => rfl
  exact wpAny_pure hq
/-- how a turn of a while ends -/
noncomputable def WhEnd (h₀ : Heap) (L : Addr) (news : List (Addr × Obj)) (k : Nat) (J : Nat → (Str → Option Value) → Prop) (s₁ : Shared) (Q : Flow → Shared → Prop) (f : Flow) (s₃ : Shared) : Prop :=
  match f with
  | .ret v => Q (.ret v) s₃
  | .brk => Q .next s₃
  | _ => ∃ k' h' tk m', k' < k ∧ s₃ = { s₁ with heap := h', toks := tk } ∧ Fr h₀ L h' m' ∧ News h₀ L h' news ∧ J k' m'
theorem WhEnd.next {h₀ h' : Heap} {L : Addr} {news : List (Addr × Obj)} {k k' : Nat} {J : Nat → (Str → Option Value) → Prop} {s₁ : Shared} {Q : Flow → Shared → Prop} {tk : Nat} {m' : Str → Option Value}
    (F : Fr h₀ L h' m') (N : News h₀ L h' news) (hk : k' < k) (hJ : J k' m') : WhEnd h₀ L news k J s₁ Q .next { s₁ with heap := h', toks := tk } := ⟨k', h', tk, m', hk, rfl, F, N, hJ⟩
section
variable {prog : Program} {w : World} {A : Around} {s : Shared} {env : Env} {h₀ : Heap}
theorem while_led {Q : Flow → Shared → Prop} {test : Expr} {body orelse : List Stmt} {pos : Pos} {m : Str → Option Value} {news : List (Addr × Obj)} (k : Nat) (J : Nat → (Str → Option Value) → Prop)
    (F : Fr h₀ env.locals s.heap m) (N : News h₀ env.locals s.heap news) (h0 : J k m)
    (turn : ∀ k m₁ h tk, J k m₁ → Fr h₀ env.locals h m₁ → News h₀ env.locals h news →
      wpAny (model prog w) A (isTrue test env (eval test env)) (fun b s₂ => if b = true then wpAny (model prog w) A (execs body env) (WhEnd h₀ env.locals news k J { s with heap := h, toks := tk } Q) (fun _ _ => False) s₂
        else wpAny (model prog w) A (execs orelse env) Q (fun _ _ => False) s₂) (fun _ _ => False) { s with heap := h, toks := tk }) :
    wpAny (model prog w) A (exec (.While test body orelse pos) env) Q (fun _ _ => False) s := by
  refine wpAny_While ?_
  refine codeAny_whileLoop (fun k s' => ∃ h' tk m', s' = { s with heap := h', toks := tk } ∧ Fr h₀ env.locals h' m' ∧ News h₀ env.locals h' news ∧ J k m') ?_ k ⟨s.heap, s.toks, m, rfl, F, N, h0⟩
  rintro k s' ⟨h', tk, m', rfl, F', N', hJ⟩
  refine wpAny_mono (turn k m' h' tk hJ F' N') (fun b s₂ h₂ => ?_) fun _ _ e => e.elim
  cases b with
  | true =>
    rw [if_pos rfl] at h₂ ⊢
    refine wpAny_mono h₂ (fun f s₃ h₃ => ?_) fun _ _ e => e.elim
    cases f with
    | ret v => exact h₃
    | brk => exact h₃
    | next => obtain ⟨k', h₄, tk₄, m₄, hk, rfl, F₄, N₄, J₄⟩ := h₃; exact ⟨k', hk, h₄, tk₄, m₄, rfl, F₄, N₄, J₄⟩
    | cont => obtain ⟨k', h₄, tk₄, m₄, hk, rfl, F₄, N₄, J₄⟩ := h₃; exact ⟨k', hk, h₄, tk₄, m₄, rfl, F₄, N₄, J₄⟩
  | false =>
    rw [if_neg (by decide)] at h₂ ⊢
    exact wpAny_mono h₂ (fun _ _ x => x) fun _ _ e => e.elim
end
/-- the order of texts -/
noncomputable def sLt (x y : Str) : Bool := decide (x.cps.toList < y.cps.toList)
theorem mid_eq (lo hi : Nat) : ((lo : Int) + (hi : Int)).fdiv 2 = (((lo + hi) / 2 : Nat) : Int) := by
  rw [Int.fdiv_eq_ediv_of_nonneg _ (by decide)]
  omega
end

local macro_rules | `(tactic| walk_at "mstop") => `(tactic| (with_reducible show wpAny _ _ (exec (PySem.Stmt.While _ _ _ _) _) _ _ _))

section
open PySem PySem.W PySem.Calls PyProof.Rows
variable {w : World} {mean : ExcName → Option Value} {mg mb : Str → Option Value}
local macro_rules | `(tactic| walk_at "mstop") => `(tactic| (with_reducible show wpAny _ _ (subscriptTail (PySem.Expr.Name _ _) _ (Value.ref _) (Value.int _ _)) _ _ _))
set_option maxHeartbeats 4000000 in
theorem bis_spec {A : Around} {s : Shared} {R : Result → Shared → Prop} {l : Addr} {y : Str} {ty : Tok} {vs : List Value} {ns : List Str} (G : Gd w mean mg mb s.heap) (r : Rm A 3 100)
   (hl : s.heap.IsList l vs.toArray) (hS : StrsAre vs ns) (hn : ns.length ≤ 100) {p : Nat → Bool} (hp : ∀ j, j < ns.length → p j = sLt (ns.getD j Str.empty) y) (mono : ∀ i j, i ≤ j → j < ns.length → p j = true → p i = true)
   (hR : ∀ h' tk t (b : Nat), s.heap.StaysIn h' → b ≤ ns.length → (∀ j, j < b → p j = true) → (∀ j, b ≤ j → j < ns.length → p j = false) → R (.ok (.ret (.int b t))) { s with heap := h', toks := tk })
   : codeAny (model PySem.Challenge.rw_rw0095_01.row.prog w) A (.call (.ref 182) ⟨[.ref l, .str y ty], []⟩) R s := by
  obtain ⟨X, T⟩ := G
  obtain ⟨Ah, Ad, Af, Ag, Au⟩ := A
  obtain rfl : Ah = none := r.hd
  refine' enter (binds := [(Str.ofString "a", .ref l), (Str.ofString "x", .str y ty), (Str.ofString "lo", .int 0 507), (Str.ofString "hi", .none), (Str.ofString "key", .none)]) X T.nolimit ?hr ?k6 ?k7 ?k9 ?kB ?_ ?c5 ?c6 ?c7 ?c8
  case hr => exact Nat.lt_of_le_of_lt (Nat.le_add_right _ _) r.dp
  case k6 => k_dflt k_is
  case k7 => k_dflt k_is
  case kB => exact locs rfl
  case c5 => decide
  case c6 => rfl
  case c7 => rfl
  case c8 => rfl
  case k9 =>
    have x174 := X 174 _ (by k_is)
    have x175 := X 175 _ (by k_is)
    refine' binds_bis rfl rfl rfl x174 rfl x175 rfl ?sk ?nf
    case nf => rfl
    case sk =>
      intro e he
      simp only [List.mem_toArray, List.mem_singleton, Array.mem_singleton] at he
      subst he
      exact ⟨_, _, rfl⟩
  intro L h₁ F N
  w_top on
  walk_at "mw"
  rename Fr _ _ _ _ => F1
  rename News _ _ _ _ => N1
  refine while_led (ns.length) (fun k m => ∃ (lo hi : Nat) (t1 t2 : Tok), lo ≤ hi ∧ hi ≤ ns.length ∧ hi - lo ≤ k ∧ (∀ j, j < lo → p j = true) ∧ (∀ j, hi ≤ j → j < ns.length → p j = false) ∧
    m (Str.ofString "a") = some (.ref l) ∧ m (Str.ofString "x") = some (.str y ty) ∧ m (Str.ofString "lo") = some (.int lo t1) ∧ m (Str.ofString "hi") = some (.int hi t2)) F1 N1 ⟨0, ns.length, _, _, Nat.zero_le _, Nat.le_refl _, Nat.le_refl _, fun j h => absurd h (Nat.not_lt_zero j), fun j h1 h2 => absurd h2 (Nat.not_lt.mpr h1), rfl, rfl, rfl, rfl⟩ ?_
  rintro k m₁ h tk ⟨lo, hi, t1, t2, h1, h2, h3, h4, h5, hm1, hm2, hm3, hm4⟩ F' N'
  clear F1 N1
  replace F' := fr_see4 F' hm1 hm2 hm3 hm4
  walk_at "mw"
  · rename (_ : Int) < _ => hlt
    have hlt := Int.ofNat_lt.mp hlt
    have hm1 : (lo + hi) / 2 < hi := by omega
    have hm2 : lo ≤ (lo + hi) / 2 := by omega
    rw [mid_eq]
    refine item_strsA (hl.at fun o e => (show Fr _ _ _ _ by assumption).keep _ o e) (by assumption) (Int.natCast_nonneg _) (Int.ofNat_lt.mpr (Nat.lt_of_lt_of_le hm1 h2)) (Int.lt_trans (Int.ofNat_lt.mpr (show (lo + hi) / 2 < 200 by omega)) (by decide)) ?_
    intro t'
    rw [Int.toNat_natCast]
    have hpm := hp ((lo + hi) / 2) (by omega)
    walk_at "mw"
    · rename _ < _ => hc
      have hpt : p ((lo + hi) / 2) = true := by rw [hpm]; exact decide_eq_true hc
      refine WhEnd.next (k' := k - 1) (by assumption) (by assumption) (by omega) ⟨(lo + hi) / 2 + 1, hi, _, t2, by omega, h2, by omega, fun j hj => mono j _ (by omega) (by omega) hpt, h5, rfl, rfl, (by show some (Value.int (((lo : Int) + (hi : Int)).fdiv 2 + 1) _) = _; rw [mid_eq]; rfl), rfl⟩
    · rename ¬ _ < _ => hc
      have hpf : p ((lo + hi) / 2) = false := by rw [hpm]; exact decide_eq_false hc
      refine WhEnd.next (k' := k - 1) (by assumption) (by assumption) (by omega) ⟨lo, (lo + hi) / 2, t1, _, by omega, by omega, by omega, h4, fun j hj1 hj2 => ?_, rfl, rfl, rfl, (by show some (Value.int (((lo : Int) + (hi : Int)).fdiv 2) _) = _; rw [mid_eq])⟩
      cases q : p j with
      | false => rfl
      | true => rw [mono _ j hj1 hj2 q] at hpf; cases hpf
  · rename ¬ (_ : Int) < _ => hlt
    have he : lo = hi := by
      have := fun q => hlt (Int.ofNat_lt.mpr q)
      omega
    subst he
    exact hR _ _ _ lo (show Fr _ _ _ _ by assumption).keep h2 h4 h5

end

section
open PySem PySem.W PySem.Calls PyProof.Rows
variable {w : World} {mean : ExcName → Option Value} {mg mb : Str → Option Value}
local macro_rules | `(tactic| walk_at "mstop") => `(tactic| (with_reducible show wpAny _ _ (subscriptTail (PySem.Expr.Name _ _) _ (Value.ref _) (Value.int _ _)) _ _ _))
set_option maxHeartbeats 4000000 in
theorem bisI_spec {A : Around} {s : Shared} {R : Result → Shared → Prop} {l : Addr} {y : Int} {ty : Tok} {vs : List Value} {ns : List Int} (G : Gd w mean mg mb s.heap) (r : Rm A 3 100)
   (hl : s.heap.IsList l vs.toArray) (hS : IntsAre vs ns) (hn : ns.length ≤ 100) {p : Nat → Bool} (hp : ∀ j, j < ns.length → p j = decide (ns.getD j 0 < y)) (mono : ∀ i j, i ≤ j → j < ns.length → p j = true → p i = true)
   (hR : ∀ h' tk t (b : Nat), s.heap.StaysIn h' → b ≤ ns.length → (∀ j, j < b → p j = true) → (∀ j, b ≤ j → j < ns.length → p j = false) → R (.ok (.ret (.int b t))) { s with heap := h', toks := tk })
   : codeAny (model PySem.Challenge.rw_rw0095_01.row.prog w) A (.call (.ref 182) ⟨[.ref l, .int y ty], []⟩) R s := by
  obtain ⟨X, T⟩ := G
  obtain ⟨Ah, Ad, Af, Ag, Au⟩ := A
  obtain rfl : Ah = none := r.hd
  refine' enter (binds := [(Str.ofString "a", .ref l), (Str.ofString "x", .int y ty), (Str.ofString "lo", .int 0 507), (Str.ofString "hi", .none), (Str.ofString "key", .none)]) X T.nolimit ?hr ?k6 ?k7 ?k9 ?kB ?_ ?c5 ?c6 ?c7 ?c8
  case hr => exact Nat.lt_of_le_of_lt (Nat.le_add_right _ _) r.dp
  case k6 => k_dflt k_is
  case k7 => k_dflt k_is
  case kB => exact locs rfl
  case c5 => decide
  case c6 => rfl
  case c7 => rfl
  case c8 => rfl
  case k9 =>
    have x174 := X 174 _ (by k_is)
    have x175 := X 175 _ (by k_is)
    refine' binds_bis rfl rfl rfl x174 rfl x175 rfl ?sk ?nf
    case nf => rfl
    case sk =>
      intro e he
      simp only [List.mem_toArray, List.mem_singleton, Array.mem_singleton] at he
      subst he
      exact ⟨_, _, rfl⟩
  intro L h₁ F N
  w_top on
  walk_at "mw"
  rename Fr _ _ _ _ => F1
  rename News _ _ _ _ => N1
  refine while_led (ns.length) (fun k m => ∃ (lo hi : Nat) (t1 t2 : Tok), lo ≤ hi ∧ hi ≤ ns.length ∧ hi - lo ≤ k ∧ (∀ j, j < lo → p j = true) ∧ (∀ j, hi ≤ j → j < ns.length → p j = false) ∧
    m (Str.ofString "a") = some (.ref l) ∧ m (Str.ofString "x") = some (.int y ty) ∧ m (Str.ofString "lo") = some (.int lo t1) ∧ m (Str.ofString "hi") = some (.int hi t2)) F1 N1 ⟨0, ns.length, _, _, Nat.zero_le _, Nat.le_refl _, Nat.le_refl _, fun j h => absurd h (Nat.not_lt_zero j), fun j h1 h2 => absurd h2 (Nat.not_lt.mpr h1), rfl, rfl, rfl, rfl⟩ ?_
  rintro k m₁ h tk ⟨lo, hi, t1, t2, h1, h2, h3, h4, h5, hm1, hm2, hm3, hm4⟩ F' N'
  clear F1 N1
  replace F' := fr_see4 F' hm1 hm2 hm3 hm4
  walk_at "mw"
  · rename (_ : Int) < _ => hlt
    have hlt := Int.ofNat_lt.mp hlt
    have hm1 : (lo + hi) / 2 < hi := by omega
    have hm2 : lo ≤ (lo + hi) / 2 := by omega
    rw [mid_eq]
    refine item_ints (hl.at fun o e => (show Fr _ _ _ _ by assumption).keep _ o e) (by assumption) (Int.natCast_nonneg _) (Int.ofNat_lt.mpr (Nat.lt_of_lt_of_le hm1 h2)) (Int.lt_trans (Int.ofNat_lt.mpr (show (lo + hi) / 2 < 200 by omega)) (by decide)) ?_
    intro t'
    rw [Int.toNat_natCast]
    have hpm := hp ((lo + hi) / 2) (by omega)
    walk_at "mw"
    · rename List.getD _ _ _ < _ => hc
      have hpt : p ((lo + hi) / 2) = true := by rw [hpm]; exact decide_eq_true hc
      refine WhEnd.next (k' := k - 1) (by assumption) (by assumption) (by omega) ⟨(lo + hi) / 2 + 1, hi, _, t2, by omega, h2, by omega, fun j hj => mono j _ (by omega) (by omega) hpt, h5, rfl, rfl, (by show some (Value.int (((lo : Int) + (hi : Int)).fdiv 2 + 1) _) = _; rw [mid_eq]; rfl), rfl⟩
    · rename ¬ List.getD _ _ _ < _ => hc
      have hpf : p ((lo + hi) / 2) = false := by rw [hpm]; exact decide_eq_false hc
      refine WhEnd.next (k' := k - 1) (by assumption) (by assumption) (by omega) ⟨lo, (lo + hi) / 2, t1, _, by omega, by omega, by omega, h4, fun j hj1 hj2 => ?_, rfl, rfl, rfl, (by show some (Value.int (((lo : Int) + (hi : Int)).fdiv 2) _) = _; rw [mid_eq])⟩
      cases q : p j with
      | false => rfl
      | true => rw [mono _ j hj1 hj2 q] at hpf; cases hpf
  · rename ¬ (_ : Int) < _ => hlt
    have he : lo = hi := by
      have := fun q => hlt (Int.ofNat_lt.mpr q)
      omega
    subst he
    exact hR _ _ _ lo (show Fr _ _ _ _ by assumption).keep h2 h4 h5

end

section
open PySem PySem.W PySem.Calls PyProof.Rows
theorem sLt_trans {a b c : Str} (h : sLt a b = true) (h2 : sLt b c = true) : sLt a c = true :=
  decide_eq_true (List.lt_trans (of_decide_eq_true h) (of_decide_eq_true h2))
theorem sLt_irrefl (a : Str) : sLt a a = false := decide_eq_false (List.lt_irrefl _)
theorem sLt_total {a b : Str} (h : sLt a b = false) (h2 : sLt b a = false) : a = b := by
  have e := List.le_antisymm (List.not_lt.mp (of_decide_eq_false h2)) (List.not_lt.mp (of_decide_eq_false h))
  obtain ⟨⟨a⟩⟩ := a
  obtain ⟨⟨b⟩⟩ := b
  simp at e
  rw [e]
theorem sLt_of_not {a b y : Str} (h : sLt a b = true) (h2 : sLt y b = true → False) (_ : sLt b y = false) (h3 : y ≠ b) : sLt a y = true := by
  cases q : sLt b y with
  | true => exact sLt_trans h q
  | false =>
    cases q2 : sLt y b with
    | true => exact (h2 q2).elim
    | false => exact absurd (sLt_total q2 q) h3
/-- rising texts, each once -/
noncomputable def Srt (l : List Str) : Prop := l.Pairwise fun a b => sLt a b = true
theorem Srt.at {l : List Str} (h : Srt l) {i j : Nat} (hij : i < j) (hj : j < l.length) : sLt (l.getD i Str.empty) (l.getD j Str.empty) = true := by
  have := List.pairwise_iff_getElem.mp h i j (by omega) hj hij
  have e1 : l.getD i Str.empty = l[i] := by simp [List.getD, show i < l.length by omega]
  have e2 : l.getD j Str.empty = l[j] := by simp [List.getD, hj]
  rw [e1, e2]; exact this
theorem Srt.mono {l : List Str} (h : Srt l) (y : Str) : ∀ i j, i ≤ j → j < l.length → sLt (l.getD j Str.empty) y = true → sLt (l.getD i Str.empty) y = true := by
  intro i j hij hj q
  rcases Nat.lt_or_eq_of_le hij with h1 | h1
  · exact sLt_trans (h.at h1 hj) q
  · rw [h1]; exact q
theorem mem_take {α : Type} [Inhabited α] {l : List α} {b : Nat} {x d : α} (h : x ∈ l.take b) : ∃ j, j < b ∧ j < l.length ∧ l.getD j d = x := by
  obtain ⟨j, hj, e⟩ := List.mem_iff_getElem.mp h
  have hj' : j < b ∧ j < l.length := by rw [List.length_take] at hj; omega
  refine ⟨j, hj'.1, hj'.2, ?_⟩
  rw [List.getElem_take] at e
  simp [List.getD, hj'.2, e]
theorem mem_drop {α : Type} [Inhabited α] {l : List α} {b : Nat} {x d : α} (h : x ∈ l.drop b) : ∃ j, b ≤ j ∧ j < l.length ∧ l.getD j d = x := by
  obtain ⟨j, hj, e⟩ := List.mem_iff_getElem.mp h
  have hj' : b + j < l.length := by rw [List.length_drop] at hj; omega
  refine ⟨b + j, Nat.le_add_right _ _, hj', ?_⟩
  rw [List.getElem_drop] at e
  simp [List.getD, hj', e]
theorem Srt.insert {l : List Str} (h : Srt l) {y : Str} {b : Nat} (hb : b ≤ l.length) (h1 : ∀ j, j < b → sLt (l.getD j Str.empty) y = true) (h2 : ∀ j, b ≤ j → j < l.length → sLt (l.getD j Str.empty) y = false) (hn : (l.drop b).take 1 ≠ [y]) :
    Srt (l.take b ++ y :: l.drop b) := by
  have hd : ∀ x ∈ l.drop b, sLt y x = true := by
    intro x hx
    obtain ⟨j, hj1, hj2, rfl⟩ := mem_drop (d := Str.empty) hx
    have hfirst : sLt y (l.getD b Str.empty) = true := by
      have hbl : b < l.length := by omega
      have e : (l.drop b).take 1 = [l.getD b Str.empty] := by
        rw [List.take_one, List.head?_drop]
        simp [List.getD, hbl]
      cases q : sLt y (l.getD b Str.empty) with
      | true => rfl
      | false => exact absurd (by rw [e, ← sLt_total q (h2 b (Nat.le_refl _) hbl)]) hn
    rcases Nat.lt_or_eq_of_le hj1 with h3 | h3
    · exact sLt_trans hfirst (h.at h3 hj2)
    · rw [← h3]; exact hfirst
  unfold Srt at h ⊢
  rw [List.pairwise_append, List.pairwise_cons]
  refine ⟨h.take, ⟨hd, h.drop⟩, ?_⟩
  intro a ha c hc
  obtain ⟨j, hj1, hj2, rfl⟩ := mem_take (d := Str.empty) ha
  rcases List.mem_cons.mp hc with rfl | hc
  · exact h1 j hj1
  · exact sLt_trans (h1 j hj1) (hd c hc)
theorem mem_ins {α : Type} {l : List α} {y x : α} {b : Nat} : x ∈ l.take b ++ y :: l.drop b ↔ x = y ∨ x ∈ l := by
  conv => rhs; rw [← List.take_append_drop b l]
  simp only [List.mem_append, List.mem_cons]
  constructor
  · rintro (h | h | h)
    · exact .inr (.inl h)
    · exact .inl h
    · exact .inr (.inr h)
  · rintro (h | h | h)
    · exact .inr (.inl h)
    · exact .inl h
    · exact .inr (.inr h)
theorem mem_of_one {α : Type} {l : List α} {y : α} {b : Nat} (h : (l.drop b).take 1 = [y]) : y ∈ l :=
  List.mem_of_mem_drop (List.mem_of_mem_take (h ▸ List.mem_singleton.mpr rfl : y ∈ (l.drop b).take 1))
theorem kl_ins_nat (l : List Value) {b : Nat} (hb : b ≤ l.length) (y : Value) : kl_ins l (b : Int) y = l.take b ++ y :: l.drop b := by
  unfold kl_ins
  rw [if_neg (by omega), Int.toNat_natCast, Nat.min_eq_left hb]
theorem strs_ins {vs : List Value} {ns : List Str} (h : StrsAre vs ns) (b : Nat) (y : Str) (t : Tok) : StrsAre (vs.take b ++ .str y t :: vs.drop b) (ns.take b ++ y :: ns.drop b) := by
  have take : ∀ {vs : List Value} {ns : List Str}, StrsAre vs ns → ∀ b, StrsAre (vs.take b) (ns.take b) := by
    intro vs ns h
    induction h with
    | nil => intro b; simp; exact .nil
    | cons x y _ ih =>
      intro b
      cases b with
      | zero => exact .nil
      | succ b => exact .cons _ _ (ih b)
  have drop : ∀ {vs : List Value} {ns : List Str}, StrsAre vs ns → ∀ b, StrsAre (vs.drop b) (ns.drop b) := by
    intro vs ns h
    induction h with
    | nil => intro b; simp; exact .nil
    | cons x y h ih =>
      intro b
      cases b with
      | zero => exact .cons _ _ h
      | succ b => exact ih b
  exact strs_append (take h b) (.cons y t (drop h b))
theorem ints_ins {vs : List Value} {ns : List Int} (h : IntsAre vs ns) (b : Nat) (y : Int) (t : Tok) : IntsAre (vs.take b ++ .int y t :: vs.drop b) (ns.take b ++ y :: ns.drop b) :=
  (h.take b).append (.cons y t (h.drop b))
theorem strs_drop1 {vs : List Value} {ns : List Str} (h : StrsAre vs ns) : ∀ b, StrsAre ((vs.drop b).take 1) ((ns.drop b).take 1) := by
  induction h with
  | nil => intro b; simp; exact .nil
  | cons x y h ih =>
    intro b
    cases b with
    | zero => simp; exact .cons _ _ .nil
    | succ b => exact ih b
theorem drop_min {α : Type} (l : List α) (b : Nat) : ((l.drop (min b l.length)).take (min (b + 1) l.length - min b l.length)) = (l.drop b).take 1 := by
  by_cases h : b < l.length
  · rw [Nat.min_eq_left (by omega), Nat.min_eq_left (by omega), Nat.add_sub_cancel_left]
  · rw [Nat.min_eq_right (by omega), Nat.min_eq_right (by omega), Nat.sub_self, List.take_zero, List.drop_of_length_le (by omega)]
    rfl
theorem pick_one (vs : List Value) (b : Nat) : (slicePick vs.toArray (some (b : Int)) (some ((b : Int) + 1)) none).toList = (vs.drop b).take 1 := by
  have e : sliceBounds (some (b : Int)) (some ((b : Int) + 1)) none vs.toArray.size = (((min b vs.toArray.size : Nat) : Int), ((min (b + 1) vs.toArray.size : Nat) : Int), 1) := by
    simp only [sliceBounds, Option.getD_none, show (1 : Int) > 0 by decide, if_true, if_neg (show ¬ ((b : Int) < 0) by omega), if_neg (show ¬ ((b : Int) + 1 < 0) by omega)]
    congr 1
    · omega
    · congr 1
      omega
  rw [kmk_pick_nat _ e]
  show ((vs.drop (min b vs.toArray.size)).take (min (b + 1) vs.toArray.size - min b vs.toArray.size)) = _
  rw [List.size_toArray, drop_min]
section
variable {prog : Program} {w : World} {A : Around} {E : Value → Shared → Prop} {hp : Heap} {gn} {dr} {tk : Nat} {os} {h₀ : Heap} {L l : Addr} {m : Str → Option Value} {news : List (Addr × Obj)} {value slice : PySem.Expr} {vs : List Value} {ns : List Str} {Q : Value → Shared → Prop}
theorem sl_one {b : Nat} {t t' : Tok} (F : Fr h₀ L hp m) (N : News h₀ L hp news) (hl : hp.IsList l vs.toArray) (hi : StrsAre vs ns) (hz : vs.length ≤ 4096)
    (h : ∀ D ws h', Fr h₀ L h' m → News h₀ L h' ((D, listOf (List.toArray ws) 0) :: news) → StrsAre ws ((ns.drop b).take 1) → (∀ p ∈ news, p.1 < D) → Q (.ref D) ⟨h', gn, dr, tk, os⟩)
    (hs : subscripted slice false (.ref l) (.ref hp.objs.size) = operate [.ref hp.objs.size, .ref l] (getItem (.ref l) (.ref hp.objs.size)) := by with_unfolding_all rfl) (ht : ∀ r, letTemporaryGo value (.ref l) r = pure () := by intro _; with_unfolding_all rfl) :
    wpAny (model prog w) A (subscriptTail value slice (.ref l) (.ref hp.objs.size)) Q E ⟨hp.push { cls := .type "slice", data := .fields #[.int (b : Int) t, .int ((b : Int) + 1) t', .none] }, gn, dr, tk, os⟩ :=
  kmk_slice_lit (s := ⟨hp, gn, dr, tk, os⟩) F N hl (.int _ t) (.int _ t') (pick_one vs b) (fun D h' F' N' lt => h D _ h' F' N' (strs_drop1 hi b) lt) hs ht (by rw [sizeLine_eq, List.size_toArray]; omega)
end
end

section
open PySem PySem.W PySem.Calls PyProof.Rows
section
variable {prog : Program} {w : World} {A : Around} {E : Value → Shared → Prop} {s : Shared} {h₀ g : Heap} {L : Addr} {m : Str → Option Value} {pl : Sem Bool} {Q : Value × List Value → Shared → Prop} {x : Addr} {ps : List (Str × Str)}
theorem meth_keys (F : Fr g L s.heap m) (X : (hd.heap_1 w.params).In g) (tab : TabAt w h₀ s.heap x ps) (h : Q (.ref 121, [.ref x]) s) : wpAny (model prog w) A (getMethod (.ref x) (Str.ofString "keys") pl) Q E s := by
  obtain ⟨dx, l, tq, its, n, kp, h1, h2, -⟩ := tab
  have I : InstAt s.heap x (instObj 169 dx) 169 (some (hdrDict w tq l)) := ⟨h1, rfl, rfl, h2⟩
  refine' method_inst (f := 121) F X I ?k4 ?k5 ?k6 ?k7 h
  case k4 => k_is
  case k5 => k_is
  case k6 => k_is
  case k7 => k_get
theorem meth_get_all (F : Fr g L s.heap m) (X : (hd.heap_1 w.params).In g) (tab : TabAt w h₀ s.heap x ps) (h : Q (.ref 108, [.ref x]) s) : wpAny (model prog w) A (getMethod (.ref x) (Str.ofString "get_all") pl) Q E s := by
  obtain ⟨dx, l, tq, its, n, kp, h1, h2, -⟩ := tab
  have I : InstAt s.heap x (instObj 169 dx) 169 (some (hdrDict w tq l)) := ⟨h1, rfl, rfl, h2⟩
  refine' method_inst (f := 108) F X I ?k4 ?k5 ?k6 ?k7 h
  case k4 => k_is
  case k5 => k_is
  case k6 => k_is
  case k7 => k_get
end
theorem fitsIdx {b : Nat} (h : b ≤ 1000) : PySem.Builtin.List.listFitsIndex (b : Int) = true := by
  unfold PySem.Builtin.List.listFitsIndex
  rw [Bool.and_eq_true]
  exact ⟨decide_eq_true (by omega), decide_eq_true (Int.lt_trans (show (b : Int) < 1001 by omega) (by decide))⟩
/-- a list's items: lists of texts -/
inductive ClsAt (h : Heap) : List Value → List (List Str) → Prop
  | nil : ClsAt h [] []
  | cons {a : Addr} {its : List Value} {n : Nat} {ys : List Str} {vs : List Value} {yss : List (List Str)} : h.get? a = some (PySem.W.listOf (List.toArray its) n) → StrsAre its ys → ClsAt h vs yss → ClsAt h (.ref a :: vs) (ys :: yss)
inductive ClsL (kp : List (Addr × Obj)) : List Value → List (List Str) → Prop
  | nil : ClsL kp [] []
  | cons {a : Addr} {its : List Value} {n : Nat} {ys : List Str} {vs : List Value} {yss : List (List Str)} : (a, PySem.W.listOf (List.toArray its) n) ∈ kp → StrsAre its ys → ClsL kp vs yss → ClsL kp (.ref a :: vs) (ys :: yss)
theorem ClsL.at {kp : List (Addr × Obj)} {h : Heap} (k : ∀ p ∈ kp, h.get? p.1 = some p.2) : ∀ {vs : List Value} {yss : List (List Str)}, ClsL kp vs yss → ClsAt h vs yss
  | _, _, .nil => .nil
  | _, _, .cons e s r => .cons (k _ e) s (ClsL.at k r)
theorem ClsL.mono {kp kp' : List (Addr × Obj)} (k : ∀ p ∈ kp, p ∈ kp') : ∀ {vs : List Value} {yss : List (List Str)}, ClsL kp vs yss → ClsL kp' vs yss
  | _, _, .nil => .nil
  | _, _, .cons e s r => .cons (k _ e) s (ClsL.mono k r)
theorem ClsL.snoc {kp : List (Addr × Obj)} {a : Addr} {its : List Value} {n : Nat} {ys : List Str} (e : (a, PySem.W.listOf (List.toArray its) n) ∈ kp) (hs : StrsAre its ys) : ∀ {vs : List Value} {yss : List (List Str)}, ClsL kp vs yss → ClsL kp (vs ++ [.ref a]) (yss ++ [ys])
  | _, _, .nil => .cons e hs .nil
  | _, _, .cons e2 s2 r => .cons e2 s2 (ClsL.snoc e hs r)
theorem ClsL.len {kp : List (Addr × Obj)} : ∀ {vs : List Value} {yss : List (List Str)}, ClsL kp vs yss → vs.length = yss.length
  | _, _, .nil => rfl
  | _, _, .cons _ _ r => by rw [List.length_cons, List.length_cons, ClsL.len r]
theorem ClsAt.len {h : Heap} : ∀ {vs : List Value} {yss : List (List Str)}, ClsAt h vs yss → vs.length = yss.length
  | _, _, .nil => rfl
  | _, _, .cons _ _ r => by rw [List.length_cons, List.length_cons, ClsAt.len r]
theorem ClsAt.get {h : Heap} : ∀ {vs : List Value} {yss : List (List Str)}, ClsAt h vs yss → ∀ {i : Nat} {v : Value}, vs[i]? = some v → ∃ a its n ys, v = .ref a ∧ yss[i]? = some ys ∧ h.get? a = some (PySem.W.listOf (List.toArray its) n) ∧ StrsAre its ys
  | _, _, .nil, i, v, e => by simp at e
  | _, _, .cons e s r, 0, v, q => by
    simp at q; subst q
    exact ⟨_, _, _, _, rfl, rfl, e, s⟩
  | _, _, .cons e s r, i + 1, v, q => by
    obtain ⟨a, its, n, ys, h1, h2, h3, h4⟩ := ClsAt.get r (i := i) (v := v) (by simpa using q)
    exact ⟨a, its, n, ys, h1, by simpa using h2, h3, h4⟩
/-- rising numbers -/
noncomputable def SrtI (l : List Int) : Prop := l.Pairwise fun a b => a ≤ b
theorem SrtI.at {l : List Int} (h : SrtI l) {i j : Nat} (hij : i ≤ j) (hj : j < l.length) : l.getD i 0 ≤ l.getD j 0 := by
  rcases Nat.lt_or_eq_of_le hij with h1 | h1
  · have := List.pairwise_iff_getElem.mp h i j (by omega) hj h1
    have e1 : l.getD i 0 = l[i] := by simp [List.getD, show i < l.length by omega]
    have e2 : l.getD j 0 = l[j] := by simp [List.getD, hj]
    rw [e1, e2]; exact this
  · rw [h1]; exact Int.le_refl _
theorem SrtI.mono {l : List Int} (h : SrtI l) (y : Int) : ∀ i j, i ≤ j → j < l.length → decide (l.getD j 0 < y) = true → decide (l.getD i 0 < y) = true := fun i j hij hj q =>
  decide_eq_true (Int.lt_of_le_of_lt (h.at hij hj) (of_decide_eq_true q))
theorem SrtI.insert {l : List Int} (h : SrtI l) {y : Int} {b : Nat} (h1 : ∀ j, j < b → decide (l.getD j 0 < y) = true) (h2 : ∀ j, b ≤ j → j < l.length → decide (l.getD j 0 < y) = false) : SrtI (l.take b ++ y :: l.drop b) := by
  unfold SrtI at h ⊢
  have hd : ∀ x ∈ l.drop b, y ≤ x := by
    intro x hx
    obtain ⟨j, hj1, hj2, rfl⟩ := mem_drop (d := 0) hx
    exact Int.not_lt.mp (of_decide_eq_false (h2 j hj1 hj2))
  rw [List.pairwise_append, List.pairwise_cons]
  refine ⟨h.take, ⟨hd, h.drop⟩, ?_⟩
  intro a ha c hc
  obtain ⟨j, hj1, hj2, rfl⟩ := mem_take (d := 0) ha
  have h3 := of_decide_eq_true (h1 j hj1)
  rcases List.mem_cons.mp hc with rfl | hc
  · exact Int.le_of_lt h3
  · exact Int.le_trans (Int.le_of_lt h3) (hd c hc)
end

section
open PySem PySem.W PySem.Calls PyProof.Rows
variable {w : World} {mean : ExcName → Option Value} {mg mb : Str → Option Value}
local macro_rules | `(tactic| walk_at "mstop") => `(tactic| (with_reducible show wpAny _ _ (getMethod (Value.ref _) (Str.ofString "keys") _) _ _ _))
local macro_rules | `(tactic| walk_at "mstop") => `(tactic| (with_reducible show wpAny _ _ (call (Value.builtin "list.insert") _) _ _ _))

set_option maxHeartbeats 4000000 in
theorem row_spec {A : Around} {s : Shared} {R : Result → Shared → Prop} {h₀ : Heap} {x : Addr} {ps : List (Str × Str)} (X₀ : (hd.heap_1 w.params).In h₀) (T₀ : Top hd.view_1 lse mean mg mb h₀) (st : ∀ b o, h₀.get? b = some o → s.heap.get? b = some o) (r : Rm A 8 180)
   (tab : TabAt w h₀ s.heap x ps) (hps : ∀ p ∈ ps, Wd p.1 ∧ Wd p.2) (hlen : ps.length ≤ 5)
   (hR : ∀ a' h' tk its n rs, s.heap.StaysIn h' → s.heap.get? a' = none → h'.get? a' = some (PySem.W.listOf (List.toArray its) n) → StrsAre its rs → Srt rs → (∀ y, y ∈ rs ↔ y ∈ ps.map fun p => Txt.lower p.1) → R (.ok (.ret (.ref a'))) { s with heap := h', toks := tk })
   : codeAny (model PySem.Challenge.rw_rw0095_01.row.prog w) A (.call (.ref 235) ⟨[.ref x], []⟩) R s := by
  have G : Gd w mean mg mb s.heap := ⟨X₀.keeps st, T₀.keeps st⟩
  obtain ⟨X, T⟩ := G
  obtain ⟨Ah, Ad, Af, Ag, Au⟩ := A
  obtain rfl : Ah = none := r.hd
  refine' enter (binds := [(Str.ofString "table", .ref x)]) X T.nolimit ?hr ?k6 ?k7 ?k9 ?kB ?_ ?c5 ?c6 ?c7 ?c8
  case hr => exact Nat.lt_of_le_of_lt (Nat.le_add_right _ _) r.dp
  case k6 => k_dflt k_is
  case k7 => k_dflt k_is
  case k9 => exact BindsTo.of_eq rfl
  case kB => exact locs rfl
  case c5 => decide
  case c6 => rfl
  case c7 => rfl
  case c8 => rfl
  intro L h₁ F N
  w_top on
  walk_at "mwl"
  refine newList_K (by assumption) (by assumption) ?_
  intro a' h2 F2 N2 l2
  walk_at "mw"
  rename Fr _ _ _ _ => F3
  rename News _ _ _ _ => N3
  refine meth_keys F3 X (tab.keeps F3.keep) ?_
  walk_at "mw"
  refine wpAny_call (keys_spec X₀ T₀ (fun b o e => F3.keep _ _ (st b o e)) ((Rm.deeper (d := 7) (u := 177) r).less (by decide) (by decide)) (tab.keeps F3.keep) hlen ?_)
  intro lk h4 tk4 its4 n4 k4 f4 g4 hS4
  have hlka : lk ≠ a' := fun q => by
    have e := (N3 _ (.head _)).1
    rw [← q] at e
    exact absurd (f4.symm.trans e) (by simp)
  have N4 := News.more F3 N3 k4 f4 g4
  replace F3 := F3.keeps k4
  clear N3
  refine' for_list (vs := its4) (news := [(a', W.listOf #[] 0)]) (kept := [(lk, W.listOf (List.toArray its4) n4)]) ?a1 ?a2 ?a3 ?a4 ?a5 ?a6 ?a7
    (fun i m nx kp => kp = [(lk, W.listOf (List.toArray its4) n4)] ∧ (∃ its n rs, nx = [(a', W.listOf (List.toArray its) n)] ∧ StrsAre its rs ∧ Srt rs ∧ rs.length ≤ i ∧ (∀ y, y ∈ rs ↔ y ∈ (ps.take i).map fun p => Txt.lower p.1)) ∧ m (Str.ofString "row") = some (.ref a')) ?a8 ?_ ?_ ?a9
  case a1 => rfl
  case a2 => exact News.isList N4 (.head _)
  case a3 => exact F3
  case a4 => exact fun p hp => N4 p (by simp only [List.cons_append, List.nil_append, List.mem_cons, List.not_mem_nil, or_false] at hp ⊢; exact hp.symm)
  case a5 => exact Or.inr (not_mem_one hlka)
  case a6 => exact (N4 _ (.head _)).2.1
  case a7 => exact kept_one (not_mem_one hlka)
  case a8 => exact ⟨rfl, ⟨[], 0, [], rfl, .nil, .nil, Nat.le_refl _, fun y => by simp⟩, rfl⟩
  case a9 => intro _; rfl
  · rintro i v m₁ nx kp own h tk hv ⟨rfl, ⟨its, n, rs, rfl, hI, hsrt, hrl, hmem⟩, hm⟩ hnx hoff F' N'
    clear F3 N4
    replace F' := fr_see F' hm
    dsimp only [List.nil_append, List.cons_append] at N' hoff
    obtain ⟨p, hpi, tn, rfl⟩ : ∃ p, ps[i]? = some p ∧ ∃ tn, v = .str p.1 tn := by
      obtain ⟨y, t, rfl, e⟩ := hS4.item i v hv
      rw [List.getElem?_map] at e
      obtain ⟨p, hp, rfl⟩ := Option.map_eq_some_iff.mp e
      exact ⟨p, hp, t, rfl⟩
    have hw : Wd p.1 := (hps _ (List.mem_of_getElem? hpi)).1
    refine wpAny_assign_Name ?_
    walk_at "mw"
    rename Fr _ _ _ _ => F5
    rename News _ _ _ _ => N5
    refine wpAny_call (bis_spec (p := fun j => sLt (rs.getD j Str.empty) (Txt.lower p.1)) (Gd.fr X T F5) ((Rm.deeper (d := 7) (u := 177) r).less (by decide) (by decide)) (News.isList N5 (.head _)) hI (by have := (List.getElem?_eq_some_iff.mp hpi).1; omega) (fun _ _ => rfl) (hsrt.mono _) ?_)
    intro h6 tk6 tb b k6 hb1 hb2 hb3
    replace F5 := F5.keeps k6
    replace N5 := N5.grown k6
    have hil := hI.length
    walk_at "mw"
    rename Fr _ _ _ _ => F7
    rename News _ _ _ _ => N7
    dsimp only
    refine sl_one F7 N7 (News.isList N7 (.head _)) hI (by have := (List.getElem?_eq_some_iff.mp hpi).1; omega) ?_
    intro D8 ws8 h8 F8 N8 S8 l8
    walk_at "mw"
    rename News _ _ _ _ => N9
    have hok : ∀ z ∈ rs, Wd z := fun z hz => by
      obtain ⟨q, hq, rfl⟩ := List.mem_map.mp ((hmem z).mp hz)
      exact (hps q (List.mem_of_mem_take hq)).1.lower
    refine ne_strs (ms := [Txt.lower p.1]) (News.isList N9 (.tail _ (.head _))) (News.isList N9 (.head _)) S8 (.cons _ _ .nil) (fun z hz => (hok z (List.mem_of_mem_drop (List.mem_of_mem_take hz))).ok) (fun z hz => by rw [List.mem_singleton.mp hz]; exact hw.lower.ok) (by walk_at "room") ?_
    walk_at "mw"
    · rename _ = [Txt.lower p.1] => he
      refine TurnEnd.next (nx := [(a', W.listOf (List.toArray its) n)]) (kept := [(lk, W.listOf (List.toArray its4) n4)]) (by assumption) N9 (fun q hq => .tail _ (.tail _ (by rw [List.mem_singleton.mp hq]; exact .head _))) (fun q hq => .tail _ (.tail _ (.tail _ (by rw [List.mem_singleton.mp hq]; exact .head _)))) (fun q hq => .tail _ (.tail _ (.tail _ (.tail _ hq)))) rfl (kept_one (not_mem_one hlka)) ⟨rfl, ⟨its, n, rs, rfl, hI, hsrt, by omega, fun z => ?_⟩, rfl⟩
      rw [take_some hpi, List.map_append, List.mem_append, hmem z]
      constructor
      · exact .inl
      · rintro (hz | hz)
        · exact hz
        · rw [List.mem_singleton.mp hz]
          exact (hmem _).mp (mem_of_one he)
    · rename ¬ _ = [Txt.lower p.1] => he
      have hbl : b ≤ its.length := by rw [hil]; exact hb1
      refine kl_insert (by assumption) (fun q hq => N9 q (.tail _ (.tail _ hq))) (fitsIdx (by have := (List.getElem?_eq_some_iff.mp hpi).1; omega)) (kl_ins_nat its hbl _) (Upd.head (fun q hq => ?_)) (by show its.length ≤ _; have := (List.getElem?_eq_some_iff.mp hpi).1; rw [sizeLine_eq, hil]; omega) ?_
      · rcases List.mem_cons.mp hq with rfl | hq
        · exact hlka
        · exact hoff q (.tail _ hq) _ (.head _)
      intro h10 F10 N10
      walk_at "mw"
      refine TurnEnd.next (nx := [(a', W.listOf (List.toArray _) (n + 1))]) (kept := [(lk, W.listOf (List.toArray its4) n4)]) F10 N10 in_head (fun q hq => .tail _ (by rw [List.mem_singleton.mp hq]; exact .head _)) (fun q hq => .tail _ (.tail _ hq)) rfl (kept_one (not_mem_one hlka)) ⟨rfl, ⟨_, _, rs.take b ++ Txt.lower p.1 :: rs.drop b, rfl, strs_ins hI b _ _, hsrt.insert hb1 hb2 hb3 he, ?_, fun z => ?_⟩, rfl⟩
      · rw [List.length_append, List.length_cons, List.length_take, List.length_drop]
        omega
      · rw [mem_ins, take_some hpi, List.map_append, List.mem_append, hmem z]
        simp only [List.map_cons, List.map_nil, List.mem_singleton]
        exact Or.comm
  · rintro m₁ nx kp h tk ⟨rfl, ⟨its, n, rs, rfl, hI, hsrt, hrl, hmem⟩, hm⟩ hnx hoff F' N'
    clear F3
    replace F' := fr_see F' hm
    walk_at "mw"
    rw [hS4.length, List.length_map, List.take_length] at hmem
    exact hR _ _ _ _ _ rs F'.keep (N' _ (.head _)).2.2 (N' _ (.head _)).1 hI hsrt hmem

end

section
open PySem PySem.W PySem.Calls PyProof.Rows
variable {w : World} {mean : ExcName → Option Value} {mg mb : Str → Option Value}
local macro_rules | `(tactic| walk_at "mstop") => `(tactic| (with_reducible show wpAny _ _ (call (Value.builtin "list.insert") _) _ _ _))
local macro_rules | `(tactic| walk_at "mstop") => `(tactic| (with_reducible show wpAny _ _ (call (Value.builtin "len") _) _ _ _))

set_option maxHeartbeats 4000000 in
theorem counts_spec {A : Around} {s : Shared} {R : Result → Shared → Prop} {lc : Addr} {cvs : List Value} {yss : List (List Str)} (G : Gd w mean mg mb s.heap) (r : Rm A 6 150)
   (hl : s.heap.IsList lc cvs.toArray) (hc : ClsAt s.heap cvs yss) (hlen : yss.length ≤ 16) (hys : ∀ ys ∈ yss, ys.length ≤ 100)
   (hR : ∀ a' h' tk its n cs, s.heap.StaysIn h' → s.heap.get? a' = none → h'.get? a' = some (PySem.W.listOf (List.toArray its) n) → IntsAre its cs → SrtI cs → (∀ y, y ∈ cs ↔ y ∈ yss.map fun ys => (ys.length : Int)) → cs.length ≤ 16 → R (.ok (.ret (.ref a'))) { s with heap := h', toks := tk })
   : codeAny (model PySem.Challenge.rw_rw0095_01.row.prog w) A (.call (.ref 242) ⟨[.ref lc], []⟩) R s := by
  obtain ⟨X, T⟩ := G
  obtain ⟨Ah, Ad, Af, Ag, Au⟩ := A
  obtain rfl : Ah = none := r.hd
  refine' enter (binds := [(Str.ofString "classes", .ref lc)]) X T.nolimit ?hr ?k6 ?k7 ?k9 ?kB ?_ ?c5 ?c6 ?c7 ?c8
  case hr => exact Nat.lt_of_le_of_lt (Nat.le_add_right _ _) r.dp
  case k6 => k_dflt k_is
  case k7 => k_dflt k_is
  case k9 => exact BindsTo.of_eq rfl
  case kB => exact locs rfl
  case c5 => decide
  case c6 => rfl
  case c7 => rfl
  case c8 => rfl
  intro L h₁ F N
  w_top on
  walk_at "mwl"
  refine newList_K (by assumption) (by assumption) ?_
  intro a' h2 F2 N2 l2
  walk_at "mw"
  rename Fr _ _ _ _ => F3
  rename News _ _ _ _ => N3
  refine' for_list (vs := cvs) (news := [(a', W.listOf #[] 0)]) (kept := []) ?a1 ?a2 ?a3 ?a4 ?a5 ?a6 ?a7
    (fun i m nx kp => kp = [] ∧ (∃ its n cs, nx = [(a', W.listOf (List.toArray its) n)] ∧ IntsAre its cs ∧ SrtI cs ∧ cs.length ≤ i ∧ (∀ y, y ∈ cs ↔ y ∈ (yss.take i).map fun ys => (ys.length : Int))) ∧ m (Str.ofString "counts") = some (.ref a')) ?a8 ?_ ?_ ?a9
  case a1 => rfl
  case a2 => exact (hl.at fun o e => F3.keep _ o e)
  case a3 => exact F3
  case a4 => exact N3
  case a5 => exact Or.inl (let ⟨o, ho, _⟩ := hl; ⟨o, ho⟩)
  case a6 => obtain ⟨o, ho, _⟩ := hl; exact Nat.ne_of_lt (Nat.lt_of_lt_of_le (Heap.lt_size ho) F3.above)
  case a7 => exact fun p hp => nomatch hp
  case a8 => exact ⟨rfl, ⟨[], 0, [], rfl, .nil, .nil, Nat.le_refl _, fun y => by simp⟩, rfl⟩
  case a9 => intro _; rfl
  · rintro i v m₁ nx kp own h tk hv ⟨rfl, ⟨its, n, cs, rfl, hI, hsrt, hrl, hmem⟩, hm⟩ hnx hoff F' N'
    clear F3 N3
    replace F' := fr_see F' hm
    dsimp only [List.nil_append, List.cons_append] at N' hoff
    obtain ⟨va, vit, vn, ys, rfl, hyi, hva, hvs⟩ := hc.get hv
    have hyl := hys _ (List.mem_of_getElem? hyi)
    have hi16 := (List.getElem?_eq_some_iff.mp hyi).1
    refine wpAny_assign_Name ?_
    walk_at "mw"
    rename Fr _ _ _ _ => F4
    refine len_strsA (l := vit) ⟨_, F4.keep _ _ hva, rfl, _, rfl⟩ hvs (Int.lt_trans (Int.ofNat_lt.mpr (show ys.length < 200 by omega)) (by decide)) ?_
    walk_at "mw"
    rename Fr _ _ _ _ => F5
    rename News _ _ _ _ => N5
    refine wpAny_call (bisI_spec (p := fun j => decide (cs.getD j 0 < (ys.length : Int))) (Gd.fr X T F5) ((Rm.deeper (d := 5) (u := 147) r).less (by decide) (by decide)) (News.isList N5 (.head _)) hI (by omega) (fun _ _ => rfl) (hsrt.mono _) ?_)
    intro h6 tk6 tb b k6 hb1 hb2 hb3
    replace F5 := F5.keeps k6
    replace N5 := N5.grown k6
    have hil := hI.length
    walk_at "mw"
    refine len_strsA (l := vit) ⟨_, F5.keep _ _ hva, rfl, _, rfl⟩ hvs (Int.lt_trans (Int.ofNat_lt.mpr (show ys.length < 200 by omega)) (by decide)) ?_
    walk_at "mw"
    have hbl : b ≤ its.length := by rw [hil]; exact hb1
    refine kl_insert F5 N5 (fitsIdx (by omega)) (kl_ins_nat its hbl _) (Upd.head (fun q hq => hoff q hq _ (.head _))) (by show its.length ≤ _; rw [sizeLine_eq, hil]; omega) ?_
    intro h10 F10 N10
    walk_at "mw"
    refine TurnEnd.next (nx := [(a', W.listOf (List.toArray _) (n + 1))]) (kept := []) F10 N10 in_head in_nil (fun q hq => .tail _ hq) rfl kept_nil ⟨rfl, ⟨_, _, cs.take b ++ (ys.length : Int) :: cs.drop b, rfl, ints_ins hI b _ _, hsrt.insert hb2 hb3, ?_, fun z => ?_⟩, rfl⟩
    · rw [List.length_append, List.length_cons, List.length_take, List.length_drop]
      omega
    · rw [mem_ins, take_some hyi, List.map_append, List.mem_append, hmem z]
      simp only [List.map_cons, List.map_nil, List.mem_singleton]
      exact Or.comm
  · rintro m₁ nx kp h tk ⟨rfl, ⟨its, n, cs, rfl, hI, hsrt, hrl, hmem⟩, hm⟩ hnx hoff F' N'
    clear F3
    replace F' := fr_see F' hm
    walk_at "mw"
    rw [hc.len] at hrl
    rw [hc.len, List.take_length] at hmem
    exact hR _ _ _ _ _ cs F'.keep (N' _ (.head _)).2.2 (N' _ (.head _)).1 hI hsrt hmem (Nat.le_trans hrl hlen)

end

section
open PySem PySem.W PySem.Calls PyProof.Rows
abbrev dueDat (d : Str × List Str) : Dat := .tuple [.str d.1, .list (d.2.map Dat.str)]
theorem datAll_append {nw : List (Addr × Obj)} : ∀ {vs ws : List Value} {ds es : List Dat}, DatAll nw vs ds → DatAll nw ws es → DatAll nw (vs ++ ws) (ds ++ es)
  | _, _, _, _, .nil, h => h
  | _, _, _, _, .cons h r, h2 => .cons h (datAll_append r h2)
theorem datAll_strs {nw : List (Addr × Obj)} : ∀ {vs : List Value} {ns : List Str}, StrsAre vs ns → DatAll nw vs (ns.map Dat.str)
  | _, _, .nil => .nil
  | _, _, .cons n t h => .cons (.str n t) (datAll_strs h)
theorem datAll_len {nw : List (Addr × Obj)} : ∀ {vs : List Value} {ds : List Dat}, DatAll nw vs ds → vs.length = ds.length
  | _, _, .nil => rfl
  | _, _, .cons _ r => by rw [List.length_cons, List.length_cons, datAll_len r]
noncomputable def dvals (W : List Str) (fam : List Nat) (c : Nat) (nm : Str) : List Str :=
  (fam.filter fun f => Txt.lower (W.getD (f &&& c) Str.empty) == nm).map fun f => W.getD (f &&& (15 - c)) Str.empty
theorem fm_snoc {α β : Type} (p : α → Bool) (g : α → β) (l : List α) (f : α) : ((l ++ [f]).filter p).map g = (l.filter p).map g ++ if p f = true then [g f] else [] := by
  rw [List.filter_append, List.map_append]
  congr 1
  cases h : p f <;> simp [h]
theorem dvals_snoc (W : List Str) (fam : List Nat) (c f : Nat) (nm : Str) : dvals W (fam ++ [f]) c nm = dvals W fam c nm ++ if Txt.lower (W.getD (f &&& c) Str.empty) == nm then [W.getD (f &&& (15 - c)) Str.empty] else [] := by
  exact fm_snoc (fun f => Txt.lower (W.getD (f &&& c) Str.empty) == nm) (fun f => W.getD (f &&& (15 - c)) Str.empty) fam f
noncomputable def dueOf (W : List Str) (fam : List Nat) (c : Nat) (nms : List Str) : List (Str × List Str) :=
  nms.filterMap fun nm => if dvals W fam c nm = [] then none else some (nm, dvals W fam c nm)
theorem dueOf_snoc (W : List Str) (fam : List Nat) (c : Nat) (nms : List Str) (nm : Str) : dueOf W fam c (nms ++ [nm]) = dueOf W fam c nms ++ if dvals W fam c nm = [] then [] else [(nm, dvals W fam c nm)] := by
  unfold dueOf
  rw [List.filterMap_append]
  congr 1
  by_cases h : dvals W fam c nm = []
  · rw [if_pos h]; simp [h]
  · rw [if_neg h]; simp [h]
theorem dueOf_len (W : List Str) (fam : List Nat) (c : Nat) (nms : List Str) : (dueOf W fam c nms).length ≤ nms.length := by
  unfold dueOf; exact List.length_filterMap_le _ _
/-- the names that a choice may have -/
noncomputable def nmsTo (W : List Str) (c i : Nat) : List Str := ((List.range i).filter fun o => decide (o &&& c = o)).map fun o => Txt.lower (W.getD o Str.empty)
theorem nmsTo_succ (W : List Str) (c i : Nat) : nmsTo W c (i + 1) = nmsTo W c i ++ if i &&& c = i then [Txt.lower (W.getD i Str.empty)] else [] := by
  unfold nmsTo
  rw [List.range_succ, List.filter_append, List.map_append]
  congr 1
  by_cases h : i &&& c = i
  · rw [if_pos h]; simp [h]
  · rw [if_neg h]; simp [h]
theorem nmsTo_len (W : List Str) (c i : Nat) : (nmsTo W c i).length ≤ i := by
  unfold nmsTo
  rw [List.length_map]
  exact Nat.le_trans (List.length_filter_le _ _) (by rw [List.length_range]; exact Nat.le_refl _)
theorem int_and_eq {i c : Nat} : Builtin.bitAnd (i : Int) (c : Int) = (i : Int) ↔ i &&& c = i := by
  rw [and_nat]
  exact Int.ofNat_inj
theorem mem_four {α : Type} {a b c d q : α} {l : List α} (h : q ∈ [a, b, c, d]) : q ∈ a :: b :: c :: d :: l := by
  simp only [List.mem_cons, List.not_mem_nil, or_false] at h ⊢
  rcases h with h | h | h | h <;> simp [h]
theorem mem_after4 {α : Type} {a b c d q : α} {l : List α} (h : q ∈ l) : q ∈ a :: b :: c :: d :: l := .tail _ (.tail _ (.tail _ (.tail _ h)))
theorem ne_succ {a X : Nat} (h : a < X) : X + 1 ≠ a := by omega
theorem not_mem_four {x a b c d : Addr} (h1 : x ≠ a) (h2 : x ≠ b) (h3 : x ≠ c) (h4 : x ≠ d) : x ∉ [a, b, c, d] := by
  simp only [List.mem_cons, List.not_mem_nil, or_false]
  rintro (h | h | h | h)
  · exact h1 h
  · exact h2 h
  · exact h3 h
  · exact h4 h
section
variable {α : Type} {a T l9 D c3 c2 c1 q : α} {kq own : List α}
theorem mem_shift (h : q ∈ a :: T :: D :: c3 :: c2 :: c1 :: (kq ++ own)) : q ∈ T :: l9 :: D :: a :: c3 :: c2 :: c1 :: (kq ++ own) := by
  simp only [List.mem_cons] at h ⊢
  rcases h with h | h | h | h | h | h | h <;> simp [h]
theorem mem_mix1 (h : q ∈ [a, c3, c2, c1]) : q ∈ a :: T :: D :: c3 :: c2 :: c1 :: (kq ++ own) := by
  simp only [List.mem_cons, List.not_mem_nil, or_false] at h ⊢
  rcases h with h | h | h | h <;> simp [h]
theorem mem_mix2 (h : q ∈ T :: D :: kq) : q ∈ a :: T :: D :: c3 :: c2 :: c1 :: (kq ++ own) := by
  simp only [List.mem_cons, List.mem_append] at h ⊢
  rcases h with h | h | h <;> simp [h]
theorem mem_mix3 (h : q ∈ own) : q ∈ a :: T :: D :: c3 :: c2 :: c1 :: (kq ++ own) := by
  simp only [List.mem_cons, List.mem_append]
  simp [h]
end
end

section
open PySem PySem.W PySem.Calls PyProof.Rows
variable {w : World} {mean : ExcName → Option Value} {mg mb : Str → Option Value}
local macro_rules | `(tactic| walk_at "mstop") => `(tactic| (with_reducible show wpAny _ _ (subscriptTail (PySem.Expr.Name _ _) _ (Value.ref _) (Value.int _ _)) _ _ _))
local macro_rules | `(tactic| walk_at "mstop") => `(tactic| (with_reducible show wpAny _ _ (call (Value.builtin "sorted") _) _ _ _))

set_option maxHeartbeats 4000000 in
theorem due_spec {A : Around} {s : Shared} {R : Result → Shared → Prop} {lf lw : Addr} {c : Nat} {tc : Tok} {fvs wvs : List Value} {fam : List Nat} {Ws : List Str} (G : Gd w mean mg mb s.heap) (r : Rm A 6 150)
   (hc : c < 16) (hlf : s.heap.IsList lf fvs.toArray) (hif : IntsAre fvs (fam.map Int.ofNat)) (hfl : fam.length ≤ 5) (hf16 : ∀ f ∈ fam, f < 16)
   (hlw : s.heap.IsList lw wvs.toArray) (hiw : StrsAre wvs Ws) (hW : Ws.length = 16) (hWd : ∀ x ∈ Ws, Wd x)
   (hR : ∀ a' h' tk its n kq ss, s.heap.StaysIn h' → s.heap.get? a' = none → h'.get? a' = some (PySem.W.listOf (List.toArray its) n) → DatAll kq its ((dueOf Ws fam c ss).map dueDat) → (∀ p ∈ kq, h'.get? p.1 = some p.2 ∧ s.heap.get? p.1 = none) → ss.Perm (nmsTo Ws c 16) → sortedS ss = true → R (.ok (.ret (.ref a'))) { s with heap := h', toks := tk })
   : codeAny (model PySem.Challenge.rw_rw0095_01.row.prog w) A (.call (.ref 247) ⟨[.int c tc, .ref lf, .ref lw], []⟩) R s := by
  obtain ⟨X, T⟩ := G
  obtain ⟨Ah, Ad, Af, Ag, Au⟩ := A
  obtain rfl : Ah = none := r.hd
  refine' enterC (binds := [(Str.ofString "choice", .int c tc), (Str.ofString "family", .ref lf), (Str.ofString "words", .ref lw)]) X T.nolimit ?hr ?k6 ?k7 ?k9 ?kB ?kn ?_ ?c6 ?c7 ?c8
  case hr => exact Nat.lt_of_le_of_lt (Nat.le_add_right _ _) r.dp
  case k6 => k_dflt k_is
  case k7 => k_dflt k_is
  case k9 => exact BindsTo.of_eq rfl
  case kB => rfl
  case kn => decide
  case c6 => rfl
  case c7 => rfl
  case c8 => rfl
  intro L h₁ tk₁ cells F N CL
  w_top on
  obtain ⟨o1, o2, o3, rfl, d1, d2, d3⟩ := CellsAre.three CL
  replace d1 : o1.data = .cell none := d1
  replace d2 : o2.data = .cell (some (.ref lw)) := d2
  replace d3 : o3.data = .cell (some (.int c tc)) := d3
  clear CL
  have hifl : fvs.length = fam.length := by rw [hif.length, List.length_map]
  have hif2 : ∀ {j : Nat} {v : Value}, fvs[j]? = some v → ∃ t, j < fam.length ∧ v = .int ((fam.getD j 0 : Nat) : Int) t := fun {j v} hv => by
    obtain ⟨t, hj, rfl⟩ := ints_at hif hv
    rw [List.length_map] at hj
    exact ⟨t, hj, by simp [List.getD, hj]⟩
  have hcc : (15 : Int) - (c : Int) = ((15 - c : Nat) : Int) := by omega
  have hlf2 : ∀ {h L m}, Fr s.heap L h m → h.IsList lf fvs.toArray := fun F => hlf.at fun o e => F.keep _ o e
  have hlw2 : ∀ {h L m}, Fr s.heap L h m → h.IsList lw wvs.toArray := fun F => hlw.at fun o e => F.keep _ o e
  walk_at "mwl"
  refine newList_K (by assumption) (by assumption) ?_
  intro a' h2 F2 N2 l2
  walk_at "mw"
  walk_at "compT"
  walk_at "mw"
  rename IsRange _ _ _ _ _ _ _ _ => hr4
  rename Fr _ _ _ _ => F4
  rename News _ _ _ _ => N4
  k_unfold
  try dsimp only
  refine LCt.CompSrcT.range (n := 16) rfl F4 N4 hr4 rfl rfl (Nat.le_of_ble_eq_true rfl) ?_
  intro g
  refine comp_T (fun i ys nw => nw = _ ∧ StrsAre ys (nmsTo Ws c i)) ⟨rfl, .nil⟩ ?_ ?_
  · rintro i ys _ v I oI C oC D m₂ h tk E' hi4 ⟨tv, rfl⟩ ⟨rfl, hy⟩ hC hx F5 N5 off ne
    rw [Int.zero_add] at hx
    have hw : Wd (Ws.getD i Str.empty) := hWd _ (getD_mem (by omega))
    walk_at "mw"
    · rename Builtin.bitAnd _ _ = _ => hb
      have hb := int_and_eq.mp hb
      refine item_strsA (hlw2 F5) hiw (Int.natCast_nonneg _) (by rw [hW]; exact Int.ofNat_lt.mpr hi4) (Int.lt_trans (Int.ofNat_lt.mpr hi4) (by decide)) ?_
      intro t'
      rw [Int.toNat_natCast]
      walk_at "mw"
      refine LCg.CompEnd.intro F5 N5 _ (fun p hp => hp) off trivial ⟨rfl, ?_⟩
      rw [nmsTo_succ, if_pos hb]
      exact strs_snoc hy _ _
    · rename ¬ Builtin.bitAnd _ _ = _ => hb
      have hb := fun q => hb (int_and_eq.mpr q)
      refine LCg.CompEnd.intro F5 N5 _ (fun p hp => hp) off trivial ⟨rfl, ?_⟩
      rw [nmsTo_succ, if_neg hb, List.append_nil]
      exact hy
  · rintro ys _ ⟨rfl, hy⟩
    clear F4 N4 hr4
    walk_at "mw"
    rename Fr _ _ _ _ => F5
    rename News _ _ _ _ => N5
    have hnms0 : ∀ y ∈ nmsTo Ws c 16, Wd y := fun y hy => by
      unfold nmsTo at hy
      obtain ⟨o, ho, rfl⟩ := List.mem_map.mp hy
      exact (hWd _ (getD_mem (by rw [hW]; exact List.mem_range.mp (List.mem_filter.mp ho).1))).lower
    have ha5 := Heap.lt_size (N5 _ (.tail _ (.head _))).1
    have hc5 := Heap.lt_size (N5 _ (.tail _ (.tail _ (.head _)))).1
    have hac : a' ≠ L + 1 + 1 + 1 := (Nat.ne_of_lt (l2 _ (.head _))).symm
    refine sorted_N_str F5 N5 (News.isList N5 (.head _)) hy (by have := hy.length; have := nmsTo_len Ws c 16; omega) ?_
    intro h6 svs ss e6 F6 N6 hS6 hperm hsort
    clear F5 N5
    have hnms : ∀ y ∈ ss, Wd y := fun y hy => hnms0 y (hperm.mem_iff.mp hy)
    walk_at "mw"
    try dsimp only at N6
    try dsimp only at ha5
    try dsimp only at hc5
    refine' for_list (vs := svs) (news := [(a', W.listOf #[] 0), (L + 1 + 1 + 1, o1), (L + 1 + 1, o2), (L + 1, o3)]) (kept := []) ?a1 ?a2 ?a3 ?a4 ?a5 ?a6 ?a7
      (fun i m nx kp => ∃ its n oc xv, nx = [(a', W.listOf (List.toArray its) n), (L + 1 + 1 + 1, oc), (L + 1 + 1, o2), (L + 1, o3)] ∧ oc.data = .cell xv ∧ (∀ p ∈ kp, p.2.cls = .type "tuple" ∨ p.2.cls = .type "list") ∧ DatAll kp its ((dueOf Ws fam c (ss.take i)).map dueDat) ∧ m (Str.ofString "due") = some (.ref a') ∧ m (Str.ofString "family") = some (.ref lf)) ?a8 ?_ ?_ ?a9
    case a1 => rfl
    case a2 => exact News.isList N6 (.head _)
    case a3 => exact F6
    case a4 => exact fun p hp => N6 p (.tail _ (.tail _ hp))
    case a5 =>
      refine Or.inr (fun q => ?_)
      have q : _ + 1 ∈ [a', L + 1 + 1 + 1, L + 1 + 1, L + 1] := q
      simp only [List.mem_cons, List.not_mem_nil, or_false] at q
      rcases q with q | q | q | q
      · exact ne_succ ha5 q
      · exact ne_succ hc5 q
      · exact ne_succ (Nat.lt_of_succ_lt hc5) q
      · exact ne_succ (Nat.lt_of_succ_lt (Nat.lt_of_succ_lt hc5)) q
    case a6 => exact (N6 _ (.head _)).2.1
    case a7 => exact kept_nil
    case a8 => exact ⟨[], 0, o1, _, rfl, d1, fun p hp => (nomatch hp), .nil, rfl, rfl⟩
    case a9 => intro _; rfl
    · rintro i v m₁ nx kq own h tk hv ⟨its, n, oc, xv, rfl, hoc, hkq, hD, hm1, hm2⟩ hnx hoff F' N'
      clear F6 N6
      replace F' := fr_see2 F' hm1 hm2
      obtain ⟨nm, tn, rfl, hnm⟩ := hS6.item i v hv
      dsimp only [List.nil_append, List.cons_append] at N' hoff
      have hcls : ∀ q ∈ kq, q.2.cls ≠ .type "list_iterator" := fun q hq => by
        rcases hkq q hq with e | e <;> rw [e] <;> exact cls_ne (by decide)
      have hne3 : ∀ p ∈ (L + 1 + 1, o2) :: (L + 1, o3) :: (kq ++ own), p.1 ≠ L + 1 + 1 + 1 := by
        intro p hp
        rcases List.mem_cons.mp hp with rfl | hp
        · exact Nat.ne_of_lt (Nat.lt_succ_self _)
        · rcases List.mem_cons.mp hp with rfl | hp
          · exact Nat.ne_of_lt (Nat.lt_succ_of_lt (Nat.lt_succ_self _))
          · exact hoff p hp _ (.tail _ (.head _))
      refine wpAny_assign_Name ?_
      refine storeX_C F' N' (by rfl) (UpdF.tail hac (UpdF.head hne3)) hoc ?_
      clear F' N'
      intro h8 oc8 F8 N8 d8
      walk_at "mw"
      walk_at "acompT"
      walk_at "mw"
      k_unfold
      try dsimp only
      have hnmw : Wd nm := hnms _ (List.mem_of_getElem? hnm)
      refine LCt.CompSrcT.base rfl F8 N8 hlf (by rw [sizeLine_eq, List.size_toArray]; omega) ?_
      intro g
      refine comp_T (fun i ys nw => nw = _ ∧ StrsAre ys (dvals Ws (fam.take i) c nm)) ⟨rfl, .nil⟩ ?_ ?_
      · rintro j ys _ v I oI C oC D m₂ h tk E' hj4 hvj ⟨rfl, hy⟩ hC hx F9 N9 off ne
        obtain ⟨tf, hjf, rfl⟩ := hif2 (j := j) (v := v) (by simpa using hvj)
        have hfj : fam[j]? = some (fam.getD j 0) := by simp [List.getD, hjf]
        have hfi := hf16 _ (getD_mem (d := 0) hjf)
        have hw : Wd (Ws.getD (fam.getD j 0 &&& c) Str.empty) := hWd _ (getD_mem (by rw [hW]; exact and_lt hfi))
        walk_at "mw"
        rw [and_nat]
        refine item_strsA (hlw2 F9) hiw (Int.natCast_nonneg _) (by rw [hW]; exact Int.ofNat_lt.mpr (and_lt hfi)) (Int.lt_trans (Int.ofNat_lt.mpr (and_lt hfi)) (by decide)) ?_
        intro t2
        rw [Int.toNat_natCast]
        walk_at "mw"
        · rename (_ == _) = true => hb
          rw [hcc, and_nat]
          refine item_strsA (hlw2 F9) hiw (Int.natCast_nonneg _) (by rw [hW]; exact Int.ofNat_lt.mpr (and_lt hfi)) (Int.lt_trans (Int.ofNat_lt.mpr (and_lt hfi)) (by decide)) ?_
          intro t3
          rw [Int.toNat_natCast]
          refine LCg.CompEnd.intro F9 N9 _ (fun p hp => hp) off (.inl hlf) ⟨rfl, ?_⟩
          rw [take_some hfj, dvals_snoc, if_pos hb]
          exact strs_snoc hy _ _
        · rename (_ == _) = false => hb
          refine LCg.CompEnd.intro F9 N9 _ (fun p hp => hp) off (.inl hlf) ⟨rfl, ?_⟩
          rw [take_some hfj, dvals_snoc, if_neg (by rw [hb]; decide), List.append_nil]
          exact hy
      · rintro ys _ ⟨rfl, hy⟩
        clear F8 N8
        rw [List.size_toArray, hifl, List.take_length] at hy
        walk_at "mw"
        rename_i D9 _ _ o9 l9 _ F9 N9 q9
        have hok : ∀ z ∈ dvals Ws fam c nm, PyData.strOk z = true := fun z hz => by
          unfold dvals at hz
          obtain ⟨f, hf, rfl⟩ := List.mem_map.mp hz
          exact (hWd _ (getD_mem (by rw [hW]; exact and_lt (hf16 f ((List.mem_filter.mp hf).1))))).ok
        refine ne_strs (ms := []) (News.isList N9 (.tail _ (.head _))) (News.isList N9 (.head _)) hy .nil hok (fun z hz => nomatch hz) (by walk_at "room") ?_
        walk_at "mw"
        · rename decide _ = true => he
          refine TurnEnd.next (nx := [(a', W.listOf (List.toArray its) n), (L + 1 + 1 + 1, oc8), (L + 1 + 1, o2), (L + 1, o3)]) (kept := kq) F9 N9 (fun q hq => .tail _ (.tail _ (mem_four hq))) (fun q hq => .tail _ (.tail _ (mem_after4 (List.mem_append_left _ hq)))) (fun q hq => .tail _ (.tail _ (mem_after4 (List.mem_append_right _ hq)))) rfl (fun q hq => ⟨fun hm => hoff q (List.mem_append_left _ hq) _ hm rfl, hcls q hq⟩) ⟨its, n, oc8, _, rfl, d8, hkq, ?_, rfl, rfl⟩
          rw [take_some hnm, dueOf_snoc, if_pos (of_decide_eq_true he), List.append_nil]
          exact hD
        · rename decide _ = false => he
          rename_i T9 hT9 F10 N10 q10
          have hown : ∀ oT : Obj, OwnOff ((T9, oT) :: (D9, LCg.lst ys) :: (L + 1 + 1 + 1, oc8) :: (L + 1 + 1, o2) :: (L + 1, o3) :: (kq ++ own)) [a'] := by
            intro oT p hp b hb
            rw [List.mem_singleton.mp hb]
            simp only [List.mem_cons] at hp
            rcases hp with rfl | rfl | rfl | rfl | rfl | hp
            · exact Nat.ne_of_gt q10.2.2.1
            · exact o9.1.symm
            · exact hac.symm
            · exact Nat.ne_of_lt (l2 _ (.tail _ (.head _)))
            · exact Nat.ne_of_lt (l2 _ (.tail _ (.tail _ (.head _))))
            · exact hoff p hp _ (.head _)
          refine app_led F10 (fun p hp => N10 p (mem_shift hp)) (hown _) (.head _) (by have := datAll_len hD; rw [List.length_map] at this; have := dueOf_len Ws fam c (ss.take i); rw [List.length_take] at this; have := hperm.length_eq; have := nmsTo_len Ws c 16; rw [sizeLine_eq, List.size_toArray]; omega) ?_
          intro h11 F11 N11
          rw [List.push_toArray] at N11
          walk_at "mw"
          refine TurnEnd.next (nx := [(a', W.listOf (List.toArray (its ++ [.ref T9])) (n + 1)), (L + 1 + 1 + 1, oc8), (L + 1 + 1, o2), (L + 1, o3)]) (kept := (T9, _) :: (D9, LCg.lst ys) :: kq) F11 N11 (fun q hq => mem_mix1 hq) (fun q hq => mem_mix2 hq) (fun q hq => mem_mix3 hq) rfl (fun q hq => ?_) ⟨_, _, oc8, _, rfl, d8, fun q hq => ?_, ?_, rfl, rfl⟩
          · rcases List.mem_cons.mp hq with rfl | hq
            · exact ⟨not_mem_four (Nat.ne_of_gt q10.2.2.1) (Nat.ne_of_gt q10.2.2.2.1) (Nat.ne_of_gt q10.2.2.2.2.1) (Nat.ne_of_gt q10.2.2.2.2.2.1), cls_ne (by decide)⟩
            · rcases List.mem_cons.mp hq with rfl | hq
              · exact ⟨not_mem_four o9.1.symm o9.2.1.symm o9.2.2.1.symm o9.2.2.2.1.symm, cls_ne (by decide)⟩
              · exact ⟨fun hm => hoff q (List.mem_append_left _ hq) _ hm rfl, hcls q hq⟩
          · rcases List.mem_cons.mp hq with rfl | hq
            · exact .inl rfl
            · rcases List.mem_cons.mp hq with rfl | hq
              · exact .inr rfl
              · exact hkq q hq
          · rw [take_some hnm, dueOf_snoc, if_neg (of_decide_eq_false he), List.map_append]
            exact datAll_append (hD.mono fun p hp => .tail _ (.tail _ hp)) (.cons (.tuple (.head _) (.cons (.str _ _) (.cons (.list (.tail _ (.head _)) (datAll_strs hy)) .nil))) .nil)
    · rintro m₁ nx kq h tk ⟨its, n, oc, xv, rfl, hoc, hkq, hD, hm1, hm2⟩ hnx hoff F' N'
      clear F6 N6
      replace F' := fr_see2 F' hm1 hm2
      walk_at "mw"
      rw [hS6.length, List.take_length] at hD
      exact hR _ _ _ _ _ kq ss F'.keep (N' _ (.head _)).2.2 (N' _ (.head _)).1 hD (fun p hp => ⟨(N' p (.tail _ (.tail _ (.tail _ (.tail _ hp))))).1, (N' p (.tail _ (.tail _ (.tail _ (.tail _ hp))))).2.2⟩) hperm hsort

end

section
open PySem PySem.W PySem.Calls PyProof.Rows
section
variable {prog : Program} {w : World} {A : Around} {R : Result → Shared → Prop} {s : Shared}
theorem compTurn_set (elt target iter : Expr) (scope : Scope) (pos : Pos) (it acc : Value) (env : Env) :
    compTurn (.SetComp elt [⟨target, iter, [], 0⟩] scope pos) 0 it acc env = (standAt iter.pos >>= fun _ => pyNext it >>= fun r => match r with
      | none => pure (.done .next)
      | some v => letOwnedTupleGo target it v >>= fun _ => assign target env v >>= fun _ =>
        (eval elt env >>= fun x => standAt elt.pos >>= fun _ => call (.builtin "set.add") [acc, x] >>= fun _ => pure ()) >>= fun _ =>
          again (.compLoop (.SetComp elt [⟨target, iter, [], 0⟩] scope pos) 0 it acc env)) := by rfl
theorem compLoop_set {elt target iter : Expr} {scope : Scope} {pos : Pos} {it acc : Value} {env : Env} (I : Nat → Shared → Prop)
    (turn : ∀ n s, I n s → wpAny (model prog w) A (pyNext it) (fun r s₁ => match r with
      | none => R (.ok .next) s₁
      | some v => wpAny (model prog w) A (assign target env v) (fun _ s₂ => wpAny (model prog w) A (eval elt env) (fun x s₄ =>
          wpAny (model prog w) A (call (.builtin "set.add") [acc, x]) (fun _ s₅ => ∃ m, m < n ∧ I m s₅) (fun _ _ => False) s₄) (fun _ _ => False) s₂) (fun _ _ => False) s₁) (fun _ _ => False) s)
    (n : Nat) (h : I n s) (ht : ∀ v, letOwnedTupleGo target it v = pure () := by intro _; rfl) :
    codeAny (model prog w) A (.compLoop (.SetComp elt [⟨target, iter, [], 0⟩] scope pos) 0 it acc env) R s := by
  refine codeAny_loop rfl I (fun n s hI => ?_) n h
  show wpAny _ A ((compTurn (.SetComp elt [⟨target, iter, [], 0⟩] scope pos) 0 it acc env).onRaise (fun x => do noteFrame x env; theTreesLotGoes x)) _ _ s
  refine wpAny_noted ?_
  rw [compTurn_set]
  refine wpAny_bind (wpAny_standAt (wpAny_bind (wpAny_mono (turn n s hI) (fun r s₁ h₁ => ?_) fun _ _ h' => h'.elim)))
  cases r with
  | none => exact wpAny_pure h₁
  | some v =>
    refine wpAny_bind (wpAny_of_eq (ht v) ?_)
    refine wpAny_bind (wpAny_mono h₁ (fun _ s₂ h₂ => wpAny_bind (wpAny_bind (wpAny_mono h₂ (fun x s₄ h₄ => wpAny_bind (wpAny_standAt (wpAny_bind (wpAny_mono h₄ (fun _ s₅ h₅ => wpAny_pure (wpAny_pure ⟨rfl, h₅⟩)) fun _ _ h' => h'.elim)))) fun _ _ h' => h'.elim))) fun _ _ h' => h'.elim)
theorem compStart_set {elt target iter : Expr} {ifs : List Expr} {rest : List Comprehension} {scope : Scope} {pos : Pos} {it acc : Value} {env : Env}
    (h0 : codeAny (model prog w) A (.compLoop (.SetComp elt (⟨target, iter, ifs, 0⟩ :: rest) scope pos) 0 it acc env) R s)
    (h : wpAny (model prog w) A (pyIter it) (fun it' s' => codeAny (model prog w) A (.compLoop (.SetComp elt (⟨target, iter, ifs, 0⟩ :: rest) scope pos) 0 it' acc env) R s')
      (notedBy (model prog w) A env fun x s' => R (.error x) s') s) :
    codeAny (model prog w) A (.compStart (.SetComp elt (⟨target, iter, ifs, 0⟩ :: rest) scope pos) 0 it acc env) R s := by
  refine codeAny_of_tree ?_
  show wpAny _ _ ((compStart (.SetComp elt (⟨target, iter, ifs, 0⟩ :: rest) scope pos) 0 it acc env).onRaise (fun x => do noteFrame x env; standAt theWindowsPlace)) _ _ s
  refine wpAny_notedAt ?_
  unfold compStart
  show wpAny _ _ (ask >>= _) _ _ s
  refine wpAny_bind (wpAny_askSetting (wpAny_ite ?_))
  split
  · first
      | exact wpAny_bind (wpAny_pure (wpAny_pure (And.intro rfl h0)))
      | exact wpAny_pure (And.intro rfl h0)
  · first
      | exact wpAny_bind (wpAny_rule (wpAny_bind (wpAny_standAt (wpAny_bind (wpAny_mono h (fun it' s' h' => wpAny_pure (And.intro rfl h')) fun _ _ x => x)))))
      | (refine wpAny_bind (wpAny_rule ?_); show wpAny _ _ (standAt iter.pos >>= _) _ _ s; exact wpAny_bind (wpAny_standAt (wpAny_bind (wpAny_mono h (fun it' s' h' => wpAny_pure (And.intro rfl h')) fun _ _ x => x))))
end
section
variable {prog : Program} {w : World} {A : Around} {E : Value → Shared → Prop} {s : Shared} {h₀ : Heap} {L : Addr} {m : Str → Option Value} {env : Env}
/-- the end of an element of a set -/
noncomputable def SetEnd (w : World) (prog : Program) (h₀ : Heap) (L : Addr) (m : Str → Option Value) (s₁ : Shared) (led : List (Addr × Obj)) (S : Int → Bool) (c : Nat) (Inv : (Int → Bool) → Nat → Prop) (y : Value) (s₂ : Shared) : Prop :=
  ∃ k t h' tk, y = .int k t ∧ s₂ = { s₁ with heap := h', toks := tk } ∧ Fr h₀ L h' m ∧ News h₀ L h' led ∧ Inv (fun k' => S k' || decide (k' = k)) (if S k then c else c + 1)
theorem block_S {elt iter : Expr} {x : Str} {px : Pos} {scope : Scope} {cl : List (Str × Addr)} {pos : Pos} {s₂ : Shared} {I l : Addr} {its : Array Value} {news : List (Addr × Obj)} {RR : Value → Addr → Result → Shared → Prop}
    (hh : A.handled = none) (hcell : ∀ y ∈ scope.names, y.2 ≠ .cell) (hkind : scope.kind = .function) (hx : scope.names.lookup x = some .local)
    (hit : s₂.heap.IsListIter I l 0) (hll : LCg.SrcAt h₀ l its news) (hlI : l ≠ I)
    (F : Fr h₀ L s₂.heap m) (N : News h₀ L s₂.heap news) (hIL : L ≠ I) (hI₀ : h₀.get? I = none) (off : ∀ p ∈ news, p.1 ≠ I) (hn : its.size < 100)
    (Inv : Nat → (Int → Bool) → Nat → Prop) (h0 : Inv 0 (fun _ => false) 0) (hInv : ∀ i S c, Inv i S c → c ≤ i)
    (turn : ∀ i S c v I oI C oC D oD m₂ h tk, i < its.size → its[i]? = some v → Inv i S c → LCg.NsObj oC m₂ → m₂ x = some v → Fr h₀ L h m → News h₀ L h ((I, oI) :: (C, oC) :: (D, oD) :: news) →
      wpAny (model prog w) A (eval elt (compEnvC scope cl C env)) (SetEnd w prog h₀ L m { s₂ with heap := h, toks := tk } ((I, oI) :: (C, oC) :: (D, oD) :: news) S c (Inv (i + 1))) (fun _ _ => False) { s₂ with heap := h, toks := tk })
    (hRR : ∀ D C h tk m' so S c, Fr h₀ L h m → News h₀ L h ((D, so) :: news) → so.SetObjOf (intKind prog w) S c → Inv its.size S c → h.Ns C m' → h₀.get? C = none → C ≠ L → C ≠ D → (∀ p ∈ news, p.1 ≠ C ∧ p.1 ≠ D) → RR (.ref D) C (.ok .next) { s₂ with heap := h, toks := tk }) :
    wpAny (model prog w) A (newSet (.type "set")) (fun acc s₃ => wpAny (model prog w) A (newFunctionEnv scope env.globals cl [] env.qual none .none (some env)) (fun cenv s₄ =>
      codeAny (model prog w) A (.compStart (.SetComp elt [⟨.Name x px, iter, [], 0⟩] scope pos) 0 (.ref I) acc { cenv with scope := relabel scope env }) (RR acc cenv.locals) s₄) E s₃) E s₂ := by
  refine wpAny_newSet_of (knd := intKind prog w) fun led hset => ?_
  refine wpAny_newFunctionEnv hcell (by intro y hy; simp at hy) (fun h₁ hns₁ hsb₁ => ?_) hkind
  dsimp only at hns₁ hsb₁ hset ⊢
  generalize hoD : ({ cls := .type "set", dict := none, data := .set #[] 0 (.fresh 0 0 led) } : Obj) = oD0 at hns₁ hsb₁ hset ⊢
  have hfree : oD0.isFreed = false := by rw [← hoD]; rfl
  have hobj : oD0.SetObjOf (intKind prog w) (fun _ => false) 0 := by rw [← hoD]; exact setObjOf_fresh led
  generalize hH2 : s₂.heap.push oD0 = H2 at hns₁ hsb₁ ⊢
  have hC : H2.objs.size = s₂.heap.objs.size + 1 := by rw [← hH2, Heap.size_push]
  have hDC : s₂.heap.objs.size ≠ H2.objs.size := by rw [hC]; exact Nat.ne_of_lt (Nat.lt_succ_self _)
  have below : ∀ b, b < s₂.heap.objs.size → b ≠ H2.objs.size ∧ b ≠ s₂.heap.objs.size := fun b hb => ⟨by rw [hC]; exact Nat.ne_of_lt (Nat.lt_succ_of_lt hb), Nat.ne_of_lt hb⟩
  have hIlt : I < s₂.heap.objs.size := by obtain ⟨_, e, _⟩ := hit; exact Heap.lt_size e
  have old : ∀ b o, s₂.heap.get? b = some o → h₁.get? b = some o := fun b o e => hsb₁.extBut b o (below b (Heap.lt_size e)).1 (Heap.get?_push_of_some _ (hH2 ▸ Heap.get?_push_of_some _ e))
  have hacc : h₁.get? s₂.heap.objs.size = some oD0 := hsb₁.extBut _ _ hDC (Heap.get?_push_of_some _ (hH2 ▸ Heap.get?_push_size _ hfree))
  have fresh₀ : ∀ a, s₂.heap.objs.size ≤ a → h₀.get? a = none := fun a ha => by
    cases e : h₀.get? a with
    | none => rfl
    | some o' => exact absurd (Heap.lt_size (F.keep a o' e)) (Nat.not_lt.mpr ha)
  have hD₀ : h₀.get? s₂.heap.objs.size = none := fresh₀ _ (Nat.le_refl _)
  have hC₀ : h₀.get? H2.objs.size = none := fresh₀ _ (by rw [hC]; exact Nat.le_succ _)
  have hLlt : L < s₂.heap.objs.size := F.ns.lt
  have hDL : s₂.heap.objs.size ≠ L := Ne.symm (below L hLlt).2
  have hCL : H2.objs.size ≠ L := Ne.symm (below L hLlt).1
  have hCI : I ≠ H2.objs.size := (below I hIlt).1
  have hDI : I ≠ s₂.heap.objs.size := (below I hIlt).2
  have off₀ : ∀ p ∈ news, p.1 ≠ I ∧ p.1 ≠ H2.objs.size ∧ p.1 ≠ s₂.heap.objs.size := fun p hp => ⟨off p hp, (below _ (Heap.lt_size (N p hp).1)).1, (below _ (Heap.lt_size (N p hp).1)).2⟩
  have W := Walks.list (prog := prog) (w := w) hh I l hlI its
  have loop : ∀ s₃ : Shared, s₃ = { s₂ with heap := h₁, toks := s₂.toks + ([] : List (Str × Value)).length } →
      codeAny (model prog w) A (.compLoop (.SetComp elt [⟨.Name x px, iter, [], 0⟩] scope pos) 0 (.ref I) (.ref s₂.heap.objs.size) (compEnvC scope cl H2.objs.size env))
        (RR (.ref s₂.heap.objs.size) H2.objs.size) s₃ := by
    rintro s₃ rfl
    refine compLoop_set
      (fun k s' => ∃ h' tk i m' so S c, s' = { s₂ with heap := h', toks := tk } ∧ i ≤ its.size ∧ k = its.size + 1 - i ∧ h'.IsListIter I l i ∧ Fr h₀ L h' m ∧ h'.Ns H2.objs.size m' ∧ News h₀ L h' ((s₂.heap.objs.size, so) :: news) ∧
        so.SetObjOf (intKind prog w) S c ∧ Inv i S c) ?_ (its.size + 1)
      ⟨h₁, _, 0, _, oD0, _, 0, rfl, Nat.zero_le _, rfl, hit.at fun o e => old _ o e, F.keeps old, hns₁, fun p hp => ?_, hobj, h0⟩
    · rintro k s' ⟨h', tk, i, m', so, S, c, rfl, hi, rfl, hit', F', hn', N', hso, hJ⟩
      have Nn : News h₀ L h' news := fun p hp => N' p (.tail _ hp)
      have hl' : h'.IsList l its := hll.list F'.keep Nn
      by_cases hlt : i < its.size
      · refine W.item i _ _ _ hlt ⟨hit', hl'⟩ fun v h₂ tk₂ hPv hst₂ hk₂ => ?_
        refine wpAny_assign_Name (wpAny_storeName_local (lookup_relabel_local hx) (hn'.at' fun o e => hk₂ _ o (by simpa using Ne.symm hCI) e) (fun h₃ hn₃ hs₃ => ?_) (by simp [compEnvC, relabel, hkind]))
        have hit₃ : h₃.IsListIter I l (i + 1) := hst₂.1.at fun o e => hs₃.extBut _ o hCI e
        obtain ⟨oI, heI, _⟩ := id hit₃
        obtain ⟨oC, heC, hoC⟩ := LCg.ns_obj hn₃
        have F₃ : Fr h₀ L h₃ m := (LCg.fr_but F' hk₂ hIL hI₀).change hs₃ hCL hC₀
        have N₃ : News h₀ L h₃ ((I, oI) :: (H2.objs.size, oC) :: (s₂.heap.objs.size, so) :: news) := fun p hp => by
          rcases List.mem_cons.mp hp with rfl | hp
          · exact ⟨heI, Ne.symm hIL, hI₀⟩
          · rcases List.mem_cons.mp hp with rfl | hp
            · exact ⟨heC, hCL, hC₀⟩
            · have z := N' p hp
              have hpI : p.1 ≠ I := by
                rcases List.mem_cons.mp hp with rfl | hp
                · exact Ne.symm hDI
                · exact (off₀ p hp).1
              have hpC : p.1 ≠ H2.objs.size := by
                rcases List.mem_cons.mp hp with rfl | hp
                · exact hDC
                · exact (off₀ p hp).2.1
              exact ⟨hs₃.extBut _ _ hpC (hk₂ _ _ (by simpa using hpI) z.1), z.2⟩
        refine wpAny_mono (turn i S c v I oI H2.objs.size oC s₂.heap.objs.size so _ h₃ _ hlt hPv hJ hoC (by simp) F₃ N₃) (fun y s₄ h₄ => ?_) fun _ _ e => e.elim
        obtain ⟨key, t, h₄, tk₄, rfl, rfl, F₄, N₄, hJ₄⟩ := h₄
        have hc := hInv _ _ _ hJ
        have hroom : c + 1 < scanBound := Nat.lt_of_le_of_lt (show c + 1 ≤ 100 by omega) (by decide)
        have hown : ∀ p ∈ [(I, oI), (H2.objs.size, oC)], p.1 ≠ s₂.heap.objs.size := by
          intro p hp
          rcases List.mem_cons.mp hp with rfl | hp
          · exact hDI
          · rw [List.mem_singleton.mp hp]; exact hDC.symm
        refine add_sl1 (s := { s₂ with heap := h₄, toks := tk₄ }) (own := [(I, oI), (H2.objs.size, oC)]) (knd := intKind prog w) (k := key) F₄ N₄ hown (fun p hp => (off₀ p hp).2.2) hso hroom (intKind_is prog w key t) rfl ?_
        intro h₅ so₅ F₅ N₅ hso₅
        have zI := (N₅ (I, oI) List.mem_cons_self).1
        have zC := (N₅ (H2.objs.size, oC) (List.mem_cons_of_mem _ List.mem_cons_self)).1
        obtain ⟨oI', q1, q2⟩ := hit₃
        rw [heI] at q1
        cases q1
        exact ⟨its.size + 1 - (i + 1), by omega, h₅, _, i + 1, _, so₅, _, _, rfl, hlt, rfl, ⟨oI, zI, q2⟩, F₅, hoC.ns zC, fun p hp => N₅ p (.tail _ (.tail _ hp)), hso₅, hJ₄⟩
      · obtain rfl : i = its.size := Nat.le_antisymm hi (Nat.not_lt.mp hlt)
        refine W.done _ _ _ ⟨hit', hl'⟩ fun h₂ tk₂ hk₂ => ?_
        exact hRR _ _ h₂ tk₂ _ so S c (LCg.fr_but F' hk₂ hIL hI₀) (LCg.news_but N' hk₂ fun p hp => by
          rcases List.mem_cons.mp hp with rfl | hp
          · exact Ne.symm hDI
          · exact (off₀ p hp).1) hso hJ (hn'.at' fun o e => hk₂ _ o (by simpa using Ne.symm hCI) e) hC₀ hCL (Ne.symm hDC) (fun p hp => (off₀ p hp).2)
    · rcases List.mem_cons.mp hp with rfl | hp
      · exact ⟨hacc, hDL, hD₀⟩
      · exact ⟨old _ _ (N p hp).1, (N p hp).2⟩
  exact compStart_set (loop _ rfl) (W.self 0 _ _ _ ⟨hit.at fun o e => old _ o e, (hll.list F.keep N).at fun o e => old _ o e⟩ (loop _ rfl))
/-- the iterable of a set's comprehension -/
noncomputable def SrcS (prog : Program) (w : World) (A : Around) (h₀ : Heap) (L : Addr) (m : Str → Option Value) (env : Env) (elt : Expr) (x : Str) (scope : Scope) (cl : List (Str × Addr)) (y : Str) (Q : Flow → Shared → Prop) (xv : Value) (s₁ : Shared) : Prop :=
  ∃ ax its news, ∃ Inv : Nat → (Int → Bool) → Nat → Prop, xv = .ref ax ∧ A.handled = none ∧ Fr h₀ L s₁.heap m ∧ News h₀ L s₁.heap news ∧ LCg.SrcAt h₀ ax its news ∧ its.size < 100 ∧ Inv 0 (fun _ => false) 0 ∧ (∀ i S c, Inv i S c → c ≤ i) ∧
    (∀ i S c v I oI C oC D oD m₂ h tk, i < its.size → its[i]? = some v → Inv i S c → LCg.NsObj oC m₂ → m₂ x = some v → Fr h₀ L h m → News h₀ L h ((I, oI) :: (C, oC) :: (D, oD) :: news) →
      wpAny (model prog w) A (eval elt (compEnvC scope cl C env)) (SetEnd w prog h₀ L m { s₁ with heap := h, toks := tk } ((I, oI) :: (C, oC) :: (D, oD) :: news) S c (Inv (i + 1))) (fun _ _ => False) { s₁ with heap := h, toks := tk }) ∧
    (∀ D h tk so S c, Fr h₀ L h (fun z => if z = y then some (.ref D) else m z) → News h₀ L h ((D, so) :: news) → so.SetObjOf (intKind prog w) S c → Inv its.size S c → (∀ p ∈ news, p.1 ≠ D) → Q .next { s₁ with heap := h, toks := tk })
theorem Assign_SetComp {elt iter : Expr} {x y : Str} {px py : Pos} {scope : Scope} {cl : List (Str × Addr)} {pos spos : Pos} {Q : Flow → Shared → Prop} (F₀ : Fr h₀ L s.heap m) (hLe : env.locals = L)
    (hsw : swapsWith (.SetComp elt [⟨.Name x px, iter, [], 0⟩] scope pos) (some (.Name y py)) spos.line env = pure true)
    (hclos : closureFor scope env = pure cl) (hcell : ∀ z ∈ scope.names, z.2 ≠ .cell) (hkind : scope.kind = .function)
    (hnames : ∀ z ∈ scope.names, z.2 = .local → scope.names.lookup z.1 = some .local) (hx : scope.names.lookup x = some .local)
    (hy : env.kindOf y = some .local) (hp : (env.scope.kind == .class || (env.scope.kind == .module && env.locals != env.globals)) = false)
    (h : wpAny (model prog w) A (eval iter env) (SrcS prog w A h₀ L m env elt x scope cl y Q) E s)
    (hs : ∀ x, foldedSetIterable iter env x = pure x := by intro _; rfl) :
    wpAny (model prog w) A (exec (.Assign [.Name y py] (.SetComp elt [⟨.Name x px, iter, [], 0⟩] scope pos) spos) env) Q E s := by
  subst hLe
  rw [exec_Assign_Name_used _ _ _ _ hsw]
  refine wpAny_bind (wpAny_standAt (wpAny_bind ?_))
  show wpAny _ A (do let _ ← comprehension (.SetComp elt [⟨.Name x px, iter, [], 0⟩] scope pos) scope env _ (newSet (.type "set")) false (eval iter env) (some (assign (.Name y py) env))) _ _ s
  refine wpAny_bind (wpAny_mono (wpAny_comprehension_free (use := some (assign (.Name y py) env)) (Q := fun _ s' => Q .next s') rfl hs hclos hkind hnames
    (wpAny_mono h (fun xv s₁ h₁ => ?_) fun _ _ e => e)) (fun _ s' hq => wpAny_pure (wpAny_pure hq)) fun _ _ e => e)
  obtain ⟨ax, its, news, Inv, rfl, hh, F, N, S, hsz, h0, hInv, turn, fin⟩ := h₁
  have hl := S.list F.keep N
  have hlt : ax < s₁.heap.objs.size := by obtain ⟨_, e, _⟩ := hl; exact Heap.lt_size e
  refine wpAny_pyIter_list hl ?_
  have up : ∀ b o, s₁.heap.get? b = some o → (s₁.heap.push { cls := .type "list_iterator", data := .fields #[.ref ax, .int 0 0] }).get? b = some o := fun b o e => Heap.get?_push_of_some _ e
  refine block_S (s₂ := { s₁ with heap := s₁.heap.push { cls := .type "list_iterator", data := .fields #[.ref ax, .int 0 0] } }) hh hcell hkind hx ⟨_, Heap.get?_push_size _ rfl, rfl, rfl⟩ S (Nat.ne_of_lt hlt) (F.keeps up) (N.grown up) (Nat.ne_of_lt F.ns.lt) (next_is_new F) (fun p hp => Nat.ne_of_lt (Heap.lt_size (N p hp).1)) hsz Inv h0 hInv turn ?_
  intro D C h' tk m' so S' c F' N' hso hJ hn hC₀ hCL hCD offC
  show wpAny _ A (assign (.Name y py) env (.ref D)) _ _ _
  refine wpAny_assign_Name (wpAny_storeName_local hy F'.ns (fun h₂ hn₂ hs₂ => ?_) hp)
  have hL₀ : h₀.get? env.locals = none := Heap.get?_none_of_le F'.above
  have F₂ : Fr h₀ env.locals h₂ (fun z => if z = y then some (.ref D) else m z) := ⟨hn₂, fun b o e => hs₂.extBut b o (fun q => by rw [q, hL₀] at e; cases e) (F'.keep b o e), F'.above⟩
  refine ⟨m', hn.sameBut hs₂ hCL, fun h'' hs'' => fin D h'' _ so S' c (F₂.change hs'' hCL hC₀) (fun p hp => ?_) hso hJ (fun p hp => (offC p hp).2)⟩
  have z : h₂.get? p.1 = some p.2 := hs₂.extBut _ _ (N' p hp).2.1 (N' p hp).1
  refine ⟨hs''.extBut _ _ ?_ z, (N' p hp).2⟩
  rcases List.mem_cons.mp hp with rfl | hp
  · exact Ne.symm hCD
  · exact (offC p hp).1
end
end

section
open PySem PySem.W PySem.Calls PyProof.Rows
/-- each once, in order -/
noncomputable def dd (l : List Int) : List Int := l.foldl (fun acc x => if x ∈ acc then acc else acc ++ [x]) []
theorem dd_snoc (l : List Int) (x : Int) : dd (l ++ [x]) = if x ∈ dd l then dd l else dd l ++ [x] := by
  unfold dd
  rw [List.foldl_append]
  rfl
theorem dd_len (l : List Int) : (dd l).length ≤ l.length := by
  have key : ∀ (l acc : List Int), (l.foldl (fun acc x => if x ∈ acc then acc else acc ++ [x]) acc).length ≤ acc.length + l.length := by
    intro l
    induction l with
    | nil => intro acc; simp
    | cons n r ih =>
      intro acc
      rw [List.foldl_cons]
      refine Nat.le_trans (ih _) ?_
      split <;> simp <;> omega
  have := key l []
  rw [List.length_nil, Nat.zero_add] at this
  exact this
noncomputable def lackTo (fam : List Nat) (i : Nat) : List Nat := (List.range i).filter fun o => !(fam.contains o)
theorem lackTo_succ (fam : List Nat) (i : Nat) : lackTo fam (i + 1) = lackTo fam i ++ if fam.contains i then [] else [i] := by
  unfold lackTo
  rw [List.range_succ, List.filter_append]
  congr 1
  have e : ∀ b : Bool, fam.contains i = b → List.filter (fun o => !(fam.contains o)) [i] = if b = true then [] else [i] := by
    intro b hb
    cases b with
    | true => rw [List.filter_cons_of_neg (by rw [hb]; decide)]; rfl
    | false => rw [List.filter_cons_of_pos (by rw [hb]; decide)]; rfl
  exact e _ rfl
noncomputable def zeroTo (c i : Nat) : List Nat := (List.range i).filter fun o => decide (o &&& c = 0)
theorem zeroTo_succ (c i : Nat) : zeroTo c (i + 1) = zeroTo c i ++ if i &&& c = 0 then [i] else [] := by
  unfold zeroTo
  rw [List.range_succ, List.filter_append]
  congr 1
  by_cases h : i &&& c = 0 <;> simp [h]
noncomputable def shownL (fam : List Nat) (c : Nat) : List Int := (lackTo fam 16).map fun o => ((o &&& (15 - c) : Nat) : Int)
noncomputable def firmTo (fam : List Nat) (i : Nat) : List Nat := (List.range i).filter fun c => decide ((dd (shownL fam c)).length < (zeroTo c 16).length)
theorem firmTo_succ (fam : List Nat) (i : Nat) : firmTo fam (i + 1) = firmTo fam i ++ if (dd (shownL fam i)).length < (zeroTo i 16).length then [i] else [] := by
  unfold firmTo
  rw [List.range_succ, List.filter_append]
  congr 1
  by_cases h : (dd (shownL fam i)).length < (zeroTo i 16).length <;> simp [h]
theorem range_filter_len (p : Nat → Bool) (i : Nat) : ((List.range i).filter p).length ≤ i := Nat.le_trans (List.length_filter_le _ _) (by rw [List.length_range]; exact Nat.le_refl _)
theorem firmTo_len (fam : List Nat) (i : Nat) : (firmTo fam i).length ≤ i := range_filter_len _ i
theorem lackTo_len (fam : List Nat) (i : Nat) : (lackTo fam i).length ≤ i := range_filter_len _ i
theorem zeroTo_len (c i : Nat) : (zeroTo c i).length ≤ i := range_filter_len _ i
theorem any_fam (fam : List Nat) (i : Nat) : ((fam.map Int.ofNat).any fun x => x == (i : Int)) = fam.contains i := by
  rw [List.any_map, List.contains_eq_any_beq]
  congr 1
  funext x
  show ((x : Int) == (i : Int)) = (i == x)
  by_cases h : x = i
  · subst h; simp
  · have h2 : ¬ (x : Int) = (i : Int) := fun q => h (Int.ofNat_inj.mp q)
    rw [beq_eq_false_iff_ne.mpr h2, beq_eq_false_iff_ne.mpr (Ne.symm h)]
section
variable {prog : Program} {w : World} {A : Around} {E : Value → Shared → Prop} {s : Shared}
theorem len_intsA {a : Addr} {l : List Value} {ys : List Int} {Q : Value → Shared → Prop} (hl : s.heap.IsList a l.toArray) (hi : IntsAre l ys) (hfit : ys.length < 1000)
    (h : Q (.int ys.length (s.toks + 1)) { s with toks := s.toks + 1 + 1 }) : wpAny (model prog w) A (call (.builtin "len") [.ref a]) Q E s := by
  have e : l.toArray.size = ys.length := by rw [List.size_toArray]; exact hi.length
  refine len_list hl (by rw [e]; exact Int.lt_trans (Int.ofNat_lt.mpr hfit) (by decide)) ?_
  rw [e]
  exact h
end
theorem mem_rot {α : Type} {a b c d q : α} (h : q ∈ [a, b, c] ++ [d]) : q ∈ [d, a, b, c] := by
  simp only [List.cons_append, List.nil_append, List.mem_cons, List.not_mem_nil, or_false] at h ⊢
  rcases h with h | h | h | h <;> simp [h]
end

section
open PySem PySem.W PySem.Calls PyProof.Rows
variable {w : World} {mean : ExcName → Option Value} {mg mb : Str → Option Value}
local macro_rules | `(tactic| walk_at "mstop") => `(tactic| (with_reducible show wpAny _ _ (call (Value.builtin "len") _) _ _ _))
local macro_rules | `(tactic| walk_at "mstop") => `(tactic| (with_reducible show wpAny _ _ (exec (PySem.Stmt.Assign [_] (PySem.Expr.SetComp _ _ _ _) _) _) _ _ _))
local macro_rules | `(tactic| walk_at "mstop") => `(tactic| (with_reducible show wpAny _ _ (call (Value.builtin "list.append") _) _ _ _))
local macro_rules | `(tactic| walk_at "mstop") => `(tactic| (with_reducible show SrcS _ _ _ _ _ _ _ _ _ _ _ _ _ _ _))

theorem dd_take_len (l : List Int) (i : Nat) : (dd (l.take i)).length ≤ i := Nat.le_trans (dd_len _) (by rw [List.length_take]; exact Nat.min_le_left _ _)
noncomputable def InvF (im : List Int) (i : Nat) (S : Int → Bool) (c : Nat) : Prop := (∀ k, S k = decide (k ∈ dd (im.take i))) ∧ c = (dd (im.take i)).length
theorem invF_zero (im : List Int) : InvF im 0 (fun _ => false) 0 := ⟨fun k => by simp [dd], by simp [dd]⟩
theorem invF_succ {im : List Int} {i : Nat} {S : Int → Bool} {c : Nat} {x : Int} (h : InvF im i S c) (hx : im[i]? = some x) : InvF im (i + 1) (fun k => S k || decide (k = x)) (if S x then c else c + 1) := by
  obtain ⟨h1, h2⟩ := h
  have e : im.take (i + 1) = im.take i ++ [x] := take_some hx
  constructor
  · intro k
    dsimp only
    rw [e, dd_snoc, h1]
    by_cases hm : x ∈ dd (im.take i)
    · rw [if_pos hm]
      by_cases hk : k = x
      · subst hk; simp [hm]
      · simp [hk]
    · rw [if_neg hm]
      simp [List.mem_append]
  · rw [e, dd_snoc, h1, h2]
    by_cases hm : x ∈ dd (im.take i)
    · simp [hm]
    · simp [hm]

theorem mem_four5 {α : Type} {a b c d q : α} {r : List α} (h : q ∈ [a, b, c, d]) : q ∈ a :: b :: c :: d :: r := by
  simp only [List.mem_cons, List.not_mem_nil, or_false] at h ⊢
  rcases h with h | h | h | h <;> simp [h]

section
variable {α : Type} {a b c d e f q : α} {r : List α}
theorem mem_up3 (h : q ∈ a :: d :: e :: b :: c :: f :: r) : q ∈ d :: e :: a :: b :: c :: f :: r := by
  simp only [List.mem_cons] at h ⊢
  rcases h with h | h | h | h | h | h | h <;> simp [h]
theorem mem_a1 (h : q ∈ [a, b, c]) : q ∈ a :: d :: e :: b :: c :: f :: r := by
  simp only [List.mem_cons, List.not_mem_nil, or_false] at h ⊢
  rcases h with h | h | h <;> simp [h]
theorem mem_a2 (h : q ∈ [f]) : q ∈ a :: d :: e :: b :: c :: f :: r := by rw [List.mem_singleton.mp h]; simp
theorem mem_a3 (h : q ∈ r) : q ∈ a :: d :: e :: b :: c :: f :: r := by simp [h]
theorem mem_b1 (h : q ∈ [a, b, c]) : q ∈ d :: e :: a :: b :: c :: f :: r := by
  simp only [List.mem_cons, List.not_mem_nil, or_false] at h ⊢
  rcases h with h | h | h <;> simp [h]
theorem mem_b2 (h : q ∈ [f]) : q ∈ d :: e :: a :: b :: c :: f :: r := by rw [List.mem_singleton.mp h]; simp
theorem mem_b3 (h : q ∈ r) : q ∈ d :: e :: a :: b :: c :: f :: r := by simp [h]
end

set_option maxHeartbeats 4000000 in
theorem firm_spec {A : Around} {s : Shared} {R : Result → Shared → Prop} {lf : Addr} {fvs : List Value} {fam : List Nat} (G : Gd w mean mg mb s.heap) (r : Rm A 6 150)
   (hlf : s.heap.IsList lf fvs.toArray) (hif : IntsAre fvs (fam.map Int.ofNat)) (hfl : fam.length ≤ 5)
   (hR : ∀ a' h' tk its n, s.heap.StaysIn h' → s.heap.get? a' = none → h'.get? a' = some (PySem.W.listOf (List.toArray its) n) → IntsAre its ((firmTo fam 16).map Int.ofNat) → R (.ok (.ret (.ref a'))) { s with heap := h', toks := tk })
   : codeAny (model PySem.Challenge.rw_rw0095_01.row.prog w) A (.call (.ref 252) ⟨[.ref lf], []⟩) R s := by
  obtain ⟨X, T⟩ := G
  obtain ⟨Ah, Ad, Af, Ag, Au⟩ := A
  obtain rfl : Ah = none := r.hd
  refine' enterC (binds := [(Str.ofString "family", .ref lf)]) X T.nolimit ?hr ?k6 ?k7 ?k9 ?kB ?kn ?_ ?c6 ?c7 ?c8
  case hr => exact Nat.lt_of_le_of_lt (Nat.le_add_right _ _) r.dp
  case k6 => k_dflt k_is
  case k7 => k_dflt k_is
  case k9 => exact BindsTo.of_eq rfl
  case kB => rfl
  case kn => decide
  case c6 => rfl
  case c7 => rfl
  case c8 => rfl
  intro L h₁ tk₁ cells F N CL
  w_top on
  obtain ⟨o1, o2, rfl, d1, d2⟩ := CellsAre.two CL
  replace d1 : o1.data = .cell none := d1
  replace d2 : o2.data = .cell (some (.ref lf)) := d2
  clear CL
  have hifl : fvs.length = fam.length := by rw [hif.length, List.length_map]
  walk_at "mwl"
  refine newList_K (by assumption) (by assumption) ?_
  intro a' h2 F2 N2 l2
  have l2 := (⟨l2 _ (.head _), l2 _ (.tail _ (.head _))⟩ : L + 1 + 1 < a' ∧ L + 1 < a')
  walk_at "mw"
  walk_at "acompT"
  walk_at "mw"
  rename IsRange _ _ _ _ _ _ _ _ => hr4
  rename Fr _ _ _ _ => F4
  rename News _ _ _ _ => N4
  k_unfold
  try dsimp only
  refine LCt.CompSrcT.range (n := 16) rfl F4 N4 hr4 rfl rfl (Nat.le_of_ble_eq_true rfl) ?_
  intro g
  refine comp_T (fun i ys nw => nw = _ ∧ IntsAre ys ((lackTo fam i).map Int.ofNat)) ⟨rfl, .nil⟩ ?_ ?_
  · rintro i ys _ v I oI C oC D m₂ h tk E' hi4 ⟨tv, rfl⟩ ⟨rfl, hy⟩ hC hx F5 N5 off ne
    rw [Int.zero_add] at hx
    walk_at "mw"
    · rename List.any _ _ = true => hb
      rw [any_fam] at hb
      refine LCg.CompEnd.intro F5 N5 _ (fun p hp => hp) off trivial ⟨rfl, ?_⟩
      rw [lackTo_succ, if_pos hb, List.append_nil]
      exact hy
    · rename List.any _ _ = false => hb
      rw [any_fam] at hb
      refine LCg.CompEnd.intro F5 N5 _ (fun p hp => hp) off trivial ⟨rfl, ?_⟩
      rw [lackTo_succ, if_neg (by rw [hb]; decide), List.map_append]
      exact ints_snoc hy _ _
  · rintro ys _ ⟨rfl, hy⟩
    clear F4 N4 hr4
    have hyl : ys.length = (lackTo fam 16).length := by rw [hy.length, List.length_map]
    have hya : ∀ (j : Nat) (o : Nat) (v : Value), ys[j]? = some v → (lackTo fam 16)[j]? = some o → ∃ tv, v = .int o tv := by
      intro j o v h1 h2
      obtain ⟨n, tv, e1, e2⟩ := hy.at j v h1
      rw [List.getElem?_map, h2] at e2
      exact ⟨tv, by rw [e1, ← Option.some.inj e2]; rfl⟩
    walk_at "mw"
    rename_i lk _ _ _ _ o9 _ _ _ _ _ _ hrg F6 N6 _
    refine' for_range (n := 16) (news := [(a', W.listOf #[] 0), (L + 1 + 1, o1), (L + 1, o2)]) (kept := [(lk, LCg.lst ys)]) ?a1 ?a2 ?a3 ?a4 ?a5 ?a6
      (fun i m nx kp => ∃ its n oc xv, nx = [(a', W.listOf (List.toArray its) n), (L + 1 + 1, oc), (L + 1, o2)] ∧ oc.data = .cell xv ∧ kp = [(lk, LCg.lst ys)] ∧ IntsAre its ((firmTo fam i).map Int.ofNat) ∧ m (Str.ofString "firm") = some (.ref a') ∧ m (Str.ofString "lacking") = some (.ref lk)) ?a8 ?_ ?_ ?a9
    case a1 => rfl
    case a2 => exact hrg
    case a3 => decide
    case a4 => exact F6
    case a5 => exact fun p hp => N6 p (mem_rot hp)
    case a6 =>
      intro p hp
      rw [List.mem_singleton.mp hp]
      refine ⟨?_, cls_ne (by decide)⟩
      simp only [List.map_cons, List.map_nil, List.mem_cons, List.not_mem_nil, or_false]
      rintro (q | q | q)
      · exact o9.1 q.symm
      · exact o9.2.1 q.symm
      · exact o9.2.2 q.symm
    case a8 => exact ⟨[], 0, o1, _, rfl, d1, rfl, .nil, rfl, rfl⟩
    case a9 => intro _; rfl
    · rintro i ti m₁ nx kp own h tk hi ⟨its, n, oc, xv, rfl, hoc, rfl, hI, hm1, hm2⟩ hnx hoff F' N'
      clear F6 N6 hrg
      replace F' := fr_see2 F' hm1 hm2
      dsimp only [List.nil_append, List.cons_append] at N' hoff
      have hIk : IntsAre its ((firmTo fam i).map Int.ofNat) ∧ its.length ≤ 16 := ⟨hI, by rw [hI.length, List.length_map]; exact Nat.le_trans (firmTo_len fam i) (by omega)⟩
      have hac : a' ≠ L + 1 + 1 := (Nat.ne_of_lt l2.1).symm
      have hac1 : a' ≠ L + 1 := (Nat.ne_of_lt l2.2).symm
      have hne2 : ∀ p ∈ (L + 1, o2) :: (lk, LCg.lst ys) :: own, p.1 ≠ L + 1 + 1 := by
        intro p hp
        rcases List.mem_cons.mp hp with rfl | hp
        · exact Nat.ne_of_lt (Nat.lt_succ_self _)
        · exact hoff p hp _ (.tail _ (.head _))
      refine wpAny_assign_Name ?_
      refine storeX_C F' N' (by rfl) (UpdF.tail hac (UpdF.head hne2)) hoc ?_
      clear F' N'
      intro h8 oc8 F8 N8 d8
      walk_at "mw"
      k_dflt (refine Assign_SetComp (F₀ := by k_asm) (by rfl) (by with_unfolding_all rfl) (by with_unfolding_all rfl) (by decide) (by rfl) (by decide) (by rfl) (by rfl) (by rfl) ?_)
      walk_at "mw"
      k_unfold
      try dsimp only
      refine ⟨lk, ys.toArray, (a', W.listOf (List.toArray its) n) :: (L + 1 + 1, oc8) :: (L + 1, o2) :: (lk, LCg.lst ys) :: own, InvF (shownL fam i), rfl, rfl, F8, N8, .inr ⟨_, .tail _ (.tail _ (.tail _ (.head _))), rfl, _, rfl⟩, ?_, invF_zero _, fun j S c hj => by rw [hj.2]; exact dd_take_len _ _, ?_, ?_⟩
      · rw [List.size_toArray, hyl]; exact Nat.lt_of_le_of_lt (lackTo_len fam 16) (by decide)
      · intro j S c v I oI C oC D oD m₂ h9 tk9 hj hv hInv hC hx F9 N9
        rw [List.getElem?_toArray] at hv
        obtain ⟨o, hyo⟩ : ∃ o, (lackTo fam 16)[j]? = some o := ⟨_, List.getElem?_eq_getElem (by rw [← hyl, ← List.size_toArray]; exact hj)⟩
        obtain ⟨tv, rfl⟩ := hya j o v hv hyo
        walk_at "mw"
        refine ⟨_, _, _, _, rfl, rfl, F9, N9, ?_⟩
        refine invF_succ hInv ?_
        show ((lackTo fam 16).map fun o => ((o &&& (15 - i) : Nat) : Int))[j]? = _
        rw [List.getElem?_map, hyo]
        show some _ = some _
        rw [show (15 : Int) - (i : Int) = ((15 - i : Nat) : Int) by omega, and_nat]
      · intro D h9 tk9 so S c F9 N9 hso hInv hoD
        have hcc : c = (dd (shownL fam i)).length := by
          rw [hInv.2, List.take_of_length_le]
          show (List.map _ _).length ≤ _
          rw [List.length_map, List.size_toArray, hyl]; exact Nat.le_refl _
        walk_at "mw"
        refine kse_len (N := by assumption) (UpdF.head hoD) hso ?_ ?_
        · rw [hInv.2]
          exact Int.lt_trans (Int.ofNat_lt.mpr (Nat.lt_of_le_of_lt (dd_take_len _ _) (Nat.lt_succ_self _))) (by rw [List.size_toArray, hyl]; exact Int.lt_of_le_of_lt (Int.ofNat_le.mpr (Nat.succ_le_succ (lackTo_len fam 16))) (by decide))
        walk_at "mw"
        walk_at "compT"
        walk_at "mw"
        clear F8 N8
        rename IsRange _ _ _ _ _ _ _ _ => hr9
        rename Fr _ _ _ _ => F10
        rename News _ _ _ _ => N10
        k_unfold
        try dsimp only
        refine LCt.CompSrcT.range (n := 16) rfl F10 N10 hr9 rfl rfl (Nat.le_of_ble_eq_true rfl) ?_
        intro g9
        refine comp_T (fun i₂ zs nw => nw = _ ∧ IntsAre zs ((zeroTo i i₂).map Int.ofNat)) ⟨rfl, .nil⟩ ?_ ?_
        · rintro i₂ zs _ v I oI C oC D₂ m₂ h10 tk10 E' hi10 ⟨tv, rfl⟩ ⟨rfl, hz⟩ hC hx F11 N11 off ne
          clear F10 N10 hr9
          rw [Int.zero_add] at hx
          walk_at "mw"
          · rename Builtin.bitAnd _ _ = _ => hb
            rw [and_nat] at hb
            refine LCg.CompEnd.intro F11 N11 _ (fun p hp => hp) off trivial ⟨rfl, ?_⟩
            rw [zeroTo_succ, if_pos (Int.ofNat_inj.mp hb), List.map_append]
            exact ints_snoc hz _ _
          · rename ¬ Builtin.bitAnd _ _ = _ => hb
            rw [and_nat] at hb
            refine LCg.CompEnd.intro F11 N11 _ (fun p hp => hp) off trivial ⟨rfl, ?_⟩
            rw [zeroTo_succ, if_neg (fun q => hb (by rw [q]; rfl)), List.append_nil]
            exact hz
        · rintro zs _ ⟨rfl, hz⟩
          clear F10 N10 hr9
          walk_at "mw"
          rename_i D11 h11 tk11 F11 N11 q11
          refine len_intsA (ys := (zeroTo i 16).map Int.ofNat) ⟨_, (N11 _ (.head _)).1, rfl, _, rfl⟩ (by assumption) (by rw [List.length_map]; exact Nat.lt_of_le_of_lt (zeroTo_len i 16) (by decide)) ?_
          rw [List.length_map]
          walk_at "mw"
          · rename (_ : Int) < _ => hlt
            refine app_led (adr := [a']) F11 (fun p hp => N11 p (mem_up3 hp)) (fun p hp b hb => ?_) (.head _) (by rw [sizeLine_eq, List.size_toArray]; exact Nat.le_trans hIk.2 (by decide)) ?_
            · rw [List.mem_singleton.mp hb]
              simp only [List.mem_cons] at hp
              rcases hp with rfl | rfl | rfl | rfl | rfl | hp
              · exact q11.2.1.symm
              · exact fun q => hoD _ (.head _) q.symm
              · exact hac.symm
              · exact hac1.symm
              · exact fun q => hoff (lk, LCg.lst ys) (.head _) _ (.head _) q
              · exact hoff p (.tail _ hp) _ (.head _)
            intro h12 F12 N12
            rw [List.push_toArray] at N12
            walk_at "mw"
            refine TurnEnd.next (nx := [(a', W.listOf (List.toArray (its ++ [.int i ti])) (n + 1)), (L + 1 + 1, oc8), (L + 1, o2)]) (kept := [(lk, LCg.lst ys)]) F12 N12 (fun q hq => mem_a1 hq) (fun q hq => mem_a2 hq) (fun q hq => mem_a3 hq) rfl (fun q hq => ?_) ⟨_, _, oc8, _, rfl, d8, rfl, ?_, rfl, rfl⟩
            · rw [List.mem_singleton.mp hq]
              exact ⟨fun hm => hoff _ (.head _) _ hm rfl, cls_ne (by decide)⟩
            · rw [firmTo_succ, if_pos (by rw [← hcc]; exact Int.ofNat_lt.mp hlt), List.map_append]
              exact ints_snoc hIk.1 _ _
          · rename ¬ (_ : Int) < _ => hlt
            refine TurnEnd.next (nx := [(a', W.listOf (List.toArray its) n), (L + 1 + 1, oc8), (L + 1, o2)]) (kept := [(lk, LCg.lst ys)]) F11 N11 (fun q hq => mem_b1 hq) (fun q hq => mem_b2 hq) (fun q hq => mem_b3 hq) rfl (fun q hq => ?_) ⟨_, _, oc8, _, rfl, d8, rfl, ?_, rfl, rfl⟩
            · rw [List.mem_singleton.mp hq]
              exact ⟨fun hm => hoff _ (.head _) _ hm rfl, cls_ne (by decide)⟩
            · rw [firmTo_succ, if_neg (by rw [← hcc]; exact fun q => hlt (Int.ofNat_lt.mpr q)), List.append_nil]
              exact hIk.1
    · rintro m₁ nx kp h tk ⟨its, n, oc, xv, rfl, hoc, rfl, hI, hm1, hm2⟩ hnx hoff F' N'
      clear F6 N6
      replace F' := fr_see2 F' hm1 hm2
      have hIk : IntsAre its ((firmTo fam 16).map Int.ofNat) ∧ True := ⟨hI, trivial⟩
      walk_at "mw"
      exact hR _ _ _ _ _ F'.keep (N' _ (.head _)).2.2 (N' _ (.head _)).1 hIk.1
end

section
open PySem PySem.W PySem.Calls PyProof.Rows
section
variable {prog : Program} {w : World} {A : Around} {E : Value → Shared → Prop} {s : Shared}

abbrev IsZipO (h : Heap) (z TI TO a : Addr) (f : Bool) : Prop :=
  h.get? z = some { cls := .type "zip", dict := none, data := .fields #[rawInt a, .bool f, .bool false, .ref TI, .ref TO], slots := #[] }

theorem zp_notfree {z TI TO a₀ : Addr} {f : Bool} {oa : Obj} {Q : Bool → Shared → Prop} (hz : IsZipO s.heap z TI TO a₀ f) (ha : s.heap.get? a₀ = some oa)
    (h : ∀ h₁, IsZipO h₁ z TI TO a₀ true → (∀ c o, c ≠ z → s.heap.get? c = some o → h₁.get? c = some o) → h₁.objs.size = s.heap.objs.size → Q false { s with heap := h₁ }) :
    wpAny (model prog w) A (Builtin.SmallTypes.ownedTupleIsFree (.ref z)) Q E s := by
  unfold Builtin.SmallTypes.ownedTupleIsFree
  refine wpAny_bind (wpAny_field hz rfl (x := rawInt a₀) rfl ?_)
  show wpAny _ _ (loadIfAlive a₀ >>= _) _ _ _
  refine wpAny_bind (kdx_alive ha ?_)
  show wpAny _ _ (field (.ref z) 1 >>= _) _ _ _
  refine wpAny_bind (wpAny_field hz rfl (x := .bool f) rfl ?_)
  cases f with
  | true => exact wpAny_pure (h _ hz (fun _ _ _ e => e) rfl)
  | false =>
    show wpAny _ _ (setField (.ref z) 1 (.bool true) >>= _) _ _ _
    refine wpAny_bind (wpAny_setField_rec hz (by simp) fun h₁ hz₁ hs₁ => wpAny_pure ?_)
    exact h h₁ hz₁ (fun c o hc e => hs₁.extBut c o hc e) hs₁.1

theorem zp_next_item {z TI TO i1 i2 l1 l2 a₀ : Addr} {f : Bool} {oa : Obj} {k1 k2 : Nat} {xs ys : Array Value} {x y : Value} {Q : Value → Shared → Prop} (D : ZipApart z TI TO i1 i2 l1 l2)
    (hz : IsZipO s.heap z TI TO a₀ f) (ha : s.heap.get? a₀ = some oa) (hTI : IsPair s.heap TI (.ref i1) (.ref i2))
    (h1 : s.heap.IsListIter i1 l1 k1) (h2 : s.heap.IsListIter i2 l2 k2) (hl1 : s.heap.IsList l1 xs) (hl2 : s.heap.IsList l2 ys) (hx : xs[k1]? = some x) (hy : ys[k2]? = some y)
    (hQ : ∀ h', IsZipO h' z TI TO a₀ true → h'.IsListIter i1 l1 (k1 + 1) → h'.IsListIter i2 l2 (k2 + 1) → IsPair h' s.heap.objs.size x y → h'.objs.size = s.heap.objs.size + 1 →
      (∀ c o, c ≠ z → c ≠ i1 → c ≠ i2 → s.heap.get? c = some o → h'.get? c = some o) → Q (.ref s.heap.objs.size) { s with heap := h' }) :
    wpAny (model prog w) A (Builtin.«zip.__next__» ⟨[.ref z], []⟩) (fun fin s' => ∃ v, fin = .done (.ret v) ∧ Q v s') E s := by
  show wpAny _ _ (field (.ref z) 2 >>= _) _ _ _
  refine wpAny_bind (wpAny_field hz rfl (x := .bool false) rfl ?_)
  show wpAny _ _ (field (.ref z) 3 >>= _) _ _ _
  refine wpAny_bind (wpAny_field hz rfl (x := .ref TI) rfl ?_)
  refine wpAny_bind (wpAny_seqItems hTI rfl ?_)
  show wpAny _ _ (Builtin.SmallTypes.ownedTupleIsFree (.ref z) >>= _) _ _ _
  refine wpAny_bind (zp_notfree hz ha fun h₁ hz₁ hs₁ hn₁ => ?_)
  simp only [Bool.false_eq_true, if_false]
  refine wpAny_bind ?_
  simp only [List.forIn_toArray, List.forIn_cons, List.forIn_nil]
  refine wpAny_bind (wpAny_bind (wpAny_holding ?_))
  show wpAny _ _ (Builtin.SmallTypes.nextOf (.ref i1) >>= _) _ _ _
  refine wpAny_bind (wpAny_nextOf_list_item (h1.at fun o e => hs₁ _ o D.i1z e) (hl1.at fun o e => hs₁ _ o D.l1z e) hx fun h₂ h1₂ hs₂ => wpAny_pure (wpAny_pure ?_))
  refine wpAny_bind (wpAny_bind (wpAny_holding ?_))
  show wpAny _ _ (Builtin.SmallTypes.nextOf (.ref i2) >>= _) _ _ _
  refine wpAny_bind (wpAny_nextOf_list_item ((h2.at fun o e => hs₁ _ o D.i2z e).extBut hs₂.extBut D.i12.symm)
    ((hl2.at fun o e => hs₁ _ o D.l2z e).extBut hs₂.extBut D.l2i1) hy fun h₃ h2₃ hs₃ => wpAny_pure (wpAny_pure (wpAny_pure ?_)))
  refine wpAny_bind (wpAny_newTuple ?_ (by show 2 ≤ sizeLine; decide))
  have hz₃ : IsZipO h₃ z TI TO a₀ true := hs₃.extBut _ _ D.i2z.symm (hs₂.extBut _ _ D.i1z.symm hz₁)
  have h1₃ : h₃.IsListIter i1 l1 (k1 + 1) := h1₂.extBut hs₃.extBut D.i12
  have hn₃ : h₃.objs.size = s.heap.objs.size := by rw [hs₃.1, hs₂.1, hn₁]
  have up : ∀ c o, h₃.get? c = some o → (h₃.push { cls := .type "tuple", data := .seq #[x, y] }).get? c = some o := fun c o e => Heap.get?_push_of_some _ e
  refine wpAny_pure ⟨_, rfl, ?_⟩
  show Q (.ref h₃.objs.size) _
  rw [hn₃]
  refine hQ _ (up _ _ hz₃) (h1₃.at fun o e => up _ o e) (h2₃.at fun o e => up _ o e) ?_ ?_ fun c o c1 c3 c4 e => up c o (hs₃.extBut _ _ c4 (hs₂.extBut _ _ c3 (hs₁ _ _ c1 e)))
  · have := Heap.get?_push_size h₃ (o := { cls := .type "tuple", data := .seq #[x, y] }) rfl
    rw [hn₃] at this
    exact this
  · show (h₃.push _).objs.size = _
    rw [Heap.size_push, hn₃]

theorem zp_next_end {z TI TO i1 i2 l1 l2 a₀ : Addr} {f : Bool} {oa : Obj} {k1 : Nat} {xs : Array Value} {Q : Fin → Shared → Prop} (hh : A.handled = none) (D : ZipApart z TI TO i1 i2 l1 l2)
    (hz : IsZipO s.heap z TI TO a₀ f) (ha : s.heap.get? a₀ = some oa) (hTI : IsPair s.heap TI (.ref i1) (.ref i2))
    (h1 : s.heap.IsListIter i1 l1 k1) (hl1 : s.heap.IsList l1 xs) (hx : xs[k1]? = none)
    (hE : ∀ h' e, (∀ c o, c ≠ z → c ≠ i1 → c ≠ i2 → s.heap.get? c = some o → h'.get? c = some o) → (∃ o, h'.get? e = some o ∧ o.cls = .type "StopIteration") → E (.ref e) { s with heap := h' }) :
    wpAny (model prog w) A (Builtin.«zip.__next__» ⟨[.ref z], []⟩) Q E s := by
  show wpAny _ _ (field (.ref z) 2 >>= _) _ _ _
  refine wpAny_bind (wpAny_field hz rfl (x := .bool false) rfl ?_)
  show wpAny _ _ (field (.ref z) 3 >>= _) _ _ _
  refine wpAny_bind (wpAny_field hz rfl (x := .ref TI) rfl ?_)
  refine wpAny_bind (wpAny_seqItems hTI rfl ?_)
  show wpAny _ _ (Builtin.SmallTypes.ownedTupleIsFree (.ref z) >>= _) _ _ _
  refine wpAny_bind (zp_notfree hz ha fun h₁ hz₁ hs₁ hn₁ => ?_)
  simp only [Bool.false_eq_true, if_false]
  refine wpAny_bind ?_
  simp only [List.forIn_toArray, List.forIn_cons, List.forIn_nil]
  refine wpAny_bind (wpAny_bind (wpAny_holding ?_))
  show wpAny _ _ (Builtin.SmallTypes.nextOf (.ref i1) >>= _) _ _ _
  refine wpAny_bind (wpAny_nextOf_list_end hh (h1.at fun o e => hs₁ _ o D.i1z e) (hl1.at fun o e => hs₁ _ o D.l1z e) hx fun h₂ e hs₂ he => ?_)
  exact hE h₂ e (fun c o c1 c3 _ x => hs₂ _ _ c3 (hs₁ _ _ c1 x)) he

/-- a zip at work, ahead of a list -/
structure ZpSt (h : Heap) (z TI TO i1 i2 l1 l2 S : Addr) (xs ys : Array Value) (i : Nat) : Prop where
  zip : (IsZip h z TI TO .none ∧ IsPair h TO .none .none) ∨ ∃ a f oa, IsZipO h z TI TO a f ∧ h.get? a = some oa ∧ S < a
  two : IsPair h TI (.ref i1) (.ref i2)
  it1 : h.IsListIter i1 l1 i
  it2 : h.IsListIter i2 l2 i
  src1 : h.IsList l1 xs
  src2 : h.IsList l2 ys

theorem ZpSt.keep {h h' : Heap} {z TI TO i1 i2 l1 l2 S : Addr} {xs ys : Array Value} {i : Nat} (st : ZpSt h z TI TO i1 i2 l1 l2 S xs ys i) (low : z < S ∧ TI < S ∧ TO < S ∧ i1 < S ∧ i2 < S ∧ l1 < S ∧ l2 < S)
    (hk : ∀ b o, b ≠ S → h.get? b = some o → h'.get? b = some o) : ZpSt h' z TI TO i1 i2 l1 l2 S xs ys i := by
  obtain ⟨a, b, c, d, e, f⟩ := st
  obtain ⟨p1, p2, p3, p4, p5, p6, p7⟩ := low
  refine ⟨?_, hk _ _ (Nat.ne_of_lt p2) b, c.at fun o x => hk _ o (Nat.ne_of_lt p4) x, d.at fun o x => hk _ o (Nat.ne_of_lt p5) x, e.at fun o x => hk _ o (Nat.ne_of_lt p6) x, f.at fun o x => hk _ o (Nat.ne_of_lt p7) x⟩
  rcases a with ⟨a1, a2⟩ | ⟨a0, g, oa, a1, a2, a3⟩
  · exact .inl ⟨hk _ _ (Nat.ne_of_lt p1) a1, hk _ _ (Nat.ne_of_lt p3) a2⟩
  · exact .inr ⟨a0, g, oa, hk _ _ (Nat.ne_of_lt p1) a1, hk _ _ (Nat.ne_of_gt a3) a2, a3⟩

theorem zp_item {z TI TO i1 i2 l1 l2 S : Addr} {xs ys : Array Value} {i : Nat} {x y : Value} {Q : Option Value → Shared → Prop} (D : ZipApart z TI TO i1 i2 l1 l2) (low : z < S ∧ TI < S ∧ TO < S ∧ i1 < S ∧ i2 < S ∧ l1 < S ∧ l2 < S)
    (st : ZpSt s.heap z TI TO i1 i2 l1 l2 S xs ys i) (hS : S < s.heap.objs.size) (hx : xs[i]? = some x) (hy : ys[i]? = some y)
    (hQ : ∀ h', ZpSt h' z TI TO i1 i2 l1 l2 S xs ys (i + 1) → IsPair h' s.heap.objs.size x y → h'.objs.size = s.heap.objs.size + 1 →
      (∀ c o, S ≤ c → s.heap.get? c = some o → h'.get? c = some o) → (∀ c o, c ≠ z → c ≠ TO → c ≠ i1 → c ≠ i2 → s.heap.get? c = some o → h'.get? c = some o) → Q (some (.ref s.heap.objs.size)) { s with heap := h' }) :
    wpAny (model prog w) A (pyNext (.ref z)) Q E s := by
  obtain ⟨a, b, c, d, e, f⟩ := st
  obtain ⟨p1, p2, p3, p4, p5, p6, p7⟩ := low
  have nz : ∀ c, S ≤ c → c ≠ z ∧ c ≠ TO ∧ c ≠ i1 ∧ c ≠ i2 := fun c hc => ⟨Nat.ne_of_gt (Nat.lt_of_lt_of_le p1 hc), Nat.ne_of_gt (Nat.lt_of_lt_of_le p3 hc), Nat.ne_of_gt (Nat.lt_of_lt_of_le p4 hc), Nat.ne_of_gt (Nat.lt_of_lt_of_le p5 hc)⟩
  rcases a with ⟨a1, a2⟩ | ⟨a0, g, oa, a1, a2, a3⟩
  · refine wpAny_pyNext_zip_item D a1 b a2 c d e f hx hy fun h' q1 q2 q3 q4 q5 q6 q7 => hQ h' ?_ q5 q6 (fun c o hc x => q7 c o (nz c hc).1 (nz c hc).2.1 (nz c hc).2.2.1 (nz c hc).2.2.2 x) q7
    exact ⟨.inr ⟨_, false, _, q1, q5, hS⟩, q7 _ _ D.TIz D.TITO D.TIi1 D.TIi2 b, q3, q4, e.at fun o x => q7 _ o D.l1z D.l1TO D.l1i1 D.l1i2 x, f.at fun o x => q7 _ o D.l2z D.l2TO D.l2i1 D.l2i2 x⟩
  · have hT : s.TypeIs (.ref z) "zip" := ⟨_, a1, rfl⟩
    unfold pyNext
    refine wpAny_bind (wpAny_attempt (wpAny_callSpecial?_slot (name := Str.ofString "__next__") hT F.slot_zip_next
      (wpAny_call_entry F.slot_zip_next hT F.entry_zip_next (zp_next_item D a1 a2 b c d e f hx hy fun h' q1 q3 q4 q5 q6 q7 => wpAny_pure (hQ h' ?_ q5 q6 (fun c o hc x => q7 c o (nz c hc).1 (nz c hc).2.2.1 (nz c hc).2.2.2 x) fun c o c1 _ c3 c4 x => q7 c o c1 c3 c4 x)) (F.args_zip_next_1 _))))
    have na := nz a0 (Nat.le_of_lt a3)
    exact ⟨.inr ⟨a0, true, oa, q1, q7 _ _ na.1 na.2.2.1 na.2.2.2 a2, a3⟩, q7 _ _ D.TIz D.TIi1 D.TIi2 b, q3, q4, e.at fun o x => q7 _ o D.l1z D.l1i1 D.l1i2 x, f.at fun o x => q7 _ o D.l2z D.l2i1 D.l2i2 x⟩

theorem zp_done {z TI TO i1 i2 l1 l2 S : Addr} {xs ys : Array Value} {i : Nat} {Q : Option Value → Shared → Prop} (hh : A.handled = none) (D : ZipApart z TI TO i1 i2 l1 l2)
    (st : ZpSt s.heap z TI TO i1 i2 l1 l2 S xs ys i) (hx : xs[i]? = none)
    (hQ : ∀ h', (∀ c o, c ≠ z → c ≠ TO → c ≠ i1 → c ≠ i2 → s.heap.get? c = some o → h'.get? c = some o) → Q none { s with heap := h' }) :
    wpAny (model prog w) A (pyNext (.ref z)) Q E s := by
  obtain ⟨a, b, c, d, e, f⟩ := st
  rcases a with ⟨a1, a2⟩ | ⟨a0, g, oa, a1, a2, a3⟩
  · exact wpAny_pyNext_zip_end hh D a1 b a2 c d e f (.inl hx) hQ
  · have hT : s.TypeIs (.ref z) "zip" := ⟨_, a1, rfl⟩
    unfold pyNext
    refine wpAny_bind (wpAny_attempt (wpAny_callSpecial?_slot (name := Str.ofString "__next__") hT F.slot_zip_next
      (wpAny_call_entry F.slot_zip_next hT F.entry_zip_next (zp_next_end hh D a1 a2 b c e hx fun h' ex hk he => ?_) (F.args_zip_next_1 _))))
    obtain ⟨o, ho, hc⟩ := he
    refine wpAny_bind (wpAny_isInstance (T := "StopIteration") (b := true) ⟨o, ho, hc⟩ isSubtype_stop ?_)
    exact wpAny_pure (hQ _ fun c o c1 _ c3 c4 x => hk c o c1 c3 c4 x)
end
end

section
open PySem PySem.W PySem.Calls PyProof.Rows
theorem zp_len_none : typeLookup (.type "zip") "__len__" = pure none := by rw [typeLookup_type, builtinLookup_eq_fast]; kernel_rfl
theorem zp_hint_none : typeLookup (.type "zip") "__length_hint__" = pure none := by rw [typeLookup_type, builtinLookup_eq_fast]; kernel_rfl
section
variable {prog : Program} {w : World} {A : Around} {E : Value → Shared → Prop} {s : Shared} {z TI TO i1 i2 l1 l2 S : Addr} {xs ys : Array Value}

theorem zp_hint {r : Addr} (hT : s.TypeIs (.ref r) "zip") {Q : Bool → Shared → Prop} (h : Q true s) : wpAny (model prog w) A (Builtin.List.listLengthHint (.ref r)) Q E s := by
  unfold Builtin.List.listLengthHint
  refine wpAny_bind (wpAny_specialOf hT zp_len_none ?_)
  refine wpAny_ite_split (fun hab => absurd hab (by decide)) (fun _ => ?_)
  refine wpAny_ite_split (fun hab => absurd hab (by decide)) (fun _ => ?_)
  refine wpAny_bind (wpAny_specialOf hT zp_hint_none ?_)
  exact wpAny_pure h

/-- the pairs made so far -/
noncomputable def ZpG (S : Addr) (xs ys : Array Value) (h : Heap) (as : List Addr) : Prop :=
  ∀ (j : Nat) (a : Addr), as[j]? = some a → S < a ∧ ∃ x y, xs[j]? = some x ∧ ys[j]? = some y ∧ IsPair h a x y

theorem zp_loop {R : Result → Shared → Prop} (hh : A.handled = none) (D : ZipApart z TI TO i1 i2 l1 l2) (low : z < S ∧ TI < S ∧ TO < S ∧ i1 < S ∧ i2 < S ∧ l1 < S ∧ l2 < S) (hxy : ys.size = xs.size) (hn : xs.size ≤ sizeLine) (res : Value) {h₁ : Heap}
    (hR : ∀ h' tk acc c as, (∀ b o, b ≠ S → b ≠ z → b ≠ TO → b ≠ i1 → b ≠ i2 → h₁.get? b = some o → h'.get? b = some o) → h'.get? S = some { cls := .type "list", dict := none, data := .seq acc c, slots := #[] } → as.length = xs.size → ZpG S xs ys h' as →
      acc.toList = as.map Value.ref → R (.ok (.ret res)) { s with heap := h', toks := tk }) :
    ∀ (k i : Nat) (h : Heap) (tk c : Nat) (acc : Array Value) (as : List Addr), xs.size - i = k → i ≤ xs.size → ZpSt h z TI TO i1 i2 l1 l2 S xs ys i → (∀ b o, b ≠ S → b ≠ z → b ≠ TO → b ≠ i1 → b ≠ i2 → h₁.get? b = some o → h.get? b = some o) →
      h.get? S = some { cls := .type "list", dict := none, data := .seq acc c, slots := #[] } → acc.toList = as.map Value.ref → as.length = i → ZpG S xs ys h as →
      codeAny (model prog w) A (.builtin "list.extend.loop" ⟨[.ref S, .ref z, res], []⟩) R { s with heap := h, toks := tk } := by
  obtain ⟨p1, p2, p3, p4, p5, p6, p7⟩ := id low
  intro k
  induction k with
  | zero =>
    intro i h tk c acc as hk hi hst hkeep hS hacc hal hG
    have hin : i = xs.size := by omega
    refine codeAny_builtin PySem.F.entry_extend_loop ?_
    rw [Around.under_plainId PySem.F.plain_extend_loop _]
    show wpAny _ A.in1 (pyNext (.ref z) >>= _) _ _ _
    refine wpAny_bind (zp_done (s := { s with heap := h, toks := tk }) (A := A.in1) hh D hst (Array.getElem?_eq_none (by omega)) fun h' he => ?_)
    refine wpAny_pure (hR h' tk acc c as (fun b o h1 h2 h3 h4 h5 e => he b o h2 h3 h4 h5 (hkeep b o h1 h2 h3 h4 h5 e)) (he S _ (Nat.ne_of_gt p1) (Nat.ne_of_gt p3) (Nat.ne_of_gt p4) (Nat.ne_of_gt p5) hS) (by omega) (fun j a hj => ?_) hacc)
    obtain ⟨ha, x, y, e1, e2, e3⟩ := hG j a hj
    exact ⟨ha, x, y, e1, e2, he a _ (Nat.ne_of_gt (Nat.lt_trans p1 ha)) (Nat.ne_of_gt (Nat.lt_trans p3 ha)) (Nat.ne_of_gt (Nat.lt_trans p4 ha)) (Nat.ne_of_gt (Nat.lt_trans p5 ha)) e3⟩
  | succ k ih =>
    intro i h tk c acc as hk hi hst hkeep hS hacc hal hG
    have hlt : i < xs.size := by omega
    obtain ⟨x, hx⟩ : ∃ p, xs[i]? = some p := ⟨xs[i], Array.getElem?_eq_getElem hlt⟩
    obtain ⟨y, hy⟩ : ∃ p, ys[i]? = some p := ⟨ys[i], Array.getElem?_eq_getElem (by omega)⟩
    have hsz : acc.size = i := by rw [← Array.length_toList, hacc, List.length_map, hal]
    have hSl : S < h.objs.size := Heap.lt_size hS
    refine codeAny_builtin PySem.F.entry_extend_loop ?_
    rw [Around.under_plainId PySem.F.plain_extend_loop _]
    show wpAny _ A.in1 (pyNext (.ref z) >>= _) _ _ _
    refine wpAny_bind (zp_item (s := { s with heap := h, toks := tk }) D low hst hSl hx hy fun h' hst' ht hz hkp hkp2 => ?_)
    dsimp only at ht hz hkp hkp2 ⊢
    have hS' := hkp S _ (Nat.le_refl _) hS
    have up : ∀ b o, b ≠ S → h'.get? b = some o → (h'.update S (Obj.mapSeq (·.push (Value.ref h.objs.size)))).get? b = some o := fun b o hb e => (Heap.get?_update_other _ _ (Ne.symm hb)).trans e
    show wpAny _ A.in1 (updateSeq S (·.push (Value.ref h.objs.size)) >>= _) _ _ _
    refine wpAny_bind ?_
    refine wpAny_updateSeq hS' rfl (wpAny_pure ⟨plainId_quiet PySem.F.plain_extend_loop _, ih (i + 1) _ tk _ (acc.push (Value.ref h.objs.size)) (as ++ [h.objs.size]) (by omega) hlt (hst'.keep low up)
      (fun b o h1 h2 h3 h4 h5 e => up b o h1 (hkp2 b o h2 h3 h4 h5 (hkeep b o h1 h2 h3 h4 h5 e))) (Heap.get?_update_self _ hS' rfl) (by rw [Array.toList_push, hacc, List.map_append]; rfl) (by rw [List.length_append, hal]; rfl) ?_⟩) (by rw [hsz]; omega) (by show (acc.push (Value.ref h.objs.size)).size ≤ sizeLine + 1; rw [Array.size_push, hsz]; omega)
    intro j b hj
    rcases Nat.lt_trichotomy j as.length with h1 | h1 | h1
    · rw [List.getElem?_append_left h1] at hj
      obtain ⟨hb, x', y', e1, e2, e3⟩ := hG j b hj
      exact ⟨hb, x', y', e1, e2, up b _ (Nat.ne_of_gt hb) (hkp b _ (Nat.le_of_lt hb) e3)⟩
    · subst h1
      have hb : h.objs.size = b := by simpa using hj
      subst hb
      exact ⟨hSl, x, y, by rw [hal]; exact hx, by rw [hal]; exact hy, up _ _ (Nat.ne_of_gt hSl) ht⟩
    · have hnone : (as ++ [h.objs.size])[j]? = none := List.getElem?_eq_none (by rw [List.length_append, List.length_singleton]; omega)
      rw [hnone] at hj; cases hj

theorem zp_extend {R : Result → Shared → Prop} (hh : A.handled = none) (D : ZipApart z TI TO i1 i2 l1 l2) (low : z < S ∧ TI < S ∧ TO < S ∧ i1 < S ∧ i2 < S ∧ l1 < S ∧ l2 < S) (hxy : ys.size = xs.size) (hn : xs.size ≤ sizeLine) (res : Value) (c₀ : Nat)
    (hz : IsZip s.heap z TI TO .none) (hst : ZpSt s.heap z TI TO i1 i2 l1 l2 S xs ys 0) (hS : s.heap.get? S = some { cls := .type "list", data := .seq #[] c₀ })
    (hR : ∀ h' tk acc c as, (∀ b o, b ≠ S → b ≠ z → b ≠ TO → b ≠ i1 → b ≠ i2 → s.heap.get? b = some o → h'.get? b = some o) → h'.get? S = some { cls := .type "list", dict := none, data := .seq acc c, slots := #[] } → as.length = xs.size → ZpG S xs ys h' as →
      acc.toList = as.map Value.ref → R (.ok (.ret res)) { s with heap := h', toks := tk }) :
    wpAny (model prog w) A.in1 (Builtin.List.listExtendWith (.ref S) (.ref z) res)
      (fun fin s' => match fin with | .done f => R (.ok f) s' | .again c' => c'.quiet = true ∧ codeAny (model prog w) A c' R s') (fun e s' => R (.error e) s') s := by
  have hT : s.TypeIs (.ref z) "zip" := ⟨_, hz, rfl⟩
  unfold Builtin.List.listExtendWith
  refine wpAny_bind (wpAny_typeOf (T := "zip") hT ?_)
  have h1 : Builtin.List.listSameRef (.ref S) (.ref z) = false := by simp [Builtin.List.listSameRef, Nat.ne_of_gt low.1]
  have h2 : (Value.type "zip" == Value.type "list") = false := by decide
  have h3 : (Value.type "zip" == Value.type "tuple") = false := by decide
  simp only [h1, h2, h3, Bool.or_false, Bool.false_eq_true, if_false]
  refine wpAny_bind (wpAny_pyIter_zip hz ?_)
  refine wpAny_bind (wpAny_holding (zp_hint hT ?_))
  refine wpAny_ite_split (fun _ => ?_) (fun hab => absurd rfl hab)
  refine wpAny_bind (wpAny_rule ?_)
  refine wpAny_bind ?_
  show wpAny _ _ (updateSeq S (·.push .none) >>= fun _ => updateSeq S (·.pop)) _ _ _
  refine wpAny_bind (wpAny_updateSeq hS rfl ?_)
  have hS₂ := Heap.get?_update_self (Obj.mapSeq (·.push Value.none)) hS rfl
  refine wpAny_updateSeq (hz := by seq_fits) hS₂ rfl ?_
  have hS₃ := Heap.get?_update_self (Obj.mapSeq (·.pop)) hS₂ rfl
  have oth : ∀ b o, b ≠ S → s.heap.get? b = some o → ((s.heap.update S (Obj.mapSeq (·.push Value.none))).update S (Obj.mapSeq (·.pop))).get? b = some o :=
    fun b o hb e => (Heap.get?_update_other _ _ (Ne.symm hb)).trans ((Heap.get?_update_other _ _ (Ne.symm hb)).trans e)
  refine wpAny_pure ⟨plainId_quiet PySem.F.plain_extend_loop _, ?_⟩
  exact zp_loop (s := s) (h₁ := s.heap) hh D low hxy hn res hR xs.size 0 _ _ _ #[] [] (Nat.sub_zero _) (Nat.zero_le _) (hst.keep low oth) (fun b o hb _ _ _ _ e => oth b o hb e) hS₃ rfl rfl (fun j a hj => by simp at hj)

theorem zp_init {R : Result → Shared → Prop} (hh : A.handled = none) (D : ZipApart z TI TO i1 i2 l1 l2) (low : z < S ∧ TI < S ∧ TO < S ∧ i1 < S ∧ i2 < S ∧ l1 < S ∧ l2 < S) (hxy : ys.size = xs.size) (hn : xs.size ≤ sizeLine)
    (hz : IsZip s.heap z TI TO .none) (hst : ZpSt s.heap z TI TO i1 i2 l1 l2 S xs ys 0) (hS : s.heap.get? S = some { cls := .type "list", data := .seq #[] })
    (hR : ∀ h' tk acc c as, (∀ b o, b ≠ S → b ≠ z → b ≠ TO → b ≠ i1 → b ≠ i2 → s.heap.get? b = some o → h'.get? b = some o) → h'.get? S = some { cls := .type "list", dict := none, data := .seq acc c, slots := #[] } → as.length = xs.size → ZpG S xs ys h' as →
      acc.toList = as.map Value.ref → R (.ok (.ret .none)) { s with heap := h', toks := tk }) :
    wpAny (model prog w) A.in1 (Builtin.«list.__init__» ⟨[.ref S, .ref z], []⟩)
      (fun fin s' => match fin with | .done f => R (.ok f) s' | .again c' => c'.quiet = true ∧ codeAny (model prog w) A c' R s') (fun e s' => R (.error e) s') s := by
  show wpAny _ _ (do let old ← Builtin.List.listItems (.ref S); Builtin.List.listUpdate (.ref S) (fun _ => #[]); letGo old.toList.reverse; Builtin.List.listExtendWith (.ref S) (.ref z) .none) _ _ s
  refine wpAny_bind ?_
  unfold Builtin.List.listItems
  refine wpAny_bind (wpAny_seqItems hS rfl (wpAny_pure ?_))
  show wpAny _ _ (updateSeq S (fun _ => #[]) >>= fun _ => letGo (#[] : Array Value).toList.reverse >>= fun _ => Builtin.List.listExtendWith (.ref S) (.ref z) .none) _ _ s
  refine wpAny_bind (wpAny_updateSeq hS rfl ?_)
  have hS₂ := Heap.get?_update_self (Obj.mapSeq (fun _ => (#[] : Array Value))) hS rfl
  have oth : ∀ b o, b ≠ S → s.heap.get? b = some o → (s.heap.update S (Obj.mapSeq (fun _ => (#[] : Array Value)))).get? b = some o :=
    fun b o hb e => (Heap.get?_update_other _ _ (Ne.symm hb)).trans e
  refine wpAny_bind (wpAny_letGo ?_)
  refine zp_extend hh D low hxy hn .none _ (oth _ _ (Nat.ne_of_lt low.1) hz) (hst.keep low oth) hS₂ fun h' tk acc c as hk hS' hl hG hacc => ?_
  exact hR h' tk acc c as (fun b o hb e1 e2 e3 e4 e => hk b o hb e1 e2 e3 e4 (oth b o hb e)) hS' hl hG hacc

theorem zp_list {Q : Value → Shared → Prop} {xs ys : Array Value} (hh : A.handled = none) (D : ZipApart z TI TO i1 i2 l1 l2) (hxy : ys.size = xs.size) (hn : xs.size ≤ sizeLine)
    (hz : IsZip s.heap z TI TO .none) (hTI : IsPair s.heap TI (.ref i1) (.ref i2)) (hTO : IsPair s.heap TO .none .none) (h1 : s.heap.IsListIter i1 l1 0) (h2 : s.heap.IsListIter i2 l2 0) (hl1 : s.heap.IsList l1 xs) (hl2 : s.heap.IsList l2 ys)
    (hQ : ∀ h' tk acc c as, (∀ b o, b ≠ z → b ≠ TO → b ≠ i1 → b ≠ i2 → s.heap.get? b = some o → h'.get? b = some o) → h'.get? s.heap.objs.size = some { cls := .type "list", dict := none, data := .seq acc c, slots := #[] } → as.length = xs.size → ZpG s.heap.objs.size xs ys h' as →
      acc.toList = as.map Value.ref → Q (.ref s.heap.objs.size) { s with heap := h', toks := tk }) :
    wpAny (model prog w) A (call (.type "list") [.ref z]) Q E s := by
  refine callType_codes (Q₁ := fun obj s₁ => obj = .ref s.heap.objs.size ∧ s₁ = { s with heap := s.heap.push { cls := .type "list", data := .seq #[] } }) PySem.F.called_list (PySem.F.typeCall_list_1 _) PySem.F.entry_list_init
    (code_list_new _ ⟨rfl, rfl⟩) fun obj s₁ h₁ => ?_
  obtain ⟨rfl, rfl⟩ := h₁
  have hS : (s.heap.push { cls := .type "list", data := .seq #[] }).get? s.heap.objs.size = some { cls := .type "list", data := .seq #[] } := Heap.get?_push_size _ rfl
  have up : ∀ b o, s.heap.get? b = some o → (s.heap.push { cls := .type "list", data := .seq #[] }).get? b = some o := fun b o e => Heap.get?_push_of_some _ e
  have li : ∀ {a b : Addr} {i : Nat}, s.heap.IsListIter a b i → a < s.heap.objs.size := fun h => by obtain ⟨_, e, _⟩ := h; exact Heap.lt_size e
  have ls : ∀ {a : Addr} {v : Array Value}, s.heap.IsList a v → a < s.heap.objs.size := fun h => by obtain ⟨_, e, _⟩ := h; exact Heap.lt_size e
  refine ⟨⟨_, hS, rfl⟩, PySem.F.args_list_init_2 _ _, zp_init (A := A.in1) (xs := xs) (ys := ys) hh D ⟨Heap.lt_size hz, Heap.lt_size hTI, Heap.lt_size hTO, li h1, li h2, ls hl1, ls hl2⟩ hxy hn (up _ _ hz)
    ⟨.inl ⟨up _ _ hz, up _ _ hTO⟩, up _ _ hTI, h1.at fun o e => up _ o e, h2.at fun o e => up _ o e, hl1.at fun o e => up _ o e, hl2.at fun o e => up _ o e⟩ hS fun h' tk acc c as hk hS' hl hG hacc => ?_⟩
  exact ⟨rfl, hQ h' tk acc c as (fun b o e1 e2 e3 e4 e => hk b o (Nat.ne_of_lt (Heap.lt_size e)) e1 e2 e3 e4 (up b o e)) hS' hl hG hacc⟩
end
end

section
open PySem PySem.W PySem.Calls PyProof.Rows
noncomputable def ZpR (h : Heap) (z l1 l2 : Addr) (xs ys : Array Value) (lo : Addr) : Prop :=
  ∃ TI TO i1 i2, ZipApart z TI TO i1 i2 l1 l2 ∧ IsZip h z TI TO .none ∧ IsPair h TI (.ref i1) (.ref i2) ∧ IsPair h TO .none .none ∧ h.IsListIter i1 l1 0 ∧ h.IsListIter i2 l2 0 ∧ h.IsList l1 xs ∧ h.IsList l2 ys ∧ lo ≤ z ∧ lo ≤ TO ∧ lo ≤ i1 ∧ lo ≤ i2
noncomputable def dPair (a b : Dat) : Dat := .tuple [a, b]
theorem zp_dat {h : Heap} {P : Addr → Prop} {n₁ : List (Addr × Obj)} : ∀ (as : List Addr) (xs ys : List Value) (dx dy : List Dat), as.length = xs.length → ys.length = xs.length →
    (∀ (j : Nat) (a : Addr), as[j]? = some a → P a ∧ ∃ x y, xs[j]? = some x ∧ ys[j]? = some y ∧ IsPair h a x y) → DatAll n₁ xs dx → DatAll n₁ ys dy →
    ∃ kt, (∀ p ∈ kt, P p.1 ∧ h.get? p.1 = some p.2) ∧ DatAll (kt ++ n₁) (as.map Value.ref) (List.zipWith dPair dx dy)
  | [], [], [], _, _, _, _, _, .nil, .nil => ⟨[], (fun _ hp => nomatch hp), .nil⟩
  | a :: as, x :: xs, y :: ys, _, _, e1, e2, hG, .cons hx hxs, .cons hy hys => by
    obtain ⟨kt, hk, hd⟩ := zp_dat as xs ys _ _ (by simpa using e1) (by simpa using e2) (fun j b hj => by simpa using hG (j + 1) b (by simpa using hj)) hxs hys
    obtain ⟨hP, x', y', q1, q2, q3⟩ := hG 0 a rfl
    have q1 : x = x' := by simpa using q1
    have q2 : y = y' := by simpa using q2
    subst q1 q2
    refine ⟨(a, { cls := .type "tuple", data := .seq (List.toArray [x, y]) }) :: kt, fun p hp => ?_, .cons (.tuple (.head _) (.cons (hx.mono fun p hp => .tail _ (List.mem_append_right _ hp)) (.cons (hy.mono fun p hp => .tail _ (List.mem_append_right _ hp)) .nil))) (hd.mono fun p hp => .tail _ hp)⟩
    rcases List.mem_cons.mp hp with rfl | hp
    · exact ⟨hP, q3⟩
    · exact hk p hp
section
variable {prog : Program} {w : World} {A : Around} {E : Value → Shared → Prop} {s : Shared} {h₀ : Heap} {L : Addr} {m : Str → Option Value} {news n₁ : List (Addr × Obj)}
theorem zip_call {l1 l2 : Addr} {xs ys : Array Value} {Q : Value → Shared → Prop} (F : Fr h₀ L s.heap m) (N : News h₀ L s.heap news) (hl1 : s.heap.IsList l1 xs) (hl2 : s.heap.IsList l2 ys)
    (h : ∀ h' z, Fr h₀ L h' m → News h₀ L h' news → (∀ p ∈ news, p.1 < s.heap.objs.size) → L < s.heap.objs.size → ZpR h' z l1 l2 xs ys s.heap.objs.size → Q (.ref z) { s with heap := h' }) :
    wpAny (model prog w) A (call (.type "zip") [.ref l1, .ref l2]) Q E s := by
  have a1 : l1 < s.heap.objs.size := by obtain ⟨_, e, _⟩ := hl1; exact Heap.lt_size e
  have a2 : l2 < s.heap.objs.size := by obtain ⟨_, e, _⟩ := hl2; exact Heap.lt_size e
  exact call_zip_2 hl1 hl2 fun h' hz hTI hTO hi1 hi2 _ hk => h h' _ (F.keeps hk) (N.grown hk) (fun p hp => Heap.lt_size (N p hp).1) F.ns.lt
    ⟨_, _, _, _, zipApart_new a1 a2, hz, hTI, hTO, hi1, hi2, Heap.IsList.at hl1 (fun o e => hk _ o e), Heap.IsList.at hl2 (fun o e => hk _ o e), Nat.le_add_right _ 4, Nat.le_add_right _ 3, Nat.le_refl _, Nat.le_add_right _ 1⟩
theorem zip_list {z l1 l2 lo : Addr} {xs ys : List Value} {dx dy : List Dat} {Q : Value → Shared → Prop} (hh : A.handled = none) (F : Fr h₀ L s.heap m) (N : News h₀ L s.heap news) (hlo : ∀ p ∈ news, p.1 < lo) (hL : L < lo) (Z : ZpR s.heap z l1 l2 xs.toArray ys.toArray lo)
    (hxy : ys.length = xs.length) (hn : xs.length ≤ 100) (hs : ∀ p ∈ n₁, p ∈ news) (Dx : DatAll n₁ xs dx) (Dy : DatAll n₁ ys dy)
    (h : ∀ h' tk D as c kt, Fr h₀ L h' m → News h₀ L h' ((D, listOf (List.toArray as) c) :: (kt ++ news)) → DatAll (kt ++ news) as (List.zipWith dPair dx dy) → (∀ p ∈ news, p.1 < D) → (∀ p ∈ kt, D < p.1) → Q (.ref D) { s with heap := h', toks := tk }) :
    wpAny (model prog w) A (call (.type "list") [.ref z]) Q E s := by
  obtain ⟨TI, TO, i1, i2, D, hz, hTI, hTO, h1, h2, hl1, hl2, b1, b2, b3, b4⟩ := Z
  refine zp_list hh D (by simpa using hxy) (by rw [sizeLine_eq, List.size_toArray]; exact Nat.le_trans hn (by decide)) hz hTI hTO h1 h2 hl1 hl2 fun h' tk acc c as hk hS hl hG hacc => ?_
  have low : ∀ b, b < lo → b ≠ z ∧ b ≠ TO ∧ b ≠ i1 ∧ b ≠ i2 := fun b hb => ⟨Nat.ne_of_lt (Nat.lt_of_lt_of_le hb b1), Nat.ne_of_lt (Nat.lt_of_lt_of_le hb b2), Nat.ne_of_lt (Nat.lt_of_lt_of_le hb b3), Nat.ne_of_lt (Nat.lt_of_lt_of_le hb b4)⟩
  have hkl : ∀ b o, b < lo → s.heap.get? b = some o → h'.get? b = some o := fun b o hb e => hk b o (low b hb).1 (low b hb).2.1 (low b hb).2.2.1 (low b hb).2.2.2 e
  have F' : Fr h₀ L h' m := ⟨F.ns.at' fun o e => hkl _ o hL e, fun b o e => hkl b o (Nat.lt_trans (Nat.lt_of_lt_of_le (Heap.lt_size e) F.above) hL) (F.keep b o e), F.above⟩
  have N' : News h₀ L h' news := fun p hp => ⟨hkl _ _ (hlo p hp) (N p hp).1, (N p hp).2⟩
  obtain ⟨kt, hkt, hd⟩ := zp_dat (h := h') (P := fun a => s.heap.objs.size < a) as xs ys dx dy (by simpa using hl) hxy (fun j a hj => by simpa using hG j a hj) Dx Dy
  have hLs : L < s.heap.objs.size := F.ns.lt
  have new : ∀ a, s.heap.objs.size ≤ a → a ≠ L ∧ h₀.get? a = none := fun a ha => ⟨Nat.ne_of_gt (Nat.lt_of_lt_of_le hLs ha), Heap.get?_none_of_le (Nat.le_trans F.above (Nat.le_trans (Nat.le_of_lt hLs) ha))⟩
  refine h h' tk s.heap.objs.size (as.map Value.ref) c kt F' (fun p hp => ?_) (hd.mono fun p hp => ?_) (fun p hp => Heap.lt_size (N p hp).1) fun p hp => (hkt p hp).1
  · rcases List.mem_cons.mp hp with rfl | hp
    · refine ⟨?_, new _ (Nat.le_refl _)⟩
      rw [hS, ← hacc]
    · rcases List.mem_append.mp hp with hp | hp
      · exact ⟨(hkt p hp).2, new _ (Nat.le_of_lt (hkt p hp).1)⟩
      · exact N' p hp
  · rcases List.mem_append.mp hp with hp | hp
    · exact List.mem_append_left _ hp
    · exact List.mem_append_right _ (hs p hp)
theorem datAll_cls {kp : List (Addr × Obj)} : ∀ {vs : List Value} {yss : List (List Str)}, ClsL kp vs yss → DatAll kp vs (yss.map fun ys => Dat.list (ys.map Dat.str))
  | _, _, .nil => .nil
  | _, _, .cons e s r => .cons (.list e (datAll_strs s)) (datAll_cls r)
theorem zip_due (W : List Str) (fam : List Nat) (c : Nat) (g : Str → List Str) : ∀ (rs : List Str), List.zipWith dPair (rs.map Dat.str) ((rs.map g).map fun ys => Dat.list (ys.map Dat.str)) = (rs.map fun r => (r, g r)).map dueDat
  | [] => rfl
  | r :: rs => by
    rw [List.map_cons, List.map_cons, List.map_cons, List.zipWith_cons_cons, zip_due W fam c g rs]
    rfl
end
end

section
open PySem PySem.W PySem.Calls PyProof.Rows
theorem fr_see5 {h₀ h : Heap} {L : Addr} {m : Str → Option Value} {x x2 x3 x4 x5 : Str} {v v2 v3 v4 v5 : Value} (F : Fr h₀ L h m) (e : m x = some v) (e2 : m x2 = some v2) (e3 : m x3 = some v3) (e4 : m x4 = some v4) (e5 : m x5 = some v5) :
    Fr h₀ L h (fun y => if y = x then some v else if y = x2 then some v2 else if y = x3 then some v3 else if y = x4 then some v4 else if y = x5 then some v5 else m y) := by
  have : m = fun y => if y = x then some v else if y = x2 then some v2 else if y = x3 then some v3 else if y = x4 then some v4 else if y = x5 then some v5 else m y := by
    funext y
    by_cases h1 : y = x
    · simp only [h1, if_true, e]
    · by_cases h2 : y = x2
      · rw [if_neg h1, if_pos h2, h2, e2]
      · by_cases h3 : y = x3
        · rw [if_neg h1, if_neg h2, if_pos h3, h3, e3]
        · by_cases h4 : y = x4
          · rw [if_neg h1, if_neg h2, if_neg h3, if_pos h4, h4, e4]
          · by_cases h5 : y = x5
            · rw [if_neg h1, if_neg h2, if_neg h3, if_neg h4, if_pos h5, h5, e5]
            · rw [if_neg h1, if_neg h2, if_neg h3, if_neg h4, if_neg h5]
  exact this ▸ F
noncomputable def psC (Ws : List Str) (fam : List Nat) (c : Nat) : List (Str × Str) := prsTo Ws fam c fam.length
noncomputable def IsRow (Ws : List Str) (fam : List Nat) (c : Nat) (rs : List Str) : Prop := Srt rs ∧ ∀ y, y ∈ rs ↔ y ∈ (psC Ws fam c).map fun p => Txt.lower p.1
noncomputable def bitsTo (c i : Nat) : List Nat := (List.range i).filter fun k => c.testBit k
theorem bitsTo_succ (c i : Nat) : bitsTo c (i + 1) = bitsTo c i ++ if c.testBit i = true then [i] else [] := by
  unfold bitsTo
  rw [List.range_succ, List.filter_append]
  congr 1
  cases h : c.testBit i <;> simp [h]
noncomputable def popc (c : Nat) : Nat := (bitsTo c 4).length
theorem popc_le (c : Nat) : popc c ≤ 4 := range_filter_len _ 4
noncomputable def fullL (p : Nat → Bool) (i : Nat) : List Nat := (List.range i).filter p
noncomputable def firmL (p : Nat → Bool) (i : Nat) : List Nat := ((List.range i).filter p).map fun c => 15 - c
theorem fullL_succ (p : Nat → Bool) (i : Nat) : fullL p (i + 1) = fullL p i ++ if p i = true then [i] else [] := by
  unfold fullL
  rw [List.range_succ, List.filter_append]
  congr 1
  cases h : p i <;> simp [h]
theorem firmL_succ (p : Nat → Bool) (i : Nat) : firmL p (i + 1) = firmL p i ++ if p i = true then [15 - i] else [] := by
  unfold firmL
  rw [List.range_succ, List.filter_append, List.map_append]
  congr 1
  cases h : p i <;> simp [h]
theorem fullL_len (p : Nat → Bool) (i : Nat) : (fullL p i).length ≤ i := range_filter_len _ i
theorem firmL_len (p : Nat → Bool) (i : Nat) : (firmL p i).length ≤ i := by unfold firmL; rw [List.length_map]; exact range_filter_len _ i
structure Fine (Ws : List Str) (fam : List Nat) (fullB firmB : Nat → Bool) : Prop where
  len : fam.length ≤ 5
  lt : ∀ f ∈ fam, f < 16
  W16 : Ws.length = 16
  wd : ∀ x ∈ Ws, Wd x
  rlen : ∀ c, c < 16 → ∀ rs, IsRow Ws fam c rs → rs.length ≤ 5
  due : ∀ c, c < 16 → ∀ rs ss, IsRow Ws fam c rs → ss.Perm (nmsTo Ws c 16) → sortedS ss = true → (rs.map fun r => (r, valsOf (psC Ws fam c) (Txt.upper r))) = dueOf Ws fam c ss
  top : ∀ c, c < 15 → valsOf (psC Ws fam c) (Ws.getD 15 Str.empty) = []
  full : ∀ c, c < 16 → ∀ rs, IsRow Ws fam c rs → (rs.length = 2 ^ popc c ↔ fullB c = true)
  firm : ∀ c, c < 16 → ∀ rs, IsRow Ws fam c rs → ((∃ r ∈ rs, 16 / 2 ^ popc c ≤ (valsOf (psC Ws fam c) (Txt.upper r)).length) ↔ firmB c = true)
  le1 : (firmL firmB 16).length ≤ fam.length
  le2 : fam.length ≤ (fullL fullB 16).length
  eqs : (firmL firmB 16).length = fam.length ↔ (fullL fullB 16).length = fam.length
  sorts : ∀ l : List Int, l.Perm ((firmL firmB 16).map Int.ofNat) → l.Pairwise (· ≤ ·) → l = (firmTo fam 16).map Int.ofNat
theorem psC_wd {Ws : List Str} {fam : List Nat} (hW : Ws.length = 16) (wd : ∀ x ∈ Ws, Wd x) (lt : ∀ f ∈ fam, f < 16) (c : Nat) : ∀ p ∈ psC Ws fam c, Wd p.1 ∧ Wd p.2 := by
  intro p hp
  obtain ⟨k, hk, rfl⟩ := List.mem_map.mp hp
  have hf : fam.getD k 0 < 16 := by
    have hk := List.mem_range.mp hk
    exact lt _ (getD_mem hk)
  have w1 : Wd (Ws.getD (fam.getD k 0 &&& c) Str.empty) := wd _ (getD_mem (by rw [hW]; exact and_lt hf))
  have w2 : Wd (Ws.getD (fam.getD k 0 &&& (15 - c)) Str.empty) := wd _ (getD_mem (by rw [hW]; exact and_lt hf))
  refine ⟨?_, w2⟩
  unfold prAt
  dsimp only
  by_cases h : k % 2 = 1
  · rw [if_pos h]; exact w1.swap
  · rw [if_neg h]; exact w1
theorem psC_len (Ws : List Str) (fam : List Nat) (c : Nat) : (psC Ws fam c).length = fam.length := by
  unfold psC prsTo
  rw [List.length_map, List.length_range]
theorem valsOf_len (ps : List (Str × Str)) (nm : Str) : (valsOf ps nm).length ≤ ps.length := by
  unfold valsOf
  rw [List.length_map]
  exact List.length_filter_le _ _
/-- a table out of a ledger -/
noncomputable def TabK (w : World) (g : Heap) (kx : List (Addr × Obj)) (x : Addr) (ps : List (Str × Str)) : Prop := ∀ h : Heap, (∀ p ∈ kx, h.get? p.1 = some p.2) → TabAt w g h x ps
theorem TabK.mono {w : World} {g : Heap} {kx ky : List (Addr × Obj)} {x : Addr} {ps : List (Str × Str)} (t : TabK w g kx x ps) (k : ∀ p ∈ kx, p ∈ ky) : TabK w g ky x ps := fun h hy => t h fun p hp => hy p (k p hp)
theorem TabAt.led {w : World} {g h₁ h : Heap} {x : Addr} {ps : List (Str × Str)} (t : TabAt w h₁ h x ps) (k : ∀ b o, g.get? b = some o → h₁.get? b = some o) :
    ∃ kx, (∀ p ∈ kx, h.get? p.1 = some p.2 ∧ h₁.get? p.1 = none) ∧ TabK w g kx x ps := by
  obtain ⟨dx, l, tq, its, n, kp, h1, h2, h3, h4, h5, h6, h7, h8, h9⟩ := t
  refine ⟨(x, instObj 169 dx) :: (dx, hdrDict w tq l) :: (l, PySem.W.listOf (List.toArray its) n) :: kp, fun p hp => ?_, fun h' hy => ?_⟩
  · simp only [List.mem_cons] at hp
    rcases hp with rfl | rfl | rfl | hp
    · exact ⟨h1, h6⟩
    · exact ⟨h2, h7⟩
    · exact ⟨h3, h8⟩
    · exact ⟨(h5 p hp).1, h9 p hp⟩
  · exact ⟨dx, l, tq, its, n, kp, hy _ (.head _), hy _ (.tail _ (.head _)), hy _ (.tail _ (.tail _ (.head _))), h4, fun p hp => ⟨hy p (.tail _ (.tail _ (.tail _ hp))), (h5 p hp).2⟩, none_of k h6, none_of k h7, none_of k h8, fun p hp => none_of k (h9 p hp)⟩
section
variable {g h h' : Heap} {L : Addr} {m : Str → Option Value} {a b c d e : Addr × Obj} {kk kx : List (Addr × Obj)} {α : Type}
/-- four at the head, the rest opaque: the rest grows -/
theorem grow4 (F : Fr g L h m) (N : News g L h (a :: b :: c :: d :: kk)) (off : OwnOff kk [a.1, b.1, c.1, d.1]) (k : h.StaysIn h') (hx : ∀ p ∈ kx, h'.get? p.1 = some p.2 ∧ h.get? p.1 = none) :
    ∃ k2, News g L h' (a :: b :: c :: d :: k2) ∧ OwnOff k2 [a.1, b.1, c.1, d.1] ∧ (∀ p ∈ kk, p ∈ k2) ∧ (∀ p ∈ kx, p ∈ k2) := by
  refine ⟨kx ++ kk, ?_, ?_, fun p hp => List.mem_append_right _ hp, fun p hp => List.mem_append_left _ hp⟩
  · have N' := N.grown k
    intro p hp
    have hp : p ∈ [a, b, c, d] ++ (kx ++ kk) := hp
    rcases List.mem_append.mp hp with hp | hp
    · exact N' p (List.mem_append_left (as := [a, b, c, d]) kk hp)
    · rcases List.mem_append.mp hp with hp | hp
      · exact News.more F N k (hx p hp).2 (hx p hp).1 p (.head _)
      · exact N' p (List.mem_append_right (as := [a, b, c, d]) hp)
  · intro p hp x hxm q
    rcases List.mem_append.mp hp with hp | hp
    · have : ∃ o, h.get? x = some o := by
        simp only [List.mem_cons, List.not_mem_nil, or_false] at hxm
        rcases hxm with rfl | rfl | rfl | rfl
        · exact ⟨_, (N a (by simp)).1⟩
        · exact ⟨_, (N b (by simp)).1⟩
        · exact ⟨_, (N c (by simp)).1⟩
        · exact ⟨_, (N d (by simp)).1⟩
      obtain ⟨o, ho⟩ := this
      rw [← q, (hx p hp).2] at ho
      cases ho
    · exact off p hp x hxm q
/-- one more at the head goes to the rest -/
theorem push4 (N : News g L h (e :: a :: b :: c :: d :: kk)) (off : OwnOff kk [a.1, b.1, c.1, d.1]) (he : e.1 ∉ [a.1, b.1, c.1, d.1]) :
    ∃ k2, News g L h (a :: b :: c :: d :: k2) ∧ OwnOff k2 [a.1, b.1, c.1, d.1] ∧ (∀ p ∈ kk, p ∈ k2) ∧ e ∈ k2 := by
  refine ⟨e :: kk, fun p hp => N p ?_, fun p hp => ?_, fun p hp => .tail _ hp, .head _⟩
  · simp only [List.mem_cons] at hp ⊢
    rcases hp with hp | hp | hp | hp | hp | hp <;> simp [hp]
  · rcases List.mem_cons.mp hp with rfl | hp
    · exact fun x hx q => he (q ▸ hx)
    · exact off p hp
/-- a list and its pairs ahead of the four -/
theorem pull4 {kt : List (Addr × Obj)} (N : News g L h (e :: (kt ++ (a :: b :: c :: d :: kk)))) (off : OwnOff kk [a.1, b.1, c.1, d.1]) (lo : ∀ p ∈ a :: b :: c :: d :: kk, p.1 < e.1) (hi : ∀ p ∈ kt, e.1 < p.1) :
    ∃ k2, News g L h (a :: b :: c :: d :: k2) ∧ OwnOff k2 [a.1, b.1, c.1, d.1] ∧ (∀ p ∈ kk, p ∈ k2) ∧ e ∈ k2 ∧ ∀ p ∈ kt ++ (a :: b :: c :: d :: kk), p ∈ a :: b :: c :: d :: k2 := by
  refine ⟨e :: (kt ++ kk), fun p hp => N p ?_, fun p hp x hx q => ?_, fun p hp => .tail _ (List.mem_append_right _ hp), .head _, fun p hp => ?_⟩
  · simp only [List.mem_cons, List.mem_append] at hp ⊢
    rcases hp with hp | hp | hp | hp | hp | hp | hp <;> simp [hp]
  · have hxe : x < e.1 := by
      simp only [List.mem_cons, List.not_mem_nil, or_false] at hx
      rcases hx with rfl | rfl | rfl | rfl
      · exact lo a (by simp)
      · exact lo b (by simp)
      · exact lo c (by simp)
      · exact lo d (by simp)
    rcases List.mem_cons.mp hp with rfl | hp
    · exact Nat.ne_of_gt hxe q
    · rcases List.mem_append.mp hp with hp | hp
      · exact Nat.ne_of_gt (Nat.lt_trans hxe (hi p hp)) q
      · exact off p hp x hx q
  · simp only [List.mem_cons, List.mem_append] at hp ⊢
    rcases hp with hp | hp | hp | hp | hp | hp <;> simp [hp]
end
section
variable {prog : Program} {w : World} {A : Around} {E : Value → Shared → Prop} {s : Shared} {g : Heap} {L : Addr} {m : Str → Option Value}
/-- where the branches of an if meet -/
noncomputable def MergeEnd (g : Heap) (L : Addr) (m : Str → Option Value) (s : Shared) (PA : Addr × Obj → Prop) (b c d : Addr × Obj) (kk : List (Addr × Obj)) (f : Flow) (s' : Shared) : Prop :=
  f = .next ∧ ∃ h tk a' k', s' = { s with heap := h, toks := tk } ∧ PA a' ∧ Fr g L h m ∧ News g L h (a' :: b :: c :: d :: k') ∧ OwnOff k' [a'.1, b.1, c.1, d.1] ∧ ∀ p ∈ kk, p ∈ k'
theorem MergeEnd.intro {PA : Addr × Obj → Prop} {a' b c d : Addr × Obj} {kk k' : List (Addr × Obj)} {h : Heap} {tk : Nat} (p : PA a') (F : Fr g L h m) (N : News g L h (a' :: b :: c :: d :: k')) (off : OwnOff k' [a'.1, b.1, c.1, d.1]) (sub : ∀ p ∈ kk, p ∈ k') :
    MergeEnd g L m s PA b c d kk .next { s with heap := h, toks := tk } := ⟨rfl, h, tk, a', k', rfl, p, F, N, off, sub⟩
theorem mergeIf {st : Stmt} {env : Env} {Q : Flow → Shared → Prop} {b c d : Addr × Obj} {kk : List (Addr × Obj)} (PA : Addr × Obj → Prop) (Fu : Fr g L s.heap m)
    (one : wpAny (model prog w) A (exec st env) (MergeEnd g L m s PA b c d kk) (fun _ _ => False) s)
    (two : ∀ h tk a' k', PA a' → Fr g L h m → News g L h (a' :: b :: c :: d :: k') → OwnOff k' [a'.1, b.1, c.1, d.1] → (∀ p ∈ kk, p ∈ k') → Q .next { s with heap := h, toks := tk }) :
    wpAny (model prog w) A (exec st env) Q E s := by
  refine wpAny_mono one (fun f s' q => ?_) (fun _ _ q => q.elim)
  obtain ⟨rfl, h, tk, a', k', rfl, p, F, N, off, sub⟩ := q
  exact two h tk a' k' p F N off sub
end
end

section
open PySem PySem.W PySem.Calls PyProof.Rows
variable {w : World} {mean : ExcName → Option Value} {mg mb : Str → Option Value}
local macro_rules | `(tactic| walk_at "mstop") => `(tactic| (with_reducible show wpAny _ _ (call (Value.builtin "list.append") _) _ _ _))
local macro_rules | `(tactic| walk_at "mstop") => `(tactic| (with_reducible show wpAny _ _ (call (Value.builtin "len") _) _ _ _))
local macro_rules | `(tactic| walk_at "mstop") => `(tactic| (with_reducible show wpAny _ _ (call (Value.builtin "sorted") _) _ _ _))
local macro_rules | `(tactic| walk_at "mstop") => `(tactic| (with_reducible show wpAny _ _ (call (Value.type "zip") _) _ _ _))
local macro_rules | `(tactic| walk_at "mstop") => `(tactic| (with_reducible show wpAny _ _ (call (Value.type "list") _) _ _ _))
local macro_rules | `(tactic| walk_at "mstop") => `(tactic| (with_reducible show wpAny _ _ (getMethod (Value.ref _) (Str.ofString "get_all") _) _ _ _))
local macro_rules | `(tactic| walk_at "mstop") => `(tactic| (with_reducible show wpAny _ _ (subscriptTail (PySem.Expr.Name _ _) _ (Value.ref _) (Value.int _ _)) _ _ _))
local macro_rules | `(tactic| walk_at "mstop") => `(tactic| (with_reducible show wpAny _ _ (exec (PySem.Stmt.If (PySem.Expr.BoolOp _ _ _) _ _ _) _) _ _ _))
local macro_rules | `(tactic| walk_at "mstop") => `(tactic| (with_reducible show wpAny _ _ (exec (PySem.Stmt.If (PySem.Expr.Compare _ [PySem.CmpOp.Eq] _ _) _ _ _) _) _ _ _))

theorem mem_sw {α : Type} {a b q : α} {r : List α} (h : q ∈ a :: b :: r) : q ∈ b :: a :: r := by
  simp only [List.mem_cons] at h ⊢
  rcases h with h | h | h <;> simp [h]
theorem mem_h4 {α : Type} {a b c d q : α} {r : List α} (h : q ∈ [a, b, c, d]) : q ∈ a :: b :: c :: d :: r := by
  simp only [List.mem_cons, List.not_mem_nil, or_false] at h ⊢
  rcases h with h | h | h | h <;> simp [h]
theorem mem_h4s {α : Type} {a b c d q : α} {r : List α} (h : q ∈ [b, a, c, d]) : q ∈ a :: b :: c :: d :: r := by
  simp only [List.mem_cons, List.not_mem_nil, or_false] at h ⊢
  rcases h with h | h | h | h <;> simp [h]
theorem firmL_map_succ (p : Nat → Bool) (i : Nat) (hi : i < 16) : (firmL p (i + 1)).map Int.ofNat = (firmL p i).map Int.ofNat ++ if p i = true then [(15 : Int) - (i : Int)] else [] := by
  rw [firmL_succ, List.map_append]
  congr 1
  by_cases h : p i = true
  · rw [if_pos h, if_pos h]
    show [((15 - i : Nat) : Int)] = _
    rw [show (15 : Int) - (i : Int) = ((15 - i : Nat) : Int) by omega]
  · rw [if_neg h, if_neg h]; rfl
theorem fdiv16 (d : Nat) : Int.fdiv 16 ((d : Nat) : Int) = ((16 / d : Nat) : Int) := by
  rw [Int.fdiv_eq_ediv_of_nonneg _ (Int.natCast_nonneg _)]
  rfl
theorem bis_lt {cs : List Int} {rs : List Str} {g : Str → List Str} {d : Nat} {y : Int} {b : Nat} (mem : ∀ y, y ∈ cs ↔ y ∈ (rs.map g).map fun ys => (ys.length : Int)) (hy : y = (d : Int)) (hb1 : b ≤ cs.length)
    (hb2 : ∀ j, j < b → decide (cs.getD j 0 < y) = true) (hb3 : ∀ j, b ≤ j → j < cs.length → decide (cs.getD j 0 < y) = false) : b < cs.length ↔ ∃ r ∈ rs, d ≤ (g r).length := by
  constructor
  · intro h
    have h3 := of_decide_eq_false (hb3 b (Nat.le_refl _) h)
    have hm : cs.getD b 0 ∈ cs := getD_mem h
    obtain ⟨ys, hys, e⟩ := List.mem_map.mp ((mem _).mp hm)
    obtain ⟨r, hr, rfl⟩ := List.mem_map.mp hys
    refine ⟨r, hr, ?_⟩
    rw [← e, hy] at h3
    omega
  · rintro ⟨r, hr, hd⟩
    have hm : ((g r).length : Int) ∈ cs := (mem _).mpr (List.mem_map.mpr ⟨g r, List.mem_map.mpr ⟨r, hr, rfl⟩, rfl⟩)
    obtain ⟨j, hj, e⟩ := List.mem_iff_getElem.mp hm
    have e2 : cs.getD j 0 = ((g r).length : Int) := by rw [← e]; simp [List.getD, hj]
    rcases Nat.lt_or_ge j b with h1 | h1
    · have := of_decide_eq_true (hb2 j h1)
      rw [e2, hy] at this
      omega
    · omega
theorem eq_self_true {α : Type} {a : α} {i : Decidable (a = a)} : (decide (a = a)) = true := @decide_eq_true _ i rfl
theorem eqb_same {a b c : Nat} (h : a = c ↔ b = c) : (((a : Int) == (c : Int)) == ((b : Int) == (c : Int))) = true := by
  have e : ∀ x : Nat, ((x : Int) == (c : Int)) = decide (x = c) := fun x => by
    by_cases hx : x = c
    · rw [decide_eq_true hx, hx]; exact beq_self_eq_true _
    · rw [decide_eq_false hx]; exact beq_eq_false_iff_ne.mpr fun q => hx (Int.ofNat_inj.mp q)
  rw [e, e]
  by_cases hx : a = c
  · rw [decide_eq_true hx, decide_eq_true (h.mp hx)]; rfl
  · rw [decide_eq_false hx, decide_eq_false (fun q => hx (h.mpr q))]; rfl
theorem pow_cast (k : Nat) : (2 : Int) ^ ((k : Nat) : Int).toNat = ((2 ^ k : Nat) : Int) := by rw [Int.toNat_natCast, Int.natCast_pow]; rfl
theorem News.drop1 {h₀ h : Heap} {L : Addr} {e : Addr × Obj} {news : List (Addr × Obj)} (N : News h₀ L h (e :: news)) : News h₀ L h news := fun p hp => N p (.tail _ hp)
theorem ne_self_false {α : Type} {a : α} {i : Decidable (a = a)} : (!decide (a = a)) = false := by rw [@decide_eq_true _ i rfl]; rfl
theorem mem_four_mono {α : Type} {a b c d : α} {k k' : List α} (h : ∀ p ∈ k, p ∈ k') : ∀ p ∈ a :: b :: c :: d :: k, p ∈ a :: b :: c :: d :: k' := by
  intro p hp
  simp only [List.mem_cons] at hp ⊢
  rcases hp with hp | hp | hp | hp | hp
  · simp [hp]
  · simp [hp]
  · simp [hp]
  · simp [hp]
  · simp [h p hp]
theorem strs_okD (n : Nat) : ∀ (vs : List Str), (∀ v ∈ vs, PyData.strOk v = true) → (vs.map Dat.str).all (kqdOk n) = true
  | [], _ => rfl
  | v :: vs, h => by
    rw [List.map_cons, List.all_cons, strs_okD n vs fun x hx => h x (.tail _ hx), Bool.and_true]
    have := h v (.head _)
    cases n <;> exact this
theorem dueDat_ok {l : List (Str × List Str)} (h : ∀ p ∈ l, PyData.strOk p.1 = true ∧ ∀ v ∈ p.2, PyData.strOk v = true) : ∀ d ∈ l.map dueDat, kqdOk 8 d = true := by
  intro d hd
  obtain ⟨p, hp, rfl⟩ := List.mem_map.mp hd
  obtain ⟨h1, h2⟩ := h p hp
  show [Dat.str p.1, Dat.list (p.2.map Dat.str)].all (kqdOk 7) = true
  rw [List.all_cons, List.all_cons, List.all_nil, Bool.and_true]
  have e1 : kqdOk 7 (Dat.str p.1) = true := h1
  have e2 : kqdOk 7 (Dat.list (p.2.map Dat.str)) = true := strs_okD 6 p.2 h2
  rw [e1, e2]
  rfl
theorem ne_of_new {h : Heap} {a b : Addr} {o : Obj} (f : h.get? a = none) (e : h.get? b = some o) : a ≠ b := fun q => by rw [q, e] at f; cases f
theorem mem_rot7 {α : Type} {i c d a1 a2 a3 a4 e q : α} {r : List α} (h : q ∈ i :: c :: d :: a1 :: a2 :: a3 :: a4 :: e :: r) : q ∈ e :: i :: c :: d :: a1 :: a2 :: a3 :: a4 :: r := by
  simp only [List.mem_cons] at h ⊢
  rcases h with h | h | h | h | h | h | h | h | h <;> simp [h]
theorem mem_t4 {α : Type} {a b c d q : α} {r : List α} (h : q ∈ r) : q ∈ a :: b :: c :: d :: r := .tail _ (.tail _ (.tail _ (.tail _ h)))
set_option maxHeartbeats 4000000 in
theorem holds_spec {A : Around} {s : Shared} {R : Result → Shared → Prop} {lf lt lw : Addr} {fvs tvs wvs : List Value} {fam : List Nat} {Ws : List Str} {fullB firmB : Nat → Bool} (G : Gd w mean mg mb s.heap) (r : Rm A 10 190)
   (Z : Fine Ws fam fullB firmB) (hlf : s.heap.IsList lf fvs.toArray) (hif : IntsAre fvs (fam.map Int.ofNat))
   (hlt : s.heap.IsList lt tvs.toArray) (hit : StrsAre tvs Ws) (hlw : s.heap.IsList lw wvs.toArray) (hiw : StrsAre wvs Ws)
   (hR : ∀ h' tk, s.heap.StaysIn h' → R (.ok (.ret (.bool true))) { s with heap := h', toks := tk })
   : codeAny (model PySem.Challenge.rw_rw0095_01.row.prog w) A (.call (.ref 257) ⟨[.ref lf, .ref lt, .ref lw], []⟩) R s := by
  obtain ⟨X, T⟩ := G
  obtain ⟨Ah, Ad, Af, Ag, Au⟩ := A
  obtain rfl : Ah = none := r.hd
  refine' enterC (binds := [(Str.ofString "family", .ref lf), (Str.ofString "told", .ref lt), (Str.ofString "words", .ref lw)]) X T.nolimit ?hr ?k6 ?k7 ?k9 ?kB ?kn ?_ ?c6 ?c7 ?c8
  case hr => exact Nat.lt_of_le_of_lt (Nat.le_add_right _ _) r.dp
  case k6 => k_dflt k_is
  case k7 => k_dflt k_is
  case k9 => exact BindsTo.of_eq rfl
  case kB => rfl
  case kn => decide
  case c6 => rfl
  case c7 => rfl
  case c8 => rfl
  intro L h₁ tk₁ cells F N CL
  w_top on
  obtain ⟨o1, o2, rfl, d1, d2⟩ := CellsAre.two CL
  replace d1 : o1.data = .cell none := d1
  replace d2 : o2.data = .cell none := d2
  clear CL
  have K0 : IntsAre fvs (fam.map Int.ofNat) ∧ StrsAre tvs Ws ∧ StrsAre wvs Ws := ⟨hif, hit, hiw⟩
  clear hif hit hiw
  walk_at "mwl"
  refine newList_K (by assumption) (by assumption) ?_
  intro af h2 F2 N2 l2
  have l2 := (⟨l2 _ (.head _), l2 _ (.tail _ (.head _))⟩ : L + 1 + 1 < af ∧ L + 1 < af)
  walk_at "mwl"
  refine newList_K (by assumption) (by assumption) ?_
  intro am h3 F3 N3 l3
  have l3 := (⟨l3 _ (.head _), l3 _ (.tail _ (.head _)), l3 _ (.tail _ (.tail _ (.head _)))⟩ : af < am ∧ L + 1 + 1 < am ∧ L + 1 < am)
  walk_at "mw"
  rename IsRange _ _ _ _ _ _ _ _ => hr4
  rename Fr _ _ _ _ => F4
  rename News _ _ _ _ => N4
  refine' for_range (n := 16) (news := [(af, W.listOf #[] 0), (am, W.listOf #[] 0), (L + 1 + 1, o1), (L + 1, o2)]) (kept := []) ?a1 ?a2 ?a3 ?a4 ?a5 ?a6
      (fun i m nx kp => ∃ fits nf mits nm oc xv ot xt, nx = [(af, W.listOf (List.toArray fits) nf), (am, W.listOf (List.toArray mits) nm), (L + 1 + 1, ot), (L + 1, oc)] ∧ oc.data = .cell xv ∧ ot.data = .cell xt ∧ kp = [] ∧ IntsAre fits ((fullL fullB i).map Int.ofNat) ∧ IntsAre mits ((firmL firmB i).map Int.ofNat) ∧
        m (Str.ofString "family") = some (.ref lf) ∧ m (Str.ofString "told") = some (.ref lt) ∧ m (Str.ofString "words") = some (.ref lw) ∧ m (Str.ofString "full") = some (.ref af) ∧ m (Str.ofString "firm") = some (.ref am)) ?a8 ?_ ?_ ?a9
  case a1 => rfl
  case a2 => exact hr4
  case a3 => decide
  case a4 => exact F4
  case a5 => exact fun p hp => N4 p (by simp only [List.cons_append, List.nil_append, List.mem_cons, List.not_mem_nil, or_false] at hp ⊢; rcases hp with hp | hp | hp | hp <;> simp [hp])
  case a6 => exact kept_nil
  case a8 => exact ⟨[], 0, [], 0, o2, _, o1, _, rfl, d2, d1, rfl, .nil, .nil, rfl, rfl, rfl, rfl, rfl⟩
  case a9 => intro _; rfl
  · rintro i ti m₁ nx kp own h tk hi ⟨fits, nf, mits, nm₀, oc, xv, ot, xt, rfl, hoc, hot, rfl, hI, hM, hm1, hm2, hm3, hm4, hm5⟩ hnx hoff F' N'
    clear F4 N4 hr4
    replace F' := fr_see5 F' hm1 hm2 hm3 hm4 hm5
    dsimp only [List.nil_append, List.cons_append, List.map_cons, List.map_nil] at N' hoff
    have hIk : IntsAre fits ((fullL fullB i).map Int.ofNat) ∧ fits.length ≤ 16 := ⟨hI, by rw [hI.length, List.length_map]; exact Nat.le_trans (fullL_len fullB i) (by omega)⟩
    have hMk : IntsAre mits ((firmL firmB i).map Int.ofNat) ∧ mits.length ≤ 16 := ⟨hM, by rw [hM.length, List.length_map]; exact Nat.le_trans (firmL_len firmB i) (by omega)⟩
    clear hI hM
    have n1 : af ≠ L + 1 := (Nat.ne_of_lt l2.2).symm
    have n2 : am ≠ L + 1 := (Nat.ne_of_lt l3.2.2).symm
    have n3 : L + 1 + 1 ≠ L + 1 := (Nat.ne_of_lt (Nat.lt_succ_self _)).symm
    have n4 : af ≠ L + 1 + 1 := (Nat.ne_of_lt l2.1).symm
    have n5 : am ≠ L + 1 + 1 := (Nat.ne_of_lt l3.2.1).symm
    have n6 : af ≠ am := Nat.ne_of_lt l3.1
    refine wpAny_assign_Name ?_
    refine storeX_C F' N' (by rfl) (UpdF.tail n1 (UpdF.tail n2 (UpdF.tail n3 (UpdF.head (fun p hp => hoff p hp _ (.tail _ (.tail _ (.tail _ (.head _))))))))) hoc ?_
    clear F' N'
    intro h8 oc8 F8 N8 d8
    walk_at "mw"
    refine wpAny_call (table_spec (Gd.fr X T F8) ((Rm.deeper (d := 9) (u := 187) r).less (by decide) (by decide)) hi (hlf.at fun o e => F8.keep _ o e) K0.1 Z.len Z.lt (hlt.at fun o e => F8.keep _ o e) K0.2.1 Z.W16 Z.wd ?_)
    intro h10 tk10 x k10 tab10
    obtain ⟨kx, hkx, tabx⟩ := TabAt.led tab10 (g := s.heap) F8.keep
    obtain ⟨k2, N10, off2, hown, sx⟩ := grow4 F8 N8 hoff k10 hkx
    have F10 := F8.keeps k10
    clear F8 N8 tab10 k10 hkx
    replace tabx := tabx.mono sx
    walk_at "mw"
    rename_i h11 ot11 F11 N11 d11
    have hps := psC_wd Z.W16 Z.wd Z.lt i
    have hpl : (psC Ws fam i).length ≤ 5 := by rw [psC_len]; exact Z.len
    refine wpAny_call (row_spec (ps := psC Ws fam i) X T F11.keep ((Rm.deeper (d := 9) (u := 187) r).less (by decide) (by decide)) (tabx h11 fun p hp => (N11 p (mem_t4 hp)).1) hps hpl ?_)
    intro ar h12 tk12 rits rn rs k12 f12 g12 S12 srt12 mem12
    have hrow : IsRow Ws fam i rs := ⟨srt12, mem12⟩
    have K12 : StrsAre rits rs ∧ True := ⟨S12, trivial⟩
    have hrl := Z.rlen i hi rs hrow
    obtain ⟨k3, N12, off3, s3, sr⟩ := grow4 (kx := [(ar, W.listOf (List.toArray rits) rn)]) F11 N11 off2 k12 (fun p hp => by rw [List.mem_singleton.mp hp]; exact ⟨g12, f12⟩)
    have F12 := F11.keeps k12
    clear F11 N11 k12 f12 g12
    replace tabx := tabx.mono s3
    replace hown : ∀ p ∈ own, p ∈ k3 := fun p hp => s3 p (hown p hp)
    have hrk := sr _ (.head _)
    clear sr s3 sx
    have hrw : ∀ z ∈ rs, Wd z := fun z hz => by
      obtain ⟨q, hq, rfl⟩ := List.mem_map.mp ((mem12 z).mp hz)
      exact (hps q hq).1.lower
    walk_at "mw"
    walk_at "acompU"
    walk_at "mw"
    k_unfold
    try dsimp only
    rename_i h13 F13 N13
    have hril : rits.length = rs.length := S12.length
    have hrat : ∀ (j : Nat) (v : Value), rits[j]? = some v → ∃ nm t, v = .str nm t ∧ rs[j]? = some nm := fun j v hj => by
      obtain ⟨nm, t, e1, e2⟩ := S12.item j v hj
      exact ⟨nm, t, e1, e2⟩
    refine LCg.CompSrc.ledger rfl F13 N13 (mem_t4 hrk) (by rw [sizeLine_eq, List.size_toArray, hril]; omega) ?_
    intro g
    refine comp_U (fun j ys nw => ∃ kq, nw = (af, W.listOf (List.toArray fits) nf) :: (am, W.listOf (List.toArray mits) nm₀) :: (L + 1 + 1, ot11) :: (L + 1, oc8) :: kq ∧ OwnOff kq [af, am, L + 1 + 1, L + 1] ∧ (∀ p ∈ k3, p ∈ kq) ∧ ClsL kq ys ((rs.take j).map fun r => valsOf (psC Ws fam i) (Txt.upper r))) ⟨k3, rfl, off3, fun _ hp => hp, .nil⟩ ?_ ?_
    · rintro j ys _ v I oI C oC D m₂ h tk E' hj hv ⟨kq, rfl, offq, hkq, hcl⟩ hC hx F14 N14 off ne
      clear F13 N13
      obtain ⟨nm, tn, rfl, hnm⟩ := hrat j v (by simpa using hv)
      have hw : Wd nm := hrw nm (List.mem_of_getElem? hnm)
      walk_at "mw"
      refine meth_get_all F14 X (tabx h fun p hp => (N14 p (.tail _ (.tail _ (.tail _ (mem_t4 (hkq p hp)))))).1) ?_
      walk_at "mw"
      refine wpAny_call (getall_spec (ps := psC Ws fam i) X T F14.keep ((Rm.deeper (d := 9) (u := 187) r).less (by decide) (by decide)) (tabx h fun p hp => (N14 p (.tail _ (.tail _ (.tail _ (mem_t4 (hkq p hp)))))).1) hps hw.upper hpl ?_)
      intro ag h15 tk15 gits gn k15 f15 g15 S15
      have N15 := News.more F14 N14 k15 f15 g15
      have F15 := F14.keeps k15
      have ha1 : ag ≠ I := ne_of_new f15 (N14 _ (.head _)).1
      have ha2 : ag ≠ C := ne_of_new f15 (N14 _ (.tail _ (.head _))).1
      have ha3 : ag ≠ D := ne_of_new f15 (N14 _ (.tail _ (.tail _ (.head _)))).1
      have ha4 : ag ∉ [af, am, L + 1 + 1, L + 1] := by
        intro q
        simp only [List.mem_cons, List.not_mem_nil, or_false] at q
        rcases q with q | q | q | q
        · exact ne_of_new f15 (N14 _ (.tail _ (.tail _ (.tail _ (.head _))))).1 q
        · exact ne_of_new f15 (N14 _ (.tail _ (.tail _ (.tail _ (.tail _ (.head _)))))).1 q
        · exact ne_of_new f15 (N14 _ (.tail _ (.tail _ (.tail _ (.tail _ (.tail _ (.head _))))))).1 q
        · exact ne_of_new f15 (N14 _ (.tail _ (.tail _ (.tail _ (.tail _ (.tail _ (.tail _ (.head _)))))))).1 q
      clear N14 F14
      walk_at "mw"
      refine LCg.CompEnd.intro F15 N15 ((af, W.listOf (List.toArray fits) nf) :: (am, W.listOf (List.toArray mits) nm₀) :: (L + 1 + 1, ot11) :: (L + 1, oc8) :: (ag, W.listOf (List.toArray gits) gn) :: kq) (fun q hq => mem_rot7 hq) ⟨off.1, off.2.1, off.2.2.1, off.2.2.2.1, ⟨ha1, ha2, ha3⟩, off.2.2.2.2⟩ (.inr ⟨_, mem_t4 (.tail _ (hkq _ hrk)), rfl, _, rfl⟩) ⟨_, rfl, ?_, fun q hq => .tail _ (hkq q hq), ?_⟩
      · intro q hq
        rcases List.mem_cons.mp hq with rfl | hq
        · exact fun b hb e => ha4 ((show ag = b from e) ▸ hb)
        · exact offq q hq
      · rw [take_some hnm, List.map_append]
        exact (hcl.mono fun q hq => .tail _ hq).snoc (.head _) S15
    · rintro ys _ ⟨kq, rfl, offq, hkq, hcl⟩
      clear F13 N13
      rw [List.size_toArray, hril, List.take_length] at hcl
      walk_at "mw"
      rename_i Dc h13 tk13 F13 N13 q13
      obtain ⟨k4, N14, off4, s4, hck⟩ := push4 N13 offq (by
        intro q
        simp only [List.mem_cons, List.not_mem_nil, or_false] at q
        rcases q with q | q | q | q
        · exact q13.1 q.symm
        · exact q13.2.1 q.symm
        · exact q13.2.2.1 q.symm
        · exact q13.2.2.2.1 q.symm)
      replace tabx := tabx.mono fun p hp => s4 p (hkq p hp)
      replace hown : ∀ p ∈ own, p ∈ k4 := fun p hp => s4 p (hkq p (hown p hp))
      replace hrk := s4 _ (hkq _ hrk)
      replace hcl := hcl.mono s4
      clear N13 hkq
      refine zip_call F13 N14 (News.isList N14 (mem_t4 hrk)) (News.isList N14 (mem_t4 hck)) ?_
      intro h15 z F15 N15 lo15 lL15 Z15
      walk_at "mw"
      k_unfold
      try dsimp only
      have hyl : ys.length = rits.length := by rw [hcl.len, List.length_map, hril]
      refine zip_list (n₁ := k4) rfl F15 N15 lo15 lL15 Z15 hyl (by rw [hril]; omega) (fun p hp => mem_t4 hp) (datAll_strs S12) (datAll_cls hcl) ?_
      intro h16 tk16 Dz zits zn kt F16 N16 Dz16 lz16 lk16
      rw [zip_due Ws fam i] at Dz16
      obtain ⟨k5, N17, off5, s5, hzk, sz⟩ := pull4 N16 off4 lz16 lk16
      replace Dz16 := Dz16.mono sz
      clear F13 N14 F15 N15 Z15 N16 lo15 lL15 lz16 lk16 sz q13
      replace tabx := tabx.mono s5
      replace hown : ∀ p ∈ own, p ∈ k5 := fun p hp => s5 p (hown p hp)
      replace hcl := hcl.mono s5
      replace hck := s5 _ hck
      replace hrk := s5 _ hrk
      clear s5 s4
      walk_at "mw"
      refine wpAny_call (due_spec (Gd.fr X T F16) ((Rm.deeper (d := 9) (u := 187) r).less (by decide) (by decide)) hi (hlf.at fun o e => F16.keep _ o e) K0.1 Z.len Z.lt (hlw.at fun o e => F16.keep _ o e) K0.2.2 Z.W16 Z.wd ?_)
      intro ad h18 tk18 dits dn kq6 ss k18 f18 g18 Dd18 hkq6 hperm hsort
      rw [← Z.due i hi rs ss hrow hperm hsort] at Dd18
      obtain ⟨k6, N18, off6, s6, sd⟩ := grow4 (kx := (ad, W.listOf (List.toArray dits) dn) :: kq6) F16 N17 off5 k18 (fun p hp => by
        rcases List.mem_cons.mp hp with rfl | hp
        · exact ⟨g18, f18⟩
        · exact hkq6 p hp)
      have F18 := F16.keeps k18
      clear F16 N17 k18 f18 g18 hkq6 hperm hsort
      have s6b := mem_four_mono (a := (af, W.listOf (List.toArray fits) nf)) (b := (am, W.listOf (List.toArray mits) nm₀)) (c := (L + 1 + 1, ot11)) (d := (L + 1, oc8)) s6
      replace Dz16 := Dz16.mono s6b
      replace Dd18 := Dd18.mono fun p hp => sd p (.tail _ hp)
      replace tabx := tabx.mono s6
      replace hown : ∀ p ∈ own, p ∈ k6 := fun p hp => s6 p (hown p hp)
      replace hcl := hcl.mono s6
      replace hck := s6 _ hck
      replace hrk := s6 _ hrk
      replace hzk := s6 _ hzk
      have hdk := sd _ (.head _)
      walk_at "mw"
      have hok : ∀ d ∈ List.map dueDat (List.map (fun r => (r, valsOf (psC Ws fam i) (Txt.upper r))) rs), kqdOk 8 d = true := by
        refine dueDat_ok fun p hp => ?_
        obtain ⟨r, hr, rfl⟩ := List.mem_map.mp hp
        refine ⟨(hrw r hr).ok, fun v hv => ?_⟩
        obtain ⟨q, hq, rfl⟩ := List.mem_map.mp hv
        exact (hps q (List.mem_filter.mp hq).1).2.ok
      refine kqd_ne N18 (mem_t4 hzk) rfl rfl Dz16 (fun _ hp => hp) (mem_t4 hdk) rfl rfl Dd18 (fun _ hp => mem_t4 hp) hok hok (by walk_at "room") ?_
      rw [ne_self_false]
      clear Dz16 Dd18 hok hzk hdk sd s6 s6b
      have hw15 : Wd (Ws.getD 15 Str.empty) := Z.wd _ (getD_mem (by rw [Z.W16]; decide))
      walk_at "mw"
      refine mergeIf (b := (am, W.listOf (List.toArray mits) nm₀)) (c := (L + 1 + 1, ot11)) (d := (L + 1, oc8)) (kk := k6) (fun a' => a' = (af, W.listOf (List.toArray fits) nf)) F18 ?one ?two
      case one =>
        walk1
        walk_at "mw"
        · rename (i : Int) < 15 => hi15
          refine meth_get_all F18 X (tabx h18 fun p hp => (N18 p (mem_t4 hp)).1) ?_
          walk_at "mw"
          refine item_strsA (hlw.at fun o e => F18.keep _ o e) K0.2.2 (by decide) (by rw [Z.W16]; decide) (by decide) ?_
          intro t15
          walk_at "mw"
          refine wpAny_call (getall_spec (ps := psC Ws fam i) X T F18.keep ((Rm.deeper (d := 9) (u := 187) r).less (by decide) (by decide)) (tabx h18 fun p hp => (N18 p (mem_t4 hp)).1) hps hw15 hpl ?_)
          intro ag h19 tk19 gits gn k19 f19 g19 S19
          replace S19 : StrsAre gits (valsOf (psC Ws fam i) (Ws.getD 15 Str.empty)) := S19
          rw [Z.top i (by omega)] at S19
          obtain ⟨k7, N20, off7, s7, sg⟩ := grow4 (kx := [(ag, W.listOf (List.toArray gits) gn)]) F18 N18 off6 k19 (fun p hp => by rw [List.mem_singleton.mp hp]; exact ⟨g19, f19⟩)
          have F20 := F18.keeps k19
          have hgk := sg _ (.head _)
          clear F18 N18 sg k19 f19 g19
          walk_at "mw"
          rename News _ _ _ _ => N21
          rename Fr _ _ _ _ => F21
          refine ne_strs (ns := []) (ms := []) (News.isList N21 (.tail _ (mem_t4 hgk))) (News.isList N21 (.head _)) S19 .nil (fun _ h => nomatch h) (fun _ h => nomatch h) (by walk_at "room") ?_
          rw [ne_self_false]
          clear S19 hgk
          walk_at "mw"
          exact MergeEnd.intro rfl F21 (News.drop1 N21) off7 s7
        · exact MergeEnd.intro rfl F18 N18 off6 (fun _ h => h)
      case two =>
        rintro h20 tk20 _ k7 rfl F30 N30 off30 s7
        clear F18 N18 off6
        replace hcl := hcl.mono s7
        replace hck := s7 _ hck
        replace hrk := s7 _ hrk
        replace hown : ∀ p ∈ own, p ∈ k7 := fun p hp => s7 p (hown p hp)
        clear s7 tabx
        walk_at "mw"
        walk_at "compT"
        walk_at "mw"
        rename IsRange _ _ _ _ _ _ _ _ => hr31
        rename Fr _ _ _ _ => F31
        rename News _ _ _ _ => N31
        k_unfold
        try dsimp only
        refine LCt.CompSrcT.range (n := 4) rfl F31 N31 hr31 rfl rfl (Nat.le_of_ble_eq_true rfl) ?_
        intro g31
        refine comp_T (fun j zs nw => nw = _ ∧ IntsAre zs ((bitsTo i j).map Int.ofNat)) ⟨rfl, .nil⟩ ?_ ?_
        · rintro j zs _ v I oI C oC D m₂ h32 tk32 E' hj ⟨tv, rfl⟩ ⟨rfl, hz⟩ hC hx F32 N32 off ne
          clear F31 N31 hr31
          rw [Int.zero_add] at hx
          walk_at "mw"
          · rename Builtin.bitAnd _ _ = _ => hbit
            have hb2 := w_bit hbit
            refine LCg.CompEnd.intro F32 N32 _ (fun p hp => hp) off trivial ⟨rfl, ?_⟩
            rw [bitsTo_succ, if_pos hb2, List.map_append]
            exact ints_snoc hz _ _
          · rename ¬ Builtin.bitAnd _ _ = _ => hbit
            have hb2 := w_nobit hbit
            refine LCg.CompEnd.intro F32 N32 _ (fun p hp => hp) off trivial ⟨rfl, ?_⟩
            rw [bitsTo_succ, if_neg (by rw [hb2]; decide), List.append_nil]
            exact hz
        · rintro zs _ ⟨rfl, hz⟩
          clear F31 N31 hr31
          walk_at "mw"
          rename_i D33 h33 tk33 F33 N33 q33
          refine len_intsA (ys := (bitsTo i 4).map Int.ofNat) ⟨_, (N33 _ (.head _)).1, rfl, _, rfl⟩ hz (by rw [List.length_map]; exact Nat.lt_of_le_of_lt (popc_le i) (by decide)) ?_
          rw [List.length_map]
          have N34 := News.drop1 N33
          clear N33 q33 hz
          generalize hpc : (bitsTo i 4).length = pc
          have hpc4 : pc ≤ 4 := by rw [← hpc]; exact popc_le i
          walk_at "mw"
          rename_i h34 F34 N35
          refine wpAny_call (counts_spec (yss := rs.map fun r => valsOf (psC Ws fam i) (Txt.upper r)) (Gd.fr X T F34) ((Rm.deeper (d := 9) (u := 187) r).less (by decide) (by decide)) (News.isList N35 (mem_t4 hck)) (hcl.at fun p hp => (N35 p (mem_t4 hp)).1) (by rw [List.length_map]; omega) (fun zs hz => by obtain ⟨q, _, rfl⟩ := List.mem_map.mp hz; have := valsOf_len (psC Ws fam i) (Txt.upper q); omega) ?_)
          intro ac h36 tk36 cits cn cs k36 f36 g36 S36 srt36 mem36 hcl36
          obtain ⟨k8, N36, off36, s8, sc⟩ := grow4 (kx := [(ac, W.listOf (List.toArray cits) cn)]) F34 N35 off30 k36 (fun p hp => by rw [List.mem_singleton.mp hp]; exact ⟨g36, f36⟩)
          have F36 := F34.keeps k36
          have hak := sc _ (.head _)
          have K36 : IntsAre cits cs ∧ True := ⟨S36, trivial⟩
          replace hrk := s8 _ hrk
          replace hown : ∀ p ∈ own, p ∈ k8 := fun p hp => s8 p (hown p hp)
          clear F34 N35 S36 sc s8 k36 f36 g36 hcl hck off30
          walk_at "mw"
          rename_i h37 F37 N37
          have hpw : ∀ n : Nat, ((n : Int) = 2 ^ ((pc : Nat) : Int).toNat) ↔ n = 2 ^ popc i := fun n => by rw [pow_cast, show popc i = pc from hpc]; exact Int.ofNat_inj
          refine mergeIf (b := (am, W.listOf (List.toArray mits) nm₀)) (c := (L + 1 + 1, ot11)) (d := (L + 1, oc8)) (kk := k8) (fun a' => ∃ its n, a' = (af, W.listOf (List.toArray its) n) ∧ IntsAre its ((fullL fullB (i + 1)).map Int.ofNat)) F37 ?three ?four
          case three =>
            walk1
            walk_at "mw"
            refine len_strsA (l := rits) ⟨_, (N37 _ (mem_t4 hrk)).1, rfl, _, rfl⟩ K12.1 (Int.lt_trans (Int.ofNat_lt.mpr (show rs.length < 200 by omega)) (by decide)) ?_
            walk_at "mw"
            · rename (_ : Int) = _ => he
              refine app_led (adr := [af]) F37 N37 (fun p hp b hb => ?_) (.head _) (by rw [sizeLine_eq, List.size_toArray]; exact Nat.le_trans hIk.2 (by decide)) ?_
              · rw [List.mem_singleton.mp hb]
                simp only [List.mem_cons] at hp
                rcases hp with rfl | rfl | rfl | hp
                · exact n6.symm
                · exact n4.symm
                · exact n1.symm
                · exact off36 p hp _ (.head _)
              intro h38 F38 N38
              rw [List.push_toArray] at N38
              walk_at "mw"
              refine MergeEnd.intro ⟨_, _, rfl, ?_⟩ F38 N38 off36 (fun _ h => h)
              rw [fullL_succ, if_pos ((Z.full i hi rs hrow).mp ((hpw _).mp he)), List.map_append]
              exact ints_snoc hIk.1 _ _
            · rename ¬ (_ : Int) = _ => he
              refine MergeEnd.intro ⟨_, _, rfl, ?_⟩ F37 N37 off36 (fun _ h => h)
              rw [fullL_succ, if_neg (fun q => he ((hpw _).mpr ((Z.full i hi rs hrow).mpr q))), List.append_nil]
              exact hIk.1
          case four =>
            rintro h38 tk38 _ k9 ⟨fits', nf', rfl, hI'⟩ F38 N38 off38 s9
            replace hak := s9 _ hak
            replace hown : ∀ p ∈ own, p ∈ k9 := fun p hp => s9 p (hown p hp)
            have hI'k : IntsAre fits' ((fullL fullB (i + 1)).map Int.ofNat) ∧ True := ⟨hI', trivial⟩
            clear s9 hI' F37 N37 off36 hIk
            walk_at "mw"
            refine wpAny_call (bisI_spec (p := fun j => decide (cs.getD j 0 < Int.fdiv 16 (2 ^ ((pc : Nat) : Int).toNat))) (Gd.fr X T F38) ((Rm.deeper (d := 9) (u := 187) r).less (by decide) (by decide)) (News.isList N38 (mem_t4 hak)) K36.1 (by omega) (fun _ _ => rfl) (srt36.mono _) ?_)
            intro h40 tk40 tb b k40 hb1 hb2 hb3
            have F40 := F38.keeps k40
            have N40 := N38.grown k40
            clear F38 N38 k40
            have hfb : b < cs.length ↔ firmB i = true := by
              rw [← Z.firm i hi rs hrow]
              exact bis_lt mem36 (by rw [pow_cast, show popc i = pc from hpc]; exact fdiv16 _) hb1 hb2 hb3
            walk_at "mw"
            refine len_intsA (ys := cs) ⟨_, (N40 _ (mem_t4 hak)).1, rfl, _, rfl⟩ K36.1 (by omega) ?_
            walk_at "mw"
            · rename (_ : Int) < _ => hlt
              refine app_led (adr := [am]) F40 (fun p hp => N40 p (mem_sw hp)) (fun p hp q hq => ?_) (.head _) (by rw [sizeLine_eq, List.size_toArray]; exact Nat.le_trans hMk.2 (by decide)) ?_
              · rw [List.mem_singleton.mp hq]
                simp only [List.mem_cons] at hp
                rcases hp with rfl | rfl | rfl | hp
                · exact n6
                · exact n5.symm
                · exact n2.symm
                · exact off38 p hp _ (.tail _ (.head _))
              intro h41 F41 N41
              rw [List.push_toArray] at N41
              walk_at "mw"
              refine TurnEnd.next (nx := [(af, W.listOf (List.toArray fits') nf'), (am, W.listOf (List.toArray (mits ++ [.int (15 - (i : Int)) _])) (nm₀ + 1)), (L + 1 + 1, ot11), (L + 1, oc8)]) (kept := []) F41 N41 (fun q hq => mem_h4s hq) in_nil (fun q hq => mem_t4 (hown q hq)) rfl kept_nil ⟨_, _, _, _, oc8, _, ot11, _, rfl, d8, d11, rfl, hI'k.1, ?_, rfl, rfl, rfl, rfl, rfl⟩
              rw [firmL_map_succ firmB i hi, if_pos (hfb.mp (Int.ofNat_lt.mp hlt))]
              exact ints_snoc hMk.1 _ _
            · rename ¬ (_ : Int) < _ => hlt
              refine TurnEnd.next (nx := [(af, W.listOf (List.toArray fits') nf'), (am, W.listOf (List.toArray mits) nm₀), (L + 1 + 1, ot11), (L + 1, oc8)]) (kept := []) F40 N40 (fun q hq => mem_h4 hq) in_nil (fun q hq => mem_t4 (hown q hq)) rfl kept_nil ⟨_, _, _, _, oc8, _, ot11, _, rfl, d8, d11, rfl, hI'k.1, ?_, rfl, rfl, rfl, rfl, rfl⟩
              rw [firmL_map_succ firmB i hi, if_neg (fun q => hlt (Int.ofNat_lt.mpr (hfb.mpr q))), List.append_nil]
              exact hMk.1
  · rintro m₁ nx kp h tk ⟨fits, nf, mits, nm, oc, xv, ot, xt, rfl, hoc, hot, rfl, hI, hM, hm1, hm2, hm3, hm4, hm5⟩ hnx hoff F' N'
    clear F4 N4 hr4
    replace F' := fr_see5 F' hm1 hm2 hm3 hm4 hm5
    have hIk : IntsAre fits ((fullL fullB 16).map Int.ofNat) ∧ (fullL fullB 16).length ≤ 16 := ⟨hI, fullL_len fullB 16⟩
    have hMk : IntsAre mits ((firmL firmB 16).map Int.ofNat) ∧ (firmL firmB 16).length ≤ 16 := ⟨hM, firmL_len firmB 16⟩
    clear hI hM hoff hnx
    have z1 := Z.le1
    have z2 := Z.le2
    have z3 := Z.eqs
    have z4 := Z.sorts
    generalize hfm : firmL firmB 16 = fm at hMk z1 z3 z4
    generalize hfu : fullL fullB 16 = fu at hIk z2 z3
    have lenM : ∀ {h : Heap} {tk : Nat} {Q : Value → Shared → Prop} {E : Value → Shared → Prop} {A : Around}, h.get? am = some (W.listOf (List.toArray mits) nm) → Q (.int fm.length (tk + 1)) { s with heap := h, toks := tk + 1 + 1 } → wpAny (model PySem.Challenge.rw_rw0095_01.row.prog w) A (call (.builtin "len") [.ref am]) Q E { s with heap := h, toks := tk } := by
      intro h tk Q E A hg hq
      refine len_intsA (s := { s with heap := h, toks := tk }) (ys := fm.map Int.ofNat) ⟨_, hg, rfl, _, rfl⟩ hMk.1 (by rw [List.length_map]; omega) ?_
      rw [List.length_map]
      exact hq
    have lenU : ∀ {h : Heap} {tk : Nat} {Q : Value → Shared → Prop} {E : Value → Shared → Prop} {A : Around}, h.get? af = some (W.listOf (List.toArray fits) nf) → Q (.int fu.length (tk + 1)) { s with heap := h, toks := tk + 1 + 1 } → wpAny (model PySem.Challenge.rw_rw0095_01.row.prog w) A (call (.builtin "len") [.ref af]) Q E { s with heap := h, toks := tk } := by
      intro h tk Q E A hg hq
      refine len_intsA (s := { s with heap := h, toks := tk }) (ys := fu.map Int.ofNat) ⟨_, hg, rfl, _, rfl⟩ hIk.1 (by rw [List.length_map]; omega) ?_
      rw [List.length_map]
      exact hq
    have hz5 := Z.len
    have lenF : ∀ {h : Heap} {tk : Nat} {Q : Value → Shared → Prop} {E : Value → Shared → Prop} {A : Around}, (∀ b o, s.heap.get? b = some o → h.get? b = some o) → Q (.int fam.length (tk + 1)) { s with heap := h, toks := tk + 1 + 1 } → wpAny (model PySem.Challenge.rw_rw0095_01.row.prog w) A (call (.builtin "len") [.ref lf]) Q E { s with heap := h, toks := tk } := by
      intro h tk Q E A hg hq
      refine len_intsA (s := { s with heap := h, toks := tk }) (ys := fam.map Int.ofNat) (hlf.at fun o e => hg _ o e) K0.1 (by rw [List.length_map]; omega) ?_
      rw [List.length_map]
      exact hq
    walk_at "mw"
    refine lenM (N' _ (.tail _ (.head _))).1 ?_
    walk_at "mw"
    refine lenF F'.keep ?_
    walk_at "mw"
    refine lenU (N' _ (.head _)).1 ?_
    walk_at "mw"
    refine lenM (N' _ (.tail _ (.head _))).1 ?_
    walk_at "mw"
    refine lenF F'.keep ?_
    walk_at "mw"
    refine lenU (N' _ (.head _)).1 ?_
    walk_at "mw"
    refine lenF F'.keep ?_
    walk_at "mw"
    · refine kso_sorted F' N' ⟨_, (N' _ (.tail _ (.head _))).1, rfl, _, rfl⟩ hMk.1 (by rw [List.length_map]; omega) ?_
      intro D9 vs9 ns9 c9 h9 F9 N9 lt9 I9 len9 perm9 pair9 _
      obtain rfl := z4 ns9 perm9 pair9
      have I9k : IntsAre vs9 ((firmTo fam 16).map Int.ofNat) ∧ True := ⟨I9, trivial⟩
      clear F' N' I9 len9 perm9 pair9 lt9
      walk_at "mw"
      refine wpAny_call (firm_spec (Gd.fr X T F9) ((Rm.deeper (d := 9) (u := 187) r).less (by decide) (by decide)) (hlf.at fun o e => F9.keep _ o e) K0.1 Z.len ?_)
      intro a10 h10 tk10 its10 n10 k10 f10 g10 I10
      have F10 := F9.keeps k10
      have N10 := N9.grown k10
      walk_at "mw"
      refine ke_eq_ints ⟨_, (N10 _ (.head _)).1, rfl, _, rfl⟩ ⟨_, g10, rfl, _, rfl⟩ I9k.1 (by assumption) (by walk_at "room") ?_
      rw [eq_self_true]
      walk_at "mw"
      exact hR _ _ F10.keep
    · rename _ = false => he
      rw [eqb_same z3] at he
      cases he

end

section
open PySem PySem.W PySem.Calls PyProof.Rows
variable {w : World} {mean : ExcName → Option Value} {mg mb : Str → Option Value}
local macro_rules | `(tactic| walk_at "mstop") => `(tactic| (with_reducible show wpAny _ _ (storeX _ _ _) _ _ _))

set_option maxHeartbeats 4000000 in
theorem law_spec {A : Around} {s : Shared} {R : Result → Shared → Prop} {l : Addr} {vs : List Value} {ns : List Int} {a b c d : Int} {rest : List Int} {ms fam : List Nat} {Ws : List Str} {fullB firmB : Nat → Bool} (G : Gd w mean mg mb s.heap) (r : Rm A 12 210)
   (hl : s.heap.IsList l vs.toArray) (hi : IntsAre vs ns) (hn : ns.length ≤ 63)
   (hnum : numF ns = a :: b :: c :: d :: rest) (hnl : (numF ns).length ≤ 64) (hpl : (plcF a b c d).length = 4) (hpb : ∀ p ∈ plcF a b c d, 0 ≤ p ∧ p < 16)
   (hms : mskF (plcF a b c d) = ms.map Int.ofNat) (hml : ms.length = 16) (hmb : ∀ m ∈ ms, m < 65536)
   (hW1 : ms.map (fun k => wordsOf (namesTo k 16)) = Ws) (hW2 : (List.range 16).map (fun k => wordsOf (wordsL k (plcF a b c d) 4)) = Ws)
   (hfam : famF (numF ns) = fam.map Int.ofNat) (Z : Fine Ws fam fullB firmB)
   (hR : ∀ h' tk, s.heap.StaysIn h' → R (.ok (.ret (.bool true))) { s with heap := h', toks := tk })
   : codeAny (model PySem.Challenge.rw_rw0095_01.row.prog w) A (.call (.ref 262) ⟨[.ref l], []⟩) R s := by
  obtain ⟨X, T⟩ := G
  obtain ⟨Ah, Ad, Af, Ag, Au⟩ := A
  obtain rfl : Ah = none := r.hd
  refine' enterC (binds := [(Str.ofString "script", .ref l)]) X T.nolimit ?hr ?k6 ?k7 ?k9 ?kB ?kn ?_ ?c6 ?c7 ?c8
  case hr => exact Nat.lt_of_le_of_lt (Nat.le_add_right _ _) r.dp
  case k6 => k_dflt k_is
  case k7 => k_dflt k_is
  case k9 => exact BindsTo.of_eq rfl
  case kB => rfl
  case kn => decide
  case c6 => rfl
  case c7 => rfl
  case c8 => rfl
  intro L h₁ tk₁ cells F N CL
  w_top on
  obtain ⟨o1, rfl, d1⟩ := CellsAre.one CL
  replace d1 : o1.data = .cell none := d1
  clear CL
  have K0 : IntsAre vs ns ∧ True := ⟨hi, trivial⟩
  clear hi
  walk_at "mw"
  rename Fr _ _ _ _ => F2
  rename News _ _ _ _ => N2
  refine wpAny_call (num_spec (Gd.fr X T F2) ((Rm.deeper (d := 11) (u := 207) r).less (by decide) (by decide)) (hl.at fun o e => F2.keep _ o e) K0.1 (by omega) ?_)
  intro an h3 tk3 nits nn k3 f3 g3 I3
  have N3 := News.more F2 N2 k3 f3 g3
  have F3 := F2.keeps k3
  have K3 : IntsAre nits.toList (numF ns) ∧ True := ⟨I3, trivial⟩
  clear F2 N2 k3 f3 g3 I3
  walk_at "mw"
  rename Fr _ _ _ _ => F4
  rename News _ _ _ _ => N4
  refine wpAny_call (plc_spec (vs := nits.toList) (Gd.fr X T F4) ((Rm.deeper (d := 11) (u := 207) r).less (by decide) (by decide)) (News.isList N4 (.head _)) K3.1 hnum hnl ?_)
  intro ap h5 tk5 pits pn k5 f5 g5 I5
  have N5 := News.more F4 N4 k5 f5 g5
  have F5 := F4.keeps k5
  have K5 : IntsAre pits.toList (plcF a b c d) ∧ True := ⟨I5, trivial⟩
  have hpn : ap ≠ L + 1 := ne_of_new f5 (N4 _ (.tail _ (.head _))).1
  clear F4 N4 k5 f5 g5 I5
  walk_at "mw"
  rename_i h6 o6 F6 N6 d6
  dsimp only [List.cons_append, List.nil_append] at N6
  refine wpAny_call (msk_spec (vs := pits.toList) (Gd.fr X T F6) ((Rm.deeper (d := 11) (u := 207) r).less (by decide) (by decide)) (News.isList N6 (.head _)) K5.1 (by omega) hpb ?_)
  intro ak h7 tk7 kits kn k7 f7 g7 I7
  have N7 := News.more F6 N6 k7 f7 g7
  have F7 := F6.keeps k7
  rw [hms] at I7
  have K7 : IntsAre kits.toList (ms.map Int.ofNat) ∧ True := ⟨I7, trivial⟩
  clear F6 N6 k7 f7 g7 I7
  walk_at "mw"
  walk_at "acompU"
  walk_at "mw"
  rename_i h8 F8 N8
  k_unfold
  try dsimp only
  have hkl : kits.toList.length = 16 := by rw [K7.1.length, List.length_map, hml]
  have hkat : ∀ (j : Nat) (v : Value), kits[j]? = some v → ∃ k t, v = .int (k : Nat) t ∧ ms[j]? = some k := fun j v hj => by
    obtain ⟨x, t, rfl, e⟩ := K7.1.at j v (by rw [Array.getElem?_toList]; exact hj)
    rw [List.getElem?_map] at e
    obtain ⟨k, hk, rfl⟩ := Option.map_eq_some_iff.mp e
    exact ⟨k, t, rfl, hk⟩
  refine LCg.CompSrc.ledger rfl F8 N8 (.head _) (by rw [sizeLine_eq, ← Array.length_toList, hkl]; decide) ?_
  intro g9
  refine comp_U (fun j ys nw => nw = _ ∧ StrsAre ys ((ms.take j).map fun k => wordsOf (namesTo k 16))) ⟨rfl, .nil⟩ ?_ ?_
  · rintro j ys _ v I oI C oC D m₂ h tk E' hj hv ⟨rfl, hy⟩ hC hx F9 N9 off ne
    clear F8 N8
    obtain ⟨k, tv, rfl, hk⟩ := hkat j v hv
    walk_at "mw"
    refine wpAny_call (pretty_spec (Gd.fr X T F9) ((Rm.deeper (d := 11) (u := 207) r).less (by decide) (by decide)) (hmb _ (List.mem_of_getElem? hk)) ?_)
    intro h10 tk10 t10 k10
    have F10 := F9.keeps k10
    have N10 := N9.grown k10
    clear F9 N9 k10
    walk_at "mw"
    refine LCg.CompEnd.intro F10 N10 _ (fun p hp => hp) off (.inr ⟨_, .head _, rfl, _, rfl⟩) ⟨rfl, ?_⟩
    rw [take_some hk, List.map_append]
    exact strs_snoc hy _ _
  · rintro ys _ ⟨rfl, hy⟩
    clear F8 N8
    rw [← Array.length_toList, hkl, List.take_of_length_le (Nat.le_of_eq hml), hW1] at hy
    have K9 : StrsAre ys Ws ∧ True := ⟨hy, trivial⟩
    clear hy
    walk_at "mw"
    walk_at "acompU"
    walk_at "mw"
    rename IsRange _ _ _ _ _ _ _ _ => hr11
    rename Fr _ _ _ _ => F11
    rename News _ _ _ _ => N11
    k_unfold
    try dsimp only
    refine LCg.CompSrc.range (n := 16) rfl F11 N11 hr11 rfl rfl (Nat.le_of_ble_eq_true rfl) ?_
    intro g12
    refine comp_U (fun j zs nw => nw = _ ∧ StrsAre zs ((List.range j).map fun k => wordsOf (wordsL k (plcF a b c d) 4))) ⟨rfl, .nil⟩ ?_ ?_
    · rintro j zs _ v I oI C oC D m₂ h tk E' hj ⟨tv, rfl⟩ ⟨rfl, hz⟩ hC hx F12 N12 off ne
      clear F11 N11 hr11
      rw [Int.zero_add] at hx
      walk_at "mw"
      refine wpAny_call (words_spec (vs := pits.toList) (Gd.fr X T F12) ((Rm.deeper (d := 11) (u := 207) r).less (by decide) (by decide)) (News.isList N12 (.tail _ (.tail _ (.tail _ (.tail _ (.tail _ (.head _))))))) K5.1 hpl hpb hj ?_)
      intro h13 tk13 t13 k13
      have F13 := F12.keeps k13
      have N13 := N12.grown k13
      clear F12 N12 k13
      walk_at "mw"
      refine LCg.CompEnd.intro F13 N13 _ (fun p hp => hp) off trivial ⟨rfl, ?_⟩
      rw [List.range_succ, List.map_append]
      exact strs_snoc hz _ _
    · rintro zs _ ⟨rfl, hz⟩
      clear F11 N11 hr11
      rw [hW2] at hz
      have K12 : StrsAre zs Ws ∧ True := ⟨hz, trivial⟩
      clear hz
      walk_at "mw"
      rename News _ _ _ _ => N14
      rename Fr _ _ _ _ => F14
      have hok : ∀ x ∈ Ws, PyData.strOk x = true := fun x hx => (Z.wd x hx).ok
      refine eq_strs (News.isList N14 (.tail _ (.head _))) (News.isList N14 (.head _)) K9.1 K12.1 hok hok (by walk_at "room") ?_
      rw [eq_self_true]
      walk_at "mw"
      refine wpAny_call (fam_spec (vs := nits.toList) (Gd.fr X T F14) ((Rm.deeper (d := 11) (u := 207) r).less (by decide) (by decide)) (News.isList N14 (.tail _ (.tail _ (.tail _ (.tail _ (.head _)))))) K3.1 hnl ?_)
      intro af h15 tk15 fits fn k15 f15 g15 I15
      rw [hfam] at I15
      have N15 := News.more F14 N14 k15 f15 g15
      have F15 := F14.keeps k15
      have K15 : IntsAre fits.toList (fam.map Int.ofNat) ∧ True := ⟨I15, trivial⟩
      clear F14 N14 k15 f15 g15 I15
      walk_at "mw"
      refine wpAny_call (holds_spec (fvs := fits.toList) (Gd.fr X T F15) ((Rm.deeper (d := 11) (u := 207) r).less (by decide) (by decide)) Z (News.isList N15 (.head _)) K15.1 (News.isList N15 (.tail _ (.tail _ (.head _)))) K9.1 (News.isList N15 (.tail _ (.head _))) K12.1 ?_)
      intro h16 tk16 k16
      have F16 := F15.keeps k16
      clear F15 N15 k16
      walk_at "mw"
      exact hR _ _ F16.keep

end

section
open PySem PySem.W PySem.Calls PyProof.Rows
variable {w : World} {mean : ExcName → Option Value} {mg mb : Str → Option Value}
theorem fa_eq {mg : Str → Option Value} {n : Str} {fa b : Addr} (h : mg n = some (.ref fa)) (e : mg n = some (.ref b)) : fa = b := by
  rw [h] at e
  injection e with e
  injection e
set_option maxHeartbeats 4000000 in
theorem link (law_ok : ∀ (ns : List Int), ns.length ≤ 63 → ∃ a b c d rest ms fam Ws fullB firmB, numF ns = a :: b :: c :: d :: rest ∧ (numF ns).length ≤ 64 ∧ (plcF a b c d).length = 4 ∧ (∀ p ∈ plcF a b c d, 0 ≤ p ∧ p < 16) ∧
    mskF (plcF a b c d) = List.map Int.ofNat ms ∧ ms.length = 16 ∧ (∀ m ∈ ms, m < 65536) ∧ ms.map (fun k => wordsOf (namesTo k 16)) = Ws ∧ (List.range 16).map (fun k => wordsOf (wordsL k (plcF a b c d) 4)) = Ws ∧ famF (numF ns) = fam.map Int.ofNat ∧ Fine Ws fam fullB firmB) :
    PySem.Challenge.rw_rw0095_01.Holds := by
  refine hdB ?_
  unfold walkP
  intro w s₀ s₁ mg mb G Y fa o pm cd doc dV kV ho hd' hcd hD hmg hg args vals as hpre hlay hrd hwl hlo
  have KX := kIn_of Y
  have X := (Ground.X G).1
  refine Ground.open G ?_
  intro T B D TE TW
  wrow_args hpre hlay hrd hwl hlo
  all_goals (refine enter_call ?_)
  have e := mg_of KX T.g (n := Str.ofString "law") (v := .ref 262) (by k_is)
  obtain rfl := fa_eq hmg e
  rename Heap.IsList _ _ _ => hL
  rename IntsAre _ _ => hI
  rename ¬ _ < _ => hc
  rename List Int => ns
  have hn : ns.length ≤ 63 := by omega
  obtain ⟨a, b, c, d, rest, ms, fam, Ws, fullB, firmB, q1, q2, q3, q4, q5, q6, q7, q8, q9, q10, q11⟩ := law_ok ns hn
  refine law_spec ⟨KX, T⟩ ⟨rfl, by decide, by decide⟩ hL hI hn q1 q2 q3 q4 q5 q6 q7 q8 q9 q10 q11 ?_
  intro h' tk k
  refine GoodW.toG ⟨.inl ⟨_, .bool true, [], rfl, fun _ => rfl, .bool true, ?post, fun _ => ⟨List.nodup_nil, fun _ h => nomatch h⟩⟩, k, rfl, hg⟩
  case post => with_unfolding_all rfl

end

section
open PySem PySem.W PySem.Calls PyProof.Rows
/-- texts joined, as lists of signs -/
noncomputable def jl : List (List Nat) → List Nat
  | [] => []
  | [x] => x
  | x :: y :: r => x ++ 44 :: 32 :: jl (y :: r)
theorem sep_cps : (Str.ofString ", ").cps.toList = [44, 32] := by decide +kernel
theorem append_cps (x y : Str) : (x ++ y).cps.toList = x.cps.toList ++ y.cps.toList := by
  show (x.cps ++ y.cps).toList = _
  rw [Array.toList_append]
theorem join_cps : ∀ l : List Str, (Str.join (Str.ofString ", ") l).cps.toList = jl (l.map fun x => x.cps.toList)
  | [] => rfl
  | [x] => rfl
  | x :: y :: r => by
    have ih := join_cps (y :: r)
    rw [show Str.join (Str.ofString ", ") (x :: y :: r) = x ++ Str.ofString ", " ++ Str.join (Str.ofString ", ") (y :: r) from rfl, append_cps, append_cps, ih, sep_cps, List.append_assoc]
    rfl
theorem txt_join_cps (l : List Str) : (Txt.join (Str.ofString ", ") l).cps.toList = jl (l.map fun x => x.cps.toList) := by
  unfold Txt.join
  rw [StrLaws.glued_eq_join, join_cps]
theorem split_at {a : Nat} : ∀ {x y s t : List Nat}, a ∉ x → a ∉ y → x ++ a :: s = y ++ a :: t → x = y ∧ s = t
  | [], [], s, t, _, _, e => by
    simp only [List.nil_append, List.cons.injEq, true_and] at e
    exact ⟨rfl, e⟩
  | [], z :: y, s, t, _, hy, e => by
    simp only [List.nil_append, List.cons_append, List.cons.injEq] at e
    exact absurd (e.1 ▸ List.mem_cons_self) hy
  | z :: x, [], s, t, hx, _, e => by
    simp only [List.nil_append, List.cons_append, List.cons.injEq] at e
    exact absurd (e.1 ▸ List.mem_cons_self) hx
  | z :: x, z' :: y, s, t, hx, hy, e => by
    simp only [List.cons_append, List.cons.injEq] at e
    obtain ⟨h1, h2⟩ := split_at (fun q => hx (List.mem_cons_of_mem _ q)) (fun q => hy (List.mem_cons_of_mem _ q)) e.2
    exact ⟨by rw [e.1, h1], h2⟩
theorem jl_inj : ∀ {l m : List (List Nat)}, l ≠ [] → m ≠ [] → (∀ x ∈ l, 44 ∉ x) → (∀ x ∈ m, 44 ∉ x) → jl l = jl m → l = m
  | [], _, h, _, _, _, _ => (h rfl).elim
  | _ :: _, [], _, h, _, _, _ => (h rfl).elim
  | [x], [y], _, _, _, _, e => by
    have e : x = y := e
    rw [e]
  | [x], y :: z :: r, _, _, h, _, e => by
    have e : x = y ++ 44 :: 32 :: jl (z :: r) := e
    exact absurd (by rw [e]; simp) (h x (.head _))
  | y :: z :: r, [x], _, _, _, h, e => by
    have e : y ++ 44 :: 32 :: jl (z :: r) = x := e
    exact absurd (by rw [← e]; simp) (h x (.head _))
  | x :: x' :: r, y :: y' :: s, _, _, h, h2, e => by
    have e : x ++ 44 :: 32 :: jl (x' :: r) = y ++ 44 :: 32 :: jl (y' :: s) := e
    obtain ⟨e1, e2⟩ := split_at (h x (.head _)) (h2 y (.head _)) e
    have e3 := jl_inj (l := x' :: r) (m := y' :: s) (by simp) (by simp) (fun z hz => h z (.tail _ hz)) (fun z hz => h2 z (.tail _ hz)) (List.cons.inj e2).2
    rw [e1, e3]
theorem jl_map (g : Nat → Nat) (h1 : g 44 = 44) (h2 : g 32 = 32) : ∀ l : List (List Nat), (jl l).map g = jl (l.map fun x => x.map g)
  | [] => rfl
  | [x] => rfl
  | x :: y :: r => by
    have ih := jl_map g h1 h2 (y :: r)
    show (x ++ 44 :: 32 :: jl (y :: r)).map g = x.map g ++ 44 :: 32 :: jl ((y :: r).map fun x => x.map g)
    rw [List.map_append, List.map_cons, List.map_cons, h1, h2, ih]
theorem jl_mem {c : Nat} : ∀ {l : List (List Nat)}, c ∈ jl l → c = 44 ∨ c = 32 ∨ ∃ x ∈ l, c ∈ x
  | [], h => by simp [jl] at h
  | [x], h => .inr (.inr ⟨x, .head _, h⟩)
  | x :: y :: r, h => by
    have h : c ∈ x ++ 44 :: 32 :: jl (y :: r) := h
    rcases List.mem_append.mp h with h | h
    · exact .inr (.inr ⟨x, .head _, h⟩)
    · rcases List.mem_cons.mp h with h | h
      · exact .inl h
      · rcases List.mem_cons.mp h with h | h
        · exact .inr (.inl h)
        · rcases jl_mem h with h | h | ⟨z, hz, h⟩
          · exact .inl h
          · exact .inr (.inl h)
          · exact .inr (.inr ⟨z, .tail _ hz, h⟩)
theorem plain_of {x : Array Nat} (h : ∀ c ∈ x.toList, 32 ≤ c ∧ c < 127) : plainTxt x := by
  intro j hj
  rw [Array.getD_eq_getD_getElem?, Array.getElem?_eq_getElem hj]
  exact h _ (by rw [Array.mem_toList_iff]; exact Array.getElem_mem hj)
/-- the words of a list of flags, at least one -/
noncomputable def nameZ (l : List Str) : List Str := if l = [] then [Str.ofString "0x0"] else l
theorem wordsOf_cps (l : List Str) : (wordsOf l).cps.toList = jl ((nameZ l).map fun x => x.cps.toList) := by
  unfold wordsOf nameZ
  by_cases h : l = []
  · rw [if_pos h, if_pos h]; rfl
  · rw [if_neg h, if_neg h, txt_join_cps]
theorem flag_plain : ∀ j, j < 16 → ∀ c ∈ (flagName j).cps.toList, 32 ≤ c ∧ c < 127 ∧ c ≠ 44 ∧ lowA c ≠ 44 := by decide +kernel
theorem zero_plain : ∀ c ∈ (Str.ofString "0x0").cps.toList, 32 ≤ c ∧ c < 127 ∧ c ≠ 44 ∧ lowA c ≠ 44 := by decide +kernel
theorem flag_inj : ∀ j, j < 16 → ∀ k, k < 16 → (flagName j).cps.toList.map lowA = (flagName k).cps.toList.map lowA → j = k := by decide +kernel
theorem flag_zero : ∀ j, j < 16 → (flagName j).cps.toList.map lowA ≠ (Str.ofString "0x0").cps.toList.map lowA := by decide +kernel
theorem bits_inj : ∀ c, c < 16 → ∀ d, d < 16 → ((List.range 4).filter fun k => c.testBit k) = ((List.range 4).filter fun k => d.testBit k) → c = d := by decide +kernel
theorem map_inj_on {α β : Type} {f : α → β} : ∀ {l m : List α}, (∀ x ∈ l, ∀ y ∈ m, f x = f y → x = y) → l.map f = m.map f → l = m
  | [], [], _, _ => rfl
  | [], _ :: _, _, e => by simp at e
  | _ :: _, [], _, e => by simp at e
  | x :: l, y :: m, h, e => by
    rw [List.map_cons, List.map_cons, List.cons.injEq] at e
    rw [h x (.head _) y (.head _) e.1, map_inj_on (fun a ha b hb => h a (.tail _ ha) b (.tail _ hb)) e.2]
/-- four places -/
structure Plc (ps : List Int) : Prop where
  lt : ∀ k, k < 4 → (ps.getD k 0).toNat < 16
  inj : ∀ k, k < 4 → ∀ j, j < 4 → (ps.getD k 0).toNat = (ps.getD j 0).toNat → k = j
section
variable {ps : List Int} (P : Plc ps)
theorem wordsL_mem {c : Nat} {x : Str} (P : Plc ps) (h : x ∈ wordsL c ps 4) : ∃ j, j < 16 ∧ x = flagName j := by
  unfold wordsL at h
  obtain ⟨k, hk, rfl⟩ := List.mem_map.mp h
  exact ⟨_, P.lt k (List.mem_range.mp (List.mem_filter.mp hk).1), rfl⟩
theorem nameZ_plain {c : Nat} (P : Plc ps) : ∀ x ∈ nameZ (wordsL c ps 4), ∀ k ∈ x.cps.toList, 32 ≤ k ∧ k < 127 ∧ k ≠ 44 ∧ lowA k ≠ 44 := by
  intro x hx
  unfold nameZ at hx
  by_cases h : wordsL c ps 4 = []
  · rw [if_pos h] at hx
    rw [List.mem_singleton.mp hx]
    exact zero_plain
  · rw [if_neg h] at hx
    obtain ⟨j, hj, rfl⟩ := wordsL_mem P hx
    exact flag_plain j hj
theorem wordsL_len (c : Nat) : (wordsL c ps 4).length ≤ 4 := by
  unfold wordsL
  rw [List.length_map]
  exact range_filter_len _ 4
theorem words_wd (P : Plc ps) (c : Nat) : Wd (wordsOf (wordsL c ps 4)) := by
  constructor
  · apply plain_of
    intro k hk
    rw [wordsOf_cps] at hk
    rcases jl_mem hk with rfl | rfl | ⟨x, hx, h⟩
    · decide
    · decide
    · obtain ⟨y, hy, rfl⟩ := List.mem_map.mp hx
      have := nameZ_plain P y hy k h
      exact ⟨this.1, this.2.1⟩
  · unfold wordsOf
    by_cases h : wordsL c ps 4 = []
    · rw [if_pos h]; decide +kernel
    · rw [if_neg h]
      unfold Txt.join
      rw [StrLaws.glued_eq_join]
      refine Nat.le_trans (StrLaws.join_length_le _ _) ?_
      have h1 := sum_le (l := wordsL c ps 4) (B := 18) (by
        intro y hy
        obtain ⟨j, _, rfl⟩ := wordsL_mem P hy
        exact flagName_len j)
      have h2 := wordsL_len (ps := ps) c
      have h3 : (Str.ofString ", ").length = 2 := by decide +kernel
      rw [h3]
      omega
theorem low_cps (P : Plc ps) (c : Nat) : (Txt.lower (wordsOf (wordsL c ps 4))).cps.toList = jl ((nameZ (wordsL c ps 4)).map fun x => x.cps.toList.map lowA) := by
  rw [lower_plain (words_wd P c).plain]
  show ((wordsOf (wordsL c ps 4)).cps.map lowA).toList = _
  rw [Array.toList_map, wordsOf_cps, jl_map lowA (by decide) (by decide), List.map_map]
  rfl
theorem words_inj (P : Plc ps) {c d : Nat} (hc : c < 16) (hd : d < 16) (e : Txt.lower (wordsOf (wordsL c ps 4)) = Txt.lower (wordsOf (wordsL d ps 4))) : c = d := by
  have e1 : jl ((nameZ (wordsL c ps 4)).map fun x => x.cps.toList.map lowA) = jl ((nameZ (wordsL d ps 4)).map fun x => x.cps.toList.map lowA) := by
    rw [← low_cps P, ← low_cps P, e]
  have ne : ∀ l : List Str, (nameZ l).map (fun x => x.cps.toList.map lowA) ≠ [] := by
    intro l q
    have q := List.map_eq_nil_iff.mp q
    unfold nameZ at q
    by_cases h : l = []
    · rw [if_pos h] at q; cases q
    · rw [if_neg h] at q; exact h q
  have no : ∀ c : Nat, ∀ y ∈ (nameZ (wordsL c ps 4)).map (fun x => x.cps.toList.map lowA), 44 ∉ y := by
    intro c y hy q
    obtain ⟨x, hx, rfl⟩ := List.mem_map.mp hy
    obtain ⟨k, hk, e⟩ := List.mem_map.mp q
    exact (nameZ_plain P x hx k hk).2.2.2 e
  have e2 := jl_inj (ne _) (ne _) (no c) (no d) e1
  apply bits_inj c hc d hd
  have single : ∀ c : Nat, ∀ x ∈ wordsL c ps 4, x.cps.toList.map lowA ≠ (Str.ofString "0x0").cps.toList.map lowA := by
    intro c x hx
    obtain ⟨j, hj, rfl⟩ := wordsL_mem P hx
    exact flag_zero j hj
  have nilb : ∀ c : Nat, wordsL c ps 4 = [] → ((List.range 4).filter fun k => c.testBit k) = [] := by
    intro c h
    unfold wordsL at h
    exact List.map_eq_nil_iff.mp h
  by_cases h1 : wordsL c ps 4 = []
  · by_cases h2 : wordsL d ps 4 = []
    · rw [nilb c h1, nilb d h2]
    · exfalso
      unfold nameZ at e2
      rw [if_pos h1, if_neg h2] at e2
      obtain ⟨x, r, q⟩ := List.exists_cons_of_ne_nil h2
      rw [q, List.map_cons, List.map_cons, List.cons.injEq] at e2
      exact single d x (by rw [q]; exact .head _) e2.1.symm
  · by_cases h2 : wordsL d ps 4 = []
    · exfalso
      unfold nameZ at e2
      rw [if_neg h1, if_pos h2] at e2
      obtain ⟨x, r, q⟩ := List.exists_cons_of_ne_nil h1
      rw [q, List.map_cons, List.map_cons, List.cons.injEq] at e2
      exact single c x (by rw [q]; exact .head _) e2.1
    · unfold nameZ at e2
      rw [if_neg h1, if_neg h2] at e2
      unfold wordsL at e2
      rw [List.map_map, List.map_map] at e2
      refine map_inj_on ?_ e2
      intro x hx y hy q
      have hx := List.mem_range.mp (List.mem_filter.mp hx).1
      have hy := List.mem_range.mp (List.mem_filter.mp hy).1
      exact P.inj x hx y hy (flag_inj _ (P.lt x hx) _ (P.lt y hy) q)
end
end

section
open PySem PySem.W PySem.Calls PyProof.Rows
theorem srt_nodup {l : List Str} (h : Srt l) : l.Nodup := List.Pairwise.imp (fun {a b} q e => by subst e; rw [sLt_irrefl] at q; cases q) h
theorem srt_eq {l m : List Str} (h : Srt l) (h2 : Srt m) (e : ∀ y, y ∈ l ↔ y ∈ m) : l = m := by
  refine List.Perm.eq_of_pairwise (le := fun a b => sLt a b = true) ?_ h h2 ((List.perm_ext_iff_of_nodup (srt_nodup h) (srt_nodup h2)).mpr e)
  intro a b _ _ q q2
  have := sLt_trans q q2
  rw [sLt_irrefl] at this
  cases this
theorem sLt_cps (x y : Str) : Spec.ltCps x.cps.toList y.cps.toList = sLt x y := ltCps_eq _ _
theorem nlt_trans {a b c : Str} (h : sLt b a = false) (h2 : sLt c b = false) : sLt c a = false := by
  cases q : sLt c a with
  | false => rfl
  | true =>
    exfalso
    cases q2 : sLt a b with
    | true => have := sLt_trans q q2; rw [h2] at this; cases this
    | false =>
      have := sLt_total q2 h
      subst this
      rw [h2] at q; cases q
theorem rising_pw : ∀ (l : List Str) (p : Str), risingS p l = true → (p :: l).Pairwise fun a b => sLt b a = false
  | [], p, _ => by simp
  | x :: r, p, h => by
    unfold risingS at h
    rw [Bool.and_eq_true, Bool.not_eq_true', sLt_cps] at h
    have ih := rising_pw r x h.2
    refine List.pairwise_cons.mpr ⟨?_, ih⟩
    intro y hy
    rcases List.mem_cons.mp hy with rfl | hy
    · exact h.1
    · exact nlt_trans h.1 ((List.pairwise_cons.mp ih).1 y hy)
theorem sorted_pw {l : List Str} (h : sortedS l = true) : l.Pairwise fun a b => sLt b a = false := by
  cases l with
  | nil => exact List.Pairwise.nil
  | cons x r => exact rising_pw r x h
theorem sorted_srt {l : List Str} (h : sortedS l = true) (nd : l.Nodup) : Srt l := by
  have := (sorted_pw h).and nd
  refine List.Pairwise.imp ?_ this
  intro a b q
  cases q2 : sLt a b with
  | true => rfl
  | false => exact (q.2 (sLt_total q2 q.1)).elim
theorem dueOf_filter (W : List Str) (fam : List Nat) (c : Nat) : ∀ nms : List Str, dueOf W fam c nms = (nms.filter fun nm => decide (dvals W fam c nm ≠ [])).map fun nm => (nm, dvals W fam c nm)
  | [] => rfl
  | nm :: r => by
    have ih := dueOf_filter W fam c r
    unfold dueOf at ih ⊢
    by_cases h : dvals W fam c nm = []
    · rw [List.filterMap_cons_none (by rw [if_pos h]), List.filter_cons_of_neg (by simp [h]), ih]
    · rw [List.filterMap_cons_some (b := (nm, dvals W fam c nm)) (by rw [if_neg h]), List.filter_cons_of_pos (by simp [h]), List.map_cons, ih]
theorem fam_range (fam : List Nat) : fam = (List.range fam.length).map fun k => fam.getD k 0 := by
  apply List.ext_getElem
  · simp
  · intro i h1 h2
    simp [List.getD, h1]
theorem foldl_dd : ∀ (l acc : List Int), acc.Nodup → (l.foldl (fun acc x => if x ∈ acc then acc else acc ++ [x]) acc).Nodup ∧ ∀ y, y ∈ l.foldl (fun acc x => if x ∈ acc then acc else acc ++ [x]) acc ↔ y ∈ acc ∨ y ∈ l
  | [], acc, h => ⟨h, by simp⟩
  | x :: l, acc, h => by
    rw [List.foldl_cons]
    by_cases q : x ∈ acc
    · rw [if_pos q]
      have ih := foldl_dd l acc h
      refine ⟨ih.1, fun y => ?_⟩
      rw [ih.2 y, List.mem_cons]
      constructor
      · rintro (h | h)
        · exact .inl h
        · exact .inr (.inr h)
      · rintro (h | rfl | h)
        · exact .inl h
        · exact .inl q
        · exact .inr h
    · rw [if_neg q]
      have nd : (acc ++ [x]).Nodup := by
        refine List.pairwise_append.mpr ⟨h, by simp, ?_⟩
        intro a ha b hb e
        rw [List.mem_singleton.mp hb] at e
        exact q (e ▸ ha)
      have ih := foldl_dd l (acc ++ [x]) nd
      refine ⟨ih.1, fun y => ?_⟩
      rw [ih.2 y, List.mem_cons, List.mem_append, List.mem_singleton, or_assoc]
theorem dd_nodup (l : List Int) : (dd l).Nodup := (foldl_dd l [] List.nodup_nil).1
theorem dd_mem (l : List Int) (y : Int) : y ∈ dd l ↔ y ∈ l := by
  unfold dd
  rw [(foldl_dd l [] List.nodup_nil).2 y]
  simp
/-- the words of the sixteen choices, apart in small letters -/
structure WOk (Ws : List Str) : Prop where
  len : Ws.length = 16
  wd : ∀ x ∈ Ws, Wd x
  inj : ∀ c, c < 16 → ∀ d, d < 16 → Txt.lower (Ws.getD c Str.empty) = Txt.lower (Ws.getD d Str.empty) → c = d
structure FOk (fam : List Nat) : Prop where
  nd : fam.Nodup
  lt : ∀ f ∈ fam, f < 16
  len : fam.length ≤ 5
section
variable {Ws : List Str} {fam : List Nat}
theorem WOk.at (H : WOk Ws) {c : Nat} (hc : c < 16) : Wd (Ws.getD c Str.empty) := H.wd _ (getD_mem (by rw [H.len]; exact hc))
theorem prAt_low (H : WOk Ws) (F : FOk fam) (c k : Nat) (hk : k < fam.length) : Txt.lower (prAt Ws fam c k).1 = Txt.lower (Ws.getD (fam.getD k 0 &&& c) Str.empty) := by
  have hf : fam.getD k 0 < 16 := F.lt _ (getD_mem hk)
  have w1 := H.at (and_lt (b := c) hf)
  unfold prAt
  dsimp only
  by_cases h : k % 2 = 1
  · rw [if_pos h, lower_swap w1.plain]
  · rw [if_neg h]
theorem psC_names (H : WOk Ws) (F : FOk fam) (c : Nat) : ((psC Ws fam c).map fun p => Txt.lower p.1) = fam.map fun f => Txt.lower (Ws.getD (f &&& c) Str.empty) := by
  conv => rhs; rw [fam_range fam]
  unfold psC prsTo
  rw [List.map_map, List.map_map]
  apply List.map_congr_left
  intro k hk
  exact prAt_low H F c k (List.mem_range.mp hk)
theorem valsOf_psC (H : WOk Ws) (F : FOk fam) (c : Nat) (nm : Str) : valsOf (psC Ws fam c) nm = dvals Ws fam c (Txt.lower nm) := by
  have e : dvals Ws fam c (Txt.lower nm) = ((List.range fam.length).filter fun k => Txt.lower (Ws.getD (fam.getD k 0 &&& c) Str.empty) == Txt.lower nm).map fun k => Ws.getD (fam.getD k 0 &&& (15 - c)) Str.empty := by
    unfold dvals
    conv => lhs; rw [fam_range fam]
    rw [List.filter_map, List.map_map]
    rfl
  rw [e]
  unfold valsOf psC prsTo
  rw [List.filter_map, List.map_map]
  rw [List.filter_congr (q := fun k => Txt.lower (Ws.getD (fam.getD k 0 &&& c) Str.empty) == Txt.lower nm)]
  · rfl
  · intro k hk
    show (Txt.lower (prAt Ws fam c k).1 == Txt.lower nm) = _
    rw [prAt_low H F c k (List.mem_range.mp hk)]
theorem row_mem (H : WOk Ws) (F : FOk fam) {c : Nat} {rs : List Str} (R : IsRow Ws fam c rs) (y : Str) : y ∈ rs ↔ ∃ f ∈ fam, Txt.lower (Ws.getD (f &&& c) Str.empty) = y := by
  rw [R.2 y, psC_names H F]
  exact List.mem_map
theorem low_again (H : WOk Ws) {x : Nat} (hx : x < 16) : Txt.lower (Txt.upper (Txt.lower (Ws.getD x Str.empty))) = Txt.lower (Ws.getD x Str.empty) := by
  have h := (H.at hx).plain
  rw [lower_upper (plain_lower h), lower_lower h]
theorem row_vals (H : WOk Ws) (F : FOk fam) {c : Nat} {rs : List Str} (R : IsRow Ws fam c rs) {r : Str} (hr : r ∈ rs) : valsOf (psC Ws fam c) (Txt.upper r) = dvals Ws fam c r := by
  obtain ⟨f, hf, rfl⟩ := (row_mem H F R r).mp hr
  rw [valsOf_psC H F, low_again H (and_lt (F.lt f hf))]
theorem dvals_ne (c : Nat) (y : Str) : dvals Ws fam c y ≠ [] ↔ ∃ f ∈ fam, Txt.lower (Ws.getD (f &&& c) Str.empty) = y := by
  unfold dvals
  rw [Ne, List.map_eq_nil_iff, List.filter_eq_nil_iff]
  constructor
  · intro h
    apply Decidable.byContradiction
    intro q
    apply h
    intro f hf e
    exact q ⟨f, hf, eq_of_beq e⟩
  · rintro ⟨f, hf, e⟩ h
    exact h f hf (by rw [e]; exact beq_self_eq_true y)
theorem nms_nodup (H : WOk Ws) (c : Nat) : (nmsTo Ws c 16).Nodup := by
  unfold nmsTo
  refine nodup_map (range_filter_nodup _ _) ?_
  intro x hx y hy e
  exact H.inj x (List.mem_range.mp (List.mem_filter.mp hx).1) y (List.mem_range.mp (List.mem_filter.mp hy).1) e
theorem due_eq (H : WOk Ws) (F : FOk fam) {c : Nat} {rs ss : List Str} (R : IsRow Ws fam c rs) (p : ss.Perm (nmsTo Ws c 16)) (s : sortedS ss = true) :
    (rs.map fun r => (r, valsOf (psC Ws fam c) (Txt.upper r))) = dueOf Ws fam c ss := by
  have nd : ss.Nodup := p.nodup_iff.mpr (nms_nodup H c)
  have s1 := sorted_srt s nd
  have s2 : Srt (ss.filter fun nm => decide (dvals Ws fam c nm ≠ [])) := List.Pairwise.sublist List.filter_sublist s1
  have e : rs = ss.filter fun nm => decide (dvals Ws fam c nm ≠ []) := by
    refine srt_eq R.1 s2 ?_
    intro y
    rw [row_mem H F R y, List.mem_filter, decide_eq_true_eq, dvals_ne, p.mem_iff]
    constructor
    · rintro ⟨f, hf, rfl⟩
      refine ⟨?_, f, hf, rfl⟩
      unfold nmsTo
      exact List.mem_map.mpr ⟨f &&& c, List.mem_filter.mpr ⟨List.mem_range.mpr (and_lt (F.lt f hf)), decide_eq_true (by rw [Nat.and_assoc, Nat.and_self])⟩, rfl⟩
    · exact fun h => h.2
  rw [dueOf_filter, ← e]
  apply List.map_congr_left
  intro r hr
  rw [row_vals H F R hr]
theorem top_nil (H : WOk Ws) (F : FOk fam) {c : Nat} (hc : c < 15) : valsOf (psC Ws fam c) (Ws.getD 15 Str.empty) = [] := by
  rw [valsOf_psC H F]
  apply Decidable.byContradiction
  intro q
  obtain ⟨f, hf, e⟩ := (dvals_ne c _).mp q
  have := H.inj _ (and_lt (F.lt f hf)) 15 (by decide) e
  have h2 : f &&& c ≤ c := Nat.and_le_right
  omega
theorem row_len (H : WOk Ws) (F : FOk fam) {c : Nat} {rs : List Str} (R : IsRow Ws fam c rs) : rs.length ≤ 5 := by
  have : rs.length ≤ (fam.map fun f => Txt.lower (Ws.getD (f &&& c) Str.empty)).length := by
    refine List.Nodup.length_le_of_subset (srt_nodup R.1) ?_
    intro y hy
    exact List.mem_map.mpr ((row_mem H F R y).mp hy)
  rw [List.length_map] at this
  exact Nat.le_trans this F.len
noncomputable def trc (fam : List Nat) (c : Nat) : List Nat := (List.range 16).filter fun x => fam.any fun f => f &&& c == x
theorem trc_mem (F : FOk fam) {c x : Nat} : x ∈ trc fam c ↔ ∃ f ∈ fam, f &&& c = x := by
  unfold trc
  rw [List.mem_filter, List.any_eq_true, List.mem_range]
  constructor
  · rintro ⟨_, f, hf, e⟩
    exact ⟨f, hf, eq_of_beq e⟩
  · rintro ⟨f, hf, rfl⟩
    exact ⟨and_lt (F.lt f hf), f, hf, beq_self_eq_true _⟩
theorem row_trc (H : WOk Ws) (F : FOk fam) {c : Nat} {rs : List Str} (R : IsRow Ws fam c rs) : rs.length = (trc fam c).length := by
  have nd : ((trc fam c).map fun x => Txt.lower (Ws.getD x Str.empty)).Nodup := by
    refine nodup_map (range_filter_nodup _ _) ?_
    intro x hx y hy e
    exact H.inj x (List.mem_range.mp (List.mem_filter.mp hx).1) y (List.mem_range.mp (List.mem_filter.mp hy).1) e
  have p : rs.Perm ((trc fam c).map fun x => Txt.lower (Ws.getD x Str.empty)) := by
    refine (List.perm_ext_iff_of_nodup (srt_nodup R.1) nd).mpr ?_
    intro y
    rw [row_mem H F R y, List.mem_map]
    constructor
    · rintro ⟨f, hf, e⟩
      exact ⟨f &&& c, (trc_mem F).mpr ⟨f, hf, rfl⟩, e⟩
    · rintro ⟨x, hx, e⟩
      obtain ⟨f, hf, rfl⟩ := (trc_mem F).mp hx
      exact ⟨f, hf, e⟩
  rw [p.length_eq, List.length_map]
theorem full_ok (H : WOk Ws) (F : FOk fam) {c : Nat} (hc : c < 16) {rs : List Str} (R : IsRow Ws fam c rs) : rs.length = 2 ^ popc c ↔ fullP fam c = true := by
  have b := below_len c hc
  rw [row_trc H F R, show popc c = ((List.range 4).filter fun k => c.testBit k).length from rfl, ← b, fullP_iff F.lt hc]
  rw [nodup_full (l := trc fam c) (range_filter_nodup _ _) (range_filter_nodup _ _) (fun x hx => by
    obtain ⟨f, hf, rfl⟩ := (trc_mem F).mp hx
    exact List.mem_filter.mpr ⟨List.mem_range.mpr (and_lt (F.lt f hf)), decide_eq_true (by rw [Nat.and_assoc, Nat.and_self])⟩)]
  constructor
  · intro h x hx e
    exact (trc_mem F).mp (h x (List.mem_filter.mpr ⟨List.mem_range.mpr hx, decide_eq_true e⟩))
  · intro h x hx
    have hx := List.mem_filter.mp hx
    exact (trc_mem F).mpr (h x (List.mem_range.mp hx.1) (of_decide_eq_true hx.2))
theorem firm_ok (H : WOk Ws) (F : FOk fam) {c : Nat} (hc : c < 16) {rs : List Str} (R : IsRow Ws fam c rs) : (∃ r ∈ rs, 16 / 2 ^ popc c ≤ (valsOf (psC Ws fam c) (Txt.upper r)).length) ↔ firmP fam c = true := by
  have key : ∀ x, x < 16 → x &&& c = x → (16 / 2 ^ popc c ≤ (dvals Ws fam c (Txt.lower (Ws.getD x Str.empty))).length ↔ ∀ f, f < 16 → f &&& c = x → f ∈ fam) := by
    intro x hx hxc
    have b := fibre_len c hc x hx hxc
    rw [show popc c = ((List.range 4).filter fun k => c.testBit k).length from rfl, ← b]
    have e : (dvals Ws fam c (Txt.lower (Ws.getD x Str.empty))).length = (fam.filter fun f => decide (f &&& c = x)).length := by
      unfold dvals
      rw [List.length_map]
      congr 1
      apply List.filter_congr
      intro f hf
      by_cases q : f &&& c = x
      · rw [decide_eq_true q, q]; exact beq_self_eq_true _
      · rw [decide_eq_false q]
        exact beq_eq_false_iff_ne.mpr fun e => q (H.inj _ (and_lt (F.lt f hf)) x hx e)
    rw [e]
    have nd : (fam.filter fun f => decide (f &&& c = x)).Nodup := List.Nodup.sublist List.filter_sublist F.nd
    have sub : ∀ f ∈ fam.filter (fun f => decide (f &&& c = x)), f ∈ (List.range 16).filter fun f => decide (f &&& c = x) := by
      intro f hf
      have hf := List.mem_filter.mp hf
      exact List.mem_filter.mpr ⟨List.mem_range.mpr (F.lt f hf.1), hf.2⟩
    have n1 := nodup_full nd (range_filter_nodup _ _) sub
    have n2 : (fam.filter fun f => decide (f &&& c = x)).length ≤ ((List.range 16).filter fun f => decide (f &&& c = x)).length := List.Nodup.length_le_of_subset nd fun y hy => sub y hy
    constructor
    · intro h f hf e
      exact (List.mem_filter.mp (n1.mp (Nat.le_antisymm n2 h) f (List.mem_filter.mpr ⟨List.mem_range.mpr hf, decide_eq_true e⟩))).1
    · intro h
      refine Nat.le_of_eq (n1.mpr ?_).symm
      intro f hf
      have hf := List.mem_filter.mp hf
      exact List.mem_filter.mpr ⟨h f (List.mem_range.mp hf.1) (of_decide_eq_true hf.2), hf.2⟩
  rw [firmP_iff hc]
  constructor
  · rintro ⟨r, hr, h⟩
    rw [row_vals H F R hr] at h
    obtain ⟨f, hf, rfl⟩ := (row_mem H F R r).mp hr
    have hx := and_lt (b := c) (F.lt f hf)
    have hxc : (f &&& c) &&& c = f &&& c := by rw [Nat.and_assoc, Nat.and_self]
    exact ⟨f &&& c, hx, hxc, (key _ hx hxc).mp h⟩
  · rintro ⟨x, hx, hxc, h⟩
    have hr : Txt.lower (Ws.getD x Str.empty) ∈ rs := (row_mem H F R _).mpr ⟨x, h x hx hxc, by rw [hxc]⟩
    refine ⟨_, hr, ?_⟩
    rw [row_vals H F R hr]
    exact (key x hx hxc).mpr h
theorem firmTo_iff {d : Nat} (hd : d < 16) : (dd (shownL fam d)).length < (zeroTo d 16).length ↔ firmP fam (15 - d) = true := by
  have nz : (zeroTo d 16).Nodup := range_filter_nodup _ _
  have nd : ((zeroTo d 16).map Int.ofNat).Nodup := nodup_map nz fun x _ y _ e => Int.ofNat_inj.mp e
  have sm : ∀ y : Int, y ∈ shownL fam d ↔ ∃ o, o < 16 ∧ o ∉ fam ∧ ((o &&& (15 - d) : Nat) : Int) = y := by
    intro y
    unfold shownL lackTo
    rw [List.mem_map]
    constructor
    · rintro ⟨o, ho, e⟩
      have ho := List.mem_filter.mp ho
      refine ⟨o, List.mem_range.mp ho.1, ?_, e⟩
      intro q
      have := List.contains_iff_mem.mpr q
      rw [this] at ho
      exact absurd ho.2 (by decide)
    · rintro ⟨o, h1, h2, e⟩
      refine ⟨o, List.mem_filter.mpr ⟨List.mem_range.mpr h1, ?_⟩, e⟩
      cases q : fam.contains o with
      | false => rfl
      | true => exact (h2 (List.contains_iff_mem.mp q)).elim
  have zm : ∀ x : Nat, x ∈ zeroTo d 16 ↔ x < 16 ∧ x &&& (15 - d) = x := by
    intro x
    unfold zeroTo
    rw [List.mem_filter, List.mem_range, decide_eq_true_eq]
    constructor
    · rintro ⟨h1, h2⟩
      exact ⟨h1, (zero_bel d hd x h1).mp h2⟩
    · rintro ⟨h1, h2⟩
      exact ⟨h1, (zero_bel d hd x h1).mpr h2⟩
  have sub : ∀ y ∈ dd (shownL fam d), y ∈ (zeroTo d 16).map Int.ofNat := by
    intro y hy
    obtain ⟨o, h1, _, e⟩ := (sm y).mp ((dd_mem _ y).mp hy)
    exact List.mem_map.mpr ⟨o &&& (15 - d), (zm _).mpr ⟨and_lt h1, by rw [Nat.and_assoc, Nat.and_self]⟩, e⟩
  have n := nodup_less (dd_nodup (shownL fam d)) nd sub
  rw [List.length_map] at n
  rw [n, firmP_iff (show 15 - d < 16 by omega)]
  constructor
  · rintro ⟨y, hy, q⟩
    obtain ⟨x, hx, rfl⟩ := List.mem_map.mp hy
    have hx := (zm x).mp hx
    refine ⟨x, hx.1, hx.2, fun f hf e => ?_⟩
    apply Decidable.byContradiction
    intro q2
    exact q ((dd_mem _ _).mpr ((sm _).mpr ⟨f, hf, q2, by rw [e]; rfl⟩))
  · rintro ⟨x, h1, h2, h⟩
    refine ⟨Int.ofNat x, List.mem_map.mpr ⟨x, (zm x).mpr ⟨h1, h2⟩, rfl⟩, fun q => ?_⟩
    obtain ⟨o, h3, h4, e⟩ := (sm _).mp ((dd_mem _ _).mp q)
    exact h4 (h o h3 (Int.ofNat_inj.mp e))
theorem sorts_ok {l : List Int} (p : l.Perm ((firmL (firmP fam) 16).map Int.ofNat)) (s : l.Pairwise (· ≤ ·)) : l = (firmTo fam 16).map Int.ofNat := by
  have nd : (firmL (firmP fam) 16).Nodup := by
    unfold firmL
    refine nodup_map (range_filter_nodup _ _) ?_
    intro x hx y hy e
    have hx := List.mem_range.mp (List.mem_filter.mp hx).1
    have hy := List.mem_range.mp (List.mem_filter.mp hy).1
    have e : 15 - x = 15 - y := e
    omega
  have pm : (firmL (firmP fam) 16).Perm (firmTo fam 16) := by
    refine (List.perm_ext_iff_of_nodup nd (range_filter_nodup _ _)).mpr ?_
    intro d
    unfold firmL
    rw [List.mem_map, List.mem_filter, List.mem_range, decide_eq_true_eq]
    constructor
    · rintro ⟨c, hc, rfl⟩
      have hc := List.mem_filter.mp hc
      have h16 := List.mem_range.mp hc.1
      refine ⟨by omega, (firmTo_iff (by omega)).mpr ?_⟩
      rw [show 15 - (15 - c) = c by omega]
      exact hc.2
    · rintro ⟨h1, h2⟩
      exact ⟨15 - d, List.mem_filter.mpr ⟨List.mem_range.mpr (by omega), (firmTo_iff h1).mp h2⟩, by omega⟩
  have s2 : ((firmTo fam 16).map Int.ofNat).Pairwise (· ≤ ·) := by
    refine List.pairwise_map.mpr ?_
    have : (firmTo fam 16).Pairwise (· < ·) := List.Pairwise.sublist List.filter_sublist List.pairwise_lt_range
    refine List.Pairwise.imp ?_ this
    intro a b h
    exact Int.ofNat_le.mpr (Nat.le_of_lt h)
  refine List.Perm.eq_of_pairwise (le := (· ≤ ·)) (fun a b _ _ h h2 => Int.le_antisymm h h2) s s2 (p.trans (pm.map _))
theorem fine_ok (H : WOk Ws) (F : FOk fam) : Fine Ws fam (fullP fam) (firmP fam) where
  len := F.len
  lt := F.lt
  W16 := H.len
  wd := H.wd
  rlen := fun _ _ _ R => row_len H F R
  due := fun _ _ _ _ R p s => due_eq H F R p s
  top := fun _ hc => top_nil H F hc
  full := fun _ hc _ R => full_ok H F hc R
  firm := fun _ hc _ R => firm_ok H F hc R
  le1 := by unfold firmL; rw [List.length_map]; exact (sand F.nd F.lt F.len).1
  le2 := (sand F.nd F.lt F.len).2.1
  eqs := by unfold firmL; rw [List.length_map]; exact (sand F.nd F.lt F.len).2.2
  sorts := fun _ p s => sorts_ok p s
end
end

section
open PySem PySem.W PySem.Calls PyProof.Rows
noncomputable def plcN (g0 g1 g2 g3 : Nat) : List Nat := [g0, g0 + 1 + g1, g0 + 1 + g1 + 1 + g2, g0 + 1 + g1 + 1 + g2 + 1 + g3]
noncomputable def mskN (ps : List Nat) : List Nat := ps.foldl (fun acc p => acc ++ acc.map (fun x => x + 2 ^ p)) [0]
theorem mskF_nat : ∀ (ps acc : List Nat), (ps.map Int.ofNat).foldl (fun acc p => acc ++ acc.map (fun x => x + 2 ^ p.toNat)) (acc.map Int.ofNat) = (ps.foldl (fun acc p => acc ++ acc.map (fun x => x + 2 ^ p)) acc).map Int.ofNat
  | [], acc => rfl
  | p :: r, acc => by
    rw [List.map_cons, List.foldl_cons, List.foldl_cons, ← mskF_nat r (acc ++ acc.map fun x => x + 2 ^ p)]
    congr 1
    rw [List.map_append, List.map_map, List.map_map]
    congr 1
theorem mskF_eq (ps : List Nat) : mskF (ps.map Int.ofNat) = (mskN ps).map Int.ofNat := mskF_nat ps [0]
theorem tb_add {acc p : Nat} (h : acc < 2 ^ p) (j : Nat) : (acc + 2 ^ p).testBit j = (acc.testBit j || decide (j = p)) := by
  rw [Nat.add_comm]
  rcases Nat.lt_trichotomy j p with q | q | q
  · rw [Nat.testBit_two_pow_add_gt q, decide_eq_false (Nat.ne_of_lt q), Bool.or_false]
  · subst q
    rw [Nat.testBit_two_pow_add_eq, Nat.testBit_lt_two_pow h, decide_eq_true rfl]; rfl
  · rw [Nat.testBit_lt_two_pow (x := acc), decide_eq_false (Nat.ne_of_gt q), Nat.testBit_lt_two_pow]
    · rfl
    · exact Nat.lt_of_lt_of_le (show 2 ^ p + acc < 2 ^ (p + 1) by rw [Nat.pow_succ]; omega) (Nat.pow_le_pow_right (by decide) q)
    · exact Nat.lt_of_lt_of_le h (Nat.pow_le_pow_right (by decide) (Nat.le_of_lt q))
theorem pows_bit : ∀ (r : List Nat) (acc : Nat), r.Pairwise (· < ·) → (∀ p ∈ r, acc < 2 ^ p) → (∀ p ∈ r, p < 16) → acc < 65536 →
    (∀ j, (r.foldl (fun acc p => acc + 2 ^ p) acc).testBit j = (acc.testBit j || decide (j ∈ r))) ∧ r.foldl (fun acc p => acc + 2 ^ p) acc < 65536
  | [], acc, _, _, _, h => ⟨fun j => by simp, h⟩
  | p :: r, acc, h, h2, h3, h4 => by
    have hp := h2 p (.head _)
    have lt : acc + 2 ^ p < 2 ^ (p + 1) := by rw [Nat.pow_succ]; omega
    obtain ⟨i1, i2⟩ := pows_bit r (acc + 2 ^ p) h.tail
      (fun q hq => Nat.lt_of_lt_of_le lt (Nat.pow_le_pow_right (by decide) ((List.pairwise_cons.mp h).1 q hq)))
      (fun q hq => h3 q (.tail _ hq))
      (Nat.lt_of_lt_of_le lt (Nat.pow_le_pow_right (n := 2) (j := 16) (by decide) (h3 p (.head _))))
    refine ⟨fun j => ?_, i2⟩
    rw [List.foldl_cons, i1 j, tb_add hp, Bool.or_assoc]
    congr 1
    rw [← Bool.decide_or]
    exact decide_eq_decide.mpr List.mem_cons.symm
/-- the places of a choice -/
noncomputable def plAt (ps : List Nat) (c : Nat) : List Nat := ((List.range 4).filter fun k => c.testBit k).map fun k => ps.getD k 0
theorem msk_at (q0 q1 q2 q3 : Nat) {c : Nat} (hc : c < 16) : (mskN [q0, q1, q2, q3]).getD c 0 = (plAt [q0, q1, q2, q3] c).foldl (fun acc p => acc + 2 ^ p) 0 := by
  have : c = 0 ∨ c = 1 ∨ c = 2 ∨ c = 3 ∨ c = 4 ∨ c = 5 ∨ c = 6 ∨ c = 7 ∨ c = 8 ∨ c = 9 ∨ c = 10 ∨ c = 11 ∨ c = 12 ∨ c = 13 ∨ c = 14 ∨ c = 15 := by omega
  rcases this with rfl | rfl | rfl | rfl | rfl | rfl | rfl | rfl | rfl | rfl | rfl | rfl | rfl | rfl | rfl | rfl <;> rfl
theorem plAt_rise {ps : List Nat} (h : ∀ k, k < 4 → ∀ j, j < k → ps.getD j 0 < ps.getD k 0) (c : Nat) : (plAt ps c).Pairwise (· < ·) := by
  unfold plAt
  refine List.pairwise_map.mpr ?_
  have : ((List.range 4).filter fun k => c.testBit k).Pairwise (· < ·) := List.Pairwise.sublist List.filter_sublist List.pairwise_lt_range
  refine List.Pairwise.imp_of_mem ?_ this
  intro a b _ hb q
  exact h b (List.mem_range.mp (List.mem_filter.mp hb).1) a q
theorem bits_back {r : List Nat} {m : Nat} (h : r.Pairwise (· < ·)) (lt : ∀ p ∈ r, p < 16) (b : ∀ j, m.testBit j = decide (j ∈ r)) : ((List.range 16).filter fun j => m.testBit j) = r := by
  have s1 : ((List.range 16).filter fun j => m.testBit j).Pairwise (· < ·) := List.Pairwise.sublist List.filter_sublist List.pairwise_lt_range
  refine List.Perm.eq_of_pairwise (le := (· < ·)) (fun a b _ _ h h2 => absurd h (Nat.lt_asymm h2)) s1 h ?_
  refine (List.perm_ext_iff_of_nodup (range_filter_nodup _ _) (List.Pairwise.imp (fun h => Nat.ne_of_lt h) h)).mpr ?_
  intro a
  rw [List.mem_filter, List.mem_range, b, decide_eq_true_eq]
  exact ⟨fun h => h.2, fun h => ⟨lt a h, h⟩⟩
theorem plcN_rise (g0 g1 g2 g3 : Nat) : ∀ k, k < 4 → ∀ j, j < k → (plcN g0 g1 g2 g3).getD j 0 < (plcN g0 g1 g2 g3).getD k 0 := by
  intro k hk j hj
  have hk : k = 1 ∧ j = 0 ∨ k = 2 ∧ j = 0 ∨ k = 2 ∧ j = 1 ∨ k = 3 ∧ j = 0 ∨ k = 3 ∧ j = 1 ∨ k = 3 ∧ j = 2 := by omega
  unfold plcN
  rcases hk with ⟨rfl, rfl⟩ | ⟨rfl, rfl⟩ | ⟨rfl, rfl⟩ | ⟨rfl, rfl⟩ | ⟨rfl, rfl⟩ | ⟨rfl, rfl⟩ <;> simp only [List.getD_cons_zero, List.getD_cons_succ] <;> omega
theorem plcN_lt (g0 g1 g2 g3 : Nat) (h0 : g0 < 4) (h1 : g1 < 4) (h2 : g2 < 4) (h3 : g3 < 4) : ∀ p ∈ plcN g0 g1 g2 g3, p < 16 := by
  intro p hp
  unfold plcN at hp
  simp only [List.mem_cons, List.not_mem_nil, or_false] at hp
  omega
theorem all_tuples (g0 : Nat) (h0 : g0 < 4) (g1 : Nat) (h1 : g1 < 4) (g2 : Nat) (h2 : g2 < 4) (g3 : Nat) (h3 : g3 < 4) :
    (mskN (plcN g0 g1 g2 g3)).length = 16 ∧ (∀ c, c < 16 → (mskN (plcN g0 g1 g2 g3)).getD c 0 < 65536) ∧
    (∀ c, c < 16 → ((List.range 16).filter fun j => ((mskN (plcN g0 g1 g2 g3)).getD c 0).testBit j) = plAt (plcN g0 g1 g2 g3) c) := by
  have at' : ∀ c, c < 16 → (∀ j, ((mskN (plcN g0 g1 g2 g3)).getD c 0).testBit j = decide (j ∈ plAt (plcN g0 g1 g2 g3) c)) ∧ (mskN (plcN g0 g1 g2 g3)).getD c 0 < 65536 ∧ ∀ p ∈ plAt (plcN g0 g1 g2 g3) c, p < 16 := by
    intro c hc
    have lt : ∀ p ∈ plAt (plcN g0 g1 g2 g3) c, p < 16 := by
      intro p hp
      unfold plAt at hp
      obtain ⟨k, hk, rfl⟩ := List.mem_map.mp hp
      exact plcN_lt g0 g1 g2 g3 h0 h1 h2 h3 _ (getD_mem (List.mem_range.mp (List.mem_filter.mp hk).1))
    obtain ⟨i1, i2⟩ := pows_bit (plAt (plcN g0 g1 g2 g3) c) 0 (plAt_rise (plcN_rise g0 g1 g2 g3) c) (fun p _ => Nat.two_pow_pos p) lt (by decide)
    have e : (mskN (plcN g0 g1 g2 g3)).getD c 0 = (plAt (plcN g0 g1 g2 g3) c).foldl (fun acc p => acc + 2 ^ p) 0 := msk_at _ _ _ _ hc
    rw [e]
    refine ⟨fun j => ?_, i2, lt⟩
    rw [i1 j, Nat.zero_testBit, Bool.false_or]
  refine ⟨rfl, fun c hc => (at' c hc).2.1, fun c hc => ?_⟩
  exact bits_back (plAt_rise (plcN_rise g0 g1 g2 g3) c) (at' c hc).2.2 (at' c hc).1
theorem gap (a : Int) : ∃ g : Nat, g < 4 ∧ (a.fdiv 16).fmod 4 = (g : Int) := by
  have h1 := Int.fmod_nonneg_of_pos (a.fdiv 16) (show (0 : Int) < 4 by decide)
  have h2 := Int.fmod_lt_of_pos (a.fdiv 16) (show (0 : Int) < 4 by decide)
  exact ⟨((a.fdiv 16).fmod 4).toNat, by omega, by omega⟩
theorem plc_nat (a b c d : Int) : ∃ g0 g1 g2 g3 : Nat, g0 < 4 ∧ g1 < 4 ∧ g2 < 4 ∧ g3 < 4 ∧ plcF a b c d = (plcN g0 g1 g2 g3).map Int.ofNat := by
  obtain ⟨g0, h0, e0⟩ := gap a
  obtain ⟨g1, h1, e1⟩ := gap b
  obtain ⟨g2, h2, e2⟩ := gap c
  obtain ⟨g3, h3, e3⟩ := gap d
  refine ⟨g0, g1, g2, g3, h0, h1, h2, h3, ?_⟩
  unfold plcF plcN
  rw [e0, e1, e2, e3]
  rfl
theorem num_len (ns : List Int) : 4 ≤ (numF ns).length ∧ (numF ns).length ≤ 5 := by
  unfold numF
  rw [List.length_append, List.length_take, List.length_drop]
  simp only [List.length_cons, List.length_nil]
  omega
theorem num_shape (ns : List Int) : ∃ a b c d rest, numF ns = a :: b :: c :: d :: rest := by
  have h := (num_len ns).1
  match e : numF ns, h with
  | [], h => simp at h
  | [_], h => simp at h
  | [_, _], h => simp at h
  | [_, _, _], h => simp at h
  | a :: b :: c :: d :: r, _ => exact ⟨a, b, c, d, r, rfl⟩
theorem fam_facts : ∀ (ns acc : List Int), acc.Nodup → (∀ x ∈ acc, 0 ≤ x ∧ x < 16) →
    (ns.foldl (fun acc n => if acc.any (fun x => x == n.fmod 16) then acc else acc ++ [n.fmod 16]) acc).Nodup ∧ ∀ x ∈ ns.foldl (fun acc n => if acc.any (fun x => x == n.fmod 16) then acc else acc ++ [n.fmod 16]) acc, 0 ≤ x ∧ x < 16
  | [], acc, h, h2 => ⟨h, h2⟩
  | n :: r, acc, h, h2 => by
    rw [List.foldl_cons]
    by_cases q : (acc.any fun x => x == n.fmod 16) = true
    · rw [if_pos q]
      exact fam_facts r acc h h2
    · rw [if_neg q]
      refine fam_facts r _ ?_ ?_
      · refine List.pairwise_append.mpr ⟨h, by simp, ?_⟩
        intro a ha b hb e
        rw [List.mem_singleton.mp hb] at e
        exact q (List.any_eq_true.mpr ⟨a, ha, by rw [e]; exact beq_self_eq_true _⟩)
      · intro x hx
        rcases List.mem_append.mp hx with hx | hx
        · exact h2 x hx
        · rw [List.mem_singleton.mp hx]
          exact ⟨Int.fmod_nonneg_of_pos n (by decide), Int.fmod_lt_of_pos n (by decide)⟩
theorem fam_nat (ns : List Int) (hn : ns.length ≤ 5) : ∃ fam : List Nat, famF ns = fam.map Int.ofNat ∧ FOk fam := by
  obtain ⟨h1, h2⟩ := fam_facts ns [] List.nodup_nil (by simp)
  have h1 : (famF ns).Nodup := h1
  have h2 : ∀ x ∈ famF ns, 0 ≤ x ∧ x < 16 := h2
  refine ⟨(famF ns).map Int.toNat, ?_, ?_, ?_, ?_⟩
  · rw [List.map_map]
    conv => lhs; rw [← List.map_id (famF ns)]
    apply List.map_congr_left
    intro x hx
    show x = ((x.toNat : Nat) : Int)
    rw [Int.toNat_of_nonneg (h2 x hx).1]
  · refine nodup_map h1 ?_
    intro x hx y hy e
    have := (h2 x hx).1
    have := (h2 y hy).1
    omega
  · intro f hf
    obtain ⟨x, hx, rfl⟩ := List.mem_map.mp hf
    have := h2 x hx
    omega
  · rw [List.length_map]
    exact Nat.le_trans (famF_length ns) hn
theorem getD_mapN (l : List Nat) (k : Nat) : ((l.map Int.ofNat).getD k 0).toNat = l.getD k 0 := by
  rw [List.getD_eq_getElem?_getD, List.getElem?_map, List.getD_eq_getElem?_getD]
  cases l[k]? <;> rfl
theorem plcN_ok (g0 g1 g2 g3 : Nat) (h0 : g0 < 4) (h1 : g1 < 4) (h2 : g2 < 4) (h3 : g3 < 4) : Plc ((plcN g0 g1 g2 g3).map Int.ofNat) := by
  constructor
  · intro k hk
    rw [getD_mapN]
    exact plcN_lt g0 g1 g2 g3 h0 h1 h2 h3 _ (getD_mem hk)
  · intro k hk j hj e
    rw [getD_mapN, getD_mapN] at e
    have hk : k = 0 ∨ k = 1 ∨ k = 2 ∨ k = 3 := by omega
    have hj : j = 0 ∨ j = 1 ∨ j = 2 ∨ j = 3 := by omega
    unfold plcN at e
    rcases hk with rfl | rfl | rfl | rfl <;> rcases hj with rfl | rfl | rfl | rfl <;> simp only [List.getD_cons_zero, List.getD_cons_succ] at e <;> omega
theorem law_ok (ns : List Int) : ∃ a b c d rest ms fam Ws fullB firmB, numF ns = a :: b :: c :: d :: rest ∧ (numF ns).length ≤ 64 ∧ (plcF a b c d).length = 4 ∧ (∀ p ∈ plcF a b c d, 0 ≤ p ∧ p < 16) ∧
    mskF (plcF a b c d) = List.map Int.ofNat ms ∧ ms.length = 16 ∧ (∀ m ∈ ms, m < 65536) ∧ ms.map (fun k => wordsOf (namesTo k 16)) = Ws ∧ (List.range 16).map (fun k => wordsOf (wordsL k (plcF a b c d) 4)) = Ws ∧ famF (numF ns) = fam.map Int.ofNat ∧ Fine Ws fam fullB firmB := by
  obtain ⟨a, b, c, d, rest, e⟩ := num_shape ns
  have hn := num_len ns
  obtain ⟨g0, g1, g2, g3, h0, h1, h2, h3, ep⟩ := plc_nat a b c d
  obtain ⟨fam, ef, F⟩ := fam_nat (numF ns) hn.2
  obtain ⟨t1, t2, t3⟩ := all_tuples g0 h0 g1 h1 g2 h2 g3 h3
  have P := plcN_ok g0 g1 g2 g3 h0 h1 h2 h3
  have H : WOk ((List.range 16).map fun k => wordsOf (wordsL k ((plcN g0 g1 g2 g3).map Int.ofNat) 4)) := by
    have at' : ∀ c, c < 16 → ((List.range 16).map fun k => wordsOf (wordsL k ((plcN g0 g1 g2 g3).map Int.ofNat) 4)).getD c Str.empty = wordsOf (wordsL c ((plcN g0 g1 g2 g3).map Int.ofNat) 4) := by
      intro c hc
      rw [List.getD_eq_getElem?_getD, List.getElem?_map, List.getElem?_range hc]
      rfl
    constructor
    · rw [List.length_map, List.length_range]
    · intro x hx
      obtain ⟨k, _, rfl⟩ := List.mem_map.mp hx
      exact words_wd P k
    · intro c hc d hd q
      rw [at' c hc, at' d hd] at q
      exact words_inj P hc hd q
  refine ⟨a, b, c, d, rest, mskN (plcN g0 g1 g2 g3), fam, (List.range 16).map fun k => wordsOf (wordsL k ((plcN g0 g1 g2 g3).map Int.ofNat) 4), fullP fam, firmP fam, e, by omega, rfl, ?_, ?_, t1, ?_, ?_, ?_, ef, fine_ok H F⟩
  · rw [ep]
    intro p hp
    obtain ⟨q, hq, rfl⟩ := List.mem_map.mp hp
    have := plcN_lt g0 g1 g2 g3 h0 h1 h2 h3 q hq
    exact ⟨Int.natCast_nonneg q, Int.ofNat_lt.mpr this⟩
  · rw [ep, mskF_eq]
  · intro m hm
    obtain ⟨i, hi, rfl⟩ := List.mem_iff_getElem.mp hm
    have := t2 i (by rw [t1] at hi; exact hi)
    rw [List.getD_eq_getElem?_getD, List.getElem?_eq_getElem hi] at this
    exact this
  · apply List.ext_getElem
    · rw [List.length_map, t1, List.length_map, List.length_range]
    · intro i i1 i2
      rw [List.length_map, t1] at i1
      rw [List.getElem_map, List.getElem_map, List.getElem_range]
      congr 1
      have q := t3 i i1
      have gi : (mskN (plcN g0 g1 g2 g3)).getD i 0 = (mskN (plcN g0 g1 g2 g3))[i]'(by rw [t1]; exact i1) := by
        simp [List.getD, t1, i1]
      rw [gi] at q
      unfold namesTo wordsL
      rw [q]
      unfold plAt
      rw [List.map_map]
      apply List.map_congr_left
      intro k _
      show flagName _ = flagName _
      rw [getD_mapN]
  · rw [ep]
end

end Mine
theorem PySem.Challenge.cw_rw0095_01_holds : PySem.Challenge.rw_rw0095_01.Holds := by
  exact Mine.link fun ns _ => Mine.law_ok ns
