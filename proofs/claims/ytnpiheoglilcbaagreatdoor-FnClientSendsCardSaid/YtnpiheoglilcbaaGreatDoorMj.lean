/- Weights in plain words; right values; a value that comes in as data. No condition. -/
import Derived.Test.YtnpiheoglilcbaaGreatDoorMh
import Derived.Test.YtnpiheoglilcbaaGreatDoorMc
import Derived.Test.YtnpiheoglilcbaaGreatDoorMi
import Derived.SliceStrings
/-! Weights of values, in plain words: what light values are. -/
namespace Go.Proofs.YtnpiheoglilcbaaGreatDoor
open Go.RowKit Go.Proofs.YtnpiheoglilcbaaGreatDoorW.PrintWords Go.Proofs.YtnpiheoglilcbaaGreatDoorW.PrintLast Go.Proofs.YtnpiheoglilcbaaGreatDoorW.PrintMore
set_option linter.unusedVariables false
set_option linter.unusedSimpArgs false

mutual
/-- The ranges of a value's numbers, and of its lists' lengths. -/
def okV : Val → Prop
  | ⟨t, n, s, k, e, ids, l⟩ => i64r t ∧ i64r n ∧ (∀ x ∈ s, 0 ≤ x ∧ x < 256) ∧ i64r k ∧ i64r e ∧ (∀ x ∈ ids, i64r x) ∧ s.length ≤ 9223372036854775807 ∧ ids.length ≤ 9223372036854775807 ∧ l.length ≤ 9223372036854775807 ∧ okL l
def okL : List Val → Prop
  | [] => True
  | v :: l => okV v ∧ okL l
end

mutual
/-- A value's weight, on top of what was weighed. -/
def wgh : Val → Int → Int
  | ⟨_, _, s, _, _, ids, l⟩, n => wghL l (n + (1 + mn (s.length : Int) 65537 + mn (ids.length : Int) 65537))
def wghL : List Val → Int → Int
  | [], n => n
  | v :: l, n => if n ≤ 65536 then wghL l (wgh v (n + 8)) else n
end

mutual
/-- A light value's weight. -/
def tot : Val → Nat
  | ⟨_, _, s, _, _, ids, l⟩ => 1 + s.length + ids.length + totL l
def totL : List Val → Nat
  | [] => 0
  | v :: l => 8 + tot v + totL l
end

theorem mn_ge (a : Nat) : 0 ≤ mn (a : Int) 65537 := by unfold mn; split <;> omega
theorem mn_le (a : Nat) : mn (a : Int) 65537 ≤ 65537 := by unfold mn; split <;> omega
theorem mn_eq (a : Nat) (h : mn (a : Int) 65537 ≤ 65536) : mn (a : Int) 65537 = a := by unfold mn at *; split at h <;> omega

mutual
theorem wgh_up : ∀ (v : Val) (n : Int), n ≤ wgh v n
  | ⟨_, _, s, _, _, ids, l⟩, n => by
    have := wghL_up l (n + (1 + mn (s.length : Int) 65537 + mn (ids.length : Int) 65537))
    have := mn_ge s.length
    have := mn_ge ids.length
    simp only [wgh]
    omega
theorem wghL_up : ∀ (l : List Val) (n : Int), n ≤ wghL l n
  | [], n => by simp [wghL]
  | v :: l, n => by
    simp only [wghL]
    split
    · have := wgh_up v (n + 8)
      have := wghL_up l (wgh v (n + 8))
      omega
    · omega
end

mutual
theorem wgh_le : ∀ (v : Val) (n : Int), n ≤ 65544 → wgh v n ≤ 196619
  | ⟨_, _, s, _, _, ids, l⟩, n, h => by
    have := mn_le s.length
    have := mn_le ids.length
    simp only [wgh]
    exact wghL_le l _ (by omega)
theorem wghL_le : ∀ (l : List Val) (n : Int), n ≤ 196619 → wghL l n ≤ 196619
  | [], n, h => by simpa [wghL] using h
  | v :: l, n, h => by
    simp only [wghL]
    split
    · exact wghL_le l _ (wgh_le v _ (by omega))
    · exact h
end

mutual
theorem wgh_tot : ∀ (v : Val) (n : Int), wgh v n ≤ 65536 → 0 ≤ n → wgh v n = n + tot v
  | ⟨_, _, s, _, _, ids, l⟩, n, h, h0 => by
    simp only [wgh] at h ⊢
    have := wghL_up l (n + (1 + mn (s.length : Int) 65537 + mn (ids.length : Int) 65537))
    have := mn_ge s.length
    have := mn_ge ids.length
    have e1 := mn_eq s.length (by omega)
    have e2 := mn_eq ids.length (by omega)
    have := wghL_tot l _ h (by omega)
    rw [e1, e2] at this
    rw [e1, e2, this]
    simp only [tot]
    omega
theorem wghL_tot : ∀ (l : List Val) (n : Int), wghL l n ≤ 65536 → 0 ≤ n → wghL l n = n + totL l
  | [], n, h, h0 => by simp [wghL, totL]
  | v :: l, n, h, h0 => by
    simp only [wghL] at h ⊢
    have hn : n ≤ 65536 := by
      by_cases hn : n ≤ 65536
      · exact hn
      · rw [if_neg hn] at h
        omega
    rw [if_pos hn] at h ⊢
    have := wghL_up l (wgh v (n + 8))
    have e1 := wgh_tot v (n + 8) (by omega) (by omega)
    have e2 := wghL_tot l _ h (by omega)
    rw [e2, e1]
    simp only [totL]
    omega
end

mutual
theorem tot_wf : ∀ (v : Val), okV v → tot v ≤ 65536 → wfV v
  | ⟨t, n, s, k, e, ids, l⟩, h, ht => by
    simp only [tot] at ht
    simp only [okV] at h
    simp only [wfV]
    obtain ⟨h1, h2, h3, h4, h5, h6, h7, h8, h9, h10⟩ := h
    exact ⟨h1, h2, h3, h4, h5, h6, by omega, totL_wf l h10 (by omega)⟩
theorem totL_wf : ∀ (l : List Val), okL l → totL l ≤ 65536 → wfL l
  | [], h, ht => by simp [wfL]
  | v :: l, h, ht => by
    simp only [totL] at ht
    simp only [okL] at h
    simp only [wfL]
    exact ⟨tot_wf v h.1 (by omega), totL_wf l h.2 (by omega)⟩
end

theorem ite_le {c : Prop} [Decidable c] {a b B : Nat} (h1 : c → a ≤ B) (h2 : ¬ c → b ≤ B) : (if c then a else b) ≤ B := by
  by_cases h : c
  · rw [if_pos h]; exact h1 h
  · rw [if_neg h]; exact h2 h

theorem toB_len (l : List Int) : (toB l).length = l.length := by simp [toB]

mutual
theorem costs_ops : ∀ (v : Val), costs (ops v) ≤ 96 * tot v
  | ⟨t, n, s, k, e, ids, l⟩ => by
    have h1 := costs_opsF l ids
    have h2 := costs_opsL l (l.length / 2 * 2)
    have h3 := costs_opsL l l.length
    simp only [ops, tot, apply_ite costs, costs_cons, costs_append, costs_nil, WOp.cost, toB_len]
    repeat' (with_reducible refine ite_le (fun _ => ?_) (fun _ => ?_))
    all_goals omega
theorem costs_opsL : ∀ (l : List Val) (n : Nat), costs (opsL l n) ≤ 96 * totL l
  | [], n => by simp [opsL, costs_nil]
  | v :: l, 0 => by simp [opsL, costs_nil]
  | v :: l, n + 1 => by
    have h1 := costs_ops v
    have h2 := costs_opsL l n
    simp only [opsL, totL, costs_append]
    omega
theorem costs_opsF : ∀ (l : List Val) (ids : List Int), costs (opsF l ids) ≤ 96 * totL l
  | [], ids => by simp [opsF, costs_nil]
  | v :: l, [] => by simp [opsF, costs_nil]
  | v :: l, i :: ids => by
    have h1 := costs_ops v
    have h2 := costs_opsF l ids
    simp only [opsF, totL, costs_cons, costs_append, WOp.cost]
    omega
end

theorem drop_at {L l : List Val} {i : Nat} {v : Val} (h : L.drop i = v :: l) : i < L.length ∧ rd_Val L (i : Int) = v ∧ L.drop (i + 1) = l := by
  have hlt : i < L.length := by
    by_cases hi : i < L.length
    · exact hi
    · rw [List.drop_eq_nil_of_le (by omega)] at h
      cases h
  rw [List.drop_eq_getElem_cons hlt] at h
  injection h with h1 h2
  refine ⟨hlt, ?_, h2⟩
  simp [rd_Val, List.getD, hlt, h1]

theorem drop_nil {L : List Val} {i : Nat} (h : L.drop i = []) : ¬ i < L.length := fun hi => by
  rw [List.drop_eq_getElem_cons hi] at h
  cases h

theorem LeO_add {α : Type} (f : Nat → Option α) (h : ∀ k, LeO (f k) (f (k + 1))) (k : Nat) : ∀ j, LeO (f k) (f (k + j))
  | 0 => LeO.refl _
  | j + 1 => (LeO_add f h k j).trans (h _)

theorem LeO_le {α : Type} (f : Nat → Option α) (h : ∀ k, LeO (f k) (f (k + 1))) {k m : Nat} (hk : k ≤ m) {r : α} (hr : f k = some r) : f m = some r := by
  have := LeO_add f h k (m - k) r hr
  rwa [show k + (m - k) = m by omega] at this

theorem w64i (x : Int) (h0 : 0 ≤ x) (h1 : x ≤ 9223372036854775807) : wrap64 x = x := by unfold wrap64; omega

mutual
theorem weigh_f : ∀ (v : Val), okV v → ∀ n : Int, 0 ≤ n → n ≤ 65544 → ∃ k, laws_weigh.f k v.f0 v.f1 v.f2 v.f3 v.f4 v.f5 v.f6 n = some (wgh v n)
  | ⟨t, a, s, kk, e, ids, L⟩, h, n, h0, h1 => by
    simp only [okV] at h
    obtain ⟨_, _, _, _, _, _, _, _, hl, hL⟩ := h
    have := mn_ge s.length
    have := mn_ge ids.length
    have := mn_le s.length
    have := mn_le ids.length
    obtain ⟨k, hk⟩ := weigh_l L hL L 0 rfl hl t a s kk e ids (n + (1 + mn (s.length : Int) 65537 + mn (ids.length : Int) 65537)) (by omega) (by omega)
    refine ⟨k + 1, ?_⟩
    simp only [laws_weigh.f, wgh]
    rw [w64i _ (by omega) (by omega)]
    exact hk
theorem weigh_l : ∀ (l : List Val), okL l → ∀ (L : List Val) (i : Nat), L.drop i = l → L.length ≤ 9223372036854775807 → ∀ (t a : Int) (s : List Int) (kk e : Int) (ids : List Int) (n : Int), 0 ≤ n → n ≤ 196619 →
    ∃ k, laws_weigh.l0 k n (i : Int) t a s kk e ids L = some (wghL l n)
  | [], _, L, i, hd, hl, t, a, s, kk, e, ids, n, h0, h1 => by
    have := drop_nil hd
    refine ⟨1, ?_⟩
    simp only [laws_weigh.l0, wghL]
    rw [if_neg (by omega)]
  | v :: l, hk, L, i, hd, hl, t, a, s, kk, e, ids, n, h0, h1 => by
    simp only [okL] at hk
    obtain ⟨hi, hv, hd'⟩ := drop_at hd
    by_cases hn : n ≤ 65536
    · obtain ⟨k1, e1⟩ := weigh_f v hk.1 (n + 8) (by omega) (by omega)
      have b1 := wgh_up v (n + 8)
      have b2 := wgh_le v (n + 8) (by omega)
      obtain ⟨k2, e2⟩ := weigh_l l hk.2 L (i + 1) hd' hl t a s kk e ids (wgh v (n + 8)) (by omega) b2
      refine ⟨k1 + k2 + 1, ?_⟩
      simp only [laws_weigh.l0, wghL]
      rw [if_pos (by omega), if_pos hn, if_pos (by omega), if_pos hn, hv, w64i _ (by omega) (by omega), w64i _ (by omega) (by omega)]
      rw [LeO_le (fun k => laws_weigh.f k v.f0 v.f1 v.f2 v.f3 v.f4 v.f5 v.f6 (n + 8)) (fun k => laws_weigh.mono _ _ _ _ _ _ _ _ k) (show k1 ≤ k1 + k2 by omega) e1]
      exact LeO_le (fun k => laws_weigh.l0 k (wgh v (n + 8)) ((i : Int) + 1) t a s kk e ids L) (fun k => (laws_weigh.mono_l k).2 _ _ _ _ _ _ _ _ _) (show k2 ≤ k1 + k2 by omega) (by exact_mod_cast e2)
    · refine ⟨1, ?_⟩
      simp only [laws_weigh.l0, wghL]
      rw [if_pos (by omega), if_neg hn, if_neg hn]
end

theorem isHeavy_f (v : Val) (h : okV v) : ∃ k, laws_isHeavy.f k [v] = some (decide (wgh v 0 > 65536)) := by
  obtain ⟨k1, e1⟩ := weigh_f v h 0 (by omega) (by omega)
  refine ⟨k1 + 2, ?_⟩
  have e2 := LeO_le (fun k => laws_weigh.f k v.f0 v.f1 v.f2 v.f3 v.f4 v.f5 v.f6 0) (fun k => laws_weigh.mono _ _ _ _ _ _ _ _ k) (show k1 ≤ k1 + 1 by omega) e1
  replace e2 : laws_weigh.f (k1 + 1) v.f0 v.f1 v.f2 v.f3 v.f4 v.f5 v.f6 0 = some (wgh v 0) := e2
  simp only [laws_isHeavy.f]
  rw [laws_isHeavy.l0]
  simp only [List.length_cons, List.length_nil, rd_Val, Int.toNat_zero, List.getD_cons_zero]
  rw [if_pos (by omega), if_pos (by omega), if_pos (by omega), e2]
  simp only [Option.bind_some]
  rw [laws_isHeavy.l0]
  simp [wrap64]

theorem zzFits_f (v : Val) : ∃ b, laws_zzFits1.f v.f0 v.f1 v.f2 v.f3 v.f4 v.f5 v.f6 = some b := by
  unfold laws_zzFits1.f
  repeat' split
  all_goals exact ⟨_, rfl⟩

def isT (a : Int) : Bool := decide (a = 2 ∨ a = 3 ∨ a = 4 ∨ a = 6 ∨ a = 8 ∨ a = 10 ∨ (11 ≤ a ∧ a ≤ 16))

theorem isType_f (a : Int) : laws_isType.f a = some (isT a) := by
  unfold laws_isType.f isT
  repeat' split
  all_goals (congr 1; first | (symm; apply decide_eq_true; omega) | (symm; apply decide_eq_false; omega) | (apply decide_eq_decide.mpr; omega))

end Go.Proofs.YtnpiheoglilcbaaGreatDoor

/-! Right values, in plain words. -/
namespace Go.Proofs.YtnpiheoglilcbaaGreatDoor
open Go.RowKit Go.Proofs.YtnpiheoglilcbaaGreatDoorW.PrintWords Go.Proofs.YtnpiheoglilcbaaGreatDoorW.PrintLast Go.Proofs.YtnpiheoglilcbaaGreatDoorW.PrintMore
set_option linter.unusedVariables false
set_option linter.unusedSimpArgs false

mutual
/-- Is a value one of its type? -/
def rightV : Val → Bool
  | ⟨t, _, _, k, e, ids, l⟩ =>
    isT t && !(decide (t = 12) && decide (ids.length ≠ l.length)) && !(decide (t = 13) && decide (l.length % 2 ≠ 0)) &&
    (decide (t < 12) || decide (t = 16) || (decide (t = 13) && decide (l.length = 0) && decide (k = 0) && decide (e = 0)) ||
      ((decide (t = 12) || isT e) && (!decide (t = 13) || isT k) && rightL t k e 0 l))
def rightL : Int → Int → Int → Nat → List Val → Bool
  | _, _, _, _, [] => true
  | t, k, e, i, v :: l => (decide (t = 12) || decide (v.f0 = if t = 13 ∧ i % 2 = 0 then k else e)) && rightV v && rightL t k e (i + 1) l
end

theorem ite_le_i (i : Nat) : (Int.tmod (i : Int) 2 == 0) = decide (i % 2 = 0) := by
  rw [Int.tmod_eq_emod_of_nonneg (by omega)]
  by_cases h : i % 2 = 0
  · rw [decide_eq_true h]; exact beq_iff_eq.mpr (by omega)
  · rw [decide_eq_false h]; exact beq_eq_false_iff_ne.mpr (by omega)

mutual
theorem right_f : ∀ (v : Val), okV v → ∃ k, laws_isRight.f k v.f0 v.f1 v.f2 v.f3 v.f4 v.f5 v.f6 = some (rightV v)
  | ⟨t, a, s, k, e, ids, L⟩, h => by
    simp only [okV] at h
    obtain ⟨_, _, _, _, _, _, _, _, hl, hL⟩ := h
    obtain ⟨k0, hk⟩ := right_l L hL L 0 rfl hl t a s k e ids
    have J3 : ∀ b, laws_isRight.j3 (k0 + 1) b t a s k e ids L = some (!b && rightL t k e 0 L) := by
      intro b
      rw [laws_isRight.j3]
      cases b
      · simpa using hk
      · simp
    have J2 : ∀ b, laws_isRight.j2 (k0 + 2) b t a s k e ids L = some (b || ((decide (t = 12) || isT e) && (!decide (t = 13) || isT k) && rightL t k e 0 L)) := by
      intro b
      rw [laws_isRight.j2]
      cases b
      · simp only [isType_f, Option.bind_some, J3]
        by_cases h12 : t = 12
        · subst h12
          simp
        · by_cases h13 : t = 13
          · subst h13
            cases isT e <;> cases isT k <;> simp
          · cases isT e <;> simp [h12, h13]
      · simp
    have J1 : ∀ b, laws_isRight.j1 (k0 + 3) b t a s k e ids L = some (b || (decide (t = 13) && decide (L.length = 0) && decide (k = 0) && decide (e = 0)) || ((decide (t = 12) || isT e) && (!decide (t = 13) || isT k) && rightL t k e 0 L)) := by
      intro b
      rw [laws_isRight.j1]
      cases b
      · simp only [J2]
        by_cases h13 : t = 13
        · subst h13
          by_cases hn : L.length = 0
          · by_cases h1 : k = 0
            · by_cases h2 : e = 0 <;> simp [hn, h1, h2]
            · simp [hn, h1]
          · simp [hn, show ¬ ((L.length : Int) = 0) by omega]
        · simp [h13]
      · simp
    have J0 : ∀ b, laws_isRight.j0 (k0 + 4) b t a s k e ids L = some (!b && (decide (t < 12) || decide (t = 16) || (decide (t = 13) && decide (L.length = 0) && decide (k = 0) && decide (e = 0)) || ((decide (t = 12) || isT e) && (!decide (t = 13) || isT k) && rightL t k e 0 L))) := by
      intro b
      rw [laws_isRight.j0]
      cases b
      · simp only [J1]
        by_cases h12 : t < 12
        · simp [h12]
        · by_cases h16 : t = 16
          · subst h16
            simp
          · simp [h12, h16, show (t == 16) = false from beq_eq_false_iff_ne.mpr h16]
      · simp
    refine ⟨k0 + 5, ?_⟩
    rw [laws_isRight.f]
    simp only [isType_f, Option.bind_some, J0, rightV]
    cases isT t
    · simp
    · by_cases h12 : t = 12
      · subst h12
        by_cases hn : ids.length = L.length
        · simp [hn]
        · simp [hn, show ¬ ((ids.length : Int) = (L.length : Int)) by omega]
      · by_cases h13 : t = 13
        · subst h13
          by_cases hn : L.length % 2 = 0
          · simp [hn, show ((L.length : Int) % 2 = 0) by omega]
          · simp [hn, show ¬ ((L.length : Int) % 2 = 0) by omega]
        · simp [h12, h13]
theorem right_l : ∀ (l : List Val), okL l → ∀ (L : List Val) (i : Nat), L.drop i = l → L.length ≤ 9223372036854775807 → ∀ (t a : Int) (s : List Int) (k e : Int) (ids : List Int),
    ∃ K, laws_isRight.l0 K (i : Int) t a s k e ids L = some (rightL t k e i l)
  | [], _, L, i, hd, hl, t, a, s, k, e, ids => by
    have := drop_nil hd
    refine ⟨1, ?_⟩
    rw [laws_isRight.l0, if_neg (by omega), rightL]
  | v :: l, hk, L, i, hd, hl, t, a, s, k, e, ids => by
    simp only [okL] at hk
    obtain ⟨hi, hv, hd'⟩ := drop_at hd
    obtain ⟨k1, e1⟩ := right_f v hk.1
    obtain ⟨k2, e2⟩ := right_l l hk.2 L (i + 1) hd' hl t a s k e ids
    have e1' := LeO_le (fun k => laws_isRight.f k v.f0 v.f1 v.f2 v.f3 v.f4 v.f5 v.f6) (fun k => laws_isRight.mono _ _ _ _ _ _ _ k) (show k1 ≤ k1 + k2 by omega) e1
    have e2' := LeO_le (fun q => laws_isRight.l0 q ((i + 1 : Nat) : Int) t a s k e ids L) (fun q => (laws_isRight.mono_l q).2.2.2.2.2.1 _ _ _ _ _ _ _ _) (show k2 ≤ k1 + k2 by omega) e2
    generalize k1 + k2 = m at e1' e2'
    replace e1' : laws_isRight.f m v.f0 v.f1 v.f2 v.f3 v.f4 v.f5 v.f6 = some (rightV v) := e1'
    replace e2' : laws_isRight.l0 m (wrap64 ((i : Int) + 1)) t a s k e ids L = some (rightL t k e (i + 1) l) := by
      rw [w64i _ (by omega) (by omega)]
      exact_mod_cast e2'
    have J6 : ∀ x4, laws_isRight.j6 (m + 1) (i : Int) x4 t a s k e ids L = some ((decide (t = 12) || decide (v.f0 = x4)) && rightV v && rightL t k e (i + 1) l) := by
      intro x4
      rw [laws_isRight.j6, hv, e1']
      have p0 : (0 : Int) ≤ (i : Int) := by omega
      have p1 : (i : Int) < (L.length : Int) := by omega
      by_cases h12 : t = 12
      · rw [if_pos h12, if_pos p0, if_pos p1, if_pos rfl]
        simp only [Option.bind_some, e2']
        cases rightV v <;> simp [h12]
      · rw [if_neg h12, if_pos p0, if_pos p1]
        by_cases hx : v.f0 = x4
        · rw [if_pos hx]
          simp only [Option.bind_some, e2']
          cases rightV v <;> simp [h12, hx]
        · rw [if_neg hx]
          simp [h12, hx]
    have J5 : ∀ b, laws_isRight.j5 (m + 2) (i : Int) e b t a s k e ids L = some ((decide (t = 12) || decide (v.f0 = if b = true then k else e)) && rightV v && rightL t k e (i + 1) l) := by
      intro b
      rw [laws_isRight.j5]
      cases b <;> simp [J6]
    refine ⟨m + 3, ?_⟩
    rw [laws_isRight.l0, if_pos (by omega)]
    simp only [J5, rightL, ite_le_i]
    by_cases h13 : t = 13
    · by_cases hp : i % 2 = 0 <;> simp [h13, hp]
    · simp [h13]
end

theorem rightL_of {l : List Val} {t k e : Int} (h : l = [] ∨ rightL t k e 0 l = true) : rightL t k e 0 l = true := by
  rcases h with rfl | h
  · simp [rightL]
  · exact h

end Go.Proofs.YtnpiheoglilcbaaGreatDoor

/-! A value that comes in as data, opened: how it lies in memory, in the words of the print. -/
namespace Go.Proofs.YtnpiheoglilcbaaGreatDoor
open Go.RowKit Go.ChangeShapes Go.WideShapes Go.Proofs.YtnpiheoglilcbaaGreatDoorW.PrintWords Go.Proofs.YtnpiheoglilcbaaGreatDoorW.PrintLast Go.Proofs.YtnpiheoglilcbaaGreatDoorW.PrintMore
set_option linter.unusedVariables false
set_option linter.unusedSimpArgs false

theorem cellsVal : Tryz.prog.cellsOf 28 = 7 := by kernel_rfl
theorem cellsI64 : Tryz.prog.cellsOf 2 = 1 := by kernel_rfl
theorem cellsU8 : Tryz.prog.cellsOf 5 = 1 := by kernel_rfl
theorem cellsU8s : Tryz.prog.cellsOf 24 = 1 := by kernel_rfl
theorem cellsInts : Tryz.prog.cellsOf 25 = 1 := by kernel_rfl
theorem cellsVals : Tryz.prog.cellsOf 26 = 1 := by kernel_rfl

theorem okL_of : ∀ (l : List Val), (∀ v ∈ l, okV v) → okL l
  | [], _ => by simp [okL]
  | v :: l, h => by
    simp only [okL]
    exact ⟨h v (by simp), okL_of l (fun u hu => h u (by simp [hu]))⟩

theorem list_of {α : Type} (R : Nat → α → Prop) : ∀ n, (∀ i, i < n → ∃ x, R i x) → ∃ l : List α, l.length = n ∧ ∀ i x, l[i]? = some x → R i x
  | 0, _ => ⟨[], rfl, fun i x h => by simp at h⟩
  | n + 1, h => by
    obtain ⟨l, hl, hr⟩ := list_of R n (fun i hi => h i (by omega))
    obtain ⟨x, hx⟩ := h n (by omega)
    refine ⟨l ++ [x], by simp [hl], fun i y hy => ?_⟩
    by_cases hi : i < n
    · rw [List.getElem?_append_left (by omega)] at hy
      exact hr i y hy
    · rw [List.getElem?_append_right (by omega)] at hy
      have : i - l.length = 0 := by
        rcases Nat.eq_zero_or_pos (i - l.length) with h0 | h0
        · exact h0
        · rw [List.getElem?_eq_none (by simp; omega)] at hy
          cases hy
      rw [this] at hy
      simp at hy
      obtain rfl : i = n := by omega
      exact hy ▸ hx

theorem wf_i64r {n : Int} (h : (Lit.int .i64 n).wf = true) : i64r n := by
  have h' : IntKind.i64.min ≤ n ∧ n ≤ 9223372036854775807 := by simpa [Lit.wf] using h
  have e : IntKind.i64.min = -9223372036854775808 := by decide
  unfold i64r
  omega

theorem wf_u8r {n : Int} (h : (Lit.int .u8 n).wf = true) : 0 ≤ n ∧ n < 256 := by
  have h' : IntKind.u8.min ≤ n ∧ n ≤ IntKind.u8.max := by simpa [Lit.wf] using h
  have e : IntKind.u8.min = 0 := by decide
  have e2 : IntKind.u8.max = 255 := by decide
  omega

/-- A row of numbers, in the words of the print. -/
theorem row_ints {k : IntKind} {w : World} {a : Addr} {len cap : Nat} {zs : List Int} (hl : len ≤ cap) (hm : cap ≤ maxLen) (hz : len ≤ zs.length) (hc : ∀ i, i < zs.length → w.cell? (a.add i) = some (.int k (zs.getD i 0))) :
    (Kd.int k).C w (some a) len (zs.take len) := by
  refine ⟨by simp; omega, by unfold maxLen at hm; omega, fun _ => ⟨a, rfl, fun j p hj => ?_⟩⟩
  have hjl : j < len := by
    have := (List.getElem?_eq_some_iff.1 hj).1
    simp at this
    omega
  refine ⟨[.int k p], rfl, rfl, fun i u hu => ?_⟩
  cases i with
  | zero =>
    simp at hu
    subst hu
    have hp : zs.getD j 0 = p := by
      rw [List.getElem?_take_of_lt hjl] at hj
      simp [List.getD, hj]
    have := hc j (by omega)
    rw [hp] at this
    rw [show j * (Kd.int k).sz + 0 = j from by show j * 1 + 0 = j; omega]
    exact this
  | succ i => simp at hu

set_option maxRecDepth 100000 in
theorem open_cells {H : Type} {enc : TypeId × Value → H} {w : World} {base : Nat} {spare : Nat → Bool} {held : Bool} : ∀ (fuel : Nat) (cs : List Value) (x : DataW H × List MemPlace),
    DataW.trod enc Tryz.prog w base spare held fuel 28 cs = some x → ∃ V, kVal.K w V cs ∧ okV V := by
  intro fuel
  induction fuel using Nat.strongRecOn with
  | _ fuel ih =>
  intro cs x h
  obtain ⟨xs, n, rfl, _, hsz, hlen, hf⟩ := DataW.trod_struct Tryz.underlying28 h
  rw [cellsVal] at hsz
  obtain ⟨c0, c1, c2, c3, c4, c5, c6, rfl⟩ := list7 hsz
  obtain ⟨y0, y1, y2, y3, y4, y5, y6, rfl⟩ := list7 hlen
  have h0 := hf 0 _ rfl
  have h1 := hf 1 _ rfl
  have h2 := hf 2 _ rfl
  have h3 := hf 3 _ rfl
  have h4 := hf 4 _ rfl
  have h5 := hf 5 _ rfl
  have h6 := hf 6 _ rfl
  clear hf hlen hsz h
  obtain ⟨a0, e0, _, w0⟩ := DataW.trod_int Tryz.underlying3 (x := y0) h0
  obtain ⟨a1, e1, _, w1⟩ := DataW.trod_int Tryz.underlying2 (x := y1) h1
  obtain ⟨a3, e3, _, w3⟩ := DataW.trod_int Tryz.underlying3 (x := y3) h3
  obtain ⟨a4, e4, _, w4⟩ := DataW.trod_int Tryz.underlying3 (x := y4) h4
  replace e0 : List.take (Tryz.prog.cellsOf 3) [c0, c1, c2, c3, c4, c5, c6] = _ := e0
  replace e1 : List.take (Tryz.prog.cellsOf 2) [c1, c2, c3, c4, c5, c6] = _ := e1
  replace e3 : List.take (Tryz.prog.cellsOf 3) [c3, c4, c5, c6] = _ := e3
  replace e4 : List.take (Tryz.prog.cellsOf 3) [c4, c5, c6] = _ := e4
  rw [cellsInt] at e0 e3 e4
  rw [cellsI64] at e1
  simp at e0 e1 e3 e4
  subst e0 e1 e3 e4
  have hS : ∃ A S c, c2 = .slice A S.length c ∧ S.length ≤ c ∧ (Kd.int .u8).C w A S.length S ∧ (∀ x ∈ S, 0 ≤ x ∧ x < 256) ∧ S.length ≤ 9223372036854775807 := by
    rcases open_ints Tryz.underlying24 Tryz.underlying5 cellsU8 (x := y2) h2 with ⟨hcs, _⟩ | ⟨a, len, cap, zs, hcs, _, hl, hm, hz, _, hcell, hwf⟩
    · replace hcs : List.take (Tryz.prog.cellsOf 24) [c2, .int .i64 a3, .int .i64 a4, c5, c6] = _ := hcs
      rw [cellsU8s] at hcs
      simp at hcs
      exact ⟨none, [], 0, hcs, by simp, ⟨rfl, by simp, fun h => absurd h (by simp)⟩, by simp, by simp⟩
    · replace hcs : List.take (Tryz.prog.cellsOf 24) [c2, .int .i64 a3, .int .i64 a4, c5, c6] = _ := hcs
      rw [cellsU8s] at hcs
      simp at hcs
      have hzl : len ≤ zs.length := by rw [hz]; split <;> omega
      have hln : (zs.take len).length = len := by simp; omega
      refine ⟨some a, zs.take len, cap, by rw [hln]; exact hcs, by rw [hln]; exact hl, by rw [hln]; exact row_ints hl hm hzl hcell, fun x hx => ?_, by rw [hln]; unfold maxLen at hm; omega⟩
      exact wf_u8r (hwf x (List.mem_of_mem_take hx))
  have hI : ∃ A S c, c5 = .slice A S.length c ∧ S.length ≤ c ∧ (Kd.int .i64).C w A S.length S ∧ (∀ x ∈ S, i64r x) ∧ S.length ≤ 9223372036854775807 := by
    rcases open_ints Tryz.underlying25 Tryz.underlying3 cellsInt (x := y5) h5 with ⟨hcs, _⟩ | ⟨a, len, cap, zs, hcs, _, hl, hm, hz, _, hcell, hwf⟩
    · replace hcs : List.take (Tryz.prog.cellsOf 25) [c5, c6] = _ := hcs
      rw [cellsInts] at hcs
      simp at hcs
      exact ⟨none, [], 0, hcs, by simp, ⟨rfl, by simp, fun h => absurd h (by simp)⟩, by simp, by simp⟩
    · replace hcs : List.take (Tryz.prog.cellsOf 25) [c5, c6] = _ := hcs
      rw [cellsInts] at hcs
      simp at hcs
      have hzl : len ≤ zs.length := by rw [hz]; split <;> omega
      have hln : (zs.take len).length = len := by simp; omega
      refine ⟨some a, zs.take len, cap, by rw [hln]; exact hcs, by rw [hln]; exact hl, by rw [hln]; exact row_ints hl hm hzl hcell, fun x hx => ?_, by rw [hln]; unfold maxLen at hm; omega⟩
      exact wf_i64r (hwf x (List.mem_of_mem_take hx))
  have hL : ∃ A L c, c6 = .slice A L.length c ∧ L.length ≤ c ∧ kVal.C w A L.length L ∧ okL L ∧ L.length ≤ 9223372036854775807 := by
    rcases DataW.trod_slice Tryz.underlying26 (x := y6) h6 with ⟨hcs, _⟩ | ⟨a, len, cap, elems, rest, m, hmn, hcs, _, _, hl, hm, hel, hgo, _⟩
    · replace hcs : List.take (Tryz.prog.cellsOf 26) [c6] = _ := hcs
      rw [cellsVals] at hcs
      simp at hcs
      exact ⟨none, [], 0, hcs, by simp, ⟨rfl, by simp, fun h => absurd h (by simp)⟩, by simp [okL], by simp⟩
    · replace hcs : List.take (Tryz.prog.cellsOf 26) [c6] = _ := hcs
      rw [cellsVals] at hcs
      simp at hcs
      rw [cellsVal] at hgo
      have key : ∀ i, i < len → ∃ v, okV v ∧ ∃ c, c.length = 7 ∧ kVal.K w v c ∧ ∀ j u, c[j]? = some u → w.cell? (a.add (i * 7 + j)) = some u := by
        intro i hi
        have hg := hgo i hi
        rw [List.getElem?_eq_getElem (by omega), Option.bind_eq_some_iff] at hg
        obtain ⟨cs', hc, ht⟩ := hg
        obtain ⟨V, hK, hV⟩ := ih m (by omega) cs' _ ht
        obtain ⟨_, hlen', hcell⟩ := World.cells?_some hc
        refine ⟨V, hV, cs', hlen', hK, fun j u hu => ?_⟩
        have hj : j < 7 := by
          have := (List.getElem?_eq_some_iff.1 hu).1
          omega
        have := hcell j hj
        rw [hu] at this
        rw [← this]
        rw [Go.Proofs.YtnpiheoglilcbaaGreatDoorW.PrintWords.add_add]
      obtain ⟨L, hLl, hLr⟩ := list_of _ len key
      refine ⟨some a, L, cap, by rw [hLl]; exact hcs, by omega, ⟨rfl, by unfold maxLen at hm; omega, fun _ => ⟨a, rfl, fun j p hj => ?_⟩⟩, okL_of L (fun v hv => ?_), by unfold maxLen at hm; omega⟩
      · obtain ⟨_, c, h1, h2, h3⟩ := hLr j p hj
        exact ⟨c, h1, h2, h3⟩
      · obtain ⟨i, hi⟩ := List.getElem?_of_mem hv
        exact (hLr i v hi).1
  obtain ⟨A2, S, s2, rfl, l2, g2, r2, m2⟩ := hS
  obtain ⟨A5, I, s5, rfl, l5, g5, r5, m5⟩ := hI
  obtain ⟨A6, L, s6, rfl, l6, g6, r6, m6⟩ := hL
  refine ⟨⟨a0, a1, S, a3, a4, I, L⟩, kVal_mk w ⟨a0, a1, S, a3, a4, I, L⟩ l2 g2 l5 g5 l6 g6, ?_⟩
  simp only [okV]
  exact ⟨wf_i64r w0, wf_i64r w1, r2, wf_i64r w3, wf_i64r w4, r5, m2, m5, m6, r6⟩

set_option maxRecDepth 100000 in
theorem open_val {H : Type} {enc : TypeId × Value → H} {w : World} {base : Nat} {spare : Nat → Bool} {held : Bool} {r : Reach} {b0 : Nat} {v : Value} {d : DataW H} {p : List MemPlace}
    (hv : Value.okWide Tryz.prog w r b0 28 v) (h : DataW.Trod enc Tryz.prog w base spare held 28 v d p) :
    ∃ x0 x1 x2 x3 x4 x5 x6 V, v = .agg #[x0, x1, x2, x3, x4, x5, x6] ∧ kVal.K w V [x0, x1, x2, x3, x4, x5, x6] ∧ okV V := by
  obtain ⟨cs, rfl, hsz⟩ := okWide_struct Tryz.underlying28 hv
  obtain ⟨c0, c1, c2, c3, c4, c5, c6, rfl⟩ := array7 (hsz.trans cellsVal)
  obtain ⟨fuel, hf⟩ := h
  obtain ⟨V, hK, hV⟩ := open_cells fuel _ _ hf
  exact ⟨c0, c1, c2, c3, c4, c5, c6, V, rfl, hK, hV⟩

end Go.Proofs.YtnpiheoglilcbaaGreatDoor

/-! The laws' helpers on a value: fits, heavy, right: in any later memory. -/
namespace Go.Proofs.YtnpiheoglilcbaaGreatDoor
open Go.RowKit Go.Deep Go.Proofs.YtnpiheoglilcbaaGreatDoorW.PrintWords
set_option linter.unusedVariables false
set_option linter.unusedSimpArgs false

def fitsV (V : Val) : Bool := (laws_zzFits1.f V.f0 V.f1 V.f2 V.f3 V.f4 V.f5 V.f6).getD false

theorem fits_any {V : Val} {w : World} {x0 x1 x2 x3 x4 x5 x6 : Value} (hK : kVal.K w V [x0, x1, x2, x3, x4, x5, x6]) (W : World) (hB : Below w.heap.size w W) :
    Calls Tryz.prog 8 #[.agg #[x0, x1, x2, x3, x4, x5, x6]] W fun e w' => e = .returned (.bool (fitsV V)) ∧ Below W.heap.size W w' := by
  obtain ⟨b, hb⟩ := zzFits_f V
  obtain ⟨A2, c2, A5, c5, A6, c6, he, l2, g2, l5, g5, l6, g6⟩ := kVal_open hK
  simp only [List.cons.injEq, and_true] at he
  obtain ⟨rfl, rfl, rfl, rfl, rfl, rfl, rfl⟩ := he
  have e : fitsV V = b := by unfold fitsV; rw [hb]; rfl
  rw [e]
  exact laws_zzFits1.calls V.f0 V.f1 A2 c2 V.f2 V.f3 V.f4 A5 c5 V.f5 A6 c6 V.f6 b W (Kd.C_below g2 hB) l2 (Kd.C_below g5 hB) l5 (Kd.C_below g6 hB) l6 hb

theorem right_any {V : Val} (hV : okV V) {w : World} {x0 x1 x2 x3 x4 x5 x6 : Value} (hK : kVal.K w V [x0, x1, x2, x3, x4, x5, x6]) (W : World) (hB : Below w.heap.size w W) :
    Calls Tryz.prog 10 #[.agg #[x0, x1, x2, x3, x4, x5, x6]] W fun e w' => e = .returned (.bool (rightV V)) ∧ Below W.heap.size W w' := by
  obtain ⟨k, hk⟩ := right_f V hV
  obtain ⟨A2, c2, A5, c5, A6, c6, he, l2, g2, l5, g5, l6, g6⟩ := kVal_open hK
  simp only [List.cons.injEq, and_true] at he
  obtain ⟨rfl, rfl, rfl, rfl, rfl, rfl, rfl⟩ := he
  exact laws_isRight.calls k V.f0 V.f1 A2 c2 V.f2 V.f3 V.f4 A5 c5 V.f5 A6 c6 V.f6 _ W (Kd.C_below g2 hB) l2 (Kd.C_below g5 hB) l5 (Kd.C_below g6 hB) l6 hk

/-- Is a value too heavy? -/
def heavyV (V : Val) : Bool := decide (wgh V 0 > 65536)

theorem heavyV_tot {V : Val} (h : heavyV V = false) : tot V ≤ 65536 := by
  have h1 : wgh V 0 ≤ 65536 := by
    have := of_decide_eq_false h
    omega
  have := wgh_tot V 0 h1 (by omega)
  omega

theorem heavy_any {V : Val} (hV : okV V) {w : World} {x0 x1 x2 x3 x4 x5 x6 : Value} (hK : kVal.K w V [x0, x1, x2, x3, x4, x5, x6]) (W : World) (hB : Below w.heap.size w W) (A : Addr) (c : Nat) (hc : 1 ≤ c)
    (h0 : W.cell? (A.add 0) = some x0) (h1 : W.cell? (A.add 1) = some x1) (h2 : W.cell? (A.add 2) = some x2) (h3 : W.cell? (A.add 3) = some x3) (h4 : W.cell? (A.add 4) = some x4) (h5 : W.cell? (A.add 5) = some x5) (h6 : W.cell? (A.add 6) = some x6) :
    Calls Tryz.prog 9 #[.slice (some A) 1 c] W fun e w' => e = .returned (.bool (heavyV V)) ∧ Below W.heap.size W w' := by
  obtain ⟨k, hk⟩ := isHeavy_f V hV
  have hC : Kd.C kVal W (some A) [V].length [V] := by
    refine ⟨rfl, by simp, fun _ => ⟨A, rfl, fun j p hj => ?_⟩⟩
    cases j with
    | zero =>
      simp at hj
      subst hj
      refine ⟨[x0, x1, x2, x3, x4, x5, x6], rfl, kVal.K_below hB hK, fun i u hu => ?_⟩
      rw [Nat.zero_mul, Nat.zero_add]
      match i, hu with
      | 0, hu => simp at hu; exact hu ▸ h0
      | 1, hu => simp at hu; exact hu ▸ h1
      | 2, hu => simp at hu; exact hu ▸ h2
      | 3, hu => simp at hu; exact hu ▸ h3
      | 4, hu => simp at hu; exact hu ▸ h4
      | 5, hu => simp at hu; exact hu ▸ h5
      | 6, hu => simp at hu; exact hu ▸ h6
      | n + 7, hu => simp at hu
    | succ j => simp at hj
  exact laws_isHeavy.calls k (some A) c [V] _ W hC (by simpa using hc) hk

end Go.Proofs.YtnpiheoglilcbaaGreatDoor
