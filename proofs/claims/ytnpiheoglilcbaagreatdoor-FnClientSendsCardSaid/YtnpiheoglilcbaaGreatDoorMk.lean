/- How right values are told by their bytes; bytes held against bytes. No condition. -/
import Derived.Test.YtnpiheoglilcbaaGreatDoorMj
import Derived.Test.YtnpiheoglilcbaaGreatDoorMg
import Derived.Test.YtnpiheoglilcbaaGreatDoorMc
import Derived.Below
import Derived.Deep.Draws
import Derived.Deep.AppendLies
import Derived.Maps.AppendAt
import Derived.OwnWalk
import Derived.Laws.BytesArg
import Derived.Laws.MakeOwn
import Derived.Laws.OwnMore
import Derived.Deep.OwnRows
import Derived.Tactics
import Derived.Lib.ConvBytes
import Derived.Laws.Slices
import Derived.WalkKit
import Derived.KernelRfl
import Derived.RowKit3
import Derived.Deep.LoopGhost
import Derived.Deep.QuietTactic
import Derived.BigQuiet
import Derived.WideLaws
import Derived.Deep.DeepCutAuto
import Derived.Deep.CutBlock
import Derived.Deep.RegionHeld3
import Derived.Laws.Rows
import Derived.Lib.AppendStr
import Derived.ArgAppend
import Derived.Laws.IdiomCopy
import Derived.OrdersHeld
import Derived.Laws.BitsLemmas
import Derived.RowKit
import Derived.Test.YtnpiheoglilcbaaGreatDoorWWords
import Derived.Test.YtnpiheoglilcbaaGreatDoorWLast
import Derived.Test.YtnpiheoglilcbaaGreatDoorWTab
import Derived.Test.YtnpiheoglilcbaaGreatDoorWFour
import Derived.Test.YtnpiheoglilcbaaGreatDoorWQPut
import Derived.Test.YtnpiheoglilcbaaGreatDoorWApart
import Derived.Test.YtnpiheoglilcbaaGreatDoorWArr
import Derived.Test.YtnpiheoglilcbaaGreatDoorWZeros
import Derived.Test.YtnpiheoglilcbaaGreatDoorWFoot
import Derived.Test.YtnpiheoglilcbaaGreatDoorWKept
import Derived.Test.YtnpiheoglilcbaaGreatDoorWShare
import Derived.Test.YtnpiheoglilcbaaGreatDoorWN
import Derived.Test.YtnpiheoglilcbaaGreatDoorWFootNe
import Derived.Test.YtnpiheoglilcbaaGreatDoorWAt
import Derived.Test.YtnpiheoglilcbaaGreatDoorWEqStruct
import Derived.Test.YtnpiheoglilcbaaGreatDoorWRepsOne
import Derived.Test.YtnpiheoglilcbaaGreatDoorWInv
import Derived.Test.YtnpiheoglilcbaaGreatDoorWInvWords
import Derived.Test.YtnpiheoglilcbaaGreatDoorWGuard
import Derived.Test.YtnpiheoglilcbaaGreatDoorWNEv
import Derived.Test.YtnpiheoglilcbaaGreatDoorWMore
import Derived.Test.YtnpiheoglilcbaaGreatDoorMb
/-! How right values are told by their bytes, whatever the protocol: no text begins another one. Plain, no program. -/
namespace Go.Proofs.YtnpiheoglilcbaaGreatDoor
open Go.RowKit
set_option linter.unusedVariables false
set_option linter.unusedSimpArgs false

/-- The bytes of single things by a protocol: a number or a text of a type; the head of a field (behind another one; with the value of a bool, if inl); the head of a list or a set; that of a map. -/
structure Codec where
  leaf : Int → Int → List UInt8 → List UInt8
  field : Int → Int → Int → Int → List UInt8
  inl : Bool
  coll : Int → Nat → List UInt8
  map : Int → Int → Nat → List UInt8

mutual
/-- The bytes of a value. -/
def gen (C : Codec) : Val → List UInt8
  | ⟨t, n, s, k, e, ids, l⟩ =>
    if t = 12 then genF C 0 l ids
    else if t = 13 then C.map k e (l.length / 2) ++ genL C l
    else if t = 14 ∨ t = 15 then C.coll e l.length ++ genL C l
    else C.leaf t n (toB s)
def genL (C : Codec) : List Val → List UInt8
  | [] => []
  | v :: l => gen C v ++ genL C l
def genF (C : Codec) : Int → List Val → List Int → List UInt8
  | _, [], _ => [0]
  | _, _ :: _, [] => [0]
  | last, v :: l, i :: ids => C.field last v.f0 (w16 i) v.f1 ++ ((if C.inl = true ∧ v.f0 = 2 then [] else gen C v) ++ genF C (w16 i) l ids)
end

def in16 (x : Int) : Prop := -32768 ≤ x ∧ x < 32768

theorem w16_in (x : Int) : in16 (w16 x) := by unfold in16 w16; omega

def isLeaf (t : Int) : Prop := isT t = true ∧ t ≠ 12 ∧ t ≠ 13 ∧ t ≠ 14 ∧ t ≠ 15

/-- Each single thing is told by its own bytes. -/
structure Codec.Told (C : Codec) : Prop where
  leaf : ∀ (t n n' : Int) (s s' a b : List UInt8), isLeaf t → s.length ≤ 65536 → s'.length ≤ 65536 → C.leaf t n s ++ a = C.leaf t n' s' ++ b → C.leaf t n s = C.leaf t n' s' ∧ a = b
  field : ∀ (last t t' id id' n n' : Int) (a b : List UInt8), in16 last → isT t = true → isT t' = true → in16 id → in16 id' → C.field last t id n ++ a = C.field last t' id' n' ++ b → t = t' ∧ id = id' ∧ C.field last t id n = C.field last t' id' n' ∧ a = b
  stop : ∀ (last t id n : Int) (a b : List UInt8), isT t = true → in16 id → C.field last t id n ++ a = 0 :: b → False
  coll : ∀ (e e' : Int) (n n' : Nat) (a b : List UInt8), isT e = true → isT e' = true → n ≤ 65536 → n' ≤ 65536 → C.coll e n ++ a = C.coll e' n' ++ b → e = e' ∧ n = n' ∧ a = b
  map : ∀ (k k' e e' : Int) (n n' : Nat) (a b : List UInt8), (n ≠ 0 → isT k = true ∧ isT e = true) → (n' ≠ 0 → isT k' = true ∧ isT e' = true) → n ≤ 65536 → n' ≤ 65536 → C.map k e n ++ a = C.map k' e' n' ++ b →
    n = n' ∧ (n ≠ 0 → k = k' ∧ e = e') ∧ C.map k e n = C.map k' e' n' ∧ a = b

/-- What a right value is. -/
theorem right_is {t n k e : Int} {s ids : List Int} {l : List Val} (h : rightV ⟨t, n, s, k, e, ids, l⟩ = true) : isT t = true ∧ (t = 12 → ids.length = l.length ∧ rightL 12 k e 0 l = true) ∧ (t = 13 → l.length % 2 = 0 ∧ (l.length ≠ 0 → isT k = true ∧ isT e = true) ∧ rightL 13 k e 0 l = true) ∧
    (t = 14 ∨ t = 15 → isT e = true ∧ rightL t k e 0 l = true) := by
  simp only [rightV, Bool.and_eq_true, Bool.or_eq_true, Bool.not_eq_true', decide_eq_true_eq, Bool.and_eq_false_iff, decide_eq_false_iff_not] at h
  obtain ⟨⟨⟨hT, h12⟩, h13⟩, hr⟩ := h
  refine ⟨hT, ?_, ?_, ?_⟩
  · rintro rfl
    refine ⟨by omega, ?_⟩
    rcases hr with (hr | hr) | hr
    · omega
    · omega
    · exact hr.2
  · rintro rfl
    refine ⟨by omega, ?_⟩
    rcases hr with (hr | hr) | hr
    · omega
    · have hl : l = [] := List.eq_nil_of_length_eq_zero hr.1.1.2
      subst hl
      exact ⟨by simp, by simp [rightL]⟩
    · refine ⟨fun _ => ⟨?_, ?_⟩, hr.2⟩
      · rcases hr.1.2 with h | h
        · exact absurd rfl h
        · exact h
      · rcases hr.1.1 with h | h
        · omega
        · exact h
  · intro ht
    rcases hr with (hr | hr) | hr
    · omega
    · omega
    · refine ⟨?_, hr.2⟩
      rcases hr.1.1 with h | h
      · omega
      · exact h

theorem right_type {v : Val} (h : rightV v = true) : isT v.f0 = true := by
  obtain ⟨t, n, s, k, e, ids, l⟩ := v
  exact (right_is h).1

theorem totL_len : ∀ (l : List Val), 8 * l.length ≤ totL l
  | [] => by simp [totL]
  | v :: l => by have := totL_len l; simp only [List.length_cons, totL]; omega

/-- What a list's elements are does not hang on k, unless it is a map's. -/
theorem rightL_k {t k k' e : Int} (h13 : ¬ t = 13) : ∀ {l : List Val} {i : Nat}, rightL t k' e i l = true → rightL t k e i l = true
  | [], i, h => by simp [rightL]
  | v :: l, i, h => by
    simp only [rightL, Bool.and_eq_true] at h ⊢
    refine ⟨⟨?_, h.1.2⟩, rightL_k h13 h.2⟩
    have e1 : ∀ x : Int, (if t = 13 ∧ i % 2 = 0 then x else e) = e := fun x => if_neg (fun hh => h13 hh.1)
    rw [e1]
    have := h.1.1
    rwa [e1] at this

mutual
theorem gen_told (C : Codec) (hC : C.Told) : ∀ (V : Val), rightV V = true → tot V ≤ 65536 → ∀ U : Val, rightV U = true → tot U ≤ 65536 → V.f0 = U.f0 → ∀ a b : List UInt8, gen C V ++ a = gen C U ++ b → gen C V = gen C U ∧ a = b
  | ⟨t, n, s, k, e, ids, l⟩, hV, hv, ⟨t', n', s', k', e', ids', l'⟩, hU, hu, ht, a, b, h => by
    dsimp only at ht
    subst ht
    obtain ⟨hT, v12, v13, v14⟩ := right_is hV
    obtain ⟨-, u12, u13, u14⟩ := right_is hU
    simp only [tot] at hv hu
    have hl := totL_len l
    have hl' := totL_len l'
    by_cases h12 : t = 12
    · subst h12
      simp only [gen, if_true] at h ⊢
      exact genF_told C hC l k e 0 (v12 rfl).2 (by omega) l' k' e' 0 (u12 rfl).2 (by omega) 0 ids ids' (v12 rfl).1 (u12 rfl).1 ⟨by decide, by decide⟩ a b h
    by_cases h13 : t = 13
    · subst h13
      have e1 : ¬ (13 : Int) = 12 := by decide
      simp only [gen, if_neg e1, if_true, List.append_assoc] at h ⊢
      obtain ⟨q1, q2, q3⟩ := v13 rfl
      obtain ⟨p1, p2, p3⟩ := u13 rfl
      obtain ⟨g1, g2, g3, g4⟩ := hC.map k k' e e' (l.length / 2) (l'.length / 2) _ _ (fun h0 => q2 (by omega)) (fun h0 => p2 (by omega)) (by omega) (by omega) h
      have hlen : l.length = l'.length := by omega
      by_cases h0 : l.length / 2 = 0
      · have e2 : l = [] := List.eq_nil_of_length_eq_zero (by omega)
        have e3 : l' = [] := List.eq_nil_of_length_eq_zero (by omega)
        subst e2 e3
        simp only [genL, List.nil_append] at g4
        exact ⟨by rw [g3], g4⟩
      · obtain ⟨rfl, rfl⟩ := g2 h0
        obtain ⟨f1, f2⟩ := genL_told C hC l 13 k e 0 (by decide) q3 (by omega) l' p3 (by omega) hlen a b g4
        exact ⟨by rw [g3, f1], f2⟩
    by_cases h14 : t = 14 ∨ t = 15
    · simp only [gen, if_neg h12, if_neg h13, if_pos h14, List.append_assoc] at h ⊢
      obtain ⟨q1, q2⟩ := v14 h14
      obtain ⟨p1, p2⟩ := u14 h14
      obtain ⟨g1, g2, g3⟩ := hC.coll e e' l.length l'.length _ _ q1 p1 (by omega) (by omega) h
      subst g1
      -- what a list's elements are does not hang on k
      obtain ⟨f1, f2⟩ := genL_told C hC l t k e 0 h12 q2 (by omega) l' (rightL_k h13 p2) (by omega) g2 a b g3
      exact ⟨by rw [g2, f1], f2⟩
    · simp only [gen, if_neg h12, if_neg h13, if_neg h14] at h ⊢
      exact hC.leaf t n n' (toB s) (toB s') a b ⟨hT, h12, h13, fun h => h14 (.inl h), fun h => h14 (.inr h)⟩ (by rw [toB_len]; omega) (by rw [toB_len]; omega) h
theorem genL_told (C : Codec) (hC : C.Told) : ∀ (l : List Val) (t k e : Int) (i : Nat), t ≠ 12 → rightL t k e i l = true → totL l ≤ 65536 → ∀ l' : List Val, rightL t k e i l' = true → totL l' ≤ 65536 → l.length = l'.length → ∀ a b : List UInt8, genL C l ++ a = genL C l' ++ b → genL C l = genL C l' ∧ a = b
  | [], t, k, e, i, ht, hr, hv, [], hr', hv', hlen, a, b, h => ⟨rfl, by simpa [genL] using h⟩
  | [], t, k, e, i, ht, hr, hv, u :: l', hr', hv', hlen, a, b, h => by simp at hlen
  | v :: l, t, k, e, i, ht, hr, hv, [], hr', hv', hlen, a, b, h => by simp at hlen
  | v :: l, t, k, e, i, ht, hr, hv, u :: l', hr', hv', hlen, a, b, h => by
    simp only [rightL, Bool.and_eq_true, Bool.or_eq_true, decide_eq_true_eq] at hr hr'
    simp only [totL] at hv hv'
    simp only [List.length_cons] at hlen
    have hty : v.f0 = u.f0 := by
      rcases hr.1.1 with h1 | h1
      · exact absurd h1 ht
      · rcases hr'.1.1 with h2 | h2
        · exact absurd h2 ht
        · rw [h1, h2]
    simp only [genL, List.append_assoc] at h ⊢
    obtain ⟨g1, g2⟩ := gen_told C hC v hr.1.2 (by omega) u hr'.1.2 (by omega) hty _ _ h
    obtain ⟨f1, f2⟩ := genL_told C hC l t k e (i + 1) ht hr.2 (by omega) l' hr'.2 (by omega) (by omega) a b g2
    exact ⟨by rw [g1, f1], f2⟩
theorem genF_told (C : Codec) (hC : C.Told) : ∀ (l : List Val) (k e : Int) (i : Nat), rightL 12 k e i l = true → totL l ≤ 65536 → ∀ (l' : List Val) (k' e' : Int) (i' : Nat), rightL 12 k' e' i' l' = true → totL l' ≤ 65536 → ∀ (last : Int) (ids ids' : List Int), ids.length = l.length → ids'.length = l'.length → in16 last → ∀ a b : List UInt8,
    genF C last l ids ++ a = genF C last l' ids' ++ b → genF C last l ids = genF C last l' ids' ∧ a = b
  | [], k, e, i, hr, hv, [], k', e', i', hr', hv', last, ids, ids', hi, hi', h0, a, b, h => ⟨by simp [genF], by simpa [genF] using h⟩
  | [], k, e, i, hr, hv, u :: l', k', e', i', hr', hv', last, ids, [], hi, hi', h0, a, b, h => by simp at hi'
  | [], k, e, i, hr, hv, u :: l', k', e', i', hr', hv', last, ids, y :: ids', hi, hi', h0, a, b, h => by
    simp only [rightL, Bool.and_eq_true] at hr'
    simp only [genF, List.append_assoc, List.cons_append, List.nil_append] at h
    exact (hC.stop last u.f0 (w16 y) u.f1 _ _ (right_type hr'.1.2) (w16_in y) h.symm).elim
  | v :: l, k, e, i, hr, hv, l', k', e', i', hr', hv', last, [], ids', hi, hi', h0, a, b, h => by simp at hi
  | v :: l, k, e, i, hr, hv, [], k', e', i', hr', hv', last, x :: ids, ids', hi, hi', h0, a, b, h => by
    simp only [rightL, Bool.and_eq_true] at hr
    simp only [genF, List.append_assoc, List.cons_append, List.nil_append] at h
    exact (hC.stop last v.f0 (w16 x) v.f1 _ _ (right_type hr.1.2) (w16_in x) h).elim
  | v :: l, k, e, i, hr, hv, u :: l', k', e', i', hr', hv', last, x :: ids, [], hi, hi', h0, a, b, h => by simp at hi'
  | v :: l, k, e, i, hr, hv, u :: l', k', e', i', hr', hv', last, x :: ids, y :: ids', hi, hi', h0, a, b, h => by
    simp only [rightL, Bool.and_eq_true] at hr hr'
    simp only [totL] at hv hv'
    simp only [List.length_cons] at hi hi'
    simp only [genF, List.append_assoc] at h ⊢
    obtain ⟨g1, g2, g3, g4⟩ := hC.field last v.f0 u.f0 (w16 x) (w16 y) v.f1 u.f1 _ _ h0 (right_type hr.1.2) (right_type hr'.1.2) (w16_in x) (w16_in y) h
    rw [g3, ← g2, ← g1]
    rw [← g2, ← g1] at g4
    by_cases hb : C.inl = true ∧ v.f0 = 2
    · rw [if_pos hb, if_pos hb] at g4
      rw [if_pos hb, if_pos hb]
      obtain ⟨f1, f2⟩ := genF_told C hC l k e (i + 1) hr.2 (by omega) l' k' e' (i' + 1) hr'.2 (by omega) (w16 x) ids ids' (by omega) (by omega) (w16_in x) a b g4
      exact ⟨by rw [f1], f2⟩
    · rw [if_neg hb, if_neg hb] at g4
      rw [if_neg hb, if_neg hb]
      obtain ⟨q1, q2⟩ := gen_told C hC v hr.1.2 (by omega) u hr'.1.2 (by omega) g1 _ _ g4
      obtain ⟨f1, f2⟩ := genF_told C hC l k e (i + 1) hr.2 (by omega) l' k' e' (i' + 1) hr'.2 (by omega) (w16 x) ids ids' (by omega) (by omega) (w16_in x) a b q2
      exact ⟨by rw [q1, f1], f2⟩
end

/-- The bytes of no right value begin those of another one of its type. -/
theorem gen_none (C : Codec) (hC : C.Told) (V U : Val) (hV : rightV V = true) (hv : tot V ≤ 65536) (hU : rightV U = true) (hu : tot U ≤ 65536) (ht : V.f0 = U.f0) (hlt : (gen C V).length < (gen C U).length) : gen C V ≠ (gen C U).take (gen C V).length := by
  intro h
  have h1 : gen C V ++ (gen C U).drop (gen C V).length = gen C U ++ [] := by
    rw [List.append_nil]
    conv => rhs; rw [← List.take_append_drop (gen C V).length (gen C U)]
    rw [← h]
  obtain ⟨g1, -⟩ := gen_told C hC V hV hv U hU hu ht _ _ h1
  rw [g1] at hlt
  omega

end Go.Proofs.YtnpiheoglilcbaaGreatDoor

/-! The binary protocol's bytes of right values, in plain words; each is told by its own bytes. Plain, no program. -/
namespace Go.Proofs.YtnpiheoglilcbaaGreatDoor
open Go.RowKit
set_option linter.unusedVariables false
set_option linter.unusedSimpArgs false

theorem binAll_cons (b : Bool) (o : WOp) (l : List WOp) : binAll b (o :: l) = binO b o ++ binAll b l := by simp [binAll]
theorem binAll_append (b : Bool) (l m : List WOp) : binAll b (l ++ m) = binAll b l ++ binAll b m := by simp [binAll]
theorem binAll_nil (b : Bool) : binAll b [] = [] := rfl

/-- The binary protocol. -/
def CB : Codec where
  leaf := fun t n s =>
    if t = 2 then [if n != 0 then 1 else 0] else if t = 3 then [u8 (w8 n)] else if t = 4 then be 8 ((IntKind.u64.wrap n).toNat : Nat) else if t = 6 then be 2 (w16 n) else if t = 8 then be 4 (wrap32 n) else if t = 10 then be 8 n
    else if t = 11 then bText s else u16 s
  field := fun _ t id _ => u8 t :: be 2 id
  inl := false
  coll := fun e n => u8 e :: be 4 n
  map := fun k e n => u8 k :: u8 e :: be 4 n

theorem app_len {x y a b : List UInt8} (h : x ++ a = y ++ b) (hl : x.length = y.length) : x = y ∧ a = b := List.append_inj h hl

theorem be_nat (k : Nat) (n : Nat) (h : n < 256 ^ k) : be k (n : Int) = Lib.beBytes k n := by
  unfold be
  congr 1
  have e : ((n : Int) % (256 : Int) ^ k) = n := by
    have e1 : (256 : Int) ^ k = ((256 ^ k : Nat) : Int) := by simp
    rw [e1]
    exact Int.emod_eq_of_lt (by omega) (by omega)
  rw [e]
  simp

theorem be_inj (k n m : Nat) (hn : n < 256 ^ k) (hm : m < 256 ^ k) (h : be k (n : Int) = be k (m : Int)) : n = m := by
  rw [be_nat k n hn, be_nat k m hm] at h
  unfold Lib.beBytes at h
  have h1 := List.reverse_inj.1 h
  have h2 := Lib.leNat_leBytes k n hn
  rw [h1, Lib.leNat_leBytes k m hm] at h2
  exact h2.symm

theorem u8_inj {n m : Int} (hn : 0 ≤ n ∧ n < 256) (hm : 0 ≤ m ∧ m < 256) (h : u8 n = u8 m) : n = m := by
  have h1 : ((n % 256).toNat.toUInt8).toNat = ((m % 256).toNat.toUInt8).toNat := by
    have := congrArg UInt8.toNat h
    exact this
  have e1 : ((n % 256).toNat.toUInt8).toNat = (n % 256).toNat % 256 := rfl
  have e2 : ((m % 256).toNat.toUInt8).toNat = (m % 256).toNat % 256 := rfl
  rw [e1, e2] at h1
  omega

theorem isT_is {t : Int} (h : isT t = true) : t = 2 ∨ t = 3 ∨ t = 4 ∨ t = 6 ∨ t = 8 ∨ t = 10 ∨ t = 11 ∨ t = 12 ∨ t = 13 ∨ t = 14 ∨ t = 15 ∨ t = 16 := by
  have := of_decide_eq_true h
  omega

theorem isT_lt {t : Int} (h : isT t = true) : 0 ≤ t ∧ t < 256 := by have := isT_is h; omega

theorem CB_told : CB.Told where
  leaf := by
    intro t n n' s s' a b ht hs hs' h
    have hT := isT_is ht.1
    obtain ⟨_, h12, h13, h14, h15⟩ := ht
    simp only [CB] at h ⊢
    by_cases h11 : t = 11
    · subst h11
      simp only [show ¬ (11 : Int) = 2 by decide, show ¬ (11 : Int) = 3 by decide, show ¬ (11 : Int) = 4 by decide, show ¬ (11 : Int) = 6 by decide, show ¬ (11 : Int) = 8 by decide, show ¬ (11 : Int) = 10 by decide, if_false, if_true, bText, List.append_assoc] at h ⊢
      obtain ⟨g1, g2⟩ := app_len h (by simp [be_length])
      have hl := be_inj 4 s.length s'.length (by omega) (by omega) g1
      obtain ⟨g3, g4⟩ := app_len g2 hl
      exact ⟨by rw [g1, g3], g4⟩
    · rw [if_neg h11, if_neg h11] at h ⊢
      refine app_len h ?_
      (repeat' split) <;> simp [be_length, u16_length]
  field := by
    intro last t t' id id' n n' a b h0 ht ht' hi hi' h
    simp only [CB, List.cons_append] at h ⊢
    injection h with h1 h2
    obtain ⟨g1, g2⟩ := app_len h2 (by simp [be_length])
    have e1 := u8_inj (isT_lt ht) (isT_lt ht') h1
    have e2 : id = id' := by
      unfold in16 at hi hi'
      have q1 : be 2 id = be 2 (((id % 65536).toNat : Nat) : Int) := by
        unfold be
        have e : (256 : Int) ^ 2 = 65536 := by decide
        rw [e]; congr 1; omega
      have q2 : be 2 id' = be 2 (((id' % 65536).toNat : Nat) : Int) := by
        unfold be
        have e : (256 : Int) ^ 2 = 65536 := by decide
        rw [e]; congr 1; omega
      rw [q1, q2] at g1
      have := be_inj 2 _ _ (by omega) (by omega) g1
      omega
    exact ⟨e1, e2, by rw [h1, g1], g2⟩
  stop := by
    intro last t id n a b ht hi h
    simp only [CB, List.cons_append] at h
    injection h with h1 h2
    have := u8_inj (isT_lt ht) (m := 0) (by omega) (h1.trans rfl)
    have := isT_is ht
    omega
  coll := by
    intro e e' n n' a b he he' hn hn' h
    simp only [CB, List.cons_append] at h
    injection h with h1 h2
    obtain ⟨g1, g2⟩ := app_len h2 (by simp [be_length])
    exact ⟨u8_inj (isT_lt he) (isT_lt he') h1, be_inj 4 n n' (by omega) (by omega) g1, g2⟩
  map := by
    intro k k' e e' n n' a b hk hk' hn hn' h
    simp only [CB, List.cons_append] at h ⊢
    injection h with h1 h2
    injection h2 with h2 h3
    obtain ⟨g1, g2⟩ := app_len h3 (by simp [be_length])
    have hnn := be_inj 4 n n' (by omega) (by omega) g1
    exact ⟨hnn, fun h0 => ⟨u8_inj (isT_lt (hk h0).1) (isT_lt (hk' (by omega)).1) h1, u8_inj (isT_lt (hk h0).2) (isT_lt (hk' (by omega)).2) h2⟩, by rw [h1, h2, g1], g2⟩

mutual
/-- What the calls of a right value write. -/
theorem bin_gen (b : Bool) : ∀ (v : Val), rightV v = true → binAll b (ops v) = gen CB v
  | ⟨t, n, s, k, e, ids, l⟩, h => by
    obtain ⟨hT, h12, h13, h14⟩ := right_is h
    have hTT := isT_is hT
    have hm : t % 256 = t := by omega
    simp only [ops, hm, gen, CB]
    by_cases h2 : t = 2
    · subst h2
      simp [binAll_cons, binAll_nil, binO, binOut]
    by_cases h3 : t = 3
    · subst h3
      simp [binAll_cons, binAll_nil, binO, binOut]
    by_cases h4 : t = 4
    · subst h4
      simp [binAll_cons, binAll_nil, binO, binOut]
    by_cases h6 : t = 6
    · subst h6
      simp [binAll_cons, binAll_nil, binO, binOut]
    by_cases h8 : t = 8
    · subst h8
      simp [binAll_cons, binAll_nil, binO, binOut]
    by_cases h10 : t = 10
    · subst h10
      simp [binAll_cons, binAll_nil, binO, binOut]
    by_cases h11 : t = 11
    · subst h11
      simp [binAll_cons, binAll_nil, binO, binOut]
    by_cases h16 : t = 16
    · subst h16
      simp [binAll_cons, binAll_nil, binO, binOut, List.take_of_length_le (Nat.le_of_eq (u16_length (toB s)))]
    by_cases g12 : t = 12
    · subst g12
      have hF := bin_genF b l 12 k e 0 (h12 rfl).2 0 ids (h12 rfl).1
      simp [binAll_cons, binAll_append, binAll_nil, binO, binOut]
      simpa [CB] using hF
    by_cases g13 : t = 13
    · subst g13
      have hL := bin_genL b l 13 k e 0 (h13 rfl).2.2
      have h0 := (h13 rfl).1
      have hl2 : l.length / 2 * 2 = l.length := by omega
      have hke : u8 (k % 256) = u8 k ∧ u8 (e % 256) = u8 e := by
        unfold u8
        constructor <;> (congr 2; omega)
      simp [binAll_cons, binAll_append, binAll_nil, binO, binOut, hl2, hke.1, hke.2]
      simpa [CB] using hL
    have g14 : t = 14 ∨ t = 15 := by omega
    have hL := bin_genL b l t k e 0 (h14 g14).2
    have he : u8 (e % 256) = u8 e := by
      unfold u8
      congr 2; omega
    rcases g14 with rfl | rfl
    · simp [binAll_cons, binAll_append, binAll_nil, binO, binOut, he]
      simpa [CB] using hL
    · simp [binAll_cons, binAll_append, binAll_nil, binO, binOut, he]
      simpa [CB] using hL
theorem bin_genL (b : Bool) : ∀ (l : List Val) (t k e : Int) (i : Nat), rightL t k e i l = true → binAll b (opsL l l.length) = genL CB l
  | [], t, k, e, i, h => by simp [opsL, binAll_nil, genL]
  | v :: l, t, k, e, i, h => by
    simp only [rightL, Bool.and_eq_true] at h
    have h1 := bin_gen b v h.1.2
    have h2 := bin_genL b l t k e (i + 1) h.2
    simp only [List.length_cons, opsL, binAll_append, genL, h1, h2]
theorem bin_genF (b : Bool) : ∀ (l : List Val) (t k e : Int) (i : Nat), rightL t k e i l = true → ∀ (last : Int) (ids : List Int), ids.length = l.length → binAll b (opsF l ids) ++ [0] = genF CB last l ids
  | [], t, k, e, i, h, last, ids, hn => by simp [opsF, binAll_nil, genF]
  | v :: l, t, k, e, i, h, last, [], hn => by simp at hn
  | v :: l, t, k, e, i, h, last, x :: ids, hn => by
    simp only [rightL, Bool.and_eq_true] at h
    simp only [List.length_cons] at hn
    have h1 := bin_gen b v h.1.2
    have h2 := bin_genF b l t k e (i + 1) h.2 (w16 x) ids (by omega)
    have ht := isT_lt (right_type h.1.2)
    have hm : v.f0 % 256 = v.f0 := by omega
    simp only [opsF, binAll_cons, binAll_append, genF, binO, binOut, h1, hm, List.append_assoc, List.nil_append, h2]
    simp [CB]
end

end Go.Proofs.YtnpiheoglilcbaaGreatDoor

/-! The compact protocol's bytes of right values, in plain words; each is told by its own bytes. Plain, no program. -/
namespace Go.Proofs.YtnpiheoglilcbaaGreatDoor
open Go.RowKit
set_option linter.unusedVariables false
set_option linter.unusedSimpArgs false

/-- The compact protocol. -/
def CC : Codec where
  leaf := fun t n s =>
    if t = 2 then [if n != 0 then 1 else 2] else if t = 3 then [u8 (w8 n)] else if t = 4 then le8 (IntKind.u64.wrap n).toNat else if t = 6 then Lib.uvarint (Lib.zigzag (w16 n)) else if t = 8 then Lib.uvarint (Lib.zigzag (wrap32 n)) else if t = 10 then Lib.uvarint (Lib.zigzag n)
    else if t = 11 then cText s else u16 s
  field := fun last t id n => cHead last id (if t = 2 then (if n != 0 then 1 else 2) else cCode t)
  inl := true
  coll := fun e n => if n ≤ 14 then [(n * 16 + cCode e).toUInt8] else (240 + cCode e).toUInt8 :: Lib.uvarint n
  map := fun k e n => if n = 0 then [0] else Lib.uvarint n ++ [(cCode k * 16 + cCode e).toUInt8]

theorem b8_inj {x y : Nat} (hx : x < 256) (hy : y < 256) (h : x.toUInt8 = y.toUInt8) : x = y := by
  have h1 := congrArg UInt8.toNat h
  have e1 : x.toUInt8.toNat = x % 256 := rfl
  have e2 : y.toUInt8.toNat = y % 256 := rfl
  rw [e1, e2] at h1
  omega

/-- No number of seven bits a byte begins another one. -/
theorem uv_told : ∀ (x y : Nat) (a b : List UInt8), Lib.uvarint x ++ a = Lib.uvarint y ++ b → x = y ∧ a = b := by
  intro x
  induction x using Nat.strongRecOn with
  | _ x ih =>
    intro y a b h
    by_cases hx : x < 128
    · by_cases hy : y < 128
      · rw [Lib.uvarint_small hx, Lib.uvarint_small hy] at h
        simp only [List.cons_append, List.nil_append] at h
        injection h with h1 h2
        exact ⟨b8_inj (by omega) (by omega) h1, h2⟩
      · rw [Lib.uvarint_small hx, Lib.uvarint_big (x := y) (by omega)] at h
        simp only [List.cons_append, List.nil_append] at h
        injection h with h1 h2
        have := b8_inj (by omega) (by omega) h1
        omega
    · by_cases hy : y < 128
      · rw [Lib.uvarint_big (x := x) (by omega), Lib.uvarint_small hy] at h
        simp only [List.cons_append, List.nil_append] at h
        injection h with h1 h2
        have := b8_inj (by omega) (by omega) h1
        omega
      · rw [Lib.uvarint_big (x := x) (by omega), Lib.uvarint_big (x := y) (by omega)] at h
        simp only [List.cons_append] at h
        injection h with h1 h2
        have e1 := b8_inj (by omega) (by omega) h1
        obtain ⟨e2, e3⟩ := ih (x / 128) (by omega) (y / 128) a b h2
        exact ⟨by omega, e3⟩

/-- The type of a number. -/
def cType (c : Nat) : Int :=
  if c = 1 then 2 else if c = 2 then 2 else if c = 3 then 3 else if c = 4 then 6 else if c = 5 then 8 else if c = 6 then 10 else if c = 7 then 4 else if c = 8 then 11 else if c = 9 then 15 else if c = 10 then 14 else if c = 11 then 13 else if c = 12 then 12 else 16

theorem cType_of {t : Int} (h : isT t = true) : cType (cCode t) = t := by
  rcases isT_is h with rfl | rfl | rfl | rfl | rfl | rfl | rfl | rfl | rfl | rfl | rfl | rfl <;> rfl

theorem cCode_pos {t : Int} (h : isT t = true) : 1 ≤ cCode t := by
  rcases isT_is h with rfl | rfl | rfl | rfl | rfl | rfl | rfl | rfl | rfl | rfl | rfl | rfl <;> decide

theorem cCode_inj {t u : Int} (h : isT t = true) (h' : isT u = true) (e : cCode t = cCode u) : t = u := by
  rw [← cType_of h, ← cType_of h', e]

/-- The number of a field's type; with a bool's value. -/
def fCode (t n : Int) : Nat := if t = 2 then (if n != 0 then 1 else 2) else cCode t

theorem fCode_le {t : Int} (n : Int) (h : isT t = true) : 1 ≤ fCode t n ∧ fCode t n ≤ 13 := by
  have h1 := cCode_pos h
  have h2 := cCode_le t
  unfold fCode
  repeat' split
  all_goals omega

theorem fCode_type {t : Int} (n : Int) (h : isT t = true) : cType (fCode t n) = t := by
  unfold fCode
  by_cases h2 : t = 2
  · subst h2
    rw [if_pos rfl]
    split <;> rfl
  · rw [if_neg h2]
    exact cType_of h

theorem zz_inj {x y : Int} (h : Lib.zigzag x = Lib.zigzag y) : x = y := by
  unfold Lib.zigzag at h
  split at h <;> split at h <;> omega

theorem cHead_told {last id id' : Int} {c c' : Nat} {a b : List UInt8} (hc : 1 ≤ c ∧ c ≤ 13) (hc' : 1 ≤ c' ∧ c' ≤ 13) (h : cHead last id c ++ a = cHead last id' c' ++ b) : c = c' ∧ id = id' ∧ a = b := by
  unfold cHead at h
  by_cases h1 : last < id ∧ id - last ≤ 15
  · rw [if_pos h1] at h
    by_cases h2 : last < id' ∧ id' - last ≤ 15
    · rw [if_pos h2] at h
      simp only [List.cons_append, List.nil_append] at h
      injection h with e1 e2
      have := b8_inj (by omega) (by omega) e1
      exact ⟨by omega, by omega, e2⟩
    · rw [if_neg h2] at h
      simp only [List.cons_append, List.nil_append] at h
      injection h with e1 e2
      have := b8_inj (by omega) (by omega) e1
      omega
  · rw [if_neg h1] at h
    by_cases h2 : last < id' ∧ id' - last ≤ 15
    · rw [if_pos h2] at h
      simp only [List.cons_append, List.nil_append] at h
      injection h with e1 e2
      have := b8_inj (by omega) (by omega) e1
      omega
    · rw [if_neg h2] at h
      simp only [List.cons_append] at h
      injection h with e1 e2
      have := b8_inj (by omega) (by omega) e1
      obtain ⟨e3, e4⟩ := uv_told _ _ _ _ e2
      exact ⟨this, zz_inj e3, e4⟩

theorem cHead_stop {last id : Int} {c : Nat} {a b : List UInt8} (hc : 1 ≤ c ∧ c ≤ 13) (h : cHead last id c ++ a = 0 :: b) : False := by
  unfold cHead at h
  by_cases h1 : last < id ∧ id - last ≤ 15
  · rw [if_pos h1] at h
    simp only [List.cons_append, List.nil_append] at h
    injection h with e1 e2
    have := b8_inj (y := 0) (by omega) (by omega) e1
    omega
  · rw [if_neg h1] at h
    simp only [List.cons_append] at h
    injection h with e1 e2
    have := b8_inj (y := 0) (by omega) (by omega) e1
    omega

theorem CC_told : CC.Told where
  leaf := by
    intro t n n' s s' a b ht hs hs' h
    have hT := isT_is ht.1
    obtain ⟨_, h12, h13, h14, h15⟩ := ht
    simp only [CC] at h ⊢
    by_cases h2 : t = 2
    · simp only [if_pos h2] at h ⊢
      exact app_len h rfl
    simp only [if_neg h2] at h ⊢
    by_cases h3 : t = 3
    · simp only [if_pos h3] at h ⊢
      exact app_len h rfl
    simp only [if_neg h3] at h ⊢
    by_cases h4 : t = 4
    · simp only [if_pos h4] at h ⊢
      exact app_len h (by simp [le8, Lib.leBytes_length])
    simp only [if_neg h4] at h ⊢
    by_cases h6 : t = 6
    · simp only [if_pos h6] at h ⊢
      obtain ⟨g1, g2⟩ := uv_told _ _ _ _ h
      exact ⟨by rw [g1], g2⟩
    simp only [if_neg h6] at h ⊢
    by_cases h8 : t = 8
    · simp only [if_pos h8] at h ⊢
      obtain ⟨g1, g2⟩ := uv_told _ _ _ _ h
      exact ⟨by rw [g1], g2⟩
    simp only [if_neg h8] at h ⊢
    by_cases h10 : t = 10
    · simp only [if_pos h10] at h ⊢
      obtain ⟨g1, g2⟩ := uv_told _ _ _ _ h
      exact ⟨by rw [g1], g2⟩
    simp only [if_neg h10] at h ⊢
    by_cases h11 : t = 11
    · simp only [if_pos h11, cText, List.append_assoc] at h ⊢
      obtain ⟨g1, g2⟩ := uv_told _ _ _ _ h
      obtain ⟨g3, g4⟩ := app_len g2 g1
      exact ⟨by rw [g1, g3], g4⟩
    simp only [if_neg h11] at h ⊢
    exact app_len h (by simp [u16_length])
  field := by
    intro last t t' id id' n n' a b h0 ht ht' hi hi' h
    have h' : cHead last id (fCode t n) ++ a = cHead last id' (fCode t' n') ++ b := h
    obtain ⟨g1, g2, g3⟩ := cHead_told (fCode_le n ht) (fCode_le n' ht') h'
    refine ⟨?_, g2, ?_, g3⟩
    · rw [← fCode_type n ht, ← fCode_type n' ht', g1]
    · show cHead last id (fCode t n) = cHead last id' (fCode t' n')
      rw [g1, g2]
  stop := by
    intro last t id n a b ht hi h
    exact cHead_stop (fCode_le n ht) h
  coll := by
    intro e e' n n' a b he he' hn hn' h
    have p1 := cCode_le e
    have p2 := cCode_le e'
    simp only [CC] at h
    by_cases h1 : n ≤ 14
    · rw [if_pos h1] at h
      by_cases h2 : n' ≤ 14
      · rw [if_pos h2] at h
        simp only [List.cons_append, List.nil_append] at h
        injection h with e1 e2
        have := b8_inj (by omega) (by omega) e1
        exact ⟨cCode_inj he he' (by omega), by omega, e2⟩
      · rw [if_neg h2] at h
        simp only [List.cons_append, List.nil_append] at h
        injection h with e1 e2
        have := b8_inj (by omega) (by omega) e1
        omega
    · rw [if_neg h1] at h
      by_cases h2 : n' ≤ 14
      · rw [if_pos h2] at h
        simp only [List.cons_append, List.nil_append] at h
        injection h with e1 e2
        have := b8_inj (by omega) (by omega) e1
        omega
      · rw [if_neg h2] at h
        simp only [List.cons_append] at h
        injection h with e1 e2
        have := b8_inj (by omega) (by omega) e1
        obtain ⟨e3, e4⟩ := uv_told _ _ _ _ e2
        exact ⟨cCode_inj he he' (by omega), e3, e4⟩
  map := by
    intro k k' e e' n n' a b hk hk' hn hn' h
    have p1 := cCode_le k
    have p2 := cCode_le k'
    have p3 := cCode_le e
    have p4 := cCode_le e'
    have u0 : Lib.uvarint 0 = [0] := Lib.uvarint_small (by omega)
    simp only [CC] at h ⊢
    by_cases h1 : n = 0
    · rw [if_pos h1] at h ⊢
      by_cases h2 : n' = 0
      · rw [if_pos h2] at h ⊢
        simp only [List.cons_append, List.nil_append] at h
        injection h with e1 e2
        exact ⟨by omega, fun h0 => absurd h1 h0, rfl, e2⟩
      · rw [if_neg h2, ← u0, List.append_assoc] at h
        have := (uv_told _ _ _ _ h).1
        omega
    · rw [if_neg h1] at h ⊢
      by_cases h2 : n' = 0
      · rw [if_pos h2, ← u0, List.append_assoc] at h
        have := (uv_told _ _ _ _ h).1
        omega
      · rw [if_neg h2] at h ⊢
        simp only [List.append_assoc, List.cons_append, List.nil_append] at h
        obtain ⟨g1, g2⟩ := uv_told _ _ _ _ h
        injection g2 with g3 g4
        have := b8_inj (by omega) (by omega) g3
        exact ⟨g1, fun _ => ⟨cCode_inj (hk h1).1 (hk' h2).1 (by omega), cCode_inj (hk h1).2 (hk' h2).2 (by omega)⟩, by rw [g1, g3], g4⟩

/-- One call more. -/
theorem step_c {s s1 : CW} {a x : List UInt8} {o : WOp} {l : List WOp} {r : (CW × List UInt8) × Nat} (hs : okW s) (hf : o.fit) (h : cmpRun s o = (s1, x, 0)) (hn : runs cmpStep l (s1, a ++ x) = r) : runs cmpStep (o :: l) (s, a) = r := by
  have hx : cmpO s o = x := by rw [cmpO_fit s hs o hf, h]
  have e : cmpStep (s, a) o = ((s1, a ++ x), 0) := by
    unfold cmpStep
    dsimp only
    rw [hx, h]
  simp only [runs, e, if_true]
  exact hn

theorem w8_fit (n : Int) : (WOp.byte (w8 n)).fit := by show -128 ≤ w8 n ∧ w8 n < 128; unfold w8; omega
theorem w16_fit (n : Int) : (WOp.i16 (w16 n)).fit := by show -32768 ≤ w16 n ∧ w16 n < 32768; unfold w16; omega
theorem w32_fit (n : Int) : (WOp.i32 (wrap32 n)).fit := by show -2147483648 ≤ wrap32 n ∧ wrap32 n < 2147483648; unfold wrap32; omega
theorem u64_fit (n : Int) : (WOp.dbl (IntKind.u64.wrap n).toNat).fit := by show (IntKind.u64.wrap n).toNat < 18446744073709551616; rw [IntKind.wrap_u64]; omega

/-- What a compact protocol keeps behind a value: all but the number of the last bool. -/
def Kept (s s' : CW) : Prop := s'.stk = s.stk ∧ s'.last = s.last ∧ s'.pend = false ∧ okW s'

theorem Kept.refl {s : CW} (h : okW s) (hp : s.pend = false) : Kept s s := ⟨rfl, rfl, hp, h⟩

theorem leaf_runs {s : CW} {a x : List UInt8} {o : WOp} (hs : okW s) (hf : o.fit) (h : cmpRun s o = (s, x, 0)) (hp : s.pend = false) : ∃ s', runs cmpStep [o] (s, a) = ((s', a ++ x), 0) ∧ Kept s s' :=
  ⟨s, step_c hs hf h (by simp [runs]), .refl hs hp⟩

mutual
/-- What the calls of a right value write: without an error. -/
theorem cmp_gen : ∀ (v : Val), rightV v = true → wfV v → tot v ≤ 65536 → ∀ (s : CW) (a : List UInt8), okW s → s.pend = false → ∃ s', runs cmpStep (ops v) (s, a) = ((s', a ++ gen CC v), 0) ∧ Kept s s'
  | ⟨t, n, x, k, e, ids, l⟩, h, hw, htot, s, a, hs, hp => by
    obtain ⟨hT, h12, h13, h14⟩ := right_is h
    have hTT := isT_is hT
    have hm : t % 256 = t := by omega
    simp only [wfV] at hw
    simp only [tot] at htot
    have hll := totL_len l
    simp only [ops, hm, gen]
    by_cases h2 : t = 2
    · subst h2
      exact leaf_runs hs trivial (by simp [cmpRun, hp, CC]) hp
    by_cases h3 : t = 3
    · subst h3
      exact leaf_runs hs (w8_fit n) (by simp [cmpRun, CC]) hp
    by_cases h4 : t = 4
    · subst h4
      exact leaf_runs hs (u64_fit n) (by simp [cmpRun, CC]) hp
    by_cases h6 : t = 6
    · subst h6
      exact leaf_runs hs (w16_fit n) (by simp [cmpRun, CC]) hp
    by_cases h8 : t = 8
    · subst h8
      exact leaf_runs hs (w32_fit n) (by simp [cmpRun, CC]) hp
    by_cases h10 : t = 10
    · subst h10
      exact leaf_runs hs (show -9223372036854775808 ≤ n ∧ n < 9223372036854775808 from hw.2.1) (by simp [cmpRun, CC]) hp
    by_cases h11 : t = 11
    · subst h11
      exact leaf_runs hs (show (toB x).length ≤ 2147483647 by rw [toB_len]; omega) (by simp [cmpRun, CC]) hp
    by_cases h16 : t = 16
    · subst h16
      exact leaf_runs hs (show (u16 (toB x)).length = 16 from u16_length _) (by simp [cmpRun, CC]) hp
    by_cases g12 : t = 12
    · subst g12
      have ok1 := okW_run s hs .strB trivial
      have e1 : cmpRun s .strB = ({ s with stk := s.stk ++ [s.last], last := 0 }, [], 0) := rfl
      rw [e1] at ok1
      obtain ⟨s2, r2, k1, k2, k3⟩ := cmp_genF l 12 k e 0 (h12 rfl).2 hw.2.2.2.2.2.2.2 (by omega) { s with stk := s.stk ++ [s.last], last := 0 } (a ++ []) ids (h12 rfl).1 ok1 hp
      have e2 : cmpRun s2 .strE = ({ s2 with stk := s.stk, last := s.last }, [], 0) := by
        simp [cmpRun, k1]
      have ok2 := okW_run s2 k3 .strE trivial
      rw [e2] at ok2
      refine ⟨{ s2 with stk := s.stk, last := s.last }, ?_, rfl, rfl, k2, ok2⟩
      simp only [show ¬ (12 : Int) = 2 by decide, show ¬ (12 : Int) = 3 by decide, show ¬ (12 : Int) = 4 by decide, show ¬ (12 : Int) = 6 by decide, show ¬ (12 : Int) = 8 by decide, show ¬ (12 : Int) = 10 by decide, show ¬ (12 : Int) = 11 by decide, show ¬ (12 : Int) = 16 by decide, if_false, if_true]
      refine step_c hs trivial e1 ?_
      rw [show opsF l ids ++ [WOp.stop, WOp.strE] = (opsF l ids ++ [WOp.stop]) ++ [WOp.strE] by simp, runs_go cmpStep _ _ _ _ r2]
      refine step_c k3 trivial e2 ?_
      simp [runs]
    have ok0 := hs
    by_cases g13 : t = 13
    · subst g13
      obtain ⟨q1, q2, q3⟩ := h13 rfl
      have hl2 : l.length / 2 * 2 = l.length := by omega
      have hn1 : ((((l.length / 2 : Nat) : Int)) % 4294967296).toNat = l.length / 2 := by omega
      have hcast : ((l.length : Int) / 2) = ((l.length / 2 : Nat) : Int) := by omega
      have e1 : cmpRun s (.mapB (k % 256) (e % 256) ((l.length : Int) / 2)) = (s, CC.map k e (l.length / 2), 0) := by
        rw [hcast]
        simp only [cmpRun, CC, hn1]
        by_cases h0 : l.length / 2 = 0
        · simp [h0]
        · have hk := isT_lt (q2 (by omega)).1
          have he := isT_lt (q2 (by omega)).2
          have hn0 : ¬ ((l.length / 2 : Nat) : Int) = 0 := by omega
          rw [if_neg hn0, if_neg h0, show k % 256 = k by omega, show e % 256 = e by omega]
      have hf1 : (WOp.mapB (k % 256) (e % 256) ((l.length : Int) / 2)).fit := by
        show (0 ≤ k % 256 ∧ k % 256 < 256) ∧ (0 ≤ e % 256 ∧ e % 256 < 256) ∧ _ ≤ ((l.length : Int) / 2) ∧ _
        omega
      obtain ⟨s2, r2, k1⟩ := cmp_genL l 13 k e 0 q3 hw.2.2.2.2.2.2.2 (by omega) s (a ++ CC.map k e (l.length / 2)) hs hp
      refine ⟨s2, ?_, k1⟩
      simp only [show ¬ (13 : Int) = 2 by decide, show ¬ (13 : Int) = 3 by decide, show ¬ (13 : Int) = 4 by decide, show ¬ (13 : Int) = 6 by decide, show ¬ (13 : Int) = 8 by decide, show ¬ (13 : Int) = 10 by decide, show ¬ (13 : Int) = 11 by decide, show ¬ (13 : Int) = 16 by decide, show ¬ (13 : Int) = 12 by decide, if_false, if_true, hl2]
      refine step_c hs hf1 e1 ?_
      rw [runs_go cmpStep _ _ _ _ r2]
      refine step_c k1.2.2.2 trivial (s1 := s2) (x := []) rfl ?_
      simp [runs, List.append_assoc]
    have g14 : t = 14 ∨ t = 15 := by omega
    obtain ⟨q1, q2⟩ := h14 g14
    have hn1 : ((l.length : Int) % 4294967296).toNat = l.length := by omega
    have he := isT_lt q1
    have hn2 : ((l.length : Int) % 16).toNat = l.length % 16 := by omega
    have hcol : (if ((l.length : Nat) : Int) ≤ 14 then [(((l.length : Int) % 16).toNat * 16 + cCode (e % 256)).toUInt8] else (240 + cCode (e % 256)).toUInt8 :: Lib.uvarint ((l.length : Int) % 4294967296).toNat) = CC.coll e l.length := by
      simp only [CC, hn1, hn2, show e % 256 = e by omega]
      by_cases h0 : l.length ≤ 14
      · rw [if_pos (by omega), if_pos h0, show l.length % 16 = l.length by omega]
      · rw [if_neg (by omega), if_neg h0]
    obtain ⟨s2, r2, k1⟩ := cmp_genL l t k e 0 q2 hw.2.2.2.2.2.2.2 (by omega) s (a ++ CC.coll e l.length) hs hp
    refine ⟨s2, ?_, k1⟩
    rcases g14 with rfl | rfl
    · have e1 : cmpRun s (.setB (e % 256) l.length) = (s, CC.coll e l.length, 0) := by rw [← hcol]; rfl
      have hf1 : (WOp.setB (e % 256) l.length).fit := by
        show (0 ≤ e % 256 ∧ e % 256 < 256) ∧ _ ≤ (l.length : Int) ∧ _
        omega
      simp only [show ¬ (14 : Int) = 2 by decide, show ¬ (14 : Int) = 3 by decide, show ¬ (14 : Int) = 4 by decide, show ¬ (14 : Int) = 6 by decide, show ¬ (14 : Int) = 8 by decide, show ¬ (14 : Int) = 10 by decide, show ¬ (14 : Int) = 11 by decide, show ¬ (14 : Int) = 16 by decide, show ¬ (14 : Int) = 12 by decide, show ¬ (14 : Int) = 13 by decide, if_false, if_true, true_or]
      refine step_c hs hf1 e1 ?_
      rw [runs_go cmpStep _ _ _ _ r2]
      refine step_c k1.2.2.2 trivial (s1 := s2) (x := []) rfl ?_
      simp [runs, List.append_assoc]
    · have e1 : cmpRun s (.lstB (e % 256) l.length) = (s, CC.coll e l.length, 0) := by rw [← hcol]; rfl
      have hf1 : (WOp.lstB (e % 256) l.length).fit := by
        show (0 ≤ e % 256 ∧ e % 256 < 256) ∧ _ ≤ (l.length : Int) ∧ _
        omega
      simp only [show ¬ (15 : Int) = 2 by decide, show ¬ (15 : Int) = 3 by decide, show ¬ (15 : Int) = 4 by decide, show ¬ (15 : Int) = 6 by decide, show ¬ (15 : Int) = 8 by decide, show ¬ (15 : Int) = 10 by decide, show ¬ (15 : Int) = 11 by decide, show ¬ (15 : Int) = 16 by decide, show ¬ (15 : Int) = 12 by decide, show ¬ (15 : Int) = 13 by decide, show ¬ (15 : Int) = 14 by decide, if_false, if_true, or_true]
      refine step_c hs hf1 e1 ?_
      rw [runs_go cmpStep _ _ _ _ r2]
      refine step_c k1.2.2.2 trivial (s1 := s2) (x := []) rfl ?_
      simp [runs, List.append_assoc]
theorem cmp_genL : ∀ (l : List Val) (t k e : Int) (i : Nat), rightL t k e i l = true → wfL l → totL l ≤ 65536 → ∀ (s : CW) (a : List UInt8), okW s → s.pend = false → ∃ s', runs cmpStep (opsL l l.length) (s, a) = ((s', a ++ genL CC l), 0) ∧ Kept s s'
  | [], t, k, e, i, h, hw, htot, s, a, hs, hp => ⟨s, by simp [opsL, runs, genL], .refl hs hp⟩
  | v :: l, t, k, e, i, h, hw, htot, s, a, hs, hp => by
    simp only [rightL, Bool.and_eq_true] at h
    simp only [wfL] at hw
    simp only [totL] at htot
    obtain ⟨s1, r1, k1, k2, k3, k4⟩ := cmp_gen v h.1.2 hw.1 (by omega) s a hs hp
    obtain ⟨s2, r2, j1, j2, j3, j4⟩ := cmp_genL l t k e (i + 1) h.2 hw.2 (by omega) s1 (a ++ gen CC v) k4 k3
    refine ⟨s2, ?_, j1.trans k1, j2.trans k2, j3, j4⟩
    simp only [List.length_cons, opsL, genL]
    rw [runs_go cmpStep _ _ _ _ r1, r2, List.append_assoc]
theorem cmp_genF : ∀ (l : List Val) (t k e : Int) (i : Nat), rightL t k e i l = true → wfL l → totL l ≤ 65536 → ∀ (s : CW) (a : List UInt8) (ids : List Int), ids.length = l.length → okW s → s.pend = false → ∃ s', runs cmpStep (opsF l ids ++ [.stop]) (s, a) = ((s', a ++ genF CC s.last l ids), 0) ∧ s'.stk = s.stk ∧ s'.pend = false ∧ okW s'
  | [], t, k, e, i, h, hw, htot, s, a, ids, hn, hs, hp => by
    refine ⟨s, ?_, rfl, hp, hs⟩
    simp only [opsF, List.nil_append, genF]
    exact step_c hs trivial (s1 := s) (x := [0]) rfl (by simp [runs])
  | v :: l, t, k, e, i, h, hw, htot, s, a, [], hn, hs, hp => by simp at hn
  | v :: l, t, k, e, i, h, hw, htot, s, a, x :: ids, hn, hs, hp => by
    simp only [rightL, Bool.and_eq_true] at h
    simp only [wfL] at hw
    simp only [totL] at htot
    simp only [List.length_cons] at hn
    have hT := right_type h.1.2
    have hm : v.f0 % 256 = v.f0 := by have := isT_lt hT; omega
    have h16 := w16_in x
    have hff : (WOp.fldB v.f0 (w16 x)).fit := ⟨isT_lt hT, h16⟩
    have ok1 := okW_run s hs (.fldB v.f0 (w16 x)) hff
    simp only [opsF, genF, hm]
    by_cases hb : v.f0 = 2
    · obtain ⟨t', n', x', k', e', ids', l'⟩ := v
      dsimp only at hb
      subst hb
      have e1 : cmpRun s (.fldB 2 (w16 x)) = ({ s with pend := true, pid := w16 x }, [], 0) := rfl
      dsimp only at ok1 hff
      rw [e1] at ok1
      have ho : ops ⟨2, n', x', k', e', ids', l'⟩ = [.bool (n' != 0)] := by simp [ops]
      have e2 : cmpRun { s with pend := true, pid := w16 x } (.bool (n' != 0)) = (({ s with last := w16 x, pend := false, pid := w16 x } : CW), CC.field s.last 2 (w16 x) n', 0) := by
        simp [cmpRun, CC]
      have ok2 := okW_run _ ok1 (.bool (n' != 0)) trivial
      rw [e2] at ok2
      obtain ⟨s3, r3, j1, j2, j3⟩ := cmp_genF l t k e (i + 1) h.2 hw.2 (by omega) { s with last := w16 x, pend := false, pid := w16 x } (a ++ CC.field s.last 2 (w16 x) n') ids (by omega) ok2 rfl
      refine ⟨s3, ?_, j1, j2, j3⟩
      rw [ho]
      simp only [List.cons_append, List.nil_append]
      refine step_c hs hff e1 ?_
      rw [List.append_nil]
      refine step_c ok1 trivial e2 ?_
      refine step_c ok2 trivial (o := .fldE) (s1 := { s with last := w16 x, pend := false, pid := w16 x }) (x := []) rfl ?_
      rw [List.append_nil, r3]
      simp [CC, List.append_assoc]
    · have e1 : cmpRun s (.fldB v.f0 (w16 x)) = ({ s with last := w16 x }, CC.field s.last v.f0 (w16 x) v.f1, 0) := by
        simp [cmpRun, hb, CC]
      rw [e1] at ok1
      obtain ⟨s2, r2, k1, k2, k3, k4⟩ := cmp_gen v h.1.2 hw.1 (by omega) { s with last := w16 x } (a ++ CC.field s.last v.f0 (w16 x) v.f1) ok1 hp
      obtain ⟨s3, r3, j1, j2, j3⟩ := cmp_genF l t k e (i + 1) h.2 hw.2 (by omega) s2 (a ++ CC.field s.last v.f0 (w16 x) v.f1 ++ gen CC v) ids (by omega) k4 k3
      refine ⟨s3, ?_, j1.trans k1, j2, j3⟩
      simp only [List.cons_append, List.append_assoc]
      refine step_c hs hff e1 ?_
      rw [runs_go cmpStep _ _ _ _ r2]
      refine step_c k4 trivial (o := .fldE) (s1 := s2) (x := []) rfl ?_
      rw [List.append_nil, r3, k2]
      have hi : ¬ (CC.inl = true ∧ v.f0 = 2) := fun hh => hb hh.2
      rw [if_neg hi]
      simp only [List.append_assoc]
end

end Go.Proofs.YtnpiheoglilcbaaGreatDoor

/-! What a right value's bytes are by either protocol, and the least number of them. Plain, no program. -/
namespace Go.Proofs.YtnpiheoglilcbaaGreatDoor
open Go.RowKit
set_option linter.unusedVariables false
set_option linter.unusedSimpArgs false

/-- The protocol of a number. -/
def codec (proto : Int) : Codec := if proto = 1 then CC else CB

theorem codec_told (proto : Int) : (codec proto).Told := by
  unfold codec
  split
  · exact CC_told
  · exact CB_told

theorem enc_right (proto : Int) (c : Cfg) (V : Val) (h : rightV V = true) (hw : wfV V) (ht : tot V ≤ 65536) : encC proto c (ops V) = (gen (codec proto) V, 0) := by
  unfold encC codec
  by_cases hp : proto = 1
  · rw [if_pos hp, if_pos hp]
    obtain ⟨s', r, -⟩ := cmp_gen V h hw ht CW0 [] okW_0 rfl
    rw [r]
    rfl
  · rw [if_neg hp, if_neg hp, bin_gen _ V h]

theorem genF_pos (C : Codec) : ∀ (l : List Val) (last : Int) (ids : List Int), 1 ≤ (genF C last l ids).length
  | [], last, ids => by simp [genF]
  | v :: l, last, [] => by simp [genF]
  | v :: l, last, x :: ids => by
    have := genF_pos C l (w16 x) ids
    simp only [genF, List.length_append]
    omega

/-- The least number of bytes that a protocol counts on. -/
def leastOf (proto t : Int) : Int :=
  if proto = 1 then (if t = 4 then 8 else if t = 16 then 16 else 1)
  else if t = 4 ∨ t = 10 then 8 else if t = 6 then 2 else if t = 8 ∨ t = 11 ∨ t = 13 ∨ t = 14 ∨ t = 15 then 4 else if t = 16 then 16 else 1

theorem leastOf_pos (proto t : Int) : 0 ≤ leastOf proto t ∧ leastOf proto t ≤ 16 := by
  unfold leastOf
  (repeat' split) <;> omega

theorem uv_le (x : Nat) : (1 : Int) ≤ ((Lib.uvarint x).length : Int) := by have := Lib.uvarint_pos x; omega

theorem gen_least (proto : Int) (V : Val) (h : rightV V = true) : leastOf proto V.f0 ≤ ((gen (codec proto) V).length : Int) := by
  obtain ⟨t, n, s, k, e, ids, l⟩ := V
  have hT := isT_is (right_type h)
  dsimp only at hT ⊢
  have hF := genF_pos (codec proto) l 0 ids
  by_cases hp : proto = 1
  · have hc : codec proto = CC := if_pos hp
    rw [hc] at hF ⊢
    rcases hT with rfl | rfl | rfl | rfl | rfl | rfl | rfl | rfl | rfl | rfl | rfl | rfl
    all_goals simp only [leastOf, if_pos hp, gen, CC, cText, le8]
    all_goals simp [Lib.leBytes_length, u16_length]
    all_goals first
      | exact Int.ofNat_le.2 (genF_pos _ l 0 ids)
      | omega
      | (have := Lib.uvarint_pos (Lib.zigzag (w16 n)); omega)
      | (have := Lib.uvarint_pos (Lib.zigzag (wrap32 n)); omega)
      | (have := Lib.uvarint_pos (Lib.zigzag n); omega)
      | (have := Lib.uvarint_pos (toB s).length; omega)
      | (split <;> simp <;> omega)
      | skip
  · have hc : codec proto = CB := if_neg hp
    rw [hc] at hF ⊢
    rcases hT with rfl | rfl | rfl | rfl | rfl | rfl | rfl | rfl | rfl | rfl | rfl | rfl
    all_goals simp only [leastOf, if_neg hp, gen, CB, bText]
    all_goals simp [be_length, u16_length]
    all_goals first
      | exact Int.ofNat_le.2 (genF_pos _ l 0 ids)
      | omega
      | (split <;> simp <;> omega)
      | skip

end Go.Proofs.YtnpiheoglilcbaaGreatDoor

/-! The least number of bytes that a protocol counts on: what is told. -/
namespace Go.Proofs.YtnpiheoglilcbaaGreatDoor
open Go.RowKit Go.Deep
set_option linter.unusedVariables false
set_option linter.unusedSimpArgs false

theorem minBin (p : Value) (t : Int) (hT : isT t = true) (w : World) : Calls Tryz.prog 52 #[p, .int .u8 t] w fun e w' => e = .returned (.int .i32 (leastOf 0 t)) ∧ w = w' := by
  rcases isT_is hT with rfl | rfl | rfl | rfl | rfl | rfl | rfl | rfl | rfl | rfl | rfl | rfl
  all_goals go_enter Tryz.func52, Tryz.ntmps52
  all_goals go_wp2
  all_goals go_ret
  all_goals exact ⟨rfl, rfl⟩

theorem minCmp (p : Value) (t : Int) (hT : isT t = true) (w : World) : Calls Tryz.prog 51 #[p, .int .u8 t] w fun e w' => e = .returned (.int .i32 (leastOf 1 t)) ∧ w = w' := by
  rcases isT_is hT with rfl | rfl | rfl | rfl | rfl | rfl | rfl | rfl | rfl | rfl | rfl | rfl
  all_goals go_enter Tryz.func51, Tryz.ntmps51
  all_goals go_wp2
  all_goals go_ret
  all_goals exact ⟨rfl, rfl⟩

theorem least_any (proto : Int) (plain rb sb : Bool) (ms ct fr : Int) (t : Int) (hT : isT t = true) (w : World) : Calls Tryz.prog 13 #[confV proto plain rb sb ms ct fr, .int .i64 t] w fun e w' => e = .returned (.int .i32 (leastOf proto t)) ∧ Below w.heap.size w w' := by
  have ht := isT_lt hT
  have hm : t % 256 = t := by omega
  by_cases hp : proto = 1
  · subst hp
    have HM := Lib.hid (fun p w => minCmp p t hT w)
    go_enter Tryz.func13, Tryz.ntmps13
    go_wp2_with (first | (go_at_call 31; go_in) | (go_at_call 30; go_in) | (refine (HM.out _ _).mono ?_; rintro e w' ⟨rfl, rfl⟩))
    all_goals go_ret
    all_goals exact ⟨rfl, ((Below.refl _ _).alloc (Nat.le_refl _) _).alloc (by simp) _⟩
  · have hp' : (proto == 1) = false := by simpa using hp
    have hl : leastOf proto t = leastOf 0 t := by unfold leastOf; rw [if_neg hp, if_neg (show ¬ (0 : Int) = 1 by decide)]
    have HM := Lib.hid (fun p w => minBin p t hT w)
    rw [hl]
    clear hl
    go_enter Tryz.func13, Tryz.ntmps13
    go_wp2_with (first | (go_at_call 31; go_in) | (go_at_call 32; go_in) | (refine (HM.out _ _).mono ?_; rintro e w' ⟨rfl, rfl⟩))
    all_goals go_ret
    all_goals exact ⟨rfl, ((Below.refl _ _).alloc (Nat.le_refl _) _).alloc (by simp) _⟩

end Go.Proofs.YtnpiheoglilcbaaGreatDoor

/-! Bytes held against bytes; are all kinds none. Turned by a program (wip/tools/own2.py) from what the kit's print says of these functions. -/
namespace Go.Proofs.YtnpiheoglilcbaaGreatDoor
open Go.RowKit Go.Proofs.YtnpiheoglilcbaaGreatDoorW.PrintWords Go.Proofs.YtnpiheoglilcbaaGreatDoorW.PrintLast Go.Proofs.YtnpiheoglilcbaaGreatDoorW.PrintMore
attribute [local go_sem] max2_int min2_int max_two min_two max_three min_three max_four min_four
set_option linter.unusedVariables false
set_option linter.unusedSimpArgs false

/-! ### laws_equal -/
def laws_equal.l0 : Nat → List Int → List Int → Int → Option (Bool)
  | 0, _, _, _ => none
  | k + 1, x0, x1, x5 => if x5 < (x0.length : Int) then (if 0 ≤ x5 then (if x5 < (x1.length : Int) then (if (rd x0 x5) = (rd x1 x5) then (laws_equal.l0 k x0 x1 (wrap64 (x5 + 1))) else (some false)) else (none)) else (none)) else (some true)
def laws_equal.f (k : Nat) (l0 : List Int) (l1 : List Int) : Option (Bool) := if (l0.length : Int) = (l1.length : Int) then (laws_equal.l0 k l0 l1 0) else (some false)
theorem laws_equal.mono_l : ∀ k, (∀ y0 y1 y2, LeO (laws_equal.l0 k y0 y1 y2) (laws_equal.l0 (k + 1) y0 y1 y2))
  | 0 => fun _ _ _ r h => by simp [laws_equal.l0] at h
  | k + 1 => by
    have ih0 := laws_equal.mono_l k
    · intro y0 y1 y2
      unfold laws_equal.l0
      repeat' first
      | (with_reducible exact ih0 _ _ _)
      | (with_reducible exact LeO.refl _)
      | (with_reducible exact LeO.none _)
      | (with_reducible refine LeO.ite ?_ ?_)
      | (with_reducible refine LeO.bind ?_ (fun _ => ?_))
      | exact ih0 _ _ _
      | exact LeO.none _
      | refine LeO.ite ?_ ?_
      | refine LeO.bind ?_ (fun _ => ?_)
theorem laws_equal.mono : ∀ a0 a1 k, LeO (laws_equal.f k a0 a1) (laws_equal.f (k + 1) a0 a1) := by
  intro a0 a1 k
  have ih0 := laws_equal.mono_l k
  unfold laws_equal.f
  repeat' first
      | (with_reducible exact ih0 _ _ _)
      | (with_reducible exact LeO.refl _)
      | (with_reducible exact LeO.none _)
      | (with_reducible refine LeO.ite ?_ ?_)
      | (with_reducible refine LeO.bind ?_ (fun _ => ?_))
      | exact ih0 _ _ _
      | exact LeO.none _
      | refine LeO.ite ?_ ?_
      | refine LeO.bind ?_ (fun _ => ?_)
set_option maxHeartbeats 8000000 in
set_option maxRecDepth 100000 in
theorem laws_equal.calls (k : Nat) (A0 : Option Addr) (c0 : Nat) (l0 : List Int) (A1 : Option Addr) (c1 : Nat) (l1 : List Int) (r : Bool) (w : World) (hr0 : Kd.C (Kd.int .u8) w A0 l0.length l0) (hc0 : l0.length ≤ c0) (hr1 : Kd.C (Kd.int .u8) w A1 l1.length l1) (hc1 : l1.length ≤ c1) (h : laws_equal.f k l0 l1 = some r) :
    Calls Tryz.prog 14 #[.slice A0 l0.length c0, .slice A1 l1.length c1] w fun e w' => e = .returned (.bool r) ∧ Drawn0 w w' := by
  have HR0 := Aside0.mk hr0
  have HC0 := Aside0.mk hc0
  clear hr0 hc0
  have HR1 := Aside0.mk hr1
  have HC1 := Aside0.mk hc1
  clear hr1 hc1
  have H : (if (l0.length : Int) = (l1.length : Int) then (laws_equal.l0 k l0 l1 0) else (some false)) = some r := h
  clear h
  by_cases c3 : (l0.length : Int) = (l1.length : Int)
  · rw [if_pos c3] at H
    have c3b0 : ((l0.length : Int) == (l1.length : Int)) = true := beq_iff_eq.mpr c3
    have c3b1 : ((l0.length : Int) != (l1.length : Int)) = false := bne_eq_false_iff_eq.mpr c3
    have c3b2 : (l0.length == l1.length) = true := by first | simpa using c3 | (simp at c3 ⊢; omega)
    clear c3
    have H' := Aside0.mk H
    clear H
    go_enter Tryz.func14, Tryz.ntmps14
    go_wp2
    repeat (go_quiet (fail); try go_wp2)
    go_loopg [5] k (fun kq v5 w' => ∃ (x5_1 : Int), v5 = .int .i64 x5_1 ∧ Aside0 (laws_equal.l0 kq l0 l1 x5_1 = some r) ∧ Aside0 (kq ≤ k) ∧ Drawn0 w w')
    case atStart => exact ⟨(0), (by first | rfl | (simp; done) | (simp [*]; done)), H', ⟨Nat.le_refl _⟩, by repeat (first | exact Drawn0.refl _ | apply Drawn0.step)⟩
    case round =>
      clear H'
      try clear c1
      try clear p2
      try clear c3
      try clear c3b0
      try clear c3b1
      try clear c3b2
      obtain ⟨x5_1, rfl, HA, HK1, ⟨m1, rfl⟩⟩ := hrel
      cases gk with
      | zero => exact absurd HA.out (by simp [laws_equal.l0])
      | succ k1 =>
        have H := HA.out
        clear HA
        simp only [laws_equal.l0] at H
        by_cases c4 : x5_1 < (l0.length : Int)
        · rw [if_pos c4] at H
          have c4b0 : decide (x5_1 < (l0.length : Int)) = true := decide_eq_true c4
          clear c4
          by_cases c5 : 0 ≤ x5_1
          · rw [if_pos c5] at H
            have c5b0 : decide (0 ≤ x5_1) = true := decide_eq_true c5
            clear c5
            by_cases c6 : x5_1 < (l1.length : Int)
            · rw [if_pos c6] at H
              have c6b0 : decide (x5_1 < (l1.length : Int)) = true := decide_eq_true c6
              clear c6
              by_cases c7 : (rd l0 x5_1) = (rd l1 x5_1)
              · rw [if_pos c7] at H
                have c7b0 : ((rd l0 x5_1) == (rd l1 x5_1)) = true := beq_iff_eq.mpr c7
                have c7b1 : ((rd l0 x5_1) != (rd l1 x5_1)) = false := bne_eq_false_iff_eq.mpr c7
                clear c7
                have H' := Aside0.mk H
                clear H
                have p122 : 0 ≤ (x5_1 : Int) := of_decide_eq_true (by first | (with_reducible assumption) | assumption)
                have q122 : x5_1 < (l0.length : Int) := of_decide_eq_true (by first | (with_reducible assumption) | assumption)
                obtain ⟨ad122, e122, hx122_0⟩ := Kd.at_int HR0.out x5_1 p122 q122
                cases e122
                replace p122 := eq_true p122
                replace q122 := eq_true q122
                have p123 : 0 ≤ (x5_1 : Int) := of_decide_eq_true (by first | (with_reducible assumption) | assumption)
                have q123 : x5_1 < (l1.length : Int) := of_decide_eq_true (by first | (with_reducible assumption) | assumption)
                obtain ⟨ad123, e123, hx123_0⟩ := Kd.at_int HR1.out x5_1 p123 q123
                cases e123
                replace p123 := eq_true p123
                replace q123 := eq_true q123
                go_wp2
                repeat (go_quiet (fail); try go_wp2)
                go_roundg k1
                case measure => have := HK1.out; omega
                case rel => exact ⟨(wrap64 (x5_1 + 1)), (by first | rfl | (simp; done) | (simp [*]; done)), H', ⟨by have := HK1.out; omega⟩, by repeat (first | exact Drawn0.refl _ | apply Drawn0.step)⟩
              · rw [if_neg c7] at H
                have c7b0 : ((rd l0 x5_1) == (rd l1 x5_1)) = false := beq_eq_false_iff_ne.mpr c7
                have c7b1 : ((rd l0 x5_1) != (rd l1 x5_1)) = true := bne_iff_ne.mpr c7
                obtain rfl := Option.some.inj H
                have p122 : 0 ≤ (x5_1 : Int) := of_decide_eq_true (by first | (with_reducible assumption) | assumption)
                have q122 : x5_1 < (l0.length : Int) := of_decide_eq_true (by first | (with_reducible assumption) | assumption)
                obtain ⟨ad122, e122, hx122_0⟩ := Kd.at_int HR0.out x5_1 p122 q122
                cases e122
                replace p122 := eq_true p122
                replace q122 := eq_true q122
                have p123 : 0 ≤ (x5_1 : Int) := of_decide_eq_true (by first | (with_reducible assumption) | assumption)
                have q123 : x5_1 < (l1.length : Int) := of_decide_eq_true (by first | (with_reducible assumption) | assumption)
                obtain ⟨ad123, e123, hx123_0⟩ := Kd.at_int HR1.out x5_1 p123 q123
                cases e123
                replace p123 := eq_true p123
                replace q123 := eq_true q123
                go_wp2
                repeat (go_quiet (fail); try go_wp2)
                go_ret
                exact ⟨by first | rfl | (simp; done) | (simp [*]; done), by repeat (first | exact Drawn0.refl _ | apply Drawn0.step)⟩
            · rw [if_neg c6] at H
              exact absurd H (by simp)
          · rw [if_neg c5] at H
            exact absurd H (by simp)
        · rw [if_neg c4] at H
          have c4b0 : decide (x5_1 < (l0.length : Int)) = false := decide_eq_false c4
          clear c4
          obtain rfl := Option.some.inj H
          go_wp2
          repeat (go_quiet (fail); try go_wp2)
          go_ret
          exact ⟨by first | rfl | (simp; done) | (simp [*]; done), by repeat (first | exact Drawn0.refl _ | apply Drawn0.step)⟩
  · rw [if_neg c3] at H
    have c3b0 : ((l0.length : Int) == (l1.length : Int)) = false := beq_eq_false_iff_ne.mpr c3
    have c3b1 : ((l0.length : Int) != (l1.length : Int)) = true := bne_iff_ne.mpr c3
    have c3b2 : (l0.length == l1.length) = false := by first | simpa using c3 | (simp at c3 ⊢; omega)
    obtain rfl := Option.some.inj H
    go_enter Tryz.func14, Tryz.ntmps14
    go_wp2
    repeat (go_quiet (fail); try go_wp2)
    go_ret
    exact ⟨by first | rfl | (simp; done) | (simp [*]; done), by repeat (first | exact Drawn0.refl _ | apply Drawn0.step)⟩


/-! ### laws_isOK -/
def laws_isOK.l0 : Nat → List Int → Int → Option (Bool)
  | 0, _, _ => none
  | k + 1, x0, x3 => if x3 < (x0.length : Int) then (if 0 ≤ x3 then (if (rd x0 x3) = 0 then (laws_isOK.l0 k x0 (wrap64 (x3 + 1))) else (some false)) else (none)) else (some true)
def laws_isOK.f (k : Nat) (l0 : List Int) : Option (Bool) := laws_isOK.l0 k l0 0
theorem laws_isOK.mono_l : ∀ k, (∀ y0 y1, LeO (laws_isOK.l0 k y0 y1) (laws_isOK.l0 (k + 1) y0 y1))
  | 0 => fun _ _ r h => by simp [laws_isOK.l0] at h
  | k + 1 => by
    have ih0 := laws_isOK.mono_l k
    · intro y0 y1
      unfold laws_isOK.l0
      repeat' first
      | (with_reducible exact ih0 _ _)
      | (with_reducible exact LeO.refl _)
      | (with_reducible exact LeO.none _)
      | (with_reducible refine LeO.ite ?_ ?_)
      | (with_reducible refine LeO.bind ?_ (fun _ => ?_))
      | exact ih0 _ _
      | exact LeO.none _
      | refine LeO.ite ?_ ?_
      | refine LeO.bind ?_ (fun _ => ?_)
theorem laws_isOK.mono : ∀ a0 k, LeO (laws_isOK.f k a0) (laws_isOK.f (k + 1) a0) := by
  intro a0 k
  have ih0 := laws_isOK.mono_l k
  unfold laws_isOK.f
  repeat' first
      | (with_reducible exact ih0 _ _)
      | (with_reducible exact LeO.refl _)
      | (with_reducible exact LeO.none _)
      | (with_reducible refine LeO.ite ?_ ?_)
      | (with_reducible refine LeO.bind ?_ (fun _ => ?_))
      | exact ih0 _ _
      | exact LeO.none _
      | refine LeO.ite ?_ ?_
      | refine LeO.bind ?_ (fun _ => ?_)
set_option maxHeartbeats 8000000 in
set_option maxRecDepth 100000 in
theorem laws_isOK.calls (k : Nat) (A0 : Option Addr) (c0 : Nat) (l0 : List Int) (r : Bool) (w : World) (hr0 : Kd.C (Kd.int .i64) w A0 l0.length l0) (hc0 : l0.length ≤ c0) (h : laws_isOK.f k l0 = some r) :
    Calls Tryz.prog 17 #[.slice A0 l0.length c0] w fun e w' => e = .returned (.bool r) ∧ Drawn0 w w' := by
  have HR0 := Aside0.mk hr0
  have HC0 := Aside0.mk hc0
  clear hr0 hc0
  have H : (laws_isOK.l0 k l0 0) = some r := h
  clear h
  have H' := Aside0.mk H
  clear H
  go_enter Tryz.func17, Tryz.ntmps17
  go_wp2
  go_loopg [3] k (fun kq v3 w' => ∃ (x3_1 : Int), v3 = .int .i64 x3_1 ∧ Aside0 (laws_isOK.l0 kq l0 x3_1 = some r) ∧ Aside0 (kq ≤ k) ∧ Drawn0 w w')
  case atStart => exact ⟨(0), (by first | rfl | (simp; done) | (simp [*]; done)), H', ⟨Nat.le_refl _⟩, by repeat (first | exact Drawn0.refl _ | apply Drawn0.step)⟩
  case round =>
    clear H'
    try clear c1
    obtain ⟨x3_1, rfl, HA, HK1, ⟨m1, rfl⟩⟩ := hrel
    cases gk with
    | zero => exact absurd HA.out (by simp [laws_isOK.l0])
    | succ k1 =>
      have H := HA.out
      clear HA
      simp only [laws_isOK.l0] at H
      by_cases c2 : x3_1 < (l0.length : Int)
      · rw [if_pos c2] at H
        have c2b0 : decide (x3_1 < (l0.length : Int)) = true := decide_eq_true c2
        clear c2
        by_cases c3 : 0 ≤ x3_1
        · rw [if_pos c3] at H
          have c3b0 : decide (0 ≤ x3_1) = true := decide_eq_true c3
          clear c3
          by_cases c4 : (rd l0 x3_1) = 0
          · rw [if_pos c4] at H
            have c4b0 : ((rd l0 x3_1) == 0) = true := beq_iff_eq.mpr c4
            have c4b1 : ((rd l0 x3_1) != 0) = false := bne_eq_false_iff_eq.mpr c4
            clear c4
            have H' := Aside0.mk H
            clear H
            have p129 : 0 ≤ (x3_1 : Int) := of_decide_eq_true (by first | (with_reducible assumption) | assumption)
            have q129 : x3_1 < (l0.length : Int) := of_decide_eq_true (by first | (with_reducible assumption) | assumption)
            obtain ⟨ad129, e129, hx129_0⟩ := Kd.at_int HR0.out x3_1 p129 q129
            cases e129
            replace p129 := eq_true p129
            replace q129 := eq_true q129
            go_wp2
            go_roundg k1
            case measure => have := HK1.out; omega
            case rel => exact ⟨(wrap64 (x3_1 + 1)), (by first | rfl | (simp; done) | (simp [*]; done)), H', ⟨by have := HK1.out; omega⟩, by repeat (first | exact Drawn0.refl _ | apply Drawn0.step)⟩
          · rw [if_neg c4] at H
            have c4b0 : ((rd l0 x3_1) == 0) = false := beq_eq_false_iff_ne.mpr c4
            have c4b1 : ((rd l0 x3_1) != 0) = true := bne_iff_ne.mpr c4
            obtain rfl := Option.some.inj H
            have p129 : 0 ≤ (x3_1 : Int) := of_decide_eq_true (by first | (with_reducible assumption) | assumption)
            have q129 : x3_1 < (l0.length : Int) := of_decide_eq_true (by first | (with_reducible assumption) | assumption)
            obtain ⟨ad129, e129, hx129_0⟩ := Kd.at_int HR0.out x3_1 p129 q129
            cases e129
            replace p129 := eq_true p129
            replace q129 := eq_true q129
            go_wp2
            go_ret
            exact ⟨by first | rfl | (simp; done) | (simp [*]; done), by repeat (first | exact Drawn0.refl _ | apply Drawn0.step)⟩
        · rw [if_neg c3] at H
          exact absurd H (by simp)
      · rw [if_neg c2] at H
        have c2b0 : decide (x3_1 < (l0.length : Int)) = false := decide_eq_false c2
        clear c2
        obtain rfl := Option.some.inj H
        go_wp2
        go_ret
        exact ⟨by first | rfl | (simp; done) | (simp [*]; done), by repeat (first | exact Drawn0.refl _ | apply Drawn0.step)⟩


end Go.Proofs.YtnpiheoglilcbaaGreatDoor

/-! Bytes held against bytes: what equal tells of slices of bytes. -/
namespace Go.Proofs.YtnpiheoglilcbaaGreatDoor
open Go.RowKit Go.Deep Go.Proofs.YtnpiheoglilcbaaGreatDoorW.PrintWords
set_option linter.unusedVariables false
set_option linter.unusedSimpArgs false

/-- Numbers out of bytes. -/
def ints (l : List UInt8) : List Int := l.map fun x => (x.toNat : Int)

theorem ints_length (l : List UInt8) : (ints l).length = l.length := by simp [ints]

theorem ints_inj {l m : List UInt8} (h : ints l = ints m) : l = m := by
  induction l generalizing m with
  | nil => cases m with
    | nil => rfl
    | cons y m => simp [ints] at h
  | cons x l ih => cases m with
    | nil => simp [ints] at h
    | cons y m =>
      simp only [ints, List.map_cons, List.cons.injEq] at h
      have e : x = y := UInt8.toNat_inj.1 (by have := h.1; omega)
      rw [e, ih h.2]

theorem byteCells_ints (l : List UInt8) : Lib.byteCells l = (ints l).map (Value.int .u8) := by simp [Lib.byteCells, ints]

theorem IsB.ints {l : List UInt8} {v : Value} {k : Nat} {w : World} (h : IsB (Lib.byteCells l) v k w) : ∃ ao c, v = .slice ao (ints l).length c ∧ (ints l).length ≤ c ∧ (Kd.int .u8).C w ao (ints l).length (ints l) := by
  obtain ⟨c, ⟨rfl, h0⟩ | ⟨o, rfl, h1, h2, h3, h4⟩⟩ := h
  · have hl : l = [] := List.length_eq_zero_iff.1 (by have := congrArg List.length h0; rwa [Lib.byteCells_length] at this)
    subst hl
    exact ⟨none, 0, rfl, Nat.le_refl _, Kd.C_nil _ _⟩
  · rw [Lib.byteCells_length] at h1 ⊢
    refine ⟨_, c, by rw [ints_length], by rw [ints_length]; exact h1, rfl, by rw [ints_length]; unfold maxLen at h2; omega, fun _ => ⟨_, rfl, fun j p hj => ⟨[.int .u8 p], rfl, rfl, fun i u hu => ?_⟩⟩⟩
    cases i with
    | succ i => simp at hu
    | zero =>
      simp only [List.getElem?_cons_zero, Option.some.injEq] at hu
      subst hu
      have hc := h4 j (.int .u8 p) (by rw [byteCells_ints, List.getElem?_map, hj]; rfl)
      rw [Lib.addr_add]
      simpa [Kd.int, Kd.scalar] using hc

theorem equal_l : ∀ (m i : Nat) (x y : List Int), x.length = y.length → i + m = x.length → x.length ≤ 9223372036854775807 → ∃ k, laws_equal.l0 k x y (i : Int) = some (decide (x.drop i = y.drop i))
  | 0, i, x, y, hl, hi, hm => ⟨1, by
    simp only [laws_equal.l0]
    rw [if_neg (by omega), List.drop_eq_nil_of_le (by omega), List.drop_eq_nil_of_le (by omega)]
    simp⟩
  | m + 1, i, x, y, hl, hi, hm => by
    have hx : i < x.length := by omega
    have hy : i < y.length := by omega
    have rx : rd x (i : Int) = x[i] := by simp [rd, List.getD, hx]
    have ry : rd y (i : Int) = y[i] := by simp [rd, List.getD, hy]
    obtain ⟨k, e⟩ := equal_l m (i + 1) x y hl (by omega) hm
    rw [List.drop_eq_getElem_cons hx, List.drop_eq_getElem_cons hy]
    by_cases h : x[i] = y[i]
    · refine ⟨k + 1, ?_⟩
      simp only [laws_equal.l0]
      rw [if_pos (by omega), if_pos (by omega), if_pos (by omega), rx, ry, if_pos h, w64i _ (by omega) (by omega), show ((i : Int) + 1) = ((i + 1 : Nat) : Int) by omega, e]
      simp only [h, List.cons.injEq, true_and]
    · refine ⟨1, ?_⟩
      simp only [laws_equal.l0]
      rw [if_pos (by omega), if_pos (by omega), if_pos (by omega), rx, ry, if_neg h]
      simp only [h, List.cons.injEq, false_and, decide_false]

theorem equal_f (x y : List Int) (hm : x.length ≤ 9223372036854775807) : ∃ k, laws_equal.f k x y = some (decide (x = y)) := by
  unfold laws_equal.f
  by_cases hl : x.length = y.length
  · obtain ⟨k, e⟩ := equal_l x.length 0 x y hl (by omega) hm
    refine ⟨k, ?_⟩
    rw [if_pos (by omega)]
    simpa using e
  · refine ⟨0, ?_⟩
    rw [if_neg (by omega)]
    have : ¬ x = y := fun h => hl (by rw [h])
    simp [this]

/-- What equal tells of two slices of bytes. -/
theorem equal_any {l m : List UInt8} {A B : Option Addr} {c d : Nat} {w : World} (hA : (Kd.int .u8).C w A (ints l).length (ints l)) (hc : (ints l).length ≤ c) (hB : (Kd.int .u8).C w B (ints m).length (ints m)) (hd : (ints m).length ≤ d) :
    Calls Tryz.prog 14 #[.slice A (ints l).length c, .slice B (ints m).length d] w fun e w' => e = .returned (.bool (decide (l = m))) ∧ Drawn0 w w' := by
  obtain ⟨k, hk⟩ := equal_f (ints l) (ints m) (Kd.C_max hA)
  have e : decide (ints l = ints m) = decide (l = m) := by
    apply decide_eq_decide.mpr
    exact ⟨ints_inj, fun h => by rw [h]⟩
  rw [e] at hk
  exact laws_equal.calls k A c (ints l) B d (ints m) _ w hA hc hB hd hk

end Go.Proofs.YtnpiheoglilcbaaGreatDoor

/-! Two values that are weighed together: what isHeavy tells of them. -/
namespace Go.Proofs.YtnpiheoglilcbaaGreatDoor
open Go.RowKit Go.Deep Go.Proofs.YtnpiheoglilcbaaGreatDoorW.PrintWords
set_option linter.unusedVariables false
set_option linter.unusedSimpArgs false

/-- The weight of two values. -/
def wgh2 (V U : Val) : Int := if wgh V 0 ≤ 65536 then wgh U (wgh V 0) else wgh V 0

def heavy2V (V U : Val) : Bool := decide (wgh2 V U > 65536)

theorem heavy2V_tot {V U : Val} (h : heavy2V V U = false) : tot V + tot U ≤ 65536 := by
  have h1 : wgh2 V U ≤ 65536 := by
    have := of_decide_eq_false h
    omega
  unfold wgh2 at h1
  by_cases h2 : wgh V 0 ≤ 65536
  · rw [if_pos h2] at h1
    have e1 := wgh_tot V 0 h2 (by omega)
    have e2 := wgh_tot U (wgh V 0) h1 (by omega)
    omega
  · rw [if_neg h2] at h1
    exact absurd h1 h2

theorem isHeavy_f2 (V U : Val) (hV : okV V) (hU : okV U) : ∃ k, laws_isHeavy.f k [V, U] = some (heavy2V V U) := by
  obtain ⟨k1, e1⟩ := weigh_f V hV 0 (by omega) (by omega)
  have b0 := wgh_up V 0
  by_cases h : wgh V 0 ≤ 65536
  · obtain ⟨k2, e2⟩ := weigh_f U hU (wgh V 0) (by omega) (by omega)
    refine ⟨k1 + k2 + 3, ?_⟩
    have q1 : laws_weigh.f (k1 + k2 + 2) V.f0 V.f1 V.f2 V.f3 V.f4 V.f5 V.f6 0 = some (wgh V 0) := LeO_le (fun k => laws_weigh.f k V.f0 V.f1 V.f2 V.f3 V.f4 V.f5 V.f6 0) (fun k => laws_weigh.mono _ _ _ _ _ _ _ _ k) (show k1 ≤ k1 + k2 + 2 by omega) e1
    have q2 : laws_weigh.f (k1 + k2 + 1) U.f0 U.f1 U.f2 U.f3 U.f4 U.f5 U.f6 (wgh V 0) = some (wgh U (wgh V 0)) := LeO_le (fun k => laws_weigh.f k U.f0 U.f1 U.f2 U.f3 U.f4 U.f5 U.f6 (wgh V 0)) (fun k => laws_weigh.mono _ _ _ _ _ _ _ _ k) (show k2 ≤ k1 + k2 + 1 by omega) e2
    simp only [laws_isHeavy.f]
    rw [laws_isHeavy.l0]
    simp only [List.length_cons, List.length_nil, rd_Val, Int.toNat_zero, List.getD_cons_zero]
    rw [if_pos (by omega), if_pos (by omega), if_pos (by omega), q1]
    simp only [Option.bind_some]
    rw [w64i _ (by omega) (by omega), laws_isHeavy.l0]
    simp only [List.length_cons, List.length_nil, rd_Val, show ((0 : Int) + 1).toNat = 1 from rfl, List.getD_cons_succ, List.getD_cons_zero]
    rw [if_pos (by omega), if_pos h, if_pos (by omega), q2]
    simp only [Option.bind_some]
    rw [w64i _ (by omega) (by omega), laws_isHeavy.l0]
    simp only [List.length_cons, List.length_nil]
    rw [if_neg (by omega)]
    unfold heavy2V wgh2
    rw [if_pos h]
  · refine ⟨k1 + 2, ?_⟩
    have q1 : laws_weigh.f (k1 + 1) V.f0 V.f1 V.f2 V.f3 V.f4 V.f5 V.f6 0 = some (wgh V 0) := LeO_le (fun k => laws_weigh.f k V.f0 V.f1 V.f2 V.f3 V.f4 V.f5 V.f6 0) (fun k => laws_weigh.mono _ _ _ _ _ _ _ _ k) (show k1 ≤ k1 + 1 by omega) e1
    simp only [laws_isHeavy.f]
    rw [laws_isHeavy.l0]
    simp only [List.length_cons, List.length_nil, rd_Val, Int.toNat_zero, List.getD_cons_zero]
    rw [if_pos (by omega), if_pos (by omega), if_pos (by omega), q1]
    simp only [Option.bind_some]
    rw [w64i _ (by omega) (by omega), laws_isHeavy.l0]
    simp only [List.length_cons, List.length_nil]
    rw [if_pos (by omega), if_neg h]
    unfold heavy2V wgh2
    rw [if_neg h]

theorem heavy2_any {V U : Val} (hV : okV V) (hU : okV U) {w : World} {x0 x1 x2 x3 x4 x5 x6 y0 y1 y2 y3 y4 y5 y6 : Value} (hK : kVal.K w V [x0, x1, x2, x3, x4, x5, x6]) (hL : kVal.K w U [y0, y1, y2, y3, y4, y5, y6]) (W : World) (hB : Below w.heap.size w W) (A : Addr) (c : Nat) (hc : 2 ≤ c)
    (hcell : ∀ j v, [x0, x1, x2, x3, x4, x5, x6, y0, y1, y2, y3, y4, y5, y6][j]? = some v → W.cell? (A.add j) = some v) :
    Calls Tryz.prog 9 #[.slice (some A) 2 c] W fun e w' => e = .returned (.bool (heavy2V V U)) ∧ Below W.heap.size W w' := by
  obtain ⟨k, hk⟩ := isHeavy_f2 V U hV hU
  have hC : Kd.C kVal W (some A) [V, U].length [V, U] := by
    refine ⟨rfl, by simp, fun _ => ⟨A, rfl, fun j p hj => ?_⟩⟩
    match j, hj with
    | 0, hj =>
      simp only [List.getElem?_cons_zero, Option.some.injEq] at hj
      subst hj
      refine ⟨[x0, x1, x2, x3, x4, x5, x6], rfl, kVal.K_below hB hK, fun i u hu => ?_⟩
      rw [Nat.zero_mul, Nat.zero_add]
      refine hcell i u ?_
      have hi : i < [x0, x1, x2, x3, x4, x5, x6].length := by
        rcases List.getElem?_eq_some_iff.1 hu with ⟨h, -⟩
        exact h
      have : [x0, x1, x2, x3, x4, x5, x6, y0, y1, y2, y3, y4, y5, y6] = [x0, x1, x2, x3, x4, x5, x6] ++ [y0, y1, y2, y3, y4, y5, y6] := rfl
      rw [this, List.getElem?_append_left hi]
      exact hu
    | 1, hj =>
      simp only [List.getElem?_cons_succ, List.getElem?_cons_zero, Option.some.injEq] at hj
      subst hj
      refine ⟨[y0, y1, y2, y3, y4, y5, y6], rfl, kVal.K_below hB hL, fun i u hu => ?_⟩
      refine hcell (1 * kVal.sz + i) u ?_
      have : [x0, x1, x2, x3, x4, x5, x6, y0, y1, y2, y3, y4, y5, y6] = [x0, x1, x2, x3, x4, x5, x6] ++ [y0, y1, y2, y3, y4, y5, y6] := rfl
      have hs : 1 * kVal.sz + i = 7 + i := by rw [show kVal.sz = 7 from rfl]
      rw [this, hs, List.getElem?_append_right (by simp)]
      simpa using hu
    | n + 2, hj => simp at hj
  exact laws_isHeavy.calls k (some A) c [V, U] _ W hC (by simpa using hc) hk

end Go.Proofs.YtnpiheoglilcbaaGreatDoor

/-! Lists of bytes are joined. Turned by a program (wip/tools/own2.py) from what the kit's print says of these functions. -/
namespace Go.Proofs.YtnpiheoglilcbaaGreatDoor
open Go.RowKit Go.Proofs.YtnpiheoglilcbaaGreatDoorW.PrintWords Go.Proofs.YtnpiheoglilcbaaGreatDoorW.PrintLast Go.Proofs.YtnpiheoglilcbaaGreatDoorW.PrintMore
attribute [local go_sem] max2_int min2_int max_two min_two max_three min_three max_four min_four
set_option linter.unusedVariables false
set_option linter.unusedSimpArgs false

theorem infoU8 : (Tryz.prog.info? 5).map (fun i => (i.zero, i.size, i.bytes)) = some (some (.int .u8 0), 1, 1) := by kernel_rfl


def rd_L2 (xs : List (List Int)) (i : Int) : (List Int) := xs.getD i.toNat ([] : List Int)
theorem at_L2 {w : World} {A : Option Addr} {n : Nat} {xs : List (List Int)} (h : Kd.C (Kd.slice 5 (Kd.int .u8)) w A n xs) (i : Int) (h0 : 0 ≤ i) (h1 : i < n) : ∃ ad A0 c0, A = some ad ∧ w.cell? (ad.add i.toNat) = some (.slice A0 (rd_L2 xs i).length c0) ∧ (rd_L2 xs i).length ≤ c0 ∧ (Kd.int .u8).C w A0 (rd_L2 xs i).length (rd_L2 xs i) := by
  obtain ⟨ad, c, e, _, hK, hc0⟩ := Kd.C_get h ([] : List Int) i h0 h1
  have hc : ∀ j u, c[j]? = some u → w.cell? (ad.add (i.toNat * 1 + j)) = some u := hc0
  obtain ⟨A0, c0, rfl, l0, g0⟩ := hK
  exact ⟨ad, A0, c0, e, by have hq := hc 0 _ rfl; rwa [Nat.mul_one, Nat.add_zero] at hq, l0, g0⟩



/-! ### laws_joined -/
def laws_joined.l0 : Nat → List (List Int) → List Int → Int → Option (List Int)
  | 0, _, _, _ => none
  | k + 1, x0, x3, x4 => if x4 < (x0.length : Int) then (if 0 ≤ x4 then (if x3.length + (rd_L2 x0 x4).length < 140737488355328 then (laws_joined.l0 k x0 (x3 ++ (rd_L2 x0 x4)) (wrap64 (x4 + 1))) else (none)) else (none)) else (some x3)
def laws_joined.f (k : Nat) (l0 : List (List Int)) : Option (List Int) := laws_joined.l0 k l0 ([] : List Int) 0
theorem laws_joined.mono_l : ∀ k, (∀ y0 y1 y2, LeO (laws_joined.l0 k y0 y1 y2) (laws_joined.l0 (k + 1) y0 y1 y2))
  | 0 => fun _ _ _ r h => by simp [laws_joined.l0] at h
  | k + 1 => by
    have ih0 := laws_joined.mono_l k
    · intro y0 y1 y2
      unfold laws_joined.l0
      repeat' first
      | (with_reducible exact ih0 _ _ _)
      | (with_reducible exact LeO.refl _)
      | (with_reducible exact LeO.none _)
      | (with_reducible refine LeO.ite ?_ ?_)
      | (with_reducible refine LeO.bind ?_ (fun _ => ?_))
      | exact ih0 _ _ _
      | exact LeO.none _
      | refine LeO.ite ?_ ?_
      | refine LeO.bind ?_ (fun _ => ?_)
theorem laws_joined.mono : ∀ a0 k, LeO (laws_joined.f k a0) (laws_joined.f (k + 1) a0) := by
  intro a0 k
  have ih0 := laws_joined.mono_l k
  unfold laws_joined.f
  repeat' first
      | (with_reducible exact ih0 _ _ _)
      | (with_reducible exact LeO.refl _)
      | (with_reducible exact LeO.none _)
      | (with_reducible refine LeO.ite ?_ ?_)
      | (with_reducible refine LeO.bind ?_ (fun _ => ?_))
      | exact ih0 _ _ _
      | exact LeO.none _
      | refine LeO.ite ?_ ?_
      | refine LeO.bind ?_ (fun _ => ?_)
set_option maxHeartbeats 8000000 in
set_option maxRecDepth 100000 in
theorem laws_joined.calls (k : Nat) (A0 : Option Addr) (c0 : Nat) (l0 : List (List Int)) (r : List Int) (w : World) (hr0 : Kd.C (Kd.slice 5 (Kd.int .u8)) w A0 l0.length l0) (hc0 : l0.length ≤ c0) (h : laws_joined.f k l0 = some r) :
    Calls Tryz.prog 18 #[.slice A0 l0.length c0] w fun e w' => ∃ v0_ : Value, e = .returned (v0_) ∧ Kd.R (Kd.int .u8) 5 w' w.heap.size (fun _ => True) v0_ r ∧ Below w.heap.size w w' := by
  have HR0 := Aside0.mk hr0
  have HC0 := Aside0.mk hc0
  clear hr0 hc0
  have HB := Aside0.mk (Below.refl w.heap.size w)
  have H : (laws_joined.l0 k l0 ([] : List Int) 0) = some r := h
  clear h
  have H' := Aside0.mk H
  clear H
  go_enter Tryz.func18, Tryz.ntmps18
  go_wp2
  go_loopg [3, 4] k (fun kq v3 v4 w' => ∃ (x3_1 : List Int) (x4_1 : Int), v4 = .int .i64 x4_1 ∧ Aside0 (laws_joined.l0 kq l0 x3_1 x4_1 = some r) ∧ Aside0 (kq ≤ k) ∧ Aside0 (Kd.R (Kd.int .u8) 5 w' w.heap.size (fun _ => True) v3 x3_1) ∧ Aside0 (Below w.heap.size w w'))
  case atStart => exact ⟨(([] : List Int)), (0), (by first | rfl | (simp; done) | (simp [*]; done)), H', ⟨Nat.le_refl _⟩, ⟨by first | exact Kd.R_nil _ _ _ _ _ | exact Kd.N_nil _ _ _ _ _ | exact Kd.V_nil _ _ _ _ _ | exact Kd.Q_nil _ _ _ _ _ | exact Kd.S_nil _ _ _ _ _⟩, ⟨by repeat (first | (with_reducible first | exact HB.out | apply below_alloc | apply pw_below_drewN | apply below_drew1) | exact HB.out)⟩⟩
  case round =>
    clear H'
    try clear c1
    obtain ⟨x3_1, x4_1, rfl, HA, HK1, HO_3, HB⟩ := hrel
    cases gk with
    | zero => exact absurd HA.out (by simp [laws_joined.l0])
    | succ k1 =>
      have H := HA.out
      clear HA
      simp only [laws_joined.l0] at H
      by_cases c2 : x4_1 < (l0.length : Int)
      · rw [if_pos c2] at H
        have c2b0 : decide (x4_1 < (l0.length : Int)) = true := decide_eq_true c2
        clear c2
        by_cases c3 : 0 ≤ x4_1
        · rw [if_pos c3] at H
          have c3b0 : decide (0 ≤ x4_1) = true := decide_eq_true c3
          clear c3
          by_cases c4 : x3_1.length + (rd_L2 l0 x4_1).length < 140737488355328
          · rw [if_pos c4] at H
            have LMc4 := Aside0.mk c4
            clear c4
            obtain ⟨y131, hy131⟩ : ∃ y_ : List Int, y_ = (x3_1 ++ (rd_L2 l0 x4_1)) := ⟨_, rfl⟩
            replace H : (laws_joined.l0 k1 l0 y131 (wrap64 (x4_1 + 1))) = some r := by first | (rw [hy131]; with_reducible exact H) | (have H2_ := (Option.bind_some _ _).symm.trans H; rw [hy131]; with_reducible exact H2_) | (have H2_ := (Option.bind_some _ _).symm.trans H; with_reducible exact H2_) | with_reducible exact H | (rw [hy131]; exact H) | exact H
            have Ny131 := Aside0.mk hy131
            clear hy131
            have H' := Aside0.mk H
            clear H
            have p130 : 0 ≤ (x4_1 : Int) := of_decide_eq_true (by first | (with_reducible assumption) | assumption)
            have q130 : x4_1 < (l0.length : Int) := of_decide_eq_true (by first | (with_reducible assumption) | assumption)
            obtain ⟨ad130, A130_0, c130_0, e130, hx130_0, hl130_0, hi130_0⟩ := at_L2 HR0.out x4_1 p130 q130
            cases e130
            replace hx130_0 := (HB.out.cell (World.block_lt_of_cell? w _ hx130_0)).trans hx130_0
            have HR130_0 := Aside0.mk hi130_0
            have HC130_0 := Aside0.mk hl130_0
            clear hi130_0 hl130_0
            replace p130 := eq_true p130
            replace q130 := eq_true q130
            go_wp2_with (first | ((with_reducible refine gate_builtin (b := .append) (xs := #[.tmp 11, .tmp 15]) rfl ?_); at_builtin; refine Kd.R_append_rows (Kd.int .u8) (w0 := w) w.heap.size rfl (.tmp 11) (.tmp 15) 24 5 (.int .u8 0) 1 rfl Tryz.underlying24 infoU8 rfl (by decide) (by omega) u3 x3_1 (rd_L2 l0 x4_1) _ _ _ (fun _ => True) (fun _ => False) rfl rfl ?aO ?aR (fun _ _ h => h) (fun _ h => h.elim) ?aF ?aB ?aS ?aL ?_; (case aR => repeat (first | exact (Kd.C_below HR130_0.out HB.out) | (with_reducible refine Kd.C_alloc ?_ _) | (with_reducible refine Kd.C_drewN ?_ _) | (with_reducible refine Kd.C_drew ?_))); (case aB => exact (by repeat (first | (with_reducible first | exact HB.out | apply below_alloc | apply pw_below_drewN | apply below_drew1) | exact HB.out))); (case aF => exact (fun _ _ => trivial)); (case aO => exact (by (with_reducible repeat (first | apply Kd.R_alloc | apply Kd.R_drewN | apply Kd.R_drew)); exact HO_3.out)); (case aS => exact (below_size (by repeat (first | (with_reducible first | exact HB.out | apply below_alloc | apply pw_below_drewN | apply below_drew1) | exact HB.out)))); (case aL => have := LMc4.out; omega); intro v132 w5 ho hb hg hat; rw [← Ny131.out] at ho; have n0_ := Aside0.mk (hb); have n1_ := Aside0.mk (ho); clear HB; clear HO_3; have HB := n0_; have HO133 := n1_; clear n0_ n1_; clear ho hb hg hat))
            go_roundg k1
            case measure => have := HK1.out; omega
            case rel => exact ⟨(y131), (wrap64 (x4_1 + 1)), (by first | rfl | (simp; done) | (simp [*]; done)), H', ⟨by have := HK1.out; omega⟩, ⟨by (with_reducible repeat (first | apply Kd.R_alloc | apply Kd.R_drewN | apply Kd.R_drew)); exact HO133.out⟩, ⟨by repeat (first | (with_reducible first | exact HB.out | apply below_alloc | apply pw_below_drewN | apply below_drew1) | exact HB.out)⟩⟩
          · rw [if_neg c4] at H
            exact absurd H (by simp)
        · rw [if_neg c3] at H
          exact absurd H (by simp)
      · rw [if_neg c2] at H
        have c2b0 : decide (x4_1 < (l0.length : Int)) = false := decide_eq_false c2
        clear c2
        obtain rfl := Option.some.inj H
        go_wp2
        go_ret
        exact ⟨_, by first | rfl | (simp [Nat.add_zero] <;> rfl) | (simp [*, Nat.add_zero] <;> rfl), by (with_reducible repeat (first | apply Kd.R_alloc | apply Kd.R_drewN | apply Kd.R_drew)); exact HO_3.out, by repeat (first | (with_reducible first | exact HB.out | apply below_alloc | apply pw_below_drewN | apply below_drew1) | exact HB.out)⟩


end Go.Proofs.YtnpiheoglilcbaaGreatDoor
