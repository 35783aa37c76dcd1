import PyProof.Rows.All
import Wide.All
import OpenK.AllK
import Wide.FinOn
import PySem.Challenge.RW_zn0001_01
open PySem PySem.W PyProof.Rows
set_option Elab.async false
set_option maxRecDepth 100000
set_option maxHeartbeats 8000000
namespace Mine
open_top hd for PySem.Challenge.rw_zn0001_01
end Mine
-- Sr1
theorem Mine.rst_Sr1 : True := by
  w_top off
  trivial
namespace Mine
open PySem.Sre (M Op ops)
/-- the code of (?m)^(?!$) -/
def codeI : Array Nat := #[14, 4, 0, 0, 0, 6, 1, 5, 5, 0, 6, 6, 1, 1]
def bol (t : Array Nat) (p : Nat) : Bool := p == 0 || t.getD (p - 1) 0 == 10
def eol (t : Array Nat) (n p : Nat) : Bool := p == n || t.getD p 0 == 10
abbrev frI (p : Nat) (first : Bool) : Sre.Frame := { wait := .nextStart, pc := 5, pos := p, outermost := first }
abbrev frL (p : Nat) (first : Bool) : Sre.Frame := { wait := .lookNot, pc := 7, pos := p, outermost := first, kept := { lastmark := -1, lastindex := -1, whole := false, marks := #[] } }
/-- the machine: its place in the code, in the text; its frames -/
abbrev mI (t : Array Nat) (n p : Nat) (must om : Bool) (pc : Nat) (fr : List Sre.Frame) (wt : Nat) (an : Option Bool) (seen : Sre.Seen) : M :=
  { code := codeI, text := t, lim := n, start := p, lastStart := n, mustAdvance := must, pc := pc, pos := p, handed := p, outermost := om, marks := #[],
    frames := fr, weight := wt, answer := an, seen := seen }
abbrev stI (t : Array Nat) (n p : Nat) (must first : Bool) (seen : Sre.Seen) : M := mI t n p must first 5 [frI p first] 1 none seen
theorem forSearch_I (t : Array Nat) (p : Nat) (must : Bool) (hp : p ≤ t.size) : Sre.forSearch codeI t 0 p t.size must = stI t t.size p must true (({} : Sre.Seen).add 14) := by
  have hh : Sre.header codeI = (0, 5) := rfl
  unfold Sre.forSearch
  simp only [hh]
  rw [if_neg (by simp; omega)]
  rfl
variable (t : Array Nat) (n p : Nat) (must first : Bool) (seen : Sre.Seen)
theorem s0 : (stI t n p must first seen).step = if bol t p = true then mI t n p must first 7 [frI p first] 1 none ((seen.add 6).add 44) else mI t n p must first 5 [frI p first] 1 (some false) ((seen.add 6).add 44) := rfl
theorem s1 : (mI t n p must first 7 [frI p first] 1 none seen).step = mI t n p must false 10 [frL p first, frI p first] 2 none (seen.add 5) := rfl
theorem s2 : (mI t n p must false 10 [frL p first, frI p first] 2 none seen).step = if eol t n p = true then mI t n p must false 12 [frL p first, frI p first] 2 none ((seen.add 6).add 49) else mI t n p must false 10 [frL p first, frI p first] 2 (some false) ((seen.add 6).add 49) := rfl
theorem s3 : (mI t n p must false 12 [frL p first, frI p first] 2 none seen).step = mI t n p must false 12 [frL p first, frI p first] 2 (some true) (seen.add 1) := rfl
theorem s4 : (mI t n p must false 12 [frL p first, frI p first] 2 (some true) seen).step = mI t n p must first 7 [frI p first] 1 (some false) seen := rfl
theorem s4' : (mI t n p must false 10 [frL p first, frI p first] 2 (some false) seen).step = mI t n p must first 13 [frI p first] 1 none seen := rfl
theorem s5 : (mI t n p must first 13 [frI p first] 1 none seen).step = if (first && (false || (must && p == p))) = true then mI t n p must first 13 [frI p first] 1 (some false) (seen.add 1) else mI t n p must first 13 [frI p first] 1 (some true) (seen.add 1) := rfl
theorem s6 (pc : Nat) : (mI t n p must first pc [frI p first] 1 (some true) seen).step = mI t n p must first 5 [] 0 (some true) seen := rfl
theorem s7 : (mI t n p must first 5 [] 0 (some true) seen).step = { mI t n p must first 5 [] 0 (some true) seen with outcome := some .matched } := rfl
theorem s8 (pc : Nat) : (mI t n p must first pc [frI p first] 1 (some false) seen).step = if p < n then stI t n (p + 1) false false seen else mI t n p must first 5 [] 0 (some false) seen := rfl
theorem s9 : (mI t n p must first 5 [] 0 (some false) seen).step = { mI t n p must first 5 [] 0 (some false) seen with outcome := some .failed } := rfl

theorem runFor_none {m : M} (h : m.outcome = none) (k : Nat) : M.runFor (k + 1) m = M.runFor k m.step := by
  show (if m.outcome.isSome = true then m else M.runFor k m.step) = _
  rw [h]; rfl
theorem runFor_some {m : M} (h : m.outcome.isSome = true) : ∀ k, M.runFor k m = m
  | 0 => rfl
  | k + 1 => by show (if m.outcome.isSome = true then m else M.runFor k m.step) = _; rw [if_pos h]
theorem runFor_add (j : Nat) : ∀ (i : Nat) (m : M), M.runFor (i + j) m = M.runFor j (M.runFor i m)
  | 0, m => by rw [Nat.zero_add]; rfl
  | i + 1, m => by
    cases h : m.outcome with
    | some o =>
      have hs : m.outcome.isSome = true := by rw [h]; rfl
      rw [runFor_some hs, runFor_some hs, runFor_some hs]
    | none => rw [show i + 1 + j = (i + j) + 1 by omega, runFor_none h, runFor_none h, runFor_add j i]
theorem runFor_more {m m' : M} {i : Nat} (h : M.runFor i m = m') (ho : m'.outcome.isSome = true) (j : Nat) (hj : i ≤ j) : M.runFor j m = m' := by
  obtain ⟨d, rfl⟩ := Nat.exists_eq_add_of_le hj
  rw [runFor_add, h, runFor_some ho]

def hit (t : Array Nat) (n p : Nat) : Bool := bol t p && !eol t n p
/-- the next place of a match from p on (b: not at p itself) -/
noncomputable def nextHit (t : Array Nat) (n : Nat) : Nat → Nat → Bool → Option Nat
  | 0, _, _ => none
  | k + 1, p, b => if (hit t n p && !b) = true then some p else nextHit t n k (p + 1) false
def Found (_ : Array Nat) (o : Option Nat) (m : M) : Prop := match o with
  | some q => m.outcome = some .matched ∧ m.start = q ∧ m.handed = q
  | none => m.outcome = some .failed

omit t n p must first seen in
theorem run_I (t : Array Nat) (n : Nat) : ∀ (k p : Nat) (must first : Bool) (seen : Sre.Seen), p + k = n →
    ∃ N m', N ≤ 8 * (k + 1) ∧ M.runFor N (stI t n p must first seen) = m' ∧ m'.outcome.isSome = true ∧ Found t (nextHit t n k p (first && must)) m' := by
  intro k
  induction k with
  | zero =>
    intro p must first seen hp
    have he : eol t n p = true := by simp [eol]; omega
    have hn : ¬ p < n := by omega
    cases hb : bol t p with
    | false =>
      refine ⟨3, _, by omega, rfl, ?_⟩
      rw [runFor_none rfl, s0, hb, if_neg Bool.false_ne_true, runFor_none rfl, s8, if_neg hn, runFor_none rfl, s9]
      exact ⟨rfl, rfl⟩
    | true =>
      refine ⟨7, _, by omega, rfl, ?_⟩
      rw [runFor_none rfl, s0, hb, if_pos rfl, runFor_none rfl, s1, runFor_none rfl, s2, he, if_pos rfl, runFor_none rfl, s3, runFor_none rfl, s4, runFor_none rfl, s8, if_neg hn, runFor_none rfl, s9]
      exact ⟨rfl, rfl⟩
  | succ k ih =>
    intro p must first seen hp
    have hn : p < n := by omega
    have next : ∀ i seen', i ≤ 6 → M.runFor i (stI t n p must first seen) = stI t n (p + 1) false false seen' → (hit t n p && !(first && must)) = false →
        ∃ N m', N ≤ 8 * (k + 1 + 1) ∧ M.runFor N (stI t n p must first seen) = m' ∧ m'.outcome.isSome = true ∧ Found t (nextHit t n (k + 1) p (first && must)) m' := by
      intro i seen' hi hr hh
      obtain ⟨N, m', hN, h1, h2, h3⟩ := ih (p + 1) false false seen' (by omega)
      refine ⟨i + N, m', by omega, by rw [runFor_add, hr, h1], h2, ?_⟩
      show Found t (if (hit t n p && !(first && must)) = true then some p else nextHit t n k (p + 1) false) m'
      rw [hh]; exact h3
    cases hb : bol t p with
    | false =>
      refine next 2 ((seen.add 6).add 44) (by omega) ?_ (by simp [hit, hb])
      rw [runFor_none rfl, s0, hb, if_neg Bool.false_ne_true, runFor_none rfl, s8, if_pos hn]; rfl
    | true =>
      cases he : eol t n p with
      | true =>
        refine next 6 ((((((seen.add 6).add 44).add 5).add 6).add 49).add 1) (by omega) ?_ (by simp [hit, he])
        · rw [runFor_none rfl, s0, hb, if_pos rfl, runFor_none rfl, s1, runFor_none rfl, s2, he, if_pos rfl, runFor_none rfl, s3, runFor_none rfl, s4, runFor_none rfl, s8, if_pos hn]; rfl
      | false =>
        cases hf : (first && must) with
        | true =>
          rw [hf] at next
          refine next 6 ((((((seen.add 6).add 44).add 5).add 6).add 49).add 1) (by omega) ?_ (by simp)
          · have hc : (first && (false || (must && p == p))) = true := by simpa using hf
            rw [runFor_none rfl, s0, hb, if_pos rfl, runFor_none rfl, s1, runFor_none rfl, s2, he, if_neg Bool.false_ne_true, runFor_none rfl, s4', runFor_none rfl, s5, if_pos hc, runFor_none rfl, s8, if_pos hn]; rfl
        | false =>
          have hc : ¬ (first && (false || (must && p == p))) = true := by simp at hf ⊢; exact hf
          refine ⟨7, _, by omega, rfl, ?_⟩
          rw [runFor_none rfl, s0, hb, if_pos rfl, runFor_none rfl, s1, runFor_none rfl, s2, he, if_neg Bool.false_ne_true, runFor_none rfl, s4', runFor_none rfl, s5, if_neg hc, runFor_none rfl, s6, runFor_none rfl, s7]
          refine ⟨rfl, ?_⟩
          show Found t (if (hit t n p && !false) = true then some p else nextHit t n k (p + 1) false) _
          rw [if_pos (by simp [hit, hb, he])]
          exact ⟨rfl, rfl, rfl⟩

/-- the text with a prefix ahead of each line that is not empty; fl: a line begins here -/
noncomputable def ind (sp : List Nat) : Bool → List Nat → List Nat
  | _, [] => []
  | fl, c :: r => (if fl = true ∧ c ≠ 10 then sp else []) ++ c :: ind sp (c == 10) r

omit t n p must first seen in
theorem nextHit_none (sp : List Nat) (t : Array Nat) (n : Nat) (hn : n = t.size) : ∀ (k p : Nat) (b : Bool), p + k = n → nextHit t n k p b = none →
    ind sp (bol t p && !b) (t.toList.drop p) = t.toList.drop p := by
  intro k
  induction k with
  | zero => intro p b hp _; rw [List.drop_eq_nil_of_le (by simp; omega)]; rfl
  | succ k ih =>
    intro p b hp h
    have hlt : p < t.toList.length := by simp; omega
    rw [List.drop_eq_getElem_cons hlt]
    have hx : t.getD p 0 = t.toList[p] := by simp [Array.getD, show p < t.size by simpa using hlt]
    unfold nextHit at h
    split at h
    · cases h
    · rename_i hh
      have := ih (p + 1) false (by omega) h
      have hb : bol t (p + 1) = (t.toList[p] == 10) := by simp only [bol, Nat.add_sub_cancel, hx]; simp
      rw [hb] at this
      simp only [ind, Bool.not_false, Bool.and_true] at this ⊢
      rw [this, if_neg, List.nil_append]
      rintro ⟨h1, h2⟩
      apply hh
      simp only [hit, eol, hx, Bool.and_eq_true, Bool.not_eq_true', Bool.or_eq_false_iff, beq_eq_false_iff_ne] at h1 ⊢
      exact ⟨⟨h1.1, by omega, h2⟩, by simpa using h1.2⟩
omit t n p must first seen in
theorem nextHit_some (sp : List Nat) (t : Array Nat) (n : Nat) (hn : n = t.size) : ∀ (k p : Nat) (b : Bool) (q : Nat), p + k = n → nextHit t n k p b = some q →
    p ≤ q ∧ q < n ∧ (q = p → b = false) ∧ ind sp (bol t p && !b) (t.toList.drop p) = (t.toList.drop p).take (q - p) ++ (sp ++ ind sp false (t.toList.drop q)) := by
  intro k
  induction k with
  | zero => intro p b q hp h; cases h
  | succ k ih =>
    intro p b q hp h
    have hlt : p < t.toList.length := by simp; omega
    have hx : t.getD p 0 = t.toList[p] := by simp [Array.getD, show p < t.size by simpa using hlt]
    unfold nextHit at h
    split at h
    · rename_i hh
      obtain rfl : p = q := Option.some.inj h
      simp only [hit, eol, hx, Bool.and_eq_true, Bool.not_eq_true', Bool.or_eq_false_iff, beq_eq_false_iff_ne] at hh
      refine ⟨Nat.le_refl _, by omega, fun _ => hh.2, ?_⟩
      rw [List.drop_eq_getElem_cons hlt]
      simp only [ind, Nat.sub_self, List.take_zero, List.nil_append]
      rw [if_pos ⟨by simp [hh.1.1, hh.2], hh.1.2.2⟩, if_neg (by simp), List.nil_append]
    · rename_i hh
      obtain ⟨h1, h2, h3, h4⟩ := ih (p + 1) false q (by omega) h
      have hb : bol t (p + 1) = (t.toList[p] == 10) := by simp only [bol, Nat.add_sub_cancel, hx]; simp
      rw [hb] at h4
      refine ⟨by omega, h2, fun e => by omega, ?_⟩
      rw [List.drop_eq_getElem_cons hlt, show q - p = (q - (p + 1)) + 1 by omega, List.take_succ_cons]
      simp only [ind, Bool.not_false, Bool.and_true] at h4 ⊢
      rw [h4, if_neg, List.nil_append, List.cons_append]
      rintro ⟨g1, g2⟩
      apply hh
      simp only [hit, eol, hx, Bool.and_eq_true, Bool.not_eq_true', Bool.or_eq_false_iff, beq_eq_false_iff_ne] at g1 ⊢
      exact ⟨⟨g1.1, by omega, g2⟩, by simpa using g1.2⟩
omit t n p must first seen in
theorem blanks (n : Int) (hn : 0 ≤ n) : Txt.mul (PySem.Str.ofString " ") n = ⟨(List.replicate n.toNat 32).toArray⟩ := by
  have fold : ∀ (k : Nat) (acc : Array Nat), List.foldl (fun x1 x2 => x1 ++ x2) acc (List.replicate k #[32]) = acc ++ (List.replicate k 32).toArray := by
    intro k
    induction k with
    | zero => intro acc; simp
    | succ k ih => intro acc; rw [List.replicate_succ, List.foldl_cons, ih]; apply Array.ext'; simp [List.replicate_succ]
  have e : PySem.Str.ofString " " = ⟨#[32]⟩ := by decide
  unfold Txt.mul
  rw [e]
  split
  · have : n = 0 := by omega
    subst this; rfl
  · split
    · rename_i h1 h2
      have : n = 1 := by simpa [Str.length] using h2
      subst this; rfl
    · simp only [fold]; simp
end Mine
-- ReF
theorem Mine.rst_ReF : True := by
  w_top off
  trivial
namespace Mine
open PySem.F
theorem plainAttrs_pat : PlainAttrs "re.Pattern" :=
  ⟨⟨"object.__getattribute__", by rw [typeLookup_type, builtinLookup_eq_fast]; kernel_rfl, by decide +kernel⟩, by rw [typeLookup_type, builtinLookup_eq_fast]; kernel_rfl⟩
theorem plainAttrs_mat : PlainAttrs "re.Match" :=
  ⟨⟨"object.__getattribute__", by rw [typeLookup_type, builtinLookup_eq_fast]; kernel_rfl, by decide +kernel⟩, by rw [typeLookup_type, builtinLookup_eq_fast]; kernel_rfl⟩
theorem slot_sub : Slot "re.Pattern" "sub" "re.Pattern.sub" :=
  .of (owner := "re.Pattern") (n := "sub") (by rw [typeLookup_type, builtinLookup_eq_fast]; kernel_rfl) (by decide +kernel) (by decide +kernel) (by decide +kernel)
    (by first | exact .inl (by decide +kernel) | exact .inr (by decide +kernel)) (by rw [isSubtype_type]; kernel_rfl)
theorem type_sub : typeOf (.builtin "re.Pattern.sub") = pure (.type "method_descriptor") := by show builtinType _ = _; rw [builtinType_eq_fast]; kernel_rfl
theorem entry_sub : entryFor table "re.Pattern.sub" = some Builtin.«re.Pattern.sub» := entryFor_of_tree (by kernel_rfl)
theorem args_sub (a b c : Value) : argsOk "re.Pattern.sub" ⟨[a, b, c], []⟩ := by unfold argsOk; kernel_rfl
theorem entry_subloop : entryFor table "re.Pattern.sub.loop" = some Builtin.«re.Pattern.sub.loop» := entryFor_of_tree (by kernel_rfl)
theorem slot_search : Slot "re.Pattern" "search" "re.Pattern.search" :=
  .of (owner := "re.Pattern") (n := "search") (by rw [typeLookup_type, builtinLookup_eq_fast]; kernel_rfl) (by decide +kernel) (by decide +kernel) (by decide +kernel)
    (by first | exact .inl (by decide +kernel) | exact .inr (by decide +kernel)) (by rw [isSubtype_type]; kernel_rfl)
theorem type_search : typeOf (.builtin "re.Pattern.search") = pure (.type "method_descriptor") := by show builtinType _ = _; rw [builtinType_eq_fast]; kernel_rfl
theorem entry_search : entryFor table "re.Pattern.search" = some Builtin.«re.Pattern.search» := entryFor_of_tree (by kernel_rfl)
theorem args_search (a b : Value) : argsOk "re.Pattern.search" ⟨[a, b], []⟩ := by unfold argsOk; kernel_rfl
theorem slot_group : Slot "re.Match" "group" "re.Match.group" :=
  .of (owner := "re.Match") (n := "group") (by rw [typeLookup_type, builtinLookup_eq_fast]; kernel_rfl) (by decide +kernel) (by decide +kernel) (by decide +kernel)
    (by first | exact .inl (by decide +kernel) | exact .inr (by decide +kernel)) (by rw [isSubtype_type]; kernel_rfl)
theorem type_group : typeOf (.builtin "re.Match.group") = pure (.type "method_descriptor") := by show builtinType _ = _; rw [builtinType_eq_fast]; kernel_rfl
theorem entry_group : entryFor table "re.Match.group" = some Builtin.«re.Match.group» := entryFor_of_tree (by kernel_rfl)
theorem args_group (a b : Value) : argsOk "re.Match.group" ⟨[a, b], []⟩ := by unfold argsOk; kernel_rfl
end Mine
-- Sr2
theorem Mine.rst_Sr2 : True := by
  w_top off
  trivial
namespace Mine
open PySem.Sre (M)
open PySem.Builtin.Re
section
variable {Mo : Model} {A : Around} {E : Value → Shared → Prop} {s : Shared}
theorem for_rules (l : List Nat) (f : Nat → PUnit → Sem (ForInStep PUnit)) {Q : PUnit → Shared → Prop}
    (hf : ∀ i u (Q' : ForInStep PUnit → Shared → Prop), Q' (.yield ⟨⟩) s → wpAny Mo A (f i u) Q' E s) (h : Q ⟨⟩ s) : wpAny Mo A (forIn l ⟨⟩ f) Q E s := by
  induction l with
  | nil => rw [List.forIn_nil]; exact wpAny_pure h
  | cons a l ih => rw [List.forIn_cons]; exact wpAny_bind (hf _ _ _ ih)
theorem drive_any : ∀ (turns : Nat) (m : M) {Q : M → Shared → Prop} (N : Nat) (m' : M), m.outcome = none → N ≤ 4 * turns → M.runFor N m = m' → m'.outcome.isSome = true → Q m' s →
    wpAny Mo A (reDrive turns m) Q E s
  | 0, m, Q, N, m', h0, hN, hr, ho, hQ => by
    obtain rfl : N = 0 := by omega
    rw [show M.runFor 0 m = m from rfl] at hr
    rw [← hr, h0] at ho; cases ho
  | turns + 1, m, Q, N, m', h0, hN, hr, ho, hQ => by
    show wpAny Mo A (if (M.runFor 4 m).outcome.isSome = true then pure (M.runFor 4 m) else do rule "sre.turn"; reDrive turns (M.runFor 4 m)) Q E s
    by_cases h4 : N ≤ 4
    · have := runFor_more hr ho 4 h4
      rw [this, if_pos ho]; exact wpAny_pure hQ
    · have e : M.runFor (N - 4) (M.runFor 4 m) = m' := by rw [← runFor_add, show 4 + (N - 4) = N by omega, hr]
      cases hm : (M.runFor 4 m).outcome with
      | some o =>
        have hs : (M.runFor 4 m).outcome.isSome = true := by rw [hm]; rfl
        rw [runFor_some hs] at e
        rw [← hm, if_pos hs, e]; exact wpAny_pure hQ
      | none =>
        rw [if_neg (by simp)]
        exact wpAny_bind (wpAny_rule (drive_any turns _ (N - 4) m' hm (by omega) e ho hQ))
theorem toEnd_any {m : M} {Q : Option M → Shared → Prop} (N : Nat) (m' : M) (h0 : m.outcome = none) (hN : N ≤ 4 * 2 ^ 64) (hr : M.runFor N m = m')
    (hQ : (m'.outcome = some .matched ∧ Q (some m') s) ∨ (m'.outcome = some .failed ∧ Q none s)) : wpAny Mo A (reRunToEnd m) Q E s := by
  unfold reRunToEnd
  have ho : m'.outcome.isSome = true := by rcases hQ with h | h <;> rw [h.1] <;> rfl
  refine wpAny_bind (drive_any _ _ N m' h0 hN hr ho ?_)
  refine wpAny_bind (for_rules _ _ (fun i u Q' h => ?_) ?_)
  · skip
    split
    · exact wpAny_bind (wpAny_rule (wpAny_pure h))
    · exact wpAny_bind (wpAny_pure (wpAny_pure h))
  · rcases hQ with h | h
    · rw [h.1]; exact wpAny_pure h.2
    · rw [h.1]; exact wpAny_pure h.2
end
end Mine
-- Tz1
theorem Mine.rst_Tz1 : True := by
  w_top off
  trivial
namespace Mine
open PySem.Sre (M Op ops)
/-- the code of ^([-+])?(\\d\\d?):?(\\d\\d)?$ -/
def codeT : Array Nat := #[14, 4, 0, 1, 6, 6, 0, 23, 14, 0, 1, 17, 0, 13, 6, 16, 45, 16, 43, 0, 17, 1, 18, 17, 2, 13, 4, 8, 0, 0, 24, 9, 0, 1, 13, 4, 8, 0, 0, 1, 17, 3, 24, 6, 0, 1, 16, 58, 1, 23, 17, 0, 1, 17, 4, 13, 4, 8, 0, 0, 13, 4, 8, 0, 0, 17, 5, 18, 6, 5, 1]
/-- the one digit that stands for all -/
def cls (c : Nat) : Nat := if Sre.isDigit c = true then 48 else c
theorem isDigit_cls (c : Nat) : Sre.isDigit (cls c) = Sre.isDigit c := by
  unfold cls
  split
  · rename_i h; rw [h]; rfl
  · rfl
theorem eq_cls (c k : Nat) (hk : Sre.isDigit k = false) : (cls c == k) = (c == k) := by
  unfold cls
  split
  · rename_i h
    have h1 : c ≠ k := fun e => by rw [e, hk] at h; cases h
    have h2 : 48 ≠ k := fun e => by rw [← e] at hk; cases hk
    rw [show (48 == k) = false by simpa using h2, show (c == k) = false by simpa using h1]
  · rfl
theorem acc_lit (i c k : Nat) (seen : Sre.Seen) (h1 : ops[codeT.getD i 0]? = some .LITERAL) (h2 : codeT.getD (i + 1) 0 = k) (hk : Sre.isDigit k = false) : Sre.accepts codeT i c seen = Sre.accepts codeT i (cls c) seen := by
  unfold Sre.accepts
  simp only [h1, h2, eq_cls c k hk]
theorem acc_dig (i c : Nat) (seen : Sre.Seen) (h : ∀ c, Sre.accepts codeT i c seen = if (Sre.isDigit c != false) = true then .ok (true, ((seen.add 8).add 55)) else .ok (!true, ((seen.add 8).add 55).add 0)) :
    Sre.accepts codeT i c seen = Sre.accepts codeT i (cls c) seen := by
  rw [h c, h (cls c), isDigit_cls]
theorem acc_sgn (c : Nat) (seen : Sre.Seen) : Sre.accepts codeT 13 c seen = Sre.accepts codeT 13 (cls c) seen := by
  have h : ∀ c, Sre.accepts codeT 13 c seen = if (c == 45) = true then .ok (true, seen.add 16) else if (c == 43) = true then .ok (true, (seen.add 16).add 16) else .ok (!true, ((seen.add 16).add 16).add 0) := fun _ => rfl
  rw [h c, h (cls c), eq_cls c 45 rfl, eq_cls c 43 rfl]
theorem acc_cls (c : Nat) (seen : Sre.Seen) : ∀ i, Sre.accepts codeT i c seen = Sre.accepts codeT i (cls c) seen
  | 0 => rfl
  | 1 => rfl
  | 2 => rfl
  | 3 => rfl
  | 4 => rfl
  | 5 => rfl
  | 6 => rfl
  | 7 => rfl
  | 8 => rfl
  | 9 => rfl
  | 10 => rfl
  | 11 => rfl
  | 12 => rfl
  | 13 => acc_sgn c seen
  | 14 => rfl
  | 15 => acc_lit 15 c 45 seen rfl rfl rfl
  | 16 => rfl
  | 17 => acc_lit 17 c 43 seen rfl rfl rfl
  | 18 => rfl
  | 19 => rfl
  | 20 => rfl
  | 21 => rfl
  | 22 => rfl
  | 23 => rfl
  | 24 => by show Except.ok (c != 10, seen) = Except.ok (cls c != 10, seen); rw [bne, bne, eq_cls c 10 rfl]
  | 25 => acc_dig 25 c seen fun _ => rfl
  | 26 => rfl
  | 27 => rfl
  | 28 => rfl
  | 29 => rfl
  | 30 => rfl
  | 31 => rfl
  | 32 => rfl
  | 33 => rfl
  | 34 => acc_dig 34 c seen fun _ => rfl
  | 35 => rfl
  | 36 => rfl
  | 37 => rfl
  | 38 => rfl
  | 39 => rfl
  | 40 => rfl
  | 41 => rfl
  | 42 => rfl
  | 43 => rfl
  | 44 => rfl
  | 45 => rfl
  | 46 => acc_lit 46 c 58 seen rfl rfl rfl
  | 47 => rfl
  | 48 => rfl
  | 49 => rfl
  | 50 => rfl
  | 51 => rfl
  | 52 => rfl
  | 53 => rfl
  | 54 => rfl
  | 55 => acc_dig 55 c seen fun _ => rfl
  | 56 => rfl
  | 57 => rfl
  | 58 => rfl
  | 59 => rfl
  | 60 => acc_dig 60 c seen fun _ => rfl
  | 61 => rfl
  | 62 => rfl
  | 63 => rfl
  | 64 => rfl
  | 65 => rfl
  | 66 => rfl
  | 67 => rfl
  | 68 => rfl
  | 69 => rfl
  | 70 => rfl
  | i + 71 => by
    have h : codeT.getD (i + 71) 0 = 0 := by unfold codeT; rw [Array.getD, dif_neg (by simp)]
    unfold Sre.accepts
    simp only [h]; rfl
end Mine
-- Tz2
theorem Mine.rst_Tz2 : True := by
  w_top off
  trivial
namespace Mine
open PySem.Sre (M Op ops)
def T (t' : Array Nat) (m : M) : M := { m with text := t' }
theorem T_ite (t' : Array Nat) (c : Prop) [Decidable c] (a b : M) : T t' (if c then a else b) = if c then T t' a else T t' b := by split <;> rfl
def opsT : List Nat := [14, 4, 0, 1, 6, 23, 17, 13, 16, 45, 43, 18, 2, 24, 9, 3, 58, 5, 8]
theorem words_T (pc : Nat) : codeT.getD pc 0 ∈ opsT := by
  by_cases h : pc < 71
  · have all : ∀ pc, pc < 71 → codeT.getD pc 0 ∈ opsT := by decide
    exact all pc h
  · have e : codeT.getD pc 0 = 0 := by unfold codeT; rw [Array.getD, dif_neg (by simpa using h)]
    rw [e]; decide
def okOp : Option Op → Bool
  | some .INFO | some .ASSERT | some .FAILURE | some .SUCCESS | some .AT | some .REPEAT | some .MARK | some .IN | some .LITERAL | some .MAX_UNTIL | some .ANY | some .REPEAT_ONE | some .CHARSET | some .ANY_ALL | some .ASSERT_NOT | some .CATEGORY => true
  | none => true
  | _ => false
theorem okOp_T (pc : Nat) : okOp (ops[codeT.getD pc 0]?) = true := by
  have := words_T pc
  have all : ∀ v ∈ opsT, okOp (ops[v]?) = true := by decide
  exact all _ this
theorem atWord_T (pc : Nat) (h : ops[codeT.getD pc 0]? = some .AT) : codeT.getD (pc + 1) 0 ∈ [0, 5, 6, 16] := by
  by_cases hp : pc < 71
  · have all : ∀ pc, pc < 71 → codeT.getD pc 0 = 6 → codeT.getD (pc + 1) 0 ∈ [0, 5, 6, 16] := by decide
    refine all pc hp ?_
    have := words_T pc
    have all2 : ∀ v ∈ opsT, (match ops[v]? with | some .AT => true | _ => false) = true → v = 6 := by decide
    exact all2 _ this (by rw [h])
  · have e : codeT.getD pc 0 = 0 := by unfold codeT; rw [Array.getD, dif_neg (by simpa using hp)]
    rw [e] at h
    exact absurd (congrArg (fun o => match o with | some Op.AT => true | _ => false) h) (by decide)
section
variable (t' : Array Nat) (m : M) (hc : m.code = codeT) (h : ∀ p, cls (t'.getD p 0) = cls (m.text.getD p 0))
include hc h
theorem acc_T (i p : Nat) (seen : Sre.Seen) : Sre.accepts (T t' m).code i ((T t' m).text.getD p 0) seen = Sre.accepts m.code i (m.text.getD p 0) seen := by
  show Sre.accepts m.code i (t'.getD p 0) seen = _
  rw [hc]
  exact (acc_cls _ seen i).trans ((congrArg (fun c => Sre.accepts codeT i c seen) (h p)).trans (acc_cls _ seen i).symm)
theorem run_T (i : Nat) : ∀ (n p found : Nat) (seen : Sre.Seen), Sre.run (T t' m).code (T t' m).text i n p found seen = Sre.run m.code m.text i n p found seen
  | 0, _, _, _ => rfl
  | n + 1, p, found, seen => by
    unfold Sre.run
    rw [acc_T t' m hc h]
    simp only [run_T i n]
theorem at_T (hop : ops[m.word 0]? = some .AT) : (T t' m).isAt ((T t' m).word 1) = m.isAt (m.word 1) := by
  have hk : m.word 1 ∈ [0, 5, 6, 16] := by
    unfold M.word at hop ⊢
    rw [hc] at hop ⊢
    exact atWord_T m.pc hop
  show (T t' m).isAt (m.word 1) = m.isAt (m.word 1)
  generalize m.word 1 = k at hk
  have hb : ∀ p, (t'.getD p 0 == 10) = (m.text.getD p 0 == 10) := fun p => (eq_cls (t'.getD p 0) 10 rfl).symm.trans ((congrArg (· == 10) (h p)).trans (eq_cls (m.text.getD p 0) 10 rfl))
  simp only [List.mem_cons, List.not_mem_nil, or_false] at hk
  rcases hk with rfl | rfl | rfl | rfl
  · rfl
  · show Except.ok (m.pos == m.lim || (m.pos + 1 == m.lim && t'.getD m.pos 0 == 10)) = Except.ok (m.pos == m.lim || (m.pos + 1 == m.lim && m.text.getD m.pos 0 == 10))
    rw [hb]
  · show Except.ok (m.pos == m.lim || t'.getD m.pos 0 == 10) = Except.ok (m.pos == m.lim || m.text.getD m.pos 0 == 10)
    rw [hb]
  · rfl
end
theorem attempt_T (t' : Array Nat) (m : M) (f : Sre.Frame) (a b : Nat) (c : Bool) : (T t' m).attempt f a b c = T t' (m.attempt f a b c) := by
  unfold M.attempt
  rw [T_ite]; rfl
theorem one_T (t' : Array Nat) (m : M) (hc : m.code = codeT) (h : ∀ p, cls (t'.getD p 0) = cls (m.text.getD p 0)) :
    (if (T t' m).pos ≥ (T t' m).lim then (T t' m).say false else
      match Sre.accepts (T t' m).code (T t' m).pc ((T t' m).text.getD (T t' m).pos 0) (T t' m).seen with
      | .error why => (T t' m).stick why
      | .ok (false, seen) => { T t' m with seen }.say false
      | .ok (true, seen) => { T t' m with seen, pc := (T t' m).pc + Sre.itemWidth (T t' m).code (T t' m).pc, pos := (T t' m).pos + 1 }) =
    T t' (if m.pos ≥ m.lim then m.say false else
      match Sre.accepts m.code m.pc (m.text.getD m.pos 0) m.seen with
      | .error why => m.stick why
      | .ok (false, seen) => { m with seen }.say false
      | .ok (true, seen) => { m with seen, pc := m.pc + Sre.itemWidth m.code m.pc, pos := m.pos + 1 }) := by
  rw [T_ite, acc_T t' m hc h]
  show (if m.pos ≥ m.lim then T t' (m.say false) else _) = if m.pos ≥ m.lim then T t' (m.say false) else _
  congr 1
  show (match Sre.accepts m.code m.pc (m.text.getD m.pos 0) m.seen with
      | .error why => T t' (m.stick why)
      | .ok (false, seen) => T t' ({ m with seen }.say false)
      | .ok (true, seen) => T t' { m with seen, pc := m.pc + Sre.itemWidth m.code m.pc, pos := m.pos + 1 }) = _
  cases Sre.accepts m.code m.pc (m.text.getD m.pos 0) m.seen with
  | error why => rfl
  | ok r => obtain ⟨b, sn⟩ := r; cases b <;> rfl
theorem afterLoop_T (t' : Array Nat) (m : M) (wt : Sre.Wait) (i : Nat) (c : Int) (w : Option Nat → Bool) : (T t' m).afterLoop wt i c w = T t' (m.afterLoop wt i c w) := by
  unfold M.afterLoop
  exact attempt_T t' { m with inner := (m.loopAt i).outer } _ _ _ _
theorem round_T (t' : Array Nat) (m : M) (wt : Sre.Wait) (i : Nat) (c : Int) (g : Bool) (k : Sre.Kept) : (T t' m).round wt i c g k = T t' (m.round wt i c g k) := by
  unfold M.round
  exact attempt_T t' (m.setLoop i fun l => { l with count := c, began := if g then some m.pos else l.began }) _ _ _ _
theorem afterRun_T (t' : Array Nat) (m : M) (wt : Sre.Wait) (c : Int) (k : Sre.Kept) : (T t' m).afterRun wt c k = T t' (m.afterRun wt c k) := by
  unfold M.afterRun
  exact attempt_T t' m _ _ _ _
theorem until_T (t' : Array Nat) (m : M) (g : Bool) : (T t' m).until_ g = T t' (m.until_ g) := by
  unfold M.until_
  show (match m.inner with | none => _ | some i => _) = T t' (match m.inner with | none => _ | some i => _)
  cases m.inner with
  | none => rfl
  | some i =>
    dsimp only
    rw [T_ite, T_ite, T_ite]
    rw [round_T, afterLoop_T, round_T, afterLoop_T]
    rfl
theorem rep_T (t' : Array Nat) (m : M) (room : Int) (hc : m.code = codeT) (h : ∀ p, cls (t'.getD p 0) = cls (m.text.getD p 0)) :
    (if ((T t' m).word 2 : Int) > room then (T t' m).say false else
      match Sre.run (T t' m).code (T t' m).text ((T t' m).pc + 4) (min ((T t' m).word 3) room.toNat) (T t' m).pos 0 ((T t' m).seen.add ((T t' m).word 4)) with
      | .error why => (T t' m).stick why
      | .ok (n, seen) =>
        if n < (T t' m).word 2 then { T t' m with seen }.say false else M.afterRun { T t' m with seen, pos := (T t' m).pos + n } .giveBack n (M.keep { T t' m with seen, pos := (T t' m).pos + n } (T t' m).inner.isSome)) =
    T t' (if (m.word 2 : Int) > room then m.say false else
      match Sre.run m.code m.text (m.pc + 4) (min (m.word 3) room.toNat) m.pos 0 (m.seen.add (m.word 4)) with
      | .error why => m.stick why
      | .ok (n, seen) =>
        if n < m.word 2 then { m with seen }.say false else M.afterRun { m with seen, pos := m.pos + n } .giveBack n (M.keep { m with seen, pos := m.pos + n } m.inner.isSome)) := by
  rw [T_ite, run_T t' m hc h]
  show (if (m.word 2 : Int) > room then T t' (m.say false) else _) = if (m.word 2 : Int) > room then T t' (m.say false) else _
  congr 1
  show (match Sre.run m.code m.text (m.pc + 4) (min (m.word 3) room.toNat) m.pos 0 (m.seen.add (m.word 4)) with
      | .error why => T t' (m.stick why)
      | .ok (n, seen) =>
        if n < m.word 2 then T t' ({ m with seen }.say false) else M.afterRun (T t' { m with seen, pos := m.pos + n }) .giveBack n (M.keep { m with seen, pos := m.pos + n } m.inner.isSome)) = _
  cases Sre.run m.code m.text (m.pc + 4) (min (m.word 3) room.toNat) m.pos 0 (m.seen.add (m.word 4)) with
  | error why => rfl
  | ok r =>
    obtain ⟨n, sn⟩ := r
    dsimp only
    rw [T_ite, afterRun_T]
theorem exec_T (t' : Array Nat) (m : M) (hc : m.code = codeT) (h : ∀ p, cls (t'.getD p 0) = cls (m.text.getD p 0)) : (T t' m).exec = T t' m.exec := by
  have hw : (T t' m).word 0 = m.word 0 := rfl
  have hk : okOp (ops[m.word 0]?) = true := by unfold M.word; rw [hc]; exact okOp_T _
  unfold M.exec
  rw [hw]
  cases hop : ops[m.word 0]? with
  | none => rfl
  | some op =>
    rw [hop] at hk
    cases op
    all_goals try (cases hk; done)
    all_goals try rfl
    · -- SUCCESS
      show (if (m.outermost && (m.wholeText && m.pos != m.lim || m.mustAdvance && m.pos == m.start)) = true then _ else _) = T t' (if (m.outermost && (m.wholeText && m.pos != m.lim || m.mustAdvance && m.pos == m.start)) = true then _ else _)
      rw [T_ite]; rfl
    · exact one_T t' { m with seen := m.seen.add (m.word 0) } hc h
    · exact one_T t' { m with seen := m.seen.add (m.word 0) } hc h
    · -- ASSERT
      show (if m.pos < m.word 2 then _ else _) = T t' (if m.pos < m.word 2 then _ else _)
      rw [T_ite]
      congr 1
      exact attempt_T t' { m with seen := m.seen.add (m.word 0) } _ _ _ _
    · show (if m.pos < m.word 2 then _ else _) = T t' (if m.pos < m.word 2 then _ else _)
      rw [T_ite]
      congr 1
      exact attempt_T t' { m with seen := m.seen.add (m.word 0) } _ _ _ _
    · -- AT
      have ha := at_T t' { m with seen := m.seen.add (m.word 0) } hc h hop
      show (match (T t' { m with seen := m.seen.add (m.word 0) }).isAt ((T t' { m with seen := m.seen.add (m.word 0) }).word 1) with | .error why => _ | .ok yes => _) = T t' (match M.isAt { m with seen := m.seen.add (m.word 0) } (m.word 1) with | .error why => _ | .ok yes => _)
      rw [ha]
      show (match M.isAt { m with seen := m.seen.add (m.word 0) } (m.word 1) with | .error why => _ | .ok yes => _) = _
      cases M.isAt { m with seen := m.seen.add (m.word 0) } (m.word 1) with
      | error why => rfl
      | ok yes => cases yes <;> rfl
    · exact one_T t' { m with seen := m.seen.add (m.word 0) } hc h
    · exact one_T t' { m with seen := m.seen.add (m.word 0) } hc h
    · exact until_T t' { m with seen := m.seen.add (m.word 0), pc := m.pc + 1 } true
    · -- REPEAT
      exact attempt_T t' { m with seen := m.seen.add (m.word 0), loops := m.loops.push { pc := m.pc, outer := m.inner }, inner := some m.loops.size } _ _ _ _
    · -- REPEAT_ONE
      exact rep_T t' { m with seen := m.seen.add (m.word 0) } ((m.lim : Int) - m.pos) hc h
theorem alternative_T (t' : Array Nat) (m : M) (a : Nat) (k : Sre.Kept) : (T t' m).alternative a k = T t' (m.alternative a k) := by
  unfold M.alternative
  show (if (m.code.getD a 0 == 0) = true then _ else _) = T t' (if (m.code.getD a 0 == 0) = true then _ else _)
  rw [T_ite]
  congr 1
  exact attempt_T t' m _ _ _ _
theorem possessive_T (t' : Array Nat) (m : M) (i : Nat) (c : Int) (b : Option Nat) : (T t' m).possessive i c b = T t' (m.possessive i c b) := by
  unfold M.possessive
  show (if c < (m.word 2 : Int) then _ else if ((decide (c < (m.word 3 : Int)) || m.word 3 == Sre.maxRepeat) && b != some m.handed) = true then _ else _) = T t' (if c < (m.word 2 : Int) then _ else if ((decide (c < (m.word 3 : Int)) || m.word 3 == Sre.maxRepeat) && b != some m.handed) = true then _ else _)
  rw [T_ite, T_ite]
  congr 1
  · exact attempt_T t' m _ _ _ _
  · congr 1
    exact attempt_T t' m _ _ _ _
theorem attemptFrom_T (t' : Array Nat) (m : M) (hc : m.code = codeT) (s : Nat) (f : Bool) : (T t' m).attemptFrom s f = T t' (m.attemptFrom s f) := by
  have hf : m.hasFirstSet = false := by unfold M.hasFirstSet; rw [hc]; rfl
  unfold M.attemptFrom
  rw [show (T t' m).hasFirstSet = false from hf, hf]
  show (T t' m).attemptAt s f = T t' (m.attemptAt s f)
  unfold M.attemptAt
  exact attempt_T t' { m with start := s, pos := s, lastmark := -1, lastindex := -1 } _ _ _ _
theorem resume_T (t' : Array Nat) (m : M) (f : Sre.Frame) (yes : Bool) (hc : m.code = codeT) (h : ∀ p, cls (t'.getD p 0) = cls (m.text.getD p 0)) : (T t' m).resume f yes = T t' (m.resume f yes) := by
  unfold M.resume
  cases hf : f.wait <;> cases yes
  all_goals try rfl
  · -- nextStart
    show (if f.pos < m.lastStart then _ else _) = T t' (if f.pos < m.lastStart then _ else _)
    rw [T_ite]
    congr 1
    exact attemptFrom_T t' { m with mustAdvance := false } hc _ _
  · exact alternative_T t' (m.putBack f.kept) _ _
  · show (if f.count - 1 < (m.word 2 : Int) then _ else _) = T t' (if f.count - 1 < (m.word 2 : Int) then _ else _)
    rw [T_ite]
    congr 1
    exact afterRun_T t' { m.putBack f.kept with pos := f.pos - 1 } _ _ _
  · -- takeMore
    have ha := acc_T t' m hc h (m.pc + 4) f.pos m.seen
    show (if (decide (f.count + 1 > (m.word 3 : Int)) && m.word 3 != Sre.maxRepeat) = true then _ else if f.pos ≥ m.lim then _ else
        match Sre.accepts (T t' m).code (m.pc + 4) ((T t' m).text.getD f.pos 0) m.seen with | .error why => _ | .ok (false, seen) => _ | .ok (true, seen) => _) =
      T t' (if (decide (f.count + 1 > (m.word 3 : Int)) && m.word 3 != Sre.maxRepeat) = true then _ else if f.pos ≥ m.lim then _ else
        match Sre.accepts m.code (m.pc + 4) (m.text.getD f.pos 0) m.seen with | .error why => _ | .ok (false, seen) => _ | .ok (true, seen) => _)
    rw [ha, T_ite, T_ite]
    congr 1
    congr 1
    cases Sre.accepts m.code (m.pc + 4) (m.text.getD f.pos 0) m.seen with
    | error why => rfl
    | ok r =>
      obtain ⟨b, sn⟩ := r
      cases b
      · rfl
      · exact afterRun_T t' { m.putBack f.kept with seen := sn, pos := f.pos + 1 } _ _ _
  · -- maxMore
    have e := afterLoop_T t' (M.setLoop (M.putBack (m.setLoop f.loop fun l => { l with began := f.began }) f.kept) f.loop fun l => { l with count := f.count - 1 }) .maxTail f.loop f.count fun _ => false
    exact e
  · -- minTail
    have e := round_T t' (M.putBack { m with inner := some f.loop } f.kept) .minMore f.loop f.count true {}
    dsimp only
    rw [if_neg Bool.false_ne_true, if_neg Bool.false_ne_true, T_ite, ← e]
    rfl
  · exact possessive_T t' m _ _ _
  · exact possessive_T t' { m.putBack f.kept with handed := f.pos } _ _ _
  · exact possessive_T t' m _ _ _
theorem step_T (t' : Array Nat) (m : M) (hc : m.code = codeT) (h : ∀ p, cls (t'.getD p 0) = cls (m.text.getD p 0)) : (T t' m).step = T t' m.step := by
  obtain ⟨code, text, lim, start, lastStart, wholeText, mustAdvance, pc, pos, handed, outermost, marks, lastmark, lastindex, loops, inner, frames, weight, answer, seen, outcome⟩ := m
  unfold M.step
  cases outcome with
  | some o => rfl
  | none =>
    cases answer with
    | none =>
      show (if pc < code.size then _ else _) = T t' (if pc < code.size then _ else _)
      rw [T_ite]
      congr 1
      exact exec_T t' ⟨code, text, lim, start, lastStart, wholeText, mustAdvance, pc, pos, handed, outermost, marks, lastmark, lastindex, loops, inner, frames, weight, none, seen, none⟩ hc h
    | some yes =>
      cases frames with
      | nil => rfl
      | cons f rest => exact resume_T t' ⟨code, text, lim, start, lastStart, wholeText, mustAdvance, f.pc, f.pos, handed, f.outermost, marks, lastmark, lastindex, loops, inner, rest, weight - (1 + f.kept.marks.size), none, seen, none⟩ f yes hc h
theorem step_text (m : M) (hc : m.code = codeT) : m.step.text = m.text :=
  (congrArg M.text (step_T m.text m hc fun _ => rfl) : _)
end Mine
-- Tz3
theorem Mine.rst_Tz3 : True := by
  w_top off
  trivial
namespace Mine
open PySem.Sre (M Op ops)
theorem code_ite (c : Prop) [Decidable c] (a b : M) : (if c then a else b).code = if c then a.code else b.code := by split <;> rfl
theorem attempt_code (m : M) (f : Sre.Frame) (a b : Nat) (c : Bool) : (m.attempt f a b c).code = m.code := by unfold M.attempt; split <;> rfl
theorem afterRun_code (m : M) (w c k) : (M.afterRun m w c k).code = m.code := by unfold M.afterRun; exact attempt_code _ _ _ _ _
theorem afterLoop_code (m : M) (w i c k) : (M.afterLoop m w i c k).code = m.code := by unfold M.afterLoop; exact attempt_code _ _ _ _ _
theorem round_code (m : M) (w i c g k) : (M.round m w i c g k).code = m.code := by unfold M.round; exact attempt_code _ _ _ _ _
theorem alternative_code (m : M) (a k) : (M.alternative m a k).code = m.code := by
  unfold M.alternative
  split
  · rfl
  · exact attempt_code _ _ _ _ _
theorem possessive_code (m : M) (i c b) : (M.possessive m i c b).code = m.code := by
  unfold M.possessive
  dsimp only
  split
  · exact attempt_code _ _ _ _ _
  · split
    · exact attempt_code _ _ _ _ _
    · rfl
theorem until_code (m : M) (g) : (M.until_ m g).code = m.code := by
  unfold M.until_
  cases m.inner with
  | none => rfl
  | some i =>
    dsimp only
    simp only [code_ite, round_code, afterLoop_code, ite_self]
theorem attemptFrom_code (m : M) (hc : m.code = codeT) (s f) : (M.attemptFrom m s f).code = m.code := by
  have hf : m.hasFirstSet = false := by unfold M.hasFirstSet; rw [hc]; rfl
  unfold M.attemptFrom
  rw [hf]
  exact attempt_code _ _ _ _ _
theorem one_code (m : M) : (if m.pos ≥ m.lim then m.say false else
      match Sre.accepts m.code m.pc (m.text.getD m.pos 0) m.seen with
      | .error why => m.stick why
      | .ok (false, seen) => { m with seen }.say false
      | .ok (true, seen) => { m with seen, pc := m.pc + Sre.itemWidth m.code m.pc, pos := m.pos + 1 }).code = m.code := by
  split
  · rfl
  · split <;> rfl
theorem rep_code (m : M) (room : Int) : (if (m.word 2 : Int) > room then m.say false else
      match Sre.run m.code m.text (m.pc + 4) (min (m.word 3) room.toNat) m.pos 0 (m.seen.add (m.word 4)) with
      | .error why => m.stick why
      | .ok (n, seen) =>
        if n < m.word 2 then { m with seen }.say false else M.afterRun { m with seen, pos := m.pos + n } .giveBack n (M.keep { m with seen, pos := m.pos + n } m.inner.isSome)).code = m.code := by
  split
  · rfl
  · split
    · rfl
    · split
      · rfl
      · exact afterRun_code _ _ _ _
theorem exec_code (m : M) (hc : m.code = codeT) : m.exec.code = m.code := by
  have hk : okOp (ops[m.word 0]?) = true := by unfold M.word; rw [hc]; exact okOp_T _
  unfold M.exec
  cases hop : ops[m.word 0]? with
  | none => rfl
  | some op =>
    rw [hop] at hk
    cases op
    all_goals try (cases hk; done)
    all_goals try rfl
    · dsimp only; split <;> rfl
    · exact one_code { m with seen := m.seen.add (m.word 0) }
    · exact one_code { m with seen := m.seen.add (m.word 0) }
    · dsimp only; split
      · rfl
      · exact attempt_code { m with seen := m.seen.add (m.word 0) } _ _ _ _
    · dsimp only; split
      · rfl
      · exact attempt_code { m with seen := m.seen.add (m.word 0) } _ _ _ _
    · dsimp only; split
      · rfl
      · split <;> rfl
    · exact one_code { m with seen := m.seen.add (m.word 0) }
    · exact one_code { m with seen := m.seen.add (m.word 0) }
    · exact until_code { m with seen := m.seen.add (m.word 0), pc := m.pc + 1 } true
    · exact attempt_code { m with seen := m.seen.add (m.word 0), loops := m.loops.push { pc := m.pc, outer := m.inner }, inner := some m.loops.size } _ _ _ _
    · exact rep_code { m with seen := m.seen.add (m.word 0) } ((m.lim : Int) - m.pos)
theorem resume_code (m : M) (f : Sre.Frame) (yes : Bool) (hc : m.code = codeT) : (m.resume f yes).code = m.code := by
  unfold M.resume
  cases hf : f.wait <;> cases yes
  all_goals try rfl
  · dsimp only
    rw [if_neg Bool.false_ne_true]
    split
    · exact attemptFrom_code { m with mustAdvance := false } hc _ _
    · rfl
  · exact alternative_code _ _ _
  · dsimp only
    rw [if_neg Bool.false_ne_true]
    split
    · rfl
    · exact afterRun_code _ _ _ _
  · dsimp only
    rw [if_neg Bool.false_ne_true]
    split
    · rfl
    · split
      · rfl
      · split
        · rfl
        · rfl
        · exact afterRun_code _ _ _ _
  · have e := afterLoop_code (M.setLoop (M.putBack (m.setLoop f.loop fun l => { l with began := f.began }) f.kept) f.loop fun l => { l with count := f.count - 1 }) .maxTail f.loop f.count fun _ => false
    exact e
  · dsimp only
    rw [if_neg Bool.false_ne_true]
    split
    · rfl
    · exact round_code _ _ _ _ _ _
  · exact possessive_code _ _ _ _
  · exact possessive_code _ _ _ _
  · exact possessive_code _ _ _ _
theorem step_code (m : M) (hc : m.code = codeT) : m.step.code = m.code := by
  unfold M.step
  split
  · rfl
  · split
    · rfl
    · exact resume_code _ _ _ hc
    · split
      · exact exec_code m hc
      · rfl
theorem runFor_T (t' : Array Nat) : ∀ (N : Nat) (m : M), m.code = codeT → (∀ p, cls (t'.getD p 0) = cls (m.text.getD p 0)) → M.runFor N (T t' m) = T t' (M.runFor N m)
  | 0, m, _, _ => rfl
  | N + 1, m, hc, h => by
    show (if m.outcome.isSome = true then T t' m else M.runFor N (T t' m).step) = T t' (if m.outcome.isSome = true then m else M.runFor N m.step)
    rw [T_ite, step_T t' m hc h, runFor_T t' N m.step ((step_code m hc).trans hc) (by rw [step_text m hc]; exact h)]
/-- a text and the machine at its start -/
def m0 (t : Array Nat) (n : Nat) : M := Sre.forSearch codeT t 3 0 n false
theorem m0_T (t t' : Array Nat) (n : Nat) : T t' (m0 t n) = m0 t' n := by
  unfold m0 Sre.forSearch
  dsimp only
  rw [T_ite]
  congr 1
theorem search_T (t t' : Array Nat) (N n : Nat) (h : ∀ p, cls (t'.getD p 0) = cls (t.getD p 0)) : M.runFor N (m0 t' n) = T t' (M.runFor N (m0 t n)) := by
  rw [← m0_T t t' n]
  refine runFor_T t' N (m0 t n) ?_ ?_
  · unfold m0 Sre.forSearch
    dsimp only
    rw [code_ite]
    split
    · rfl
    · exact attemptFrom_code _ rfl _ _
  · have : (m0 t n).text = t := congrArg M.text (m0_T t t n).symm
    rw [this]; exact h
end Mine
-- Tz4
theorem Mine.rst_Tz4 : True := by
  w_top off
  trivial
namespace Mine
open PySem.Sre (M Op ops)
def spansOf (m : M) : List Int := (List.range 3).flatMap fun g =>
    match if ((2 * g + 1 : Nat) : Int) ≤ m.lastmark then (m.marks.getD (2 * g) none, m.marks.getD (2 * g + 1) none) else (none, none) with
    | (some b, some e) => [(b : Int), (e : Int)]
    | _ => [-1, -1]
def badSpan (m : M) : Bool := (List.range 3).any (fun g => match m.marks.getD (2 * g) none, m.marks.getD (2 * g + 1) none with | some b, some e => ((2 * g + 1 : Nat) : Int) ≤ m.lastmark && e < b | _, _ => false)
def won : Option Sre.Outcome → Bool
  | some .matched => true
  | _ => false
def lost : Option Sre.Outcome → Bool
  | some .failed => true
  | _ => false
theorem won_is {o : Option Sre.Outcome} (h : won o = true) : o = some .matched := by
  cases o with
  | none => cases h
  | some o => cases o <;> first | rfl | cases h
theorem lost_is {o : Option Sre.Outcome} (h : lost o = true) : o = some .failed := by
  cases o with
  | none => cases h
  | some o => cases o <;> first | rfl | cases h
def chkM (m : M) (sp : List Int) : Bool := won m.outcome && (spansOf m == sp && (!badSpan m && (m.start == 0 && true)))
/-- the text of a zone -/
def zt (sg hs : List Nat) (c : Bool) (ms : List Nat) (nl : Bool) : List Nat := sg ++ (hs ++ ((if c then [58] else []) ++ (ms ++ if nl then [10] else [])))
def zsp (sg hs : List Nat) (c : Bool) (ms : List Nat) : List Int :=
  let a := sg.length
  let b := a + hs.length
  let d := if c then b + 1 else b
  (if a = 0 then [-1, -1] else [0, 1]) ++ ([(a : Int), (b : Int)] ++ if ms = [] then [-1, -1] else [(d : Int), (d : Int) + 2])
def run0 (t : List Nat) : M := M.runFor 3000 (m0 t.toArray t.length)
def runs (sg hs : List Nat) : Bool := [false, true].all fun c => [[], [48, 48]].all fun ms => [false, true].all fun nl => chkM (run0 (zt sg hs c ms nl)) (zsp sg hs c ms)
def allRuns : Bool := [[], [43], [45]].all fun sg => [[48], [48, 48]].all fun hs => runs sg hs
theorem runs_1 : runs [] [48] = true := by decide +kernel
theorem runs_2 : runs [] [48, 48] = true := by decide +kernel
theorem runs_3 : runs [43] [48] = true := by decide +kernel
theorem runs_4 : runs [43] [48, 48] = true := by decide +kernel
theorem runs_5 : runs [45] [48] = true := by decide +kernel
theorem runs_6 : runs [45] [48, 48] = true := by decide +kernel
theorem allRuns_is : allRuns = true := by
  simp only [allRuns, List.all_cons, List.all_nil, Bool.and_true, runs_1, runs_2, runs_3, runs_4, runs_5, runs_6]
end Mine
-- Tz5
theorem Mine.rst_Tz5 : True := by
  w_top off
  trivial
namespace Mine
open PySem.Sre (M Op ops)
theorem cls_getD (l : List Nat) (p : Nat) : cls (l.toArray.getD p 0) = (l.map cls).getD p (cls 0) := by
  rw [show l.toArray.getD p 0 = l.getD p 0 by rw [Array.getD_eq_getD_getElem?, List.getElem?_toArray]; rfl, List.getD, List.getD, List.getElem?_map]
  cases l[p]? <;> rfl
theorem alike {l l' : List Nat} (h : l.map cls = l'.map cls) (p : Nat) : cls (l.toArray.getD p 0) = cls (l'.toArray.getD p 0) := by rw [cls_getD, cls_getD, h]
def Dig (c : Nat) : Prop := 48 ≤ c ∧ c ≤ 57
theorem cls_dig {c : Nat} (h : Dig c) : cls c = 48 := by
  obtain ⟨a, b⟩ := h
  have all : ∀ c, c ≤ 57 → 48 ≤ c → cls c = 48 := by decide +kernel
  exact all c b a
theorem zone_runs {sg hs ms : List Nat} {c nl : Bool} (h1 : sg ∈ [[], [43], [45]]) (h2 : hs.length = 1 ∨ hs.length = 2) (h3 : ∀ x ∈ hs, Dig x) (h4 : ms.length = 0 ∨ ms.length = 2) (h5 : ∀ x ∈ ms, Dig x) :
    ∃ m', M.runFor 3000 (m0 (zt sg hs c ms nl).toArray (zt sg hs c ms nl).length) = m' ∧ m'.outcome = some .matched ∧ spansOf m' = zsp sg hs c ms ∧ badSpan m' = false := by
  have key : ∃ hs' ∈ [[48], [48, 48]], ∃ ms' ∈ [[], [48, 48]], hs'.length = hs.length ∧ ms'.length = ms.length ∧ hs'.map cls = hs.map cls ∧ ms'.map cls = ms.map cls ∧ (ms' = [] ↔ ms = []) := by
    have a : ∃ hs' ∈ [[48], [48, 48]], hs'.length = hs.length ∧ hs'.map cls = hs.map cls := by
      rcases h2 with h2 | h2
      · match hs, h2, h3 with
        | [x], _, h3 => exact ⟨[48], by simp, rfl, by rw [List.map_cons, List.map_cons, cls_dig (h3 x (by simp))]; rfl⟩
      · match hs, h2, h3 with
        | [x, y], _, h3 => exact ⟨[48, 48], by simp, rfl, by simp only [List.map_cons]; rw [cls_dig (h3 x (by simp)), cls_dig (h3 y (by simp))]; rfl⟩
    have b : ∃ ms' ∈ [[], [48, 48]], ms'.length = ms.length ∧ ms'.map cls = ms.map cls ∧ (ms' = [] ↔ ms = []) := by
      rcases h4 with h4 | h4
      · match ms, h4, h5 with
        | [], _, h5 => exact ⟨[], by simp, rfl, rfl, by simp⟩
      · match ms, h4, h5 with
        | [x, y], _, h5 => exact ⟨[48, 48], by simp, rfl, by simp only [List.map_cons]; rw [cls_dig (h5 x (by simp)), cls_dig (h5 y (by simp))]; rfl, by simp⟩
    obtain ⟨x, hx, a1, a2⟩ := a
    obtain ⟨y, hy, b1, b2, b3⟩ := b
    exact ⟨x, hx, y, hy, a1, b1, a2, b2, b3⟩
  obtain ⟨hs', hh, ms', hm, e1, e2, e3, e4, e5⟩ := key
  have hrun : chkM (run0 (zt sg hs' c ms' nl)) (zsp sg hs' c ms') = true := by
    have h := allRuns_is
    unfold allRuns runs at h
    have h := List.all_eq_true.mp h sg h1
    have h := List.all_eq_true.mp h hs' hh
    have h := List.all_eq_true.mp h c (by cases c <;> simp)
    have h := List.all_eq_true.mp h ms' hm
    exact List.all_eq_true.mp h nl (by cases nl <;> simp)
  have hl : (zt sg hs c ms nl).length = (zt sg hs' c ms' nl).length := by
    unfold zt
    simp only [List.length_append, e1, e2]
  have hz : zsp sg hs c ms = zsp sg hs' c ms' := by
    unfold zsp
    simp only [e1, e5]
  have hmap : (zt sg hs c ms nl).map cls = (zt sg hs' c ms' nl).map cls := by
    unfold zt
    simp only [List.map_append, e3, e4]
  have hs := search_T (zt sg hs' c ms' nl).toArray (zt sg hs c ms nl).toArray 3000 (zt sg hs c ms nl).length (alike hmap)
  unfold chkM at hrun
  simp only [Bool.and_eq_true] at hrun
  refine ⟨_, hs, ?_⟩
  rw [hl, hz]
  exact ⟨won_is hrun.1, eq_of_beq hrun.2.1, (by have := hrun.2.2.1; simpa using this : badSpan (run0 (zt sg hs' c ms' nl)) = false)⟩
/-- the eight broken zones -/
def brokens : List (List Nat) := [[], [53, 58, 51], [69, 83, 84], [43, 49, 50, 51, 58, 48, 48], [49, 58, 50, 51, 52], [43], [53, 58, 51, 48, 90], [43, 53, 46, 51, 48]]
def allLost : Bool := brokens.all fun t => lost (run0 t).outcome
theorem allLost_is : allLost = true := by decide +kernel
theorem broken_runs {t : List Nat} (h : t ∈ brokens) : ∃ m', M.runFor 3000 (m0 t.toArray t.length) = m' ∧ m'.outcome = some .failed :=
  ⟨_, rfl, lost_is (List.all_eq_true.mp allLost_is t h)⟩
theorem m0_none (t : Array Nat) (n : Nat) : (m0 t n).outcome = none := by
  unfold m0 Sre.forSearch
  dsimp only
  split
  · rfl
  · rfl
end Mine
-- Sr3
theorem Mine.rst_Sr3 : True := by
  w_top off
  trivial
namespace Mine
open PySem.Sre (M)
open PySem.Builtin.Re
section
variable {Mo : Model} {A : Around} {E : Value → Shared → Prop} {s : Shared}
def tgI (x : Str) (t : Tok) : ReTarget := { pattern := .ref 36, string := .str x t, code := codeI, text := x.cps, kind := 0, groups := 0, pos := 0, lim := x.cps.size }
theorem textOf_str {x : Str} {t : Tok} {Q : Array Nat × Nat → Shared → Prop} (h : Q (x.cps, 0) s) : wpAny Mo A (reTextOf (.str x t)) Q E s := by
  unfold reTextOf
  refine wpAny_bind (m := asStr? (.str x t)) (wpAny_pure ?_)
  exact wpAny_pure h
theorem noColl {v : Value} {Q : Unit → Shared → Prop} (h : Q () s) : wpAny Mo A (reNoCollectionInside v 0) Q E s := by
  unfold reNoCollectionInside
  exact wpAny_pure h
theorem rawItems_any {a : Addr} {o : Obj} {items n} {Q : Array Int → Shared → Prop} (ho : s.heap.get? a = some o) (hd : o.data = .seq items n) (h : Q (items.map reRawOf) s) :
    wpAny Mo A (reRawItems (.ref a)) Q E s := by
  unfold reRawItems
  exact wpAny_bind (wpAny_seqItems ho hd (wpAny_pure h))
theorem whole_I {w : World} {x : Str} {t : Tok} {Q : ReTarget → Shared → Prop} (X : Frag.In (Mine.hd.heap_39 w.params) s.heap) (h : Q (tgI x t) s) :
    wpAny Mo A (reWholeTarget (.ref 36) (.str x t)) Q E s := by
  unfold reWholeTarget
  refine wpAny_bind (wpAny_fieldsOf (X 36 _ rfl) rfl ?_)
  refine wpAny_bind (textOf_str ?_)
  refine wpAny_bind (noColl ?_)
  refine wpAny_bind (rawItems_any (X 35 _ rfl) rfl ?_)
  refine wpAny_pure ?_
  have e : Array.map (fun x => x.toNat) (Array.map reRawOf #[Value.int 14 0, Value.int 4 0, Value.int 0 0, Value.int 0 0, Value.int 0 0, Value.int 6 0, Value.int 1 0,
              Value.int 5 0, Value.int 5 0, Value.int 0 0, Value.int 6 0, Value.int 6 0, Value.int 1 0, Value.int 1 0]) = codeI := by decide +kernel
  rw [e]; exact h
end
section
variable {w : World} {A : Around} {E : Value → Shared → Prop} {s : Shared}
def psOf (ps : List (Str × Tok)) : List Nat := ps.flatMap fun p => p.1.cps.toList
theorem join_e : ∀ l : List Str, Str.join ⟨#[]⟩ l = ⟨(l.flatMap fun p => p.cps.toList).toArray⟩
  | [] => rfl
  | [x] => by simp [Str.join]
  | x :: y :: r => by
    rw [show Str.join ⟨#[]⟩ (x :: y :: r) = x ++ (⟨#[]⟩ : Str) ++ Str.join ⟨#[]⟩ (y :: r) from rfl, join_e (y :: r)]
    show (⟨(x.cps ++ #[]) ++ _⟩ : Str) = _
    simp
theorem join_ps (ps : List (Str × Tok)) : Txt.join ⟨#[]⟩ (ps.map (·.1)) = ⟨(psOf ps).toArray⟩ := by
  show Builtin.Str.glued _ _ = _
  rw [StrLaws.glued_eq_join, join_e, psOf, List.flatMap_map]
theorem strsAre_vals : ∀ ps : List (Str × Tok), StrsAre (strValues ps) (ps.map (·.1))
  | [] => .nil
  | _ :: r => .cons _ _ (strsAre_vals r)
theorem sumLen_ps (ps : List (Str × Tok)) : ((ps.map (·.1)).map (·.length)).sum = (psOf ps).length := by
  induction ps with
  | nil => rfl
  | cons p r ih => simp only [List.map_cons, List.sum_cons, ih, psOf, List.flatMap_cons, List.length_append]; rfl
theorem ind_len (sp : List Nat) : ∀ (l : List Nat) (fl : Bool), (ind sp fl l).length ≤ l.length * (sp.length + 1)
  | [], _ => Nat.le_of_eq (by simp [ind])
  | c :: r, fl => by
    have := ind_len sp r (c == 10)
    simp only [ind, List.length_append, List.length_cons, Nat.add_mul]
    split <;> simp <;> omega
theorem nextFound_I {x : Str} {t : Tok} {d : Nat} {must : Bool} {Q : Option M → Shared → Prop} (hd : d ≤ x.cps.size) (hs : x.cps.size ≤ 1000000)
    (hn : nextHit x.cps x.cps.size (x.cps.size - d) d must = none → Q none s)
    (hq : ∀ q m', nextHit x.cps x.cps.size (x.cps.size - d) d must = some q → m'.start = q → m'.handed = q → Q (some m') s) :
    wpAny (model PySem.Challenge.rw_zn0001_01.row.prog w) A (reNextFound (tgI x t) d must) Q E s := by
  unfold reNextFound
  show wpAny _ _ (reRunToEnd (Sre.forSearch codeI x.cps 0 d x.cps.size must)) _ _ _
  rw [forSearch_I _ _ _ hd]
  obtain ⟨N, m', hN, h1, h2, h3⟩ := run_I x.cps x.cps.size (x.cps.size - d) d must true (({} : Sre.Seen).add 14) (by omega)
  rw [Bool.true_and] at h3
  refine toEnd_any N m' rfl (by omega) h1 ?_
  cases hh : nextHit x.cps x.cps.size (x.cps.size - d) d must with
  | none => rw [hh] at h3; exact .inr ⟨h3, hn hh⟩
  | some q => rw [hh] at h3; exact .inl ⟨h3.1, hq q m' hh h3.2.1 h3.2.2⟩
end
section
variable {w : World} {A : Around} {E : Value → Shared → Prop} {h₀ : Heap} {L P : Addr} {m : Str → Option Value} {news : List (Addr × Obj)}
theorem lit_any {Mo : Model} {s : Shared} {sp : Str} {tr : Tok} {Q : Unit → Shared → Prop} (h : Q () s) : wpAny Mo A (reLiteralCannotBeTurned (.str sp tr)) Q E s := by
  unfold reLiteralCannotBeTurned
  refine wpAny_bind (m := asStr? (.str sp tr)) (wpAny_pure ?_)
  exact wpAny_pure h
theorem slice_any {Mo : Model} {s : Shared} {tx : Array Nat} {b e : Nat} {Q : Value → Shared → Prop} (hz : tx.size ≤ 200000) (h : Q (.str ⟨tx.extract b e⟩ s.toks) { s with toks := s.toks + 1 }) : wpAny Mo A (reSlice tx 0 b e) Q E s := by
  unfold reSlice
  exact wpAny_mkStr h (by simp [Str.length, sizeLine_eq]; omega)
theorem push_list {s : Shared} {its : Array Value} {ep : Nat} {v : Value} {Q : Unit → Shared → Prop} (F : Fr h₀ L s.heap m) (N : News h₀ L s.heap ((P, W.listOf its ep) :: news)) (hne : ∀ p ∈ news, p.1 ≠ P) (hz : its.size < sizeLine)
    (h : ∀ h', Fr h₀ L h' m → News h₀ L h' ((P, W.listOf (its.push v) (ep + 1)) :: news) → Q () { s with heap := h' }) : wpAny (model PySem.Challenge.rw_zn0001_01.row.prog w) A (updateSeq P (·.push v)) Q E s := by
  have hp := (N _ (.head _)).1
  have up := news_upd (pre := []) (post := news) (o' := W.listOf (its.push v) (ep + 1)) (f := Obj.mapSeq (·.push v)) F N (fun _ hp => nomatch hp) hne (by simp [Obj.mapSeq, W.listOf]) rfl
  exact wpAny_updateSeq hp rfl (h _ up.1 up.2) (by omega) (by simp; omega)
theorem subloop {x sp : Str} {t tr : Tok} (X₀ : Frag.In (Mine.hd.heap_39 w.params) h₀) (hx : x.cps.size ≤ 200000) (hsp : sp.length ≤ 4) (hne : ∀ p ∈ news, p.1 ≠ P) {g : Array GenState} {dr : Drawn} {os : OsState} {R : Result → Shared → Prop}
    (hret : ∀ (t' : Tok) (h' : Heap) (tk' : Nat), Fr h₀ L h' m → News h₀ L h' news → R (.ok (.ret (.str ⟨(ind sp.cps.toList true x.cps.toList).toArray⟩ t'))) { heap := h', gens := g, drawn := dr, toks := tk', os := os }) :
    ∀ (k d : Nat) (must : Bool) (nn : Int) (ps : List (Str × Tok)) (ep tk : Nat) (h : Heap), 2 * (x.cps.size - d) + (if must then 0 else 1) = k → d ≤ x.cps.size → ps.length ≤ 2 * d + (if must then 2 else 0) →
      Fr h₀ L h m → News h₀ L h ((P, W.listOf (strValues ps).toArray ep) :: news) →
      psOf ps ++ ind sp.cps.toList (bol x.cps d && !must) (x.cps.toList.drop d) = ind sp.cps.toList true x.cps.toList →
      codeAny (model PySem.Challenge.rw_zn0001_01.row.prog w) A (.builtin "re.Pattern.sub.loop" ⟨[.ref 36, .str x t, .str sp tr, rawInt 0, rawInt 0, rawInt nn, rawInt (d : Int), rawInt (d : Int), .bool must, .ref P, .bool false], []⟩) R { heap := h, gens := g, drawn := dr, toks := tk, os := os } := by
  intro k
  induction k using Nat.strongRecOn with
  | ind k ih =>
    intro d must nn ps ep tk h hk hd hps F N hall
    have hlen := ind_len sp.cps.toList x.cps.toList true
    have hsp' : sp.cps.toList.length ≤ 4 := by simpa [Str.length] using hsp
    have hxl : x.cps.toList.length ≤ 200000 := by simpa using hx
    have hbig : (ind sp.cps.toList true x.cps.toList).length ≤ 200000 * 5 := Nat.le_trans hlen (Nat.mul_le_mul hxl (by omega))
    have hsz := sizeLine_eq
    have hps2 : ps.length ≤ 2 * d + 2 := by split at hps <;> omega
    refine codeAny_builtin entry_subloop ?_
    rw [Around.under_plainId (by decide +kernel)]
    unfold Builtin.«re.Pattern.sub.loop»
    refine wpAny_bind (m := reWholeTarget (.ref 36) (.str x t)) (whole_I (X₀.keeps F.keep) ?_)
    refine wpAny_bind (m := reLiteralCannotBeTurned (.str sp tr)) (lit_any ?_)
    refine wpAny_bind (m := reNextFound (tgI x t) d must) (nextFound_I hd (by omega) (fun hnone => ?_) fun q m' hq hs hh => ?_)
    · -- no further match: the rest, and the join
      have hrest := nextHit_none sp.cps.toList x.cps x.cps.size rfl _ _ _ (by omega) hnone
      rw [hrest] at hall
      have fin : ∀ (ps' : List (Str × Tok)) (ep' tk' : Nat) (h' : Heap), Fr h₀ L h' m → News h₀ L h' ((P, W.listOf (strValues ps').toArray ep') :: news) → ps'.length ≤ 2 * x.cps.size + 3 → psOf ps' = ind sp.cps.toList true x.cps.toList →
          wpAny (model PySem.Challenge.rw_zn0001_01.row.prog w) A.in1 (do
                let joiner ← reSlice x.cps 0 0 0
                let __do_lift ← seqItems? (.ref P)
                have __do_jp : Value → Sem PySem.Fin := fun text => ret text
                if (__do_lift.getD #[]).isEmpty = true then do
                    let text ← pure joiner
                    __do_jp text
                  else do
                    let text ← call (Value.builtin "str.join") [joiner, .ref P]
                    __do_jp text)
            (fun fin s' => match fin with | Fin.done f => R (Except.ok f) s' | Fin.again c' => c'.quiet = true ∧ codeAny (model PySem.Challenge.rw_zn0001_01.row.prog w) A c' R s') (fun e s' => R (Except.error e) s') { heap := h', gens := g, drawn := dr, toks := tk', os := os } := by
        intro ps' ep' tk' h' F' N' hl' hall'
        have hp := (N' _ (.head _)).1
        refine wpAny_bind (m := reSlice x.cps 0 0 0) (slice_any (by omega) ?_)
        refine wpAny_bind (wpAny_seqItems hp rfl ?_)
        have ND : News h₀ L h' news := fun p hp => N' p (.tail _ hp)
        cases ps' with
        | nil =>
          refine wpAny_bind (wpAny_pure (wpAny_pure ?_))
          have e : (⟨x.cps.extract 0 0⟩ : Str) = ⟨(ind sp.cps.toList true x.cps.toList).toArray⟩ := by rw [← hall']; simp [psOf]
          rw [e]
          exact hret _ _ _ F' ND
        | cons p r =>
          refine wpAny_bind (join_list (ys := (p :: r).map (·.1)) ⟨_, hp, rfl, _, rfl⟩ (strsAre_vals (p :: r)) ?_ fun t'' k'' => ?_)
          · have z : (⟨x.cps.extract 0 0⟩ : Str).length = 0 := by simp [Str.length]
            rw [sumLen_ps, hall', z]; omega
          · have z : (⟨x.cps.extract 0 0⟩ : Str) = ⟨#[]⟩ := by simp
            refine wpAny_pure ?_
            rw [z, join_ps, hall']
            exact hret _ _ _ F' ND
      by_cases hlt : d < x.cps.size
      · refine wpAny_ite ?_
        rw [if_pos (show Int.toNat (d : Int) < (tgI x t).lim from hlt)]
        refine wpAny_bind (m := reSlice x.cps 0 d x.cps.size) (slice_any (by omega) ?_)
        refine wpAny_bind (push_list (s := { heap := h, gens := g, drawn := dr, toks := tk + 1, os := os }) F N hne (by simp [strValues]; omega) fun h' F' N' => ?_)
        have e : (strValues ps).toArray.push (.str ⟨x.cps.extract d x.cps.size⟩ tk) = (strValues (ps ++ [(⟨x.cps.extract d x.cps.size⟩, tk)])).toArray := by simp [strValues]
        rw [e] at N'
        exact fin (ps ++ [(⟨x.cps.extract d x.cps.size⟩, tk)]) (ep + 1) (tk + 1) h' F' N' (by simp; omega) (by rw [← hall]; simp only [psOf, List.flatMap_append, List.flatMap_cons, List.flatMap_nil, List.append_nil]; congr 1; simp; rw [List.take_of_length_le (by simp)])
      · refine wpAny_ite ?_
        rw [if_neg (show ¬ Int.toNat (d : Int) < (tgI x t).lim from hlt)]
        refine fin ps ep tk h F N (by split at hps <;> omega) ?_
        rw [← hall, List.drop_eq_nil_of_le (by simp; omega), List.append_nil]
    · obtain ⟨h1, h2, h3, h4⟩ := nextHit_some sp.cps.toList x.cps x.cps.size rfl _ _ _ _ (by omega) hq
      subst hs
      rw [h4] at hall
      have fin : ∀ (ps' : List (Str × Tok)) (ep' tk' : Nat) (h' : Heap), Fr h₀ L h' m → News h₀ L h' ((P, W.listOf (strValues ps').toArray ep') :: news) → ps'.length ≤ 2 * m'.start + 1 → psOf ps' = psOf ps ++ (x.cps.toList.drop d).take (m'.start - d) →
          wpAny (model PySem.Challenge.rw_zn0001_01.row.prog w) A.in1 (do
            let __r ← updateSeq P fun l => l.push (.str sp tr)
            again (Code.builtin "re.Pattern.sub.loop" ⟨[.ref 36, .str x t, .str sp tr, rawInt 0, rawInt 0, rawInt (nn + 1), rawInt ↑m'.handed, rawInt ↑m'.handed, Value.bool (m'.handed == m'.start), .ref P, Value.bool false], []⟩))
            (fun fin s' => match fin with | Fin.done f => R (Except.ok f) s' | Fin.again c' => c'.quiet = true ∧ codeAny (model PySem.Challenge.rw_zn0001_01.row.prog w) A c' R s') (fun e s' => R (Except.error e) s') { heap := h', gens := g, drawn := dr, toks := tk', os := os } := by
        intro ps' ep' tk' h' F' N' hl' hall'
        refine wpAny_bind (push_list (s := { heap := h', gens := g, drawn := dr, toks := tk', os := os }) F' N' hne (by simp [strValues]; omega) fun h'' F'' N'' => ?_)
        have e : (strValues ps').toArray.push (.str sp tr) = (strValues (ps' ++ [(sp, tr)])).toArray := by simp [strValues]
        rw [e] at N''
        rw [hh]
        refine wpAny_pure ⟨plainId_quiet (by decide +kernel) _, ?_⟩
        rw [show (m'.start == m'.start) = true from beq_self_eq_true _]
        refine ih _ ?_ m'.start true (nn + 1) (ps' ++ [(sp, tr)]) (ep' + 1) tk' h'' rfl (by omega) (by simp; omega) F'' N'' ?_
        · cases must with
          | true =>
            have hne' : m'.start ≠ d := fun e => by have := h3 e; cases this
            simp only [if_true] at hk ⊢; omega
          | false => simp only [if_true, Bool.false_eq_true, if_false] at hk ⊢; omega
        · rw [← hall]
          simp only [psOf, List.flatMap_append, List.flatMap_cons, List.flatMap_nil, List.append_nil, Bool.not_true, Bool.and_false]
          simp only [psOf] at hall'
          rw [hall']
          simp only [List.append_assoc]
      by_cases hlt : d < m'.start
      · refine wpAny_ite ?_
        rw [if_pos (by simpa using hlt)]
        refine wpAny_bind (m := reSlice x.cps 0 d m'.start) (slice_any (by omega) ?_)
        refine wpAny_bind (push_list (s := { heap := h, gens := g, drawn := dr, toks := tk + 1, os := os }) F N hne (by simp [strValues]; split at hps <;> omega) fun h' F' N' => ?_)
        have e : (strValues ps).toArray.push (.str ⟨x.cps.extract d m'.start⟩ tk) = (strValues (ps ++ [(⟨x.cps.extract d m'.start⟩, tk)])).toArray := by simp [strValues]
        rw [e] at N'
        exact fin (ps ++ [(⟨x.cps.extract d m'.start⟩, tk)]) (ep + 1) (tk + 1) h' F' N' (by simp; split at hps <;> omega) (by simp [psOf])
      · refine wpAny_ite ?_
        rw [if_neg (by simpa using hlt)]
        have hd' : m'.start = d := by omega
        have hm : must = false := h3 hd'
        subst hm
        exact fin ps ep tk h F N (by simp at hps; omega) (by rw [hd']; simp)
end
end Mine
-- Sr4
theorem Mine.rst_Sr4 : True := by
  w_top off
  trivial
namespace Mine
open PySem.Builtin.Re
theorem named_sub (a b : Value) : reNamed "re.Pattern.sub" "sub" ["repl", "string", "count"] 2 [a, b] [] = pure [some a, some b, none] := rfl
theorem str_no_call : typeLookup (.type "str") "__call__" = pure none := by rw [typeLookup_type, builtinLookup_eq_fast]; kernel_rfl
theorem call_sub {w : World} {A : Around} {E : Value → Shared → Prop} {s : Shared} {h₀ : Heap} {L : Addr} {m : Str → Option Value} {news : List (Addr × Obj)} {x sp : Str} {t tr : Tok} {Q : Value → Shared → Prop}
    (F : Fr h₀ L s.heap m) (X₀ : Frag.In (Mine.hd.heap_39 w.params) h₀) (N : News h₀ L s.heap news) (hx : x.length ≤ 200000) (hsp : sp.length ≤ 4) (hb : sp.cps.contains 92 = false)
    (hret : ∀ (t' : Tok) (h' : Heap) (tk' : Nat), Fr h₀ L h' m → News h₀ L h' news → Q (.str ⟨(ind sp.cps.toList true x.cps.toList).toArray⟩ t') { s with heap := h', toks := tk' }) :
    wpAny (model PySem.Challenge.rw_zn0001_01.row.prog w) A (call (.builtin "re.Pattern.sub") [.ref 36, .str sp tr, .str x t]) Q E s := by
  have X := X₀.keeps F.keep
  refine wpAny_call (codeAny_call_builtin (by decide +kernel) entry_sub ?_)
  refine slot_sub.check _ _ _ _ _ _ _ _ ⟨_, X 36 _ rfl, rfl⟩ (args_sub _ _ _) ?_
  unfold Builtin.«re.Pattern.sub» reSubstitute
  dsimp only
  refine wpAny_bind (wpAny_of_eq (named_sub _ _) ?_)
  dsimp only
  refine wpAny_bind (wpAny_pure ?_)
  refine wpAny_bind (wpAny_specialOf (typeIs_str _ _ _) str_no_call ?_)
  refine wpAny_bind (m := asStr? (.str sp tr)) (wpAny_pure ?_)
  refine wpAny_bind (m := pure (!sp.cps.contains 92)) (wpAny_pure ?_)
  rw [hb]
  refine wpAny_bind (m := pure ((Value.str sp tr, (0 : Int)))) (wpAny_pure ?_)
  refine wpAny_bind (wpAny_holding (whole_I X ?_))
  refine wpAny_bind (m := newList []) (newList_N F N (fun h' F' N' => ?_) (by simp))
  refine wpAny_pure ⟨plainId_quiet (by decide +kernel) _, ?_⟩
  have hne : ∀ p ∈ news, p.1 ≠ s.heap.objs.size := fun p hp => Nat.ne_of_lt (Heap.lt_size (N p hp).1)
  refine subloop X₀ hx hsp hne (R := fun r s' => match r with | .ok (.ret v) => Q v s' | .ok _ => False | .error e => E e s') hret _ 0 false 0 [] 0 _ _ rfl (Nat.zero_le _) (Nat.zero_le _) F' N' ?_
  simp [psOf, bol]
end Mine
-- Tz6
theorem Mine.rst_Tz6 : True := by
  w_top off
  trivial
namespace Mine
open PySem.Sre (M)
open PySem.Builtin.Re
theorem named_search (a : Value) : reNamed "re.Pattern.search" "search" ["string", "pos", "endpos"] 1 [a] [] = pure [some a, none, none] := rfl
def tgT (x : Str) (t : Tok) : ReTarget := { pattern := .ref 57, string := .str x t, code := codeT, text := x.cps, kind := 0, groups := 3, pos := 0, lim := x.cps.size }
abbrev matchObj (x : Str) (t : Tok) (n : Nat) (li : Int) (tp : Addr) : Obj := { cls := .type "re.Match", data := .fields #[.str x t, .ref 57, .int 0 0, .int n 0, .int li 0, .ref tp] }
abbrev spanObj (a b : Nat) (sp : List Int) : Obj := { cls := .type "tuple", data := .seq (rawInt a :: rawInt b :: sp.map rawInt).toArray }
theorem spans_is (m : M) : ((List.range 3).flatMap fun g =>
    match if ((2 * g + 1 : Nat) : Int) ≤ m.lastmark then (m.marks.getD (2 * g) none, m.marks.getD (2 * g + 1) none) else (none, none) with
    | (some b, some e) => [rawInt b, rawInt e]
    | _ => [rawInt (-1), rawInt (-1)]) = (spansOf m).map rawInt := by
  unfold spansOf
  rw [List.map_flatMap]
  congr 1
  funext g
  generalize (if ((2 * g + 1 : Nat) : Int) ≤ m.lastmark then (m.marks.getD (2 * g) none, m.marks.getD (2 * g + 1) none) else (none, none)) = d
  obtain ⟨a, b⟩ := d
  cases a <;> cases b <;> rfl
theorem spans_len (m : M) : (spansOf m).length = 6 := by
  unfold spansOf
  rw [show List.range 3 = [0, 1, 2] from rfl]
  simp only [List.flatMap_cons, List.flatMap_nil, List.length_append, List.length_nil]
  have h : ∀ g : Nat, (match if ((2 * g + 1 : Nat) : Int) ≤ m.lastmark then (m.marks.getD (2 * g) none, m.marks.getD (2 * g + 1) none) else (none, none) with
    | (some b, some e) => [(b : Int), (e : Int)]
    | _ => [-1, -1]).length = 2 := by
    intro g
    split <;> rfl
  exact (congr (congrArg HAdd.hAdd (h 0)) (congr (congrArg HAdd.hAdd (h 1)) (congrArg (· + 0) (h 2))))
theorem newMatch_is (p v : Value) (pos lim : Nat) (m : M) (hb : badSpan m = false) : reNewMatch p v 3 pos lim m = (newTuple (rawInt m.start :: rawInt m.handed :: (spansOf m).map rawInt) >>= fun tp => newFields "re.Match" [v, p, rawInt pos, rawInt lim, rawInt m.lastindex, tp]) := by
  rw [← spans_is]
  have h : ¬ (badSpan m = true) := by rw [hb]; exact Bool.false_ne_true
  exact if_neg h
section
variable {Mo : Model} {A : Around} {E : Value → Shared → Prop} {s : Shared}
theorem target_T {w : World} {x : Str} {t : Tok} {Q : ReTarget → Shared → Prop} (X : Frag.In (Mine.hd.heap_39 w.params) s.heap) (hx : x.length ≤ 200000) (h : Q (tgT x t) s) :
    wpAny Mo A (reTarget "re.Pattern.search" "search" ⟨[.ref 57, .str x t], []⟩) Q E s := by
  unfold reTarget
  dsimp only
  refine wpAny_bind (wpAny_of_eq (named_search _) ?_)
  dsimp only
  refine wpAny_bind (wpAny_pure ?_)
  refine wpAny_bind (wpAny_pure ?_)
  refine wpAny_bind (wpAny_fieldsOf (X 57 _ rfl) rfl ?_)
  refine wpAny_bind (textOf_str ?_)
  refine wpAny_bind (noColl ?_)
  refine wpAny_bind (rawItems_any (X 56 _ rfl) rfl ?_)
  refine wpAny_pure ?_
  have hl : min (2 ^ 63 - 1 : Int).toNat x.cps.size = x.cps.size := by
    have : x.cps.size ≤ 200000 := hx
    have e : (2 ^ 63 - 1 : Int).toNat = 9223372036854775807 := by decide
    rw [e]; omega
  rw [hl]
  rw [show min (0 : Int).toNat x.cps.size = 0 by simp]
  refine Eq.mp (congrArg (fun c => Q { tgT x t with code := c } s) (?e : codeT = _)) h
  decide +kernel
end
theorem search_hit {w : World} {A : Around} {E : Value → Shared → Prop} {s : Shared} {h₀ : Heap} {L : Addr} {mp : Str → Option Value} {news : List (Addr × Obj)} {x : Str} {t : Tok} {Q : Value → Shared → Prop} {m' : M} {sp : List Int}
    (F : Fr h₀ L s.heap mp) (X₀ : Frag.In (Mine.hd.heap_39 w.params) h₀) (N : News h₀ L s.heap news) (hx : x.length ≤ 200000)
    (hrun : M.runFor 3000 (m0 x.cps x.cps.size) = m') (ho : m'.outcome = some .matched) (hsp : spansOf m' = sp) (hb : badSpan m' = false)
    (hret : ∀ (a tp : Addr) (st hd : Nat) (li : Int) (h' : Heap), Fr h₀ L h' mp → News h₀ L h' ((a, matchObj x t x.cps.size li tp) :: (tp, spanObj st hd sp) :: news) → Q (.ref a) { s with heap := h' }) :
    wpAny (model PySem.Challenge.rw_zn0001_01.row.prog w) A (call (.builtin "re.Pattern.search") [.ref 57, .str x t]) Q E s := by
  have X := X₀.keeps F.keep
  refine wpAny_call (codeAny_call_builtin (by decide +kernel) entry_search ?_)
  refine slot_search.check _ _ _ _ _ _ _ _ ⟨_, X 57 _ rfl, rfl⟩ (args_search _ _) ?_
  unfold Builtin.«re.Pattern.search»
  dsimp only
  refine wpAny_bind (target_T X hx ?_)
  unfold reAnswer
  dsimp only [tgT]
  refine wpAny_bind (toEnd_any 3000 m' (m0_none _ _) (by decide) hrun (.inl ⟨ho, ?_⟩))
  dsimp only
  refine wpAny_bind ?_
  rw [newMatch_is _ _ _ _ _ hb, hsp]
  have hz : (rawInt m'.start :: rawInt m'.handed :: sp.map rawInt).length ≤ sizeLine := by rw [← hsp]; simp [spans_len, sizeLine_eq]
  refine wpAny_bind (newTuple_N F N (fun h' F' N' => ?_) hz)
  refine wpAny_newObj_type ?_
  exact wpAny_pure (hret _ _ _ _ _ _ (F'.push _) (N'.push F' _))
theorem search_miss {w : World} {A : Around} {E : Value → Shared → Prop} {s : Shared} {h₀ : Heap} {L : Addr} {mp : Str → Option Value} {x : Str} {t : Tok} {Q : Value → Shared → Prop} {m' : M}
    (F : Fr h₀ L s.heap mp) (X₀ : Frag.In (Mine.hd.heap_39 w.params) h₀) (hx : x.length ≤ 200000)
    (hrun : M.runFor 3000 (m0 x.cps x.cps.size) = m') (ho : m'.outcome = some .failed)
    (hret : Q .none s) :
    wpAny (model PySem.Challenge.rw_zn0001_01.row.prog w) A (call (.builtin "re.Pattern.search") [.ref 57, .str x t]) Q E s := by
  have X := X₀.keeps F.keep
  refine wpAny_call (codeAny_call_builtin (by decide +kernel) entry_search ?_)
  refine slot_search.check _ _ _ _ _ _ _ _ ⟨_, X 57 _ rfl, rfl⟩ (args_search _ _) ?_
  unfold Builtin.«re.Pattern.search»
  dsimp only
  refine wpAny_bind (target_T X hx ?_)
  unfold reAnswer
  dsimp only [tgT]
  refine wpAny_bind (toEnd_any 3000 m' (m0_none _ _) (by decide) hrun (.inr ⟨ho, ?_⟩))
  exact wpAny_pure hret
end Mine
-- Tz7
theorem Mine.rst_Tz7 : True := by
  w_top off
  trivial
namespace Mine
open PySem.Sre (M)
open PySem.Builtin.Re
section
variable {Mo : Model} {A : Around} {E : Value → Shared → Prop} {s : Shared}
theorem typeIs_match {a : Addr} {o : Obj} (ho : s.heap.get? a = some o) (hc : o.cls = .type "re.Match") : s.TypeIs (.ref a) "re.Match" := ⟨_, ho, hc⟩
theorem truthy_match {a : Addr} {o : Obj} {Q : Bool → Shared → Prop} (ho : s.heap.get? a = some o) (hc : o.cls = .type "re.Match") (h : Q true s) : wpAny Mo A (truthy (.ref a)) Q E s := by
  unfold truthy
  dsimp only
  refine wpAny_bind (wpAny_callSpecial?_none (T := "re.Match") (typeIs_match ho hc) (by rw [typeLookup_type, builtinLookup_eq_fast]; kernel_rfl) ?_)
  dsimp only
  refine wpAny_bind (wpAny_specialOf (T := "re.Match") (r := none) (typeIs_match ho hc) (by rw [typeLookup_type, builtinLookup_eq_fast]; kernel_rfl) ?_)
  exact wpAny_pure h
theorem getMethod_search {w : World} {pl : Sem Bool} {Q : Value × List Value → Shared → Prop} (X : Frag.In (Mine.hd.heap_39 w.params) s.heap) (h : Q (.builtin "re.Pattern.search", [.ref 57]) s) :
    wpAny Mo A (getMethod (.ref 57) (PySem.Str.ofString "search") pl) Q E s :=
  getMethod_builtin ⟨_, X 57 _ rfl, rfl⟩ plainAttrs_pat slot_search type_search (fun a e => by cases e; exact ⟨_, X 57 _ rfl, rfl⟩) h
theorem getMethod_group {a : Addr} {o : Obj} {pl : Sem Bool} {Q : Value × List Value → Shared → Prop} (ho : s.heap.get? a = some o) (hc : o.cls = .type "re.Match") (hd : o.dict = none) (h : Q (.builtin "re.Match.group", [.ref a]) s) :
    wpAny Mo A (getMethod (.ref a) (PySem.Str.ofString "group") pl) Q E s :=
  getMethod_builtin (typeIs_match ho hc) plainAttrs_mat slot_group type_group (fun a e => by cases e; exact ⟨_, ho, hd⟩) h
theorem call_group {w : World} {a tp : Addr} {x : Str} {t tg : Tok} {n st hd : Nat} {li : Int} {sp : List Int} {g : Nat} {Q : Value → Shared → Prop}
    (ho : s.heap.get? a = some (matchObj x t n li tp)) (ht : s.heap.get? tp = some (spanObj st hd sp)) (hx : x.length ≤ 200000) (hg : g < 4) (hl : sp.length = 6) (b e : Int)
    (hb : (((st : Int) :: (hd : Int) :: sp).toArray).getD (2 * g) (-1) = b) (he : (((st : Int) :: (hd : Int) :: sp).toArray).getD (2 * g + 1) (-1) = e)
    (hret : ∀ (v : Value) (tk' : Nat), ((b < 0 ∧ v = .none) ∨ (0 ≤ b ∧ ∃ t', v = .str ⟨x.cps.extract b.toNat e.toNat⟩ t')) → Q v { s with toks := tk' }) (hbe : b < 0 ∨ 0 ≤ e) :
    wpAny (model PySem.Challenge.rw_zn0001_01.row.prog w) A (call (.builtin "re.Match.group") [.ref a, .int g tg]) Q E s := by
  refine wpAny_call (codeAny_call_builtin (by decide +kernel) entry_group ?_)
  refine slot_group.check _ _ _ _ _ _ _ _ ⟨_, ho, rfl⟩ (args_group _ _) ?_
  unfold Builtin.«re.Match.group»
  dsimp only
  refine wpAny_bind (wpAny_pure ?_)
  refine wpAny_bind ?_
  unfold reFound
  refine wpAny_bind (wpAny_fieldsOf ho rfl ?_)
  refine wpAny_bind (rawItems_any ht rfl ?_)
  refine wpAny_pure ?_
  have hraw : Array.map reRawOf (rawInt st :: rawInt hd :: sp.map rawInt).toArray = ((st : Int) :: (hd : Int) :: sp).toArray := by
    rw [List.map_toArray]
    simp only [List.map_cons, List.map_map]
    congr 3
    exact (List.map_congr_left (fun y _ => rfl)).trans (List.map_id _)
  rw [hraw]
  refine wpAny_bind ?_
  unfold reGroupNumber
  refine wpAny_bind (m := asInt? (.int g tg)) (wpAny_pure ?_)
  dsimp only
  rw [if_pos (show (some (g : Int)).isSome = true from rfl)]
  refine wpAny_bind (m := asIndex (.int g tg)) ?_
  unfold asIndex
  refine wpAny_bind (m := asInt? (.int g tg)) (wpAny_pure ?_)
  refine wpAny_pure ?_
  rw [if_neg (by simp [hl]; omega)]
  refine wpAny_pure ?_
  refine wpAny_bind ?_
  unfold reGroupText
  dsimp only
  rw [show ((g : Int)).toNat = g from rfl, hb, he]
  by_cases h0 : b < 0
  · rw [if_pos (by simp [h0])]
    refine wpAny_pure ?_
    exact wpAny_pure (hret _ s.toks (.inl ⟨h0, rfl⟩))
  · have h1 : 0 ≤ e := by omega
    rw [if_neg (by simp; omega)]
    refine wpAny_bind (m := reTextOf (.str x t)) (textOf_str ?_)
    refine slice_any hx ?_
    exact wpAny_pure (hret _ (s.toks + 1) (.inr ⟨by omega, _, rfl⟩))
end
end Mine
-- Lp
theorem Mine.rst_Lp : True := by
  w_top off
  trivial
namespace Mine
/-- a name that stands is as good as just stored -/
theorem fr_same {h₀ : Heap} {L : Addr} {h : Heap} {m : Str → Option Value} {x : Str} {v : Value} (F : Fr h₀ L h m) (e : m x = some v) : Fr h₀ L h (fun y => if y = x then some v else m y) := by
  have : (fun y => if y = x then some v else m y) = m := by
    funext y
    by_cases hy : y = x
    · subst hy; simp [e]
    · simp [hy]
  rw [this]; exact F
theorem fr_eq {h₀ : Heap} {L : Addr} {h : Heap} {m m' : Str → Option Value} (F : Fr h₀ L h m) (e : ∀ y, m y = m' y) : Fr h₀ L h m' := by
  rw [← funext e]; exact F
section
variable {prog : Program} {w : World} {A : Around} {s : Shared} {env : Env} {h₀ : Heap}
def FLoop (prog : Program) (w : World) (A : Around) (target : Expr) (body : List Stmt) (env : Env) (Q : Flow → Shared → Prop) (it : Value) (s₂ : Shared) : Prop :=
  codeAny (model prog w) A (.forLoop target it body [] env) (fun r s' => match r with | .ok f => Q f s' | .error e => cameBackBy (model prog w) A env (fun _ _ => False) e s') s₂
theorem For_led {target iter : Expr} {body : List Stmt} {pos : Pos} {Q : Flow → Shared → Prop}
    (h : wpAny (model prog w) A (eval iter env) (fun xv s₁ => wpAny (model prog w) A (pyIter xv) (fun it s₂ => FLoop prog w A target body env Q it s₂) (fun _ _ => False) s₁) (fun _ _ => False) s)
    (hs : ∀ x, foldedSetIterable iter env x = pure x := by intro _; rfl) :
    wpAny (model prog w) A (exec (.For target iter body [] pos) env) Q (fun _ _ => False) s := wpAny_For h hs
theorem owned_goes {target : Expr} {l : Addr} {i : Nat} {I : Addr} {v : Value} {Q : Unit → Shared → Prop} {E : Value → Shared → Prop} (hit : s.heap.IsListIter I l i) (h : Q () s) :
    wpAny (model prog w) A (letOwnedTupleGo target (.ref I) v) Q E s := by
  obtain ⟨o, ho, hc, hd⟩ := hit
  unfold letOwnedTupleGo
  have go : ∀ a, wpAny (model prog w) A (do
      let o ← load I
      match o.cls, o.data with
      | .type n, .fields vs =>
        if ["enumerate", "zip", "dict_itemiterator", "dict_reverseitemiterator", "odict_iterator", "itertools.zip_longest", "itertools.pairwise"].contains n && vs[0]? == some (rawInt a) then
          rule "for.unpacks-the-owned-tuple"
          updateField I 0 .none
      | _, _ => pure ()) Q E s := fun a => by
    refine wpAny_bind (wpAny_load ho ?_)
    rw [hc, hd]
    exact wpAny_pure h
  cases target <;> first | exact wpAny_pure h | (cases v <;> first | exact wpAny_pure h | exact go _)
def TurnOk (h₀ : Heap) (L : Addr) (I : Addr) (oI : Obj) (J : (Str → Option Value) → List (Addr × Obj) → Prop) (s : Shared) (f : Flow) (s₃ : Shared) : Prop :=
  (f = .next ∨ f = .cont) ∧ ∃ h' tk' m' news', s₃ = { s with heap := h', toks := tk' } ∧ Fr h₀ L h' m' ∧ News h₀ L h' ((I, oI) :: news') ∧ (∀ p ∈ news', p.1 ≠ I) ∧ J m' news'
theorem iter_led {target : Expr} {body : List Stmt} {Q : Flow → Shared → Prop} {l : Addr} {vs : List Value} {k : Nat} {m₀ : Str → Option Value} {news : List (Addr × Obj)} (J : Nat → (Str → Option Value) → List (Addr × Obj) → Prop)
    (hh : A.handled = none) (F : Fr h₀ env.locals s.heap m₀) (N : News h₀ env.locals s.heap news) (hl : (l, W.listOf vs.toArray k) ∈ news) (hj : J 0 m₀ news)
    (hkeep : ∀ i m₁ news₁, J i m₁ news₁ → (l, W.listOf vs.toArray k) ∈ news₁)
    (turn : ∀ i v m₁ news₁ h tk I oI, vs[i]? = some v → J i m₁ news₁ → Fr h₀ env.locals h m₁ → News h₀ env.locals h ((I, oI) :: news₁) → (∀ p ∈ news₁, p.1 ≠ I) →
      wpAny (model prog w) A (assign target env v) (fun _ s₂ => wpAny (model prog w) A (execs body env) (TurnOk h₀ env.locals I oI (J (i + 1)) s) (fun _ _ => False) s₂) (fun _ _ => False) { s with heap := h, toks := tk })
    (done : ∀ m₁ news₁ h tk, J vs.length m₁ news₁ → Fr h₀ env.locals h m₁ → News h₀ env.locals h news₁ → Q .next { s with heap := h, toks := tk }) :
    wpAny (model prog w) A (pyIter (.ref l)) (fun it s₂ => FLoop prog w A target body env Q it s₂) (fun _ _ => False) s := by
  have isl : ∀ {h : Heap} {nw : List (Addr × Obj)}, News h₀ env.locals h nw → (l, W.listOf vs.toArray k) ∈ nw → h.IsList l vs.toArray := fun N' hm => ⟨_, (N' _ hm).1, rfl, k, rfl⟩
  refine wpAny_pyIter_list (isl N hl) ?_
  unfold FLoop
  refine codeAny_forLoop_any (fun n s' => ∃ i h tk m₁ news₁ oI, n = vs.length - i ∧ i ≤ vs.length ∧ s' = { s with heap := h, toks := tk } ∧ Fr h₀ env.locals h m₁ ∧ News h₀ env.locals h ((s.heap.objs.size, oI) :: news₁) ∧ (∀ p ∈ news₁, p.1 ≠ s.heap.objs.size) ∧
    h.IsListIter s.heap.objs.size l i ∧ J i m₁ news₁) ?_ vs.length ⟨0, _, s.toks, m₀, news, _, rfl, Nat.zero_le _, rfl, F.push _, N.push F _, fun p hp => Nat.ne_of_lt (Heap.lt_size (N p hp).1), ⟨_, Heap.get?_push_size _ rfl, rfl, rfl⟩, hj⟩
  rintro n s' ⟨i, h, tk, m₁, news₁, oI, rfl, hi, rfl, F₁, N₁, hne, hit, hJ⟩
  have hm := hkeep _ _ _ hJ
  have hls := isl N₁ (.tail _ hm)
  have hI := N₁ _ (.head _)
  cases hv : vs[i]? with
  | none =>
    have hi' : i = vs.length := by have := List.getElem?_eq_none_iff.mp hv; omega
    subst hi'
    refine wpAny_pyNext_list_end hh hit hls (by simp) fun h' he => ?_
    refine wpAny_execs_nil ?_
    refine done m₁ news₁ h' tk hJ ?_ ?_
    · obtain ⟨oL, a1, a2, hL, a3⟩ := F₁.ns
      refine ⟨⟨oL, a1, a2, he _ _ (fun e => hI.2.1 e.symm) hL, a3⟩, fun b o e => he _ _ (fun e' => ?_) (F₁.keep b o e), F₁.above⟩
      rw [e', hI.2.2] at e; cases e
    · exact fun p hp => ⟨he _ _ (hne p hp) (N₁ p (.tail _ hp)).1, (N₁ p (.tail _ hp)).2⟩
  | some v =>
    have hilt : i < vs.length := by
      rcases Nat.lt_or_ge i vs.length with h1 | h1
      · exact h1
      · rw [List.getElem?_eq_none h1] at hv; cases hv
    refine wpAny_pyNext_list_item hit hls (x := v) (by simpa using hv) fun h' hit' hs' => ?_
    obtain ⟨o', ho', hc', hd'⟩ := id hit'
    have F₂ : Fr h₀ env.locals h' m₁ := by
      obtain ⟨oL, a1, a2, hL, a3⟩ := F₁.ns
      refine ⟨⟨oL, a1, a2, (hs'.2 _ (fun e => hI.2.1 e.symm)).trans hL, a3⟩, fun b o e => (hs'.2 _ (fun e' => ?_)).trans (F₁.keep b o e), F₁.above⟩
      rw [e', hI.2.2] at e; cases e
    have N₂ : News h₀ env.locals h' ((s.heap.objs.size, o') :: news₁) := fun p hp => by
      rcases List.mem_cons.mp hp with rfl | hp
      · exact ⟨ho', hI.2⟩
      · exact ⟨(hs'.2 _ (hne p hp)).trans (N₁ p (.tail _ hp)).1, (N₁ p (.tail _ hp)).2⟩
    refine owned_goes (s := { s with heap := h', toks := tk }) hit' ?_
    refine wpAny_mono (turn i v m₁ news₁ h' tk _ o' hv hJ F₂ N₂ hne) (fun _ s₂ h₂ => ?_) fun _ _ e => e.elim
    refine wpAny_mono h₂ (fun f s₃ h₃ => ?_) fun _ _ e => e.elim
    obtain ⟨hf, h'', tk'', m', news', rfl, F', N', hne', hJ'⟩ := h₃
    have hnext : ∃ m, m < vs.length - i ∧ ∃ i' h tk m₁ news₁ oI, m = vs.length - i' ∧ i' ≤ vs.length ∧ ({ s with heap := h'', toks := tk'' } : Shared) = { s with heap := h, toks := tk } ∧ Fr h₀ env.locals h m₁ ∧ News h₀ env.locals h ((s.heap.objs.size, oI) :: news₁) ∧ (∀ p ∈ news₁, p.1 ≠ s.heap.objs.size) ∧
        h.IsListIter s.heap.objs.size l i' ∧ J i' m₁ news₁ :=
      ⟨vs.length - (i + 1), by omega, i + 1, h'', tk'', m', news', o', rfl, hilt, rfl, F', N', hne', ⟨o', (N' _ (.head _)).1, hc', hd'⟩, hJ'⟩
    rcases hf with rfl | rfl <;> exact hnext
def TurnFix (h₀ : Heap) (L : Addr) (need : List (Addr × Obj)) (J : (Str → Option Value) → Prop) (s : Shared) (f : Flow) (s₃ : Shared) : Prop :=
  (f = .next ∨ f = .cont) ∧ ∃ h' tk' m' own, s₃ = { s with heap := h', toks := tk' } ∧ Fr h₀ L h' m' ∧ News h₀ L h' own ∧ (∀ p ∈ need, p ∈ own) ∧ J m'
theorem TurnFix.intro {L : Addr} {need own : List (Addr × Obj)} {J : (Str → Option Value) → Prop} {h' : Heap} {tk' : Nat} {m' : Str → Option Value} (F : Fr h₀ L h' m') (N : News h₀ L h' own) (hs : ∀ p ∈ need, p ∈ own) (hj : J m') :
    TurnFix h₀ L need J s .next { s with heap := h', toks := tk' } := ⟨.inl rfl, h', tk', m', own, rfl, F, N, hs, hj⟩
theorem TurnOk.intro {L I : Addr} {oI : Obj} {news' own : List (Addr × Obj)} {J : (Str → Option Value) → List (Addr × Obj) → Prop} {h' : Heap} {tk' : Nat} {m' : Str → Option Value} (F : Fr h₀ L h' m') (N : News h₀ L h' own) (hs : ∀ p ∈ (I, oI) :: news', p ∈ own)
    (hne : ∀ p ∈ news', p.1 ≠ I) (hj : J m' news') : TurnOk h₀ L I oI J s .next { s with heap := h', toks := tk' } := ⟨.inl rfl, h', tk', m', news', rfl, F, fun p hp => N p (hs p hp), hne, hj⟩
/-- a loop that leaves the ledger as it is -/
theorem iter_fix {target : Expr} {body : List Stmt} {Q : Flow → Shared → Prop} {l : Addr} {vs : List Value} {k : Nat} {m₀ : Str → Option Value} {news : List (Addr × Obj)} (J : Nat → (Str → Option Value) → Prop)
    (hh : A.handled = none) (F : Fr h₀ env.locals s.heap m₀) (N : News h₀ env.locals s.heap news) (hl : (l, W.listOf vs.toArray k) ∈ news) (hj : J 0 m₀)
    (turn : ∀ i v m₁ h tk I oI, vs[i]? = some v → J i m₁ → Fr h₀ env.locals h m₁ → News h₀ env.locals h ((I, oI) :: news) → (∀ p ∈ news, p.1 ≠ I) →
      wpAny (model prog w) A (assign target env v) (fun _ s₂ => wpAny (model prog w) A (execs body env) (TurnFix h₀ env.locals ((I, oI) :: news) (J (i + 1)) s) (fun _ _ => False) s₂) (fun _ _ => False) { s with heap := h, toks := tk })
    (done : ∀ m₁ h tk, J vs.length m₁ → Fr h₀ env.locals h m₁ → News h₀ env.locals h news → Q .next { s with heap := h, toks := tk }) :
    wpAny (model prog w) A (pyIter (.ref l)) (fun it s₂ => FLoop prog w A target body env Q it s₂) (fun _ _ => False) s := by
  refine iter_led (fun i m₁ news₁ => news₁ = news ∧ J i m₁) hh F N hl ⟨rfl, hj⟩ (fun i m₁ news₁ h => h.1 ▸ hl) ?_ ?_
  · rintro i v m₁ news₁ h tk I oI hv ⟨rfl, hJ⟩ F₁ N₁ hne
    refine wpAny_mono (turn i v m₁ h tk I oI hv hJ F₁ N₁ hne) (fun _ s₂ h₂ => wpAny_mono h₂ (fun f s₃ h₃ => ?_) fun _ _ e => e) fun _ _ e => e
    obtain ⟨hf, h', tk', m', own, e, F', N', hs, hJ'⟩ := h₃
    exact ⟨hf, h', tk', m', news₁, e, F', fun p hp => N' p (hs p hp), hne, rfl, hJ'⟩
  · rintro m₁ news₁ h tk ⟨rfl, hJ⟩ F₁ N₁
    exact done m₁ h tk hJ F₁ N₁
/-- a while that turns one text -/
def WEnd (h₀ : Heap) (L : Addr) (x : Str) (mW : Str → Option Value) (NW : List (Addr × Obj)) (P : Nat → Str → Prop) (n : Nat) (s : Shared) (f : Flow) (s₃ : Shared) : Prop :=
  f = .next ∧ ∃ h' tk' m' y' t' n', s₃ = { s with heap := h', toks := tk' } ∧ Fr h₀ L h' m' ∧ News h₀ L h' NW ∧ m' x = some (.str y' t') ∧ (∀ z, z ≠ x → m' z = mW z) ∧ n' < n ∧ P n' y'
def WOut (h₀ : Heap) (L : Addr) (x : Str) (mW : Str → Option Value) (NW : List (Addr × Obj)) (P' : Str → Prop) (s : Shared) (s₃ : Shared) : Prop :=
  ∃ h' tk' m' y' t', s₃ = { s with heap := h', toks := tk' } ∧ Fr h₀ L h' m' ∧ News h₀ L h' NW ∧ m' x = some (.str y' t') ∧ (∀ z, z ≠ x → m' z = mW z) ∧ P' y'
theorem fr_but {h₀ : Heap} {L : Addr} {h : Heap} {m₁ mW : Str → Option Value} {x : Str} {v : Value} (F₁ : Fr h₀ L h m₁) (hx : m₁ x = some v) (hm : ∀ z, z ≠ x → m₁ z = mW z) : Fr h₀ L h (fun z => if z = x then some v else mW z) :=
  fr_eq F₁ fun z => by
    by_cases hz : z = x
    · subst hz; simp [hx]
    · simp [hz, hm z hz]
theorem while_str {test : Expr} {body : List Stmt} {pos : Pos} {L : Addr} {x : Str} {mW : Str → Option Value} {NW : List (Addr × Obj)} {Q : Flow → Shared → Prop} (P : Nat → Str → Prop) (P' : Str → Prop) {n₀ : Nat} {y₀ : Str} {t₀ : Tok}
    (F : Fr h₀ L s.heap mW) (N : News h₀ L s.heap NW) (h0 : mW x = some (.str y₀ t₀)) (hP : P n₀ y₀)
    (turn : ∀ n y t h tk, P n y → Fr h₀ L h (fun z => if z = x then some (.str y t) else mW z) → News h₀ L h NW →
      wpAny (model prog w) A (isTrue test env (eval test env)) (fun b s₂ =>
        if b = true then wpAny (model prog w) A (execs body env) (WEnd h₀ L x mW NW P n s) (fun _ _ => False) s₂ else WOut h₀ L x mW NW P' s s₂) (fun _ _ => False) { s with heap := h, toks := tk })
    (done : ∀ y t h tk, P' y → Fr h₀ L h (fun z => if z = x then some (.str y t) else mW z) → News h₀ L h NW → Q .next { s with heap := h, toks := tk }) :
    wpAny (model prog w) A (exec (.While test body [] pos) env) Q (fun _ _ => False) s := by
  refine While_inv (fun n m₁ news₁ => news₁ = NW ∧ ∃ y t, m₁ x = some (.str y t) ∧ (∀ z, z ≠ x → m₁ z = mW z) ∧ P n y) (n₀ := n₀) F N ⟨rfl, y₀, t₀, h0, fun _ _ => rfl, hP⟩ ?_ PassesOwn.never
  rintro n m₁ news₁ h₁ tk₁ F₁ N₁ ⟨rfl, y, t, hx, hm, hp⟩
  refine wpAny_mono (turn n y t h₁ tk₁ hp (fr_but F₁ hx hm) N₁) (fun b s₂ h₂ => ?_) fun _ _ e => e
  cases b with
  | false =>
    rw [if_neg Bool.false_ne_true] at h₂ ⊢
    obtain ⟨h', tk', m', y', t', rfl, F', N', hx', hm', hp'⟩ := h₂
    exact done y' t' h' tk' hp' (fr_but F' hx' hm') N'
  | true =>
    rw [if_pos rfl] at h₂ ⊢
    refine wpAny_mono h₂ (fun f s₃ h₃ => ?_) fun _ _ e => e
    obtain ⟨rfl, h', tk', m', y', t', n', rfl, F', N', hx', hm', hn, hp'⟩ := h₃
    exact WhileStep.intro F' N' hn ⟨rfl, y', t', hx', hm', hp'⟩
/-- a while that turns one name -/
def VEnd (h₀ : Heap) (L : Addr) (x : Str) (mW : Str → Option Value) (NW : List (Addr × Obj)) (P : Nat → Value → Prop) (n : Nat) (s : Shared) (f : Flow) (s₃ : Shared) : Prop :=
  f = .next ∧ ∃ h' tk' m' v' n' own, s₃ = { s with heap := h', toks := tk' } ∧ Fr h₀ L h' m' ∧ News h₀ L h' own ∧ (∀ p ∈ NW, p ∈ own) ∧ m' x = some v' ∧ (∀ z, z ≠ x → m' z = mW z) ∧ n' < n ∧ P n' v'
def VOut (h₀ : Heap) (L : Addr) (x : Str) (mW : Str → Option Value) (NW : List (Addr × Obj)) (P' : Value → Prop) (s : Shared) (s₃ : Shared) : Prop :=
  ∃ h' tk' m' v' own, s₃ = { s with heap := h', toks := tk' } ∧ Fr h₀ L h' m' ∧ News h₀ L h' own ∧ (∀ p ∈ NW, p ∈ own) ∧ m' x = some v' ∧ (∀ z, z ≠ x → m' z = mW z) ∧ P' v'
theorem VEnd.intro {L : Addr} {x : Str} {mW m' : Str → Option Value} {NW own : List (Addr × Obj)} {P : Nat → Value → Prop} {n : Nat} {h' : Heap} {tk' : Nat} {v' : Value} (n' : Nat) (F : Fr h₀ L h' m') (N : News h₀ L h' own) (hs : ∀ p ∈ NW, p ∈ own) (hx : m' x = some v')
    (hm : ∀ z, z ≠ x → m' z = mW z) (hn : n' < n) (hp : P n' v') : VEnd h₀ L x mW NW P n s .next { s with heap := h', toks := tk' } := ⟨rfl, h', tk', m', v', n', own, rfl, F, N, hs, hx, hm, hn, hp⟩
theorem VOut.intro {L : Addr} {x : Str} {mW m' : Str → Option Value} {NW own : List (Addr × Obj)} {P' : Value → Prop} {h' : Heap} {tk' : Nat} {v' : Value} (F : Fr h₀ L h' m') (N : News h₀ L h' own) (hs : ∀ p ∈ NW, p ∈ own) (hx : m' x = some v')
    (hm : ∀ z, z ≠ x → m' z = mW z) (hp : P' v') : VOut h₀ L x mW NW P' s { s with heap := h', toks := tk' } := ⟨h', tk', m', v', own, rfl, F, N, hs, hx, hm, hp⟩
theorem while_one {test : Expr} {body : List Stmt} {pos : Pos} {L : Addr} {x : Str} {mW : Str → Option Value} {NW : List (Addr × Obj)} {Q : Flow → Shared → Prop} (P : Nat → Value → Prop) (P' : Value → Prop) {n₀ : Nat} {v₀ : Value}
    (F : Fr h₀ L s.heap mW) (N : News h₀ L s.heap NW) (h0 : mW x = some v₀) (hP : P n₀ v₀)
    (turn : ∀ n v h tk, P n v → Fr h₀ L h (fun z => if z = x then some v else mW z) → News h₀ L h NW →
      wpAny (model prog w) A (isTrue test env (eval test env)) (fun b s₂ =>
        if b = true then wpAny (model prog w) A (execs body env) (VEnd h₀ L x mW NW P n s) (fun _ _ => False) s₂ else VOut h₀ L x mW NW P' s s₂) (fun _ _ => False) { s with heap := h, toks := tk })
    (done : ∀ v h tk, P' v → Fr h₀ L h (fun z => if z = x then some v else mW z) → News h₀ L h NW → Q .next { s with heap := h, toks := tk }) :
    wpAny (model prog w) A (exec (.While test body [] pos) env) Q (fun _ _ => False) s := by
  refine While_inv (fun n m₁ news₁ => news₁ = NW ∧ ∃ v, m₁ x = some v ∧ (∀ z, z ≠ x → m₁ z = mW z) ∧ P n v) (n₀ := n₀) F N ⟨rfl, v₀, h0, fun _ _ => rfl, hP⟩ ?_ PassesOwn.never
  rintro n m₁ news₁ h₁ tk₁ F₁ N₁ ⟨rfl, v, hx, hm, hp⟩
  refine wpAny_mono (turn n v h₁ tk₁ hp (fr_but F₁ hx hm) N₁) (fun b s₂ h₂ => ?_) fun _ _ e => e
  cases b with
  | false =>
    rw [if_neg Bool.false_ne_true] at h₂ ⊢
    obtain ⟨h', tk', m', v', own, rfl, F', N', hs, hx', hm', hp'⟩ := h₂
    exact done v' h' tk' hp' (fr_but F' hx' hm') fun p hp => N' p (hs p hp)
  | true =>
    rw [if_pos rfl] at h₂ ⊢
    refine wpAny_mono h₂ (fun f s₃ h₃ => ?_) fun _ _ e => e
    obtain ⟨rfl, h', tk', m', v', n', own, rfl, F', N', hs, hx', hm', hn, hp'⟩ := h₃
    exact WhileStep.intro F' (fun p hp => N' p (hs p hp)) hn ⟨rfl, v', hx', hm', hp'⟩
theorem item_led {value slice : Expr} {L l : Addr} {vs : List Value} {n : Nat} {news : List (Addr × Obj)} {k : Int} {u : Tok} {v : Value} {Q : Value → Shared → Prop} {E : Value → Shared → Prop}
    (N : News h₀ L s.heap news) (hl : (l, W.listOf vs.toArray n) ∈ news) (h0 : 0 ≤ k) (hhi : k < 2 ^ 63) (hx : vs[k.toNat]? = some v) (h : Q v s)
    (hs : subscripted slice false (.ref l) (.int k u) = operate [.ref l, .int k u] (getItem (.ref l) (.int k u)) := by with_unfolding_all rfl) :
    wpAny (model prog w) A (subscriptTail value slice (.ref l) (.int k u)) Q E s :=
  have hL : s.heap.IsList l vs.toArray := ⟨_, (N _ hl).1, rfl, n, rfl⟩
  tail_any hL.typeIs slot_list_getitem.lookup (wpAny_getItem_list hL h0 hhi (by simpa using hx) h) hs
theorem slice_led {value slice : Expr} {L l : Addr} {m : Str → Option Value} {vs : List Value} {n : Nat} {news : List (Addr × Obj)} {x y : Int} {tx ty : Tok} {Q : Value → Shared → Prop} {E : Value → Shared → Prop}
    (F : Fr h₀ L s.heap m) (N : News h₀ L s.heap news) (hl : (l, W.listOf vs.toArray n) ∈ news) (hx : 0 ≤ x) (hy : 0 ≤ y)
    (h : ∀ D h', Fr h₀ L h' m → News h₀ L h' ((D, W.listOf ((vs.drop x.toNat).take (y.toNat - x.toNat)).toArray 0) :: news) → (∀ p ∈ news, p.1 < D) → Q (.ref D) { s with heap := h' })
    (hs : subscripted slice false (.ref l) (.ref s.heap.objs.size) = operate [.ref s.heap.objs.size, .ref l] (getItem (.ref l) (.ref s.heap.objs.size))) (ht : ∀ r, letTemporaryGo value (.ref l) r = pure ()) (hz : vs.length ≤ 1000) :
    wpAny (model prog w) A (subscriptTail value slice (.ref l) (.ref s.heap.objs.size)) Q E { s with heap := s.heap.push { cls := .type "slice", data := .fields #[.int x tx, .int y ty, .none] } } := by
  refine kmk_slice F N (its := vs.toArray) ⟨_, (N _ hl).1, rfl, n, rfl⟩ (IsPart.int _ _) (IsPart.int _ _) (fun D h' F' N' l1 => h D h' F' ?_ l1) hs ht (by rw [sizeLine_eq]; simp; omega)
  have e : sliceBounds (some x) (some y) none vs.toArray.size = (((min x.toNat vs.toArray.size : Nat) : Int), ((min y.toNat vs.toArray.size : Nat) : Int), 1) := by
    simp only [sliceBounds, Option.getD_none, show (1 : Int) > 0 by decide, if_true, if_neg (show ¬ (x < 0) by omega), if_neg (show ¬ (y < 0) by omega)]
    congr 1
    · omega
    · congr 1
      omega
  rw [kmk_pick_nat _ e] at N'
  have e2 : ((vs.toArray.toList.drop (min x.toNat vs.toArray.size)).take (min y.toNat vs.toArray.size - min x.toNat vs.toArray.size)) = ((vs.drop x.toNat).take (y.toNat - x.toNat)) := by
    rw [show vs.toArray.toList = vs from rfl, List.size_toArray]
    by_cases h1 : x.toNat ≤ vs.length
    · rw [Nat.min_eq_left h1]
      by_cases h2 : y.toNat ≤ vs.length
      · rw [Nat.min_eq_left h2]
      · rw [Nat.min_eq_right (by omega), List.take_of_length_le (by simp), List.take_of_length_le (by simp; omega)]
    · rw [Nat.min_eq_right (a := x.toNat) (b := vs.length) (by omega), List.drop_of_length_le (i := vs.length) (l := vs) (Nat.le_refl _), List.drop_of_length_le (i := x.toNat) (l := vs) (by omega)]; simp
  rw [e2] at N'
  exact N'
end
end Mine
-- En
theorem Mine.rst_En : True := by
  w_top off
  trivial
namespace Mine
structure En where
  depth : Int
  step : Int
  kind : Int
  zone : Value
  told : Str
  note : Str
abbrev enObj (e : En) (t1 t2 t3 t4 t5 : Tok) (n : Nat) : Obj := { cls := .type "tuple", data := .seq #[.int e.depth t1, .int e.step t2, .int e.kind t3, e.zone, .str e.told t4, .str e.note t5] n }
/-- the ledger bears the entry at v -/
inductive EnIn (news : List (Addr × Obj)) : Value → En → Prop
  | mk {a : Addr} {e : En} {t1 t2 t3 t4 t5 : Tok} {n : Nat} : (a, enObj e t1 t2 t3 t4 t5 n) ∈ news → EnIn news (.ref a) e
inductive EnsIn (news : List (Addr × Obj)) : List Value → List En → Prop
  | nil : EnsIn news [] []
  | cons {v : Value} {e : En} {vs : List Value} {es : List En} : EnIn news v e → EnsIn news vs es → EnsIn news (v :: vs) (e :: es)
theorem EnIn.mono {news news' : List (Addr × Obj)} (hs : ∀ p ∈ news, p ∈ news') {v : Value} {e : En} (h : EnIn news v e) : EnIn news' v e := by cases h with | mk hm => exact .mk (hs _ hm)
theorem EnsIn.mono {news news' : List (Addr × Obj)} (hs : ∀ p ∈ news, p ∈ news') {vs : List Value} {es : List En} (h : EnsIn news vs es) : EnsIn news' vs es := by
  induction h with
  | nil => exact .nil
  | cons h1 _ ih => exact .cons (h1.mono hs) ih
theorem EnsIn.length {news : List (Addr × Obj)} {vs : List Value} {es : List En} (h : EnsIn news vs es) : vs.length = es.length := by
  induction h with
  | nil => rfl
  | cons _ _ ih => simp [ih]
theorem EnsIn.get {news : List (Addr × Obj)} {vs : List Value} {es : List En} (h : EnsIn news vs es) : ∀ (i : Nat) (v : Value), vs[i]? = some v → ∃ e, es[i]? = some e ∧ EnIn news v e := by
  induction h with
  | nil => intro i v hv; simp at hv
  | cons h1 _ ih =>
    intro i v hv
    cases i with
    | zero => simp at hv; subst hv; exact ⟨_, by simp, h1⟩
    | succ i => simp at hv; obtain ⟨e, he, hin⟩ := ih i v hv; exact ⟨e, by simpa using he, hin⟩
theorem EnsIn.append {news : List (Addr × Obj)} {vs vs' : List Value} {es es' : List En} (h : EnsIn news vs es) (h' : EnsIn news vs' es') : EnsIn news (vs ++ vs') (es ++ es') := by
  induction h with
  | nil => exact h'
  | cons h1 _ ih => exact .cons h1 ih
theorem EnsIn.drop {news : List (Addr × Obj)} {vs : List Value} {es : List En} (h : EnsIn news vs es) : ∀ n, EnsIn news (vs.drop n) (es.drop n) := by
  induction h with
  | nil => intro n; simp; exact .nil
  | cons h1 h2 ih => intro n; cases n with
    | zero => exact .cons h1 h2
    | succ n => simpa using ih n
theorem EnsIn.take {news : List (Addr × Obj)} {vs : List Value} {es : List En} (h : EnsIn news vs es) : ∀ n, EnsIn news (vs.take n) (es.take n) := by
  induction h with
  | nil => intro n; simp; exact .nil
  | cons h1 h2 ih => intro n; cases n with
    | zero => exact .nil
    | succ n => exact .cons h1 (ih n)
end Mine
-- Pd
theorem Mine.rst_Pd : True := by
  w_top off
  trivial
namespace Mine
def wht (c : Nat) : Bool := c == 32 || c == 10 || c == 9 || c == 11 || c == 160
def strip (l : List Nat) : List Nat := (l.reverse.dropWhile wht).reverse
def cmt (t : List Nat) : List Nat := if t = [] then [35] else 35 :: 32 :: t
def bl (n : Nat) : List Nat := List.replicate n 32
def En.text (e : En) : List Nat := e.told.cps.toList ++ e.note.cps.toList
/-- the rows of one entry, n blanks ahead -/
noncomputable def oneDue (n : Nat) (e : En) : List Nat := ind (bl n) true (cmt (strip e.text) ++ [10])
def after (st : List Int) (e : En) : List Int := st.take e.depth.toNat ++ [e.step]
noncomputable def dueGo : List Int → List En → List Nat
  | _, [] => []
  | st, e :: r => oneDue (4 + (st.take e.depth.toNat).sum.toNat) e ++ dueGo (after st e) r
def rowFn (n : Nat) (row : List Nat) : List Nat := (if row = [] then [] else bl n ++ row) ++ [10]

theorem ind_free (sp : List Nat) : ∀ (p r : List Nat), (∀ c ∈ p, c ≠ 10) → p ≠ [] → ind sp true (p ++ r) = sp ++ p ++ ind sp false r := by
  have go : ∀ (p r : List Nat), (∀ c ∈ p, c ≠ 10) → ind sp false (p ++ r) = p ++ ind sp false r := by
    intro p
    induction p with
    | nil => intro r _; rfl
    | cons c p ih =>
      intro r h
      have hc := h c (.head _)
      simp only [List.cons_append, ind]
      rw [if_neg (by simp), List.nil_append, show (c == 10) = false by simpa using hc, ih r (fun x hx => h x (.tail _ hx))]
  intro p r h hne
  cases p with
  | nil => exact absurd rfl hne
  | cons c p =>
    have hc := h c (.head _)
    simp only [List.cons_append, ind]
    rw [if_pos ⟨trivial, hc⟩, show (c == 10) = false by simpa using hc, go p r (fun x hx => h x (.tail _ hx))]
    simp
theorem rowFn_ind (n : Nat) (p r : List Nat) (h : ∀ c ∈ p, c ≠ 10) : ind (bl n) true (p ++ 10 :: r) = rowFn n p ++ ind (bl n) true r := by
  unfold rowFn
  by_cases hp : p = []
  · subst hp; simp [ind]
  · rw [ind_free _ _ _ h hp, if_neg hp]; simp [ind]
/-- the rows one by one are the text's rows -/
theorem rows_ind (n : Nat) : ∀ (ps : List Str), ps ≠ [] → (∀ p ∈ ps, 10 ∉ p.cps.toList) → (ps.flatMap fun p => rowFn n p.cps.toList) = ind (bl n) true ((Str.join ⟨#[10]⟩ ps).cps.toList ++ [10])
  | [], h, _ => absurd rfl h
  | [p], _, h => by
    have hp : ∀ c ∈ p.cps.toList, c ≠ 10 := fun c hc e => h p (.head _) (e ▸ hc)
    rw [show Str.join ⟨#[10]⟩ [p] = p from rfl, rowFn_ind n _ [] hp]; simp [ind]
  | p :: q :: r, _, h => by
    have hp : ∀ c ∈ p.cps.toList, c ≠ 10 := fun c hc e => h p (.head _) (e ▸ hc)
    have ih := rows_ind n (q :: r) (by simp) (fun x hx => h x (.tail _ hx))
    rw [List.flatMap_cons, ih, show Str.join ⟨#[10]⟩ (p :: q :: r) = p ++ (⟨#[10]⟩ : Str) ++ Str.join ⟨#[10]⟩ (q :: r) from rfl]
    have e : (p ++ (⟨#[10]⟩ : Str) ++ Str.join ⟨#[10]⟩ (q :: r)).cps.toList ++ [10] = p.cps.toList ++ 10 :: ((Str.join ⟨#[10]⟩ (q :: r)).cps.toList ++ [10]) := by
      show ((p.cps ++ #[10]) ++ (Str.join ⟨#[10]⟩ (q :: r)).cps).toList ++ [10] = _
      simp
    rw [e, rowFn_ind n _ _ hp]
/-- one blank fewer at the end -/
theorem strip_snoc (l : List Nat) (c : Nat) : strip (l ++ [c]) = if wht c = true then strip l else l ++ [c] := by
  unfold strip
  rw [List.reverse_append, List.reverse_singleton, List.singleton_append, List.dropWhile_cons]
  split <;> simp
theorem strip_len (l : List Nat) : (strip l).length ≤ l.length := by
  unfold strip
  rw [List.length_reverse]
  have := (List.dropWhile_sublist wht (l := l.reverse)).length_le
  simpa using this
theorem item_last {y : Str} {l : List Nat} {c : Nat} (h : y.cps.toList = l ++ [c]) : Txt.item y (-1) = ⟨#[c]⟩ := by
  have hl : y.length = l.length + 1 := by
    show y.cps.size = _
    rw [← Array.length_toList, h]; simp
  unfold Txt.item Txt.charAt seqIndex?
  rw [hl]
  simp only [show ((-1 : Int) < 0) by decide, if_true]
  rw [if_pos (by simp; omega)]
  have e : ((-1 : Int) + ((l.length + 1 : Nat) : Int)).toNat = l.length := by omega
  have e2 : y.cps[l.length]? = some c := by rw [← Array.getElem?_toList, h]; simp
  show (⟨#[(y.cps[((-1 : Int) + ((l.length + 1 : Nat) : Int)).toNat]?).getD 0]⟩ : Str) = _
  rw [e, e2]; rfl
theorem slice_last {y : Str} {l : List Nat} {c : Nat} (h : y.cps.toList = l ++ [c]) : (Txt.slice y none (some (-1))).cps.toList = l := by
  have hl : y.length = l.length + 1 := by
    show y.cps.size = _
    rw [← Array.length_toList, h]; simp
  show (StrLaws.sliceText y none (some (-1))).cps.toList = _
  rw [StrLaws.sliceText_to_neg (by decide) (by omega), h]
  have e : ((-1 : Int) + (y.length : Int) - 0).toNat = l.length := by omega
  rw [e]; simp
abbrev whites : Str := PySem.Str.ofString " \n\t\u000b\u00a0"
theorem whites_is : whites = ⟨#[32, 10, 9, 11, 160]⟩ := by decide
theorem in_whites {y : Str} {l : List Nat} {c : Nat} (h : y.cps.toList = l ++ [c]) : (Builtin.Str.occurrences whites (Txt.item y (-1)) 0 whites.length 1).isEmpty = !wht c := by
  rw [item_last h]
  have := StrLaws.found_one whites c
  rw [whites_is] at this ⊢
  have e : decide (c ∈ ([32, 10, 9, 11, 160] : List Nat)) = wht c := by
    rw [Bool.eq_iff_iff]; simp [wht, or_assoc]
  rw [show (⟨#[32, 10, 9, 11, 160]⟩ : Str).cps.toList = [32, 10, 9, 11, 160] from rfl, e] at this
  rw [← this, Bool.not_not]
theorem snoc_of {y : Str} (h : 1 ≤ y.length) : ∃ l c, y.cps.toList = l ++ [c] := by
  have hne : y.cps.toList ≠ [] := by
    intro e
    have : y.length = 0 := by show y.cps.size = 0; rw [← Array.length_toList, e]; rfl
    omega
  exact ⟨y.cps.toList.dropLast, y.cps.toList.getLast hne, (List.dropLast_concat_getLast hne).symm⟩
theorem len_snoc {y : Str} {l : List Nat} {c : Nat} (h : y.cps.toList = l ++ [c]) : y.length = l.length + 1 := by
  show y.cps.size = _
  rw [← Array.length_toList, h]; simp
theorem empty_of {y : Str} (h : (y != PySem.Str.ofString "") = false) : y = ⟨#[]⟩ := by
  have e : PySem.Str.ofString "" = ⟨#[]⟩ := by decide
  rw [e] at h
  simpa using h
/-- a turn of the stripping loop -/
theorem strip_turn {y : Str} {s0 : List Nat} (hy : strip y.cps.toList = s0) (hp : 1 ≤ y.length) (hw : (Builtin.Str.occurrences whites (Txt.item y (-1)) 0 whites.length 1).isEmpty = false) :
    (Txt.slice y none (some (-1))).length < y.length ∧ strip (Txt.slice y none (some (-1))).cps.toList = s0 := by
  obtain ⟨l, c, h⟩ := snoc_of hp
  rw [in_whites h] at hw
  have hc : wht c = true := by simpa using hw
  have e := slice_last h
  refine ⟨?_, ?_⟩
  · have h1 := len_snoc h
    have h2 : (Txt.slice y none (some (-1))).length = l.length := by show (Txt.slice y none (some (-1))).cps.size = _; rw [← Array.length_toList, e]
    omega
  · rw [e, ← hy, h, strip_snoc, if_pos hc]
theorem strip_out {y : Str} {s0 : List Nat} (hy : strip y.cps.toList = s0) (hp : 1 ≤ y.length) (hw : (Builtin.Str.occurrences whites (Txt.item y (-1)) 0 whites.length 1).isEmpty = true) : y.cps.toList = s0 := by
  obtain ⟨l, c, h⟩ := snoc_of hp
  rw [in_whites h] at hw
  have hc : wht c = false := by simpa using hw
  rw [← hy, h, strip_snoc, if_neg (by rw [hc]; simp)]
theorem strip_out0 {y : Str} {s0 : List Nat} (hy : strip y.cps.toList = s0) (h : (y != PySem.Str.ofString "") = false) : y.cps.toList = s0 := by
  have := empty_of h
  subst this; exact hy
def RowsOf (ps : List (Str × Tok)) (t : List Nat) : Prop := ps ≠ [] ∧ (∀ p ∈ ps.map (·.1), 10 ∉ p.cps.toList) ∧ (Str.join ⟨#[10]⟩ (ps.map (·.1))).cps.toList = t
theorem rowsOf_split {y : Str} {ps : List (Str × Tok)} (h : ps.map (·.1) = Txt.split (PySem.Str.ofString "# " ++ y) (PySem.Str.ofString "\n")) (hy : (y != PySem.Str.ofString "") = true) : RowsOf ps (cmt y.cps.toList) := by
  have e1 : PySem.Str.ofString "\n" = ⟨#[10]⟩ := by decide
  have e2 : PySem.Str.ofString "# " = ⟨#[35, 32]⟩ := by decide
  have e3 : PySem.Str.ofString "" = ⟨#[]⟩ := by decide
  rw [e1, e2] at h
  rw [e3] at hy
  have hj := StrLaws.join_split ((⟨#[35, 32]⟩ : Str) ++ y) ⟨#[10]⟩
  have hf := StrLaws.split_free ((⟨#[35, 32]⟩ : Str) ++ y) 10
  rw [← h] at hj hf
  have hc : ((⟨#[35, 32]⟩ : Str) ++ y).cps.toList = 35 :: 32 :: y.cps.toList := by
    show (#[35, 32] ++ y.cps).toList = _
    simp
  have hne : y.cps.toList ≠ [] := by
    intro e
    have : y = ⟨#[]⟩ := by obtain ⟨c⟩ := y; simp at e; subst e; rfl
    subst this; simp at hy
  refine ⟨fun e => ?_, hf, ?_⟩
  · subst e
    have := congrArg (fun z : Str => z.cps.toList) hj
    simp only [hc] at this
    exact absurd this (by simp [Str.join, Str.empty])
  · rw [hj, hc, cmt, if_neg hne]
theorem rowsOf_one (w : Tok) : RowsOf [(⟨#[35]⟩, w)] (cmt []) := ⟨by simp, by simp, by simp [Str.join, cmt]⟩
theorem flat_take {α : Type} (f : α → List Nat) (l : List α) (j : Nat) : ((l.take j).flatMap f).length ≤ (l.flatMap f).length := by
  conv => rhs; rw [← List.take_append_drop j l]
  rw [List.flatMap_append, List.length_append]; omega
theorem RowsOf.flat {ps : List (Str × Tok)} {t : List Nat} (h : RowsOf ps t) (n : Nat) : (ps.flatMap fun p => rowFn n p.1.cps.toList) = ind (bl n) true (t ++ [10]) := by
  obtain ⟨h1, h2, h3⟩ := h
  rw [← h3, ← rows_ind n _ (by simpa using h1) h2, List.flatMap_map]
theorem ind_len' (sp : List Nat) : ∀ (l : List Nat) (fl : Bool), (ind sp fl l).length ≤ l.length * (sp.length + 1)
  | [], _ => Nat.le_of_eq (by simp [ind])
  | c :: r, fl => by
    have := ind_len' sp r (c == 10)
    simp only [ind, List.length_append, List.length_cons, Nat.add_mul]
    split <;> simp <;> omega
theorem oneDue_len (n : Nat) (e : En) (hn : n ≤ 28) (hl : e.text.length ≤ 31) : (oneDue n e).length ≤ 986 := by
  have h1 := ind_len' (bl n) (cmt (strip e.text) ++ [10]) true
  have h2 := strip_len e.text
  have h3 : (cmt (strip e.text)).length ≤ 33 := by
    unfold cmt
    split
    · simp
    · simp; omega
  have h4 : (bl n).length = n := by simp [bl]
  rw [h4] at h1
  have h5 : (cmt (strip e.text) ++ [10]).length ≤ 34 := by simp; omega
  exact Nat.le_trans h1 (Nat.le_trans (Nat.mul_le_mul h5 (show n + 1 ≤ 29 by omega)) (by decide))
theorem rowFn_len (n : Nat) (p : Str) : p.length ≤ (rowFn n p.cps.toList).length := by
  unfold rowFn
  have e : p.length = p.cps.toList.length := by rw [Array.length_toList]; rfl
  split
  · rename_i h; rw [e, h]; simp
  · simp [e]; omega
theorem inner_facts {d d2 : Str} {ps : List (Str × Tok)} {p : Str × Tok} {j n : Nat} (hp : ps[j]? = some p) (hd2 : d2.cps.toList = d.cps.toList ++ (ps.take j).flatMap (fun p => rowFn n p.1.cps.toList))
    (hb : ((ps.take (j + 1)).flatMap (fun p => rowFn n p.1.cps.toList)).length ≤ 986) :
    d2.length + p.1.length ≤ d.length + 986 ∧ d2.length + (rowFn n p.1.cps.toList).length ≤ d.length + 986 ∧ p.1.length ≤ 986 ∧ (ps.take (j + 1)).flatMap (fun p => rowFn n p.1.cps.toList) = (ps.take j).flatMap (fun p => rowFn n p.1.cps.toList) ++ rowFn n p.1.cps.toList := by
  have e : (ps.take (j + 1)).flatMap (fun p => rowFn n p.1.cps.toList) = (ps.take j).flatMap (fun p => rowFn n p.1.cps.toList) ++ rowFn n p.1.cps.toList := by
    rw [List.take_add_one, hp, List.flatMap_append]; simp
  have h1 := rowFn_len n p.1
  have h2 : d2.length = d.length + ((ps.take j).flatMap (fun p => rowFn n p.1.cps.toList)).length := by
    show d2.cps.size = d.cps.size + _
    rw [← Array.length_toList, ← Array.length_toList, hd2, List.length_append]
  rw [e, List.length_append] at hb
  exact ⟨by omega, by omega, by omega, e⟩
theorem nl_is : PySem.Str.ofString "\n" = ⟨#[10]⟩ := by decide
theorem nil_is : PySem.Str.ofString "" = ⟨#[]⟩ := by decide
theorem cat_list (a b : Str) : (a ++ b).cps.toList = a.cps.toList ++ b.cps.toList := by
  show (a.cps ++ b.cps).toList = _
  simp
theorem ne_nil {p : Str} (h : (p != PySem.Str.ofString "") = true) : p.cps.toList ≠ [] := by
  intro e
  rw [nil_is] at h
  have : p = ⟨#[]⟩ := by obtain ⟨c⟩ := p; simp at e; subst e; rfl
  subst this; simp at h
theorem row_add {d d2 p : Str} {fj : List Nat} {z : Int} (hd2 : d2.cps.toList = d.cps.toList ++ fj) (hz : 0 ≤ z) (hp : (p != PySem.Str.ofString "") = true) :
    (d2 ++ (Txt.mul (PySem.Str.ofString " ") (4 + z) ++ p) ++ PySem.Str.ofString "\n").cps.toList = d.cps.toList ++ (fj ++ rowFn (4 + z.toNat) p.cps.toList) := by
  rw [blanks _ (by omega), nl_is]
  simp only [cat_list, hd2, rowFn, if_neg (ne_nil hp), bl, show (4 + z).toNat = 4 + z.toNat by omega]
  simp
theorem row_add0 {d d2 p : Str} {fj : List Nat} {n : Nat} (hd2 : d2.cps.toList = d.cps.toList ++ fj) (hp : (p != PySem.Str.ofString "") = false) :
    (d2 ++ PySem.Str.ofString "" ++ PySem.Str.ofString "\n").cps.toList = d.cps.toList ++ (fj ++ rowFn n p.cps.toList) := by
  have := empty_of hp
  subst this
  rw [nl_is, nil_is]
  simp [cat_list, hd2, rowFn]
end Mine
-- Du
theorem Mine.rst_Du : True := by
  w_top off
  trivial
namespace Mine
theorem noexc {α : Type} {M : Model} {A : Around} {t : Sem α} {Q : α → Shared → Prop} {E : Value → Shared → Prop} {s : Shared} (h : wpAny M A t Q (fun _ _ => False) s) : wpAny M A t Q E s :=
  wpAny_mono h (fun _ _ x => x) fun _ _ x => x.elim
structure EnOk (e : En) : Prop where
  d0 : 0 ≤ e.depth
  d1 : e.depth ≤ 100
  s0 : 0 ≤ e.step
  s1 : e.step ≤ 4
  len : e.told.length + e.note.length ≤ 31
def DueJ (news : List (Addr × Obj)) (es : List En) (i : Nat) (m₁ : Str → Option Value) (news₁ : List (Addr × Obj)) : Prop :=
  (∀ p ∈ news, p ∈ news₁) ∧ ∃ (d : Str) (td : Tok) (S : Addr) (ws : List Value) (st : List Int) (k' : Nat), m₁ (PySem.Str.ofString "due") = some (.str d td) ∧ m₁ (PySem.Str.ofString "steps") = some (.ref S) ∧
    (S, W.listOf ws.toArray k') ∈ news₁ ∧ IntsAre ws st ∧ st.length ≤ i ∧ (∀ x ∈ st, 0 ≤ x ∧ x ≤ 4) ∧ d.length ≤ 2000 * i ∧ d.cps.toList ++ dueGo st (es.drop i) = dueGo [] es
theorem sum_steps (st : List Int) (h : ∀ x ∈ st, 0 ≤ x ∧ x ≤ 4) (hl : st.length ≤ 6) (n : Nat) : 0 ≤ (st.take n).sum ∧ (st.take n).sum ≤ 24 := by
  have go : ∀ l : List Int, (∀ x ∈ l, 0 ≤ x ∧ x ≤ 4) → 0 ≤ l.sum ∧ l.sum ≤ 4 * l.length := by
    intro l
    induction l with
    | nil => intro _; simp
    | cons a l ih =>
      intro h
      have h1 := h a (.head _)
      have h2 := ih fun x hx => h x (.tail _ hx)
      simp only [List.sum_cons, List.length_cons]
      omega
  have h1 := go (st.take n) fun x hx => h x (List.mem_of_mem_take hx)
  have h2 : (st.take n).length ≤ st.length := by simp; omega
  omega
theorem steps_ok {st : List Int} {x : Int} (h : ∀ x ∈ st, 0 ≤ x ∧ x ≤ 4) (hx : 0 ≤ x ∧ x ≤ 4) (n : Nat) : ∀ y ∈ st.take n ++ [x], 0 ≤ y ∧ y ≤ 4 := by
  intro y hy
  rcases List.mem_append.mp hy with h1 | h1
  · exact h y (List.mem_of_mem_take h1)
  · rw [List.mem_singleton.mp h1]; exact hx
theorem due_len {d d2 : Str} {o : List Nat} {i : Nat} (hd2 : d2.cps.toList = d.cps.toList ++ o) (ho : o.length ≤ 986) (h : d.length ≤ 2000 * i) : d2.length ≤ 2000 * (i + 1) := by
  have : d2.length = d.length + o.length := by
    show d2.cps.size = d.cps.size + _
    rw [← Array.length_toList, ← Array.length_toList, hd2, List.length_append]
  omega
theorem due_step {d d2 : Str} {e : En} {es : List En} {i : Nat} {st : List Int} (he : es[i]? = some e) (hd2 : d2.cps.toList = d.cps.toList ++ oneDue (4 + (st.take e.depth.toNat).sum.toNat) e)
    (hinv : d.cps.toList ++ dueGo st (es.drop i) = dueGo [] es) : d2.cps.toList ++ dueGo (st.take e.depth.toNat ++ [e.step]) (es.drop (i + 1)) = dueGo [] es := by
  obtain ⟨hlt, hget⟩ := List.getElem?_eq_some_iff.mp he
  rw [← hinv, List.drop_eq_getElem_cons hlt, hget, hd2, List.append_assoc]
  rfl
def Hold (P : Prop) : Prop := P
theorem hold {P : Prop} (h : Hold P) : P := h
local macro_rules | `(tactic| walk_at "exec For Tuple Name cons nil") => `(tactic| (k_here; k_dflt (refine For_led ?_)))
local macro_rules | `(tactic| walk_at "exec For Name Call cons nil") => `(tactic| (k_here; k_dflt (refine For_led ?_)))
local macro_rules | `(tactic| walk_at "exec While BoolOp cons nil") => `(tactic| (k_here; (refine hold ?_)))
local macro_rules | `(tactic| k_mem) => `(tactic| first | exact List.Mem.head _ | assumption | (refine' List.Mem.tail _ ?_; k_mem))
theorem due_call {w : World} {mean : ExcName → Option Value} {mg mb : Str → Option Value} {dp un : Nat} {gd : Option (List Code)} {cn : Str} {cs : Scope} {a : Addr} {ccd : Value} {cl : List (Str × Addr)} {outer : List Env} {A₀ : Around} {base h₀ : Heap} {L : Addr} {m : Str → Option Value} {news : List (Addr × Obj)} {s : Shared} {Q E : Value → Shared → Prop} (B : Below A₀ base outer h₀) (F : Fr h₀ L s.heap m) (X : Frag.In (Mine.hd.heap_39 w.params) h₀) (N : News h₀ L s.heap news) (T : Top Mine.hd.view_39 (looseW Mine.hd.view_39 [PySem.Str.ofString "_twin_re_1", PySem.Str.ofString "_indent", PySem.Str.ofString "UTC_ZONES", PySem.Str.ofString "TIMEZONE_RE", PySem.Str.ofString "_safe_string"]) mean mg mb h₀) (hk : cs.kind = .function) (hd : dp + 1 < recursionLimit) (hu : un + 8 < cLine)
    (l : Addr) (vs : List Value) (es : List En) (k : Nat) (hl : (l, W.listOf vs.toArray k) ∈ news) (hes : EnsIn news vs es) (hok : ∀ e ∈ es, EnOk e) (hn : es.length ≤ 6)
    (hret : ∀ (d : Str) t h' tk', d.cps.toList = dueGo [] es → Fr h₀ L h' m → News h₀ L h' news → Q (.str d t) { s with heap := h', toks := tk' }) :
    wpAny (model PySem.Challenge.rw_zn0001_01.row.prog w) (ktrTop dp un gd cn cs L a ccd cl outer) (call (.ref 105) [.ref l]) Q E s := by
  (revert X; k_fill; intro X)
  refine wpAny_call ?_
  (k_dflt (refine' code_def ?k1 ?k2 ?k3 ?k4 ?k5 ?kA ?kF ?kK ?k6 ?k7 ?k8 ?k9 ?kB ?_ ?c2 ?c3 ?c4 ?c5; (case kA => exact rfl); (case kF => exact rfl); (case kK => assumption); (case k1 => k_asm); (case k2 => k_asm); (case k3 => k_asm); (case k4 => k_asm); (case k5 => k_asm); (case k6 => k_is); (case k7 => k_is); (case k8 => ktr_room); (case k9 => first | exact BindsTo.of_eq rfl | exact binds_K (by k_in) rfl (by k_is) rfl rfl rfl); (case c5 => decide); (case kB => exact locs rfl); (case c2 => exact rfl); (case c3 => exact rfl); (case c4 => exact rfl); k_whole; intro g' L' h' FG' F' N' B' X' T'; (try dsimp only); (try k_lift B'); (try k_fold)))
  refine noexc ?_
  k_steps
  rename Fr _ _ _ _ => F9
  rename News _ _ _ _ => N9
  refine iter_led (DueJ news es) rfl F9 N9 (.tail _ hl) ⟨fun p hp => .tail _ hp, ⟨#[]⟩, _, _, [], [], _, rfl, rfl, .head _, IntsAre.nil, by simp, by simp, by decide, by simp⟩ (fun i m₁ news₁ h => h.1 _ hl) ?_ ?_
  · intro i v m₁ news₁ h tk I oI hv hJ F1 N1 hne
    obtain ⟨hsub, d, td, S, ws, st, k', hm1, hm2, hS, hI, hst, hst2, hdl, hinv⟩ := hJ
    obtain ⟨e, he, hin⟩ := hes.get i v hv
    have ok := hok e (List.mem_of_getElem? he)
    obtain ⟨hd0, hd1, hs0, hs1, hlen⟩ := ok
    have hin' := hin.mono hsub
    cases hin' with
    | @mk a e t1 t2 t3 t4 t5 nn ha =>
    have hi6 : i < 6 := by have h1 := (List.getElem?_eq_some_iff.mp he).1; omega
    replace F1 := fr_same F1 hm1
    replace F1 := fr_same F1 (x := PySem.Str.ofString "steps") (v := .ref S) (by rw [if_neg (by decide)]; exact hm2)
    clear F9 N9
    k_steps
    unfold Hold
    have hsum : 0 ≤ (st.take e.depth.toNat).sum ∧ (st.take e.depth.toNat).sum ≤ 24 := sum_steps st hst2 (by omega) _
    rename Fr _ _ _ _ => F9
    rename News _ _ _ _ => N9
    rename_i D9 ws9 _ hI9 _ _ l19 _ _ _ _ _
    refine while_str (x := PySem.Str.ofString "text") (fun n y => n = y.length ∧ strip y.cps.toList = strip e.text ∧ y.length ≤ 31) (fun y => y.cps.toList = strip e.text ∧ y.length ≤ 31) F9 N9 rfl ⟨rfl, by rw [show (e.told ++ e.note).cps = e.told.cps ++ e.note.cps from rfl, Array.toList_append]; rfl, by simp [Str.length_append]; omega⟩ ?_ ?_
    · rintro n y ty h5 tk5 ⟨rfl, hy1, hy2⟩ F5 N5
      clear F9 N9
      k_steps
      · exact ⟨_, _, _, _, _, rfl, by assumption, by assumption, rfl, fun z hz => by simp only [if_neg hz], strip_out hy1 (by assumption) (by assumption), hy2⟩
      · have ht := strip_turn hy1 (by assumption) (by assumption)
        exact ⟨rfl, _, _, _, _, _, _, rfl, by assumption, by assumption, rfl, fun z hz => by simp only [if_neg hz], ht.1, rfl, ht.2, by omega⟩
      · exact ⟨_, _, _, _, _, rfl, by assumption, by assumption, rfl, fun z hz => by simp only [if_neg hz], strip_out0 hy1 (by assumption), hy2⟩
    · rintro y ty h5 tk5 ⟨hy1, hy2⟩ F5 N5
      clear F9 N9
      have hone := oneDue_len (4 + (st.take e.depth.toNat).sum.toNat) e (by omega) (by simp [En.text, Str.length] at hlen ⊢; omega)
      k_steps
      · rename List (Str × Tok) => ps9
        rename (List.map _ _ = Txt.split _ _) => hsp
        have hR := rowsOf_split hsp (by assumption)
        rw [hy1] at hR
        rename Fr _ _ _ _ => F9
        rename News _ _ _ _ => N9
        refine iter_fix (vs := strValues ps9) (k := 0) (fun j m₂ => ∃ (d2 : Str) (td2 : Tok), m₂ (PySem.Str.ofString "due") = some (.str d2 td2) ∧ m₂ (PySem.Str.ofString "steps") = some (.ref D9) ∧ m₂ (PySem.Str.ofString "step") = some (.int e.step t2) ∧ d2.cps.toList = d.cps.toList ++ (ps9.take j).flatMap (fun p => rowFn (4 + (st.take e.depth.toNat).sum.toNat) p.1.cps.toList)) rfl F9 N9 (.head _) ⟨d, td, rfl, rfl, rfl, by simp⟩ ?_ ?_
        · rintro j v m₂ h6 tk6 I2 oI2 hv ⟨d2, td2, g1, g2, g3, hd2⟩ F6 N6 hne2
          obtain ⟨p, hp, rfl⟩ : ∃ p, ps9[j]? = some p ∧ v = .str p.1 p.2 := by
            simp only [strValues, List.getElem?_map, Option.map_eq_some_iff] at hv
            obtain ⟨p, hp, e⟩ := hv
            exact ⟨p, hp, e.symm⟩
          have hb := flat_take (fun p : Str × Tok => rowFn (4 + (st.take e.depth.toNat).sum.toNat) p.1.cps.toList) ps9 (j + 1)
          rw [hR.flat] at hb
          have hf9 := inner_facts hp hd2 (Nat.le_trans hb hone)
          obtain ⟨hf1, hf2, hf3, hf4⟩ := hf9
          replace F6 := fr_same F6 g1
          replace F6 := fr_same F6 (x := PySem.Str.ofString "steps") (v := .ref D9) (by rw [if_neg (by decide)]; exact g2)
          clear F9 N9
          k_steps
          · rename Fr _ _ _ _ => F8
            rename News _ _ _ _ => N8
            exact TurnFix.intro F8 N8 (fun _ hp => hp) ⟨_, _, rfl, rfl, g3, by rw [hf4]; exact row_add hd2 hsum.1 (by assumption)⟩
          · rename Fr _ _ _ _ => F8
            rename News _ _ _ _ => N8
            exact TurnFix.intro F8 N8 (fun _ hp => hp) ⟨_, _, rfl, rfl, g3, by rw [hf4]; exact row_add0 hd2 (by assumption)⟩
        · rintro m₂ h6 tk6 ⟨d2, td2, g1, g2, g3, hd2⟩ F6 N6
          replace F6 := fr_same F6 g1
          replace F6 := fr_same F6 (x := PySem.Str.ofString "steps") (v := .ref D9) (by rw [if_neg (by decide)]; exact g2)
          replace F6 := fr_same F6 (x := PySem.Str.ofString "step") (v := .int e.step t2) (by rw [if_neg (by decide), if_neg (by decide)]; exact g3)
          clear F9 N9
          k_steps
          rename Fr _ _ _ _ => F8
          rename News _ _ _ _ => N8
          rename_i D8 ws8 _ _ _ hI8 l18 _
          refine TurnOk.intro (news' := (D8, W.listOf ws8.toArray 0) :: news₁) F8 N8 ?_ ?_ ?_
          · intro p hp
            simp only [List.mem_cons] at hp ⊢
            rcases hp with h | h | h <;> simp only [h, true_or, or_true]
          · intro p hp
            rcases List.mem_cons.mp hp with h | h
            · subst h; exact Nat.ne_of_gt l18.2.2.2.1
            · exact hne p h
          · have hfull := hR.flat (4 + (st.take e.depth.toNat).sum.toNat)
            rw [show List.take (strValues ps9).length ps9 = ps9 from List.take_of_length_le (by simp [strValues]), hfull] at hd2
            exact ⟨fun p hp => .tail _ (hsub p hp), d2, td2, D8, ws8, _, 0, rfl, rfl, .head _, hI8, by simp; omega, steps_ok hst2 ⟨hs0, hs1⟩ _, due_len hd2 hone hdl, due_step he hd2 hinv⟩
      · rename Fr _ _ _ _ => F9
        rename News _ _ _ _ => N9
        first | (rename_i tw; have chk := N9 (_, W.listOf (strValues [((⟨#[35]⟩ : Str), tw)]).toArray 0) (.head _); clear chk) | (rename_i tw _; have chk := N9 (_, W.listOf (strValues [((⟨#[35]⟩ : Str), tw)]).toArray 0) (.head _); clear chk) | (rename_i tw _ _; have chk := N9 (_, W.listOf (strValues [((⟨#[35]⟩ : Str), tw)]).toArray 0) (.head _); clear chk) | (rename_i tw _ _ _; have chk := N9 (_, W.listOf (strValues [((⟨#[35]⟩ : Str), tw)]).toArray 0) (.head _); clear chk) | (rename_i tw _ _ _ _; have chk := N9 (_, W.listOf (strValues [((⟨#[35]⟩ : Str), tw)]).toArray 0) (.head _); clear chk) | (rename_i tw _ _ _ _ _; have chk := N9 (_, W.listOf (strValues [((⟨#[35]⟩ : Str), tw)]).toArray 0) (.head _); clear chk) | (rename_i tw _ _ _ _ _ _; have chk := N9 (_, W.listOf (strValues [((⟨#[35]⟩ : Str), tw)]).toArray 0) (.head _); clear chk) | (rename_i tw _ _ _ _ _ _ _; have chk := N9 (_, W.listOf (strValues [((⟨#[35]⟩ : Str), tw)]).toArray 0) (.head _); clear chk) | (rename_i tw _ _ _ _ _ _ _ _; have chk := N9 (_, W.listOf (strValues [((⟨#[35]⟩ : Str), tw)]).toArray 0) (.head _); clear chk) | (rename_i tw _ _ _ _ _ _ _ _ _; have chk := N9 (_, W.listOf (strValues [((⟨#[35]⟩ : Str), tw)]).toArray 0) (.head _); clear chk) | (rename_i tw _ _ _ _ _ _ _ _ _ _; have chk := N9 (_, W.listOf (strValues [((⟨#[35]⟩ : Str), tw)]).toArray 0) (.head _); clear chk) | (rename_i tw _ _ _ _ _ _ _ _ _ _ _; have chk := N9 (_, W.listOf (strValues [((⟨#[35]⟩ : Str), tw)]).toArray 0) (.head _); clear chk) | (rename_i tw _ _ _ _ _ _ _ _ _ _ _ _; have chk := N9 (_, W.listOf (strValues [((⟨#[35]⟩ : Str), tw)]).toArray 0) (.head _); clear chk) | (rename_i tw _ _ _ _ _ _ _ _ _ _ _ _ _; have chk := N9 (_, W.listOf (strValues [((⟨#[35]⟩ : Str), tw)]).toArray 0) (.head _); clear chk)
        have hR : RowsOf [((⟨#[35]⟩ : Str), tw)] (cmt (strip e.text)) := by
          rw [← hy1, show y = ⟨#[]⟩ from empty_of (by assumption)]; exact rowsOf_one _
        refine iter_fix (vs := strValues [((⟨#[35]⟩ : Str), tw)]) (k := 0) (fun j m₂ => ∃ (d2 : Str) (td2 : Tok), m₂ (PySem.Str.ofString "due") = some (.str d2 td2) ∧ m₂ (PySem.Str.ofString "steps") = some (.ref D9) ∧ m₂ (PySem.Str.ofString "step") = some (.int e.step t2) ∧ d2.cps.toList = d.cps.toList ++ ([((⟨#[35]⟩ : Str), tw)].take j).flatMap (fun p => rowFn (4 + (st.take e.depth.toNat).sum.toNat) p.1.cps.toList)) rfl F9 N9 (.head _) ⟨d, td, rfl, rfl, rfl, by simp⟩ ?_ ?_
        · rintro j v m₂ h6 tk6 I2 oI2 hv ⟨d2, td2, g1, g2, g3, hd2⟩ F6 N6 hne2
          obtain ⟨p, hp, rfl⟩ : ∃ p, [((⟨#[35]⟩ : Str), tw)][j]? = some p ∧ v = .str p.1 p.2 := by
            simp only [strValues, List.getElem?_map, Option.map_eq_some_iff] at hv
            obtain ⟨p, hp, e⟩ := hv
            exact ⟨p, hp, e.symm⟩
          have hb := flat_take (fun p : Str × Tok => rowFn (4 + (st.take e.depth.toNat).sum.toNat) p.1.cps.toList) [((⟨#[35]⟩ : Str), tw)] (j + 1)
          rw [hR.flat] at hb
          have hf9 := inner_facts hp hd2 (Nat.le_trans hb hone)
          obtain ⟨hf1, hf2, hf3, hf4⟩ := hf9
          replace F6 := fr_same F6 g1
          replace F6 := fr_same F6 (x := PySem.Str.ofString "steps") (v := .ref D9) (by rw [if_neg (by decide)]; exact g2)
          clear F9 N9
          k_steps
          · rename Fr _ _ _ _ => F8
            rename News _ _ _ _ => N8
            exact TurnFix.intro F8 N8 (fun _ hp => hp) ⟨_, _, rfl, rfl, g3, by rw [hf4]; exact row_add hd2 hsum.1 (by assumption)⟩
          · rename Fr _ _ _ _ => F8
            rename News _ _ _ _ => N8
            exact TurnFix.intro F8 N8 (fun _ hp => hp) ⟨_, _, rfl, rfl, g3, by rw [hf4]; exact row_add0 hd2 (by assumption)⟩
        · rintro m₂ h6 tk6 ⟨d2, td2, g1, g2, g3, hd2⟩ F6 N6
          replace F6 := fr_same F6 g1
          replace F6 := fr_same F6 (x := PySem.Str.ofString "steps") (v := .ref D9) (by rw [if_neg (by decide)]; exact g2)
          replace F6 := fr_same F6 (x := PySem.Str.ofString "step") (v := .int e.step t2) (by rw [if_neg (by decide), if_neg (by decide)]; exact g3)
          clear F9 N9
          k_steps
          rename Fr _ _ _ _ => F8
          rename News _ _ _ _ => N8
          rename_i D8 ws8 _ _ _ hI8 l18 _
          refine TurnOk.intro (news' := (D8, W.listOf ws8.toArray 0) :: news₁) F8 N8 ?_ ?_ ?_
          · intro p hp
            simp only [List.mem_cons] at hp ⊢
            rcases hp with h | h | h <;> simp only [h, true_or, or_true]
          · intro p hp
            rcases List.mem_cons.mp hp with h | h
            · subst h; exact Nat.ne_of_gt l18.2.2.2.1
            · exact hne p h
          · have hfull := hR.flat (4 + (st.take e.depth.toNat).sum.toNat)
            rw [show List.take (strValues [((⟨#[35]⟩ : Str), tw)]).length [((⟨#[35]⟩ : Str), tw)] = [((⟨#[35]⟩ : Str), tw)] from List.take_of_length_le (by simp [strValues]), hfull] at hd2
            exact ⟨fun p hp => .tail _ (hsub p hp), d2, td2, D8, ws8, _, 0, rfl, rfl, .head _, hI8, by simp; omega, steps_ok hst2 ⟨hs0, hs1⟩ _, due_len hd2 hone hdl, due_step he hd2 hinv⟩
  · rintro m₁ news₁ h tk ⟨hsub, d, td, S, ws, st, k', hm1, hm2, hS, hI, hst, hst2, hdl, hinv⟩ F1 N1
    replace F1 := fr_same F1 hm1
    clear F9 N9
    have hd9 : d.cps.toList = dueGo [] es := by
      rw [← hinv, List.drop_eq_nil_of_le (by rw [hes.length]; exact Nat.le_refl _)]
      simp [dueGo]
    k_steps
    rename News _ _ _ _ => N8
    exact hret d _ _ _ hd9 (by assumption) (cb_drop N8 hsub)
end Mine
-- Tz8
theorem Mine.rst_Tz8 : True := by
  w_top off
  trivial
namespace Mine
open PySem.NumText (digitsVal AllDigits)
open PySem.Builtin.Re
structure Zn (sg hs ms : List Nat) : Prop where
  s : sg ∈ [[], [43], [45]]
  h : hs.length = 1 ∨ hs.length = 2
  hd : ∀ x ∈ hs, Dig x
  m : ms.length = 0 ∨ ms.length = 2
  md : ∀ x ∈ ms, Dig x
theorem zt_head {sg hs ms : List Nat} (Z : Zn sg hs ms) (c nl : Bool) : ∃ a r, zt sg hs c ms nl = a :: r ∧ a ≤ 57 := by
  have h := Z.s
  simp only [List.mem_cons, List.not_mem_nil, or_false] at h
  rcases h with rfl | rfl | rfl
  · match hs, Z.h, Z.hd with
    | a :: r, _, h => exact ⟨a, _, rfl, (h a (.head _)).2⟩
    | [], h, _ => simp at h
  · exact ⟨43, _, rfl, by decide⟩
  · exact ⟨45, _, rfl, by decide⟩
theorem zt_not {sg hs ms : List Nat} (Z : Zn sg hs ms) {c nl : Bool} {k : Nat} {l : List Nat} (hk : 57 < k) : (⟨(zt sg hs c ms nl).toArray⟩ : Str) ≠ ⟨(k :: l).toArray⟩ := by
  obtain ⟨a, r, e, ha⟩ := zt_head Z c nl
  rw [e]
  intro h
  have h := congrArg (fun s : Str => s.cps.toList) h
  simp at h
  omega
theorem zt_len {sg hs ms : List Nat} (Z : Zn sg hs ms) (c nl : Bool) : (zt sg hs c ms nl).length ≤ 10 := by
  have h1 : sg.length ≤ 1 := by
    have h := Z.s
    simp only [List.mem_cons, List.not_mem_nil, or_false] at h
    rcases h with rfl | rfl | rfl <;> simp
  have h2 := Z.h
  have h3 := Z.m
  unfold zt
  simp only [List.length_append]
  have h4 : (if c = true then [58] else []).length ≤ 1 := by split <;> simp
  have h5 : (if nl = true then [10] else []).length ≤ 1 := by split <;> simp
  omega
theorem ext_mid (a b c : List Nat) : (a ++ (b ++ c)).toArray.extract a.length (a.length + b.length) = b.toArray := by
  simp
def secs (hs ms : List Nat) : Nat := 3600 * digitsVal hs + 60 * digitsVal ms
def offOf (sg hs ms : List Nat) : Int := if sg = [45] then -((secs hs ms : Nat) : Int) else ((secs hs ms : Nat) : Int)
theorem digs_lt {l : List Nat} (h : ∀ x ∈ l, Dig x) (hl : l.length ≤ 2) : digitsVal l < 100 := by
  match l, hl, h with
  | [], _, _ => decide
  | [a], _, h => have := (h a (by simp)).2; show 0 * 10 + (a - 48) < 100; omega
  | [a, b], _, h => have := (h a (by simp)).2; have := (h b (by simp)).2; show (0 * 10 + (a - 48)) * 10 + (b - 48) < 100; omega
section
variable {w : World} {A : Around} {E : Value → Shared → Prop} {s : Shared} {a tp : Addr} {sg hs ms : List Nat} {c nl : Bool} {t tg : Tok} {n st hd : Nat} {li : Int} {Q : Value → Shared → Prop}
theorem zsp_len : (zsp sg hs c ms).length = 6 := by
  unfold zsp
  dsimp only
  split <;> split <;> rfl
theorem group1 (Z : Zn sg hs ms) (ho : s.heap.get? a = some (matchObj ⟨(zt sg hs c ms nl).toArray⟩ t n li tp)) (ht : s.heap.get? tp = some (spanObj st hd (zsp sg hs c ms)))
    (hret : ∀ (v : Value) (tk' : Nat), ((sg = [] ∧ v = .none) ∨ (sg ≠ [] ∧ ∃ t', v = .str ⟨sg.toArray⟩ t')) → Q v { s with toks := tk' }) :
    wpAny (model PySem.Challenge.rw_zn0001_01.row.prog w) A (call (.builtin "re.Match.group") [.ref a, .int 1 tg]) Q E s := by
  have hx : (⟨(zt sg hs c ms nl).toArray⟩ : Str).length ≤ 200000 := by have := zt_len Z c nl; simp [Str.length]; omega
  by_cases h : sg = []
  · refine call_group (g := 1) ho ht hx (by decide) zsp_len (-1) (-1) ?_ ?_ (fun v tk' hv => ?_) (.inl (by decide))
    · simp [zsp, h]
    · simp [zsp, h]
    · rcases hv with ⟨_, rfl⟩ | ⟨hv, _⟩
      · exact hret _ _ (.inl ⟨h, rfl⟩)
      · exact absurd hv (by decide)
  · have h1 : sg.length = 1 := by
      have h2 := Z.s
      simp only [List.mem_cons, List.not_mem_nil, or_false] at h2
      rcases h2 with rfl | rfl | rfl
      · exact absurd rfl h
      · rfl
      · rfl
    refine call_group (g := 1) ho ht hx (by decide) zsp_len 0 1 ?_ ?_ (fun v tk' hv => ?_) (.inr (by decide))
    · simp [zsp, h]
    · simp [zsp, h]
    · rcases hv with ⟨hv, _⟩ | ⟨_, t', rfl⟩
      · exact absurd hv (by decide)
      · refine hret _ _ (.inr ⟨h, t', ?_⟩)
        have e : (zt sg hs c ms nl).toArray.extract 0 1 = sg.toArray := by
          have := ext_mid [] sg (hs ++ ((if c then [58] else []) ++ (ms ++ if nl then [10] else [])))
          rw [h1] at this
          exact this
        exact congrArg (fun q => Value.str ⟨q⟩ t') e
theorem group2 (Z : Zn sg hs ms) (ho : s.heap.get? a = some (matchObj ⟨(zt sg hs c ms nl).toArray⟩ t n li tp)) (ht : s.heap.get? tp = some (spanObj st hd (zsp sg hs c ms)))
    (hret : ∀ (tk' : Nat) (t' : Tok), Q (.str ⟨hs.toArray⟩ t') { s with toks := tk' }) :
    wpAny (model PySem.Challenge.rw_zn0001_01.row.prog w) A (call (.builtin "re.Match.group") [.ref a, .int 2 tg]) Q E s := by
  have hx : (⟨(zt sg hs c ms nl).toArray⟩ : Str).length ≤ 200000 := by have := zt_len Z c nl; simp [Str.length]; omega
  refine call_group (g := 2) ho ht hx (by decide) zsp_len (sg.length : Int) ((sg.length : Int) + hs.length) ?_ ?_ (fun v tk' hv => ?_) (.inr (by omega))
  · unfold zsp
    dsimp only
    split <;> simp
  · unfold zsp
    dsimp only
    split <;> simp
  · rcases hv with ⟨hv, _⟩ | ⟨_, t', rfl⟩
    · omega
    · have e : (zt sg hs c ms nl).toArray.extract sg.length (sg.length + hs.length) = hs.toArray := ext_mid sg hs ((if c then [58] else []) ++ (ms ++ if nl then [10] else []))
      have := hret tk' t'
      rw [← e] at this
      exact this
theorem group3 (Z : Zn sg hs ms) (ho : s.heap.get? a = some (matchObj ⟨(zt sg hs c ms nl).toArray⟩ t n li tp)) (ht : s.heap.get? tp = some (spanObj st hd (zsp sg hs c ms)))
    (hret : ∀ (v : Value) (tk' : Nat), ((ms = [] ∧ v = .none) ∨ (ms ≠ [] ∧ ∃ t', v = .str ⟨ms.toArray⟩ t')) → Q v { s with toks := tk' }) :
    wpAny (model PySem.Challenge.rw_zn0001_01.row.prog w) A (call (.builtin "re.Match.group") [.ref a, .int 3 tg]) Q E s := by
  have hx : (⟨(zt sg hs c ms nl).toArray⟩ : Str).length ≤ 200000 := by have := zt_len Z c nl; simp [Str.length]; omega
  by_cases h : ms = []
  · refine call_group (g := 3) ho ht hx (by decide) zsp_len (-1) (-1) ?_ ?_ (fun v tk' hv => ?_) (.inl (by decide))
    · unfold zsp; dsimp only; split <;> simp
    · unfold zsp; dsimp only; split <;> simp
    · rcases hv with ⟨_, rfl⟩ | ⟨hv, _⟩
      · exact hret _ _ (.inl ⟨h, rfl⟩)
      · exact absurd hv (by decide)
  · have h1 : ms.length = 2 := by
      rcases Z.m with h2 | h2
      · exact absurd (List.length_eq_zero_iff.mp h2) h
      · exact h2
    have e : (zt sg hs c ms nl).toArray.extract (sg.length + hs.length + (if c then 1 else 0)) (sg.length + hs.length + (if c then 1 else 0) + 2) = ms.toArray := by
      have := ext_mid (sg ++ (hs ++ if c then [58] else [])) ms (if nl then [10] else [])
      rw [h1] at this
      cases c <;> simp [zt, ← Nat.add_assoc] at this ⊢ <;> exact this
    refine call_group (g := 3) ho ht hx (by decide) zsp_len ((sg.length + hs.length + (if c then 1 else 0) : Nat) : Int) ((sg.length + hs.length + (if c then 1 else 0) + 2 : Nat) : Int) ?_ ?_ (fun v tk' hv => ?_) (.inr (by omega))
    · unfold zsp; dsimp only; rw [if_neg h]; cases c <;> split <;> simp
    · unfold zsp; dsimp only; rw [if_neg h]; cases c <;> split <;> simp
    · rcases hv with ⟨hv, _⟩ | ⟨_, t', rfl⟩
      · omega
      · refine hret _ _ (.inr ⟨h, t', ?_⟩)
        exact congrArg (fun q => Value.str ⟨q⟩ t') e
end
end Mine
-- Tz9
theorem Mine.rst_Tz9 : True := by
  w_top off
  trivial
namespace Mine
open PySem.NumText (digitsVal AllDigits)
open PySem.Builtin.Re
local macro_rules | `(tactic| k_mem) => `(tactic| first | exact List.Mem.head _ | assumption | (refine' List.Mem.tail _ ?_; k_mem))
local macro_rules | `(tactic| walk_at "getMethod ref") => `(tactic| (k_here; first | (refine' getMethod_search (w := _) ?X ?_; (case X => k_in)) | (k_dflt (refine' getMethod_group ?o ?c ?d ?_; (case o => exact News.get (by assumption) (by k_mem)); (case c => exact rfl); (case d => exact rfl); k_whole))))
local macro_rules | `(tactic| walk_at "truthy ref") => `(tactic| (k_here; k_dflt (refine' truthy_match ?o ?c ?_; (case o => exact News.get (by assumption) (by k_mem)); (case c => exact rfl); k_whole)))
theorem or4 {a b c d : Bool} (h : (a || (b || (c || (d || false)))) = true) : a = true ∨ b = true ∨ c = true ∨ d = true := by
  cases a <;> cases b <;> cases c <;> cases d <;> first | (simp; done) | cases h
theorem not_utc {sg hs ms : List Nat} (Z : Zn sg hs ms) {c nl : Bool} (h : (decide ((⟨(zt sg hs c ms nl).toArray⟩ : Str) = ⟨#[71, 77, 84]⟩) || (decide ((⟨(zt sg hs c ms nl).toArray⟩ : Str) = ⟨#[85, 84, 67]⟩) || (decide ((⟨(zt sg hs c ms nl).toArray⟩ : Str) = ⟨#[85, 84]⟩) || (decide ((⟨(zt sg hs c ms nl).toArray⟩ : Str) = ⟨#[90]⟩) || false)))) = true) : False := by
  rcases or4 h with h | h | h | h
  · exact zt_not Z (by decide : 57 < 71) (of_decide_eq_true h)
  · exact zt_not Z (by decide : 57 < 85) (of_decide_eq_true h)
  · exact zt_not Z (by decide : 57 < 85) (of_decide_eq_true h)
  · exact zt_not Z (by decide : 57 < 90) (of_decide_eq_true h)
theorem tl2 {h₀ h : Heap} {L : Addr} {x y : Addr × Obj} {news : List (Addr × Obj)} (N : News h₀ L h (x :: y :: news)) : News h₀ L h news := fun p hp => N p (.tail _ (.tail _ hp))
theorem int_digs {l : List Nat} (h1 : 1 ≤ l.length) (h2 : l.length ≤ 2) (h : ∀ x ∈ l, Dig x) : PySem.intText? ⟨l.toArray⟩ = some ((digitsVal l : Nat) : Int) := by
  have := PySem.intText_digits (x := ⟨l.toArray⟩) (by intro c hc; exact h c (by simpa using hc)) (by intro e; rw [show l = [] by simpa using e] at h1; simp at h1) (by simp [Str.length]; omega)
  simpa using this
theorem off_zone {w : World} {mean : ExcName → Option Value} {mg mb : Str → Option Value} {dp un : Nat} {gd : Option (List Code)} {cn : Str} {cs : Scope} {a : Addr} {ccd : Value} {cl : List (Str × Addr)} {outer : List Env} {A₀ : Around} {base h₀ : Heap} {L : Addr} {m : Str → Option Value} {news : List (Addr × Obj)} {s : Shared} {Q E : Value → Shared → Prop} (B : Below A₀ base outer h₀) (F : Fr h₀ L s.heap m) (X : Frag.In (Mine.hd.heap_39 w.params) h₀) (N : News h₀ L s.heap news) (T : Top Mine.hd.view_39 (looseW Mine.hd.view_39 [PySem.Str.ofString "_twin_re_1", PySem.Str.ofString "_indent", PySem.Str.ofString "UTC_ZONES", PySem.Str.ofString "TIMEZONE_RE", PySem.Str.ofString "_safe_string"]) mean mg mb h₀) (hk : cs.kind = .function) (hd : dp + 1 < recursionLimit) (hu : un + 8 < cLine) {sg hs ms : List Nat} (Z : Zn sg hs ms) (c nl : Bool) (x : Str) (hxe : x = ⟨(zt sg hs c ms nl).toArray⟩) (t : Tok)
    (hret : ∀ t' h' tk', Fr h₀ L h' m → News h₀ L h' news → Q (.int (offOf sg hs ms) t') { s with heap := h', toks := tk' }) :
    wpAny (model PySem.Challenge.rw_zn0001_01.row.prog w) (ktrTop dp un gd cn cs L a ccd cl outer) (call (.ref 64) [.str x t]) Q E s := by
  have hzl := zt_len Z c nl
  have hx : x.length ≤ 10 := by rw [hxe]; simpa [Str.length] using hzl
  obtain ⟨m', hrun, ho, hsp, hb⟩ := zone_runs (c := c) (nl := nl) Z.s Z.h Z.hd Z.m Z.md
  (revert X; k_fill; intro X)
  refine wpAny_call ?_
  (k_dflt (refine' code_def ?k1 ?k2 ?k3 ?k4 ?k5 ?kA ?kF ?kK ?k6 ?k7 ?k8 ?k9 ?kB ?_ ?c2 ?c3 ?c4 ?c5; (case kA => exact rfl); (case kF => exact rfl); (case kK => assumption); (case k1 => k_asm); (case k2 => k_asm); (case k3 => k_asm); (case k4 => k_asm); (case k5 => k_asm); (case k6 => k_is); (case k7 => k_is); (case k8 => ktr_room); (case k9 => first | exact BindsTo.of_eq rfl | exact binds_K (by k_in) rfl (by k_is) rfl rfl rfl); (case c5 => decide); (case kB => exact locs rfl); (case c2 => exact rfl); (case c3 => exact rfl); (case c4 => exact rfl); k_whole; intro g' L' h' FG' F' N' B' X' T'; (try dsimp only); (try k_lift B'); (try k_fold)))
  refine noexc ?_
  k_steps
  · exfalso
    rename (_ || _) = true => h
    rw [hxe] at h
    exact not_utc Z h
  · rename Fr _ _ _ _ => F9
    rename News _ _ _ _ => N9
    refine search_hit F9 X' N9 (by omega) (by rw [hxe]; simpa using hrun) ho hsp hb fun a1 tp1 st1 hd1 li1 h1 F1 N1 => ?_
    clear F9 N9
    subst hxe
    k_steps
    rename News _ _ _ _ => N5
    refine group2 Z (News.get N5 (.head _)) (News.get N5 (.tail _ (.head _))) fun tk2 t2 => ?_
    k_steps
    have hh2 := Z.h
    have hm2 := Z.m
    refine KIN.call_text (int_digs (by omega) (by omega) Z.hd) (by simp [Str.length]; omega) ?_
    have hH := digs_lt Z.hd (by omega)
    have hM := digs_lt Z.md (by omega)
    have fin : ∀ (v : Int) t' h' tk', v = offOf sg hs ms → Fr h₀ L h' m → News h₀ L h' news → Q (.int v t') { s with heap := h', toks := tk' } := by
      rintro _ _ _ _ rfl F N; exact hret _ _ _ F N
    unfold offOf secs at fin
    generalize digitsVal hs = H at *
    k_steps
    rename News _ _ _ _ => N5
    refine group3 Z (News.get N5 (.head _)) (News.get N5 (.tail _ (.head _))) fun v3 tk3 hv3 => ?_
    rcases hv3 with ⟨hm3, rfl⟩ | ⟨hm3, t3, rfl⟩
    · rw [hm3] at fin
      k_steps
      rename News _ _ _ _ => N5
      refine group1 Z (News.get N5 (.head _)) (News.get N5 (.tail _ (.head _))) fun v1 tk1 hv1 => ?_
      have hs := Z.s
      simp only [List.mem_cons, List.not_mem_nil, or_false] at hs
      rcases hv1 with ⟨hs3, rfl⟩ | ⟨hs3, t1, rfl⟩
      · k_steps
        exact fin _ _ _ _ (by rw [hs3, if_neg (by decide)]; simp [digitsVal]) (by assumption) (tl2 (by assumption))
      · rcases hs with rfl | rfl | rfl
        · exact absurd rfl hs3
        · k_steps
          exact fin _ _ _ _ (by rw [if_neg (by decide)]; simp [digitsVal]) (by assumption) (tl2 (by assumption))
        · k_steps
          exact fin _ _ _ _ (by rw [if_pos rfl]; simp [digitsVal]) (by assumption) (tl2 (by assumption))
    · have hm4 : ms.length = 2 := hm2.resolve_left fun e => hm3 (List.length_eq_zero_iff.mp e)
      k_steps
      rotate_left
      · exfalso; omega
      rename News _ _ _ _ => N5
      refine group3 Z (News.get N5 (.head _)) (News.get N5 (.tail _ (.head _))) fun v3 tk3 hv3 => ?_
      have hv4 := hv3.resolve_left fun e => hm3 e.1
      obtain ⟨_, t4, rfl⟩ := hv4
      k_steps
      refine KIN.call_text (int_digs (by omega) (by omega) Z.md) (by simp [Str.length]; omega) ?_
      generalize digitsVal ms = M at *
      k_steps
      rename News _ _ _ _ => N5
      refine group1 Z (News.get N5 (.head _)) (News.get N5 (.tail _ (.head _))) fun v1 tk1 hv1 => ?_
      have hs := Z.s
      simp only [List.mem_cons, List.not_mem_nil, or_false] at hs
      rcases hv1 with ⟨hs3, rfl⟩ | ⟨hs3, t1, rfl⟩
      · k_steps
        exact fin _ _ _ _ (by rw [hs3, if_neg (by decide)]; omega) (by assumption) (tl2 (by assumption))
      · rcases hs with rfl | rfl | rfl
        · exact absurd rfl hs3
        · k_steps
          exact fin _ _ _ _ (by rw [if_neg (by decide)]; omega) (by assumption) (tl2 (by assumption))
        · k_steps
          exact fin _ _ _ _ (by rw [if_pos rfl]; omega) (by assumption) (tl2 (by assumption))
end Mine
-- Tz10
theorem Mine.rst_Tz10 : True := by
  w_top off
  trivial
namespace Mine
open PySem.Builtin.Re
local macro_rules | `(tactic| k_mem) => `(tactic| first | exact List.Mem.head _ | assumption | (refine' List.Mem.tail _ ?_; k_mem))
local macro_rules | `(tactic| walk_at "getMethod ref") => `(tactic| (k_here; (refine' getMethod_search (w := _) ?X ?_; (case X => k_in))))
def utcs : List Str := [⟨#[71, 77, 84]⟩, ⟨#[85, 84, 67]⟩, ⟨#[85, 84]⟩, ⟨#[90]⟩]
theorem utcs_or {x : Str} (hx : x ∈ utcs) (h : (decide (x = ⟨#[71, 77, 84]⟩) || (decide (x = ⟨#[85, 84, 67]⟩) || (decide (x = ⟨#[85, 84]⟩) || (decide (x = ⟨#[90]⟩) || false)))) = false) : False := by
  unfold utcs at hx
  simp only [List.mem_cons, List.not_mem_nil, or_false] at hx
  rcases hx with rfl | rfl | rfl | rfl <;> exact absurd h (by decide)
theorem off_utc {w : World} {mean : ExcName → Option Value} {mg mb : Str → Option Value} {dp un : Nat} {gd : Option (List Code)} {cn : Str} {cs : Scope} {a : Addr} {ccd : Value} {cl : List (Str × Addr)} {outer : List Env} {A₀ : Around} {base h₀ : Heap} {L : Addr} {m : Str → Option Value} {news : List (Addr × Obj)} {s : Shared} {Q E : Value → Shared → Prop} (B : Below A₀ base outer h₀) (F : Fr h₀ L s.heap m) (X : Frag.In (Mine.hd.heap_39 w.params) h₀) (N : News h₀ L s.heap news) (T : Top Mine.hd.view_39 (looseW Mine.hd.view_39 [PySem.Str.ofString "_twin_re_1", PySem.Str.ofString "_indent", PySem.Str.ofString "UTC_ZONES", PySem.Str.ofString "TIMEZONE_RE", PySem.Str.ofString "_safe_string"]) mean mg mb h₀) (hk : cs.kind = .function) (hd : dp + 1 < recursionLimit) (hu : un + 8 < cLine) (x : Str) (hxe : x ∈ utcs) (t : Tok)
    (hret : ∀ t' h' tk', Fr h₀ L h' m → News h₀ L h' news → Q (.int 0 t') { s with heap := h', toks := tk' }) :
    wpAny (model PySem.Challenge.rw_zn0001_01.row.prog w) (ktrTop dp un gd cn cs L a ccd cl outer) (call (.ref 64) [.str x t]) Q E s := by
  have hx : x.length ≤ 10 := by
    unfold utcs at hxe
    simp only [List.mem_cons, List.not_mem_nil, or_false] at hxe
    rcases hxe with rfl | rfl | rfl | rfl <;> decide
  (revert X; k_fill; intro X)
  refine wpAny_call ?_
  (k_dflt (refine' code_def ?k1 ?k2 ?k3 ?k4 ?k5 ?kA ?kF ?kK ?k6 ?k7 ?k8 ?k9 ?kB ?_ ?c2 ?c3 ?c4 ?c5; (case kA => exact rfl); (case kF => exact rfl); (case kK => assumption); (case k1 => k_asm); (case k2 => k_asm); (case k3 => k_asm); (case k4 => k_asm); (case k5 => k_asm); (case k6 => k_is); (case k7 => k_is); (case k8 => ktr_room); (case k9 => first | exact BindsTo.of_eq rfl | exact binds_K (by k_in) rfl (by k_is) rfl rfl rfl); (case c5 => decide); (case kB => exact locs rfl); (case c2 => exact rfl); (case c3 => exact rfl); (case c4 => exact rfl); k_whole; intro g' L' h' FG' F' N' B' X' T'; (try dsimp only); (try k_lift B'); (try k_fold)))
  refine noexc ?_
  k_steps
  · exact hret _ _ _ (by assumption) (by assumption)
  · exfalso
    rename (_ || _) = false => h
    exact utcs_or hxe h
theorem brokens_or {x : Str} (hx : x.cps.toList ∈ brokens) (h : (decide (x = ⟨#[71, 77, 84]⟩) || (decide (x = ⟨#[85, 84, 67]⟩) || (decide (x = ⟨#[85, 84]⟩) || (decide (x = ⟨#[90]⟩) || false)))) = true) : False := by
  rcases or4 h with h | h | h | h <;> (rw [of_decide_eq_true h] at hx; exact absurd hx (by decide))
theorem off_broken {w : World} {mean : ExcName → Option Value} {mg mb : Str → Option Value} {dp un : Nat} {gd : Option (List Code)} {cn : Str} {cs : Scope} {a : Addr} {ccd : Value} {cl : List (Str × Addr)} {outer : List Env} {A₀ : Around} {base h₀ : Heap} {L : Addr} {m : Str → Option Value} {news : List (Addr × Obj)} {s : Shared} {Q E : Value → Shared → Prop} (B : Below A₀ base outer h₀) (F : Fr h₀ L s.heap m) (X : Frag.In (Mine.hd.heap_39 w.params) h₀) (N : News h₀ L s.heap news) (T : Top Mine.hd.view_39 (looseW Mine.hd.view_39 [PySem.Str.ofString "_twin_re_1", PySem.Str.ofString "_indent", PySem.Str.ofString "UTC_ZONES", PySem.Str.ofString "TIMEZONE_RE", PySem.Str.ofString "_safe_string"]) mean mg mb h₀) (hk : cs.kind = .function) (hd : dp + 1 < recursionLimit) (hu : un + 8 < cLine) (x : Str) (hxe : x.cps.toList ∈ brokens) (t : Tok)
    (hret : ∀ h' tk', Fr h₀ L h' m → News h₀ L h' news → Q .none { s with heap := h', toks := tk' }) :
    wpAny (model PySem.Challenge.rw_zn0001_01.row.prog w) (ktrTop dp un gd cn cs L a ccd cl outer) (call (.ref 64) [.str x t]) Q E s := by
  have hx : x.length ≤ 10 := by
    have all : ∀ l ∈ brokens, l.length ≤ 10 := by decide
    have := all _ hxe
    simpa [Str.length] using this
  obtain ⟨m', hrun, ho⟩ := broken_runs hxe
  (revert X; k_fill; intro X)
  refine wpAny_call ?_
  (k_dflt (refine' code_def ?k1 ?k2 ?k3 ?k4 ?k5 ?kA ?kF ?kK ?k6 ?k7 ?k8 ?k9 ?kB ?_ ?c2 ?c3 ?c4 ?c5; (case kA => exact rfl); (case kF => exact rfl); (case kK => assumption); (case k1 => k_asm); (case k2 => k_asm); (case k3 => k_asm); (case k4 => k_asm); (case k5 => k_asm); (case k6 => k_is); (case k7 => k_is); (case k8 => ktr_room); (case k9 => first | exact BindsTo.of_eq rfl | exact binds_K (by k_in) rfl (by k_is) rfl rfl rfl); (case c5 => decide); (case kB => exact locs rfl); (case c2 => exact rfl); (case c3 => exact rfl); (case c4 => exact rfl); k_whole; intro g' L' h' FG' F' N' B' X' T'; (try dsimp only); (try k_lift B'); (try k_fold)))
  refine noexc ?_
  k_steps
  · exfalso
    rename (_ || _) = true => h
    exact brokens_or hxe h
  · rename Fr _ _ _ _ => F9
    refine search_miss F9 X' (by omega) (by simpa using hrun) ho ?_
    k_steps
    exact hret _ _ (by assumption) (by assumption)
end Mine
-- Tz11
theorem Mine.rst_Tz11 : True := by
  w_top off
  trivial
namespace Mine
section
variable {prog : Program} {w : World} {A : Around} {E : Value → Shared → Prop} {s : Shared}
theorem pyHash_none {Q : Int → Shared → Prop} (h : ∀ n tk, Q n { s with toks := tk }) : wpAny (model prog w) A (pyHash .none) Q E s :=
  pyHash_slot (T := "NoneType") rfl F.slot_NoneType_hash F.entry_NoneType_hash (F.args_NoneType_hash_1 _) (beq_builtin_none _) (.inl rfl) (wpAny_bind (wpAny_pure (wpAny_bind (wpAny_mkInt (wpAny_pure ⟨_, _, rfl, h _ _⟩)))))
theorem eqBool_str_none {a : Str} {t : Tok} {Q : Bool → Shared → Prop} (h : Q false s) : wpAny (model prog w) A (eqBool (.str a t) .none) Q E s := by
  unfold eqBool
  show wpAny _ _ (if (Value.str a t == Value.none) = true then (do rule "eq-bool.same-object"; pure true) else (do truthOfDropped (← richCompare .Eq (.str a t) .none))) Q E s
  rw [if_neg (by intro e; have := eq_of_beq e; cases this)]
  exact wpAny_bind (EqNone.eq_str_none (wpAny_truthy_bool h))
theorem eqBool_str_int {a : Str} {t : Tok} {n : Int} {u : Tok} {Q : Bool → Shared → Prop} (h : Q false s) : wpAny (model prog w) A (eqBool (.str a t) (.int n u)) Q E s := by
  unfold eqBool
  show wpAny _ _ (if (Value.str a t == Value.int n u) = true then (do rule "eq-bool.same-object"; pure true) else (do truthOfDropped (← richCompare .Eq (.str a t) (.int n u)))) Q E s
  rw [if_neg (by intro e; have := eq_of_beq e; cases this)]
  exact wpAny_bind (EqMixed.eq_str_int (wpAny_truthy_bool h))
theorem for_same {σ : Type} (l : List Nat) (b : σ) (f : Nat → σ → Sem (ForInStep σ)) {Q : σ → Shared → Prop}
    (hf : ∀ i (Q' : ForInStep σ → Shared → Prop), Q' (.yield b) s → wpAny (model prog w) A (f i b) Q' E s) (h : Q b s) : wpAny (model prog w) A (forIn l b f) Q E s := by
  induction l with
  | nil => rw [List.forIn_nil]; exact wpAny_pure h
  | cons a l ih => rw [List.forIn_cons]; exact wpAny_bind (hf _ _ ih)
/-- a key that is no str is not among the str keys -/
theorem find_other {d : Addr} {o : Obj} {es ep} {key : Value} {n : Int} {Q : Option Nat → Shared → Prop} (hns : ∀ x t, key ≠ .str x t) (hcv : carriedByValue key = true) (ho : s.heap.get? d = some o)
    (hd : o.data = .dict es ep) (hks : ∀ e ∈ es, ∃ x t, e.key = .str x t) (heq : ∀ x t (Q' : Bool → Shared → Prop), Q' false s → wpAny (model prog w) A (eqBool (.str x t) key) Q' E s) (h : Q none s) :
    wpAny (model prog w) A (dictFind d key n) Q E s := by
  have hall : ((key :: (placesWithHash es.size (fun i => es[i]?.map (·.hash)) n).filterMap fun i => es[i]?.map (·.key)).all carriedByValue) = true := by
    rw [List.all_cons, List.all_eq_true.mpr, Bool.and_true]
    · exact hcv
    · intro v hv
      obtain ⟨i, _, hi⟩ := List.mem_filterMap.mp hv
      cases he : es[i]? with
      | none => rw [he] at hi; cases hi
      | some e =>
        rw [he] at hi
        obtain rfl : e.key = v := by simpa using hi
        obtain ⟨x, t, hx⟩ := hks e (Array.mem_of_getElem? he)
        rw [hx]; rfl
  unfold dictFind
  try with_reducible refine wpAny_holding ?_
  refine wpAny_bind (wpAny_dictEntries ho hd ?_)
  dsimp only
  rw [if_pos hall]
  split
  · rename_i x t
    exact absurd rfl (hns x t)
  · refine wpAny_bind ?_
    refine for_same _ _ _ (fun i Q' hQ => ?_) (wpAny_pure h)
    cases he : es[i]? with
    | none => exact wpAny_pure hQ
    | some e =>
      dsimp only
      obtain ⟨x, t, hx⟩ := hks e (Array.mem_of_getElem? he)
      rw [hx]
      by_cases hh : (e.hash == n) = true
      · rw [if_pos hh]
        refine wpAny_bind (wpAny_dictEpoch ho hd (wpAny_bind (heq x t _ (wpAny_bind (wpAny_dictEpoch ho hd ?_)))))
        show wpAny _ _ (if (ep != ep) = true then _ else _) _ E _
        rw [if_neg (by simp)]
        exact wpAny_bind (wpAny_rule (wpAny_pure hQ))
      · rw [if_neg hh]
        exact wpAny_pure hQ
end
theorem in_other {w : World} {A : Around} {E : Value → Shared → Prop} {s : Shared} {key : Value} {Q : Value → Shared → Prop} (X : Frag.In (Mine.hd.heap_39 w.params) s.heap) (hns : ∀ x t, key ≠ .str x t) (hcv : carriedByValue key = true)
    (hash : ∀ (A : Around) (E : Value → Shared → Prop) (s : Shared) (Q' : Int → Shared → Prop), (∀ n tk, Q' n { s with toks := tk }) → wpAny (model PySem.Challenge.rw_zn0001_01.row.prog w) A (pyHash key) Q' E s)
    (heq : ∀ (A : Around) (E : Value → Shared → Prop) (s : Shared) x t (Q' : Bool → Shared → Prop), Q' false s → wpAny (model PySem.Challenge.rw_zn0001_01.row.prog w) A (eqBool (.str x t) key) Q' E s)
    (h : ∀ tk, Q (.bool false) { s with toks := tk }) : wpAny (model PySem.Challenge.rw_zn0001_01.row.prog w) A (compareOp .In key (.ref 52)) Q E s := by
  have ho := X 52 _ rfl
  have hT : s.TypeIs (.ref 52) "dict" := ⟨_, ho, rfl⟩
  show wpAny _ _ (do return .bool (← contains (.ref 52) key)) Q E s
  refine wpAny_bind ?_
  unfold contains
  try with_reducible refine wpAny_holding ?_
  refine wpAny_bind (wpAny_specialOf hT slot_dict_contains.lookup ?_)
  show wpAny _ _ (if (some (Value.builtin "dict.__contains__") == some Value.none) = true then _ else _) _ E s
  rw [if_neg (by rw [beq_builtin_none]; exact Bool.false_ne_true)]
  refine wpAny_bind (wpAny_callSpecialUnlessNone?_slot (name := Str.ofString "__contains__") hT slot_dict_contains
    (wpAny_call_entry slot_dict_contains hT entry_dict_contains ?_ (args_dict_contains _ _)))
  show wpAny _ _ (dictGet 52 key >>= _) _ _ s
  refine wpAny_bind ?_
  unfold dictGet
  try with_reducible refine wpAny_holding ?_
  refine wpAny_bind (hash _ _ _ _ fun n tk => ?_)
  refine wpAny_bind (find_other (o := _) hns hcv (X 52 _ rfl) rfl ?_ (fun x t Q' hQ => heq _ _ _ _ _ _ hQ) ?_)
  · intro e he
    simp only [List.mem_toArray, List.mem_cons, List.not_mem_nil, or_false] at he
    rcases he with rfl | rfl | rfl | rfl <;> exact ⟨_, _, rfl⟩
  refine wpAny_pure ?_
  show wpAny _ _ (Builtin.Dict.pendingKey? 52 key >>= _) _ _ _
  exact wpAny_bind (wpAny_pendingKey_other (by decide) (wpAny_pure ⟨_, rfl, wpAny_truthy_bool (wpAny_pure (h _))⟩))
theorem in_none {w : World} {A : Around} {E : Value → Shared → Prop} {s : Shared} {Q : Value → Shared → Prop} (X : Frag.In (Mine.hd.heap_39 w.params) s.heap)
    (h : ∀ tk, Q (.bool false) { s with toks := tk }) : wpAny (model PySem.Challenge.rw_zn0001_01.row.prog w) A (compareOp .In .none (.ref 52)) Q E s :=
  in_other X nofun rfl (fun _ _ _ _ h => pyHash_none h) (fun _ _ _ _ _ _ h => eqBool_str_none h) h
theorem in_int {w : World} {A : Around} {E : Value → Shared → Prop} {s : Shared} {n : Int} {u : Tok} {Q : Value → Shared → Prop} (X : Frag.In (Mine.hd.heap_39 w.params) s.heap)
    (h : ∀ tk, Q (.bool false) { s with toks := tk }) : wpAny (model PySem.Challenge.rw_zn0001_01.row.prog w) A (compareOp .In (.int n u) (.ref 52)) Q E s :=
  in_other X nofun rfl (fun _ _ _ _ h => wpAny_pyHash_int (h _ _)) (fun _ _ _ _ _ _ h => eqBool_str_int h) h
end Mine
-- Sx1
theorem Mine.rst_Sx1 : True := by
  w_top off
  trivial
namespace Mine
open PySem.Builtin.Re
section
variable {w : World} {A : Around} {E : Value → Shared → Prop} {s : Shared}
theorem quiet_none {Mo : Model} {v : Value} {T : String} {Q : Option (Array UInt8) → Shared → Prop} (hT : s.TypeIs v T) (hl : typeLookup (.type T) "__buffer__" = pure none) (h : Q none s) : wpAny Mo A (Builtin.Bytes.bufferQuiet? "_sre" v) Q E s := by
  unfold Builtin.Bytes.bufferQuiet?
  refine wpAny_bind (wpAny_attempt ?_)
  unfold Builtin.Bytes.buffer?
  refine wpAny_bind (wpAny_specialOf hT hl ?_)
  dsimp only
  refine wpAny_bind (wpAny_specialOf hT hl ?_)
  exact wpAny_pure (wpAny_pure h)
theorem textOf_bad {Mo : Model} {v : Value} {Q : Array Nat × Nat → Shared → Prop} (hv : v = .none ∨ ∃ n t, v = .int n t) (hh : A.handled = none)
    (h : ∀ h' tk e, Heap.NewExc s.heap h' e "TypeError" → E (.ref e) { s with heap := h', toks := tk }) : wpAny Mo A (reTextOf v) Q E s := by
  rcases hv with rfl | ⟨n, t, rfl⟩
  · unfold reTextOf
    refine wpAny_bind (m := asStr? .none) (wpAny_pure ?_)
    dsimp only
    refine wpAny_bind (quiet_none (v := .none) (T := "NoneType") rfl (by rw [typeLookup_type, builtinLookup_eq_fast]; kernel_rfl) ?_)
    refine wpAny_bind (wpAny_typeNameOf' (v := .none) (T := "NoneType") rfl (by decide) ?_)
    exact_raiseError plainExc_TypeError hh h
  · unfold reTextOf
    refine wpAny_bind (m := asStr? (.int n t)) (wpAny_pure ?_)
    dsimp only
    refine wpAny_bind (quiet_none (v := .int n t) (T := "int") rfl (by rw [typeLookup_type, builtinLookup_eq_fast]; kernel_rfl) ?_)
    refine wpAny_bind (wpAny_typeNameOf' (v := .int n t) (T := "int") rfl (by decide) ?_)
    exact_raiseError plainExc_TypeError hh h
theorem search_raise {v : Value} {Q : Value → Shared → Prop} (X : Frag.In (Mine.hd.heap_39 w.params) s.heap) (hv : v = .none ∨ ∃ n t, v = .int n t) (hh : A.handled = none)
    (h : ∀ h' tk e, Heap.NewExc s.heap h' e "TypeError" → E (.ref e) { s with heap := h', toks := tk }) :
    wpAny (model PySem.Challenge.rw_zn0001_01.row.prog w) A (call (.builtin "re.Pattern.search") [.ref 57, v]) Q E s := by
  refine wpAny_call (codeAny_call_builtin (by decide +kernel) entry_search ?_)
  refine slot_search.check _ _ _ _ _ _ _ _ ⟨_, X 57 _ rfl, rfl⟩ (args_search _ _) ?_
  unfold Builtin.«re.Pattern.search»
  dsimp only
  refine wpAny_bind ?_
  unfold reTarget
  dsimp only
  refine wpAny_bind (wpAny_of_eq (named_search _) ?_)
  dsimp only
  refine wpAny_bind (wpAny_pure ?_)
  refine wpAny_bind (wpAny_pure ?_)
  refine wpAny_bind (wpAny_fieldsOf (X 57 _ rfl) rfl ?_)
  exact wpAny_bind (textOf_bad hv (by exact hh) h)
end
end Mine
-- Sx2
theorem Mine.rst_Sx2 : True := by
  w_top off
  trivial
namespace Mine
open PySem.Builtin.Re
local macro_rules | `(tactic| walk_at "getMethod ref") => `(tactic| (k_here; (refine' getMethod_search (w := _) ?X ?_; (case X => k_in))))
local macro_rules | `(tactic| walk_at "compareOp In none ref") => `(tactic| (k_here; k_dflt (refine' in_none (w := _) ?X ?_; (case X => k_in); intro tk9; k_whole)))
local macro_rules | `(tactic| walk_at "compareOp In int ref") => `(tactic| (k_here; k_dflt (refine' in_int (w := _) ?X ?_; (case X => k_in); intro tk9; k_whole)))
theorem off_bad {w : World} {mean : ExcName → Option Value} {mg mb : Str → Option Value} {dp un : Nat} {gd : Option (List Code)} {cn : Str} {cs : Scope} {a : Addr} {ccd : Value} {outer : List Env} {A₀ : Around} {base h₀ : Heap} {L : Addr} {m : Str → Option Value} {news : List (Addr × Obj)} {s : Shared} {Q E : Value → Shared → Prop} (B : Below A₀ base outer h₀) (F : Fr h₀ L s.heap m) (X : Frag.In (Mine.hd.heap_39 w.params) h₀) (N : News h₀ L s.heap news) (T : Top Mine.hd.view_39 (looseW Mine.hd.view_39 [PySem.Str.ofString "_twin_re_1", PySem.Str.ofString "_indent", PySem.Str.ofString "UTC_ZONES", PySem.Str.ofString "TIMEZONE_RE", PySem.Str.ofString "_safe_string"]) mean mg mb h₀) (hk : cs.kind = .function) (XB : Frag.In (Mine.hd.heap_39 w.params) base) (TB : Top Mine.hd.view_39 (looseW Mine.hd.view_39 [PySem.Str.ofString "_twin_re_1", PySem.Str.ofString "_indent", PySem.Str.ofString "UTC_ZONES", PySem.Str.ofString "TIMEZONE_RE", PySem.Str.ofString "_safe_string"]) mean mg mb base) (D : KtsDicts (outer.filterMap (·.frame)) h₀) (hd : dp + 1 < recursionLimit) (hu : un + 8 < cLine) {v : Value} (hv : v = .none ∨ ∃ n t, v = .int n t)
    (hexc : ∀ g' h' e tk', Fr h₀ L g' m → RaisedSN base g' (envOf cn cs L a ccd :: outer) e (.type "TypeError") news h' → g'.UpToSlots h' → E (.ref e) { s with heap := h', toks := tk' }) :
    wpAny (model PySem.Challenge.rw_zn0001_01.row.prog w) (ktrTop dp un gd cn cs L a ccd [] outer) (call (.ref 64) [v]) Q E s := by
  have hv2 := hv
  rcases hv with rfl | ⟨n, t, rfl⟩
  · (revert X; k_fill; intro X)
    refine wpAny_call ?_
    (k_dflt (refine' code_defS ?k1 ?k2 ?k3 ?k4 ?k5 ?XB ?TB ?D ?T0 ?kA ?k6 ?k7 ?k8 ?k9 ?kB ?_ ?cK ?c2 ?c3 ?c4 ?c5; (case kA => exact rfl); (case k1 => k_asm); (case k2 => k_asm); (case XB => assumption); (case TB => assumption); (case D => assumption); (case T0 => exact KtsTurn.refl); (case k3 => k_asm); (case k4 => k_asm); (case k5 => k_asm); (case k6 => k_is); (case k7 => k_is); (case k8 => ktr_room); (case k9 => first | exact binds_K (by k_in) rfl (by k_is) rfl rfl rfl | exact BindsTo.of_eq rfl); (case kB => exact locs rfl); (case cK => assumption); (case c2 => exact rfl); (case c3 => exact rfl); (case c4 => exact rfl); (case c5 => decide); k_whole; intro g' L' h' FG' F' N' B' X' T' D'; (try dsimp only); (try k_lift B'); (try k_fold)))
    k_steps
    refine search_raise (by k_in) hv2 rfl fun h5 tk5 e5 hx5 => ?_
    k_steps
    exact hexc _ _ _ _ (by assumption) (by assumption) (by assumption)
  · (revert X; k_fill; intro X)
    refine wpAny_call ?_
    (k_dflt (refine' code_defS ?k1 ?k2 ?k3 ?k4 ?k5 ?XB ?TB ?D ?T0 ?kA ?k6 ?k7 ?k8 ?k9 ?kB ?_ ?cK ?c2 ?c3 ?c4 ?c5; (case kA => exact rfl); (case k1 => k_asm); (case k2 => k_asm); (case XB => assumption); (case TB => assumption); (case D => assumption); (case T0 => exact KtsTurn.refl); (case k3 => k_asm); (case k4 => k_asm); (case k5 => k_asm); (case k6 => k_is); (case k7 => k_is); (case k8 => ktr_room); (case k9 => first | exact binds_K (by k_in) rfl (by k_is) rfl rfl rfl | exact BindsTo.of_eq rfl); (case kB => exact locs rfl); (case cK => assumption); (case c2 => exact rfl); (case c3 => exact rfl); (case c4 => exact rfl); (case c5 => decide); k_whole; intro g' L' h' FG' F' N' B' X' T' D'; (try dsimp only); (try k_lift B'); (try k_fold)))
    k_steps
    refine search_raise (by k_in) hv2 rfl fun h5 tk5 e5 hx5 => ?_
    k_steps
    exact hexc _ _ _ _ (by assumption) (by assumption) (by assumption)
end Mine
-- Tz12
theorem Mine.rst_Tz12 : True := by
  w_top off
  trivial
namespace Mine
local macro_rules | `(tactic| walk_at "call ref") => `(tactic| (k_here; (refine hold ?_)))
theorem off_bd {sg hs ms : List Nat} (Z : Zn sg hs ms) : -400000 ≤ offOf sg hs ms ∧ offOf sg hs ms ≤ 400000 := by
  have h1 := digs_lt Z.hd (by rcases Z.h with h | h <;> omega)
  have h2 := digs_lt Z.md (by rcases Z.m with h | h <;> omega)
  unfold offOf secs
  split <;> omega
theorem lo_utc {w : World} {mean : ExcName → Option Value} {mg mb : Str → Option Value} {dp un : Nat} {gd : Option (List Code)} {cn : Str} {cs : Scope} {a : Addr} {ccd : Value} {cl : List (Str × Addr)} {outer : List Env} {A₀ : Around} {base h₀ : Heap} {L : Addr} {m : Str → Option Value} {news : List (Addr × Obj)} {s : Shared} {Q E : Value → Shared → Prop} (B : Below A₀ base outer h₀) (F : Fr h₀ L s.heap m) (X : Frag.In (Mine.hd.heap_39 w.params) h₀) (N : News h₀ L s.heap news) (T : Top Mine.hd.view_39 (looseW Mine.hd.view_39 [PySem.Str.ofString "_twin_re_1", PySem.Str.ofString "_indent", PySem.Str.ofString "UTC_ZONES", PySem.Str.ofString "TIMEZONE_RE", PySem.Str.ofString "_safe_string"]) mean mg mb h₀) (hk : cs.kind = .function) (hd : dp + 2 < recursionLimit) (hu : un + 16 < cLine) (x : Str) (hxe : x ∈ utcs) (t : Tok)
    (hret : ∀ t' h' tk', Fr h₀ L h' m → News h₀ L h' news → Q (.str (PySem.Str.ofString "0") t') { s with heap := h', toks := tk' }) :
    wpAny (model PySem.Challenge.rw_zn0001_01.row.prog w) (ktrTop dp un gd cn cs L a ccd cl outer) (call (.ref 79) [.str x t]) Q E s := by
  (revert X; k_fill; intro X)
  refine wpAny_call ?_
  (k_dflt (refine' code_def ?k1 ?k2 ?k3 ?k4 ?k5 ?kA ?kF ?kK ?k6 ?k7 ?k8 ?k9 ?kB ?_ ?c2 ?c3 ?c4 ?c5; (case kA => exact rfl); (case kF => exact rfl); (case kK => assumption); (case k1 => k_asm); (case k2 => k_asm); (case k3 => k_asm); (case k4 => k_asm); (case k5 => k_asm); (case k6 => k_is); (case k7 => k_is); (case k8 => ktr_room); (case k9 => first | exact BindsTo.of_eq rfl | exact binds_K (by k_in) rfl (by k_is) rfl rfl rfl); (case c5 => decide); (case kB => exact locs rfl); (case c2 => exact rfl); (case c3 => exact rfl); (case c4 => exact rfl); k_whole; intro g' L' h' FG' F' N' B' X' T'; (try dsimp only); (try k_lift B'); (try k_fold)))
  refine noexc ?_
  k_steps
  ((try unfold Hold); (k_dflt (refine' off_utc ?kA1 ?kB1 ?kC1 ?kD1 ?kE1 ?kK1 ?kd1 ?ku1 x hxe _ ?_; (case kA1 => k_asm); (case kB1 => k_asm); (case kC1 => k_asm); (case kD1 => k_asm); (case kE1 => k_asm); (case kK1 => exact rfl); (case kd1 => (show dp + 1 + 1 < recursionLimit; omega)); (case ku1 => (show un + 3 + 8 < cLine; omega)))))
  intro t' h' tk' F' N'
  k_steps
  exact hret _ _ _ (by assumption) (by assumption)
theorem lo_zone {w : World} {mean : ExcName → Option Value} {mg mb : Str → Option Value} {dp un : Nat} {gd : Option (List Code)} {cn : Str} {cs : Scope} {a : Addr} {ccd : Value} {cl : List (Str × Addr)} {outer : List Env} {A₀ : Around} {base h₀ : Heap} {L : Addr} {m : Str → Option Value} {news : List (Addr × Obj)} {s : Shared} {Q E : Value → Shared → Prop} (B : Below A₀ base outer h₀) (F : Fr h₀ L s.heap m) (X : Frag.In (Mine.hd.heap_39 w.params) h₀) (N : News h₀ L s.heap news) (T : Top Mine.hd.view_39 (looseW Mine.hd.view_39 [PySem.Str.ofString "_twin_re_1", PySem.Str.ofString "_indent", PySem.Str.ofString "UTC_ZONES", PySem.Str.ofString "TIMEZONE_RE", PySem.Str.ofString "_safe_string"]) mean mg mb h₀) (hk : cs.kind = .function) (hd : dp + 2 < recursionLimit) (hu : un + 16 < cLine) {sg hs ms : List Nat} (Z : Zn sg hs ms) (c nl : Bool) (x : Str) (hxe : x = ⟨(zt sg hs c ms nl).toArray⟩) (t : Tok)
    (hret : ∀ t' h' tk', Fr h₀ L h' m → News h₀ L h' news → Q (.str (PySem.Str.ofString (toString (offOf sg hs ms))) t') { s with heap := h', toks := tk' }) :
    wpAny (model PySem.Challenge.rw_zn0001_01.row.prog w) (ktrTop dp un gd cn cs L a ccd cl outer) (call (.ref 79) [.str x t]) Q E s := by
  (revert X; k_fill; intro X)
  refine wpAny_call ?_
  (k_dflt (refine' code_def ?k1 ?k2 ?k3 ?k4 ?k5 ?kA ?kF ?kK ?k6 ?k7 ?k8 ?k9 ?kB ?_ ?c2 ?c3 ?c4 ?c5; (case kA => exact rfl); (case kF => exact rfl); (case kK => assumption); (case k1 => k_asm); (case k2 => k_asm); (case k3 => k_asm); (case k4 => k_asm); (case k5 => k_asm); (case k6 => k_is); (case k7 => k_is); (case k8 => ktr_room); (case k9 => first | exact BindsTo.of_eq rfl | exact binds_K (by k_in) rfl (by k_is) rfl rfl rfl); (case c5 => decide); (case kB => exact locs rfl); (case c2 => exact rfl); (case c3 => exact rfl); (case c4 => exact rfl); k_whole; intro g' L' h' FG' F' N' B' X' T'; (try dsimp only); (try k_lift B'); (try k_fold)))
  refine noexc ?_
  k_steps
  ((try unfold Hold); (k_dflt (refine' off_zone ?kA2 ?kB2 ?kC2 ?kD2 ?kE2 ?kK2 ?kd2 ?ku2 Z c nl x hxe _ ?_; (case kA2 => k_asm); (case kB2 => k_asm); (case kC2 => k_asm); (case kD2 => k_asm); (case kE2 => k_asm); (case kK2 => exact rfl); (case kd2 => (show dp + 1 + 1 < recursionLimit; omega)); (case ku2 => (show un + 3 + 8 < cLine; omega)))))
  intro t' h' tk' F' N'
  have hO := off_bd Z
  generalize offOf sg hs ms = O at *
  k_steps
  exact hret _ _ _ (by assumption) (by assumption)
theorem lo_broken {w : World} {mean : ExcName → Option Value} {mg mb : Str → Option Value} {dp un : Nat} {gd : Option (List Code)} {cn : Str} {cs : Scope} {a : Addr} {ccd : Value} {cl : List (Str × Addr)} {outer : List Env} {A₀ : Around} {base h₀ : Heap} {L : Addr} {m : Str → Option Value} {news : List (Addr × Obj)} {s : Shared} {Q E : Value → Shared → Prop} (B : Below A₀ base outer h₀) (F : Fr h₀ L s.heap m) (X : Frag.In (Mine.hd.heap_39 w.params) h₀) (N : News h₀ L s.heap news) (T : Top Mine.hd.view_39 (looseW Mine.hd.view_39 [PySem.Str.ofString "_twin_re_1", PySem.Str.ofString "_indent", PySem.Str.ofString "UTC_ZONES", PySem.Str.ofString "TIMEZONE_RE", PySem.Str.ofString "_safe_string"]) mean mg mb h₀) (hk : cs.kind = .function) (hd : dp + 2 < recursionLimit) (hu : un + 16 < cLine) (x : Str) (hxe : x.cps.toList ∈ brokens) (t : Tok)
    (hret : ∀ t' h' tk', Fr h₀ L h' m → News h₀ L h' news → Q (.str (PySem.Str.ofString "None") t') { s with heap := h', toks := tk' }) :
    wpAny (model PySem.Challenge.rw_zn0001_01.row.prog w) (ktrTop dp un gd cn cs L a ccd cl outer) (call (.ref 79) [.str x t]) Q E s := by
  (revert X; k_fill; intro X)
  refine wpAny_call ?_
  (k_dflt (refine' code_def ?k1 ?k2 ?k3 ?k4 ?k5 ?kA ?kF ?kK ?k6 ?k7 ?k8 ?k9 ?kB ?_ ?c2 ?c3 ?c4 ?c5; (case kA => exact rfl); (case kF => exact rfl); (case kK => assumption); (case k1 => k_asm); (case k2 => k_asm); (case k3 => k_asm); (case k4 => k_asm); (case k5 => k_asm); (case k6 => k_is); (case k7 => k_is); (case k8 => ktr_room); (case k9 => first | exact BindsTo.of_eq rfl | exact binds_K (by k_in) rfl (by k_is) rfl rfl rfl); (case c5 => decide); (case kB => exact locs rfl); (case c2 => exact rfl); (case c3 => exact rfl); (case c4 => exact rfl); k_whole; intro g' L' h' FG' F' N' B' X' T'; (try dsimp only); (try k_lift B'); (try k_fold)))
  refine noexc ?_
  k_steps
  ((try unfold Hold); (k_dflt (refine' off_broken ?kA3 ?kB3 ?kC3 ?kD3 ?kE3 ?kK3 ?kd3 ?ku3 x hxe _ ?_; (case kA3 => k_asm); (case kB3 => k_asm); (case kC3 => k_asm); (case kD3 => k_asm); (case kE3 => k_asm); (case kK3 => exact rfl); (case kd3 => (show dp + 1 + 1 < recursionLimit; omega)); (case ku3 => (show un + 3 + 8 < cLine; omega)))))
  intro h' tk' F' N'
  k_steps
  exact hret _ _ _ (by assumption) (by assumption)
end Mine
-- Fn
theorem Mine.rst_Fn : True := by
  w_top off
  trivial
namespace Mine
theorem slot_fn_ga : Slot "function" "__getattribute__" "object.__getattribute__" :=
  .of (owner := "object") (n := "__getattribute__") (by rw [typeLookup_type, builtinLookup_eq_fast]; kernel_rfl) (by decide +kernel) (by decide +kernel) (by decide +kernel)
    (by first | exact .inl (by decide +kernel) | exact .inr (by decide +kernel)) (by rw [isSubtype_type]; kernel_rfl)
theorem entry_ga : entryFor table "object.__getattribute__" = some Builtin.«object.__getattribute__» := entryFor_of_tree (by kernel_rfl)
theorem args_ga (a b : Value) : argsOk "object.__getattribute__" ⟨[a, b], []⟩ := by unfold argsOk; kernel_rfl
theorem lk_fn_name : typeLookup (.type "function") "__name__" = pure (some (.builtin "function.__name__")) := by rw [typeLookup_type, builtinLookup_eq_fast]; kernel_rfl
theorem typeOf_fn_name : typeOf (.builtin "function.__name__") = pure (.type "getset_descriptor") := by show builtinType _ = _; rw [builtinType_eq_fast]; kernel_rfl
theorem entry_fn_name : entryFor table "function.__name__" = some Builtin.«function.__name__» := entryFor_of_tree (by kernel_rfl)
theorem owner_fn_name : (".".intercalate ("function.__name__".cutAt '.').dropLast) = "function" := by
  have e0 : "function.__name__".cutAt '.' = ["function", "__name__"] := by first | rfl | decide +kernel
  rw [e0]; decide +kernel
theorem sub_fn_name_owner : isSubtype (.type "function") (.type (".".intercalate ("function.__name__".cutAt '.').dropLast)) = pure true := by
  rw [owner_fn_name, isSubtype_type]; kernel_rfl
section
variable {prog : Program} {w : World} {A : Around} {E : Value → Shared → Prop} {h : Heap} {g : Array GenState} {d : Drawn} {t : Nat} {os : OsState} {a : Addr} {o : Obj} {fd : FuncData}
theorem fname_get {R : Result → Shared → Prop} (hx : h.get? a = some o) (hc : o.cls = .type "function") (hdat : o.data = .func fd) (hz : fd.name.length ≤ sizeLine) (hq : R (.ok (.ret (.str fd.name t))) ⟨h, g, d, t + 1, os⟩) :
    codeAny (model prog w) A (.call (.builtin "getset_descriptor.__get__") ⟨[.builtin "function.__name__", .ref a, .type "function"], []⟩) R ⟨h, g, d, t, os⟩ := by
  have hT : (⟨h, g, d, t, os⟩ : Shared).TypeIs (.ref a) "function" := ⟨_, hx, hc⟩
  have hT5 : (⟨h, g, d, t, os⟩ : Shared).TypeIs (.builtin "function.__name__") "getset_descriptor" := typeOf_fn_name
  have f8 := sub_fn_name_owner
  refine codeAny_call_builtin F.slot_gs_get.plain F.entry_gs_get (F.slot_gs_get.check _ _ _ _ _ _ _ _ hT5 (F.args_gs_get _ _ _) ?_)
  repeat (any_goals (first | assumption | wp_step))
  refine ⟨Code.quiet_builtin _ (by decide +kernel), codeAny_builtin entry_fn_name ?_⟩
  unfold Builtin.«function.__name__»
  dsimp only
  repeat (any_goals (first | assumption | wp_step))
  rw [hdat]
  refine wpAny_pure ?_
  unfold retStr
  first
    | exact wpAny_bind (wpAny_mkStr (wpAny_pure hq) hz)
    | exact wpAny_bind (wpAny_bind (wpAny_mkStr (wpAny_pure hq) hz))
theorem fname_entry {tk : Tok} {Q : PySem.Fin → Shared → Prop} (hx : h.get? a = some o) (hc : o.cls = .type "function") (hdat : o.data = .func fd) (hz : fd.name.length ≤ sizeLine) (hq : Q (.done (.ret (.str fd.name t))) ⟨h, g, d, t + 1, os⟩) :
    wpAny (model prog w) A (Builtin.«object.__getattribute__» ⟨[.ref a, .str "__name__" tk], []⟩) Q E ⟨h, g, d, t, os⟩ := by
  have hT : (⟨h, g, d, t, os⟩ : Shared).TypeIs (.ref a) "function" := ⟨_, hx, hc⟩
  have hT5 : (⟨h, g, d, t, os⟩ : Shared).TypeIs (.builtin "function.__name__") "getset_descriptor" := typeOf_fn_name
  have f4 := lk_fn_name
  have f5 := typeOf_fn_name
  have f6 := F.slot_gs_get.lookup
  have f7 := F.slot_gs_set.lookup
  repeat (any_goals (first | assumption | wp_step))
  refine fname_get hx hc hdat hz ?_
  repeat (any_goals (first | assumption | wp_step))
theorem fname_call {tk : Tok} {R : Result → Shared → Prop} (hx : h.get? a = some o) (hc : o.cls = .type "function") (hdat : o.data = .func fd) (hz : fd.name.length ≤ sizeLine) (hq : R (.ok (.ret (.str fd.name t))) ⟨h, g, d, t + 1, os⟩) :
    codeAny (model prog w) A (.call (.builtin "object.__getattribute__") ⟨[.ref a, .str "__name__" tk], []⟩) R ⟨h, g, d, t, os⟩ :=
  codeAny_call_builtin slot_fn_ga.plain entry_ga (slot_fn_ga.check _ _ _ _ _ _ _ _ (show (⟨h, g, d, t, os⟩ : Shared).TypeIs (.ref a) "function" from ⟨_, hx, hc⟩) (args_ga _ _) (fname_entry hx hc hdat hz hq))
theorem fname_attr {Q : Value → Shared → Prop} (hx : h.get? a = some o) (hc : o.cls = .type "function") (hdat : o.data = .func fd) (hz : fd.name.length ≤ sizeLine) (hq : ∀ t' tk', Q (.str fd.name t') ⟨h, g, d, tk', os⟩) :
    wpAny (model prog w) A (getAttr (.ref a) "__name__" true) Q E ⟨h, g, d, t, os⟩ := by
  obtain ⟨c, dct, dat, sl⟩ := o
  simp only at hc hdat
  subst hc hdat
  have hT : ∀ t', (⟨h, g, d, t', os⟩ : Shared).TypeIs (.ref a) "function" := fun _ => ⟨_, hx, rfl⟩
  have f2 := slot_fn_ga.lookup
  have f3 := slot_fn_ga.bind (.ref a)
  unfold getAttr getAttrBy
  repeat (any_goals (first | assumption | exact hT _ | ((with_reducible show wpAny _ _ (call (Value.builtin "object.__getattribute__") _) _ _ _); refine wpAny_call (fname_call hx rfl rfl hz ?_)) | wp_step))
  exact hq _ _
end
end Mine
-- Sx3
theorem Mine.rst_Sx3 : True := by
  w_top off
  trivial
namespace Mine
local macro_rules | `(tactic| walk_at "call ref") => `(tactic| (k_here; (refine hold ?_)))
theorem lo_bad {w : World} {mean : ExcName → Option Value} {mg mb : Str → Option Value} {dp un : Nat} {gd : Option (List Code)} {cn : Str} {cs : Scope} {a : Addr} {ccd : Value} {outer : List Env} {A₀ : Around} {base h₀ : Heap} {L : Addr} {m : Str → Option Value} {news : List (Addr × Obj)} {s : Shared} {Q E : Value → Shared → Prop} (B : Below A₀ base outer h₀) (F : Fr h₀ L s.heap m) (X : Frag.In (Mine.hd.heap_39 w.params) h₀) (N : News h₀ L s.heap news) (T : Top Mine.hd.view_39 (looseW Mine.hd.view_39 [PySem.Str.ofString "_twin_re_1", PySem.Str.ofString "_indent", PySem.Str.ofString "UTC_ZONES", PySem.Str.ofString "TIMEZONE_RE", PySem.Str.ofString "_safe_string"]) mean mg mb h₀) (hk : cs.kind = .function) (XB : Frag.In (Mine.hd.heap_39 w.params) base) (TB : Top Mine.hd.view_39 (looseW Mine.hd.view_39 [PySem.Str.ofString "_twin_re_1", PySem.Str.ofString "_indent", PySem.Str.ofString "UTC_ZONES", PySem.Str.ofString "TIMEZONE_RE", PySem.Str.ofString "_safe_string"]) mean mg mb base) (D : KtsDicts (outer.filterMap (·.frame)) h₀) (hd : dp + 2 < recursionLimit) (hu : un + 16 < cLine) {v : Value} (hv : v = .none ∨ ∃ n t, v = .int n t)
    (hexc : ∀ g' h' e tk', Fr h₀ L g' m → RaisedSN base g' (envOf cn cs L a ccd :: outer) e (.type "TypeError") news h' → g'.UpToSlots h' → E (.ref e) { s with heap := h', toks := tk' }) :
    wpAny (model PySem.Challenge.rw_zn0001_01.row.prog w) (ktrTop dp un gd cn cs L a ccd [] outer) (call (.ref 79) [v]) Q E s := by
  (revert X; k_fill; intro X)
  refine wpAny_call ?_
  (k_dflt (refine' code_defS ?k1 ?k2 ?k3 ?k4 ?k5 ?XB ?TB ?D ?T0 ?kA ?k6 ?k7 ?k8 ?k9 ?kB ?_ ?cK ?c2 ?c3 ?c4 ?c5; (case kA => exact rfl); (case k1 => k_asm); (case k2 => k_asm); (case XB => assumption); (case TB => assumption); (case D => assumption); (case T0 => exact KtsTurn.refl); (case k3 => k_asm); (case k4 => k_asm); (case k5 => k_asm); (case k6 => k_is); (case k7 => k_is); (case k8 => ktr_room); (case k9 => first | exact binds_K (by k_in) rfl (by k_is) rfl rfl rfl | exact BindsTo.of_eq rfl); (case kB => exact locs rfl); (case cK => assumption); (case c2 => exact rfl); (case c3 => exact rfl); (case c4 => exact rfl); (case c5 => decide); k_whole; intro g' L' h' FG' F' N' B' X' T' D'; (try dsimp only); (try k_lift B'); (try k_fold)))
  k_steps
  ((try unfold Hold); (k_dflt (refine' off_bad ?kA4 ?kB4 ?kC4 ?kD4 ?kE4 ?kK4 ?kG4 ?kH4 ?kI4 ?kd4 ?ku4 hv ?_; (case kA4 => k_asm); (case kB4 => k_asm); (case kC4 => k_asm); (case kD4 => k_asm); (case kE4 => k_asm); (case kK4 => exact rfl); (case kG4 => assumption); (case kH4 => assumption); (case kI4 => assumption); (case kd4 => (show dp + 1 + 1 < recursionLimit; omega)); (case ku4 => (show un + 3 + 8 < cLine; omega)))))
  intro g2 h2 e2 tk2 F2 R2 U2
  k_steps
  exact hexc _ _ _ _ (by assumption) (by assumption) (by assumption)
theorem safe_bad {w : World} {mean : ExcName → Option Value} {mg mb : Str → Option Value} {dp un : Nat} {gd : Option (List Code)} {cn : Str} {cs : Scope} {a : Addr} {ccd : Value} {outer : List Env} {A₀ : Around} {base h₀ : Heap} {L : Addr} {m : Str → Option Value} {news : List (Addr × Obj)} {s : Shared} {Q E : Value → Shared → Prop} (B : Below A₀ base outer h₀) (F : Fr h₀ L s.heap m) (X : Frag.In (Mine.hd.heap_39 w.params) h₀) (N : News h₀ L s.heap news) (T : Top Mine.hd.view_39 (looseW Mine.hd.view_39 [PySem.Str.ofString "_twin_re_1", PySem.Str.ofString "_indent", PySem.Str.ofString "UTC_ZONES", PySem.Str.ofString "TIMEZONE_RE", PySem.Str.ofString "_safe_string"]) mean mg mb h₀) (hk : cs.kind = .function) (XB : Frag.In (Mine.hd.heap_39 w.params) base) (TB : Top Mine.hd.view_39 (looseW Mine.hd.view_39 [PySem.Str.ofString "_twin_re_1", PySem.Str.ofString "_indent", PySem.Str.ofString "UTC_ZONES", PySem.Str.ofString "TIMEZONE_RE", PySem.Str.ofString "_safe_string"]) mean mg mb base) (D : KtsDicts (outer.filterMap (·.frame)) h₀) (hd : dp + 4 < recursionLimit) (hu : un + 32 < cLine) {v : Value} (hv : v = .none ∨ ∃ n t, v = .int n t) (t : Tok)
    (hret : ∀ t h' tk' h₁, KtsTurn (outer.filterMap (·.frame)) h₀ h₁ → Fr h₁ L h' m → News h₁ L h' news → Below A₀ base outer h₁ → Frag.In (Mine.hd.heap_39 w.params) h₁ → Top Mine.hd.view_39 (looseW Mine.hd.view_39 [PySem.Str.ofString "_twin_re_1", PySem.Str.ofString "_indent", PySem.Str.ofString "UTC_ZONES", PySem.Str.ofString "TIMEZONE_RE", PySem.Str.ofString "_safe_string"]) mean mg mb h₁ → KtsDicts (outer.filterMap (·.frame)) h₁ → Q (.str (PySem.Str.ofString "<zone _law_offset() failed>") t) { s with heap := h', toks := tk' }) :
    wpAny (model PySem.Challenge.rw_zn0001_01.row.prog w) (ktrTop dp un gd cn cs L a ccd [] outer) (call (.ref 72) [v, .str (PySem.Str.ofString "zone") t, .ref 79]) Q E s := by
  (revert X; k_fill; intro X)
  refine wpAny_call ?_
  (k_dflt (refine' code_defS ?k1 ?k2 ?k3 ?k4 ?k5 ?XB ?TB ?D ?T0 ?kA ?k6 ?k7 ?k8 ?k9 ?kB ?_ ?cK ?c2 ?c3 ?c4 ?c5; (case kA => exact rfl); (case k1 => k_asm); (case k2 => k_asm); (case XB => assumption); (case TB => assumption); (case D => assumption); (case T0 => exact KtsTurn.refl); (case k3 => k_asm); (case k4 => k_asm); (case k5 => k_asm); (case k6 => k_is); (case k7 => k_is); (case k8 => ktr_room); (case k9 => first | exact binds_K (by k_in) rfl (by k_is) rfl rfl rfl | exact BindsTo.of_eq rfl); (case kB => exact locs rfl); (case cK => assumption); (case c2 => exact rfl); (case c3 => exact rfl); (case c4 => exact rfl); (case c5 => decide); k_whole; intro g' L' h' FG' F' N' B' X' T' D'; (try dsimp only); (try k_lift B'); (try k_fold)))
  refine noexc ?_
  k_steps
  ((try unfold Hold); (k_dflt (refine' lo_bad ?kA5 ?kB5 ?kC5 ?kD5 ?kE5 ?kK5 ?kG5 ?kH5 ?kI5 ?kd5 ?ku5 hv ?_; (case kA5 => k_asm); (case kB5 => k_asm); (case kC5 => k_asm); (case kD5 => k_asm); (case kE5 => k_asm); (case kK5 => exact rfl); (case kG5 => assumption); (case kH5 => assumption); (case kI5 => assumption); (case kd5 => (show dp + 1 + 2 < recursionLimit; omega)); (case ku5 => (show un + 3 + 16 < cLine; omega)))))
  intro g2 h2 e2 tk2 F2 R2 U2
  k_steps
  refine' fname_attr ?hx ?hc ?hdat ?hz ?hq
  case hx => exact (show Frag.In (Mine.hd.heap_39 w.params) _ from by k_in) 79 _ rfl
  case hc => exact rfl
  case hdat => exact rfl
  case hz => rw [sizeLine_eq]; decide
  intro t' tk'
  k_steps
  refine Eq.mp (congrArg (fun z => Q (.str z _) _) (?e : PySem.Str.ofString "<zone _law_offset() failed>" = _)) (hret _ _ _ _ (by assumption) (by assumption) (by assumption) (by assumption) (by assumption) (by assumption) (by assumption))
  decide +kernel
end Mine
-- Sx4
theorem Mine.rst_Sx4 : True := by
  w_top off
  trivial
namespace Mine
local macro_rules | `(tactic| walk_at "call ref") => `(tactic| (k_here; (refine hold ?_)))
theorem safe_utc {w : World} {mean : ExcName → Option Value} {mg mb : Str → Option Value} {dp un : Nat} {gd : Option (List Code)} {cn : Str} {cs : Scope} {a : Addr} {ccd : Value} {cl : List (Str × Addr)} {outer : List Env} {A₀ : Around} {base h₀ : Heap} {L : Addr} {m : Str → Option Value} {news : List (Addr × Obj)} {s : Shared} {Q E : Value → Shared → Prop} (B : Below A₀ base outer h₀) (F : Fr h₀ L s.heap m) (X : Frag.In (Mine.hd.heap_39 w.params) h₀) (N : News h₀ L s.heap news) (T : Top Mine.hd.view_39 (looseW Mine.hd.view_39 [PySem.Str.ofString "_twin_re_1", PySem.Str.ofString "_indent", PySem.Str.ofString "UTC_ZONES", PySem.Str.ofString "TIMEZONE_RE", PySem.Str.ofString "_safe_string"]) mean mg mb h₀) (hk : cs.kind = .function) (hd : dp + 4 < recursionLimit) (hu : un + 32 < cLine) (x : Str) (hxe : x ∈ utcs) (t0 t : Tok)
    (hret : ∀ t h' tk', Fr h₀ L h' m → News h₀ L h' news → Q (.str (PySem.Str.ofString "0") t) { s with heap := h', toks := tk' }) :
    wpAny (model PySem.Challenge.rw_zn0001_01.row.prog w) (ktrTop dp un gd cn cs L a ccd cl outer) (call (.ref 72) [.str x t0, .str (PySem.Str.ofString "zone") t, .ref 79]) Q E s := by
  (revert X; k_fill; intro X)
  refine wpAny_call ?_
  (k_dflt (refine' code_def ?k1 ?k2 ?k3 ?k4 ?k5 ?kA ?kF ?kK ?k6 ?k7 ?k8 ?k9 ?kB ?_ ?c2 ?c3 ?c4 ?c5; (case kA => exact rfl); (case kF => exact rfl); (case kK => assumption); (case k1 => k_asm); (case k2 => k_asm); (case k3 => k_asm); (case k4 => k_asm); (case k5 => k_asm); (case k6 => k_is); (case k7 => k_is); (case k8 => ktr_room); (case k9 => first | exact BindsTo.of_eq rfl | exact binds_K (by k_in) rfl (by k_is) rfl rfl rfl); (case c5 => decide); (case kB => exact locs rfl); (case c2 => exact rfl); (case c3 => exact rfl); (case c4 => exact rfl); k_whole; intro g' L' h' FG' F' N' B' X' T'; (try dsimp only); (try k_lift B'); (try k_fold)))
  refine noexc ?_
  k_steps
  ((try unfold Hold); (k_dflt (refine' lo_utc ?kA6 ?kB6 ?kC6 ?kD6 ?kE6 ?kK6 ?kd6 ?ku6 x hxe _ ?_; (case kA6 => k_asm); (case kB6 => k_asm); (case kC6 => k_asm); (case kD6 => k_asm); (case kE6 => k_asm); (case kK6 => exact rfl); (case kd6 => (show dp + 1 + 2 < recursionLimit; omega)); (case ku6 => (show un + 3 + 16 < cLine; omega)))))
  intro t' h' tk' F' N'
  k_steps
  exact hret _ _ _ (by assumption) (by assumption)
theorem safe_broken {w : World} {mean : ExcName → Option Value} {mg mb : Str → Option Value} {dp un : Nat} {gd : Option (List Code)} {cn : Str} {cs : Scope} {a : Addr} {ccd : Value} {cl : List (Str × Addr)} {outer : List Env} {A₀ : Around} {base h₀ : Heap} {L : Addr} {m : Str → Option Value} {news : List (Addr × Obj)} {s : Shared} {Q E : Value → Shared → Prop} (B : Below A₀ base outer h₀) (F : Fr h₀ L s.heap m) (X : Frag.In (Mine.hd.heap_39 w.params) h₀) (N : News h₀ L s.heap news) (T : Top Mine.hd.view_39 (looseW Mine.hd.view_39 [PySem.Str.ofString "_twin_re_1", PySem.Str.ofString "_indent", PySem.Str.ofString "UTC_ZONES", PySem.Str.ofString "TIMEZONE_RE", PySem.Str.ofString "_safe_string"]) mean mg mb h₀) (hk : cs.kind = .function) (hd : dp + 4 < recursionLimit) (hu : un + 32 < cLine) (x : Str) (hxe : x.cps.toList ∈ brokens) (t0 t : Tok)
    (hret : ∀ t h' tk', Fr h₀ L h' m → News h₀ L h' news → Q (.str (PySem.Str.ofString "None") t) { s with heap := h', toks := tk' }) :
    wpAny (model PySem.Challenge.rw_zn0001_01.row.prog w) (ktrTop dp un gd cn cs L a ccd cl outer) (call (.ref 72) [.str x t0, .str (PySem.Str.ofString "zone") t, .ref 79]) Q E s := by
  (revert X; k_fill; intro X)
  refine wpAny_call ?_
  (k_dflt (refine' code_def ?k1 ?k2 ?k3 ?k4 ?k5 ?kA ?kF ?kK ?k6 ?k7 ?k8 ?k9 ?kB ?_ ?c2 ?c3 ?c4 ?c5; (case kA => exact rfl); (case kF => exact rfl); (case kK => assumption); (case k1 => k_asm); (case k2 => k_asm); (case k3 => k_asm); (case k4 => k_asm); (case k5 => k_asm); (case k6 => k_is); (case k7 => k_is); (case k8 => ktr_room); (case k9 => first | exact BindsTo.of_eq rfl | exact binds_K (by k_in) rfl (by k_is) rfl rfl rfl); (case c5 => decide); (case kB => exact locs rfl); (case c2 => exact rfl); (case c3 => exact rfl); (case c4 => exact rfl); k_whole; intro g' L' h' FG' F' N' B' X' T'; (try dsimp only); (try k_lift B'); (try k_fold)))
  refine noexc ?_
  k_steps
  ((try unfold Hold); (k_dflt (refine' lo_broken ?kA7 ?kB7 ?kC7 ?kD7 ?kE7 ?kK7 ?kd7 ?ku7 x hxe _ ?_; (case kA7 => k_asm); (case kB7 => k_asm); (case kC7 => k_asm); (case kD7 => k_asm); (case kE7 => k_asm); (case kK7 => exact rfl); (case kd7 => (show dp + 1 + 2 < recursionLimit; omega)); (case ku7 => (show un + 3 + 16 < cLine; omega)))))
  intro t' h' tk' F' N'
  k_steps
  exact hret _ _ _ (by assumption) (by assumption)
theorem safe_zone {w : World} {mean : ExcName → Option Value} {mg mb : Str → Option Value} {dp un : Nat} {gd : Option (List Code)} {cn : Str} {cs : Scope} {a : Addr} {ccd : Value} {cl : List (Str × Addr)} {outer : List Env} {A₀ : Around} {base h₀ : Heap} {L : Addr} {m : Str → Option Value} {news : List (Addr × Obj)} {s : Shared} {Q E : Value → Shared → Prop} (B : Below A₀ base outer h₀) (F : Fr h₀ L s.heap m) (X : Frag.In (Mine.hd.heap_39 w.params) h₀) (N : News h₀ L s.heap news) (T : Top Mine.hd.view_39 (looseW Mine.hd.view_39 [PySem.Str.ofString "_twin_re_1", PySem.Str.ofString "_indent", PySem.Str.ofString "UTC_ZONES", PySem.Str.ofString "TIMEZONE_RE", PySem.Str.ofString "_safe_string"]) mean mg mb h₀) (hk : cs.kind = .function) (hd : dp + 4 < recursionLimit) (hu : un + 32 < cLine) {sg hs ms : List Nat} (Z : Zn sg hs ms) (c nl : Bool) (x : Str) (hxe : x = ⟨(zt sg hs c ms nl).toArray⟩) (t0 t : Tok)
    (hret : ∀ t h' tk', Fr h₀ L h' m → News h₀ L h' news → Q (.str (PySem.Str.ofString (toString (offOf sg hs ms))) t) { s with heap := h', toks := tk' }) :
    wpAny (model PySem.Challenge.rw_zn0001_01.row.prog w) (ktrTop dp un gd cn cs L a ccd cl outer) (call (.ref 72) [.str x t0, .str (PySem.Str.ofString "zone") t, .ref 79]) Q E s := by
  (revert X; k_fill; intro X)
  refine wpAny_call ?_
  (k_dflt (refine' code_def ?k1 ?k2 ?k3 ?k4 ?k5 ?kA ?kF ?kK ?k6 ?k7 ?k8 ?k9 ?kB ?_ ?c2 ?c3 ?c4 ?c5; (case kA => exact rfl); (case kF => exact rfl); (case kK => assumption); (case k1 => k_asm); (case k2 => k_asm); (case k3 => k_asm); (case k4 => k_asm); (case k5 => k_asm); (case k6 => k_is); (case k7 => k_is); (case k8 => ktr_room); (case k9 => first | exact BindsTo.of_eq rfl | exact binds_K (by k_in) rfl (by k_is) rfl rfl rfl); (case c5 => decide); (case kB => exact locs rfl); (case c2 => exact rfl); (case c3 => exact rfl); (case c4 => exact rfl); k_whole; intro g' L' h' FG' F' N' B' X' T'; (try dsimp only); (try k_lift B'); (try k_fold)))
  refine noexc ?_
  k_steps
  ((try unfold Hold); (k_dflt (refine' lo_zone ?kA8 ?kB8 ?kC8 ?kD8 ?kE8 ?kK8 ?kd8 ?ku8 Z c nl x hxe _ ?_; (case kA8 => k_asm); (case kB8 => k_asm); (case kC8 => k_asm); (case kD8 => k_asm); (case kE8 => k_asm); (case kK8 => exact rfl); (case kd8 => (show dp + 1 + 2 < recursionLimit; omega)); (case ku8 => (show un + 3 + 16 < cLine; omega)))))
  intro t' h' tk' F' N'
  k_steps
  exact hret _ _ _ (by assumption) (by assumption)
theorem safe_call0 {w : World} {mean : ExcName → Option Value} {mg mb : Str → Option Value} {dp un : Nat} {gd : Option (List Code)} {cn : Str} {cs : Scope} {a : Addr} {ccd : Value} {cl : List (Str × Addr)} {outer : List Env} {A₀ : Around} {base h₀ : Heap} {L : Addr} {m : Str → Option Value} {news : List (Addr × Obj)} {s : Shared} {Q E : Value → Shared → Prop} (B : Below A₀ base outer h₀) (F : Fr h₀ L s.heap m) (X : Frag.In (Mine.hd.heap_39 w.params) h₀) (N : News h₀ L s.heap news) (T : Top Mine.hd.view_39 (looseW Mine.hd.view_39 [PySem.Str.ofString "_twin_re_1", PySem.Str.ofString "_indent", PySem.Str.ofString "UTC_ZONES", PySem.Str.ofString "TIMEZONE_RE", PySem.Str.ofString "_safe_string"]) mean mg mb h₀) (hk : cs.kind = .function) (hd : dp + 4 < recursionLimit) (hu : un + 32 < cLine) (t0 t : Tok)
    (hret : ∀ t h' tk', Fr h₀ L h' m → News h₀ L h' news → Q (.str ⟨#[]⟩ t) { s with heap := h', toks := tk' }) :
    wpAny (model PySem.Challenge.rw_zn0001_01.row.prog w) (ktrTop dp un gd cn cs L a ccd cl outer) (call (.ref 72) [.str ⟨#[]⟩ t0, .str (PySem.Str.ofString "zone") t]) Q E s := by
  (revert X; k_fill; intro X)
  refine wpAny_call ?_
  (k_dflt (refine' code_def ?k1 ?k2 ?k3 ?k4 ?k5 ?kA ?kF ?kK ?k6 ?k7 ?k8 ?k9 ?kB ?_ ?c2 ?c3 ?c4 ?c5; (case kA => exact rfl); (case kF => exact rfl); (case kK => assumption); (case k1 => k_asm); (case k2 => k_asm); (case k3 => k_asm); (case k4 => k_asm); (case k5 => k_asm); (case k6 => k_is); (case k7 => k_is); (case k8 => ktr_room); (case k9 => first | exact BindsTo.of_eq rfl | exact binds_K (by k_in) rfl (by k_is) rfl rfl rfl); (case c5 => decide); (case kB => exact locs rfl); (case c2 => exact rfl); (case c3 => exact rfl); (case c4 => exact rfl); k_whole; intro g' L' h' FG' F' N' B' X' T'; (try dsimp only); (try k_lift B'); (try k_fold)))
  refine noexc ?_
  k_steps
  exact hret _ _ _ (by assumption) (by assumption)
end Mine
-- Rp0
theorem Mine.rst_Rp0 : True := by
  w_top off
  trivial
namespace Mine
/-- what _safe_string tells of a zone by _law_offset -/
inductive OffTold : Value → Str → Prop
  | utc {x : Str} {t : Tok} : x ∈ utcs → OffTold (.str x t) (PySem.Str.ofString "0")
  | zone {sg hs ms : List Nat} {c nl : Bool} {t : Tok} : Zn sg hs ms → OffTold (.str ⟨(zt sg hs c ms nl).toArray⟩ t) (PySem.Str.ofString (toString (offOf sg hs ms)))
  | broken {x : Str} {t : Tok} : x.cps.toList ∈ brokens → OffTold (.str x t) (PySem.Str.ofString "None")
  | bad {v : Value} : (v = .none ∨ ∃ n t, v = .int n t) → OffTold v (PySem.Str.ofString "<zone _law_offset() failed>")
/-- what holds of a base anew, when frames were turned by a caught exception -/
structure GS (K : Frag) (p : Program) (loose : List Str) (mean : ExcName → Option Value) (mg mb : Str → Option Value) (A₀ : Around) (base : Heap) (outer : List Env) (g₀ g : Heap) : Prop where
  t : KtsTurn (outer.filterMap (·.frame)) g₀ g
  b : Below A₀ base outer g
  x : K.In g
  p : Top p loose mean mg mb g
  d : KtsDicts (outer.filterMap (·.frame)) g
theorem GS.trans {K : Frag} {p : Program} {loose : List Str} {mean : ExcName → Option Value} {mg mb : Str → Option Value} {A₀ : Around} {base : Heap} {outer : List Env} {g₀ g g' : Heap} (x : GS K p loose mean mg mb A₀ base outer g₀ g) (y : GS K p loose mean mg mb A₀ base outer g g') : GS K p loose mean mg mb A₀ base outer g₀ g' :=
  ⟨x.t.trans y.t, y.b, y.x, y.p, y.d⟩
/-- the while rule whose base may be turned -/
def WStepS (G : Heap → Prop) (L : Addr) (s : Shared) (J : Nat → (Str → Option Value) → List (Addr × Obj) → Prop) (n : Nat) (f : Flow) (s₃ : Shared) : Prop :=
  f = .next ∧ ∃ g h' tk m₂ news₂ n', s₃ = { s with heap := h', toks := tk } ∧ G g ∧ Fr g L h' m₂ ∧ News g L h' news₂ ∧ n' < n ∧ J n' m₂ news₂
theorem WStepS.intro {G : Heap → Prop} {g h' : Heap} {L : Addr} {s : Shared} {J : Nat → (Str → Option Value) → List (Addr × Obj) → Prop} {n n' tk : Nat} {m₂ : Str → Option Value} {news₂ : List (Addr × Obj)}
    (hg : G g) (F : Fr g L h' m₂) (N : News g L h' news₂) (hn : n' < n) (hJ : J n' m₂ news₂) : WStepS G L s J n .next { s with heap := h', toks := tk } :=
  ⟨rfl, g, h', tk, m₂, news₂, n', rfl, hg, F, N, hn, hJ⟩
theorem While_S {prog : Program} {w : World} {A : Around} {E : Value → Shared → Prop} {Q : Flow → Shared → Prop} {s : Shared} {env : Env} {g : Heap} {L : Addr} {test : Expr} {body : List Stmt} {pos : Pos} {m : Str → Option Value} {news : List (Addr × Obj)} (G : Heap → Prop) (J : Nat → (Str → Option Value) → List (Addr × Obj) → Prop) {n₀ : Nat}
    (hg : G g) (F : Fr g L s.heap m) (N : News g L s.heap news) (hJ : J n₀ m news)
    (turn : ∀ n m₁ news₁ g₁ h₁ tk₁, G g₁ → Fr g₁ L h₁ m₁ → News g₁ L h₁ news₁ → J n m₁ news₁ →
      wpAny (model prog w) A (isTrue test env (eval test env)) (fun b s₂ =>
        if b = true then wpAny (model prog w) A (execs body env) (WStepS G L s J n) E s₂ else Q .next s₂) E { s with heap := h₁, toks := tk₁ })
    (hE : PassesOwn (model prog w) A env E := by passes_own) :
    wpAny (model prog w) A (exec (.While test body [] pos) env) Q E s := by
  refine wpAny_While (codeAny_whileLoop (fun n s' => ∃ g₁ h₁ tk₁ m₁ news₁, s' = { s with heap := h₁, toks := tk₁ } ∧ G g₁ ∧ Fr g₁ L h₁ m₁ ∧ News g₁ L h₁ news₁ ∧ J n m₁ news₁) ?_ n₀ ⟨g, s.heap, s.toks, m, news, rfl, hg, F, N, hJ⟩)
  rintro n s' ⟨g₁, h₁, tk₁, m₁, news₁, rfl, G₁, F₁, N₁, J₁⟩
  refine wpAny_mono (turn n m₁ news₁ g₁ h₁ tk₁ G₁ F₁ N₁ J₁) (fun b s₂ h₂ => ?_) hE
  cases b with
  | false =>
    simp only [Bool.false_eq_true, if_false] at h₂ ⊢
    exact wpAny_execs_nil h₂
  | true =>
    simp only [if_true] at h₂ ⊢
    refine wpAny_mono h₂ (fun f s₃ h₃ => ?_) hE
    obtain ⟨rfl, g', h', tk, m₂, news₂, n', rfl, G₂, F₂, N₂, hn, J₂⟩ := h₃
    exact ⟨n', hn, g', h', tk, m₂, news₂, rfl, G₂, F₂, N₂, J₂⟩
def EnZone (e : En) : Prop := (e.kind = 0 ∧ (∃ t, e.zone = .str ⟨#[]⟩ t) ∧ e.told = ⟨#[]⟩) ∨ (e.kind ≠ 0 ∧ OffTold e.zone e.told)
def lineOf (e : En) : List Nat := cmt (strip e.text) ++ [10]
noncomputable def repF : Nat → List En → List Nat
  | 0, _ => []
  | _ + 1, [] => []
  | n + 1, e :: r => lineOf e ++ (ind (bl e.step.toNat) true (repF n (r.takeWhile fun x => decide (e.depth < x.depth))) ++ repF n (r.dropWhile fun x => decide (e.depth < x.depth)))
theorem repF_fuel : ∀ (n m : Nat) (es : List En), es.length ≤ n → es.length ≤ m → repF n es = repF m es
  | 0, m, es, h, _ => by
    have : es = [] := List.length_eq_zero_iff.mp (by omega)
    subst this; cases m <;> rfl
  | n + 1, 0, es, _, h => by
    have : es = [] := List.length_eq_zero_iff.mp (by omega)
    subst this; rfl
  | n + 1, m + 1, [], _, _ => rfl
  | n + 1, m + 1, e :: r, h1, h2 => by
    simp only [List.length_cons] at h1 h2
    have a := (List.takeWhile_sublist (fun x : En => decide (e.depth < x.depth)) (l := r)).length_le
    have b := (List.dropWhile_sublist (fun x : En => decide (e.depth < x.depth)) (l := r)).length_le
    simp only [repF]
    rw [repF_fuel n m _ (by omega) (by omega), repF_fuel n m _ (by omega) (by omega)]
noncomputable def rep (es : List En) : List Nat := repF es.length es
theorem rep_nil : rep [] = [] := rfl
theorem rep_cons (e : En) (r : List En) : rep (e :: r) = lineOf e ++ (ind (bl e.step.toNat) true (rep (r.takeWhile fun x => decide (e.depth < x.depth))) ++ rep (r.dropWhile fun x => decide (e.depth < x.depth))) := by
  have a := (List.takeWhile_sublist (fun x : En => decide (e.depth < x.depth)) (l := r)).length_le
  have b := (List.dropWhile_sublist (fun x : En => decide (e.depth < x.depth)) (l := r)).length_le
  unfold rep
  simp only [List.length_cons, repF]
  rw [repF_fuel r.length _ _ a (Nat.le_refl _), repF_fuel r.length _ _ b (Nat.le_refl _)]
theorem pow_mix (a b : Nat) : 10 * 5 ^ (a + 1) + 10 * 5 ^ b ≤ 10 * 5 ^ (a + 1 + b) + 10 := by
  have h1 : 1 ≤ 5 ^ (a + 1) := Nat.one_le_pow _ _ (by decide)
  have h2 : 1 ≤ 5 ^ b := Nat.one_le_pow _ _ (by decide)
  rw [Nat.pow_add 5 (a + 1) b]
  generalize 5 ^ (a + 1) = x at *
  generalize 5 ^ b = y at *
  obtain ⟨x, rfl⟩ := Nat.exists_eq_add_of_le h1
  obtain ⟨y, rfl⟩ := Nat.exists_eq_add_of_le h2
  have : (1 + x) * (1 + y) = 1 + x + y + x * y := by rw [Nat.add_mul, Nat.one_mul, Nat.mul_add, Nat.mul_one]; omega
  omega
theorem lineOf_len (e : En) (h : e.text.length ≤ 31) : (lineOf e).length ≤ 34 := by
  have h2 := strip_len e.text
  unfold lineOf cmt
  split
  · simp
  · simp; omega
theorem repF_len : ∀ (n : Nat) (es : List En), (∀ e ∈ es, e.text.length ≤ 31 ∧ e.step ≤ 4) → (repF n es).length + 10 ≤ 10 * 5 ^ es.length
  | 0, es, _ => by
    have : 1 ≤ 5 ^ es.length := Nat.one_le_pow _ _ (by decide)
    simp only [repF, List.length_nil]; omega
  | n + 1, [], _ => by simp [repF]
  | n + 1, e :: r, h => by
    have hc : (r.takeWhile fun x => decide (e.depth < x.depth)).length + (r.dropWhile fun x => decide (e.depth < x.depth)).length = r.length := by
      rw [← List.length_append, List.takeWhile_append_dropWhile]
    have h1 := repF_len n (r.takeWhile fun x => decide (e.depth < x.depth)) (fun x hx => h x (.tail _ ((List.takeWhile_sublist _).subset hx)))
    have h2 := repF_len n (r.dropWhile fun x => decide (e.depth < x.depth)) (fun x hx => h x (.tail _ ((List.dropWhile_sublist _).subset hx)))
    have h3 := ind_len' (bl e.step.toNat) (repF n (r.takeWhile fun x => decide (e.depth < x.depth))) true
    have h4 := lineOf_len e (h e (.head _)).1
    have h5 := (h e (.head _)).2
    have h6 : (bl e.step.toNat).length + 1 ≤ 5 := by simp [bl]; omega
    have h7 := Nat.le_trans h3 (Nat.mul_le_mul_left _ h6)
    have h8 := pow_mix (r.takeWhile fun x => decide (e.depth < x.depth)).length (r.dropWhile fun x => decide (e.depth < x.depth)).length
    rw [Nat.pow_succ] at h8
    rw [show (r.takeWhile fun x => decide (e.depth < x.depth)).length + 1 + (r.dropWhile fun x => decide (e.depth < x.depth)).length = (e :: r).length by simp only [List.length_cons]; omega] at h8
    simp only [repF, List.length_append]
    omega
theorem rep_len (es : List En) (h : ∀ e ∈ es, e.text.length ≤ 31 ∧ e.step ≤ 4) : (rep es).length + 10 ≤ 10 * 5 ^ es.length := repF_len _ _ h
/-- the entries below the one at k end where the depth falls back -/
theorem span_at {es : List En} {p : En → Bool} : ∀ (c : Nat), (∀ j x, j < c → es[j]? = some x → p x = true) → c ≤ es.length → (es[c]? = none ∨ ∃ x, es[c]? = some x ∧ p x = false) → es.takeWhile p = es.take c ∧ es.dropWhile p = es.drop c := by
  induction es with
  | nil => intro c _ hc _; simp
  | cons a l ih =>
    intro c h1 hc h2
    cases c with
    | zero =>
      rcases h2 with h2 | ⟨x, h2, h3⟩
      · simp at h2
      · simp at h2; subst h2
        simp [h3]
    | succ c =>
      have ha : p a = true := h1 0 a (by omega) (by simp)
      obtain ⟨i1, i2⟩ := ih c (fun j x hj hx => h1 (j + 1) x (by omega) (by simpa using hx)) (by simpa using hc) (by simpa using h2)
      simp [ha, i1, i2]
end Mine
-- Sf
theorem Mine.rst_Sf : True := by
  w_top off
  trivial
namespace Mine
theorem safe_all {w : World} {mean : ExcName → Option Value} {mg mb : Str → Option Value} {dp un : Nat} {gd : Option (List Code)} {cn : Str} {cs : Scope} {a : Addr} {ccd : Value} {outer : List Env} {A₀ : Around} {base h₀ : Heap} {L : Addr} {m : Str → Option Value} {news : List (Addr × Obj)} {s : Shared} {Q E : Value → Shared → Prop} (B : Below A₀ base outer h₀) (F : Fr h₀ L s.heap m) (X : Frag.In (Mine.hd.heap_39 w.params) h₀) (N : News h₀ L s.heap news) (T : Top Mine.hd.view_39 (looseW Mine.hd.view_39 [PySem.Str.ofString "_twin_re_1", PySem.Str.ofString "_indent", PySem.Str.ofString "UTC_ZONES", PySem.Str.ofString "TIMEZONE_RE", PySem.Str.ofString "_safe_string"]) mean mg mb h₀) (hk : cs.kind = .function) (XB : Frag.In (Mine.hd.heap_39 w.params) base) (TB : Top Mine.hd.view_39 (looseW Mine.hd.view_39 [PySem.Str.ofString "_twin_re_1", PySem.Str.ofString "_indent", PySem.Str.ofString "UTC_ZONES", PySem.Str.ofString "TIMEZONE_RE", PySem.Str.ofString "_safe_string"]) mean mg mb base) (D : KtsDicts (outer.filterMap (·.frame)) h₀) (hd : dp + 4 < recursionLimit) (hu : un + 32 < cLine) {v : Value} {told : Str} (ho : OffTold v told) (t : Tok)
    (hret : ∀ t h' tk' h₁, GS (Mine.hd.heap_39 w.params) Mine.hd.view_39 (looseW Mine.hd.view_39 [PySem.Str.ofString "_twin_re_1", PySem.Str.ofString "_indent", PySem.Str.ofString "UTC_ZONES", PySem.Str.ofString "TIMEZONE_RE", PySem.Str.ofString "_safe_string"]) mean mg mb A₀ base outer h₀ h₁ → Fr h₁ L h' m → News h₁ L h' news → Q (.str told t) { s with heap := h', toks := tk' }) :
    wpAny (model PySem.Challenge.rw_zn0001_01.row.prog w) (ktrTop dp un gd cn cs L a ccd [] outer) (call (.ref 72) [v, .str (PySem.Str.ofString "zone") t, .ref 79]) Q E s := by
  cases ho with
  | utc hx => exact safe_utc B F X N T hk hd hu _ hx _ _ fun t h' tk' F' N' => hret _ _ _ _ ⟨KtsTurn.refl, B, X, T, D⟩ F' N'
  | zone Z => exact safe_zone B F X N T hk hd hu Z _ _ _ rfl _ _ fun t h' tk' F' N' => hret _ _ _ _ ⟨KtsTurn.refl, B, X, T, D⟩ F' N'
  | broken hx => exact safe_broken B F X N T hk hd hu _ hx _ _ fun t h' tk' F' N' => hret _ _ _ _ ⟨KtsTurn.refl, B, X, T, D⟩ F' N'
  | bad hv => exact safe_bad B F X N T hk XB TB D hd hu hv _ fun t h' tk' h₁ t1 F' N' b1 x1 p1 d1 => hret _ _ _ _ ⟨t1, b1, x1, p1, d1⟩ F' N'
theorem safe_none {w : World} {mean : ExcName → Option Value} {mg mb : Str → Option Value} {dp un : Nat} {gd : Option (List Code)} {cn : Str} {cs : Scope} {a : Addr} {ccd : Value} {cl : List (Str × Addr)} {outer : List Env} {A₀ : Around} {base h₀ : Heap} {L : Addr} {m : Str → Option Value} {news : List (Addr × Obj)} {s : Shared} {Q E : Value → Shared → Prop} (B : Below A₀ base outer h₀) (F : Fr h₀ L s.heap m) (X : Frag.In (Mine.hd.heap_39 w.params) h₀) (N : News h₀ L s.heap news) (T : Top Mine.hd.view_39 (looseW Mine.hd.view_39 [PySem.Str.ofString "_twin_re_1", PySem.Str.ofString "_indent", PySem.Str.ofString "UTC_ZONES", PySem.Str.ofString "TIMEZONE_RE", PySem.Str.ofString "_safe_string"]) mean mg mb h₀) (hk : cs.kind = .function) (hd : dp + 4 < recursionLimit) (hu : un + 32 < cLine) {v : Value} {told : Str} {t0 : Tok} (hv : v = .str ⟨#[]⟩ t0) (ht : told = ⟨#[]⟩) (t : Tok)
    (hret : ∀ t h' tk', Fr h₀ L h' m → News h₀ L h' news → Q (.str told t) { s with heap := h', toks := tk' }) :
    wpAny (model PySem.Challenge.rw_zn0001_01.row.prog w) (ktrTop dp un gd cn cs L a ccd cl outer) (call (.ref 72) [v, .str (PySem.Str.ofString "zone") t]) Q E s := by
  subst hv ht
  exact safe_call0 B F X N T hk hd hu _ _ hret
end Mine
-- C1
theorem Mine.rst_C1 : True := by
  w_top off
  trivial
namespace Mine
def commentFn (x : Str) : Str := if (Txt.rstrip x).length = 0 then Str.ofString "#" else Str.ofString "# " ++ Txt.rstrip x
theorem comment_call {w : World} {mean : ExcName → Option Value} {mg mb : Str → Option Value} {dp un : Nat} {gd : Option (List Code)} {cn : Str} {cs : Scope} {a : Addr} {ccd : Value} {cl : List (Str × Addr)} {outer : List Env} {A₀ : Around} {base h₀ : Heap} {L : Addr} {m : Str → Option Value} {news : List (Addr × Obj)} {s : Shared} {Q E : Value → Shared → Prop} (B : Below A₀ base outer h₀) (F : Fr h₀ L s.heap m) (X : Frag.In (Mine.hd.heap_39 w.params) h₀) (N : News h₀ L s.heap news) (T : Top Mine.hd.view_39 (looseW Mine.hd.view_39 [PySem.Str.ofString "_twin_re_1", PySem.Str.ofString "_indent", PySem.Str.ofString "UTC_ZONES", PySem.Str.ofString "TIMEZONE_RE", PySem.Str.ofString "_safe_string"]) mean mg mb h₀) (hk : cs.kind = .function) (hd : dp + 1 < recursionLimit) (hu : un + 8 < cLine)
    (x : Str) (t : Tok) (hx : x.length ≤ 100000)
    (hret : ∀ t h' tk', Fr h₀ L h' m → News h₀ L h' news → Q (.str (commentFn x) t) { s with heap := h', toks := tk' }) :
    wpAny (model PySem.Challenge.rw_zn0001_01.row.prog w) (ktrTop dp un gd cn cs L a ccd cl outer) (call (.ref 51) [.str x t]) Q E s := by
  (revert X; k_fill; intro X)
  refine wpAny_call ?_
  k_dflt ktr_enter
  k_steps
  all_goals (refine cb_retS hret ?_ (by assumption) (by assumption))
  · rw [commentFn, if_neg (by omega)]
  · rw [commentFn, if_pos (by simp_all)]
end Mine
-- Cm
theorem Mine.rst_Cm : True := by
  w_top off
  trivial
namespace Mine
theorem takeWhile_eq {p q : Nat → Bool} : ∀ (l : List Nat), (∀ c ∈ l, p c = q c) → l.takeWhile p = l.takeWhile q ∧ l.dropWhile p = l.dropWhile q
  | [], _ => ⟨rfl, rfl⟩
  | a :: r, h => by
    have ih := takeWhile_eq r fun c hc => h c (.tail _ hc)
    have ha := h a (.head _)
    simp only [List.takeWhile_cons, List.dropWhile_cons, ha, ih.1, ih.2, and_self]
theorem dropWhile_drop {p : Nat → Bool} : ∀ (l : List Nat), l.dropWhile p = l.drop (l.takeWhile p).length
  | [] => rfl
  | a :: r => by
    simp only [List.dropWhile_cons, List.takeWhile_cons]
    split
    · simpa using dropWhile_drop r
    · simp
theorem rstrip_is (x : Str) (h : ∀ c ∈ x.cps.toList, Unicode.isSpace c = wht c) : (Txt.rstrip x).cps.toList = strip x.cps.toList := by
  have hx : x.length = x.cps.toList.length := by rw [Array.length_toList]; rfl
  show (Txt.stripBy Unicode.isSpace false true x).cps.toList = _
  rw [PyProof.Rows.stripBy_eq, StrLaws.strSub_toList]
  simp only [stripLo, stripHi, Bool.false_eq_true, if_false, if_true, List.drop_zero, Nat.sub_zero]
  unfold strip
  have hr := takeWhile_eq x.cps.toList.reverse (p := Unicode.isSpace) (q := wht) fun c hc => h c (by simpa using hc)
  rw [hr.1, dropWhile_drop, List.drop_reverse, List.reverse_reverse, hx]
theorem comment_is {e : En} (h : ∀ c ∈ e.text, Unicode.isSpace c = wht c) : (commentFn (e.told ++ e.note)).cps.toList = cmt (strip e.text) := by
  have hc : (e.told ++ e.note).cps.toList = e.text := by rw [cat_list]; rfl
  have hr := rstrip_is (e.told ++ e.note) (by rw [hc]; exact h)
  rw [hc] at hr
  have hlen : (Txt.rstrip (e.told ++ e.note)).length = (strip e.text).length := by
    show (Txt.rstrip (e.told ++ e.note)).cps.size = _
    rw [← Array.length_toList, hr]
  unfold commentFn cmt
  rw [hlen]
  have e1 : PySem.Str.ofString "#" = ⟨#[35]⟩ := by decide
  have e2 : PySem.Str.ofString "# " = ⟨#[35, 32]⟩ := by decide
  by_cases h0 : strip e.text = []
  · rw [if_pos (by rw [h0]; rfl), if_pos h0, e1]
  · rw [if_neg (by simpa using h0), if_neg h0, cat_list, hr, e2]; rfl
end Mine
-- C2
theorem Mine.rst_C2 : True := by
  w_top off
  trivial
namespace Mine
section
variable {w : World} {A : Around} {E : Value → Shared → Prop} {s : Shared}
theorem mul_int_str {n : Int} {x : Str} {t u : Tok} {Q : Value → Shared → Prop} (hok : MulOk x n) (h : ∀ t' k, Q (.str (Txt.mul x n) t') { s with toks := k }) :
    wpAny (model PySem.Challenge.rw_zn0001_01.row.prog w) A (binaryOp .Mult (.int n u) (.str x t)) Q E s :=
  lm_binaryOp_repeat_right (T := "str") (U := "int") (by decide) (fun s' => typeIs_int s' n u) (typeIs_str s x t) F.fills_int_mul noFill_str_mul F.slot_int_mul lm_noRepeat_int repeat_str F.slot_int_index.lookup
    (call_gives F.slot_int_mul (typeIs_int s n u) F.entry_int_mul (F.args_int_mul_2 _ _) (AutoIntG3.int___mul___int_str_0 n u x t)
      ⟨rfl, typeIs_str s x t, call_gives F.slot_str_mul (typeIs_str s x t) F.entry_str_mul (F.args_str_mul_2 _ _) (gives_str_mul x n t u hok.1 hok.2.1 hok.2.2) (by
        unfold Txt.mul at h
        by_cases h1 : n < 1
        · rw [if_pos h1]; have h' := h s.toks (s.toks + 1); rw [if_pos h1] at h'; exact ⟨by decide, h'⟩
        · rw [if_neg h1]; refine post_val_or_made (fun hc => fits_reps (hok.2.2 h1 (by simpa using hc))) fun t' k => ?_
          have h' := h t' k; rw [if_neg h1] at h'; exact h')⟩)
end
theorem getMethod_sub {w : World} {M : Model} {A : Around} {E : Value → Shared → Prop} {s : Shared} {pl : Sem Bool} {Q : Value × List Value → Shared → Prop} (X : Frag.In (Mine.hd.heap_39 w.params) s.heap) (h : Q (.builtin "re.Pattern.sub", [.ref 36]) s) :
    wpAny M A (getMethod (.ref 36) (PySem.Str.ofString "sub") pl) Q E s :=
  getMethod_builtin ⟨_, X 36 _ rfl, rfl⟩ plainAttrs_pat slot_sub type_sub (fun a e => by cases e; exact ⟨_, X 36 _ rfl, rfl⟩) h
/-- the text with a prefix of n blanks ahead of each line that is not empty -/
noncomputable def indentFn (n : Nat) (x : Str) : Str := ⟨(ind (List.replicate n 32) true x.cps.toList).toArray⟩
local macro_rules | `(tactic| walk_at "getMethod ref") => `(tactic| (k_here; (refine' getMethod_sub (w := _) ?X ?_; (case X => k_in))))
theorem indent_call {w : World} {mean : ExcName → Option Value} {mg mb : Str → Option Value} {dp un : Nat} {gd : Option (List Code)} {cn : Str} {cs : Scope} {a : Addr} {ccd : Value} {cl : List (Str × Addr)} {outer : List Env} {A₀ : Around} {base h₀ : Heap} {L : Addr} {m : Str → Option Value} {news : List (Addr × Obj)} {s : Shared} {Q E : Value → Shared → Prop} (B : Below A₀ base outer h₀) (F : Fr h₀ L s.heap m) (X : Frag.In (Mine.hd.heap_39 w.params) h₀) (N : News h₀ L s.heap news) (T : Top Mine.hd.view_39 (looseW Mine.hd.view_39 [PySem.Str.ofString "_twin_re_1", PySem.Str.ofString "_indent", PySem.Str.ofString "UTC_ZONES", PySem.Str.ofString "TIMEZONE_RE", PySem.Str.ofString "_safe_string"]) mean mg mb h₀) (hk : cs.kind = .function) (hd : dp + 1 < recursionLimit) (hu : un + 8 < cLine)
    (x : Str) (t : Tok) (hx : x.length ≤ 200000) (n : Int) (tn : Tok) (hn : 0 ≤ n) (hn' : n ≤ 4)
    (hret : ∀ t h' tk', Fr h₀ L h' m → News h₀ L h' news → Q (.str (indentFn n.toNat x) t) { s with heap := h', toks := tk' }) :
    wpAny (model PySem.Challenge.rw_zn0001_01.row.prog w) (ktrTop dp un gd cn cs L a ccd cl outer) (call (.ref 44) [.str x t, .int n tn]) Q E s := by
  (revert X; k_fill; intro X)
  refine wpAny_call ?_
  (k_dflt (refine' code_def ?k1 ?k2 ?k3 ?k4 ?k5 ?kA ?kF ?kK ?k6 ?k7 ?k8 ?k9 ?kB ?_ ?c2 ?c3 ?c4 ?c5; (case kA => exact rfl); (case kF => exact rfl); (case kK => assumption); (case k1 => k_asm); (case k2 => k_asm); (case k3 => k_asm); (case k4 => k_asm); (case k5 => k_asm); (case k6 => k_is); (case k7 => k_is); (case k8 => ktr_room); (case k9 => first | exact BindsTo.of_eq rfl | exact binds_K (by k_in) rfl (by k_is) rfl rfl rfl); (case c5 => decide); (case kB => exact locs rfl); (case c2 => exact rfl); (case c3 => exact rfl); (case c4 => exact rfl); k_whole; intro g' L' h' FG' F' N' B' X' T'; (try dsimp only); (try k_lift B'); (try k_fold)))
  k_steps
  refine mul_int_str (mulOk_of 16 1048576 (by decide) (by omega) (by omega) (by decide) (by decide)) fun t' k => ?_
  k_steps
  have hn2 : n.toNat ≤ 4 := by omega
  rw [blanks n hn]
  refine call_sub (by assumption) (by assumption) (by assumption) hx (by simpa [Str.length] using hn2) ?_ fun t2 h2 k2 F2 N2 => ?_
  · rw [Bool.eq_false_iff]; simp
  · k_steps
    exact hret _ _ _ (by assumption) (by assumption)
theorem indent_call4 {w : World} {mean : ExcName → Option Value} {mg mb : Str → Option Value} {dp un : Nat} {gd : Option (List Code)} {cn : Str} {cs : Scope} {a : Addr} {ccd : Value} {cl : List (Str × Addr)} {outer : List Env} {A₀ : Around} {base h₀ : Heap} {L : Addr} {m : Str → Option Value} {news : List (Addr × Obj)} {s : Shared} {Q E : Value → Shared → Prop} (B : Below A₀ base outer h₀) (F : Fr h₀ L s.heap m) (X : Frag.In (Mine.hd.heap_39 w.params) h₀) (N : News h₀ L s.heap news) (T : Top Mine.hd.view_39 (looseW Mine.hd.view_39 [PySem.Str.ofString "_twin_re_1", PySem.Str.ofString "_indent", PySem.Str.ofString "UTC_ZONES", PySem.Str.ofString "TIMEZONE_RE", PySem.Str.ofString "_safe_string"]) mean mg mb h₀) (hk : cs.kind = .function) (hd : dp + 1 < recursionLimit) (hu : un + 8 < cLine)
    (x : Str) (t : Tok) (hx : x.length ≤ 200000)
    (hret : ∀ t h' tk', Fr h₀ L h' m → News h₀ L h' news → Q (.str (indentFn 4 x) t) { s with heap := h', toks := tk' }) :
    wpAny (model PySem.Challenge.rw_zn0001_01.row.prog w) (ktrTop dp un gd cn cs L a ccd cl outer) (call (.ref 44) [.str x t]) Q E s := by
  (revert X; k_fill; intro X)
  refine wpAny_call ?_
  (k_dflt (refine' code_def ?k1 ?k2 ?k3 ?k4 ?k5 ?kA ?kF ?kK ?k6 ?k7 ?k8 ?k9 ?kB ?_ ?c2 ?c3 ?c4 ?c5; (case kA => exact rfl); (case kF => exact rfl); (case kK => assumption); (case k1 => k_asm); (case k2 => k_asm); (case k3 => k_asm); (case k4 => k_asm); (case k5 => k_asm); (case k6 => k_is); (case k7 => k_is); (case k8 => ktr_room); (case k9 => first | exact BindsTo.of_eq rfl | exact binds_K (by k_in) rfl (by k_is) rfl rfl rfl); (case c5 => decide); (case kB => exact locs rfl); (case c2 => exact rfl); (case c3 => exact rfl); (case c4 => exact rfl); k_whole; intro g' L' h' FG' F' N' B' X' T'; (try dsimp only); (try k_lift B'); (try k_fold)))
  k_steps
  refine mul_int_str (mulOk_of 16 1048576 (by decide) (by omega) (by omega) (by decide) (by decide)) fun t' k => ?_
  k_steps
  rw [blanks 4 (by decide)]
  refine call_sub (by assumption) (by assumption) (by assumption) hx (by decide) ?_ fun t2 h2 k2 F2 N2 => ?_
  · rw [Bool.eq_false_iff]; simp
  · k_steps
    exact hret _ _ _ (by assumption) (by assumption)
end Mine
-- Rp
theorem Mine.rst_Rp : True := by
  w_top off
  trivial
namespace Mine
theorem noexc' {α : Type} {M : Model} {A : Around} {t : Sem α} {Q : α → Shared → Prop} {E : Value → Shared → Prop} {s : Shared} (h : wpAny M A t Q (fun _ _ => False) s) : wpAny M A t Q E s :=
  wpAny_mono h (fun _ _ x => x) fun _ _ x => x.elim
theorem cut {α : Type} {M : Model} {A : Around} {t : Sem α} {Q : α → Shared → Prop} {E : Value → Shared → Prop} {s : Shared} (P : α → Shared → Prop) (h : wpAny M A t P E s) (k : ∀ a s', P a s' → Q a s') : wpAny M A t Q E s :=
  wpAny_mono h k fun _ _ x => x
def Told9 (G : Heap → Prop) (L : Addr) (mm : Str → Option Value) (NW : List (Addr × Obj)) (s : Shared) (told : Str) (v : Value) (s' : Shared) : Prop :=
  ∃ t h' tk' g, v = .str told t ∧ s' = { s with heap := h', toks := tk' } ∧ G g ∧ Fr g L h' mm ∧ News g L h' NW
theorem cutT {M : Model} {A : Around} {t : Sem Value} {Q : Value → Shared → Prop} {E : Value → Shared → Prop} {s s1 : Shared} {h₀ h5 : Heap} {L : Addr} {mm : Str → Option Value} {NW : List (Addr × Obj)} (G : Heap → Prop) (told : Str) (Fz : Fr h₀ L h5 mm) (Nz : News h₀ L h5 NW)
    (h : wpAny M A t (Told9 G L mm NW s told) E s1) (k : ∀ t h' tk' g, G g → Fr g L h' mm → News g L h' NW → Q (.str told t) { s with heap := h', toks := tk' }) : wpAny M A t Q E s1 :=
  wpAny_mono h (fun v s' h => by obtain ⟨t, h', tk', g, rfl, rfl, hg, F, N⟩ := h; exact k t h' tk' g hg F N) fun _ _ x => x
theorem Told9.intro {G : Heap → Prop} {s : Shared} {g : Heap} {L : Addr} {mm : Str → Option Value} {NW : List (Addr × Obj)} {told : Str} {t : Tok} {h' : Heap} {tk' : Nat} (hg : G g) (F : Fr g L h' mm) (N : News g L h' NW) : Told9 G L mm NW s told (.str told t) { s with heap := h', toks := tk' } := ⟨t, h', tk', g, rfl, rfl, hg, F, N⟩
structure EnOkR (e : En) : Prop where
  d0 : 0 ≤ e.depth
  d1 : e.depth ≤ 100
  s0 : 0 ≤ e.step
  s1 : e.step ≤ 4
  len : e.told.length + e.note.length ≤ 31
  zone : EnZone e
  sp : ∀ c ∈ e.text, Unicode.isSpace c = wht c
def RpJ (l : Addr) (es : List En) (n : Nat) (m₁ : Str → Option Value) (kk : Nat) (r : Str) : Prop :=
  ∃ (tk tr : Tok), m₁ (PySem.Str.ofString "entries") = some (.ref l) ∧ m₁ (PySem.Str.ofString "k") = some (.int (kk : Int) tk) ∧ m₁ (PySem.Str.ofString "report") = some (.str r tr) ∧
    n = es.length - kk ∧ kk ≤ es.length ∧ r.cps.toList ++ rep (es.drop kk) = rep es
local macro_rules | `(tactic| walk_at "exec While Compare cons nil") => `(tactic| (k_here; (refine hold ?_)))
local macro_rules | `(tactic| walk_at "exec While BoolOp cons nil") => `(tactic| (k_here; (refine hold ?_)))
local macro_rules | `(tactic| walk_at "eval IfExp") => `(tactic| (k_here; (refine hold ?_)))
local macro_rules | `(tactic| walk_at "call ref") => `(tactic| (k_here; (refine hold ?_)))
local macro_rules | `(tactic| k_mem) => `(tactic| first | exact List.Mem.head _ | assumption | (refine' List.Mem.tail _ ?_; k_mem))
local macro_rules | `(tactic| walk_at "call builtin:len") => `(tactic| (k_here; k_dflt (refine' kst_len ?N ?m ?e ?f ?_; (case N => k_asm); (case m => k_mem); (case e => exact rfl); (case f => omega); k_whole)))
local macro_rules | `(tactic| walk_at "subscriptTail Name Name ref int") => `(tactic| (k_here; (refine hold ?_)))
local macro_rules | `(tactic| walk_at "subscriptTail Name Slice ref ref") => `(tactic| (k_here; (refine hold ?_)))
theorem report_call : ∀ (n : Nat) {w : World} {mean : ExcName → Option Value} {mg mb : Str → Option Value} {dp un : Nat} {gd : Option (List Code)} {cn : Str} {cs : Scope} {a : Addr} {ccd : Value} {outer : List Env} {A₀ : Around} {base h₀ : Heap} {L : Addr} {m : Str → Option Value} {news : List (Addr × Obj)} {s : Shared} {Q E : Value → Shared → Prop} (B : Below A₀ base outer h₀) (F : Fr h₀ L s.heap m) (X : Frag.In (Mine.hd.heap_39 w.params) h₀) (N : News h₀ L s.heap news) (T : Top Mine.hd.view_39 (looseW Mine.hd.view_39 [PySem.Str.ofString "_twin_re_1", PySem.Str.ofString "_indent", PySem.Str.ofString "UTC_ZONES", PySem.Str.ofString "TIMEZONE_RE", PySem.Str.ofString "_safe_string"]) mean mg mb h₀) (hk : cs.kind = .function) (XB : Frag.In (Mine.hd.heap_39 w.params) base) (TB : Top Mine.hd.view_39 (looseW Mine.hd.view_39 [PySem.Str.ofString "_twin_re_1", PySem.Str.ofString "_indent", PySem.Str.ofString "UTC_ZONES", PySem.Str.ofString "TIMEZONE_RE", PySem.Str.ofString "_safe_string"]) mean mg mb base) (D : KtsDicts (outer.filterMap (·.frame)) h₀) (hd : dp + n + 5 < recursionLimit) (hu : un + 8 * n + 40 < cLine)
    (l : Addr) (vs : List Value) (es : List En) (k : Nat) (hl : (l, W.listOf vs.toArray k) ∈ news) (hes : EnsIn news vs es) (hok : ∀ e ∈ es, EnOkR e) (hn : es.length ≤ n) (hn6 : n ≤ 6)
    (hret : ∀ (r : Str) t h' tk' h₁, r.cps.toList = rep es → GS (Mine.hd.heap_39 w.params) Mine.hd.view_39 (looseW Mine.hd.view_39 [PySem.Str.ofString "_twin_re_1", PySem.Str.ofString "_indent", PySem.Str.ofString "UTC_ZONES", PySem.Str.ofString "TIMEZONE_RE", PySem.Str.ofString "_safe_string"]) mean mg mb A₀ base outer h₀ h₁ → Fr h₁ L h' m → News h₁ L h' news → Q (.str r t) { s with heap := h', toks := tk' }),
    wpAny (model PySem.Challenge.rw_zn0001_01.row.prog w) (ktrTop dp un gd cn cs L a ccd [] outer) (call (.ref 98) [.ref l]) Q E s := by
  intro n
  induction n using Nat.strongRecOn with
  | ind n ih =>
  intro w mean mg mb dp un gd cn cs a ccd outer A₀ base h₀ L m news s Q E B F X N T hk XB TB D hd hu l vs es k hl hes hok hn hn6 hret
  have hvl := hes.length
  have hv6 : vs.length ≤ 6 := by omega
  (revert X; k_fill; intro X)
  refine wpAny_call ?_
  (k_dflt (refine' code_defS ?k1 ?k2 ?k3 ?k4 ?k5 ?XB ?TB ?D ?T0 ?kA ?k6 ?k7 ?k8 ?k9 ?kB ?_ ?cK ?c2 ?c3 ?c4 ?c5; (case kA => exact rfl); (case k1 => k_asm); (case k2 => k_asm); (case XB => assumption); (case TB => assumption); (case D => assumption); (case T0 => exact KtsTurn.refl); (case k3 => k_asm); (case k4 => k_asm); (case k5 => k_asm); (case k6 => k_is); (case k7 => k_is); (case k8 => ktr_room); (case k9 => first | exact binds_K (by k_in) rfl (by k_is) rfl rfl rfl | exact BindsTo.of_eq rfl); (case kB => exact locs rfl); (case cK => assumption); (case c2 => exact rfl); (case c3 => exact rfl); (case c4 => exact rfl); (case c5 => decide); k_whole; intro g' L' h' FG' F' N' B' X' T' D'; (try dsimp only); (try k_lift B'); (try k_fold)))
  refine noexc' ?_
  k_steps
  unfold Hold
  rename Fr _ _ _ _ => F9
  rename News _ _ _ _ => N9
  refine While_S (fun g => GS (Mine.hd.heap_39 w.params) Mine.hd.view_39 (looseW Mine.hd.view_39 [PySem.Str.ofString "_twin_re_1", PySem.Str.ofString "_indent", PySem.Str.ofString "UTC_ZONES", PySem.Str.ofString "TIMEZONE_RE", PySem.Str.ofString "_safe_string"]) mean mg mb (ktrTop dp un gd cn cs L a ccd [] outer) base (envOf cn cs L a ccd :: outer) g' g) (fun n' m₁ news₁ => news₁ = news ∧ ∃ kk r, RpJ l es n' m₁ kk r) (n₀ := es.length) ⟨KtsTurn.refl, B', X', T', D'⟩ F9 N9 ⟨rfl, 0, ⟨#[]⟩, _, _, rfl, rfl, rfl, rfl, Nat.zero_le _, rfl⟩ ?_ PassesOwn.never
  clear B' X' T' D'
  rintro n' m₁ news₁ g₁ h₁ tk₁ ⟨t₁, b₁, x₁, p₁, d₁⟩ F₁ N₁ ⟨rfl, kk, r, tkk, tr, g1, g2, g3, rfl, hkk, hrep⟩
  try k_lift b₁
  replace F₁ := fr_same F₁ g1
  replace F₁ := fr_same F₁ (x := PySem.Str.ofString "k") (v := .int (kk : Int) tkk) (by rw [if_neg (by decide)]; exact g2)
  replace F₁ := fr_same F₁ (x := PySem.Str.ofString "report") (v := .str r tr) (by rw [if_neg (by decide), if_neg (by decide)]; exact g3)
  clear F9 N9
  k_steps
  · rename ((kk : Int) < _) => hlt
    have hlt' : kk < vs.length := by omega
    obtain ⟨e, he, hin⟩ := hes.get kk vs[kk] (by simp [hlt'])
    obtain ⟨hd0, hd1, hs0, hs1, hlen, hzone, hsp⟩ := hok e (List.mem_of_getElem? he)
    have hvk : vs[kk]? = some vs[kk] := by simp [hlt']
    generalize vs[kk] = v at hin hvk
    cases hin with
    | @mk a0 e t1 t2 t3 t4 t5 nn ha =>
    unfold Hold
    refine item_led N₁ hl (by omega) (by omega) (v := .ref a0) (by simpa using hvk) ?_
    k_steps
    unfold Hold
    rename Fr _ _ _ _ => F9
    rename News _ _ _ _ => N9
    refine while_one (x := PySem.Str.ofString "end") (fun n v => ∃ (c : Nat) (tc : Tok), v = .int ((kk + 1 + c : Nat) : Int) tc ∧ n = es.length - (kk + 1 + c) ∧ kk + 1 + c ≤ es.length ∧ ∀ j x, j < c → (es.drop (kk + 1))[j]? = some x → e.depth < x.depth)
      (fun v => ∃ (c : Nat) (tc : Tok), v = .int ((kk + 1 + c : Nat) : Int) tc ∧ kk + 1 + c ≤ es.length ∧ (es.drop (kk + 1)).takeWhile (fun x => decide (e.depth < x.depth)) = (es.drop (kk + 1)).take c ∧ (es.drop (kk + 1)).dropWhile (fun x => decide (e.depth < x.depth)) = es.drop (kk + 1 + c)) F9 N9 rfl ⟨0, _, rfl, rfl, by omega, fun j x hj => absurd hj (Nat.not_lt_zero _)⟩ ?_ ?_
    · rintro n v h5 tk5 ⟨c, tc, rfl, rfl, hc, hall⟩ F5 N5
      clear F9 N9
      k_steps
      · rename (((kk + 1 + c : Nat) : Int) < _) => hlt2
        have hlt3 : kk + 1 + c < vs.length := by omega
        obtain ⟨x, hx, hinx⟩ := hes.get (kk + 1 + c) vs[kk + 1 + c] (by simp [hlt3])
        have hvx : vs[kk + 1 + c]? = some vs[kk + 1 + c] := by simp [hlt3]
        generalize vs[kk + 1 + c] = vx at hinx hvx
        have hdx : (es.drop (kk + 1))[c]? = some x := by rw [List.getElem?_drop]; exact hx
        obtain ⟨hxd0, hxd1, _, _, _, _, _⟩ := hok x (List.mem_of_getElem? hx)
        cases hinx with
        | @mk ax x u1 u2 u3 u4 u5 nx hax =>
        unfold Hold
        refine item_led N5 hl (by omega) (by omega) (v := .ref ax) (by rw [Int.toNat_natCast]; exact hvx) ?_
        k_steps
        · rename Fr _ _ _ _ => F8
          rename News _ _ _ _ => N8
          rename (e.depth < x.depth) => hgt
          refine VEnd.intro (es.length - (kk + 1 + (c + 1))) F8 N8 (fun _ hp => hp) rfl (fun z hz => by simp only [if_neg hz]) (by omega) ⟨c + 1, _, rfl, rfl, by omega, fun j y hj hy => ?_⟩
          rcases Nat.lt_succ_iff_lt_or_eq.mp hj with h1 | h1
          · exact hall j y h1 hy
          · subst h1; rw [hdx] at hy; cases hy; exact hgt
        · rename Fr _ _ _ _ => F8
          rename News _ _ _ _ => N8
          rename (¬ e.depth < x.depth) => hgt
          have hsp9 := span_at (es := es.drop (kk + 1)) (p := fun x => decide (e.depth < x.depth)) c (fun j x hj hx => by simpa using hall j x hj hx) (by simp; omega) (.inr ⟨x, hdx, by simpa using hgt⟩)
          refine VOut.intro F8 N8 (fun _ hp => hp) rfl (fun z hz => by simp only [if_neg hz]) ⟨c, tc, rfl, hc, hsp9.1, by rw [hsp9.2, List.drop_drop]⟩
      · rename Fr _ _ _ _ => F8
        rename News _ _ _ _ => N8
        have hsp9 := span_at (es := es.drop (kk + 1)) (p := fun x => decide (e.depth < x.depth)) c (fun j x hj hx => by simpa using hall j x hj hx) (by simp; omega) (.inl (by simp; omega))
        refine VOut.intro F8 N8 (fun _ hp => hp) rfl (fun z hz => by simp only [if_neg hz]) ⟨c, tc, rfl, hc, hsp9.1, by rw [hsp9.2, List.drop_drop]⟩
    · rintro v h5 tk5 ⟨c, tc, rfl, hc, htw, hdw⟩ F5 N5
      clear F9 N9
      k_steps
      unfold Hold
      refine cutT (s := s) (fun g => GS (Mine.hd.heap_39 w.params) Mine.hd.view_39 (looseW Mine.hd.view_39 [PySem.Str.ofString "_twin_re_1", PySem.Str.ofString "_indent", PySem.Str.ofString "UTC_ZONES", PySem.Str.ofString "TIMEZONE_RE", PySem.Str.ofString "_safe_string"]) mean mg mb (ktrTop dp un gd cn cs L a ccd [] outer) base (envOf cn cs L a ccd :: outer) g' g) e.told F5 N5 ?_ ?_
      · refine IfExp_ ?_
        rcases hzone with ⟨hz0, ⟨tz, hz1⟩, hz2⟩ | ⟨hz0, hz1⟩
        · k_steps
          · unfold Hold
            ((try unfold Hold); (k_dflt (refine' safe_none ?kA9 ?kB9 ?kC9 ?kD9 ?kE9 ?kK9 ?kd9 ?ku9 hz1 hz2 _ ?_; (case kA9 => k_asm); (case kB9 => k_asm); (case kC9 => k_asm); (case kD9 => k_asm); (case kE9 => k_asm); (case kK9 => exact rfl); (case kd9 => (show dp + 1 + 4 < recursionLimit; omega)); (case ku9 => (show un + 3 + 32 < cLine; omega)))))
            intro t8 h8 tk8 F8 N8
            exact Told9.intro ⟨t₁, b₁, x₁, p₁, d₁⟩ F8 N8
          · exact absurd hz0 (by assumption)
        · k_steps
          · exact absurd (by assumption) hz0
          · ((try unfold Hold); (k_dflt (refine' safe_all ?kA10 ?kB10 ?kC10 ?kD10 ?kE10 ?kK10 ?kG10 ?kH10 ?kI10 ?kd10 ?ku10 hz1 _ ?_; (case kA10 => k_asm); (case kB10 => k_asm); (case kC10 => k_asm); (case kD10 => k_asm); (case kE10 => k_asm); (case kK10 => exact rfl); (case kG10 => assumption); (case kH10 => assumption); (case kI10 => assumption); (case kd10 => (show dp + 1 + 4 < recursionLimit; omega)); (case ku10 => (show un + 3 + 32 < cLine; omega)))))
            intro t8 h8 tk8 g8 G8 F8 N8
            exact Told9.intro ((GS.mk t₁ b₁ x₁ p₁ d₁).trans G8) F8 N8
      · clear t₁ b₁ x₁ p₁ d₁ F5 N5
        rintro tt h6 tk6 g6 ⟨t₁, b₁, x₁, p₁, d₁⟩ F6 N6
        try k_lift b₁
        have hrl := rep_len es fun x hx => ⟨by have := (hok x hx).len; simp [En.text, Str.length] at this ⊢; omega, (hok x hx).s1⟩
        have hp5 : 5 ^ es.length ≤ 5 ^ 6 := Nat.pow_le_pow_right (by decide) (by omega)
        have hrr : r.length ≤ 156250 := by
          have h1 : r.length = r.cps.toList.length := by rw [Array.length_toList]; rfl
          have h2 := congrArg List.length hrep
          rw [List.length_append] at h2
          omega
        k_steps
        ((try unfold Hold); (k_dflt (refine' comment_call ?kA11 ?kB11 ?kC11 ?kD11 ?kE11 ?kK11 ?kd11 ?ku11 _ _ (by omega) ?_; (case kA11 => k_asm); (case kB11 => k_asm); (case kC11 => k_asm); (case kD11 => k_asm); (case kE11 => k_asm); (case kK11 => exact rfl); (case kd11 => (show dp + 1 + 1 < recursionLimit; omega)); (case ku11 => (show un + 3 + 8 < cLine; omega)))))
        intro t8 h8 tk8 F8 N8
        have hcm := comment_is hsp
        have hcl := lineOf_len e (by simp [En.text, Str.length] at hlen ⊢; omega)
        generalize commentFn (e.told ++ e.note) = cf at *
        have hcf : cf.length ≤ 33 := by
          have h1 : cf.length = cf.cps.toList.length := by rw [Array.length_toList]; rfl
          rw [h1, hcm]
          unfold lineOf at hcl
          rw [List.length_append] at hcl
          simp at hcl; omega
        have hdrop : es.drop kk = e :: es.drop (kk + 1) := by
          obtain ⟨hl1, hl2⟩ := List.getElem?_eq_some_iff.mp he
          rw [List.drop_eq_getElem_cons hl1, hl2]
        have hrep2 := hrep
        rw [hdrop, rep_cons, htw, hdw] at hrep2
        k_steps
        unfold Hold
        k_dflt (refine' slice_led F8 N8 hl (by omega) (by omega) (fun D9 h9 F9 N9 l9 => ?_) (by with_unfolding_all rfl) (by intro _; with_unfolding_all rfl) (by omega))
        rw [show (vs.drop ((kk : Int) + 1).toNat).take (((kk + 1 + c : Nat) : Int).toNat - ((kk : Int) + 1).toNat) = (vs.drop (kk + 1)).take c from by
          rw [show ((kk : Int) + 1).toNat = kk + 1 by omega, Int.toNat_natCast, show kk + 1 + c - (kk + 1) = c by omega]] at N9
        clear F8 N8
        k_steps
        ((try unfold Hold); (k_dflt (refine' ih (n - 1) (by omega) ?kA12 ?kB12 ?kC12 ?kD12 ?kE12 ?kK12 ?kG12 ?kH12 ?kI12 ?kd12 ?ku12 D9 _ ((es.drop (kk + 1)).take c) 0 (.head _) (((hes.drop (kk + 1)).take c).mono (fun _ hp => .tail _ hp)) (fun x hx => hok x (List.mem_of_mem_drop (List.mem_of_mem_take hx))) (by simp; omega) (by omega) ?_; (case kA12 => k_asm); (case kB12 => k_asm); (case kC12 => k_asm); (case kD12 => k_asm); (case kE12 => k_asm); (case kK12 => exact rfl); (case kG12 => assumption); (case kH12 => assumption); (case kI12 => assumption); (case kd12 => (show dp + 1 + (n - 1) + 5 < recursionLimit; omega)); (case ku12 => (show un + 3 + 8 * (n - 1) + 40 < cLine; omega)))))
        intro r9 t9 h9 tk9 g9 hr9 G9 F9 N9
        have G10 := (GS.mk t₁ b₁ x₁ p₁ d₁).trans G9
        clear t₁ b₁ x₁ p₁ d₁ G9
        obtain ⟨t₁, b₁, x₁, p₁, d₁⟩ := G10
        try k_lift b₁
        have hr9l := congrArg List.length hrep2
        simp only [List.length_append] at hr9l
        have hr9r : r9.length ≤ 156250 := by
          have h1 : r9.length = r9.cps.toList.length := by rw [Array.length_toList]; rfl
          have h2 := rep_len ((es.drop (kk + 1)).take c) fun x hx => by
            have hx' := hok x (List.mem_of_mem_drop (List.mem_of_mem_take hx))
            exact ⟨by have := hx'.len; simp [En.text, Str.length] at this ⊢; omega, hx'.s1⟩
          have h3 : 5 ^ ((es.drop (kk + 1)).take c).length ≤ 5 ^ 6 := Nat.pow_le_pow_right (by decide) (by simp; omega)
          rw [h1, hr9]; omega
        k_steps
        ((try unfold Hold); (k_dflt (refine' indent_call ?kA13 ?kB13 ?kC13 ?kD13 ?kE13 ?kK13 ?kd13 ?ku13 _ _ (by omega) _ _ (by omega) (by omega) ?_; (case kA13 => k_asm); (case kB13 => k_asm); (case kC13 => k_asm); (case kD13 => k_asm); (case kE13 => k_asm); (case kK13 => exact rfl); (case kd13 => (show dp + 1 + 1 < recursionLimit; omega)); (case ku13 => (show un + 3 + 8 < cLine; omega)))))
        intro t10 h10 tk10 F10 N10
        have hin : (indentFn e.step.toNat r9).cps.toList = ind (bl e.step.toNat) true (rep ((es.drop (kk + 1)).take c)) := by
          unfold indentFn bl
          rw [hr9]
        have hinl : (indentFn e.step.toNat r9).length = (ind (bl e.step.toNat) true (rep ((es.drop (kk + 1)).take c))).length := by
          rw [← hin, Array.length_toList]; rfl
        generalize indentFn e.step.toNat r9 = ri at *
        have hril : ri.length ≤ 156250 := by omega
        k_steps
        rename Fr _ _ _ _ => F11
        rename News _ _ _ _ => N11
        refine WStepS.intro (n' := es.length - (kk + 1 + c)) ⟨t₁, b₁, x₁, p₁, d₁⟩ F11 (fun p hp => N11 p (.tail _ hp)) (by omega) ⟨rfl, kk + 1 + c, _, _, _, rfl, rfl, rfl, rfl, hc, ?_⟩
        rw [← hrep2]
        simp only [cat_list, hcm, hin, nl_is, lineOf, List.append_assoc]
  · rename (¬ ((kk : Int) < _)) => hge
    refine hret r _ _ _ _ ?_ ⟨by assumption, by assumption, by assumption, by assumption, by assumption⟩ (by assumption) (by assumption)
    rw [← hrep, List.drop_eq_nil_of_le (by omega), rep_nil, List.append_nil]
end Mine
-- Zl
theorem Mine.rst_Zl : True := by
  w_top off
  trivial
namespace Mine
open PySem.NumText (digitsVal AllDigits)
theorem num_text (n : Int) : (PySem.Str.ofString (toString n)).cps.toList = (if n < 0 then [45] else []) ++ (Nat.toDigits 10 n.natAbs).map Char.toNat := by
  cases n with
  | ofNat m =>
    rw [if_neg (by show ¬ ((m : Int) < 0); omega)]
    exact KIN.signs_num m
  | negSucc m =>
    rw [if_pos (Int.negSucc_lt_zero m), signs_ofString]
    show ("-" ++ Nat.repr (m + 1)).toList.map Char.toNat = _
    rw [String.toList_append, Nat.toList_repr, List.map_append]
    rfl
theorem dig_range (m : Nat) : ∀ c ∈ (Nat.toDigits 10 m).map Char.toNat, Dig c := by
  intro c hc
  obtain ⟨ch, hch, e⟩ := List.mem_map.mp hc
  have r := digit_range (Nat.isDigit_of_mem_toDigits (by decide) (by decide) hch)
  rw [← e]
  exact r
theorem num_len {n : Int} (h1 : -1000000 < n) (h2 : n < 1000000) : (PySem.Str.ofString (toString n)).length ≤ 7 := by
  have h : (PySem.Str.ofString (toString n)).length = (PySem.Str.ofString (toString n)).cps.toList.length := by rw [Array.length_toList]; rfl
  rw [h, num_text, List.length_append, List.length_map]
  have h3 := toDigits_len_pow (b := 10) (k := 6) (n := n.natAbs) (by decide) (by decide) (by omega)
  split <;> simp <;> omega
theorem dig_wht {c : Nat} (h : Dig c ∨ c = 45) : Unicode.isSpace c = wht c := by
  have all : ∀ c, c ≤ 57 → 45 ≤ c → Unicode.isSpace c = wht c := by decide +kernel
  rcases h with ⟨a, b⟩ | rfl
  · exact all c b (by omega)
  · exact all 45 (by decide) (by decide)
theorem num_wht (n : Int) : ∀ c ∈ (PySem.Str.ofString (toString n)).cps.toList, Unicode.isSpace c = wht c := by
  intro c hc
  rw [num_text] at hc
  refine dig_wht ?_
  rcases List.mem_append.mp hc with h | h
  · right
    split at h
    · simpa using h
    · simp at h
  · exact .inl (dig_range _ c h)
theorem off_fine {z : Value} {told : Str} (h : OffTold z told) : told.length ≤ 27 ∧ ∀ c ∈ told.cps.toList, Unicode.isSpace c = wht c := by
  cases h with
  | utc _ => exact ⟨by decide, by decide +kernel⟩
  | zone Z => exact ⟨Nat.le_trans (num_len (by have := off_bd Z; omega) (by have := off_bd Z; omega)) (by decide), num_wht _⟩
  | broken _ => exact ⟨by decide +kernel, by decide +kernel⟩
  | bad _ => exact ⟨by decide +kernel, by decide +kernel⟩
/-- the digits of a small number -/
def digs (n : Nat) : List Nat := (Nat.toDigits 10 n).map Char.toNat
theorem digs_fine : ∀ n, n < 100 → ((digs n).length = 1 ∨ (digs n).length = 2) ∧ (n < 10 → (digs n).length = 1) ∧ digitsVal (digs n) = n := by
  intro n hn
  refine ⟨?_, fun h => ?_, KIN.val_back n⟩
  · have h3 := toDigits_len_pow (b := 10) (k := 2) (n := n) (by decide) (by decide) (by omega)
    have h4 := toDigits_len_ge 10 n
    unfold digs
    rw [List.length_map]; omega
  · have h3 := toDigits_len_pow (b := 10) (k := 1) (n := n) (by decide) (by decide) (by omega)
    have h4 := toDigits_len_ge 10 n
    unfold digs
    rw [List.length_map]; omega
theorem digs_dig (n : Nat) : ∀ c ∈ digs n, Dig c := dig_range n
theorem num_digs (n : Int) (h : 0 ≤ n) : (PySem.Str.ofString (toString n)).cps.toList = digs n.toNat := by
  rw [num_text, if_neg (by omega)]
  unfold digs
  rw [List.nil_append, show n.natAbs = n.toNat by omega]
end Mine
-- Zo
theorem Mine.rst_Zo : True := by
  w_top off
  trivial
namespace Mine
open PySem.NumText (digitsVal AllDigits)
abbrev zObj (z : Value) (told : Str) (t : Tok) (n : Nat) : Obj := { cls := .type "tuple", data := .seq #[z, .str told t] n }
def ZoneOk (kind : Int) (z : Value) (told : Str) : Prop := (kind = 0 ∧ (∃ t, z = .str ⟨#[]⟩ t) ∧ told = ⟨#[]⟩) ∨ (kind ≠ 0 ∧ OffTold z told)
theorem skip1 {h₀ h : Heap} {L : Addr} {x y : Addr × Obj} {news : List (Addr × Obj)} (N : News h₀ L h (x :: y :: news)) : News h₀ L h (x :: news) := fun p hp => N p (by
  cases hp with
  | head => exact .head _
  | tail _ h => exact .tail _ (.tail _ h))
def brokenStrs : List Str := [⟨#[]⟩, PySem.Str.ofString "5:3", PySem.Str.ofString "EST", PySem.Str.ofString "+123:00", PySem.Str.ofString "1:234", PySem.Str.ofString "+", PySem.Str.ofString "5:30Z", PySem.Str.ofString "+5.30"]
theorem brokenStrs_ok : ∀ x ∈ brokenStrs, x.cps.toList ∈ brokens := by decide +kernel
section
variable {prog : Program} {w : World} {A : Around} {s : Shared} {h₀ : Heap}
theorem item_mem {value slice : Expr} {L l : Addr} {vs : List Value} {n : Nat} {news : List (Addr × Obj)} {k : Int} {u : Tok} {Q : Value → Shared → Prop} {E : Value → Shared → Prop}
    (N : News h₀ L s.heap news) (hl : (l, W.listOf vs.toArray n) ∈ news) (h0 : 0 ≤ k) (hk : k < 100) (hz : k.toNat < vs.length) (h : ∀ v, vs[k.toNat]? = some v → v ∈ vs → Q v s)
    (hs : subscripted slice false (.ref l) (.int k u) = operate [.ref l, .int k u] (getItem (.ref l) (.int k u)) := by with_unfolding_all rfl) :
    wpAny (model prog w) A (subscriptTail value slice (.ref l) (.int k u)) Q E s :=
  item_led N hl h0 (by omega) (v := vs[k.toNat]) (List.getElem?_eq_getElem hz) (h _ (List.getElem?_eq_getElem hz) (List.getElem_mem hz)) hs
end
theorem fm (a : Int) {b : Int} (h : 0 ≤ b) : a.fmod b = a % b := Int.fmod_eq_emod_of_nonneg a h
theorem fd (a : Int) {b : Int} (h : 0 ≤ b) : a.fdiv b = a / b := Int.fdiv_eq_ediv_of_nonneg a h
section
variable {M : Model} {A : Around} {E : Value → Shared → Prop} {s s1 : Shared} {g h5 : Heap} {L : Addr} {mm : Str → Option Value} {NW : List (Addr × Obj)}
def Zv (g : Heap) (L : Addr) (mm : Str → Option Value) (NW : List (Addr × Obj)) (s : Shared) (PP : Value → Prop) (v : Value) (s' : Shared) : Prop :=
  ∃ h' tk', s' = { s with heap := h', toks := tk' } ∧ Fr g L h' mm ∧ News g L h' NW ∧ PP v
theorem Zv.intro {PP : Value → Prop} {v : Value} {h' : Heap} {tk' : Nat} (F : Fr g L h' mm) (N : News g L h' NW) (hp : PP v) : Zv g L mm NW s PP v { s with heap := h', toks := tk' } := ⟨h', tk', rfl, F, N, hp⟩
theorem cutV {t : Sem Value} {Q : Value → Shared → Prop} (PP : Value → Prop) (Fz : Fr g L h5 mm) (Nz : News g L h5 NW)
    (h : wpAny M A t (Zv g L mm NW s PP) E s1) (k : ∀ v h' tk', PP v → Fr g L h' mm → News g L h' NW → Q v { s with heap := h', toks := tk' }) : wpAny M A t Q E s1 :=
  wpAny_mono h (fun v s' h => by obtain ⟨h', tk', rfl, F, N, hp⟩ := h; exact k v h' tk' hp F N) fun _ _ x => x
def Zst (g : Heap) (L : Addr) (mm : Str → Option Value) (NW : List (Addr × Obj)) (s : Shared) (PP : Str → Prop) (f : Flow) (s' : Shared) : Prop :=
  f = .next ∧ ∃ z t h' tk', s' = { s with heap := h', toks := tk' } ∧ Fr g L h' (fun y => if y = PySem.Str.ofString "zone" then some (.str z t) else mm y) ∧ News g L h' NW ∧ PP z
theorem Zst.intro {PP : Str → Prop} {z : Str} {t : Tok} {h' : Heap} {tk' : Nat} (F : Fr g L h' (fun y => if y = PySem.Str.ofString "zone" then some (.str z t) else mm y)) (N : News g L h' NW) (hp : PP z) : Zst g L mm NW s PP .next { s with heap := h', toks := tk' } := ⟨rfl, z, t, h', tk', rfl, F, N, hp⟩
theorem Zst.same {PP : Str → Prop} {z : Str} {t : Tok} {h' : Heap} {tk' : Nat} (F : Fr g L h' mm) (hm : mm (PySem.Str.ofString "zone") = some (.str z t)) (N : News g L h' NW) (hp : PP z) : Zst g L mm NW s PP .next { s with heap := h', toks := tk' } := ⟨rfl, z, t, h', tk', rfl, fr_same F hm, N, hp⟩
theorem cutZ {t : Sem Flow} {Q : Flow → Shared → Prop} (PP : Str → Prop) (Fz : Fr g L h5 mm) (Nz : News g L h5 NW)
    (h : wpAny M A t (Zst g L mm NW s PP) E s1) (k : ∀ z t h' tk', PP z → Fr g L h' (fun y => if y = PySem.Str.ofString "zone" then some (.str z t) else mm y) → News g L h' NW → Q .next { s with heap := h', toks := tk' }) : wpAny M A t Q E s1 :=
  wpAny_mono h (fun f s' h => by obtain ⟨rfl, z, t, h', tk', rfl, F, N, hp⟩ := h; exact k z t h' tk' hp F N) fun _ _ x => x
end
theorem two_digs : ∀ m, m < 100 → (digs (m / 10) ++ digs (m % 10)).length = 2 ∧ digitsVal (digs (m / 10) ++ digs (m % 10)) = m := by decide +kernel
theorem len_list (x : Str) : x.length = x.cps.toList.length := by rw [Array.length_toList]; rfl
theorem app_list (x y : Str) : (x ++ y).cps.toList = x.cps.toList ++ y.cps.toList := by
  rw [show (x ++ y).cps = x.cps ++ y.cps from rfl, Array.toList_append]
local macro_rules | `(tactic| walk_at "subscriptTail") => `(tactic| (k_here; (refine hold ?_)))
local macro_rules | `(tactic| walk_at "eval IfExp") => `(tactic| (k_here; (refine hold ?_)))
local macro_rules | `(tactic| walk_at "exec If") => `(tactic| (k_here; (first | (with_reducible show wpAny _ _ (exec (Stmt.If (Expr.Compare (Expr.BinOp _ _ _ _) _ _ _) _ _ _) _) _ _ _) | (with_reducible show wpAny _ _ (exec (Stmt.If (Expr.Compare _ [CmpOp.Lt] _ _) _ _ _) _) _ _ _)); (refine hold ?_)))
theorem zone_call {w : World} {mean : ExcName → Option Value} {mg mb : Str → Option Value} {dp un : Nat} {gd : Option (List Code)} {cn : Str} {cs : Scope} {a : Addr} {ccd : Value} {cl : List (Str × Addr)} {outer : List Env} {A₀ : Around} {base h₀ : Heap} {L : Addr} {m : Str → Option Value} {news : List (Addr × Obj)} {s : Shared} {Q E : Value → Shared → Prop} (B : Below A₀ base outer h₀) (F : Fr h₀ L s.heap m) (X : Frag.In (Mine.hd.heap_39 w.params) h₀) (N : News h₀ L s.heap news) (T : Top Mine.hd.view_39 (looseW Mine.hd.view_39 [PySem.Str.ofString "_twin_re_1", PySem.Str.ofString "_indent", PySem.Str.ofString "UTC_ZONES", PySem.Str.ofString "TIMEZONE_RE", PySem.Str.ofString "_safe_string"]) mean mg mb h₀) (hk : cs.kind = .function) (hd : dp + 1 < recursionLimit) (hu : un + 8 < cLine) (kind part : Int) (tk tp : Tok) (hk0 : 0 ≤ kind) (hk8 : kind < 8)
    (hret : ∀ T z told t n h' tk', ZoneOk kind z told → Fr h₀ L h' m → News h₀ L h' ((T, zObj z told t n) :: news) → Q (.ref T) { s with heap := h', toks := tk' }) :
    wpAny (model PySem.Challenge.rw_zn0001_01.row.prog w) (ktrTop dp un gd cn cs L a ccd cl outer) (call (.ref 86) [.int kind tk, .int part tp]) Q E s := by
  (revert X; k_fill; intro X)
  refine wpAny_call ?_
  (k_dflt (refine' code_def ?k1 ?k2 ?k3 ?k4 ?k5 ?kA ?kF ?kK ?k6 ?k7 ?k8 ?k9 ?kB ?_ ?c2 ?c3 ?c4 ?c5; (case kA => exact rfl); (case kF => exact rfl); (case kK => assumption); (case k1 => k_asm); (case k2 => k_asm); (case k3 => k_asm); (case k4 => k_asm); (case k5 => k_asm); (case k6 => k_is); (case k7 => k_is); (case k8 => ktr_room); (case k9 => first | exact BindsTo.of_eq rfl | exact binds_K (by k_in) rfl (by k_is) rfl rfl rfl); (case c5 => decide); (case kB => exact locs rfl); (case c2 => exact rfl); (case c3 => exact rfl); (case c4 => exact rfl); k_whole; intro g' L' h' FG' F' N' B' X' T'; (try dsimp only); (try k_lift B'); (try k_fold)))
  refine noexc ?_
  k_steps
  · exact hret _ _ _ _ _ _ _ (.inl ⟨by assumption, ⟨_, rfl⟩, rfl⟩) (by assumption) (by assumption)
  · unfold Hold
    rename Fr _ _ _ _ => F9
    rename News _ _ _ _ => N9
    have hb : 0 ≤ (part.fmod 100).fmod 4 ∧ (part.fmod 100).fmod 4 < 4 := by rw [fm _ (by decide)]; omega
    refine item_mem N9 (.head _) hb.1 (by omega) (by show ((part.fmod 100).fmod 4).toNat < 4; omega) fun v hv1 hv => ?_
    obtain ⟨x, t, rfl, hxu⟩ : ∃ x t, v = .str x t ∧ x ∈ utcs := by
      simp only [List.mem_cons, List.not_mem_nil, or_false] at hv
      rcases hv with rfl | rfl | rfl | rfl <;> exact ⟨_, _, rfl, by decide +kernel⟩
    k_steps
    exact hret _ _ _ _ _ _ _ (.inr ⟨by omega, .utc hxu⟩) (by assumption) (skip1 (by assumption))
  · unfold Hold
    rename Fr _ _ _ _ => F9
    rename News _ _ _ _ => N9
    have hb : 0 ≤ (part.fmod 100).fmod 8 ∧ (part.fmod 100).fmod 8 < 8 := by rw [fm _ (by decide)]; omega
    refine item_mem N9 (.head _) hb.1 (by omega) (by show ((part.fmod 100).fmod 8).toNat < 8; omega) fun v hv1 hv => ?_
    obtain ⟨x, t, rfl, hxu⟩ : ∃ x t, v = .str x t ∧ x ∈ brokenStrs := by
      simp only [List.mem_cons, List.not_mem_nil, or_false] at hv
      rcases hv with rfl | rfl | rfl | rfl | rfl | rfl | rfl | rfl <;> exact ⟨_, _, rfl, by decide +kernel⟩
    k_steps
    exact hret _ _ _ _ _ _ _ (.inr ⟨by omega, .broken (brokenStrs_ok _ hxu)⟩) (by assumption) (skip1 (by assumption))
  · unfold Hold
    rename Fr _ _ _ _ => F9
    rename News _ _ _ _ => N9
    have hb : 0 ≤ (part.fmod 100).fmod 2 ∧ (part.fmod 100).fmod 2 < 2 := by rw [fm _ (by decide)]; omega
    refine item_mem N9 (.head _) hb.1 (by omega) (by show ((part.fmod 100).fmod 2).toNat < 2; omega) fun v hv1 hv => ?_
    have hv3 : v = .none ∨ ∃ n t, v = .int n t := by
      simp only [List.mem_cons, List.not_mem_nil, or_false] at hv
      rcases hv with rfl | rfl
      · exact .inr ⟨_, _, rfl⟩
      · exact .inl rfl
    k_steps
    exact hret _ _ _ _ _ _ _ (.inr ⟨by omega, .bad hv3⟩) (by assumption) (skip1 (by assumption))
  · unfold Hold
    rename Fr _ _ _ _ => F9
    rename News _ _ _ _ => N9
    have hH : 0 ≤ part.fmod 100 ∧ part.fmod 100 < 100 := by rw [fm _ (by decide)]; omega
    have hM : 0 ≤ (part.fdiv 100).fmod 101 ∧ (part.fdiv 100).fmod 101 < 101 := by rw [fm _ (by decide)]; omega
    have hD : 0 ≤ (part.fdiv 10100).fmod 24 ∧ (part.fdiv 10100).fmod 24 < 24 := by rw [fm _ (by decide)]; omega
    generalize part.fmod 100 = H at *
    generalize (part.fdiv 100).fmod 101 = M at *
    generalize (part.fdiv 10100).fmod 24 = D at *
    have hb : 0 ≤ D.fmod 3 ∧ D.fmod 3 < 3 := by rw [fm _ (by decide)]; omega
    refine item_mem N9 (.head _) hb.1 (by omega) (by show (D.fmod 3).toNat < 3; omega) fun v hv1 hv => ?_
    obtain ⟨x, t, sg, rfl, hsg, hx, hneg⟩ : ∃ x t sg, v = .str x t ∧ sg ∈ [[], [43], [45]] ∧ x = (⟨sg.toArray⟩ : Str) ∧ (sg = [45] ↔ D.fmod 3 = 2) := by
      have h3 : D.fmod 3 = 0 ∨ D.fmod 3 = 1 ∨ D.fmod 3 = 2 := by omega
      rcases h3 with e | e | e <;> rw [e] at hv1 ⊢ <;> cases hv1
      · exact ⟨_, _, [], rfl, by simp, by decide +kernel, by simp⟩
      · exact ⟨_, _, [43], rfl, by simp, by decide +kernel, by simp⟩
      · exact ⟨_, _, [45], rfl, by simp, by decide +kernel, by simp⟩
    clear hv hv1
    k_steps
    unfold Hold
    refine cutV (s := s) (fun v => ∃ y t, v = .str y t ∧ (y.cps.toList = [] ∨ (y.cps.toList = [48] ∧ H < 10))) F9 N9 ?_ ?_
    · refine IfExp_ ?_
      k_steps
      · exact Zv.intro F9 N9 ⟨_, _, rfl, .inr ⟨by decide +kernel, by assumption⟩⟩
      · exact Zv.intro F9 N9 ⟨_, _, rfl, .inl (by decide +kernel)⟩
      · exact Zv.intro F9 N9 ⟨_, _, rfl, .inl (by decide +kernel)⟩
    · clear F9 N9
      rintro v h6 tk6 ⟨y, ty, rfl, hy⟩ F6 N6
      have hyl : y.length ≤ 1 := by rw [len_list]; rcases hy with h | ⟨h, _⟩ <;> rw [h] <;> decide
      have hxs : x.cps.toList = sg := by rw [hx]
      have hsl : sg.length ≤ 1 := by
        simp only [List.mem_cons, List.not_mem_nil, or_false] at hsg
        rcases hsg with rfl | rfl | rfl <;> decide
      have hxl : x.length ≤ 1 := by rw [len_list, hxs]; exact hsl
      obtain ⟨q1, q2, q3⟩ := digs_fine H.toNat (by omega)
      have q4 := digs_dig H.toNat
      have hnH := num_digs H hH.1
      obtain ⟨hs, hhs⟩ : ∃ hs, hs = y.cps.toList ++ digs H.toNat := ⟨_, rfl⟩
      have hs1 : hs.length = 1 ∨ hs.length = 2 := by
        rw [hhs]
        rcases hy with h | ⟨h, h2⟩
        · rw [h]; exact q1
        · rw [h]; right; have := q2 (by omega); simp; omega
      have hs2 : ∀ c ∈ hs, Dig c := by
        intro c hc
        rw [hhs] at hc
        rcases List.mem_append.mp hc with h | h
        · rcases hy with e | ⟨e, _⟩
          · rw [e] at h; cases h
          · rw [e] at h; rw [List.mem_singleton.mp h]; exact ⟨by decide, by decide⟩
        · exact q4 c h
      have hs3 : (digitsVal hs : Int) = H := by
        have : digitsVal hs = digitsVal (digs H.toNat) := by
          rw [hhs]
          rcases hy with e | ⟨e, _⟩
          · rw [e]; rfl
          · rw [e]; exact PySem.NumText.digitsVal_zero
        rw [this, q3]; omega
      k_steps
      unfold Hold
      rename Fr _ _ _ _ => F9
      rename News _ _ _ _ => N9
      try clear F6 N6
      refine cutZ (s := s) (fun z => ∃ c : Bool, z.cps.toList = sg ++ (hs ++ if c then [58] else [])) F9 N9 ?_ ?_
      · refine wpAny_If ?_
        k_steps
        · refine Zst.intro (by assumption) (by assumption) ⟨true, ?_⟩
          simp only [app_list, hxs, hnH, hhs, List.append_assoc]
          rfl
        · refine Zst.same F9 rfl N9 ⟨false, ?_⟩
          simp only [app_list, hxs, num_digs _ hH.1, hhs, List.append_assoc, Bool.false_eq_true, if_false, List.append_nil]
      · clear F9 N9
        rintro z tz h7 tk7 ⟨c, hz⟩ F7 N7
        have hzl : z.length ≤ 4 := by
          rw [len_list, hz]
          simp only [List.length_append]
          have : (if c = true then [58] else []).length ≤ 1 := by split <;> simp
          omega
        have hM1 : 0 ≤ M.fdiv 10 ∧ M.fdiv 10 ≤ 10 := by rw [fd _ (by decide)]; omega
        have hM2 : 0 ≤ M.fmod 10 ∧ M.fmod 10 < 10 := by rw [fm _ (by decide)]; omega
        have hM3 : 0 ≤ M.fmod 100 ∧ M.fmod 100 < 100 := by rw [fm _ (by decide)]; omega
        k_steps
        unfold Hold
        rename Fr _ _ _ _ => F9
        rename News _ _ _ _ => N9
        refine cutZ (s := s) (fun z => ∃ ms, z.cps.toList = sg ++ (hs ++ ((if c then [58] else []) ++ ms)) ∧ ((M < 100 ∧ ms = digs (M.fdiv 10).toNat ++ digs (M.fmod 10).toNat) ∨ (¬ M < 100 ∧ ms = []))) F9 N9 ?_ ?_
        · refine wpAny_If ?_
          k_steps
          · refine Zst.intro (by assumption) (by assumption) ⟨_, ?_, .inl ⟨by assumption, rfl⟩⟩
            simp only [app_list, hz, num_digs _ hM1.1, num_digs _ hM2.1, List.append_assoc]
          · refine Zst.same F9 rfl N9 ⟨[], ?_, .inr ⟨by omega, rfl⟩⟩
            simp only [hz, List.append_nil]
        · clear F9 N9
          rintro z2 tz2 h8 tk8 ⟨ms, hz2, hms⟩ F8 N8
          have hmf : (ms.length = 0 ∨ ms.length = 2) ∧ (∀ c ∈ ms, Dig c) ∧ (digitsVal ms : Int) = M.fmod 100 := by
            rcases hms with ⟨h1, rfl⟩ | ⟨h1, rfl⟩
            · have e1 : (M.fdiv 10).toNat = M.toNat / 10 := by rw [fd _ (by decide)]; omega
              have e2 : (M.fmod 10).toNat = M.toNat % 10 := by rw [fm _ (by decide)]; omega
              have e3 : M.fmod 100 = (M.toNat : Int) := by rw [fm _ (by decide)]; omega
              rw [e1, e2, e3]
              obtain ⟨r1, r2⟩ := two_digs M.toNat (by omega)
              refine ⟨.inr r1, fun c hc => ?_, by rw [r2]⟩
              rcases List.mem_append.mp hc with h | h
              · exact digs_dig _ c h
              · exact digs_dig _ c h
            · refine ⟨.inl rfl, (fun c hc => by cases hc), ?_⟩
              rw [fm _ (by decide), show M = 100 by omega]; rfl
          have Z : Zn sg hs ms := ⟨hsg, hs1, hs2, hmf.1, hmf.2.1⟩
          have hz2l : z2.length ≤ 6 := by
            rw [len_list, hz2]
            simp only [List.length_append]
            have : (if c = true then [58] else []).length ≤ 1 := by split <;> simp
            have := hmf.1
            omega
          k_steps
          unfold Hold
          rename Fr _ _ _ _ => F9
          rename News _ _ _ _ => N9
          refine cutZ (s := s) (fun z => ∃ nl : Bool, z.cps.toList = zt sg hs c ms nl) F9 N9 ?_ ?_
          · refine wpAny_If ?_
            k_steps
            · refine Zst.intro (by assumption) (by assumption) ⟨true, ?_⟩
              simp only [app_list, hz2, zt, List.append_assoc]
              rfl
            · refine Zst.same F9 rfl N9 ⟨false, ?_⟩
              simp [hz2, zt]
          · clear F9 N9
            rintro z3 tz3 h9 tk9 ⟨nl, hz3⟩ F5 N5
            have hzz : z3 = ⟨(zt sg hs c ms nl).toArray⟩ := by
              obtain ⟨zc⟩ := z3
              rw [← hz3]
            k_steps
            unfold Hold
            rename Fr _ _ _ _ => F9
            rename News _ _ _ _ => N9
            refine cutV (s := s) (fun v => ∃ u, v = .int (offOf sg hs ms) u) F9 N9 ?_ ?_
            · refine IfExp_ ?_
              k_steps
              · refine Zv.intro (by assumption) (by assumption) ⟨_, congrArg (fun q => Value.int q _) ?_⟩
                unfold offOf secs
                rw [if_pos (hneg.mpr (by assumption))]
                omega
              · refine Zv.intro (by assumption) (by assumption) ⟨_, congrArg (fun q => Value.int q _) ?_⟩
                unfold offOf secs
                rw [if_neg (fun e => absurd (hneg.mp e) (by assumption))]
                omega
            · clear F9 N9
              have hO := off_bd Z
              obtain ⟨O, hOe⟩ : ∃ O, O = offOf sg hs ms := ⟨_, rfl⟩
              rw [← hOe] at hO ⊢
              rintro v h3 tk3 ⟨u, rfl⟩ F3 N3
              k_steps
              refine hret _ _ _ _ _ _ _ (.inr ⟨by omega, ?_⟩) (by assumption) (skip1 (by assumption))
              rw [hzz, hOe]
              exact .zone Z
end Mine
-- Lr
theorem Mine.rst_Lr : True := by
  w_top off
  trivial
namespace Mine
section
variable {prog : Program} {w : World} {A : Around} {s : Shared} {env : Env} {h₀ : Heap}
theorem owned_goes_r {target : Expr} {I : Addr} {x left step : Int} {v : Value} {Q : Unit → Shared → Prop} {E : Value → Shared → Prop} (hit : IsRangeIter s.heap I x left step) (h : Q () s) :
    wpAny (model prog w) A (letOwnedTupleGo target (.ref I) v) Q E s := by
  have ho : s.heap.get? I = some _ := hit
  unfold letOwnedTupleGo
  have go : ∀ a, wpAny (model prog w) A (do
      let o ← load I
      match o.cls, o.data with
      | .type n, .fields vs =>
        if ["enumerate", "zip", "dict_itemiterator", "dict_reverseitemiterator", "odict_iterator", "itertools.zip_longest", "itertools.pairwise"].contains n && vs[0]? == some (rawInt a) then
          rule "for.unpacks-the-owned-tuple"
          updateField I 0 .none
      | _, _ => pure ()) Q E s := fun a => by
    refine wpAny_bind (wpAny_load ho ?_)
    dsimp only
    rw [if_neg (by simp)]
    exact wpAny_pure h
  cases target <;> first | exact wpAny_pure h | (cases v <;> first | exact wpAny_pure h | exact go _)
/-- a loop over range(n) -/
theorem iter_rng {target : Expr} {body : List Stmt} {Q : Flow → Shared → Prop} {r : Addr} {n : Nat} {t u v : Tok} {m₀ : Str → Option Value} {news : List (Addr × Obj)} (J : Nat → (Str → Option Value) → List (Addr × Obj) → Prop)
    (hh : A.handled = none) (F : Fr h₀ env.locals s.heap m₀) (N : News h₀ env.locals s.heap news) (hr : IsRange s.heap r 0 (n : Int) 1 t u v) (hn : n < 1000000) (hj : J 0 m₀ news)
    (turn : ∀ i tv m₁ news₁ h tk I oI, i < n → J i m₁ news₁ → Fr h₀ env.locals h m₁ → News h₀ env.locals h ((I, oI) :: news₁) → (∀ p ∈ news₁, p.1 ≠ I) →
      wpAny (model prog w) A (assign target env (.int (i : Int) tv)) (fun _ s₂ => wpAny (model prog w) A (execs body env) (TurnOk h₀ env.locals I oI (J (i + 1)) s) (fun _ _ => False) s₂) (fun _ _ => False) { s with heap := h, toks := tk })
    (done : ∀ m₁ news₁ h tk, J n m₁ news₁ → Fr h₀ env.locals h m₁ → News h₀ env.locals h news₁ → Q .next { s with heap := h, toks := tk }) :
    wpAny (model prog w) A (pyIter (.ref r)) (fun it s₂ => FLoop prog w A target body env Q it s₂) (fun _ _ => False) s := by
  refine wpAny_pyIter_range hr (small_one (by decide) (by decide) (by omega) (by omega)) ?_
  have hsz : Builtin.Range.rangeSize 0 (n : Int) 1 = (n : Int) := by rw [rangeSize_one]; split <;> omega
  rw [hsz]
  unfold FLoop
  refine codeAny_forLoop_any (fun k s' => ∃ i h tk m₁ news₁ oI, k = n - i ∧ i ≤ n ∧ s' = { s with heap := h, toks := tk } ∧ Fr h₀ env.locals h m₁ ∧ News h₀ env.locals h ((s.heap.objs.size, oI) :: news₁) ∧ (∀ p ∈ news₁, p.1 ≠ s.heap.objs.size) ∧
    IsRangeIter h s.heap.objs.size (i : Int) ((n : Int) - i) 1 ∧ J i m₁ news₁) ?_ n ⟨0, _, s.toks, m₀, news, _, rfl, Nat.zero_le _, rfl, F.push _, N.push F _, fun p hp => Nat.ne_of_lt (Heap.lt_size (N p hp).1), ?_, hj⟩
  · rintro k s' ⟨i, h, tk, m₁, news₁, oI, rfl, hi, rfl, F₁, N₁, hne, hit, hJ⟩
    have hI := N₁ _ (.head _)
    by_cases hlt : i < n
    · refine wpAny_pyNext_range_item hit (by omega) fun h' hit' hs' => ?_
      have F₂ : Fr h₀ env.locals h' m₁ := by
        obtain ⟨oL, a1, a2, hL, a3⟩ := F₁.ns
        refine ⟨⟨oL, a1, a2, (hs'.2 _ (fun e => hI.2.1 e.symm)).trans hL, a3⟩, fun b o e => (hs'.2 _ (fun e' => ?_)).trans (F₁.keep b o e), F₁.above⟩
        rw [e', hI.2.2] at e; cases e
      have ho' : h'.get? s.heap.objs.size = some _ := hit'
      have N₂ : News h₀ env.locals h' ((s.heap.objs.size, _) :: news₁) := fun p hp => by
        rcases List.mem_cons.mp hp with rfl | hp
        · exact ⟨ho', hI.2⟩
        · exact ⟨(hs'.2 _ (hne p hp)).trans (N₁ p (.tail _ hp)).1, (N₁ p (.tail _ hp)).2⟩
      refine owned_goes_r (s := { s with heap := h', toks := tk + 1 }) hit' ?_
      refine wpAny_mono (turn i _ m₁ news₁ h' (tk + 1) _ _ hlt hJ F₂ N₂ hne) (fun _ s₂ h₂ => ?_) fun _ _ e => e.elim
      refine wpAny_mono h₂ (fun f s₃ h₃ => ?_) fun _ _ e => e.elim
      obtain ⟨hf, h'', tk'', m', news', rfl, F', N', hne', hJ'⟩ := h₃
      have hit'' : IsRangeIter h'' s.heap.objs.size ((i + 1 : Nat) : Int) ((n : Int) - ((i + 1 : Nat) : Int)) 1 := by
        have := (N' _ (.head _)).1
        have e : ((i : Int) + 1) = ((i + 1 : Nat) : Int) := by omega
        have e2 : (n : Int) - i - 1 = (n : Int) - ((i + 1 : Nat) : Int) := by omega
        rw [e, e2] at this
        exact this
      have hnext : ∃ m, m < n - i ∧ ∃ i' h tk m₁ news₁ oI, m = n - i' ∧ i' ≤ n ∧ ({ s with heap := h'', toks := tk'' } : Shared) = { s with heap := h, toks := tk } ∧ Fr h₀ env.locals h m₁ ∧ News h₀ env.locals h ((s.heap.objs.size, oI) :: news₁) ∧ (∀ p ∈ news₁, p.1 ≠ s.heap.objs.size) ∧
          IsRangeIter h s.heap.objs.size (i' : Int) ((n : Int) - i') 1 ∧ J i' m₁ news₁ :=
        ⟨n - (i + 1), by omega, i + 1, h'', tk'', m', news', _, rfl, hlt, rfl, F', N', hne', hit'', hJ'⟩
      rcases hf with rfl | rfl <;> exact hnext
    · have hin : i = n := by omega
      subst hin
      refine wpAny_pyNext_range_end hh hit (by omega) fun h' he => ?_
      refine wpAny_execs_nil ?_
      refine done m₁ news₁ h' tk hJ ?_ ?_
      · obtain ⟨oL, a1, a2, hL, a3⟩ := F₁.ns
        refine ⟨⟨oL, a1, a2, he _ _ (fun e => hI.2.1 e.symm) hL, a3⟩, fun b o e => he _ _ (fun e' => ?_) (F₁.keep b o e), F₁.above⟩
        rw [e', hI.2.2] at e; cases e
      · exact fun p hp => ⟨he _ _ (hne p hp) (N₁ p (.tail _ hp)).1, (N₁ p (.tail _ hp)).2⟩
  · have e : (n : Int) - ((0 : Nat) : Int) = n := by omega
    rw [e]
    exact Heap.get?_push_size _ rfl
end
end Mine
-- Nc
theorem Mine.rst_Nc : True := by
  w_top off
  trivial
namespace Mine
theorem noPy (a : Int) {b : Int} (h1 : 0 < b) (h2 : b ≤ 4096) : ¬ Builtin.divisionGoesByPylong a b = true := by
  have hl : b.natAbs.log2 < 13 := (Nat.log2_lt (by omega)).mpr (by omega)
  have hb : (b == 0) = false := by simpa using (by omega : b ≠ 0)
  unfold Builtin.divisionGoesByPylong
  simp only [hb]
  simp
  omega
theorem fdiv_small {prog : Program} {w : World} {A : Around} {E : Value → Shared → Prop} {s : Shared} {a b : Int} {t u : Tok} {Q : Value → Shared → Prop} (h1 : 0 < b) (h2 : b ≤ 4096) (h : Q (.int (a.fdiv b) s.toks) { s with toks := s.toks + 1 }) :
    wpAny (model prog w) A (binaryOp .FloorDiv (.int a t) (.int b u)) Q E s :=
  AutoIntOps.floordiv_1 (by simpa using (by omega : b ≠ 0)) (noPy a h1 h2) h
theorem pow8 {k : Int} (h0 : 0 ≤ k) (h1 : k < 5) : (0 : Int) < 8 ^ k.toNat ∧ (8 : Int) ^ k.toNat ≤ 4096 := by
  have : k = 0 ∨ k = 1 ∨ k = 2 ∨ k = 3 ∨ k = 4 := by omega
  rcases this with rfl | rfl | rfl | rfl | rfl <;> decide
def noteCps : List Nat := [32, 10, 97, 9, 98, 11, 160, 55]
theorem item_note {i : Int} (h0 : 0 ≤ i) (h1 : i < 8) : ∃ c, Txt.item (PySem.Str.ofString " \na\tb\x0b\xa07") i = ⟨#[c]⟩ ∧ c ∈ noteCps := by
  have : i = 0 ∨ i = 1 ∨ i = 2 ∨ i = 3 ∨ i = 4 ∨ i = 5 ∨ i = 6 ∨ i = 7 := by omega
  rcases this with rfl | rfl | rfl | rfl | rfl | rfl | rfl | rfl
  · exact ⟨32, by decide +kernel, by decide⟩
  · exact ⟨10, by decide +kernel, by decide⟩
  · exact ⟨97, by decide +kernel, by decide⟩
  · exact ⟨9, by decide +kernel, by decide⟩
  · exact ⟨98, by decide +kernel, by decide⟩
  · exact ⟨11, by decide +kernel, by decide⟩
  · exact ⟨160, by decide +kernel, by decide⟩
  · exact ⟨55, by decide +kernel, by decide⟩
def ChEl (news : List (Addr × Obj)) (y : Value) (news' : List (Addr × Obj)) : Prop := news' = news ∧ ∃ c t, y = .str ⟨#[c]⟩ t ∧ c ∈ noteCps
/-- values that are one-letter texts -/
inductive Chs : List Value → List Nat → Prop
  | nil : Chs [] []
  | cons (c : Nat) (t : Tok) {vs : List Value} {cs : List Nat} : Chs vs cs → Chs (.str ⟨#[c]⟩ t :: vs) (c :: cs)
theorem Chs.snoc {c : Nat} {t : Tok} : ∀ {vs : List Value} {cs : List Nat}, Chs vs cs → Chs (vs ++ [.str ⟨#[c]⟩ t]) (cs ++ [c])
  | _, _, .nil => .cons c t .nil
  | _, _, .cons z u r => .cons z u (Chs.snoc r)
theorem Chs.length : ∀ {vs : List Value} {cs : List Nat}, Chs vs cs → vs.length = cs.length
  | _, _, .nil => rfl
  | _, _, .cons _ _ r => congrArg (· + 1) r.length
theorem Chs.strs : ∀ {vs : List Value} {cs : List Nat}, Chs vs cs → StrsAre vs (cs.map fun c => ⟨#[c]⟩)
  | _, _, .nil => .nil
  | _, _, .cons c t r => .cons _ t r.strs
section
variable {prog : Program} {w : World} {A : Around} {h₀ : Heap} {L : Addr} {m : Str → Option Value} {env : Env} {elt : Expr} {x : Str} {scope : Scope} {cl : List (Str × Addr)} {s : Shared} {S : List (Addr × Obj) → Prop} {Fin : List Value → List (Addr × Obj) → Prop} {news : List (Addr × Obj)}
theorem nch_range {n : Nat} {a : Int}
    (turn : ∀ k t I oI C oC D m₂ ys h tk (E' : Value → Shared → Prop), a ≤ k → k < a + (n : Int) → LCg.NsObj oC m₂ → m₂ x = some (.int k t) → Fr h₀ L h m → News h₀ L h ((I, oI) :: (C, oC) :: (D, LCg.lst ys) :: news) → LCg.Off3 I C D news → ((@Ne Nat I C) ∧ (@Ne Nat I D) ∧ (@Ne Nat C D)) →
      wpAny (model prog w) A (eval elt (compEnvC scope cl C env)) (LCg.CompEnd h₀ L m { s with heap := h, toks := tk } I oI C oC D (LCg.lst ys) S (fun y news' => ChEl news y news')) E' { s with heap := h, toks := tk })
    (fin : ∀ ys cs, Chs ys cs → cs.length = n → (∀ c ∈ cs, c ∈ noteCps) → Fin ys news) : LCg.CompRest prog w A h₀ L m env elt x scope cl s S (fun i v => ∃ t, v = .int (a + (i : Int)) t) Fin n 0 [] news := by
  have key : ∀ (j i : Nat) (ys : List Value) (cs : List Nat), i + j = n → Chs ys cs → cs.length = i → (∀ c ∈ cs, c ∈ noteCps) → LCg.CompRest prog w A h₀ L m env elt x scope cl s S (fun i v => ∃ t, v = .int (a + (i : Int)) t) Fin j i ys news := by
    intro j
    induction j with
    | zero =>
      intro i ys cs hi hy hl hc
      exact LCg.CompRest.zero (fin ys cs hy (by omega) hc)
    | succ j ih =>
      intro i ys cs hi hy hl hc
      refine LCg.CompRest.succ ?_
      intro v I oI C oC D m₂ h tk E' hv hC hx F N off ne
      obtain ⟨t, rfl⟩ := hv
      refine wpAny_mono (turn _ t I oI C oC D m₂ ys h tk E' (by omega) (by omega) hC hx F N off ne) (fun y s₂ hq => ?_) fun _ _ e => e
      obtain ⟨h', tk', nw, e, F', N', off', hS, hn, c, t', hy', hcc⟩ := hq
      rw [hn] at N' off' hS
      refine ⟨h', tk', news, e, F', N', off', hS, ?_⟩
      rw [hy']
      refine ih (i + 1) _ (cs ++ [c]) (by omega) hy.snoc (by simp [hl]) fun d hd => ?_
      rcases List.mem_append.mp hd with h1 | h1
      · exact hc d h1
      · rw [List.mem_singleton.mp h1]; exact hcc
  exact key n 0 [] [] (by omega) .nil rfl (fun c hc => by cases hc)
end
theorem fm_range (a : Int) : 0 ≤ a.fmod 8 ∧ a.fmod 8 < 8 := by rw [fm _ (by decide)]; omega
theorem note_end {h₀ : Heap} {L I C D : Addr} {m : Str → Option Value} {s₁ : Shared} {oI oC oD : Obj} {S : List (Addr × Obj) → Prop} {h' : Heap} {tk : Nat} {news : List (Addr × Obj)} {a : Int} {t : Tok}
    (F : Fr h₀ L h' m) (N : News h₀ L h' ((I, oI) :: (C, oC) :: (D, oD) :: news)) (off : LCg.Off3 I C D news) (hS : S news) :
    LCg.CompEnd h₀ L m s₁ I oI C oC D oD S (fun y news' => ChEl news y news') (.str (Txt.item (PySem.Str.ofString " \na\tb\x0b\xa07") (a.fmod 8)) t) { s₁ with heap := h', toks := tk } := by
  obtain ⟨c, hc1, hc2⟩ := item_note (fm_range a).1 (fm_range a).2
  rw [hc1]
  exact LCg.CompEnd.intro F N news (fun p hp => hp) off hS ⟨rfl, c, t, rfl, hc2⟩
theorem join_chs (cs : List Nat) : Txt.join (PySem.Str.ofString "") (cs.map fun c => (⟨#[c]⟩ : Str)) = ⟨cs.toArray⟩ := by
  show Builtin.Str.glued _ _ = _
  rw [StrLaws.glued_eq_join, show PySem.Str.ofString "" = (⟨#[]⟩ : Str) from by decide +kernel, join_e]
  congr 2
  induction cs with
  | nil => rfl
  | cons c r ih => simp only [List.map_cons, List.flatMap_cons, ih]; rfl
theorem sum_chs (cs : List Nat) : ((cs.map fun c => (⟨#[c]⟩ : Str)).map (·.length)).sum = cs.length := by
  induction cs with
  | nil => rfl
  | cons c r ih => simp only [List.map_cons, List.sum_cons, ih, List.length_cons]; show 1 + _ = _; omega
theorem note_wht : ∀ c ∈ noteCps, Unicode.isSpace c = wht c := by decide +kernel
end Mine
-- Ee
theorem Mine.rst_Ee : True := by
  w_top off
  trivial
namespace Mine
noncomputable def chain : Int → List En → Prop
  | _, [] => True
  | a, e :: r => 0 ≤ e.depth ∧ e.depth ≤ a + 1 ∧ chain e.depth r
noncomputable def lastD : Int → List En → Int
  | a, [] => a
  | _, e :: r => lastD e.depth r
def EeJ (D C1 l : Addr) (C : Nat) (news : List (Addr × Obj)) (i : Nat) (m₁ : Str → Option Value) (news₁ : List (Addr × Obj)) : Prop :=
  ∃ ws es kk oc vc ab ta tc R, news₁ = (D, W.listOf ws.toArray kk) :: (C1, oc) :: R ∧ oc.data = .cell vc ∧ (∀ p ∈ R, p.1 ≠ D ∧ p.1 ≠ C1) ∧ (∀ p ∈ news, p ∈ R) ∧ EnsIn R ws es ∧ ws.length = i ∧ (∀ e ∈ es, EnOkR e) ∧ chain (-1) es ∧ ab = lastD (-1) es ∧ -1 ≤ ab ∧ ab ≤ (i : Int) - 1 ∧
    m₁ (PySem.Str.ofString "entries") = some (.ref D) ∧ m₁ (PySem.Str.ofString "above") = some (.int ab ta) ∧ m₁ (PySem.Str.ofString "script") = some (.ref l) ∧ m₁ (PySem.Str.ofString "count") = some (.int (C : Int) tc)
theorem chain_snoc {e : En} : ∀ (a : Int) (es : List En), chain a es → 0 ≤ e.depth → e.depth ≤ lastD a es + 1 → chain a (es ++ [e])
  | _, [], _, h1, h2 => ⟨h1, h2, trivial⟩
  | _, x :: r, ⟨a1, a2, a3⟩, h1, h2 => ⟨a1, a2, chain_snoc x.depth r a3 h1 h2⟩
theorem lastD_snoc {e : En} : ∀ (a : Int) (es : List En), lastD a (es ++ [e]) = e.depth
  | _, [] => rfl
  | _, x :: r => lastD_snoc x.depth r
theorem ee_next {D C1 l T : Addr} {C : Nat} {news : List (Addr × Obj)} {i : Nat} {m₁ : Str → Option Value} {ws : List Value} {es : List En} {kk n : Nat} {oc : Obj} {vc : Option Value} {ab : Int} {R : List (Addr × Obj)} {e : En} {t1 t2 t3 t4 t5 ta tc : Tok}
    (hoc : oc.data = .cell vc) (hR : ∀ p ∈ R, p.1 ≠ D ∧ p.1 ≠ C1) (hT : T ≠ D ∧ T ≠ C1) (hsub : ∀ p ∈ news, p ∈ R) (hes : EnsIn R ws es) (hwl : ws.length = i) (hok : ∀ e ∈ es, EnOkR e) (hch : chain (-1) es) (hab : ab = lastD (-1) es) (ab1 : -1 ≤ ab) (ab2 : ab ≤ (i : Int) - 1)
    (he : EnOkR e) (hd : e.depth ≤ ab + 1) (g1 : m₁ (PySem.Str.ofString "entries") = some (.ref D)) (g2 : m₁ (PySem.Str.ofString "above") = some (.int e.depth ta)) (g3 : m₁ (PySem.Str.ofString "script") = some (.ref l)) (g4 : m₁ (PySem.Str.ofString "count") = some (.int (C : Int) tc)) :
    EeJ D C1 l C news (i + 1) m₁ ((D, W.listOf (ws.toArray.push (.ref T)) (kk + 1)) :: (C1, oc) :: (T, enObj e t1 t2 t3 t4 t5 n) :: R) := by
  refine ⟨ws ++ [.ref T], es ++ [e], kk + 1, oc, vc, e.depth, ta, tc, (T, enObj e t1 t2 t3 t4 t5 n) :: R, by simp, hoc, ?_, fun p hp => .tail _ (hsub p hp), (hes.mono fun _ hp => .tail _ hp).append (.cons (.mk (.head _)) .nil), by simp [hwl], ?_, chain_snoc _ _ hch he.d0 (by rw [← hab]; exact hd), (lastD_snoc _ _).symm, by have := he.d0; omega, by omega, g1, g2, g3, g4⟩
  · intro p hp
    rcases List.mem_cons.mp hp with rfl | h
    · exact hT
    · exact hR p h
  · intro x hx
    rcases List.mem_append.mp hx with h | h
    · exact hok x h
    · rw [List.mem_singleton.mp h]; exact he
theorem en_ok {d st kd : Int} {z : Value} {told : Str} {cs : List Nat} (h1 : 0 ≤ d) (h2 : d ≤ 100) (h3 : 0 ≤ st) (h4 : st ≤ 4) (hz : ZoneOk kd z told) (hc : cs.length ≤ 4) (hcn : ∀ c ∈ cs, c ∈ noteCps) : EnOkR ⟨d, st, kd, z, told, ⟨cs.toArray⟩⟩ := by
  have hf : told.length ≤ 27 ∧ ∀ c ∈ told.cps.toList, Unicode.isSpace c = wht c := by
    rcases hz with ⟨_, _, rfl⟩ | ⟨_, h⟩
    · exact ⟨by decide, fun c hc => by cases hc⟩
    · exact off_fine h
  refine ⟨h1, h2, h3, h4, ?_, hz, ?_⟩
  · have : (⟨cs.toArray⟩ : Str).length = cs.length := by simp [Str.length]
    show told.length + (⟨cs.toArray⟩ : Str).length ≤ 31
    have := hf.1
    omega
  · intro c hc
    rcases List.mem_append.mp hc with h | h
    · exact hf.2 c h
    · exact note_wht c (hcn c (by simpa using h))
theorem perm5 {x y z w p : Addr × Obj} {R : List (Addr × Obj)} (h : p ∈ x :: y :: z :: w :: R) : p ∈ y :: w :: x :: z :: R := by
  simp only [List.mem_cons] at h ⊢
  rcases h with h | h | h | h | h
  · exact .inr (.inr (.inl h))
  · exact .inl h
  · exact .inr (.inr (.inr (.inl h)))
  · exact .inr (.inl h)
  · exact .inr (.inr (.inr (.inr h)))
theorem storeC {M : Model} {A : Around} {E : Value → Shared → Prop} {s : Shared} {h₀ : Heap} {L a : Addr} {m : Str → Option Value} {cn : Str} {cs : Scope} {ccd : Value} {cl : List (Str × Addr)} {x : Str} {v : Value} {post : List (Addr × Obj)} {c : Addr} {o : Obj} {v₀ : Option Value} {Q : Unit → Shared → Prop}
    (F : Fr h₀ L s.heap m) (N : News h₀ L s.heap ((c, o) :: post)) (hc : cl.lookup x = some c) (hne : ∀ p ∈ post, p.1 ≠ c) (hd : o.data = .cell v₀)
    (h : ∀ h' o', Fr h₀ L h' m → News h₀ L h' ((c, o') :: post) → o'.data = .cell (some v) → Q () { s with heap := h' })
    (hk : cs.kind = .function := by rfl) (hx : (envX cn cs L a ccd cl).kindOf x = some .cell := by rfl) : wpAny M A (storeName (envX cn cs L a ccd cl) x v) Q E s := by
  have hmem := N (c, o) (.head _)
  refine wpAny_storeName_cell hk hx hc ⟨o, hmem.1, hd⟩ fun h' hv hs => ?_
  obtain ⟨o', ho', hd'⟩ := hv
  refine h h' o' ⟨F.ns.sameBut hs (Ne.symm hmem.2.1), fun b ob e => (hs.2 b (fun q => ?_)).trans (F.keep b ob e), F.above⟩ (fun p hp => ?_) hd'
  · rw [q, hmem.2.2] at e; cases e
  · rcases List.mem_cons.mp hp with rfl | hp
    · exact ⟨ho', hmem.2⟩
    · exact ⟨(hs.2 _ (hne p hp)).trans (N p (.tail _ hp)).1, (N p (.tail _ hp)).2⟩
local macro_rules | `(tactic| walk_at "exec For Tuple Name cons nil") => `(tactic| (k_here; k_dflt (refine For_led ?_)))
local macro_rules | `(tactic| walk_at "exec For Name Call cons nil") => `(tactic| (k_here; k_dflt (refine For_led ?_)))
local macro_rules | `(tactic| walk_at "CompSrc") => `(tactic| (k_here; (refine hold ?_)))
local macro_rules | `(tactic| walk_at "CompEnd") => `(tactic| (refine hold ?_))
local macro_rules | `(tactic| walk_at "call builtin:list.append") => `(tactic| (k_here; (refine hold ?_)))
local macro_rules | `(tactic| walk_at "call ref") => `(tactic| (k_here; (refine hold ?_)))
local macro_rules | `(tactic| walk_at "subscriptTail List Name ref int") => `(tactic| (k_here; (refine hold ?_)))
local macro_rules | `(tactic| k_mem) => `(tactic| first | exact List.Mem.head _ | assumption | (refine' List.Mem.tail _ ?_; k_mem))
theorem entries_call {w : World} {mean : ExcName → Option Value} {mg mb : Str → Option Value} {dp un : Nat} {gd : Option (List Code)} {cn : Str} {cs : Scope} {a : Addr} {ccd : Value} {cl : List (Str × Addr)} {outer : List Env} {A₀ : Around} {base h₀ : Heap} {L : Addr} {m : Str → Option Value} {news : List (Addr × Obj)} {s : Shared} {Q E : Value → Shared → Prop} (B : Below A₀ base outer h₀) (F : Fr h₀ L s.heap m) (X : Frag.In (Mine.hd.heap_39 w.params) h₀) (N : News h₀ L s.heap news) (T : Top Mine.hd.view_39 (looseW Mine.hd.view_39 [PySem.Str.ofString "_twin_re_1", PySem.Str.ofString "_indent", PySem.Str.ofString "UTC_ZONES", PySem.Str.ofString "TIMEZONE_RE", PySem.Str.ofString "_safe_string"]) mean mg mb h₀) (hk : cs.kind = .function) (hd : dp + 2 < recursionLimit) (hu : un + 16 < cLine) (l : Addr) (vs : List Value) (xs : List Int) (hl : h₀.IsList l vs.toArray) (hI : IntsAre vs xs) (hn : xs.length ≤ 63)
    (hret : ∀ D ws es kk news' h' tk', (∀ p ∈ news, p ∈ news') → (D, W.listOf ws.toArray kk) ∈ news' → EnsIn news' ws es → (∀ e ∈ es, EnOkR e) → es.length ≤ 6 → chain (-1) es → Fr h₀ L h' m → News h₀ L h' news' → Q (.ref D) { s with heap := h', toks := tk' }) :
    wpAny (model PySem.Challenge.rw_zn0001_01.row.prog w) (ktrTop dp un gd cn cs L a ccd cl outer) (call (.ref 91) [.ref l]) Q E s := by
  (revert X; k_fill; intro X)
  refine wpAny_call ?_
  (k_dflt (refine' code_defC ?k1 ?k2 ?k3 ?k4 ?k5 ?kA ?kF ?kK ?k6 ?k7 ?k8 ?k9 ?kB ?kD ?_ ?c2 ?c3 ?c4; (case kA => exact rfl); (case kF => exact rfl); (case kK => assumption); (case k1 => k_asm); (case k2 => k_asm); (case k3 => k_asm); (case k4 => k_asm); (case k5 => k_asm); (case k6 => k_is); (case k7 => k_is); (case k8 => ktr_room); (case k9 => first | exact BindsTo.of_eq rfl | exact binds_K (by k_in) rfl (by k_is) rfl rfl rfl); (case kB => exact rfl); (case kD => decide +kernel); (case c2 => exact rfl); (case c3 => exact rfl); (case c4 => exact rfl); k_whole; intro g' L' h' tk' cells' FG' F' N' Y' B' X' T' l1; (try k_lt l1); k_cells Y'; (try simp only [List.cons_append, List.nil_append] at N'); (try dsimp only); (try k_lift B'); (try k_fold)))
  refine noexc ?_
  have hl2 : g'.IsList l vs.toArray := hl.at fun o e => FG'.keep l o e
  have hvl := hI.length
  k_steps
  rename Fr _ _ _ _ => F9
  rename News _ _ _ _ => N9
  rename IsRange _ _ _ _ _ _ _ _ => R9
  rename (L' + 1 < _ ∧ _) => lD
  first | (rename_i D _ _ _ _ _ _; have chk : D ≠ L' + 1 := Nat.ne_of_gt lD.1; clear chk) | (rename_i D _ _ _ _ _ _ _; have chk : D ≠ L' + 1 := Nat.ne_of_gt lD.1; clear chk) | (rename_i D _ _ _ _ _ _ _ _; have chk : D ≠ L' + 1 := Nat.ne_of_gt lD.1; clear chk) | (rename_i D _ _ _ _ _ _ _ _ _; have chk : D ≠ L' + 1 := Nat.ne_of_gt lD.1; clear chk) | (rename_i D _ _ _ _ _ _ _ _ _ _; have chk : D ≠ L' + 1 := Nat.ne_of_gt lD.1; clear chk) | (rename_i D _ _ _ _ _ _ _ _ _ _ _; have chk : D ≠ L' + 1 := Nat.ne_of_gt lD.1; clear chk) | (rename_i D _ _ _ _ _ _ _ _ _ _ _ _; have chk : D ≠ L' + 1 := Nat.ne_of_gt lD.1; clear chk) | (rename_i D _ _ _ _ _ _ _ _ _ _ _ _ _; have chk : D ≠ L' + 1 := Nat.ne_of_gt lD.1; clear chk) | (rename_i D _ _ _ _ _ _ _ _ _ _ _ _ _ _; have chk : D ≠ L' + 1 := Nat.ne_of_gt lD.1; clear chk) | (rename_i D _ _ _ _ _ _ _ _ _ _ _ _ _ _ _; have chk : D ≠ L' + 1 := Nat.ne_of_gt lD.1; clear chk) | (rename_i D _ _ _ _ _ _ _ _ _ _ _ _ _ _ _ _; have chk : D ≠ L' + 1 := Nat.ne_of_gt lD.1; clear chk) | (rename_i D _ _ _ _ _ _ _ _ _ _ _ _ _ _ _ _ _; have chk : D ≠ L' + 1 := Nat.ne_of_gt lD.1; clear chk)
  have hDC : D ≠ L' + 1 := Nat.ne_of_gt lD.1
  have hN0 : ∀ p ∈ news, p.1 ≠ D ∧ p.1 ≠ L' + 1 := fun p hp => by
    have h1 := l1 p hp
    have h2 := lD.1
    exact ⟨Nat.ne_of_lt (Nat.lt_trans (Nat.lt_succ_of_lt h1) h2), Nat.ne_of_lt (Nat.lt_succ_of_lt h1)⟩
  have hCb : 4 ≤ (4 + if ((xs.length : Nat) : Int).fdiv 4 < 2 then ((xs.length : Nat) : Int).fdiv 4 else 2) ∧ (4 + if ((xs.length : Nat) : Int).fdiv 4 < 2 then ((xs.length : Nat) : Int).fdiv 4 else 2) ≤ 6 := by
    rw [fd _ (by decide)]; split <;> omega
  generalize (4 + if ((xs.length : Nat) : Int).fdiv 4 < 2 then ((xs.length : Nat) : Int).fdiv 4 else 2) = CC at *
  obtain ⟨C, rfl⟩ := Int.eq_ofNat_of_zero_le (show 0 ≤ CC by omega)
  refine iter_rng (EeJ D (L' + 1) l C news) rfl F9 N9 R9 (by omega) ⟨[], [], _, _, _, _, _, _, news, rfl, by assumption, hN0, fun p hp => hp, .nil, rfl, (fun e he => by cases he), trivial, rfl, by decide, by decide, rfl, rfl, rfl, rfl⟩ ?_ ?_
  · rintro i tv m₁ news₁ h tk I oI hi ⟨ws, es, kk, oc, vc, ab, ta, tc, R, rfl, hoc, hR, hsub, hes, hwl, hok, hch, hab, ab1, ab2, g1, g2, g3, g4⟩ F₁ N₁ hne
    replace F₁ := fr_same F₁ g4
    replace F₁ := fr_same F₁ (x := PySem.Str.ofString "script") (v := .ref l) (by rw [if_neg (by decide)]; exact g3)
    replace F₁ := fr_same F₁ (x := PySem.Str.ofString "above") (v := .int ab ta) (by rw [if_neg (by decide), if_neg (by decide)]; exact g2)
    replace F₁ := fr_same F₁ (x := PySem.Str.ofString "entries") (by rw [if_neg (by decide), if_neg (by decide), if_neg (by decide)]; exact g1)
    clear F9 N9 R9
    k_steps
    rename Fr _ _ _ _ => F9
    rename News _ _ _ _ => N9
    refine LSm.sum_ints F9 N9 rfl (vs := (slicePick vs.toArray (some (i : Int)) none (some (C : Int))).toList) ⟨_, (N9 _ (.head _)).1, rfl, _, rfl⟩ (hI.pick _ _ _) fun h2 tk2 t2 F2 N2 => ?_
    generalize (pickNums xs (some (i : Int)) none (some (C : Int))).sum = S at *
    generalize ([397446252720, 36069124381, 6174800640062, 2101, 291, 300] : List Int).getD ((i : Int)).toNat 0 = K0 at *
    have N3 : News g' L' h2 ((I, oI) :: (D, W.listOf ws.toArray kk) :: (L' + 1, oc) :: R) := fun p hp => N2 p (.tail _ (.tail _ hp))
    clear N2 N9 F9
    k_steps
    have hab3 : 0 < ab + 2 := by omega
    generalize K0 + 1000003 * S = NB at *
    have hk1 : 0 ≤ (NB.fdiv 300).fmod 8 ∧ (NB.fdiv 300).fmod 8 < 8 := by rw [fm _ (by decide)]; omega
    ((try unfold Hold); (k_dflt (refine' zone_call ?kA14 ?kB14 ?kC14 ?kD14 ?kE14 ?kK14 ?kd14 ?ku14 _ _ _ _ hk1.1 hk1.2 ?_; (case kA14 => k_asm); (case kB14 => k_asm); (case kC14 => k_asm); (case kD14 => k_asm); (case kE14 => k_asm); (case kK14 => exact rfl); (case kd14 => (show dp + 1 + 1 < recursionLimit; omega)); (case ku14 => (show un + 3 + 8 < cLine; omega)))))
    intro T9 z9 told9 t9 n9 h9 tk9 hz9 F9 N9
    k_steps
    rename Fr _ _ _ _ => F9
    rename News _ _ _ _ => N9
    have N5 : News g' L' _ ((L' + 1, oc) :: (I, oI) :: (D, W.listOf ws.toArray kk) :: R) := fun p hp => N9 p (by
      simp only [List.mem_cons] at hp ⊢
      rcases hp with h | h | h | h
      · exact .inr (.inr (.inr (.inl h)))
      · exact .inr (.inl h)
      · exact .inr (.inr (.inl h))
      · exact .inr (.inr (.inr (.inr h))))
    refine storeC F9 N5 rfl (fun p hp => ?_) hoc fun h5 oc5 F5 N6 hoc5 => ?_
    · simp only [List.mem_cons] at hp
      rcases hp with rfl | rfl | h
      · exact fun e => hne (L' + 1, oc) (.tail _ (.head _)) e.symm
      · exact hDC
      · exact (hR p h).2
    clear N9 N5 F9 hoc
    k_steps
    unfold Hold
    rename Fr _ _ _ _ => F9
    rename News _ _ _ _ => N9
    rename IsRange _ _ _ _ _ _ _ _ => R9
    have hr5 : 0 ≤ ((NB.fdiv 2400).fdiv 242400).fmod 5 ∧ ((NB.fdiv 2400).fdiv 242400).fmod 5 < 5 := by rw [fm _ (by decide)]; omega
    generalize (NB.fdiv 2400).fdiv 242400 = RR at *
    refine LCg.CompSrc.range (by rfl) F9 N9 R9 (small_one (by decide) (by decide) (by omega) (by omega)) (rangeSize_nat _ _) (by rw [PySem.sizeLine_eq]; omega) ?_
    intro g9
    refine nch_range (fun k t I2 oI2 C2 oC2 D2 m2 ys2 h2 tk2 E2 hlo hhi hC hx F2 N2 off ne => ?_) ?_
    · have off0 := off
      simp only [LCg.Off3, and_true] at off
      have hp := pow8 hlo (by omega)
      k_steps
      unfold Hold
      exact note_end F2 N2 off0 trivial
    · intro ys cs hcs hcl hcn
      have hyl := hcs.length
      k_steps
      rename Fr _ _ _ _ => F8
      rename News _ _ _ _ => N8
      refine join_list (ys := cs.map fun c => (⟨#[c]⟩ : Str)) ⟨_, (N8 _ (.head _)).1, rfl, _, rfl⟩ hcs.strs (by rw [sum_chs, List.length_map, hcl, show (PySem.Str.ofString "").length = 0 from by decide +kernel]; omega) fun t8 k8 => ?_
      rw [join_chs]
      have N7 : News g' L' _ ((I, oI) :: (D, W.listOf ws.toArray kk) :: (L' + 1, oc5) :: R) := fun p hp => N8 p (by
        simp only [List.mem_cons] at hp ⊢
        rcases hp with h | h | h | h
        · exact .inr (.inr (.inl h))
        · exact .inr (.inr (.inr (.inl h)))
        · exact .inr (.inl h)
        · exact .inr (.inr (.inr (.inr h))))
      clear N8
      k_steps
      unfold Hold
      rename Fr _ _ _ _ => F4
      rename News _ _ _ _ => N4
      rename (I < _ ∧ _) => lT
      have hdR : 0 ≤ (NB.fmod 60).fmod (ab + 2) ∧ (NB.fmod 60).fmod (ab + 2) < ab + 2 := by rw [fm _ (by omega)]; exact ⟨Int.emod_nonneg _ (by omega), Int.emod_lt_of_pos _ (by omega)⟩
      have hsR : 0 ≤ (NB.fdiv 60).fmod 5 ∧ (NB.fdiv 60).fmod 5 < 5 := by rw [fm _ (by decide)]; omega
      have hne2 : D ≠ I := hne (D, W.listOf ws.toArray kk) (.head _)
      have N7 : News g' L' _ ((D, W.listOf ws.toArray kk) :: _ :: (I, oI) :: (L' + 1, oc5) :: R) := fun p hp => N4 p (by
        simp only [List.mem_cons] at hp ⊢
        rcases hp with h | h | h | h | h
        · exact .inr (.inr (.inl h))
        · exact .inl h
        · exact .inr (.inl h)
        · exact .inr (.inr (.inr (.inl h)))
        · exact .inr (.inr (.inr (.inr h))))
      refine append_K F4 N7 (.head ?_) (fun h3 F3 N3 => ?_) (by rw [sizeLine_eq]; simp; omega)
      · intro p hp
        simp only [List.mem_cons] at hp
        rcases hp with rfl | rfl | rfl | h
        · exact Nat.ne_of_gt lT.2.1
        · exact fun e => hne2 e.symm
        · exact fun e => hDC e.symm
        · exact (hR p h).1
      clear N4 N7 F4
      k_steps
      rename Fr _ _ _ _ => F4
      have hok9 := en_ok hdR.1 (show (NB.fmod 60).fmod (ab + 2) ≤ 100 by omega) hsR.1 (show (NB.fdiv 60).fmod 5 ≤ 4 by omega) hz9 (show cs.length ≤ 4 by omega) hcn
      refine TurnOk.intro F4 N3 (fun p hp => perm5 hp) ?_ (ee_next (e := ⟨_, _, _, z9, told9, ⟨cs.toArray⟩⟩) hoc5 hR ⟨Nat.ne_of_gt lT.2.1, Nat.ne_of_gt lT.2.2.1⟩ hsub hes hwl hok hch hab ab1 ab2 hok9 (by show (NB.fmod 60).fmod (ab + 2) ≤ ab + 1; omega) rfl rfl rfl rfl)
      intro p hp
      simp only [List.mem_cons] at hp
      rcases hp with rfl | rfl | rfl | h
      · exact hne2
      · exact hne (L' + 1, oc) (.tail _ (.head _))
      · exact Nat.ne_of_gt lT.1
      · exact hne p (.tail _ (.tail _ h))
  · rintro m₁ news₁ h tk ⟨ws, es, kk, oc, vc, ab, ta, tc, R, rfl, hoc, hR, hsub, hes, hwl, hok, hch, hab, ab1, ab2, g1, g2, g3, g4⟩ F₁ N₁
    replace F₁ := fr_same F₁ g1
    clear F9 N9 R9
    k_steps
    refine hret D ws es kk _ _ _ ?_ (.head _) (hes.mono fun p hp => .tail _ (.tail _ hp)) hok ?_ hch (by assumption) (by assumption)
    · exact fun p hp => .tail _ (.tail _ (hsub p hp))
    · have := hes.length; omega
end Mine
-- Pl
theorem Mine.rst_Pl : True := by
  w_top off
  trivial
namespace Mine
theorem ind_app (sp : List Nat) : ∀ (a b : List Nat) (fl : Bool), ind sp fl (a ++ 10 :: b) = ind sp fl (a ++ [10]) ++ ind sp true b
  | [], b, fl => by simp [ind]
  | c :: r, b, fl => by
    simp only [List.cons_append, ind, ind_app sp r b, List.append_assoc]
def NlEnd (a : List Nat) : Prop := a = [] ∨ ∃ a', a = a' ++ [10]
theorem ind_cat (sp : List Nat) {a : List Nat} (b : List Nat) (h : NlEnd a) : ind sp true (a ++ b) = ind sp true a ++ ind sp true b := by
  rcases h with rfl | ⟨a', rfl⟩
  · rfl
  · rw [List.append_assoc]; exact ind_app sp a' b true
theorem ind_end (sp : List Nat) : ∀ (a : List Nat) (fl : Bool), ∃ a', ind sp fl (a ++ [10]) = a' ++ [10]
  | [], fl => ⟨[], by simp [ind]⟩
  | c :: r, fl => by
    obtain ⟨a', h⟩ := ind_end sp r (c == 10)
    exact ⟨(if fl = true ∧ c ≠ 10 then sp else []) ++ c :: a', by simp only [List.cons_append, ind, h, List.append_assoc]⟩
theorem NlEnd.ind {a : List Nat} (h : NlEnd a) (sp : List Nat) : NlEnd (Mine.ind sp true a) := by
  rcases h with rfl | ⟨a', rfl⟩
  · exact .inl rfl
  · exact .inr (ind_end sp a' true)
theorem NlEnd.app {a b : List Nat} (ha : NlEnd a) (hb : NlEnd b) : NlEnd (a ++ b) := by
  rcases hb with rfl | ⟨b', rfl⟩
  · rw [List.append_nil]; exact ha
  · exact .inr ⟨a ++ b', by rw [List.append_assoc]⟩
theorem repF_end : ∀ (n : Nat) (es : List En), NlEnd (repF n es)
  | 0, _ => .inl rfl
  | _ + 1, [] => .inl rfl
  | n + 1, e :: r => NlEnd.app (.inr ⟨_, rfl⟩) (((repF_end n _).ind _).app (repF_end n _))
theorem ind_ind (a b : Nat) : ∀ (l : List Nat) (fl : Bool), ind (bl a) fl (ind (bl b) fl l) = ind (bl (a + b)) fl l
  | [], _ => rfl
  | c :: r, fl => by
    by_cases h : fl = true ∧ c ≠ 10
    · have e1 : ind (bl b) fl (c :: r) = (bl b ++ [c]) ++ ind (bl b) false r := by
        have : (c == 10) = false := by simpa using h.2
        simp [ind, h, this]
      have e2 : ind (bl (a + b)) fl (c :: r) = (bl (a + b) ++ [c]) ++ ind (bl (a + b)) false r := by
        have : (c == 10) = false := by simpa using h.2
        simp [ind, h, this]
      rw [e1, e2, h.1, ind_free (bl a) (bl b ++ [c]) _ (fun x hx => ?_) (by simp), ind_ind a b r false]
      · rw [show bl (a + b) = bl a ++ bl b from by simp [bl]]
        simp only [List.append_assoc]
      · rcases List.mem_append.mp hx with h1 | h1
        · rw [(List.mem_replicate.mp h1).2]; decide
        · rw [List.mem_singleton.mp h1]; exact h.2
    · simp only [ind, if_neg h, List.nil_append, ind_ind a b r]
def stGo (st : List Int) (es : List En) : List Int := es.foldl after st
theorem dueGo_app : ∀ (st : List Int) (a b : List En), dueGo st (a ++ b) = dueGo st a ++ dueGo (stGo st a) b
  | _, [], _ => rfl
  | st, e :: r, b => by
    simp only [List.cons_append, dueGo, dueGo_app (after st e) r b, List.append_assoc]
    rfl
theorem stGo_keep (d : Nat) : ∀ (es : List En) (st : List Int), (∀ e ∈ es, d ≤ e.depth.toNat) → d ≤ st.length → (stGo st es).take d = st.take d ∧ d ≤ (stGo st es).length
  | [], _, _, h => ⟨rfl, h⟩
  | e :: r, st, h, hl => by
    have h1 := h e (.head _)
    have hl2 : d ≤ (after st e).length := by unfold after; simp; omega
    obtain ⟨i1, i2⟩ := stGo_keep d r (after st e) (fun x hx => h x (.tail _ hx)) hl2
    refine ⟨?_, i2⟩
    show (stGo (after st e) r).take d = _
    rw [i1]
    unfold after
    rw [List.take_append_of_le_length (by simp; omega), List.take_take, Nat.min_eq_left h1]
theorem chain_app : ∀ (a : Int) (l r : List En), chain a (l ++ r) → chain a l ∧ chain (lastD a l) r
  | _, [], _, h => ⟨trivial, h⟩
  | _, e :: l, r, ⟨h1, h2, h3⟩ => by
    obtain ⟨i1, i2⟩ := chain_app e.depth l r h3
    exact ⟨⟨h1, h2, i1⟩, i2⟩
theorem mem_tw {α : Type} {p : α → Bool} : ∀ {l : List α} {x : α}, x ∈ l.takeWhile p → p x = true
  | [], _, h => by cases h
  | a :: l, x, h => by
    rw [List.takeWhile_cons] at h
    split at h
    · rename_i hp
      rcases List.mem_cons.mp h with rfl | h
      · exact hp
      · exact mem_tw h
    · cases h
theorem sum_pos : ∀ l : List Int, (∀ x ∈ l, 0 ≤ x) → 0 ≤ l.sum
  | [], _ => by simp
  | a :: l, h => by
    have h1 := h a (.head _)
    have h2 := sum_pos l fun x hx => h x (.tail _ hx)
    rw [List.sum_cons]; omega
theorem stGo_pos : ∀ (es : List En) (st : List Int), (∀ x ∈ st, 0 ≤ x) → (∀ e ∈ es, 0 ≤ e.step) → ∀ x ∈ stGo st es, 0 ≤ x
  | [], _, h, _ => h
  | e :: r, st, h, he => stGo_pos r (after st e) (fun x hx => by
      rcases List.mem_append.mp hx with h1 | h1
      · exact h x (List.mem_of_mem_take h1)
      · rw [List.mem_singleton.mp h1]; exact he e (.head _)) fun x hx => he x (.tail _ hx)
theorem rest_chain {e : En} {r rest : List En} {a : Int} {d : Nat} (hr : rest = r.dropWhile fun x => decide (e.depth < x.depth)) (h : chain a rest) (hd : e.depth = (d : Int)) : chain ((d : Int) - 1) rest := by
  cases rest with
  | nil => trivial
  | cons f q =>
    obtain ⟨h1, h2, h3⟩ := h
    have hf : ¬ e.depth < f.depth := by
      have h4 := List.head?_dropWhile_not (fun x : En => decide (e.depth < x.depth)) r
      rw [← hr] at h4
      simpa using h4
    exact ⟨h1, by omega, h3⟩
theorem due_is : ∀ (n : Nat) (es : List En), es.length ≤ n → ∀ (d : Nat) (st : List Int), d ≤ st.length → (∀ x ∈ st, 0 ≤ x) → (∀ e ∈ es, (d : Int) ≤ e.depth ∧ 0 ≤ e.step) → chain ((d : Int) - 1) es →
    dueGo st es = ind (bl (4 + (st.take d).sum.toNat)) true (rep es)
  | _, [], _, _, _, _, _, _, _ => rfl
  | 0, _ :: _, hn, _, _, _, _, _, _ => by simp at hn
  | n + 1, e :: r, hn, d, st, hl, hst, hes, ⟨c1, c2, c3⟩ => by
    have he := hes e (.head _)
    have hd : e.depth = (d : Int) := by omega
    have hdn : e.depth.toNat = d := by omega
    rw [rep_cons]
    obtain ⟨kids, hk⟩ : ∃ kids, kids = r.takeWhile fun x => decide (e.depth < x.depth) := ⟨_, rfl⟩
    obtain ⟨rest, hr⟩ : ∃ rest, rest = r.dropWhile fun x => decide (e.depth < x.depth) := ⟨_, rfl⟩
    have hkr : r = kids ++ rest := by rw [hk, hr, List.takeWhile_append_dropWhile]
    rw [← hk, ← hr]
    have hkl : kids.length ≤ n ∧ rest.length ≤ n := by
      have := congrArg List.length hkr
      rw [List.length_append] at this
      simp at hn; omega
    have hmk : ∀ x ∈ kids, e.depth < x.depth := fun x hx => by
      rw [hk] at hx
      have := mem_tw hx
      simpa using this
    have hmem : ∀ x, x ∈ kids ∨ x ∈ rest → x ∈ e :: r := fun x hx => by
      rw [hkr]
      rcases hx with h | h
      · exact .tail _ (List.mem_append_left _ h)
      · exact .tail _ (List.mem_append_right _ h)
    rw [hkr] at c3
    obtain ⟨k1, k2⟩ := chain_app _ _ _ c3
    have hst' : ∀ x ∈ after st e, 0 ≤ x := fun x hx => by
      rcases List.mem_append.mp hx with h | h
      · exact hst x (List.mem_of_mem_take h)
      · rw [List.mem_singleton.mp h]; exact he.2
    have hal : (after st e).length = d + 1 := by unfold after; rw [hdn]; simp; omega
    have hat : (after st e).take (d + 1) = st.take d ++ [e.step] := by rw [List.take_of_length_le (by omega)]; unfold after; rw [hdn]
    have hkeep := stGo_keep d kids (after st e) (fun x hx => by have := hmk x hx; omega) (by omega)
    have hdk := due_is n kids hkl.1 (d + 1) (after st e) (by omega) hst' (fun x hx => ⟨by have := hmk x hx; omega, (hes x (hmem x (.inl hx))).2⟩) (by
      rw [show (((d + 1 : Nat) : Int) - 1) = e.depth by omega]; exact k1)
    have hkst : ∀ x ∈ stGo (after st e) kids, 0 ≤ x := stGo_pos kids _ hst' fun x hx => (hes x (hmem x (.inl hx))).2
    have hdr := due_is n rest hkl.2 d (stGo (after st e) kids) hkeep.2 hkst (fun x hx => hes x (hmem x (.inr hx))) (rest_chain hr k2 hd)
    have hsum : 0 ≤ (st.take d).sum := sum_pos _ fun x hx => hst x (List.mem_of_mem_take hx)
    have h1 : dueGo st (e :: r) = oneDue (4 + (st.take d).sum.toNat) e ++ (dueGo (after st e) kids ++ dueGo (stGo (after st e) kids) rest) := by
      show oneDue (4 + (st.take e.depth.toNat).sum.toNat) e ++ dueGo (after st e) r = _
      rw [hdn, hkr, dueGo_app]
    rw [h1, hdk, hdr, hkeep.1, hat]
    have hta : (after st e).take d = st.take d := by
      unfold after
      rw [hdn, List.take_append_of_le_length (by simp; omega), List.take_take, Nat.min_self]
    rw [hta, ind_cat _ (a := lineOf e) _ (.inr ⟨_, rfl⟩), ind_cat _ (a := ind (bl e.step.toNat) true (rep kids)) _ ((repF_end _ _).ind _), ind_ind]
    have hs2 : (st.take d ++ [e.step]).sum.toNat = (st.take d).sum.toNat + e.step.toNat := by
      rw [List.sum_append, List.sum_cons, List.sum_nil]
      have := he.2
      omega
    rw [hs2, Nat.add_assoc]
    rfl
theorem plain_law {es : List En} (h : ∀ e ∈ es, EnOkR e) (hc : chain (-1) es) : ind (bl 4) true (rep es) = dueGo [] es :=
  (due_is es.length es (Nat.le_refl _) 0 [] (Nat.zero_le _) (fun x hx => by cases hx) (fun e he => ⟨(h e he).d0, (h e he).s0⟩) hc).symm
end Mine
-- Lw
theorem Mine.rst_Lw : True := by
  w_top off
  trivial
namespace Mine
theorem unturn {g g' h : Heap} {L : Addr} {m : Str → Option Value} {news : List (Addr × Obj)} (T : KtsTurn [] g g') (F : Fr g' L h m) (N : News g' L h news) : Fr g L h m ∧ News g L h news := by
  have keep : ∀ b o, g.get? b = some o → g'.get? b = some o := fun b o e => T.other b o e (by simp)
  refine ⟨⟨F.ns, fun b o e => F.keep b o (keep b o e), by rw [← T.size]; exact F.above⟩, fun p hp => ⟨(N p hp).1, (N p hp).2.1, ?_⟩⟩
  cases q : g.get? p.1 with
  | none => rfl
  | some o => have := (N p hp).2.2; rw [keep _ _ q] at this; cases this
theorem EnOkR.ok {e : En} (h : EnOkR e) : EnOk e := ⟨h.d0, h.d1, h.s0, h.s1, h.len⟩
theorem same_text {r d : Str} {es : List En} (h : ∀ e ∈ es, EnOkR e) (hc : chain (-1) es) (hr : r.cps.toList = rep es) (hd : d.cps.toList = dueGo [] es) : indentFn 4 r = d := by
  obtain ⟨dc⟩ := d
  have e : ind (bl 4) true r.cps.toList = dc.toList := by rw [hr, plain_law h hc]; exact hd.symm
  unfold indentFn
  rw [show List.replicate 4 32 = bl 4 from rfl, e]
local macro_rules | `(tactic| walk_at "call ref") => `(tactic| (k_here; (refine hold ?_)))
theorem law_holds : PySem.Challenge.rw_zn0001_01.Holds := by
  refine Mine.hd ?_
  k_go0
  all_goals try k_fold
  k_steps
  unfold Hold
  rename IntsAre _ _ => hI
  rename Heap.IsList _ _ _ => hL
  rename (¬ (_ : Int) < _) => hlen
  refine' entries_call ?kA ?kB ?kC ?kD ?kE ?kK ?kd ?ku _ _ _ hL hI ?kn ?_
  case kA => k_asm
  case kB => k_asm
  case kC => k_asm
  case kD => k_asm
  case kE => k_asm
  case kK => exact rfl
  case kd => decide
  case ku => decide
  case kn => omega
  intro D ws es kk nw h1 tk1 hsub hD hEn hok hl6 hch F1 N1
  k_steps
  unfold Hold
  refine' report_call 6 ?jA ?jB ?jC ?jD ?jE ?jK ?jX ?jT ?jN ?jd ?ju D ws es kk hD hEn hok hl6 (Nat.le_refl _) ?_
  case jA => k_asm
  case jB => k_asm
  case jC => k_asm
  case jD => k_asm
  case jE => k_asm
  case jK => exact rfl
  case jX => k_asm
  case jT => k_asm
  case jN => exact ktsDicts_nil
  case jd => decide
  case ju => decide
  rintro r t2 h2 tk2 g2 hr ⟨q1, q2, q3, q4, q5⟩ F2 N2
  obtain ⟨F3, N3⟩ := unturn q1 F2 N2
  clear q1 q2 q3 q4 q5 F2 N2
  have hrl : r.length ≤ 200000 := by
    have h1 := rep_len es fun x hx => ⟨by have := (hok x hx).len; simp [En.text, Str.length] at this ⊢; omega, (hok x hx).s1⟩
    have h2 : 5 ^ es.length ≤ 5 ^ 6 := Nat.pow_le_pow_right (by decide) hl6
    rw [len_list, hr]; omega
  k_steps
  unfold Hold
  refine' indent_call4 ?iA ?iB ?iC ?iD ?iE ?iK ?id ?iu _ _ hrl ?_
  case iA => k_asm
  case iB => k_asm
  case iC => k_asm
  case iD => k_asm
  case iE => k_asm
  case iK => exact rfl
  case id => decide
  case iu => decide
  intro t4 h4 tk4 F4 N4
  try clear F3 N3
  k_steps
  unfold Hold
  refine' due_call ?uA ?uB ?uC ?uD ?uE ?uK ?ud ?uu D ws es kk hD hEn (fun e he => (hok e he).ok) hl6 ?_
  case uA => k_asm
  case uB => k_asm
  case uC => k_asm
  case uD => k_asm
  case uE => k_asm
  case uK => exact rfl
  case ud => decide
  case uu => decide
  intro d t5 h5 tk5 hd5 F5 N5
  rw [same_text hok hch hr hd5]
  try clear F4 N4
  k_steps
end Mine
theorem PySem.Challenge.cw_zn0001_01_holds : PySem.Challenge.rw_zn0001_01.Holds := by
  exact Mine.law_holds
