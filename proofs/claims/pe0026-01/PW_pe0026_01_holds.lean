import PyProof.Rows.All
import Wide.All
import OpenK.AllK
import Wide.FinOn
import PySem.Challenge.RW_pe0026_01
open PySem PySem.W PyProof.Rows
set_option Elab.async false
set_option maxRecDepth 100000
set_option maxHeartbeats 0
set_option pp.deepTerms false
set_option pp.deepTerms.threshold 8
namespace Mine
open_top hd for PySem.Challenge.rw_pe0026_01
end Mine

section
open PySem PySem.W PyProof.Rows
set_option maxRecDepth 100000
namespace Mine
theorem slot_pat_sub : Slot "re.Pattern" "sub" "re.Pattern.sub" :=
  .of (owner := "re.Pattern") (n := "sub") (by rw [typeLookup_type, builtinLookup_eq_fast]; kernel_rfl) (by decide +kernel) (by decide +kernel) (by decide +kernel)
    (by first | exact .inl (by decide +kernel) | exact .inr (by decide +kernel)) (by rw [isSubtype_type]; kernel_rfl)
theorem type_pat_sub : typeOf (.builtin "re.Pattern.sub") = pure (.type "method_descriptor") := by show builtinType _ = _; rw [builtinType_eq_fast]; kernel_rfl
theorem entry_pat_sub : entryFor table "re.Pattern.sub" = some Builtin.«re.Pattern.sub» := entryFor_of_tree (by kernel_rfl)
theorem entry_pat_loop : entryFor table "re.Pattern.sub.loop" = some Builtin.«re.Pattern.sub.loop» := entryFor_of_tree (by kernel_rfl)
theorem args_pat_sub (a b c : Value) : argsOk "re.Pattern.sub" ⟨[a, b, c], []⟩ := by
  unfold argsOk; kernel_rfl
end Mine
end

section
open PySem PySem.W PyProof.Rows
set_option maxRecDepth 100000
namespace Mine
open PySem.Sre PySem.Sre.M

theorem runFor_done (m : Sre.M) (h : m.outcome.isSome = true) : ∀ n, Sre.M.runFor n m = m
  | 0 => rfl
  | n + 1 => by unfold Sre.M.runFor; rw [if_pos h]
theorem runFor_step (m : Sre.M) (h : m.outcome = none) (n : Nat) : Sre.M.runFor (n + 1) m = Sre.M.runFor n m.step := by
  conv => lhs; unfold Sre.M.runFor
  rw [h]; rfl
theorem runFor_add (a b : Nat) : ∀ m : Sre.M, Sre.M.runFor (a + b) m = Sre.M.runFor b (Sre.M.runFor a m) := by
  induction a with
  | zero => intro m; rw [Nat.zero_add]; rfl
  | succ a ih =>
    intro m
    cases h : m.outcome with
    | none => rw [show a + 1 + b = (a + b) + 1 by omega, runFor_step m h, runFor_step m h, ih]
    | some o =>
      have h' : m.outcome.isSome = true := by rw [h]; rfl
      rw [runFor_done m h', runFor_done m h', runFor_done m h']

section
variable {Mo : Model} {A : Around} {E : Value → Shared → Prop} {s : Shared}
theorem wp_drive {Q : Sre.M → Shared → Prop} : ∀ (turns : Nat) (m : Sre.M) (n : Nat), 1 ≤ turns → n ≤ 4 * turns → (Sre.M.runFor n m).outcome.isSome = true → Q (Sre.M.runFor n m) s → wpAny Mo A (Builtin.Re.reDrive turns m) Q E s := by
  intro turns
  induction turns with
  | zero => intro m n h; omega
  | succ k ih =>
    intro m n _ hn ho hq
    unfold Builtin.Re.reDrive
    dsimp only
    by_cases h4 : (Sre.M.runFor Builtin.Re.reTurnSteps m).outcome.isSome = true
    · rw [if_pos h4]
      have e : Sre.M.runFor Builtin.Re.reTurnSteps m = Sre.M.runFor n m := by
        show Sre.M.runFor 4 m = Sre.M.runFor n m
        have h4' : (Sre.M.runFor 4 m).outcome.isSome = true := h4
        rcases Nat.le_total n 4 with hle | hle
        · obtain ⟨d, hd⟩ := Nat.exists_eq_add_of_le hle
          rw [hd, runFor_add, runFor_done _ ho]
        · obtain ⟨d, hd⟩ := Nat.exists_eq_add_of_le hle
          rw [hd, runFor_add, runFor_done _ h4']
      rw [e]
      exact wpAny_pure hq
    · rw [if_neg h4]
      have hgt : 4 < n := by
        rcases Nat.lt_or_ge 4 n with h | h
        · exact h
        · exfalso; apply h4
          show (Sre.M.runFor 4 m).outcome.isSome = true
          obtain ⟨d, hd⟩ := Nat.exists_eq_add_of_le h
          rw [hd, runFor_add, runFor_done _ ho]; exact ho
      obtain ⟨d, hd⟩ := Nat.exists_eq_add_of_le (Nat.le_of_lt hgt)
      subst hd
      rw [runFor_add] at ho hq
      refine wpAny_bind (wpAny_rule ?_)
      exact ih _ d (by omega) (by omega) ho hq

theorem wp_notes {f : Nat → Bool} {g : Nat → String} {Q : Unit → Shared → Prop} : ∀ (l : List Nat), Q () s → wpAny Mo A (forIn l PUnit.unit fun i (_ : PUnit) => (if f i then (do rule (g i); pure (ForInStep.yield PUnit.unit)) else pure (ForInStep.yield PUnit.unit) : Sem (ForInStep PUnit))) Q E s := by
  intro l
  induction l with
  | nil => intro h; exact wpAny_pure h
  | cons i l ih =>
    intro h
    rw [List.forIn_cons]
    refine wpAny_bind ?_
    by_cases hf : f i = true
    · rw [if_pos hf]
      exact wpAny_bind (wpAny_rule (wpAny_pure (ih h)))
    · rw [if_neg hf]
      exact wpAny_pure (ih h)

theorem wp_toEnd {Q : Option Sre.M → Shared → Prop} (m : Sre.M) (n : Nat) (hn : n ≤ 2 ^ 40)
    (h : ((Sre.M.runFor n m).outcome = some Sre.Outcome.matched ∧ Q (some (Sre.M.runFor n m)) s) ∨ ((Sre.M.runFor n m).outcome = some Sre.Outcome.failed ∧ Q none s)) : wpAny Mo A (Builtin.Re.reRunToEnd m) Q E s := by
  have ho : (Sre.M.runFor n m).outcome.isSome = true := by rcases h with ⟨h, _⟩ | ⟨h, _⟩ <;> rw [h] <;> rfl
  unfold Builtin.Re.reRunToEnd
  refine wpAny_bind (wp_drive (2 ^ 64) m n (by decide) (Nat.le_trans hn (by decide)) ho ?_)
  refine wpAny_bind (wp_notes _ ?_)
  rcases h with ⟨h, hq⟩ | ⟨h, hq⟩
  · rw [h]; exact wpAny_pure hq
  · rw [h]; exact wpAny_pure hq
end
end Mine
end

section
open PySem PySem.W PyProof.Rows
set_option maxRecDepth 100000
namespace Mine

def code1 : Array Nat := #[14, 4, 0, 1, 1, 6, 1, 16, 46, 1]

/-- the machine of the dot pattern, about to try at s -/
abbrev S1 (text : Array Nat) (s : Nat) (first must : Bool) (h : Nat) (sn : Sre.Seen) (pc pos : Nat) : Sre.M :=
  { code := code1, text := text, lim := text.size, start := s, lastStart := text.size, mustAdvance := must, pc := pc, pos := pos, handed := h, outermost := first, marks := #[],
    frames := [{ wait := .nextStart, pc := 5, pos := s, outermost := first }], weight := 1, seen := sn }

theorem s1_at {text : Array Nat} {s : Nat} {first must : Bool} {h : Nat} {sn : Sre.Seen} {b : Bool} (hs : (s == 0 || text.getD (s - 1) 0 == 10) = b) :
    (S1 text s first must h sn 5 s).step = if b then S1 text s first must h ((sn.add 6).add 44) 7 s else { S1 text s first must h ((sn.add 6).add 44) 5 s with answer := some false } := by
  subst hs
  rfl
theorem s1_lit_end {text : Array Nat} {s : Nat} {first must : Bool} {h : Nat} {sn : Sre.Seen} (hs : text.size ≤ s) :
    (S1 text s first must h sn 7 s).step = { S1 text s first must h (sn.add 16) 7 s with answer := some false } := by
  show (if s ≥ text.size then _ else _) = _
  rw [if_pos hs]
  rfl
theorem s1_lit {text : Array Nat} {s : Nat} {first must : Bool} {h : Nat} {sn : Sre.Seen} {b : Bool} (hs : s < text.size) (hb : (text.getD s 0 == 46) = b) :
    (S1 text s first must h sn 7 s).step = if b then S1 text s first must h (sn.add 16) 9 (s+1) else { S1 text s first must h (sn.add 16) 7 s with answer := some false } := by
  show (if s ≥ text.size then _ else (match (.ok (text.getD s 0 == 46, sn.add 16) : Except String (Bool × Sre.Seen)) with | .error why => _ | .ok (false, seen) => _ | .ok (true, seen) => _)) = _
  rw [if_neg (Nat.not_le.mpr hs), hb]
  cases b <;> rfl
theorem s1_suc {text : Array Nat} {s : Nat} {first must : Bool} {h : Nat} {sn : Sre.Seen} :
    (S1 text s first must h sn 9 (s + 1)).step = if first && ((false && (s+1) != text.size) || (must && s + 1 == s)) then { S1 text s first must h (sn.add 1) 9 (s+1) with answer := some false } else { S1 text s first must (s+1) (sn.add 1) 9 (s+1) with answer := some true } := by
  rfl
theorem s1_yes {text : Array Nat} {s : Nat} {first must : Bool} {h : Nat} {sn : Sre.Seen} {pc pos : Nat} :
    Sre.M.runFor 2 { S1 text s first must h sn pc pos with answer := some true } = { S1 text s first must h sn 5 s with answer := some true, frames := [], weight := 0, outcome := some Sre.Outcome.matched } := by
  rfl
theorem s1_no {text : Array Nat} {s : Nat} {first must : Bool} {h : Nat} {sn : Sre.Seen} {pc pos : Nat} :
    Sre.M.step { S1 text s first must h sn pc pos with answer := some false } = if s < text.size then S1 text (s+1) false false (s + 1) sn 5 (s+1) else { S1 text s first must h sn 5 s with answer := some false, frames := [], weight := 0 } := by
  rfl
theorem s1_no_end {text : Array Nat} {s : Nat} {first must : Bool} {h : Nat} {sn : Sre.Seen} :
    Sre.M.step { S1 text s first must h sn 5 s with answer := some false, frames := [], weight := 0 } = { S1 text s first must h sn 5 s with answer := some false, frames := [], weight := 0, outcome := some Sre.Outcome.failed } := by
  rfl

/-- what the machine says of the dot pattern from s on -/
def Found1 (text : Array Nat) (m : Sre.M) (n lo : Nat) : Prop :=
  ((Sre.M.runFor n m).outcome = some Sre.Outcome.matched ∧ ∃ q, lo ≤ q ∧ q < text.size ∧ (q == 0 || text.getD (q - 1) 0 == 10) = true ∧ text.getD q 0 = 46 ∧ (∀ j, lo ≤ j → j < q → ¬ ((j == 0 || text.getD (j - 1) 0 == 10) = true ∧ text.getD j 0 = 46)) ∧
    (Sre.M.runFor n m).start = q ∧ (Sre.M.runFor n m).handed = q + 1) ∨
  ((Sre.M.runFor n m).outcome = some Sre.Outcome.failed ∧ ∀ j, lo ≤ j → j < text.size → ¬ ((j == 0 || text.getD (j - 1) 0 == 10) = true ∧ text.getD j 0 = 46))

theorem found1_next {text : Array Nat} {m : Sre.M} {k n lo : Nat} (h : Found1 text (Sre.M.runFor k m) n (lo + 1)) (hn : ¬ ((lo == 0 || text.getD (lo - 1) 0 == 10) = true ∧ text.getD lo 0 = 46)) : Found1 text m (k + n) lo := by
  unfold Found1 at *
  rw [runFor_add]
  rcases h with ⟨h1, q, h2, h3, h4, h5, h6, h7⟩ | ⟨h1, h2⟩
  · refine .inl ⟨h1, q, by omega, h3, h4, h5, fun j hj hq => ?_, h7⟩
    rcases Nat.eq_or_lt_of_le hj with rfl | hj
    · exact hn
    · exact h6 j hj hq
  · refine .inr ⟨h1, fun j hj hq => ?_⟩
    rcases Nat.eq_or_lt_of_le hj with rfl | hj
    · exact hn
    · exact h2 j hj hq

theorem s1_run (text : Array Nat) : ∀ (d s : Nat) (first must : Bool) (h : Nat) (sn : Sre.Seen), s + d = text.size → ∃ n, n ≤ 4 * d + 6 ∧ Found1 text (S1 text s first must h sn 5 s) n s := by
  intro d
  induction d with
  | zero =>
    intro s first must h sn hd
    have fin : ∀ sn' pc pos, Sre.M.runFor 2 { S1 text s first must h sn' pc pos with answer := some false } = { S1 text s first must h sn' 5 s with answer := some false, frames := [], weight := 0, outcome := some Sre.Outcome.failed } := by
      intro sn' pc pos
      rw [runFor_step _ rfl, s1_no, if_neg (by omega), runFor_step _ rfl, s1_no_end]
      rfl
    cases hb : (s == 0 || text.getD (s - 1) 0 == 10) with
    | false =>
      refine ⟨3, by omega, .inr ⟨?_, fun j hj hq => by omega⟩⟩
      rw [runFor_step _ rfl, s1_at hb, if_neg Bool.false_ne_true, fin]
    | true =>
      refine ⟨4, by omega, .inr ⟨?_, fun j hj hq => by omega⟩⟩
      rw [runFor_step _ rfl, s1_at hb, if_pos rfl, runFor_step _ rfl, s1_lit_end (by omega), fin]
  | succ d ih =>
    intro s first must h sn hd
    have next : ∀ sn' pc pos k, Sre.M.runFor k (S1 text s first must h sn 5 s) = { S1 text s first must h sn' pc pos with answer := some false } → k ≤ 2 → ¬ ((s == 0 || text.getD (s - 1) 0 == 10) = true ∧ text.getD s 0 = 46) →
        ∃ n, n ≤ 4 * (d + 1) + 6 ∧ Found1 text (S1 text s first must h sn 5 s) n s := by
      intro sn' pc pos k hk hk2 hn
      obtain ⟨n, hn', hf⟩ := ih (s + 1) false false (s + 1) sn' (by omega)
      refine ⟨k + 1 + n, by omega, found1_next ?_ hn⟩
      rw [runFor_add, hk, runFor_step _ rfl, s1_no, if_pos (by omega)]
      exact hf
    cases hb : (s == 0 || text.getD (s - 1) 0 == 10) with
    | false =>
      refine next ((sn.add 6).add 44) 5 s 1 ?_ (by omega) (fun hh => by rw [hb] at hh; exact absurd hh.1 Bool.false_ne_true)
      rw [runFor_step _ rfl, s1_at hb, if_neg Bool.false_ne_true]
      rfl
    | true =>
      cases hc : (text.getD s 0 == 46) with
      | false =>
        refine next (((sn.add 6).add 44).add 16) 7 s 2 ?_ (by omega) (fun hh => by rw [hh.2] at hc; exact absurd hc (by decide))
        rw [runFor_step _ rfl, s1_at hb, if_pos rfl, runFor_step _ rfl, s1_lit (by omega) hc, if_neg Bool.false_ne_true]
        rfl
      | true =>
        refine ⟨5, by omega, .inl ?_⟩
        have e : Sre.M.runFor 5 (S1 text s first must h sn 5 s) = { S1 text s first must (s + 1) ((((sn.add 6).add 44).add 16).add 1) 5 s with answer := some true, frames := [], weight := 0, outcome := some Sre.Outcome.matched } := by
          rw [runFor_step _ rfl, s1_at hb, if_pos rfl, runFor_step _ rfl, s1_lit (by omega) hc, if_pos rfl, runFor_step _ rfl, s1_suc, if_neg (by simp), s1_yes]
        rw [e]
        exact ⟨rfl, s, Nat.le_refl _, by omega, hb, by simpa using hc, fun j hj hq => by omega, rfl, rfl⟩
end Mine
end

section
open PySem PySem.W PyProof.Rows
set_option maxRecDepth 100000
namespace Mine

theorem search1_is (text : Array Nat) (start : Nat) (must : Bool) : Sre.forSearch code1 text 0 start text.size must =
    if start > text.size || text.size - start < 1 then { code := code1, text := text, lim := text.size, start := start, mustAdvance := must, pc := 5, pos := start, handed := start, marks := #[], seen := ({} : Sre.Seen).add 14, answer := some false }
    else S1 text start true must start (({} : Sre.Seen).add 14) 5 start := rfl

theorem search1 (text : Array Nat) (start : Nat) (must : Bool) (hs : start ≤ text.size) : ∃ n, n ≤ 4 * text.size + 10 ∧ Found1 text (Sre.forSearch code1 text 0 start text.size must) n start := by
  rw [search1_is]
  by_cases h : (decide (start > text.size) || decide (text.size - start < 1)) = true
  · rw [if_pos h]
    refine ⟨1, by omega, .inr ⟨rfl, fun j hj hq => ?_⟩⟩
    simp only [Bool.or_eq_true, decide_eq_true_eq] at h
    omega
  · rw [if_neg h]
    obtain ⟨n, hn, hf⟩ := s1_run text (text.size - start) start true must start (({} : Sre.Seen).add 14) (by omega)
    exact ⟨n, by omega, hf⟩

def code2 : Array Nat := #[14, 9, 4, 1, 2, 16, 10, 16, 13, 0, 7, 7, 16, 13, 16, 10, 15, 18, 5, 16, 10, 15, 13, 11, 16, 13, 5, 5, 0, 16, 10, 1, 15, 2, 0, 1]

abbrev S2 (text : Array Nat) (s : Nat) (outer : Bool) (h : Nat) (sn : Sre.Seen) (fr : List Sre.Frame) (wt pc pos : Nat) : Sre.M :=
  { code := code2, text := text, lim := text.size, start := s, lastStart := text.size, mustAdvance := false, pc := pc, pos := pos, handed := h, outermost := outer, marks := #[], frames := fr, weight := wt, seen := sn }
abbrev F0 (s : Nat) (first : Bool) : Sre.Frame := { wait := .nextStart, pc := 10, pos := s, outermost := first }
abbrev FB (pc s : Nat) (first : Bool) : Sre.Frame := { wait := .nextBranch, pc := pc, pos := s, outermost := first }
abbrev FL (pc s : Nat) (first : Bool) : Sre.Frame := { wait := .lookNot, pc := pc, pos := s, outermost := first }

theorem s2_lit12 {text : Array Nat} {s p : Nat} {outer : Bool} {h : Nat} {sn : Sre.Seen} {fr : List Sre.Frame} {wt : Nat} {b : Bool} (hs : p < text.size) (hb : (text.getD p 0 == 13) = b) :
    (S2 text s outer h sn fr wt 12 p).step = if b then S2 text s outer h (sn.add 16) fr wt 14 (p+1) else { S2 text s outer h (sn.add 16) fr wt 12 p with answer := some false } := by
  show (if p ≥ text.size then _ else (match (.ok (text.getD p 0 == 13, sn.add 16) : Except String (Bool × Sre.Seen)) with | .error why => _ | .ok (false, seen) => _ | .ok (true, seen) => _)) = _
  rw [if_neg (Nat.not_le.mpr hs), hb]
  cases b <;> rfl
theorem s2_lit12_end {text : Array Nat} {s p : Nat} {outer : Bool} {h : Nat} {sn : Sre.Seen} {fr : List Sre.Frame} {wt : Nat} (hs : text.size ≤ p) :
    (S2 text s outer h sn fr wt 12 p).step = { S2 text s outer h (sn.add 16) fr wt 12 p with answer := some false } := by
  show (if p ≥ text.size then _ else _) = _
  rw [if_pos hs]
  rfl

theorem s2_lit14 {text : Array Nat} {s p : Nat} {outer : Bool} {h : Nat} {sn : Sre.Seen} {fr : List Sre.Frame} {wt : Nat} {b : Bool} (hs : p < text.size) (hb : (text.getD p 0 == 10) = b) :
    (S2 text s outer h sn fr wt 14 p).step = if b then S2 text s outer h (sn.add 16) fr wt 16 (p+1) else { S2 text s outer h (sn.add 16) fr wt 14 p with answer := some false } := by
  show (if p ≥ text.size then _ else (match (.ok (text.getD p 0 == 10, sn.add 16) : Except String (Bool × Sre.Seen)) with | .error why => _ | .ok (false, seen) => _ | .ok (true, seen) => _)) = _
  rw [if_neg (Nat.not_le.mpr hs), hb]
  cases b <;> rfl
theorem s2_lit14_end {text : Array Nat} {s p : Nat} {outer : Bool} {h : Nat} {sn : Sre.Seen} {fr : List Sre.Frame} {wt : Nat} (hs : text.size ≤ p) :
    (S2 text s outer h sn fr wt 14 p).step = { S2 text s outer h (sn.add 16) fr wt 14 p with answer := some false } := by
  show (if p ≥ text.size then _ else _) = _
  rw [if_pos hs]
  rfl

theorem s2_lit19 {text : Array Nat} {s p : Nat} {outer : Bool} {h : Nat} {sn : Sre.Seen} {fr : List Sre.Frame} {wt : Nat} {b : Bool} (hs : p < text.size) (hb : (text.getD p 0 == 10) = b) :
    (S2 text s outer h sn fr wt 19 p).step = if b then S2 text s outer h (sn.add 16) fr wt 21 (p+1) else { S2 text s outer h (sn.add 16) fr wt 19 p with answer := some false } := by
  show (if p ≥ text.size then _ else (match (.ok (text.getD p 0 == 10, sn.add 16) : Except String (Bool × Sre.Seen)) with | .error why => _ | .ok (false, seen) => _ | .ok (true, seen) => _)) = _
  rw [if_neg (Nat.not_le.mpr hs), hb]
  cases b <;> rfl
theorem s2_lit19_end {text : Array Nat} {s p : Nat} {outer : Bool} {h : Nat} {sn : Sre.Seen} {fr : List Sre.Frame} {wt : Nat} (hs : text.size ≤ p) :
    (S2 text s outer h sn fr wt 19 p).step = { S2 text s outer h (sn.add 16) fr wt 19 p with answer := some false } := by
  show (if p ≥ text.size then _ else _) = _
  rw [if_pos hs]
  rfl

theorem s2_lit24 {text : Array Nat} {s p : Nat} {outer : Bool} {h : Nat} {sn : Sre.Seen} {fr : List Sre.Frame} {wt : Nat} {b : Bool} (hs : p < text.size) (hb : (text.getD p 0 == 13) = b) :
    (S2 text s outer h sn fr wt 24 p).step = if b then S2 text s outer h (sn.add 16) fr wt 26 (p+1) else { S2 text s outer h (sn.add 16) fr wt 24 p with answer := some false } := by
  show (if p ≥ text.size then _ else (match (.ok (text.getD p 0 == 13, sn.add 16) : Except String (Bool × Sre.Seen)) with | .error why => _ | .ok (false, seen) => _ | .ok (true, seen) => _)) = _
  rw [if_neg (Nat.not_le.mpr hs), hb]
  cases b <;> rfl
theorem s2_lit24_end {text : Array Nat} {s p : Nat} {outer : Bool} {h : Nat} {sn : Sre.Seen} {fr : List Sre.Frame} {wt : Nat} (hs : text.size ≤ p) :
    (S2 text s outer h sn fr wt 24 p).step = { S2 text s outer h (sn.add 16) fr wt 24 p with answer := some false } := by
  show (if p ≥ text.size then _ else _) = _
  rw [if_pos hs]
  rfl

theorem s2_lit29 {text : Array Nat} {s p : Nat} {outer : Bool} {h : Nat} {sn : Sre.Seen} {fr : List Sre.Frame} {wt : Nat} {b : Bool} (hs : p < text.size) (hb : (text.getD p 0 == 10) = b) :
    (S2 text s outer h sn fr wt 29 p).step = if b then S2 text s outer h (sn.add 16) fr wt 31 (p+1) else { S2 text s outer h (sn.add 16) fr wt 29 p with answer := some false } := by
  show (if p ≥ text.size then _ else (match (.ok (text.getD p 0 == 10, sn.add 16) : Except String (Bool × Sre.Seen)) with | .error why => _ | .ok (false, seen) => _ | .ok (true, seen) => _)) = _
  rw [if_neg (Nat.not_le.mpr hs), hb]
  cases b <;> rfl
theorem s2_lit29_end {text : Array Nat} {s p : Nat} {outer : Bool} {h : Nat} {sn : Sre.Seen} {fr : List Sre.Frame} {wt : Nat} (hs : text.size ≤ p) :
    (S2 text s outer h sn fr wt 29 p).step = { S2 text s outer h (sn.add 16) fr wt 29 p with answer := some false } := by
  show (if p ≥ text.size then _ else _) = _
  rw [if_pos hs]
  rfl

theorem s2_branch {text : Array Nat} {s : Nat} {first : Bool} {h : Nat} {sn : Sre.Seen} : (S2 text s first h sn [F0 s first] 1 10 s).step = S2 text s first s (sn.add 7) [FB 11 s first, F0 s first] 2 12 s := rfl
theorem s2_alt1 {text : Array Nat} {s : Nat} {first : Bool} {h : Nat} {sn : Sre.Seen} {pc pos : Nat} {o : Bool} : Sre.M.step { S2 text s o h sn [FB 11 s first, F0 s first] 2 pc pos with answer := some false } = S2 text s first s sn [FB 18 s first, F0 s first] 2 19 s := rfl
theorem s2_alt2 {text : Array Nat} {s : Nat} {first : Bool} {h : Nat} {sn : Sre.Seen} {pc pos : Nat} {o : Bool} : Sre.M.step { S2 text s o h sn [FB 18 s first, F0 s first] 2 pc pos with answer := some false } = S2 text s first s sn [FB 23 s first, F0 s first] 2 24 s := rfl
theorem s2_jump16 {text : Array Nat} {s p : Nat} {first : Bool} {h : Nat} {sn : Sre.Seen} {fr : List Sre.Frame} {wt : Nat} : (S2 text s first h sn fr wt 16 p).step = S2 text s first h (sn.add 15) fr wt 35 p := rfl
theorem s2_jump21 {text : Array Nat} {s p : Nat} {first : Bool} {h : Nat} {sn : Sre.Seen} {fr : List Sre.Frame} {wt : Nat} : (S2 text s first h sn fr wt 21 p).step = S2 text s first h (sn.add 15) fr wt 35 p := rfl
theorem s2_jump32 {text : Array Nat} {s p : Nat} {first : Bool} {h : Nat} {sn : Sre.Seen} {fr : List Sre.Frame} {wt : Nat} : (S2 text s first h sn fr wt 32 p).step = S2 text s first h (sn.add 15) fr wt 35 p := rfl
theorem s2_not {text : Array Nat} {s p : Nat} {first : Bool} {h : Nat} {sn : Sre.Seen} : (S2 text s first h sn [FB 23 s first, F0 s first] 2 26 p).step = S2 text s false p (sn.add 5) [FL 26 p first, FB 23 s first, F0 s first] 3 29 p := rfl
theorem s2_not_no {text : Array Nat} {s p : Nat} {first o : Bool} {h : Nat} {sn : Sre.Seen} {pc pos : Nat} : Sre.M.step { S2 text s o h sn [FL 26 p first, FB 23 s first, F0 s first] 3 pc pos with answer := some false } = S2 text s first h sn [FB 23 s first, F0 s first] 2 32 p := rfl
theorem s2_suc {text : Array Nat} {s p : Nat} {first : Bool} {h : Nat} {sn : Sre.Seen} {k : Nat} : Sre.M.runFor 4 (S2 text s first h sn [FB k s first, F0 s first] 2 35 p) = { S2 text s first p (sn.add 1) [] 0 10 s with answer := some true, outcome := some Sre.Outcome.matched } := by
  have e : (S2 text s first h sn [FB k s first, F0 s first] 2 35 p).step = { S2 text s first p (sn.add 1) [FB k s first, F0 s first] 2 35 p with answer := some true } := by
    show (if (first && (false || false)) = true then _ else _) = _
    rw [if_neg (by simp)]
    rfl
  rw [runFor_step _ rfl, e]
  rfl

/-- the length of a line end at q -/
def eolLen (text : Array Nat) (q : Nat) : Nat := if text.getD q 0 = 13 ∧ q + 1 < text.size ∧ text.getD (q + 1) 0 = 10 then 2 else 1

theorem s2_match (text : Array Nat) (s : Nat) (first : Bool) (h : Nat) (sn : Sre.Seen) (hs : s < text.size) (hc : text.getD s 0 = 10 ∨ text.getD s 0 = 13) :
    ∃ n, n ≤ 20 ∧ (Sre.M.runFor n (S2 text s first h sn [F0 s first] 1 10 s)).outcome = some Sre.Outcome.matched ∧ (Sre.M.runFor n (S2 text s first h sn [F0 s first] 1 10 s)).start = s ∧
      (Sre.M.runFor n (S2 text s first h sn [F0 s first] 1 10 s)).handed = s + eolLen text s := by
  rcases hc with hc | hc
  · refine ⟨9, by omega, ?_⟩
    have e : Sre.M.runFor 9 (S2 text s first h sn [F0 s first] 1 10 s) = { S2 text s first (s + 1) (((((sn.add 7).add 16).add 16).add 15).add 1) [] 0 10 s with answer := some true, outcome := some Sre.Outcome.matched } := by
      rw [runFor_step _ rfl, s2_branch, runFor_step _ rfl, s2_lit12 (b := false) hs (by rw [hc]; rfl), if_neg Bool.false_ne_true, runFor_step _ rfl, s2_alt1, runFor_step _ rfl, s2_lit19 (b := true) hs (by rw [hc]; rfl), if_pos rfl, runFor_step _ rfl, s2_jump21, s2_suc]
    rw [e]
    refine ⟨rfl, rfl, ?_⟩
    show s + 1 = _
    unfold eolLen
    rw [if_neg (by rw [hc]; omega)]
  · by_cases hn : s + 1 < text.size ∧ text.getD (s + 1) 0 = 10
    · refine ⟨8, by omega, ?_⟩
      have e : Sre.M.runFor 8 (S2 text s first h sn [F0 s first] 1 10 s) = { S2 text s first (s + 2) (((((sn.add 7).add 16).add 16).add 15).add 1) [] 0 10 s with answer := some true, outcome := some Sre.Outcome.matched } := by
        rw [runFor_step _ rfl, s2_branch, runFor_step _ rfl, s2_lit12 (b := true) hs (by rw [hc]; rfl), if_pos rfl, runFor_step _ rfl, s2_lit14 (b := true) hn.1 (by rw [hn.2]; rfl), if_pos rfl, runFor_step _ rfl, s2_jump16, s2_suc]
      rw [e]
      refine ⟨rfl, rfl, ?_⟩
      show s + 2 = _
      unfold eolLen
      rw [if_pos ⟨hc, hn⟩]
    · refine ⟨15, by omega, ?_⟩
      have l14 : ∀ sn' fr wt, (S2 text s first s sn' fr wt 14 (s + 1)).step = { S2 text s first s (sn'.add 16) fr wt 14 (s + 1) with answer := some false } := by
        intro sn' fr wt
        by_cases hlt : s + 1 < text.size
        · rw [s2_lit14 (b := false) hlt (by simpa using fun h => hn ⟨hlt, h⟩), if_neg Bool.false_ne_true]
        · rw [s2_lit14_end (by omega)]
      have l29 : ∀ sn' fr wt h', (S2 text s false h' sn' fr wt 29 (s + 1)).step = { S2 text s false h' (sn'.add 16) fr wt 29 (s + 1) with answer := some false } := by
        intro sn' fr wt h'
        by_cases hlt : s + 1 < text.size
        · rw [s2_lit29 (b := false) hlt (by simpa using fun h => hn ⟨hlt, h⟩), if_neg Bool.false_ne_true]
        · rw [s2_lit29_end (by omega)]
      have e : ∃ sn', Sre.M.runFor 15 (S2 text s first h sn [F0 s first] 1 10 s) = { S2 text s first (s + 1) sn' [] 0 10 s with answer := some true, outcome := some Sre.Outcome.matched } := by
        refine ⟨((((((((((sn.add 7).add 16).add 16).add 16).add 16).add 5).add 16)).add 15).add 1), ?_⟩
        rw [runFor_step _ rfl, s2_branch, runFor_step _ rfl, s2_lit12 (b := true) hs (by rw [hc]; rfl), if_pos rfl, runFor_step _ rfl, l14, runFor_step _ rfl, s2_alt1, runFor_step _ rfl, s2_lit19 (b := false) hs (by rw [hc]; rfl), if_neg Bool.false_ne_true,
          runFor_step _ rfl, s2_alt2, runFor_step _ rfl, s2_lit24 (b := true) hs (by rw [hc]; rfl), if_pos rfl, runFor_step _ rfl, s2_not, runFor_step _ rfl, l29, runFor_step _ rfl, s2_not_no, runFor_step _ rfl, s2_jump32, s2_suc]
      obtain ⟨sn', e⟩ := e
      rw [e]
      refine ⟨rfl, rfl, ?_⟩
      show s + 1 = _
      unfold eolLen
      rw [if_neg (by intro hh; exact hn hh.2)]

theorem inSet2 (c : Nat) (sn : Sre.Seen) : ∃ sn', Sre.inSet code2 c code2.size 5 true sn = .ok (c == 10 || c == 13, sn') := by
  show ∃ sn', (if (c == 10) = true then (.ok (true, sn.add 16) : Except String (Bool × Sre.Seen)) else (if (c == 13) = true then .ok (true, (sn.add 16).add 16) else .ok (false, ((sn.add 16).add 16).add 0))) = _
  cases h1 : (c == 10) with
  | true => exact ⟨_, rfl⟩
  | false =>
    cases h2 : (c == 13) with
    | true => exact ⟨_, rfl⟩
    | false => exact ⟨_, rfl⟩

theorem admitted2 (m : Sre.M) (hm : m.code = code2) : ∀ (fuel s : Nat) (sn : Sre.Seen), m.lim + 1 ≤ s + fuel →
    (∃ q sn', m.admitted fuel s sn = .ok (some q, sn') ∧ s ≤ q ∧ q < m.lim ∧ (m.text.getD q 0 = 10 ∨ m.text.getD q 0 = 13) ∧ ∀ j, s ≤ j → j < q → ¬ (m.text.getD j 0 = 10 ∨ m.text.getD j 0 = 13)) ∨
    (∃ sn', m.admitted fuel s sn = .ok (none, sn') ∧ ∀ j, s ≤ j → j < m.lim → ¬ (m.text.getD j 0 = 10 ∨ m.text.getD j 0 = 13)) := by
  intro fuel
  induction fuel with
  | zero => intro s sn h; exact .inr ⟨sn, rfl, fun j h1 h2 => by omega⟩
  | succ k ih =>
    intro s sn h
    by_cases hs : s ≥ m.lim
    · refine .inr ⟨sn, ?_, fun j h1 h2 => by omega⟩
      show (if s ≥ m.lim then _ else _) = _
      rw [if_pos hs]
    · obtain ⟨sn', e⟩ := inSet2 (m.text.getD s 0) sn
      have u : m.admitted (k + 1) s sn = match (.ok (m.text.getD s 0 == 10 || m.text.getD s 0 == 13, sn') : Except String (Bool × Sre.Seen)) with
          | .ok (true, seen) => .ok (some s, seen)
          | .ok (false, seen) => m.admitted k (s + 1) seen
          | .error why => .error why := by
        show (if s ≥ m.lim then _ else _) = _
        rw [if_neg hs, hm, e]
        cases (m.text.getD s 0 == 10 || m.text.getD s 0 == 13) <;> rfl
      cases hb : (m.text.getD s 0 == 10 || m.text.getD s 0 == 13) with
      | true =>
        rw [hb] at u
        exact .inl ⟨s, sn', u, Nat.le_refl _, by omega, by simpa using hb, fun j h1 h2 => by omega⟩
      | false =>
        rw [hb] at u
        have hnot : ¬ (m.text.getD s 0 = 10 ∨ m.text.getD s 0 = 13) := by simpa using hb
        have step : ∀ j, s ≤ j → j = s ∨ s + 1 ≤ j := fun j hj => by omega
        rcases ih (s + 1) sn' (by omega) with ⟨q, sn2, h1, h2, h3, h4, h5⟩ | ⟨sn2, h1, h2⟩
        · refine .inl ⟨q, sn2, u.trans h1, by omega, h3, h4, fun j hj hq => ?_⟩
          rcases step j hj with rfl | hj
          · exact hnot
          · exact h5 j hj hq
        · refine .inr ⟨sn2, u.trans h1, fun j hj hq => ?_⟩
          rcases step j hj with rfl | hj
          · exact hnot
          · exact h2 j hj hq

def Found2 (text : Array Nat) (m : Sre.M) (n lo : Nat) : Prop :=
  ((Sre.M.runFor n m).outcome = some Sre.Outcome.matched ∧ ∃ q, lo ≤ q ∧ q < text.size ∧ (text.getD q 0 = 10 ∨ text.getD q 0 = 13) ∧ (∀ j, lo ≤ j → j < q → ¬ (text.getD j 0 = 10 ∨ text.getD j 0 = 13)) ∧
    (Sre.M.runFor n m).start = q ∧ (Sre.M.runFor n m).handed = q + eolLen text q) ∨
  ((Sre.M.runFor n m).outcome = some Sre.Outcome.failed ∧ ∀ j, lo ≤ j → j < text.size → ¬ (text.getD j 0 = 10 ∨ text.getD j 0 = 13))

abbrev N2 (text : Array Nat) (start : Nat) (must : Bool) (sn : Sre.Seen) (last : Nat) : Sre.M := { code := code2, text := text, lim := text.size, start := start, lastStart := last, mustAdvance := must, pc := 10, pos := start, handed := start, marks := #[], seen := sn }
theorem search2_is (text : Array Nat) (start : Nat) (must : Bool) : Sre.forSearch code2 text 0 start text.size must =
    if start > text.size || text.size - start < 1 then { N2 text start must (({} : Sre.Seen).add 14) 0 with answer := some false }
    else (match (N2 text start must (({} : Sre.Seen).add 14) text.size).admitted (text.size + 1 - start) start (({} : Sre.Seen).add 14) with
      | .ok (some s, seen) => S2 text s true s seen [F0 s true] 1 10 s
      | .ok (none, seen) => { N2 text start must seen text.size with answer := some false }
      | .error why => (N2 text start must (({} : Sre.Seen).add 14) text.size).stick why) := rfl

theorem search2 (text : Array Nat) (start : Nat) (must : Bool) (hs : start ≤ text.size) : ∃ n, n ≤ 4 * text.size + 20 ∧ Found2 text (Sre.forSearch code2 text 0 start text.size must) n start := by
  rw [search2_is]
  by_cases h : (decide (start > text.size) || decide (text.size - start < 1)) = true
  · rw [if_pos h]
    refine ⟨1, by omega, .inr ⟨rfl, fun j hj hq => ?_⟩⟩
    simp only [Bool.or_eq_true, decide_eq_true_eq] at h
    omega
  · rw [if_neg h]
    rcases admitted2 (N2 text start must (({} : Sre.Seen).add 14) text.size) rfl (text.size + 1 - start) start (({} : Sre.Seen).add 14) (by show text.size + 1 ≤ _; omega) with ⟨q, sn', e, h1, h2, h3, h4⟩ | ⟨sn', e, h1⟩
    · rw [e]
      obtain ⟨n, hn, f1, f2, f3⟩ := s2_match text q true q sn' h2 h3
      exact ⟨n, by omega, .inl ⟨f1, q, h1, h2, h3, h4, f2, f3⟩⟩
    · rw [e]
      exact ⟨1, by omega, .inr ⟨rfl, h1⟩⟩
end Mine
end

section
open PySem PySem.W PyProof.Rows
set_option maxRecDepth 100000
namespace Mine
open PySem.Builtin PySem.Builtin.Re

/-- what the machine of a code finds: hit text q is the length of the match at q, 0 for none -/
def Searches (code : Array Nat) (hit : Array Nat → Nat → Nat) : Prop :=
  ∀ (text : Array Nat) (start : Nat) (must : Bool), start ≤ text.size → ∃ n, n ≤ 4 * text.size + 20 ∧
    (((Sre.M.runFor n (Sre.forSearch code text 0 start text.size must)).outcome = some Sre.Outcome.matched ∧ ∃ q, start ≤ q ∧ q < text.size ∧ 0 < hit text q ∧ (∀ j, start ≤ j → j < q → hit text j = 0) ∧
      (Sre.M.runFor n (Sre.forSearch code text 0 start text.size must)).start = q ∧ (Sre.M.runFor n (Sre.forSearch code text 0 start text.size must)).handed = q + hit text q) ∨
    ((Sre.M.runFor n (Sre.forSearch code text 0 start text.size must)).outcome = some Sre.Outcome.failed ∧ ∀ j, start ≤ j → j < text.size → hit text j = 0))

def hit1 (text : Array Nat) (q : Nat) : Nat := if (q == 0 || text.getD (q - 1) 0 == 10) = true ∧ text.getD q 0 = 46 then 1 else 0
def hit2 (text : Array Nat) (q : Nat) : Nat := if text.getD q 0 = 10 ∨ text.getD q 0 = 13 then eolLen text q else 0
theorem eolLen_pos (text : Array Nat) (q : Nat) : 0 < eolLen text q := by unfold eolLen; split <;> decide
theorem searches1 : Searches code1 hit1 := by
  intro text start must hs
  obtain ⟨n, hn, h⟩ := search1 text start must hs
  refine ⟨n, by omega, ?_⟩
  rcases h with ⟨h1, q, h2, h3, h4, h5, h6, h7, h8⟩ | ⟨h1, h2⟩
  · refine .inl ⟨h1, q, h2, h3, ?_, fun j hj hq => ?_, h7, ?_⟩
    · unfold hit1; rw [if_pos ⟨h4, h5⟩]; decide
    · unfold hit1; rw [if_neg (h6 j hj hq)]
    · unfold hit1; rw [if_pos ⟨h4, h5⟩]; exact h8
  · exact .inr ⟨h1, fun j hj hq => by unfold hit1; rw [if_neg (h2 j hj hq)]⟩
theorem searches2 : Searches code2 hit2 := by
  intro text start must hs
  obtain ⟨n, hn, h⟩ := search2 text start must hs
  refine ⟨n, by omega, ?_⟩
  rcases h with ⟨h1, q, h2, h3, h4, h6, h7, h8⟩ | ⟨h1, h2⟩
  · refine .inl ⟨h1, q, h2, h3, ?_, fun j hj hq => ?_, h7, ?_⟩
    · unfold hit2; rw [if_pos h4]; exact eolLen_pos _ _
    · unfold hit2; rw [if_neg (h6 j hj hq)]
    · unfold hit2; rw [if_pos h4]; exact h8
  · exact .inr ⟨h1, fun j hj hq => by unfold hit2; rw [if_neg (h2 j hj hq)]⟩

/-- the text from p on with every match replaced -/
def subR (hit : Array Nat → Nat → Nat) (repl : List Nat) (text : Array Nat) : Nat → Nat → List Nat
  | 0, _ => []
  | f + 1, p => if p < text.size then (if 0 < hit text p then repl ++ subR hit repl text f (p + hit text p) else text.getD p 0 :: subR hit repl text f (p + 1)) else []
def HitOk (hit : Array Nat → Nat → Nat) : Prop := ∀ text q, q < text.size → q + hit text q ≤ text.size
theorem hitOk1 : HitOk hit1 := by
  intro t q h; unfold hit1
  by_cases c : (q == 0 || t.getD (q - 1) 0 == 10) = true ∧ t.getD q 0 = 46
  · rw [if_pos c]; omega
  · rw [if_neg c]; omega
theorem hitOk2 : HitOk hit2 := by
  intro t q h; unfold hit2
  by_cases c : t.getD q 0 = 10 ∨ t.getD q 0 = 13
  · rw [if_pos c]
    unfold eolLen
    by_cases e : t.getD q 0 = 13 ∧ q + 1 < t.size ∧ t.getD (q + 1) 0 = 10
    · rw [if_pos e]; omega
    · rw [if_neg e]; omega
  · rw [if_neg c]; omega
theorem subR_step {hit : Array Nat → Nat → Nat} {repl : List Nat} {text : Array Nat} {f p : Nat} (h : p < text.size) (h0 : hit text p = 0) : subR hit repl text (f + 1) p = text.getD p 0 :: subR hit repl text f (p + 1) := by
  conv => lhs; unfold subR
  rw [if_pos h, if_neg (by omega)]
theorem subR_hit {hit : Array Nat → Nat → Nat} {repl : List Nat} {text : Array Nat} {f p : Nat} (h : p < text.size) (h0 : 0 < hit text p) : subR hit repl text (f + 1) p = repl ++ subR hit repl text f (p + hit text p) := by
  conv => lhs; unfold subR
  rw [if_pos h, if_pos h0]
theorem drop_cons {text : Array Nat} {p : Nat} (h : p < text.size) : text.toList.drop p = text.getD p 0 :: text.toList.drop (p + 1) := by
  rw [List.drop_eq_getElem_cons (by simpa using h)]
  simp [Array.getD, h]

theorem subR_fuel {hit : Array Nat → Nat → Nat} {repl : List Nat} {text : Array Nat} : ∀ (f g p : Nat), text.size ≤ p + f → text.size ≤ p + g → subR hit repl text f p = subR hit repl text g p := by
  intro f
  induction f with
  | zero =>
    intro g p hf hg
    cases g with
    | zero => rfl
    | succ g => unfold subR; rw [if_neg (by omega)]
  | succ f ih =>
    intro g p hf hg
    cases g with
    | zero => unfold subR; rw [if_neg (by omega)]
    | succ g =>
      unfold subR
      by_cases h : p < text.size
      · rw [if_pos h, if_pos h]
        by_cases h2 : 0 < hit text p
        · rw [if_pos h2, if_pos h2, ih g _ (by omega) (by omega)]
        · rw [if_neg h2, if_neg h2, ih g _ (by omega) (by omega)]
      · rw [if_neg h, if_neg h]
theorem subR_none {hit : Array Nat → Nat → Nat} {repl : List Nat} {text : Array Nat} : ∀ (d f p : Nat), p + d = text.size → d ≤ f → (∀ j, p ≤ j → j < text.size → hit text j = 0) → subR hit repl text f p = text.toList.drop p := by
  intro d
  induction d with
  | zero =>
    intro f p hd _ _
    rw [List.drop_eq_nil_of_le (by simp; omega)]
    cases f with
    | zero => rfl
    | succ f => unfold subR; rw [if_neg (by omega)]
  | succ d ih =>
    intro f p hd hf h
    obtain ⟨f, rfl⟩ : ∃ f', f = f' + 1 := ⟨f - 1, by omega⟩
    have hp : p < text.size := by omega
    rw [subR_step hp (h p (Nat.le_refl _) hp), ih f (p + 1) (by omega) (by omega) (fun j h1 h2 => h j (by omega) h2), drop_cons hp]
theorem subR_some {hit : Array Nat → Nat → Nat} {repl : List Nat} {text : Array Nat} (ok : HitOk hit) {q : Nat} (hq : q < text.size) (hh : 0 < hit text q) : ∀ (d f p : Nat), p + d = q → text.size ≤ p + f → (∀ j, p ≤ j → j < q → hit text j = 0) →
    subR hit repl text f p = (text.toList.drop p).take (q - p) ++ (repl ++ subR hit repl text text.size (q + hit text q)) := by
  intro d
  induction d with
  | zero =>
    intro f p hd hf _
    have e : p = q := by omega
    subst e
    obtain ⟨f, rfl⟩ : ∃ f', f = f' + 1 := ⟨f - 1, by omega⟩
    rw [subR_hit hq hh, Nat.sub_self, List.take_zero, List.nil_append]
    rw [subR_fuel f text.size (p + hit text p) (by omega) (by omega)]
  | succ d ih =>
    intro f p hd hf h
    obtain ⟨f, rfl⟩ : ∃ f', f = f' + 1 := ⟨f - 1, by omega⟩
    have hp : p < text.size := by omega
    rw [subR_step hp (h p (Nat.le_refl _) (by omega)), ih f (p + 1) (by omega) (by omega) (fun j h1 h2 => h j (by omega) h2)]
    rw [drop_cons hp, show q - p = (q - (p + 1)) + 1 by omega, List.take_succ_cons, List.cons_append]

structure IsPat (h : Heap) (a ct : Addr) (code : Array Nat) : Prop where
  pat : ∃ p fl, h.get? a = some { cls := .type "re.Pattern", data := .fields #[p, fl, .int 0 0, .none, .none, .ref ct, .int 0 0] }
  code : ∃ its n, h.get? ct = some { cls := .type "tuple", data := .seq its n } ∧ (its.map reRawOf).map (·.toNat) = code
theorem IsPat.sameBut {h h' : Heap} {a ct D : Addr} {code : Array Nat} (x : IsPat h a ct code) (hs : Heap.SameBut D h h') (h1 : a ≠ D) (h2 : ct ≠ D) : IsPat h' a ct code := by
  obtain ⟨⟨p, fl, e1⟩, ⟨its, n, e2, e3⟩⟩ := x
  exact ⟨⟨p, fl, (hs.2 _ h1).trans e1⟩, ⟨its, n, (hs.2 _ h2).trans e2, e3⟩⟩

section
variable {Mo : Model} {A : Around} {E : Value → Shared → Prop} {s : Shared}
theorem wp_target {a ct : Addr} {code : Array Nat} {x : Str} {t : Tok} {Q : ReTarget → Shared → Prop} (hp : IsPat s.heap a ct code)
    (h : Q { pattern := .ref a, string := .str x t, code := code, text := x.cps, kind := 0, groups := 0, pos := 0, lim := x.cps.size } s) : wpAny Mo A (reWholeTarget (.ref a) (.str x t)) Q E s := by
  obtain ⟨⟨p, fl, e1⟩, ⟨its, n, e2, e3⟩⟩ := hp
  unfold reWholeTarget
  refine wpAny_bind (wpAny_fieldsOf e1 rfl ?_)
  refine wpAny_bind (Q := _) (wpAny_pure (a := (x.cps, 0)) ?_)
  show wpAny Mo A (reNoCollectionInside (.str x t) 0 >>= fun _ => (reRawItems (.ref ct)) >>= fun its' => pure { pattern := .ref a, string := .str x t, code := its'.map (·.toNat), text := x.cps, kind := 0, groups := 0, pos := 0, lim := x.cps.size }) Q E s
  refine wpAny_bind (wpAny_pure ?_)
  refine wpAny_bind ?_
  unfold reRawItems
  refine wpAny_bind (wpAny_seqItems e2 rfl ?_)
  refine wpAny_pure (wpAny_pure ?_)
  show Q { pattern := .ref a, string := .str x t, code := (its.map reRawOf).map (·.toNat), text := x.cps, kind := 0, groups := 0, pos := 0, lim := x.cps.size } s
  rw [e3]; exact h

theorem wp_next {code : Array Nat} {hit : Array Nat → Nat → Nat} (hS : Searches code hit) {t : ReTarget} (h1 : t.code = code) (h2 : t.groups = 0) (h3 : t.lim = t.text.size) (hsz : t.text.size ≤ 2 ^ 30) {start : Nat} {must : Bool} (hs : start ≤ t.text.size)
    {Q : Option Sre.M → Shared → Prop} (hy : ∀ m q, start ≤ q → q < t.text.size → 0 < hit t.text q → (∀ j, start ≤ j → j < q → hit t.text j = 0) → m.start = q → m.handed = q + hit t.text q → Q (some m) s)
    (hn : (∀ j, start ≤ j → j < t.text.size → hit t.text j = 0) → Q none s) : wpAny Mo A (reNextFound t start must) Q E s := by
  unfold reNextFound
  rw [h1, h2, h3]
  obtain ⟨n, hn', h⟩ := hS t.text start must hs
  refine wp_toEnd _ n (by omega) ?_
  rcases h with ⟨o, q, g1, g2, g3, g4, g5, g6⟩ | ⟨o, g⟩
  · exact .inl ⟨o, hy _ q g1 g2 g3 g4 g5 g6⟩
  · exact .inr ⟨o, hn g⟩
end
end Mine
end

section
open PySem PySem.W PyProof.Rows
set_option maxRecDepth 100000
namespace Mine
open PySem.Builtin PySem.Builtin.Re

def flat (l : List (Str × Tok)) : List Nat := (l.map fun p => p.1.cps.toList).flatten
theorem flat_snoc (l : List (Str × Tok)) (p : Str × Tok) : flat (l ++ [p]) = flat l ++ p.1.cps.toList := by simp [flat]
theorem join_empty : ∀ texts : List Str, Str.join ⟨#[]⟩ texts = ⟨((texts.map fun p => p.cps.toList).flatten).toArray⟩
  | [] => rfl
  | [x] => by
    obtain ⟨⟨x⟩⟩ := x
    show (⟨⟨x⟩⟩ : Str) = _
    simp
  | x :: y :: r => by
    show x ++ (⟨#[]⟩ : Str) ++ Str.join ⟨#[]⟩ (y :: r) = _
    rw [join_empty (y :: r)]
    obtain ⟨⟨x⟩⟩ := x
    show (⟨((⟨x⟩ : Array Nat) ++ #[]) ++ _⟩ : Str) = _
    simp
theorem txt_join_empty (l : List (Str × Tok)) : Txt.join ⟨#[]⟩ (l.map (·.1)) = ⟨(flat l).toArray⟩ := by
  show Builtin.Str.glued _ _ = _
  rw [StrLaws.glued_eq_join, join_empty]
  simp [flat, Function.comp_def]

theorem plain_loop : plainId "re.Pattern.sub.loop" = true := by decide +kernel
theorem strValues_snoc (l : List (Str × Tok)) (p : Str × Tok) : (strValues l).toArray.push (.str p.1 p.2) = (strValues (l ++ [p])).toArray := by simp [strValues]
theorem size_strValues (l : List (Str × Tok)) : (strValues l).toArray.size = l.length := by simp [strValues]
theorem len_le_flat (l : List (Str × Tok)) : ((l.map (·.1)).map (·.length)).sum = (flat l).length := by
  induction l with
  | nil => rfl
  | cons p l ih => simp only [flat, List.map_cons, List.flatten_cons, List.sum_cons, List.length_append] at *; rw [ih]; simp [Str.length]

section
variable {prog : Program} {w : World} {A : Around} {R : Result → Shared → Prop}
abbrev loopArgs (a : Addr) (x : Str) (tx : Tok) (r : Str) (tr : Tok) (n : Nat) (p : Nat) (must : Bool) (D : Addr) : Args :=
  ⟨[.ref a, .str x tx, .str r tr, rawInt 0, rawInt 0, rawInt n, rawInt p, rawInt p, .bool must, .ref D, .bool false], []⟩

theorem mapSeq_push (its : Array Value) (n : Nat) (v : Value) : Obj.mapSeq (fun xs => xs.push v) { cls := .type "list", data := .seq its n } = { cls := .type "list", data := .seq (its.push v) (n + 1) } := by
  simp [Obj.mapSeq]

theorem push_str {D : Addr} {l : List (Str × Tok)} {n : Nat} {p : Str × Tok} {E : Value → Shared → Prop} {s : Shared} {Q : Unit → Shared → Prop} {Mo : Model} (hD : s.heap.get? D = some { cls := .type "list", data := .seq (strValues l).toArray n }) (hl : l.length ≤ 1000000)
    (h : ∀ h' n', Heap.SameBut D s.heap h' → h'.get? D = some { cls := .type "list", data := .seq (strValues (l ++ [p])).toArray n' } → Q () { s with heap := h' }) :
    wpAny Mo A (updateSeq D (·.push (.str p.1 p.2))) Q E s := by
  refine wpAny_updateSeq hD rfl (h _ (n + 1) (Heap.SameBut.update ..) ?_) (by rw [size_strValues, sizeLine_eq]; omega) (by rw [Array.size_push, size_strValues, sizeLine_eq]; omega)
  rw [Heap.get?_update_self _ hD (by rw [mapSeq_push]; rfl), mapSeq_push, strValues_snoc]

theorem sub_loop {code : Array Nat} {hit : Array Nat → Nat → Nat} (hS : Searches code hit) (ok : HitOk hit) {a ct D : Addr} {x r : Str} {tx tr : Tok} (hx : x.cps.size ≤ 100000) (hr : r.cps.size ≤ 2) (haD : a ≠ D) (hcD : ct ≠ D) :
    ∀ (k : Nat) (s : Shared) (n c p : Nat) (must : Bool) (l : List (Str × Tok)), x.cps.size - p ≤ k → p ≤ x.cps.size → IsPat s.heap a ct code → s.heap.get? D = some { cls := .type "list", data := .seq (strValues l).toArray c } →
      l.length ≤ 2 * p → (flat l).length ≤ 2 * p →
      (∀ h' tk t', Heap.SameBut D s.heap h' → R (.ok (.ret (.str ⟨(flat l ++ subR hit r.cps.toList x.cps x.cps.size p).toArray⟩ t'))) { s with heap := h', toks := tk }) →
      codeAny (model prog w) A (.builtin "re.Pattern.sub.loop" (loopArgs a x tx r tr n p must D)) R s := by
  intro k
  induction k using Nat.strongRecOn with
  | ind k ih =>
  intro s n c p must l hk hp hP hD hl hfl hR
  refine codeAny_builtin entry_pat_loop ?_
  rw [Around.under_plainId plain_loop _]
  show wpAny _ A.in1 (reWholeTarget (.ref a) (.str x tx) >>= _) _ _ s
  refine wpAny_bind (wp_target hP ?_)
  refine wpAny_bind (m := reLiteralCannotBeTurned (.str r tr)) (wpAny_pure ?_)
  show wpAny _ A.in1 ((reNextFound _ (Int.toNat (p : Int)) must) >>= _) _ _ s
  rw [Int.toNat_natCast]
  refine wpAny_bind (wp_next hS rfl rfl rfl (by show x.cps.size ≤ _; omega) (by exact hp) (fun m q h1 h2 h3 h4 h5 h6 => ?_) fun hnone => ?_)
  · dsimp only at h2 h3 h4 h6 ⊢
    have okq := ok x.cps q h2
    have e := subR_some (repl := r.cps.toList) ok h2 h3 (q - p) x.cps.size p (by omega) (by omega) h4
    -- behind the slice
    have rest : ∀ (s₁ : Shared) (l₁ : List (Str × Tok)) (c₁ : Nat), (∃ h tk, s₁ = { s with heap := h, toks := tk } ∧ Heap.SameBut D s.heap h) → s₁.heap.get? D = some { cls := .type "list", data := .seq (strValues l₁).toArray c₁ } →
        l₁.length ≤ 2 * p + 1 → (flat l₁).length ≤ 2 * p + (q - p) → flat l₁ = flat l ++ (x.cps.toList.drop p).take (q - p) → 
        wpAny (model prog w) A.in1 (updateSeq D (·.push (.str r tr)) >>= fun _ => again (.builtin "re.Pattern.sub.loop" ⟨[.ref a, .str x tx, .str r tr, rawInt 0, rawInt 0, rawInt ((n : Int) + 1), rawInt m.handed, rawInt m.handed, .bool (m.handed == m.start), .ref D, .bool false], []⟩))
          (fun fin s' => match fin with | .done f => R (.ok f) s' | .again c' => c'.quiet = true ∧ codeAny (model prog w) A c' R s') (fun e s' => R (.error e) s') s₁ := by
      rintro s₁ l₁ c₁ ⟨h₁, tk₁, rfl, hs₁⟩ hD₁ hl₁ hf₁ hfe
      refine wpAny_bind (push_str (p := (r, tr)) hD₁ (by omega) fun h₂ n₂ hs₂ hD₂ => ?_)
      refine wpAny_pure ⟨plainId_quiet plain_loop _, ?_⟩
      rw [h6]
      have hhit : 1 ≤ hit x.cps q := h3
      refine ih (x.cps.size - (q + hit x.cps q)) (by show _ < k; have : p ≤ q := h1; have : q < x.cps.size := h2; omega) { s with heap := h₂, toks := tk₁ } (n + 1) n₂ (q + hit x.cps q) _ (l₁ ++ [(r, tr)]) (Nat.le_refl _) okq (hP.sameBut (hs₁.trans hs₂) haD hcD) hD₂ ?_ ?_ ?_
      · rw [List.length_append, List.length_singleton]
        have : p ≤ q := h1
        omega
      · rw [flat_snoc, List.length_append]
        have : p ≤ q := h1
        have : r.cps.toList.length ≤ 2 := by simpa using hr
        show (flat l₁).length + r.cps.toList.length ≤ _
        omega
      · intro h' tk t' hs'
        have := hR h' tk t' ((hs₁.trans hs₂).trans hs')
        rw [e] at this
        rw [flat_snoc, hfe]
        simpa only [List.append_assoc] using this
    by_cases hlt : p < m.start
    · rw [if_pos hlt]
      refine wpAny_bind (m := reSlice x.cps 0 p m.start) (wpAny_mkStr ?_ (by
        show (x.cps.extract _ _).size ≤ sizeLine
        rw [Array.size_extract, sizeLine_eq]; omega))
      have hl2 : l.length ≤ 1000000 := by omega
      refine wpAny_bind (push_str (p := (⟨x.cps.extract p m.start⟩, s.toks)) hD hl2 fun h₁ n₁ hs₁ hD₁ => ?_)
      have ex : (x.cps.extract p m.start).toList = (x.cps.toList.drop p).take (q - p) := by
        rw [h5]; simp [Array.toList_extract, List.extract_eq_take_drop]
      refine rest _ _ n₁ ⟨h₁, s.toks + 1, rfl, hs₁⟩ hD₁ ?_ ?_ ?_
      · rw [List.length_append, List.length_singleton]; omega
      · rw [flat_snoc, List.length_append]
        show (flat l).length + (x.cps.extract p m.start).toList.length ≤ _
        rw [ex, List.length_take]; omega
      · rw [flat_snoc]
        show flat l ++ (x.cps.extract p m.start).toList = _
        rw [ex]
    · rw [if_neg hlt]
      refine rest s l c ⟨s.heap, s.toks, rfl, Heap.SameBut.refl _ _⟩ hD (by omega) (by omega) ?_
      have : q - p = 0 := by rw [h5] at hlt; omega
      rw [this, List.take_zero, List.append_nil]
  · dsimp only at hnone ⊢
    have e := subR_none (repl := r.cps.toList) (x.cps.size - p) x.cps.size p (by omega) (by omega) hnone
    rw [e] at hR
    have fin : ∀ (s₁ : Shared) (l₁ : List (Str × Tok)) (c₁ : Nat), (∃ h tk, s₁ = { s with heap := h, toks := tk } ∧ Heap.SameBut D s.heap h) → s₁.heap.get? D = some { cls := .type "list", data := .seq (strValues l₁).toArray c₁ } →
        l₁.length ≤ 2 * p + 1 → (flat l₁).length ≤ 300000 → flat l₁ = flat l ++ x.cps.toList.drop p → 
        wpAny (model prog w) A.in1 (do
          let joiner ← reSlice x.cps 0 0 0
          let text ← if ((← seqItems? (.ref D)).getD #[]).isEmpty then pure joiner else call (.builtin (if (0 : Nat) == 0 then "str.join" else "bytes.join")) [joiner, .ref D]
          if false then ret (← holding [text] do newTuple [text, ← mkInt n]) else ret text)
          (fun fin s' => match fin with | .done f => R (.ok f) s' | .again c' => c'.quiet = true ∧ codeAny (model prog w) A c' R s') (fun e s' => R (.error e) s') s₁ := by
      rintro s₁ l₁ c₁ ⟨h₁, tk₁, rfl, hs₁⟩ hD₁ hl₁ hf₁ hfe
      refine wpAny_bind (m := reSlice x.cps 0 0 0) (wpAny_mkStr ?_ (by show (x.cps.extract 0 0).size ≤ sizeLine; rw [sizeLine_eq]; simp))
      refine wpAny_bind (wpAny_seqItems hD₁ rfl ?_)
      have ej : (⟨x.cps.extract 0 0⟩ : Str) = ⟨#[]⟩ := by simp
      rw [ej]
      dsimp only
      cases l₁ with
      | nil =>
        rw [if_pos (show ((some (strValues []).toArray).getD #[]).isEmpty = true from rfl)]
        refine wpAny_bind (wpAny_pure (wpAny_pure ?_))
        have := hR h₁ (tk₁ + 1) tk₁ hs₁
        rw [← hfe] at this
        exact this
      | cons y ys =>
        rw [if_neg (by simp [strValues])]
        refine wpAny_bind (SC.join (l := y :: ys) ⟨_, hD₁, rfl, _, rfl⟩ rfl (joinOk_of_weight (by
          rw [len_le_flat]; simp only [List.length_map]; omega) (by show (0 : Nat) ≤ 16; omega)) fun t' k' => ?_)
        refine wpAny_pure ?_
        have := hR h₁ k' t' hs₁
        rw [← hfe] at this
        rw [txt_join_empty]
        exact this
    have hdl : (x.cps.toList.drop p).length = x.cps.size - p := by simp
    by_cases hlt : p < x.cps.size
    · rw [if_pos hlt]
      refine wpAny_bind (m := reSlice x.cps 0 p x.cps.size) (wpAny_mkStr ?_ (by
        show (x.cps.extract _ _).size ≤ sizeLine
        rw [Array.size_extract, sizeLine_eq]; omega))
      have hl2 : l.length ≤ 1000000 := by omega
      refine wpAny_bind (push_str (p := (⟨x.cps.extract p x.cps.size⟩, s.toks)) hD hl2 fun h₁ n₁ hs₁ hD₁ => ?_)
      have ex : (x.cps.extract p x.cps.size).toList = x.cps.toList.drop p := by
        rw [Array.toList_extract, List.extract_eq_take_drop]
        exact List.take_of_length_le (by simp)
      refine fin _ _ n₁ ⟨h₁, s.toks + 1, rfl, hs₁⟩ hD₁ ?_ ?_ ?_
      · rw [List.length_append, List.length_singleton]; omega
      · rw [flat_snoc, List.length_append]
        show (flat l).length + (x.cps.extract p x.cps.size).toList.length ≤ _
        rw [ex, hdl]; omega
      · rw [flat_snoc]
        show flat l ++ (x.cps.extract p x.cps.size).toList = _
        rw [ex]
    · rw [if_neg hlt]
      refine fin s l c ⟨s.heap, s.toks, rfl, Heap.SameBut.refl _ _⟩ hD (by omega) (by omega) ?_
      have : x.cps.toList.drop p = [] := List.drop_eq_nil_of_le (by simp; omega)
      rw [this, List.append_nil]
end
end Mine
end

section
open PySem PySem.W PyProof.Rows
set_option maxRecDepth 100000
namespace Mine
open PySem.Builtin PySem.Builtin.Re

theorem str_no_call : typeLookup (.type "str") "__call__" = pure none := by rw [typeLookup_type, builtinLookup_eq_fast]; kernel_rfl
theorem plainAttrs_pat : PlainAttrs "re.Pattern" :=
  ⟨⟨"object.__getattribute__", by rw [typeLookup_type, builtinLookup_eq_fast]; kernel_rfl, by decide +kernel⟩, by rw [typeLookup_type, builtinLookup_eq_fast]; kernel_rfl⟩

section
variable {prog : Program} {w : World} {A : Around} {E : Value → Shared → Prop} {s : Shared} {Q : Value → Shared → Prop}

theorem named_sub (r x : Value) : reNamed "re.Pattern.sub" "sub" ["repl", "string", "count"] 2 [r, x] [] = pure [some r, some x, none] := rfl

theorem call_sub {code : Array Nat} {hit : Array Nat → Nat → Nat} (hS : Searches code hit) (ok : HitOk hit) {a ct : Addr} {x r : Str} {tx tr : Tok} (hx : x.cps.size ≤ 100000) (hr : r.cps.size ≤ 2) (hlit : r.cps.contains 92 = false) (hP : IsPat s.heap a ct code)
    (hQ : ∀ h' tk t', Heap.SameBut s.heap.objs.size (s.heap.push { cls := .type "list", data := .seq #[] }) h' → Q (.str ⟨(subR hit r.cps.toList x.cps x.cps.size 0).toArray⟩ t') { s with heap := h', toks := tk }) :
    wpAny (model prog w) A (call (.builtin "re.Pattern.sub") [.ref a, .str r tr, .str x tx]) Q E s := by
  have hT : s.TypeIs (.ref a) "re.Pattern" := by
    obtain ⟨⟨p, fl, e1⟩, _⟩ := hP
    exact ⟨_, e1, rfl⟩
  refine wpAny_call (codeAny_call_builtin slot_pat_sub.plain entry_pat_sub (slot_pat_sub.check _ _ _ _ _ _ _ _ hT (args_pat_sub _ _ _) ?_))
  show wpAny _ A.in1 (reNamed "re.Pattern.sub" "sub" ["repl", "string", "count"] 2 [.str r tr, .str x tx] [] >>= _) _ _ s
  rw [named_sub]
  refine wpAny_bind (wpAny_pure ?_)
  dsimp only
  refine wpAny_bind (wpAny_pure ?_)
  refine wpAny_bind (wpAny_specialOf (typeIs_str _ _ _) str_no_call ?_)
  have key : wpAny (model prog w) A.in1 (do
      let __discr ← holding [Value.str r tr] (reWholeTarget (.ref a) (.str x tx))
      let __do_lift ← newList []
      again (.builtin "re.Pattern.sub.loop" ⟨[.ref a, .str x tx, .str r tr, rawInt 0, rawInt 0, rawInt 0, rawInt 0, rawInt 0, .bool false, __do_lift, .bool false], []⟩))
      (fun fin s' => match fin with | .done f => (match (Except.ok f : Result) with | .ok (.ret v) => Q v s' | .ok _ => False | .error e => E e s') | .again c' => c'.quiet = true ∧ codeAny (model prog w) A c' (fun r s' => match r with | .ok (.ret v) => Q v s' | .ok _ => False | .error e => E e s') s')
      (fun e s' => E e s') s := by
    refine wpAny_bind (wpAny_holding (wp_target hP ?_))
    refine wpAny_bind (wpAny_newObj_type ?_ (by show (#[] : Array Value).size ≤ sizeLine; rw [sizeLine_eq]; decide))
    refine wpAny_pure ⟨plainId_quiet plain_loop _, ?_⟩
    obtain ⟨⟨p, fl, e1⟩, ⟨its, n, e2, e3⟩⟩ := hP
    have h1 : a ≠ s.heap.objs.size := Nat.ne_of_lt (Heap.lt_size e1)
    have h2 : ct ≠ s.heap.objs.size := Nat.ne_of_lt (Heap.lt_size e2)
    refine sub_loop hS ok hx hr h1 h2 x.cps.size _ 0 0 0 false [] (by omega) (Nat.zero_le _) ⟨⟨p, fl, Heap.get?_push_of_some _ e1⟩, ⟨its, n, Heap.get?_push_of_some _ e2, e3⟩⟩ (Heap.get?_push_size _ rfl) (by simp) (by simp [flat]) ?_
    intro h' tk t' hs
    exact hQ h' tk t' hs
  rw [if_neg (show ¬ ((none : Option Value).isSome = true) by decide)]
  refine wpAny_bind (m := asStr? (.str r tr)) (wpAny_pure ?_)
  refine wpAny_bind (wpAny_pure ?_)
  rw [hlit, if_neg (show ¬ ((none : Option Value).isSome = true) by decide), if_pos (show (!false) = true from rfl)]
  refine wpAny_bind (wpAny_pure ?_)
  exact key
end
end Mine
end

section
set_option maxRecDepth 100000
namespace Mine

/-- line ends made \r\n -/
def nl : List Nat → List Nat
  | [] => []
  | 13 :: 10 :: r => 13 :: 10 :: nl r
  | c :: r => if c = 10 ∨ c = 13 then 13 :: 10 :: nl r else c :: nl r
/-- a dot at a row's begin is doubled -/
def st : Bool → List Nat → List Nat
  | _, [] => []
  | b, c :: r => if b = true ∧ c = 46 then 46 :: 46 :: st false r else c :: st (c == 10) r

theorem nl_crlf (r : List Nat) : nl (13 :: 10 :: r) = 13 :: 10 :: nl r := by rw [nl]
theorem nl_other (c : Nat) (r : List Nat) (h : c ≠ 10 ∧ c ≠ 13) : nl (c :: r) = c :: nl r := by
  rw [nl]
  · rw [if_neg (by omega)]
  · intro r' h1 _; omega
theorem nl_eol (c : Nat) (r : List Nat) (h : c = 10 ∨ c = 13) (hn : ¬ (c = 13 ∧ r.head? = some 10)) : nl (c :: r) = 13 :: 10 :: nl r := by
  rw [nl]
  · rw [if_pos h]
  · intro r' h1 h2; apply hn; rw [h2]; exact ⟨h1, rfl⟩

theorem getD_of_drop {x : Array Nat} {p c : Nat} {r : List Nat} (h : x.toList.drop p = c :: r) : p < x.size ∧ x.getD p 0 = c ∧ x.toList.drop (p + 1) = r := by
  have hp : p < x.size := by
    rcases Nat.lt_or_ge p x.size with h' | h'
    · exact h'
    · rw [List.drop_eq_nil_of_le (by simpa using h')] at h; cases h
  rw [drop_cons hp] at h
  injection h with h1 h2
  exact ⟨hp, h1, h2⟩

theorem nl_sub (x : Array Nat) : ∀ (f p : Nat), x.size ≤ p + f → subR hit2 [13, 10] x f p = nl (x.toList.drop p) := by
  intro f
  induction f using Nat.strongRecOn with
  | ind f ih =>
  intro p hf
  cases hd : x.toList.drop p with
  | nil =>
    have hp : x.size ≤ p := by simpa using hd
    cases f with
    | zero => rfl
    | succ f => unfold subR; rw [if_neg (by omega)]; rfl
  | cons c r =>
    obtain ⟨hp, hc, hr⟩ := getD_of_drop hd
    obtain ⟨f, rfl⟩ : ∃ f', f = f' + 1 := ⟨f - 1, by omega⟩
    by_cases he : c = 10 ∨ c = 13
    · have hh : hit2 x p = eolLen x p := by unfold hit2; rw [hc, if_pos he]
      rw [subR_hit hp (by rw [hh]; exact eolLen_pos _ _), hh]
      by_cases h2 : c = 13 ∧ r.head? = some 10
      · obtain ⟨rfl, h2⟩ := h2
        cases r with
        | nil => cases h2
        | cons d r' =>
          injection h2 with h2
          subst h2
          obtain ⟨hp', hc', hr'⟩ := getD_of_drop hr
          have e : eolLen x p = 2 := by unfold eolLen; rw [if_pos ⟨hc, hp', hc'⟩]
          rw [e, nl_crlf, ih f (by omega) (p + 2) (by omega), ← hr']
          rfl
      · have e : eolLen x p = 1 := by
          unfold eolLen
          rw [if_neg]
          rintro ⟨h3, h4, h5⟩
          apply h2
          refine ⟨hc ▸ h3, ?_⟩
          rw [← hr, drop_cons h4, h5]; rfl
        rw [e, nl_eol c r he h2, ih f (by omega) (p + 1) (by omega), hr]
        rfl
    · have hh : hit2 x p = 0 := by unfold hit2; rw [hc, if_neg he]
      rw [subR_step hp hh, hc, nl_other c r (by omega), ih f (by omega) (p + 1) (by omega), hr]

theorem st_sub (x : Array Nat) : ∀ (f p : Nat), x.size ≤ p + f → subR hit1 [46, 46] x f p = st (p == 0 || x.getD (p - 1) 0 == 10) (x.toList.drop p) := by
  intro f
  induction f with
  | zero =>
    intro p hf
    rw [List.drop_eq_nil_of_le (by simp; omega)]
    rfl
  | succ f ih =>
    intro p hf
    cases hd : x.toList.drop p with
    | nil =>
      have hp : x.size ≤ p := by simpa using hd
      unfold subR; rw [if_neg (by omega)]; rfl
    | cons c r =>
      obtain ⟨hp, hc, hr⟩ := getD_of_drop hd
      have e : ∀ b, st b (c :: r) = if b = true ∧ c = 46 then 46 :: 46 :: st false r else c :: st (c == 10) r := fun b => by rw [st]
      have en : (p + 1 == 0 || x.getD (p + 1 - 1) 0 == 10) = (c == 10) := by
        rw [Nat.add_sub_cancel, hc]; simp
      by_cases h : (p == 0 || x.getD (p - 1) 0 == 10) = true ∧ c = 46
      · have hh : hit1 x p = 1 := by unfold hit1; rw [hc, if_pos h]
        rw [subR_hit hp (by omega), hh, e, if_pos h, ih (p + 1) (by omega), en, hr, h.2]
        rfl
      · have hh : hit1 x p = 0 := by unfold hit1; rw [hc, if_neg h]
        rw [subR_step hp hh, e, if_neg h, ih (p + 1) (by omega), en, hr, hc]

theorem st_append (b : Bool) (x y : List Nat) : st b (x ++ y) = st b x ++ st (match x.getLast? with | none => b | some c => c == 10) y := by
  induction x generalizing b with
  | nil => rfl
  | cons c r ih =>
    have e : ∀ (b : Bool) (r : List Nat), st b (c :: r) = if b = true ∧ c = 46 then 46 :: 46 :: st false r else c :: st (c == 10) r := fun b r => by rw [st]
    have l : ∀ (b' : Bool), b' = (c == 10) → (match r.getLast? with | none => b' | some c => c == 10) = (match (c :: r).getLast? with | none => b | some c => c == 10) := by
      intro b' hb
      cases r with
      | nil => exact hb
      | cons d r => rw [List.getLast?_cons_cons]; cases h : (d :: r).getLast? with
        | none => simp at h
        | some z => rfl
    rw [List.cons_append, e, e]
    by_cases h : b = true ∧ c = 46
    · rw [if_pos h, if_pos h, ih, l false (by rw [h.2]; rfl)]; rfl
    · rw [if_neg h, if_neg h, ih, l _ rfl]; rfl

theorem nl_dot (x y : List Nat) : nl (x ++ 46 :: y) = nl x ++ 46 :: nl y := by
  induction x using nl.induct with
  | case1 => rw [List.nil_append, nl_other 46 y (by decide)]; rfl
  | case2 r ih => rw [nl_crlf, List.cons_append, List.cons_append, nl_crlf, ih]; rfl
  | case3 c r hn hc ih =>
    have h1 : ¬ (c = 13 ∧ r.head? = some 10) := by
      rintro ⟨rfl, h⟩
      cases r with
      | nil => cases h
      | cons d r => injection h with h; subst h; exact hn r rfl rfl
    have h2 : ¬ (c = 13 ∧ (r ++ 46 :: y).head? = some 10) := by
      rintro ⟨rfl, h⟩
      cases r with
      | nil => injection h with h; cases h
      | cons d r => injection h with h; subst h; exact hn r rfl rfl
    rw [nl_eol c r hc h1, List.cons_append, nl_eol c _ hc h2, ih]; rfl
  | case4 c r hn hc ih =>
    rw [nl_other c r (by omega), List.cons_append, nl_other c _ (by omega), ih]; rfl

theorem nl_st (b : Bool) (x : List Nat) : nl (st b (nl x)) = st b (nl x) := by
  have e : ∀ (b : Bool) (c : Nat) (r : List Nat), st b (c :: r) = if b = true ∧ c = 46 then 46 :: 46 :: st false r else c :: st (c == 10) r := fun b c r => by rw [st]
  have crlf : ∀ (b : Bool) (r : List Nat), st b (13 :: 10 :: r) = 13 :: 10 :: st true r := fun b r => by
    rw [e, if_neg (by omega), e, if_neg (by omega)]; rfl
  induction x using nl.induct generalizing b with
  | case1 => rfl
  | case2 r ih => rw [nl_crlf, crlf, nl_crlf, ih]
  | case3 c r hn hc ih =>
    have h1 : ¬ (c = 13 ∧ r.head? = some 10) := by
      rintro ⟨rfl, h⟩
      cases r with
      | nil => cases h
      | cons d r => injection h with h; subst h; exact hn r rfl rfl
    rw [nl_eol c r hc h1, crlf, nl_crlf, ih]
  | case4 c r hn hc ih =>
    rw [nl_other c r (by omega), e]
    by_cases h : b = true ∧ c = 46
    · rw [if_pos h, nl_other 46 _ (by decide), nl_other 46 _ (by decide), ih]
    · rw [if_neg h, nl_other c _ (by omega), ih]
end Mine
end

section
set_option maxRecDepth 100000
namespace Mine
open PySem

abbrev Span := Int × Int
def rows : List Nat → List (List Nat)
  | [] => [[]]
  | 13 :: 10 :: r => [] :: rows r
  | c :: r => if c = 10 ∨ c = 13 then [] :: rows r else (match rows r with | h :: t => (c :: h) :: t | [] => [[c]])
def rowT (k : Nat) (r : List Nat) : List Nat := if r.head? = some 46 then List.replicate k 46 ++ r else r
def joinT (c : Nat) : List (List Nat) → List Nat
  | [] => []
  | r :: rs => 13 :: 10 :: (rowT c r ++ joinT c rs)
def rowsT (z c : Nat) : List (List Nat) → List Nat
  | [] => []
  | r :: rs => rowT z r ++ joinT c rs
def endB (b : Bool) : List (List Nat) → Bool
  | [] => b
  | [r] => b && r.isEmpty
  | _ :: rs => endB true rs

def endsE (w : List Nat) : Bool := w.getLast? == some 10 || w.getLast? == some 13
def wordsAll : List (List Nat) := [[], [46], [10], [97], [98, 13], [46, 13, 10, 46], [67], [13, 46, 99]]
def okWord (w : List Nat) : Bool := (rows w).all (fun r => r.all fun c => c != 10 && c != 13) && (nl w == rowsT 0 0 (rows w)) && (endB true (rows w) == (endsE w || w.isEmpty)) && (endB false (rows w) == endsE w) && !(rows w).isEmpty
theorem okWord_of {w : List Nat} (h : w ∈ wordsAll) : okWord w = true := by
  have : ∀ w ∈ wordsAll, okWord w = true := by decide +kernel
  exact this w h

theorem st_cons (b : Bool) (c : Nat) (r : List Nat) : st b (c :: r) = if b = true ∧ c = 46 then 46 :: 46 :: st false r else c :: st (c == 10) r := by rw [st]
def Free (r : List Nat) : Prop := ∀ c ∈ r, c ≠ 10
theorem st_free {r : List Nat} (h : Free r) (t : List Nat) : st false (r ++ t) = r ++ st false t := by
  induction r with
  | nil => rfl
  | cons c r ih =>
    rw [List.cons_append, st_cons, if_neg (by simp), show (c == 10) = false by simpa using h c (by simp), ih fun c hc => h c (by simp [hc])]
    rfl
theorem st_dots (k : Nat) (t : List Nat) : st false (List.replicate k 46 ++ t) = List.replicate k 46 ++ st false t := st_free (fun c hc => by rw [List.eq_of_mem_replicate hc]; decide) t
theorem st_dots1 (b : Bool) (k : Nat) (t : List Nat) : st b (List.replicate (1 + k) 46 ++ t) = List.replicate (1 + (k + if b then 1 else 0)) 46 ++ st false t := by
  rw [Nat.add_comm 1 k, List.replicate_succ, List.cons_append, st_cons]
  cases b with
  | false => rw [if_neg (by simp), show ((46 : Nat) == 10) = false by decide, st_dots]; simp [Nat.add_comm 1, List.replicate_succ]
  | true => rw [if_pos (by simp), st_dots]; simp [Nat.add_comm 1, List.replicate_succ]
theorem st_row {r : List Nat} (h : Free r) (b : Bool) (z : Nat) (t : List Nat) : st b (rowT z r ++ t) = rowT (z + if b then 1 else 0) r ++ st (b && r.isEmpty) t := by
  cases r with
  | nil => simp [rowT]
  | cons c r =>
    have hr : Free r := fun c hc => h c (by simp [hc])
    have hb : (b && (c :: r).isEmpty) = false := by simp
    rw [hb]
    by_cases hc : c = 46
    · subst hc
      have e : ∀ k, rowT k (46 :: r) = List.replicate (1 + k) 46 ++ r := by
        intro k
        simp only [rowT, List.head?_cons, if_true]
        rw [Nat.add_comm 1 k, List.replicate_succ', List.append_assoc]; rfl
      rw [e, e, List.append_assoc, st_dots1, st_free hr, List.append_assoc]
    · have e : ∀ k, rowT k (c :: r) = c :: r := by
        intro k
        unfold rowT
        rw [if_neg (by simpa using hc)]
      rw [e, e, List.cons_append, st_cons, if_neg (by simp [hc]), show (c == 10) = false by simpa using h c (by simp), st_free hr]
      rfl
theorem st_join {rs : List (List Nat)} (h : ∀ r ∈ rs, Free r) (b : Bool) (c : Nat) (t : List Nat) : st b (joinT c rs ++ t) = joinT (c + 1) rs ++ st (match rs with | [] => b | _ => endB true rs) t := by
  induction rs generalizing b with
  | nil => rfl
  | cons r rs ih =>
    have e : joinT c (r :: rs) ++ t = 13 :: 10 :: (rowT c r ++ (joinT c rs ++ t)) := by simp [joinT, List.append_assoc]
    rw [e, st_cons, if_neg (by omega), st_cons, if_neg (by omega), show ((10 : Nat) == 10) = true by decide, st_row (h r (by simp)), ih fun r hr => h r (by simp [hr])]
    have e2 : ∀ y, joinT (c + 1) (r :: rs) ++ y = 13 :: 10 :: (rowT (c + 1) r ++ (joinT (c + 1) rs ++ y)) := by intro y; simp [joinT, List.append_assoc]
    rw [e2]
    cases rs with
    | nil => simp [endB]
    | cons r' rs' => simp [endB]
theorem st_rows {rs : List (List Nat)} (h : ∀ r ∈ rs, Free r) (hne : rs ≠ []) (b : Bool) (z c : Nat) (t : List Nat) : st b (rowsT z c rs ++ t) = rowsT (z + if b then 1 else 0) (c + 1) rs ++ st (endB b rs) t := by
  cases rs with
  | nil => exact absurd rfl hne
  | cons r rs =>
    have e : ∀ z c y, rowsT z c (r :: rs) ++ y = rowT z r ++ (joinT c rs ++ y) := by intro z c y; simp [rowsT, List.append_assoc]
    rw [e, e, st_row (h r (by simp)), st_join fun r hr => h r (by simp [hr])]
    cases rs with
    | nil => simp [endB]
    | cons r' rs' => simp [endB]

theorem ok_parts {w : List Nat} (h : w ∈ wordsAll) : (∀ r ∈ rows w, Free r) ∧ nl w = rowsT 0 0 (rows w) ∧ (∀ b, endB b (rows w) = (endsE w || (b && w.isEmpty))) ∧ rows w ≠ [] := by
  have := okWord_of h
  simp only [okWord, Bool.and_eq_true, List.all_eq_true, bne_iff_ne, beq_iff_eq, Bool.not_eq_true', List.isEmpty_eq_false_iff] at this
  obtain ⟨⟨⟨⟨h1, h2⟩, h3⟩, h4⟩, h5⟩ := this
  refine ⟨fun r hr c hc => (h1 r hr c hc).1, h2, fun b => ?_, h5⟩
  cases b with
  | true => rw [h3]; simp
  | false => rw [h4]; simp

/-- how many spans make a point longer -/
def cnt (ov : List Span) (p a : Int) (w : List Nat) : Nat := (ov.filter fun s => decide (s.1 < p) && (endsE w || (w.isEmpty && decide (s.1 = a)))).length
def zed (ov : List Span) (p : Int) : Nat := (ov.filter fun s => decide (s.1 = p)).length
def point (stt : Option (Int × List Nat)) (ov : List Span) (p : Int) : List Nat := match stt with
  | none => []
  | some (a, w) => List.replicate (1 + cnt ov p a w) 46
def toldG (pr : Int → Bool) (wd : Int → List Nat) (ov : Int → List Span) : List Int → Option (Int × List Nat) → List Nat
  | [], _ => []
  | p :: ps, stt => if pr p then point stt (ov p) p ++ (rowsT (zed (ov p) p) (ov p).length (rows (wd p)) ++ toldG pr wd ov ps (some (p, wd p))) else toldG pr wd ov ps stt
def finG (pr : Int → Bool) (wd : Int → List Nat) : List Int → Option (Int × List Nat) → Option (Int × List Nat)
  | [], stt => stt
  | p :: ps, stt => if pr p then finG pr wd ps (some (p, wd p)) else finG pr wd ps stt
theorem toldG_append (pr : Int → Bool) (wd : Int → List Nat) (ov : Int → List Span) : ∀ (ps qs : List Int) stt, toldG pr wd ov (ps ++ qs) stt = toldG pr wd ov ps stt ++ toldG pr wd ov qs (finG pr wd ps stt)
  | [], _, _ => rfl
  | p :: ps, qs, stt => by
    rw [List.cons_append, toldG, toldG, finG]
    cases pr p with
    | true => rw [if_pos rfl, if_pos rfl, if_pos rfl, toldG_append, List.append_assoc, List.append_assoc]
    | false => rw [if_neg Bool.false_ne_true, if_neg Bool.false_ne_true, if_neg Bool.false_ne_true, toldG_append]

def bolOf (f : Int) : Int × List Nat → Bool := fun x => endsE x.2 || (x.2.isEmpty && decide (x.1 = f))
theorem cnt_snoc (ov : List Span) (N : Span) (p a : Int) (w : List Nat) (h : N.1 < p) : cnt (ov ++ [N]) p a w = cnt ov p a w + if bolOf N.1 (a, w) then 1 else 0 := by
  unfold cnt bolOf
  rw [List.filter_append, List.length_append]
  congr 1
  rw [List.filter_cons]
  have e : (decide (N.1 = a)) = decide (a = N.1) := by simp [eq_comm]
  rw [decide_eq_true h, Bool.true_and, e]
  cases (endsE w || (w.isEmpty && decide (a = N.1))) <;> rfl
theorem zed_snoc (ov : List Span) (N : Span) (p : Int) : zed (ov ++ [N]) p = zed ov p + if N.1 = p then 1 else 0 := by
  unfold zed
  rw [List.filter_append, List.length_append]
  congr 1
  by_cases h : N.1 = p <;> simp [h]

/-- a stretch N more, behind its first word -/
theorem tail_N (pr : Int → Bool) (wd : Int → List Nat) (ov : Int → List Span) (N : Span) (hw : ∀ p, wd p ∈ wordsAll) : ∀ (ps : List Int) (x : Int × List Nat) (t : List Nat), (∀ p ∈ ps, N.1 < p) →
    st (bolOf N.1 x) (toldG pr wd ov ps (some x) ++ t) = toldG pr wd (fun p => ov p ++ [N]) ps (some x) ++ st (match finG pr wd ps (some x) with | some y => bolOf N.1 y | none => true) t
  | [], x, t, _ => rfl
  | p :: ps, x, t, h => by
    have hp : N.1 < p := h p (by simp)
    have ht : ∀ q ∈ ps, N.1 < q := fun q hq => h q (by simp [hq])
    rw [toldG, toldG, finG]
    cases hpr : pr p with
    | false => rw [if_neg Bool.false_ne_true, if_neg Bool.false_ne_true, if_neg Bool.false_ne_true]; exact tail_N pr wd ov N hw ps x t ht
    | true =>
      rw [if_pos rfl, if_pos rfl, if_pos rfl]
      obtain ⟨h1, h2, h3, h4⟩ := ok_parts (hw p)
      obtain ⟨a, w⟩ := x
      show st (bolOf N.1 (a, w)) (List.replicate (1 + cnt (ov p) p a w) 46 ++ _ ++ t) = _
      rw [List.append_assoc, st_dots1, List.append_assoc, st_rows h1 h4, h3]
      have eb : (endsE (wd p) || (false && (wd p).isEmpty)) = bolOf N.1 (p, wd p) := by
        unfold bolOf
        have : decide (p = N.1) = false := decide_eq_false (by omega)
        simp [this]
      rw [eb, tail_N pr wd ov N hw ps (p, wd p) t ht]
      show _ = (List.replicate (1 + cnt (ov p ++ [N]) p a w) 46 ++ (rowsT (zed (ov p ++ [N]) p) (ov p ++ [N]).length (rows (wd p)) ++ _)) ++ _
      rw [cnt_snoc _ _ _ _ _ hp, zed_snoc, if_neg (by omega : ¬ N.1 = p), List.length_append]
      simp [List.append_assoc]

theorem left_N (pr : Int → Bool) (wd : Int → List Nat) (ov : Int → List Span) (N : Span) (hw : ∀ p, wd p ∈ wordsAll) (ps : List Int) (t : List Nat) (hpr : pr N.1 = true) (h : ∀ p ∈ ps, N.1 < p) :
    st true (toldG pr wd ov (N.1 :: ps) none ++ t) = toldG pr wd (fun p => ov p ++ [N]) (N.1 :: ps) none ++ st (match finG pr wd (N.1 :: ps) none with | some y => bolOf N.1 y | none => true) t := by
  rw [toldG, toldG, finG, if_pos hpr, if_pos hpr, if_pos hpr]
  obtain ⟨h1, h2, h3, h4⟩ := ok_parts (hw N.1)
  show st true (rowsT _ _ _ ++ _ ++ t) = (rowsT _ _ _ ++ _) ++ _
  rw [List.append_assoc, st_rows h1 h4, h3]
  have eb : (endsE (wd N.1) || (true && (wd N.1).isEmpty)) = bolOf N.1 (N.1, wd N.1) := by simp [bolOf]
  rw [eb, tail_N pr wd ov N hw ps _ t h, zed_snoc, List.length_append, List.append_assoc]
  simp

theorem right_N (pr : Int → Bool) (wd : Int → List Nat) (ov : Int → List Span) (N : Span) (hw : ∀ p, wd p ∈ wordsAll) (q : Int) (ps : List Int) (x : Int × List Nat) (hpr : pr q = true) (hq : N.1 < q) (h : ∀ p ∈ ps, N.1 < p) (hov : ∀ s ∈ ov q, ¬ s.1 < q) :
    st (bolOf N.1 x) (46 :: toldG pr wd ov (q :: ps) none) = toldG pr wd (fun p => ov p ++ [N]) (q :: ps) (some x) := by
  rw [toldG, toldG, if_pos hpr, if_pos hpr]
  obtain ⟨h1, h2, h3, h4⟩ := ok_parts (hw q)
  obtain ⟨a, w⟩ := x
  have c0 : cnt (ov q) q a w = 0 := by
    unfold cnt
    rw [List.length_eq_zero_iff, List.filter_eq_nil_iff]
    intro s hs
    simp [hov s hs]
  show st (bolOf N.1 (a, w)) (46 :: (rowsT _ _ _ ++ _)) = List.replicate (1 + cnt (ov q ++ [N]) q a w) 46 ++ (rowsT _ _ _ ++ _)
  have e := st_dots1 (bolOf N.1 (a, w)) 0 (rowsT (zed (ov q) q) (ov q).length (rows (wd q)) ++ toldG pr wd ov ps (some (q, wd q)))
  have e' : (46 :: (rowsT (zed (ov q) q) (ov q).length (rows (wd q)) ++ toldG pr wd ov ps (some (q, wd q)))) = List.replicate (1 + 0) 46 ++ (rowsT (zed (ov q) q) (ov q).length (rows (wd q)) ++ toldG pr wd ov ps (some (q, wd q))) := rfl
  rw [e', e, st_rows h1 h4, h3, cnt_snoc _ _ _ _ _ hq, c0, zed_snoc, if_neg (by omega : ¬ N.1 = q), List.length_append]
  have eb : (endsE (wd q) || (false && (wd q).isEmpty)) = bolOf N.1 (q, wd q) := by
    unfold bolOf
    have : decide (q = N.1) = false := decide_eq_false (by omega)
    simp [this]
  rw [eb]
  have := tail_N pr wd ov N hw ps (q, wd q) [] h
  simp only [List.append_nil, st] at this
  rw [this]
  rfl
end Mine
end

section
set_option maxRecDepth 100000
namespace Mine
open PySem PySem.W

def overF (sp : List Span) (f l p : Int) : List Span := sp.filter fun s => decide (f ≤ s.1) && (decide (s.1 ≤ p) && (decide (p ≤ s.2) && decide (s.2 ≤ l)))
def wdOf (ws : Int → Option (List Nat)) (p : Int) : List Nat := (ws p).getD [67]
def presF (ws : Int → Option (List Nat)) (ov : Int → List Span) (p : Int) : Bool := (ws p).isSome || ((ov p).head?.map (·.1) == some p)
def places (f l : Int) : List Int := rangeKs f (l + 1 - f).toNat
def toldF (ws : Int → Option (List Nat)) (sp : List Span) (f l : Int) : List Nat := toldG (presF ws (overF sp f l)) (wdOf ws) (overF sp f l) (places f l) none
def buildL (x y : Option (List Nat)) : List Nat := match y with | none => x.getD [67] | some y => x.getD [67] ++ 46 :: y
def quoteL (x : List Nat) : List Nat := st true (nl x)

theorem mem_places {f l p : Int} (h : p ∈ places f l) : f ≤ p ∧ p ≤ l := by
  have := mem_rangeKs h
  omega
theorem places_cons {f l : Int} (h : f ≤ l) : places f l = f :: places (f + 1) l := by
  unfold places
  rw [show (l + 1 - f).toNat = (l + 1 - (f + 1)).toNat + 1 by omega]
  exact kll_cons _ _
theorem places_nil {f l : Int} (h : l < f) : places f l = [] := by
  unfold places
  rw [show (l + 1 - f).toNat = 0 by omega]; rfl
theorem places_split {f m l : Int} (h1 : f ≤ m + 1) (h2 : m ≤ l) : places f l = places f m ++ places (m + 1) l := by
  obtain ⟨d, hd⟩ : ∃ d : Nat, (m + 1 - f).toNat = d := ⟨_, rfl⟩
  induction d generalizing f with
  | zero =>
    have : f = m + 1 := by omega
    rw [places_nil (by omega : m < f), this]; rfl
  | succ d ih =>
    rw [places_cons (by omega : f ≤ l), places_cons (by omega : f ≤ m), ih (by omega) (by omega)]; rfl

theorem toldG_congr {pr pr' : Int → Bool} {wd : Int → List Nat} {ov ov' : Int → List Span} : ∀ (ps : List Int) stt, (∀ p ∈ ps, pr p = pr' p) → (∀ p ∈ ps, ov p = ov' p) → toldG pr wd ov ps stt = toldG pr' wd ov' ps stt
  | [], _, _, _ => rfl
  | p :: ps, stt, h1, h2 => by
    rw [toldG, toldG, h1 p (by simp), h2 p (by simp), toldG_congr ps _ (fun q hq => h1 q (by simp [hq])) fun q hq => h2 q (by simp [hq]), toldG_congr ps stt (fun q hq => h1 q (by simp [hq])) fun q hq => h2 q (by simp [hq])]

abbrev Item := Int × Int × Option (List Nat)
structure ItemOk (ws : Int → Option (List Nat)) (sp : List Span) (it : Item) : Prop where
  le : it.1 ≤ it.2.1
  sep : ∀ s ∈ sp, s.1 ≤ it.2.1 → it.1 ≤ s.2 → it.1 ≤ s.1 ∧ s.2 ≤ it.2.1
  txt : (it.1 = it.2.1 ∧ it.2.2 = ws it.1 ∧ ∀ s ∈ sp, ¬ (s.1 ≤ it.1 ∧ it.1 ≤ s.2)) ∨ (it.1 < it.2.1 ∧ it.2.2 = some (toldF ws sp it.1 it.2.1) ∧ nl (toldF ws sp it.1 it.2.1) = toldF ws sp it.1 it.2.1 ∧ (it.1, it.2.1) ∈ sp)

theorem over_snoc (sp : List Span) (N : Span) (f l p : Int) : overF (sp ++ [N]) f l p = overF sp f l p ++ overF [N] f l p := List.filter_append ..
theorem over_one {f l p : Int} (h1 : f ≤ p) (h2 : p ≤ l) : overF [(f, l)] f l p = [(f, l)] := by simp [overF, h1, h2]
theorem over_none {N : Span} {f l p : Int} (h : ¬ (f ≤ N.1 ∧ N.2 ≤ l)) : overF [N] f l p = [] := by
  unfold overF
  rw [List.filter_eq_nil_iff]
  intro s hs
  rw [List.mem_singleton.mp hs]
  simp only [Bool.and_eq_true, decide_eq_true_eq]
  intro hh; exact h ⟨hh.1, hh.2.2.2⟩
theorem over_sub {ws : Int → Option (List Nat)} {sp : List Span} {it : Item} (ok : ItemOk ws sp it) {f l p : Int} (h1 : it.1 ≤ p) (h2 : p ≤ it.2.1) (hf : f ≤ it.1) (hl : it.2.1 ≤ l) : overF sp f l p = overF sp it.1 it.2.1 p := by
  unfold overF
  refine List.filter_congr fun s hs => ?_
  have := ok.sep s hs
  rw [Bool.eq_iff_iff]
  simp only [Bool.and_eq_true, decide_eq_true_eq]
  constructor
  · rintro ⟨a1, a2, a3, a4⟩
    have := this (by omega) (by omega)
    exact ⟨this.1, a2, a3, this.2⟩
  · rintro ⟨a1, a2, a3, a4⟩
    exact ⟨by omega, a2, a3, by omega⟩

/-- an item's text with its line ends made, and its first place -/
theorem item_text {ws : Int → Option (List Nat)} {sp : List Span} {it : Item} (hw : ∀ p, wdOf ws p ∈ wordsAll) (ok : ItemOk ws sp it) (pr : Int → Bool) (hpr : pr it.1 = true)
    (hp : ∀ p, it.1 ≤ p → p ≤ it.2.1 → overF sp it.1 it.2.1 p ≠ [] → pr p = presF ws (overF sp it.1 it.2.1) p) :
    nl (it.2.2.getD [67]) = toldG pr (wdOf ws) (overF sp it.1 it.2.1) (places it.1 it.2.1) none := by
  rcases ok.txt with ⟨e1, e2, e3⟩ | ⟨e1, e2, e3, e4⟩
  · have eo : overF sp it.1 it.2.1 it.1 = [] := by
      unfold overF
      rw [List.filter_eq_nil_iff]
      intro s hs
      have := e3 s hs
      simp only [Bool.and_eq_true, decide_eq_true_eq]
      intro hh; exact this ⟨hh.2.1, hh.2.2.1⟩
    rw [places_cons ok.le, places_nil (by omega), toldG, if_pos hpr, eo, e2]
    show nl (wdOf ws it.1) = [] ++ (rowsT _ _ _ ++ [])
    rw [(ok_parts (hw it.1)).2.1]
    simp [zed]
  · rw [e2]
    show nl (toldF ws sp it.1 it.2.1) = _
    rw [e3]
    refine toldG_congr _ _ (fun p hp' => ?_) fun _ _ => rfl
    have hm := mem_places hp'
    refine (hp p hm.1 hm.2 ?_).symm
    intro hnil
    have : (it.1, it.2.1) ∈ overF sp it.1 it.2.1 p := by simp [overF, e4, hm.1, hm.2]
    rw [hnil] at this; cases this

theorem finG_some {pr : Int → Bool} {wd : Int → List Nat} : ∀ (ps : List Int) x, ∃ y, finG pr wd ps (some x) = some y
  | [], x => ⟨x, rfl⟩
  | p :: ps, x => by
    rw [finG]
    cases pr p with
    | true => rw [if_pos rfl]; exact finG_some ps _
    | false => rw [if_neg Bool.false_ne_true]; exact finG_some ps x

theorem join_text {ws : Int → Option (List Nat)} {sp : List Span} {A B : Item} (hw : ∀ p, wdOf ws p ∈ wordsAll) (okA : ItemOk ws sp A) (okB : ItemOk ws sp B) (hAB : B.1 = A.2.1 + 1) :
    quoteL (buildL A.2.2 B.2.2) = toldF ws (sp ++ [(A.1, B.2.1)]) A.1 B.2.1 := by
  obtain ⟨f, m, v⟩ := A
  obtain ⟨q, l, u⟩ := B
  dsimp only at *
  have hfm : f ≤ m := okA.le
  have hql : q ≤ l := okB.le
  have ovL : ∀ p, f ≤ p → p ≤ m → overF (sp ++ [(f, l)]) f l p = overF sp f m p ++ [(f, l)] := by
    intro p h1 h2
    rw [over_snoc, over_one h1 (by omega), over_sub okA h1 h2 (Int.le_refl _) (by show m ≤ l; omega)]
  have ovR : ∀ p, q ≤ p → p ≤ l → overF (sp ++ [(f, l)]) f l p = overF sp q l p ++ [(f, l)] := by
    intro p h1 h2
    rw [over_snoc, over_one (by omega) h2, over_sub okB h1 h2 (by show f ≤ q; omega) (Int.le_refl _)]
  unfold toldF
  generalize hpr : presF ws (overF (sp ++ [(f, l)]) f l) = pr
  -- the left part
  have prf : pr f = true := by
    rw [← hpr]; unfold presF
    rw [ovL f (Int.le_refl _) hfm]
    have : (overF sp f m f ++ [(f, l)]).head?.map (·.1) = some f := by
      cases h : overF sp f m f with
      | nil => rfl
      | cons s r =>
        have hs : s ∈ overF sp f m f := by rw [h]; simp
        simp only [overF, List.mem_filter, Bool.and_eq_true, decide_eq_true_eq] at hs
        show some s.1 = some f
        congr 1; omega
    rw [this]; simp
  have keep : ∀ {it : Item} (p : Int), overF (sp ++ [(f, l)]) f l p = overF sp it.1 it.2.1 p ++ [(f, l)] → overF sp it.1 it.2.1 p ≠ [] → pr p = presF ws (overF sp it.1 it.2.1) p := by
    intro it p e hne
    rw [← hpr]; unfold presF
    rw [e]
    cases h : overF sp it.1 it.2.1 p with
    | nil => exact absurd h hne
    | cons s r => rfl
  have tL := item_text hw okA pr prf fun p h1 h2 hne => keep (it := (f, m, v)) p (ovL p h1 h2) hne
  dsimp only at tL
  have hps : ∀ p ∈ places (f + 1) m, f < p := fun p hp => by have := mem_places hp; omega
  have L := left_N pr (wdOf ws) (overF sp f m) (f, l) hw (places (f + 1) m)
  have cL : toldG pr (wdOf ws) (fun p => overF sp f m p ++ [(f, l)]) (places f m) none = toldG pr (wdOf ws) (overF (sp ++ [(f, l)]) f l) (places f m) none :=
    toldG_congr _ _ (fun _ _ => rfl) fun p hp => (ovL p (mem_places hp).1 (mem_places hp).2).symm
  have hfin : ∃ y, finG pr (wdOf ws) (places f m) none = some y := by
    rw [places_cons hfm, finG, if_pos prf]; exact finG_some _ _
  rw [← places_cons hfm] at L
  rw [places_split (by omega : f ≤ m + 1) (by omega : m ≤ l), toldG_append, ← cL, ← hAB]
  obtain ⟨y, hy⟩ := hfin
  rw [hy]
  rw [hy] at L
  dsimp only at L
  cases u with
  | none =>
    -- the right part is gone
    have leaf : q = l ∧ ws q = none ∧ ∀ s ∈ sp, ¬ (s.1 ≤ q ∧ q ≤ s.2) := by
      rcases okB.txt with ⟨e1, e2, e3⟩ | ⟨e1, e2, e3, e4⟩
      · exact ⟨e1, e2.symm, e3⟩
      · cases e2
    have prq : pr q = false := by
      rw [← hpr]; unfold presF
      rw [ovR q (Int.le_refl _) hql, leaf.2.1]
      have : overF sp q l q = [] := by
        unfold overF
        rw [List.filter_eq_nil_iff]
        intro s hs
        have := leaf.2.2 s hs
        simp only [Bool.and_eq_true, decide_eq_true_eq]
        intro hh; exact this ⟨hh.2.1, hh.2.2.1⟩
      rw [this]
      have : ¬ f = q := by omega
      simp [this]
    have e0 : toldG pr (wdOf ws) (overF (sp ++ [(f, l)]) f l) (places q l) (some y) = [] := by
      rw [places_cons hql, places_nil (show l < q + 1 by omega), toldG, prq, if_neg Bool.false_ne_true]; rfl
    rw [e0]
    show st true (nl (v.getD [67])) = _ ++ []
    rw [tL]
    have := L [] prf hps
    simpa only [List.append_nil, st] using this
  | some u =>
    have prq : pr q = true := by
      rw [← hpr]; unfold presF
      rcases okB.txt with ⟨e1, e2, e3⟩ | ⟨e1, e2, e3, e4⟩
      · have : (ws q).isSome = true := by
          have e2' : some u = ws q := e2
          rw [← e2']; rfl
        rw [this]; rfl
      · rw [ovR q (Int.le_refl _) hql]
        have : (overF sp q l q ++ [(f, l)]).head?.map (·.1) = some q := by
          cases h : overF sp q l q with
          | nil =>
            have hm : (q, l) ∈ overF sp q l q := by
              have e4' : (q, l) ∈ sp := e4
              simp [overF, e4', hql]
            rw [h] at hm; cases hm
          | cons s r =>
            have hs : s ∈ overF sp q l q := by rw [h]; simp
            simp only [overF, List.mem_filter, Bool.and_eq_true, decide_eq_true_eq] at hs
            show some s.1 = some q
            congr 1; omega
        rw [this]; simp
    have tR := item_text hw okB pr prq fun p h1 h2 hne => keep (it := (q, l, some u)) p (ovR p h1 h2) hne
    dsimp only at tR
    have cR : toldG pr (wdOf ws) (fun p => overF sp q l p ++ [(f, l)]) (places q l) (some y) = toldG pr (wdOf ws) (overF (sp ++ [(f, l)]) f l) (places q l) (some y) :=
      toldG_congr _ _ (fun _ _ => rfl) fun p hp => (ovR p (mem_places hp).1 (mem_places hp).2).symm
    have R := right_N pr (wdOf ws) (overF sp q l) (f, l) hw q (places (q + 1) l) y prq (by show f < q; omega) (fun p hp => by have := mem_places hp; show f < p; omega) (by
      intro s hs
      simp only [overF, List.mem_filter, Bool.and_eq_true, decide_eq_true_eq] at hs
      omega)
    rw [← places_cons hql] at R
    rw [← cR, ← R]
    show st true (nl (v.getD [67] ++ 46 :: u)) = _
    rw [nl_dot, tL]
    have tR' : nl u = _ := tR
    rw [tR']
    exact L _ prf hps
end Mine
end

section
open PySem PySem.W PyProof.Rows
set_option Elab.async false
set_option maxRecDepth 100000
set_option maxHeartbeats 0
namespace Mine
abbrev spanD (s : Span) : Dat := .tuple [.int s.1, .int s.2]
abbrev strL (l : List Nat) : Str := ⟨l.toArray⟩
end Mine
end

section
open PySem PySem.W PyProof.Rows
set_option Elab.async false
set_option maxRecDepth 100000
set_option maxHeartbeats 0
namespace Mine
section
variable {prog : Program} {w : World} {A : Around} {E : Value → Shared → Prop} {s : Shared} {env : Env} {h₀ : Heap} {x : Str} {body : List Stmt} {Q : Flow → Shared → Prop}

theorem iter_led {l : Addr} {vs : List Value} {nn : Nat} {m₀ : Str → Option Value} {news : List (Addr × Obj)} (F : Fr h₀ env.locals s.heap m₀) (N : News h₀ env.locals s.heap news) (hl : (l, listOf vs.toArray nn) ∈ news)
    (P : (Str → Option Value) → Nat → (Str → Option Value) → Prop) (hh : A.handled = none) (hp : P m₀ 0 m₀)
    (turn : ∀ i v m₁ h tk nw, vs[i]? = some v → (∀ q ∈ news, q ∈ nw) → P m₀ i m₁ → Fr h₀ env.locals h (fun y => if y = x then some v else m₁ y) → News h₀ env.locals h nw → ∀ qq : Flow → Shared → Prop,
      (∀ h' tk' m' nw', Fr h₀ env.locals h' m' → News h₀ env.locals h' nw' → (∀ q ∈ nw, q ∈ nw') → P m₀ (i + 1) m' → qq .next { s with heap := h', toks := tk' }) →
      (∀ h' tk' m' nw', Fr h₀ env.locals h' m' → News h₀ env.locals h' nw' → (∀ q ∈ nw, q ∈ nw') → P m₀ (i + 1) m' → qq .cont { s with heap := h', toks := tk' }) →
      wpAny (model prog w) A (execs body env) qq E { s with heap := h, toks := tk })
    (done : ∀ m₁ h tk, P m₀ vs.length m₁ → Fr h₀ env.locals h m₁ → News h₀ env.locals h news → Q .next { s with heap := h, toks := tk }) :
    wpAny (model prog w) A (pyIter (.ref l)) (fun it s₂ => LoopAtV prog w A h₀ env x body Q E it s₂) E s := by
  refine kdl_iter (fun i m nx => nx = news ∧ P m₀ i m) hh hl F N ⟨rfl, hp⟩ ?_ ?_
  · rintro i v m₁ nx h tk own hv hoff _ ⟨rfl, hP⟩ F₁ N₁
    refine turn i v m₁ h tk (nx ++ own) hv (fun q hq => List.mem_append.mpr (.inl hq)) hP F₁ N₁ _ ?_ ?_
    all_goals
      intro h' tk' m' nw' F' N' hs hP'
      exact ⟨h', tk', m', nw', nx, rfl, F', N', fun p hp => hs p (List.mem_append.mpr (.inl hp)), fun p hp => hs p (List.mem_append.mpr (.inr hp)), hoff, hl, rfl, hP'⟩
  · rintro m₁ nx h tk ⟨rfl, hP⟩ F₁ N₁
    exact done m₁ h tk hP F₁ N₁

theorem iter_rng {r : Addr} {a₀ b₀ : Int} {t₀ u₀ v₀ : Tok} {n : Nat} {m₀ : Str → Option Value} {news : List (Addr × Obj)} (F : Fr h₀ env.locals s.heap m₀) (N : News h₀ env.locals s.heap news)
    (hr : IsRange s.heap r a₀ b₀ 1 t₀ u₀ v₀) (hsmall : Builtin.Range.small a₀ b₀ 1 = true) (hsz : Builtin.Range.rangeSize a₀ b₀ 1 = (n : Int))
    (P : (Str → Option Value) → Nat → (Str → Option Value) → List (Addr × Obj) → Prop) (hh : A.handled = none) (hp : P m₀ 0 m₀ news)
    (turn : ∀ i t m₁ h tk nx nw, i < n → (∀ q ∈ nx, q ∈ nw) → P m₀ i m₁ nx → Fr h₀ env.locals h (fun y => if y = x then some (.int (a₀ + (i : Int)) t) else m₁ y) → News h₀ env.locals h nw → ∀ qq : Flow → Shared → Prop,
      (∀ h' tk' m' nw' nx', Fr h₀ env.locals h' m' → News h₀ env.locals h' nw' → (∀ q ∈ nw, q ∈ nx ∨ q ∈ nw') → (∀ q ∈ nx', q ∈ nw') → nx'.map (·.1) = nx.map (·.1) → P m₀ (i + 1) m' nx' → qq .next { s with heap := h', toks := tk' }) →
      (∀ h' tk' m' nw' nx', Fr h₀ env.locals h' m' → News h₀ env.locals h' nw' → (∀ q ∈ nw, q ∈ nx ∨ q ∈ nw') → (∀ q ∈ nx', q ∈ nw') → nx'.map (·.1) = nx.map (·.1) → P m₀ (i + 1) m' nx' → qq .cont { s with heap := h', toks := tk' }) →
      wpAny (model prog w) A (execs body env) qq E { s with heap := h, toks := tk })
    (done : ∀ m₁ h tk nx, P m₀ n m₁ nx → Fr h₀ env.locals h m₁ → News h₀ env.locals h nx → Q .next { s with heap := h, toks := tk }) :
    wpAny (model prog w) A (pyIter (.ref r)) (fun it s₂ => LoopAtV prog w A h₀ env x body Q E it s₂) E s := by
  refine wpAny_pyIter_range hr hsmall ?_
  have W : Walks prog w A s.heap.objs.size [s.heap.objs.size] [s.heap.objs.size] n (fun i v => i < n ∧ ∃ t, v = .int (a₀ + i * 1) t)
      (fun i h => IsRangeIter h s.heap.objs.size (a₀ + (i : Nat) * 1) ((n : Int) - (i : Nat)) 1) := (Walks.range hh _ a₀ 1 n).bound
  refine kdr_loop (fun i m nx => P m₀ i m nx) W (fun _ h => h) (fun _ h => h) ?_ ?_ ?_ ?_ (by show IsRangeIter _ _ _ _ _; rw [hsz]; simpa using Heap.get?_push_size _ rfl) (F.push _) (fun p hp => ⟨Heap.get?_push_of_some _ (N p hp).1, (N p hp).2⟩) hp ?_ ?_
  · intro i h hi b hb
    rw [List.mem_singleton.mp hb]
    exact ⟨_, hi⟩
  · intro hm
    exact absurd F.ns.lt ((List.mem_singleton.mp hm) ▸ Nat.lt_irrefl _)
  · intro b hb
    rw [List.mem_singleton.mp hb]
    exact next_is_new F
  · intro p hp hI
    exact absurd (Heap.lt_size (N p hp).1) ((List.mem_singleton.mp hI) ▸ Nat.lt_irrefl _)
  · rintro i v m₁ nx h tk own hi ⟨_, t, rfl⟩ hoff hP F₁ N₁
    rw [Int.mul_one] at F₁
    refine turn i t m₁ h tk nx (nx ++ own) hi (fun q hq => List.mem_append.mpr (.inl hq)) hP F₁ N₁ _ ?_ ?_
    all_goals
      intro h' tk' m' nw' nx' F' N' hs hx hm hP'
      refine ⟨h', tk', m', nw', nx', rfl, F', N', hx, fun p hp => ?_, by rw [hm]; exact hoff, hP'⟩
      rcases hs p (List.mem_append.mpr (.inr hp)) with h1 | h1
      · exact absurd rfl (hoff p hp p.1 (List.mem_map.mpr ⟨p, h1, rfl⟩))
      · exact h1
  · intro m₁ nx h tk hP F₁ N₁
    exact done m₁ h tk nx hP F₁ N₁
end
end Mine
end

section
open PySem PySem.W PyProof.Rows
set_option Elab.async false
set_option maxRecDepth 100000
set_option maxHeartbeats 0
set_option pp.deepTerms false
set_option pp.deepTerms.threshold 8
namespace Mine

theorem getMethod_pat {prog : Program} {w : World} {A : Around} {E : Value → Shared → Prop} {s : Shared} {a ct : Addr} {code : Array Nat} {pl : Sem Bool} {Q : Value × List Value → Shared → Prop} (hP : IsPat s.heap a ct code)
    (h : Q (.builtin "re.Pattern.sub", [.ref a]) s) : wpAny (model prog w) A (getMethod (.ref a) (Str.ofString "sub") pl) Q E s := by
  obtain ⟨⟨p, fl, e1⟩, _⟩ := hP
  exact getMethod_builtin ⟨_, e1, rfl⟩ plainAttrs_pat slot_pat_sub type_pat_sub (fun b e => by cases e; exact ⟨_, e1, rfl⟩) h
theorem isPat_of {w : World} {h h₀ : Heap} (X : (hd.heap_39 w.params).In h₀) (k : ∀ b o, h₀.get? b = some o → h.get? b = some o) : IsPat h 43 42 code1 ∧ IsPat h 48 47 code2 := by
  have e1 := k _ _ (X 43 _ rfl)
  have e2 := k _ _ (X 42 _ rfl)
  have e3 := k _ _ (X 48 _ rfl)
  have e4 := k _ _ (X 47 _ rfl)
  exact ⟨⟨⟨_, _, e1⟩, ⟨_, _, e2, by decide +kernel⟩⟩, ⟨⟨_, _, e3⟩, ⟨_, _, e4, by decide +kernel⟩⟩⟩

theorem call_subN {prog : Program} {w : World} {A : Around} {E : Value → Shared → Prop} {s : Shared} {Q : Value → Shared → Prop} {h₀ : Heap} {L : Addr} {m : Str → Option Value} {news : List (Addr × Obj)}
    {code : Array Nat} {hit : Array Nat → Nat → Nat} (hS : Searches code hit) (ok : HitOk hit) {a ct : Addr} {x r : Str} {tx tr : Tok} (F : Fr h₀ L s.heap m) (N : News h₀ L s.heap news) (hP : IsPat s.heap a ct code)
    (hx : x.cps.size ≤ 100000) (hr : r.cps.size ≤ 2) (hlit : r.cps.contains 92 = false)
    (hQ : ∀ h' tk t', Fr h₀ L h' m → News h₀ L h' news → Q (.str ⟨(subR hit r.cps.toList x.cps x.cps.size 0).toArray⟩ t') { s with heap := h', toks := tk }) :
    wpAny (model prog w) A (call (.builtin "re.Pattern.sub") [.ref a, .str r tr, .str x tx]) Q E s := by
  refine call_sub hS ok hx hr hlit hP fun h' tk t' hs => hQ h' tk t' ?_ ?_
  · exact (F.push _).change hs (Nat.ne_of_gt F.ns.lt) (next_is_new F)
  · intro p hp
    have := N p hp
    exact ⟨hs.extBut _ _ (Nat.ne_of_lt (Heap.lt_size this.1)) (Heap.get?_push_of_some _ this.1), this.2⟩

def quote (x : Str) : Str := ⟨(subR hit1 [46, 46] (subR hit2 [13, 10] x.cps x.cps.size 0).toArray (subR hit2 [13, 10] x.cps x.cps.size 0).toArray.size 0).toArray⟩

theorem subR_len {hit : Array Nat → Nat → Nat} {repl : List Nat} {text : Array Nat} (hr : repl.length ≤ 2) : ∀ f p, (subR hit repl text f p).length ≤ 2 * f := by
  intro f
  induction f with
  | zero => intro p; exact Nat.le_refl _
  | succ f ih =>
    intro p
    unfold subR
    by_cases h : p < text.size
    · rw [if_pos h]
      by_cases h2 : 0 < hit text p
      · rw [if_pos h2, List.length_append]; have := ih (p + hit text p); omega
      · rw [if_neg h2, List.length_cons]; have := ih (p + 1); omega
    · rw [if_neg h]; exact Nat.zero_le _

local macro_rules | `(tactic| walk_at "getMethod ref") => `(tactic| (k_here; (rename Frag.In _ _ => X'); (rename Fr _ _ _ _ => F'); first | refine getMethod_pat (isPat_of X' F'.keep).1 ?_ | refine getMethod_pat (isPat_of X' F'.keep).2 ?_))
local macro_rules | `(tactic| walk_at "call builtin:re.Pattern.sub") => `(tactic| (k_here; (rename Frag.In _ _ => X'); (rename Fr _ _ _ _ => F'); (first | (refine call_subN searches2 hitOk2 F' (by assumption) (isPat_of X' F'.keep).2 (by first | omega | (dsimp only; omega)) (by decide +kernel) (by decide +kernel) ?_) | (refine call_subN searches1 hitOk1 F' (by assumption) (isPat_of X' F'.keep).1 (by (rw [List.size_toArray]; refine Nat.le_trans (subR_len (by decide) _ _) ?_; omega)) (by decide +kernel) (by decide +kernel) ?_)); intro h' tk' t' F' N'))

theorem quote_c {w : World} {mean : ExcName → Option Value} {mg mb : Str → Option Value} 
    (dp un : Nat) (gd : Option (List Code)) (cn : Str) (cs : Scope) (a : Addr) (ccd : Value) (cl : List (Str × Addr)) (outer : List Env) (A₀ : Around) (base h₀ : Heap) (L : Addr) (m : Str → Option Value) (news : List (Addr × Obj)) (s : Shared) (Q E : Value → Shared → Prop)
    (B : Below A₀ base outer h₀) (F : Fr h₀ L s.heap m) (X : (hd.heap_39 w.params).In h₀) (N : News h₀ L s.heap news)
    (T : Top hd.view_39 (looseW hd.view_39 [Str.ofString "_twin_re_1", Str.ofString "_twin_re_2"]) mean mg mb h₀)
    (hk : cs.kind = .function) (x : Str) (tx : Tok) 
    (hx : x.cps.size ≤ 40000) 
    (hd : dp + 1 < recursionLimit) (hu : un + 8 < cLine)
    (hret : ∀ tk h' tk', Fr h₀ L h' m → News h₀ L h' news → Q (.str (quote x) tk) { s with heap := h', toks := tk' }) :
    wpAny (model PySem.Challenge.rw_pe0026_01.row.prog w) (ktrTop dp un gd cn cs L a ccd cl outer) (call (.ref 55) [.str x tx]) Q E s := by
  revert X T
  k_fill
  intro X T
  refine wpAny_call ?_
  k_dflt ktr_enter
  k_steps
  have e1 : (Str.ofString "..").cps.toList = [46, 46] := by decide +kernel
  have e2 : (Str.ofString "\x0d\n").cps.toList = [13, 10] := by decide +kernel
  rw [e1, e2]
  exact hret _ _ _ (by k_asm) (by k_asm)
end Mine
end

section
open PySem PySem.W PyProof.Rows
set_option Elab.async false
set_option maxRecDepth 100000
set_option maxHeartbeats 0
set_option pp.deepTerms false
set_option pp.deepTerms.threshold 8
namespace Mine

theorem ovr1 {m₀ : Str → Option Value} {a b : Str} {va : Option Value} (ha : m₀ a = va) : m₀ = fun y => if y = a then va else if y = b then m₀ b else m₀ y := by
  funext y
  by_cases h1 : y = a
  · rw [if_pos h1, h1, ha]
  · rw [if_neg h1]
    by_cases h2 : y = b
    · rw [if_pos h2, h2]
    · rw [if_neg h2]
theorem dot_is : Str.ofString "." = strL [46] := by decide +kernel
theorem span_at {news : List (Addr × Obj)} : ∀ {us : List Value} {ov : List Span}, DatAll news us (ov.map spanD) → ∀ {i : Nat} {v : Value}, us[i]? = some v →
    ∃ s a t1 t2 n, ov[i]? = some s ∧ v = .ref a ∧ (a, ({ cls := .type "tuple", data := .seq [Value.int s.1 t1, Value.int s.2 t2].toArray n } : Obj)) ∈ news := by
  intro us
  induction us with
  | nil => intro ov h i v hv; cases hv
  | cons u us ih =>
    intro ov h i v hv
    cases ov with
    | nil => cases h
    | cons s ov =>
      cases h with
      | cons h1 h2 =>
        cases i with
        | succ i => exact ih h2 hv
        | zero =>
          injection hv with hv
          subst hv
          cases h1 with
          | tuple hm ha =>
            cases ha with
            | cons h3 h4 =>
              cases h3 with
              | int _ t1 =>
                cases h4 with
                | cons h5 h6 =>
                  cases h5 with
                  | int _ t2 =>
                    cases h6
                    exact ⟨s, _, t1, t2, _, rfl, rfl, hm⟩
theorem ovr_set {m₀ : Str → Option Value} {a b : Str} {va va' u vb : Option Value} : (fun y => if y = a then va' else if y = b then vb else (fun y => if y = a then va else if y = b then u else m₀ y) y) = fun y => if y = a then va' else if y = b then vb else m₀ y := by
  funext y
  by_cases h1 : y = a
  · simp only [h1, if_true]
  · by_cases h2 : y = b
    · simp only [h1, h2, if_true, if_false]
    · simp only [h1, h2, if_false]
theorem ovr_keep {m₀ : Str → Option Value} {a b : Str} {va u vb : Option Value} (hab : a ≠ b) : (fun y => if y = b then vb else (fun y => if y = a then va else if y = b then u else m₀ y) y) = fun y => if y = a then va else if y = b then vb else m₀ y := by
  funext y
  by_cases h1 : y = a
  · subst h1
    simp only [hab, if_true, if_false]
  · by_cases h2 : y = b
    · simp only [h1, h2, if_true, if_false]
      rw [if_neg (fun e => h1 (h2.trans e))]
    · simp only [h1, h2, if_false]
theorem cnt_take {ov : List Span} {i : Nat} {s : Span} (h : ov[i]? = some s) (p a : Int) (w : List Nat) : cnt (ov.take (i + 1)) p a w = cnt (ov.take i) p a w + if (decide (s.1 < p) && (endsE w || (w.isEmpty && decide (s.1 = a)))) = true then 1 else 0 := by
  unfold cnt
  rw [List.take_add_one, h, List.filter_append, List.length_append]
  congr 1
  show (List.filter _ [s]).length = _
  rw [List.filter_cons]
  cases (decide (s.1 < p) && (endsE w || (w.isEmpty && decide (s.1 = a)))) <;> rfl
theorem ends_slice {w : List Nat} (hw : w ∈ wordsAll) : ([Str.ofString "\n", Str.ofString "\x0d"].any fun x => x == Txt.slice (strL w) (some (-1)) none) = endsE w := by
  have : ∀ w ∈ wordsAll, ([Str.ofString "\n", Str.ofString "\x0d"].any fun x => x == Txt.slice (strL w) (some (-1)) none) = endsE w := by decide +kernel
  exact this w hw
theorem empty_eq {w : List Nat} (hw : w ∈ wordsAll) : (strL w == Str.ofString "") = w.isEmpty := by
  have : ∀ w ∈ wordsAll, (strL w == Str.ofString "") = w.isEmpty := by decide +kernel
  exact this w hw
theorem strL_append (a b : List Nat) : strL a ++ strL b = strL (a ++ b) := by
  show (⟨a.toArray ++ b.toArray⟩ : Str) = ⟨(a ++ b).toArray⟩
  simp
theorem dots_more (k : Nat) : strL (List.replicate (1 + k) 46) ++ Str.ofString "." = strL (List.replicate (1 + (k + 1)) 46) := by
  rw [dot_is, strL_append, ← Nat.add_assoc, List.replicate_succ']

local macro_rules | `(tactic| k_mem) => `(tactic| assumption)
local macro_rules | `(tactic| walk_at "subscriptTail") => `(tactic| (k_here; (with_reducible show wpAny _ _ (subscriptTail _ _ (Value.ref _) (Value.int _ _)) _ _ _); k_dflt (refine' item_tupleT ?t ?a ?b ?c ?d ?_; (case t => exact News.isTup (by k_asm) (by k_mem)); (case a => decide); (case b => decide); (case c => rfl); (case d => rfl); k_whole)))

theorem point_c {w : World} {mean : ExcName → Option Value} {mg mb : Str → Option Value} 
    (dp un : Nat) (gd : Option (List Code)) (cn : Str) (cs : Scope) (a : Addr) (ccd : Value) (cl : List (Str × Addr)) (outer : List Env) (A₀ : Around) (base h₀ : Heap) (L : Addr) (m : Str → Option Value) (news : List (Addr × Obj)) (s : Shared) (Q E : Value → Shared → Prop)
    (B : Below A₀ base outer h₀) (F : Fr h₀ L s.heap m) (X : (hd.heap_39 w.params).In h₀) (N : News h₀ L s.heap news)
    (T : Top hd.view_39 (looseW hd.view_39 [Str.ofString "_twin_re_1", Str.ofString "_twin_re_2"]) mean mg mb h₀)
    (hk : cs.kind = .function) (oa : Addr) (us : List Value) (k : Nat) (ov : List Span) (p ah : Int) (tp ta tw : Tok) (wd : List Nat) (hw : wd ∈ wordsAll)
    (ho : (oa, listOf us.toArray k) ∈ news) (hov : DatAll news us (ov.map spanD)) (hlen : ov.length ≤ 100)
    (hd : dp + 1 < recursionLimit) (hu : un + 8 < cLine)
    (hret : ∀ tk h' tk', Fr h₀ L h' m → News h₀ L h' news → Q (.str (strL (List.replicate (1 + cnt ov p ah wd) 46)) tk) { s with heap := h', toks := tk' }) :
    wpAny (model PySem.Challenge.rw_pe0026_01.row.prog w) (ktrTop dp un gd cn cs L a ccd cl outer) (call (.ref 62) [.ref oa, .int p tp, .int ah ta, .str (strL wd) tw]) Q E s := by
  revert X T
  k_fill
  intro X T
  refine wpAny_call ?_
  k_dflt ktr_enter
  repeat' ((fail_if_success (with_reducible show wpAny _ _ (exec (Stmt.For _ _ _ _ _) _) _ _ _)); (first | (k_unfold; (try dsimp only)) | (k_end; wrow_close) | walk1 | (dsimp only; walk1) | (leave1; walk_say "STEP leave1"; try dsimp only) | fail "no step"))
  rename Fr _ _ _ _ => F'
  rename News _ _ _ _ => N'
  with_unfolding_all refine For_invVF F' (by rfl) (by rfl) ?_
  repeat' ((fail_if_success (with_reducible show wpAny _ _ (pyIter _) _ _ _)); (first | (k_unfold; (try dsimp only)) | (k_end; wrow_close) | walk1 | (dsimp only; walk1) | (leave1; walk_say "STEP leave1"; try dsimp only) | fail "no step"))
  refine iter_led F' N' ho (fun m₀ i m' => ∃ t u, m' = fun y => if y = Str.ofString "points" then some (.str (strL (List.replicate (1 + cnt (ov.take i) p ah wd) 46)) t) else if y = Str.ofString "span" then u else m₀ y) (by rfl) ?_ ?_ ?_
  · exact ⟨_, _, ovr1 (b := Str.ofString "span") (show some (Value.str (Str.ofString ".") _) = _ by rw [dot_is]; rfl)⟩
  · rintro i v m₁ h tk nw hv hsub ⟨t, u, rfl⟩ F1 N1 qq hnext hcont
    obtain ⟨sp, ad, t1, t2, n1, hs, rfl, hm⟩ := span_at hov hv
    have hm' := hsub _ hm
    clear hm
    have hwl : Str.length (strL wd) ≤ 1048576 := by
      have : ∀ w ∈ wordsAll, w.length ≤ 10 := by decide
      have := this wd hw
      show (strL wd).cps.size ≤ _
      simp; omega
    have hcl : cnt (ov.take i) p ah wd ≤ 100 := by
      refine Nat.le_trans (List.length_filter_le _ _) ?_
      rw [List.length_take]; omega
    have hpl : Str.length (strL (List.replicate (1 + cnt (ov.take i) p ah wd) 46)) ≤ 1048576 := by
      show (strL _).cps.size ≤ _
      simp; omega
    k_steps
    all_goals (
      have hce := cnt_take hs p ah wd
      rw [← ends_slice hw, ← empty_eq hw] at hce
      refine hnext _ _ _ _ (by k_asm) (by k_asm) (fun q hq => by first | exact hq | exact List.mem_cons_of_mem _ hq) ?_)
    all_goals first
      | (rw [if_pos (by first | (simp [*]; done) | (simp [*]; omega))] at hce
         rw [hce, ← dots_more]
         exact ⟨_, _, ovr_set⟩)
      | (rw [if_neg (by simp [*]), Nat.add_zero] at hce
         rw [hce]
         exact ⟨_, _, ovr_keep (by decide +kernel)⟩)
  · rintro m₁ h tk ⟨t, u, rfl⟩ F1 N1
    k_steps
    have e : ov.take us.length = ov := by
      have := hov.length
      rw [List.length_map] at this
      rw [this, List.take_length]
    rw [e]
    exact hret _ _ _ (by k_asm) (by k_asm)
end Mine
end

section
open PySem PySem.W PyProof.Rows
set_option maxRecDepth 100000
namespace Mine

/-- tokens never fall -/
theorem runs_toks {M : Model} {Γ : Ctx} {p : Pos} {t : Sem PySem.Fin} {fs : List Frame} {s s' : Shared} {e : End} (h : Runs M Γ p t fs s e s') : s.toks ≤ s'.toks := by
  induction h with
  | fresh _ ih => exact Nat.le_trans (Nat.le_succ _) ih
  | call _ _ ih1 ih2 => exact Nat.le_trans ih1 ih2
  | resumeFresh _ _ _ _ ih1 ih2 => exact Nat.le_trans ih1 ih2
  | resumeSuspended _ _ _ _ ih1 ih2 => exact Nat.le_trans ih1 ih2
  | segRet _ _ ih1 ih2 => exact Nat.le_trans ih1 ih2
  | segGen _ _ ih1 ih2 => exact Nat.le_trans ih1 ih2
  | segSuspGen _ _ _ _ ih1 ih2 => exact Nat.le_trans ih1 ih2
  | _ => first | exact Nat.le_refl _ | assumption

theorem wakes_toks {M : Model} {Γ : Ctx} {p : Pos} {g : Nat} {r : Resume} {s s' : Shared} {res : GenResult} (h : Wakes M Γ p g r s res s') : s.toks ≤ s'.toks := by
  unfold Wakes at h
  split at h
  · exact h.elim
  · split at h
    · obtain ⟨e₁, s₁, hr, _, _, rfl⟩ := h; have h1 := runs_toks hr; exact h1
    · rw [h.2]; exact Nat.le_refl _
    · rw [h.2]; exact Nat.le_refl _
  · obtain ⟨e₁, s₁, hr, _, _, rfl⟩ := h; have h1 := runs_toks hr; exact h1
  · rw [h.2]; exact Nat.le_refl _
  · rw [h.2]; exact Nat.le_refl _

theorem wp_low {α : Type} {M : Model} {Γ : Ctx} (n : Nat) : ∀ (t : Sem α) {Q : α → Pos → Shared → Prop} {E : Value → Pos → Shared → Prop} (p : Pos) (s : Shared), n ≤ s.toks →
    Sem.wp M Γ t (fun a p' s' => n ≤ s'.toks → Q a p' s') (fun e p' s' => n ≤ s'.toks → E e p' s') p s → Sem.wp M Γ t Q E p s
  | .pure _, _, _, _, _, h, k => k h
  | .raise _, _, _, _, _, h, k => k h
  | .unsupported _, _, _, _, _, _, k => k
  | .finish _, _, _, _, _, _, k => k
  | .rule _ f, _, _, p, s, h, k => wp_low n (f ()) p s h k
  | .at p' f, _, _, _, s, h, k => wp_low n (f ()) p' s h k
  | .load _ _ f, _, _, p, s, h, k => by obtain ⟨o, e, k⟩ := k; exact ⟨o, e, wp_low n (f o) p s h k⟩
  | .update _ _ _ f, _, _, p, s, h, k => ⟨k.1, wp_low n (f ()) p _ h k.2⟩
  | .loadIfAlive _ f, _, _, p, s, h, k => wp_low n (f _) p s h k
  | .point _ f, _, _, p, s, h, k => wp_low n (f ()) p s h k
  | .register _ _, _, _, _, _, _, k => k
  | .alloc _ f, _, _, p, s, h, k => wp_low n (f _) p _ h k
  | .fresh f, _, _, p, s, h, k => wp_low n (f _) p _ (Nat.le_succ_of_le h) k
  | .ask f, _, _, p, s, h, k => wp_low n (f _) p s h k
  | .choose _ _ f, _, _, p, s, h, k => ⟨k.1, wp_low n (f _) p _ h k.2⟩
  | .os _ _ f, _, _, p, s, h, k => wp_low n (f _) p _ h k
  | .call _ _ _ _ f, _, _, p, s, h, k => by
    obtain ⟨r, s', hr, k⟩ := k
    exact ⟨r, s', hr, wp_low n (f r) p s' (Nat.le_trans h (runs_toks hr)) k⟩
  | .handled _ f, _, _, p, s, h, k => wp_low n (f _) p s h k
  | .genState _ f, _, _, p, s, h, k => by obtain ⟨st, e, k⟩ := k; exact ⟨st, e, wp_low n (f _) p s h k⟩
  | .newGen _ f, _, _, p, s, h, k => wp_low n (f _) p _ h k
  | .resume _ _ _ f, _, _, p, s, h, k => by
    obtain ⟨res, s', hw, k⟩ := k
    exact ⟨res, s', hw, wp_low n (f res) p s' (Nat.le_trans h (wakes_toks hw)) k⟩
  | .yield .., _, _, _, _, _, k => k
  | .stack f, _, _, p, s, h, k => wp_low n (f _) p s h k
  | .fork .., _, _, _, _, _, k => k
  | .thread f, _, _, p, s, h, k => wp_low n (f _) p s h k
  | .await .., _, _, _, _, _, k => k

theorem wpAny_low {α : Type} {M : Model} {A : Around} {t : Sem α} {Q : α → Shared → Prop} {E : Value → Shared → Prop} {s : Shared} (n : Nat) (h : n ≤ s.toks)
    (k : wpAny M A t (fun a s' => n ≤ s'.toks → Q a s') (fun e s' => n ≤ s'.toks → E e s') s) : wpAny M A t Q E s :=
  fun Γ p hΓ => wp_low n t p s h (k Γ p hΓ)

/-- a def with cells is entered; the tokens have not fallen -/
theorem enter_cells {prog : Program} {w : World} {A A₀ : Around} {s : Shared} {K : Frag} {L : Addr} {h₀ base : Heap} {m mg mb : Str → Option Value} {news : List (Addr × Obj)} {p : Program} {loose : List Str} {mean : ExcName → Option Value}
    {env : Env} {outer : List Env} {R : Result → Shared → Prop} {name qual : Str} {params : Arguments} {body : List Stmt} {scope : Scope} {dV kV doc pm cdv ct oc : Value} {an od : Option Addr} {osl : Array (Option Value)} {f : Addr} {args : Args} {binds : List (Str × Value)}
    (B : Below A₀ base outer h₀) (F : Fr h₀ L s.heap m) (X₀ : K.In h₀) (N : News h₀ L s.heap news) (T : Top p loose mean mg mb h₀) (hA : A.frames = some (env :: outer)) (hf : env.frame = some L) (hke : env.scope.kind = .function)
    (ho : K.lookup f = some ⟨oc, od, .func (fnOf name qual params body scope dV kV doc pm an cdv ct), osl⟩) (hcd : codeIn K cdv qual = true) (hroom : A.depth < recursionLimit)
    (hbind : BindsTo s (fnOf name qual params body scope dV kV doc pm an cdv ct) args binds) (hkind : (binds.all fun y => scope.names.lookup y.1 == some .local || scope.names.lookup y.1 == some .cell) = true)
    (hnd : ((cellsFrom 0 scope.names []).map (·.1)).Nodup)
    (h : ∀ g L' h₁ tk cells, s.toks ≤ tk → Fr h₀ L g m → Fr g L' h₁ (bindL (envOfC qual scope L' f cdv).kindOf binds fun _ => none) → News g L' h₁ (cells ++ news) →
      CellsAre (bindC (envOfC qual scope L' f cdv).kindOf binds fun _ => none) (cellsFrom (L' + 1) scope.names []) cells → Below A base (env :: outer) g → K.In g → Top p loose mean mg mb g → (∀ p ∈ news, p.1 < L') →
      wpAny (model prog w) (A.deeper (envOfC qual scope L' f cdv)) (execs body (envOfC qual scope L' f cdv))
        (fun fl s' => LeaveK h₀ L m g R (match fl with | .ret v => v | _ => .none) s')
        (fun e s' => wpAny (model prog w) (A.deeper (envOfC qual scope L' f cdv)) (leaving (envOfC qual scope L' f cdv) e) (fun _ s'' => R (.error e) s'') (fun e' s'' => R (.error e') s'') s')
        { s with heap := h₁, toks := tk })
    (hco : scope.isCoroutine = false) (hgen : scope.isGenerator = false) (hk : scope.kind = .function) : codeAny (model prog w) A (.call (.ref f) args) R s := by
  have X₁ := X₀.keeps F.keep
  obtain ⟨FG, BG, stay, lv⟩ := groundX (R := R) B F N hA hf hke
  refine codeAny_call_function hroom (X₁ _ _ ho) rfl hco hgen rfl (codeRec_of X₁ hcd) (hbind _ _ _ _ ?_)
  refine wpAny_low s.toks (Nat.le_refl _) (wpAny_newFunctionEnv_cells hk (kindsX hkind _) fun env' he s' x htk => ?_)
  subst he
  refine ⟨(T.nolimit.keeps F.keep).keeps x.toInCall.keep, codeAny_func ?_⟩
  obtain ⟨h₁, tk, rfl, _⟩ := x.done
  have up := x.toInCall.keep
  obtain ⟨cells, NC, Y⟩ := Cl.news (h₀ := s.heap) (Nat.le_refl _) fun n c hm => ⟨x.cell n c (lookup_of_mem_nodup (cellsFrom_names scope.names 0 (s.heap.objs.size + 1) [] [] rfl ▸ hnd) hm), x.above n c hm⟩
  have FN : Fr (hideAll s.heap (news.map (·.1))) s.heap.objs.size h₁ (bindL (envOfC qual scope s.heap.objs.size f cdv).kindOf binds fun _ => none) :=
    ⟨x.toInCall.ns, fun b o e => up b o (of_hideAll _ e), Nat.le_of_eq (hideAll_size _ _)⟩
  have NN : News (hideAll s.heap (news.map (·.1))) s.heap.objs.size h₁ (cells ++ news) := by
    intro q hq
    rcases List.mem_append.mp hq with hq | hq
    · refine ⟨(NC q hq).1, (NC q hq).2.1, ?_⟩
      cases e : (hideAll s.heap (news.map (·.1))).get? q.1 with
      | none => rfl
      | some o => have := of_hideAll _ e; rw [(NC q hq).2.2] at this; cases this
    · exact ⟨up _ _ (N q hq).1, Nat.ne_of_lt (Heap.lt_size (N q hq).1), hideAll_none _ (List.mem_map_of_mem hq)⟩
  exact wpAny_mono (h _ _ h₁ tk cells htk FG FN NN Y BG (X₀.keeps stay) (T.keeps stay) fun q hq => Heap.lt_size (N q hq).1) (fun fl s' hl => lv _ _ hl) fun _ _ y => y
end Mine
end

section
open PySem PySem.W PyProof.Rows
set_option maxRecDepth 100000
namespace Mine
section
variable {prog : Program} {w : World} {A : Around} {E : Value → Shared → Prop} {s : Shared} {env : Env} {h₀ : Heap} {x : Str} {body : List Stmt} {Q : Flow → Shared → Prop}

/-- a loop whose name is a cell, at its source -/
def CellLoopAt (prog : Program) (w : World) (A : Around) (env : Env) (x : Str) (px : Pos) (body : List Stmt) (Q : Flow → Shared → Prop) (E : Value → Shared → Prop) (xv : Value) (s₁ : Shared) : Prop :=
  wpAny (model prog w) A (pyIter xv) (fun it s₂ => codeAny (model prog w) A (.forLoop (.Name x px) it body [] env) (fun r s' => match r with | .ok f => Q f s' | .error e => cameBackBy (model prog w) A env E e s') s₂) E s₁
theorem for_cell {px pos : Pos} {iter : Expr} (h : wpAny (model prog w) A (eval iter env) (fun xv s₁ => CellLoopAt prog w A env x px body Q E xv s₁) E s)
    (hs : ∀ x, foldedSetIterable iter env x = pure x := by intro _; rfl) : wpAny (model prog w) A (exec (.For (.Name x px) iter body [] pos) env) Q E s := wpAny_For h hs

theorem cell_range {px : Pos} {r c : Addr} {co : Obj} {a₀ b₀ : Int} {t₀ u₀ v₀ : Tok} {n : Nat} {m₀ : Str → Option Value} {news : List (Addr × Obj)} {cv : Option Value} (F : Fr h₀ env.locals s.heap m₀) (N : News h₀ env.locals s.heap ((c, co) :: news))
    (hco : co.data = .cell cv) (hoff : ∀ p ∈ news, p.1 ≠ c) (hr : IsRange s.heap r a₀ b₀ 1 t₀ u₀ v₀) (hsmall : Builtin.Range.small a₀ b₀ 1 = true) (hsz : Builtin.Range.rangeSize a₀ b₀ 1 = (n : Int))
    (hx : env.kindOf x = some .cell) (hk : env.scope.kind = .function) (hc : env.cells.lookup x = some c) (hh : A.handled = none)
    (J : (Str → Option Value) → List (Addr × Obj) → Nat → (Str → Option Value) → List (Addr × Obj) → Prop) (hj : J m₀ news 0 m₀ news)
    (turn : ∀ i t m₁ h tk nx I oI co₁, i < n → s.toks ≤ tk → J m₀ news i m₁ nx → co₁.data = .cell (some (.int (a₀ + (i : Int)) t)) → Fr h₀ env.locals h m₁ → News h₀ env.locals h ((I, oI) :: (c, co₁) :: nx) → (∀ p ∈ nx, p.1 ≠ I ∧ p.1 ≠ c) → @Ne Nat c I → ∀ qq : Flow → Shared → Prop,
      (∀ f h' tk' m' nw' nx', f = .next ∨ f = .cont → Fr h₀ env.locals h' m' → News h₀ env.locals h' nw' → (I, oI) ∈ nw' → (c, co₁) ∈ nw' → (∀ q ∈ nx', q ∈ nw') → (∀ p ∈ nx', p.1 ≠ I ∧ p.1 ≠ c) → J m₀ news (i + 1) m' nx' → qq f { s with heap := h', toks := tk' }) →
      wpAny (model prog w) A (execs body env) qq E { s with heap := h, toks := tk })
    (done : ∀ m₁ h tk nx co₁, s.toks ≤ tk → (∃ v, co₁.data = .cell v) → J m₀ news n m₁ nx → Fr h₀ env.locals h m₁ → News h₀ env.locals h ((c, co₁) :: nx) → (∀ p ∈ nx, p.1 ≠ c) → Q .next { s with heap := h, toks := tk })
    (hE : PassesOwn (model prog w) A env E := by passes_own) :
    CellLoopAt prog w A env x px body Q E (.ref r) s := by
  unfold CellLoopAt
  refine wpAny_pyIter_range hr hsmall ?_
  generalize hI : s.heap.objs.size = I
  have W : Walks prog w A I [I] [I] n (fun i v => i < n ∧ ∃ t, v = .int (a₀ + i * 1) t) (fun i h => IsRangeIter h I (a₀ + (i : Nat) * 1) ((n : Int) - (i : Nat)) 1) := (Walks.range hh _ a₀ 1 n).bound
  have hI₀ : h₀.get? I = none := hI ▸ next_is_new F
  have hLI : env.locals ≠ I := hI ▸ Nat.ne_of_lt F.ns.lt
  have hcI : c ≠ I := hI ▸ Nat.ne_of_lt (Heap.lt_size (N _ (.head _)).1)
  refine codeAny_forLoop
    (fun k s' => ∃ h' tk m' nx co' i, s' = { s with heap := h', toks := tk } ∧ s.toks ≤ tk ∧ IsRangeIter h' I (a₀ + (i : Nat) * 1) ((n : Int) - (i : Nat)) 1 ∧ Fr h₀ env.locals h' m' ∧ News h₀ env.locals h' ((c, co') :: nx) ∧ (∃ v, co'.data = .cell v) ∧ (∀ p ∈ nx, p.1 ≠ I ∧ p.1 ≠ c) ∧ J m₀ news i m' nx ∧ i ≤ n ∧ k = n + 1 - i) ?_ (n + 1) ?_
  · rintro k s' ⟨h', tk, m', nx, co', i, rfl, htk, hst, F', N', ⟨cv', hco'⟩, hne, hJ, hi, rfl⟩
    have offI : ∀ p ∈ (c, co') :: nx, p.1 ≠ I := by
      intro p hp
      rcases List.mem_cons.mp hp with rfl | hp
      · exact hcI
      · exact (hne p hp).1
    by_cases hlt : i < n
    · refine wpAny_low s.toks htk (W.item i _ _ _ hlt hst fun v h₁ tk₁ hP hst₁ hk₁ htk₁ => ?_)
      obtain ⟨_, t, rfl⟩ := hP
      rw [Int.mul_one]
      have F₁ : Fr h₀ env.locals h₁ m' := LCg.fr_but F' hk₁ hLI hI₀
      have N₁ : News h₀ env.locals h₁ ((c, co') :: nx) := LCg.news_but N' hk₁ offI
      refine wpAny_assign_Name (wpAny_storeName_cell hk hx hc ⟨co', (N₁ _ (.head _)).1, hco'⟩ fun h₂ hc₂ hs₂ => ?_)
      obtain ⟨co₂, hg₂, hd₂⟩ := hc₂
      have hst₂ : IsRangeIter h₂ I (a₀ + ((i + 1 : Nat)) * 1) ((n : Int) - ((i + 1 : Nat))) 1 := W.frame _ _ _ hst₁ fun b hb o e => by
        rw [List.mem_singleton.mp hb] at e ⊢
        exact hs₂.extBut _ _ (Ne.symm hcI) e
      have hc₀ : h₀.get? c = none := (N₁ _ (.head _)).2.2
      have hcL : c ≠ env.locals := (N₁ _ (.head _)).2.1
      have F₂ : Fr h₀ env.locals h₂ m' := F₁.change hs₂ hcL hc₀
      have hgI : ∃ oI, h₂.get? I = some oI := ⟨_, hst₂⟩
      obtain ⟨oI, hgI⟩ := hgI
      have N₂ : News h₀ env.locals h₂ ((I, oI) :: (c, co₂) :: nx) := by
        intro p hp
        rcases List.mem_cons.mp hp with rfl | hp
        · exact ⟨hgI, Ne.symm hLI, hI₀⟩
        · rcases List.mem_cons.mp hp with rfl | hp
          · exact ⟨hg₂, hcL, hc₀⟩
          · exact ⟨hs₂.extBut _ _ (hne p hp).2 (N₁ p (List.mem_cons_of_mem _ hp)).1, (N₁ p (List.mem_cons_of_mem _ hp)).2⟩
      refine wpAny_passesOwn hE (wpAny_low s.toks htk₁ (wpAny_mono (turn i t m' h₂ tk₁ nx I oI co₂ hlt htk₁ hJ hd₂ F₂ N₂ hne hcI (fun f s₃ => s.toks ≤ s₃.toks → match f with
          | .next | .cont => ∃ m, m < n + 1 - i ∧ ∃ h' tk m' nx co' j, s₃ = { s with heap := h', toks := tk } ∧ s.toks ≤ tk ∧ IsRangeIter h' I (a₀ + (j : Nat) * 1) ((n : Int) - (j : Nat)) 1 ∧ Fr h₀ env.locals h' m' ∧ News h₀ env.locals h' ((c, co') :: nx) ∧ (∃ v, co'.data = .cell v) ∧ (∀ p ∈ nx, p.1 ≠ I ∧ p.1 ≠ c) ∧ J m₀ news j m' nx ∧ j ≤ n ∧ m = n + 1 - j
          | .brk => Q .next s₃
          | .ret v => Q (.ret v) s₃) ?_) (fun _ _ z => z) fun _ _ z _ => z))
      intro f h₃ tk₃ m₃ nw₃ nx₃ hf F₃ N₃ m1 m2 m3 hne₃ hJ₃ htk₃
      have fin : ∃ m, m < n + 1 - i ∧ ∃ h' tk m' nx co' j, ({ s with heap := h₃, toks := tk₃ } : Shared) = { s with heap := h', toks := tk } ∧ s.toks ≤ tk ∧ IsRangeIter h' I (a₀ + (j : Nat) * 1) ((n : Int) - (j : Nat)) 1 ∧ Fr h₀ env.locals h' m' ∧ News h₀ env.locals h' ((c, co') :: nx) ∧ (∃ v, co'.data = .cell v) ∧ (∀ p ∈ nx, p.1 ≠ I ∧ p.1 ≠ c) ∧ J m₀ news j m' nx ∧ j ≤ n ∧ m = n + 1 - j := by
        refine ⟨n + 1 - (i + 1), by omega, h₃, tk₃, m₃, nx₃, co₂, i + 1, rfl, htk₃, ?_, F₃, fun p hp => ?_, ⟨_, hd₂⟩, hne₃, hJ₃, hlt, rfl⟩
        · have e1 := (N₃ _ m1).1
          have e2 : h₂.get? I = some _ := hst₂
          rw [hgI] at e2
          injection e2 with e2
          show h₃.get? I = some _
          rw [e1, e2]
        · rcases List.mem_cons.mp hp with rfl | hp
          · exact N₃ _ m2
          · exact N₃ _ (m3 p hp)
      rcases hf with rfl | rfl
      · exact fin
      · exact fin
    · have hin : i = n := by omega
      subst hin
      refine wpAny_low s.toks htk (W.done _ _ _ hst fun h₁ tk₁ hk₁ htk₁ => wpAny_execs_nil ?_)
      exact done m' h₁ tk₁ nx co' htk₁ ⟨cv', hco'⟩ hJ (LCg.fr_but F' hk₁ hLI hI₀) (LCg.news_but N' hk₁ offI) fun p hp => (hne p hp).2
  · refine ⟨_, s.toks, m₀, news, co, 0, rfl, Nat.le_refl _, ?_, F.push _, fun p hp => ⟨Heap.get?_push_of_some _ (N p hp).1, (N p hp).2⟩, ⟨_, hco⟩, fun p hp => ⟨hI ▸ Nat.ne_of_lt (Heap.lt_size (N p (List.mem_cons_of_mem _ hp)).1), hoff p hp⟩, hj, Nat.zero_le _, rfl⟩
    show IsRangeIter _ _ _ _ _
    rw [hsz]
    subst hI
    simpa using Heap.get?_push_size _ rfl
end
end Mine
end

section
open PySem PySem.W PyProof.Rows
set_option maxRecDepth 100000
namespace Mine
theorem datAll_take {news : List (Addr × Obj)} : ∀ {us : List Value} {ds : List Dat}, DatAll news us ds → ∀ i, DatAll news (us.take i) (ds.take i)
  | _, _, .nil, i => by simp; exact .nil
  | _, _, .cons h r, 0 => .nil
  | _, _, .cons h r, i + 1 => .cons h (datAll_take r i)

section
variable {prog : Program} {w : World} {A : Around} {h₀ : Heap} {L : Addr} {m : Str → Option Value} {env : Env} {ct : Expr} {x : Str} {pos : Pos} {scope : Scope} {cl : List (Str × Addr)} {s : Shared} {S : List (Addr × Obj) → Prop} {Fin : List Value → List (Addr × Obj) → Prop} {news : List (Addr × Obj)}

/-- a filter of spans -/
theorem filter_rest {us : List Value} {ov : List Span} (q : Span → Bool) (hov : DatAll news us (ov.map spanD)) (hS : S news)
    (hk : ∀ C, (compEnvC scope cl C env).scope.kind = .function) (hl : ∀ C, (compEnvC scope cl C env).kindOf x = some .local) (hd : (x == ("__debug__" : Str)) = false)
    (turn : ∀ sp ad t1 t2 k I oI C oC D m₂ ys h tk (E' : Value → Shared → Prop), sp ∈ ov → (ad, ({ cls := .type "tuple", data := .seq [Value.int sp.1 t1, Value.int sp.2 t2].toArray k } : Obj)) ∈ news → LCg.NsObj oC m₂ → m₂ x = some (.ref ad) → Fr h₀ L h m →
      News h₀ L h ((I, oI) :: (C, oC) :: (D, LCg.lst ys) :: news) → LCg.Off3 I C D news → ((@Ne Nat I C) ∧ (@Ne Nat I D) ∧ (@Ne Nat C D)) → ∀ qq : Bool → Shared → Prop,
      (∀ h' tk', Fr h₀ L h' m → News h₀ L h' ((I, oI) :: (C, oC) :: (D, LCg.lst ys) :: news) → qq (q sp) { s with heap := h', toks := tk' }) →
      wpAny (model prog w) A (isTrue ct (compEnvC scope cl C env) (eval ct (compEnvC scope cl C env))) qq E' { s with heap := h, toks := tk })
    (fin : ∀ ys, DatAll news ys ((ov.filter q).map spanD) → ys.length ≤ us.length → Fin ys news) : LCt.CompRestT prog w A h₀ L m env ct (.Name x pos) x scope cl s S (fun i v => us.toArray[i]? = some v) Fin us.toArray.size 0 [] news := by
  have hlen : us.length = ov.length := by have := hov.length; rwa [List.length_map] at this
  have key : ∀ (j i : Nat) (ys : List Value), i + j = us.length → DatAll news ys (((ov.take i).filter q).map spanD) → ys.length ≤ i → LCt.CompRestT prog w A h₀ L m env ct (.Name x pos) x scope cl s S (fun i v => us.toArray[i]? = some v) Fin j i ys news := by
    intro j
    induction j with
    | zero =>
      intro i ys hi hy hyl
      have e : i = us.length := by omega
      subst e
      rw [hlen, List.take_length] at hy
      exact LCt.CompRestT.zero (fin ys hy hyl)
    | succ j ih =>
      intro i ys hi hy hyl
      refine LCt.CompRestT.succ ?_
      intro v I oI C oC D m₂ h tk E' hv hC hx F N off ne
      have hv' : us[i]? = some v := by simpa using hv
      obtain ⟨sp, ad, t1, t2, k, hs, rfl, hm⟩ := span_at hov hv'
      have ht : ov.take (i + 1) = ov.take i ++ [sp] := by rw [List.take_add_one, hs]; rfl
      refine turn sp ad t1 t2 k I oI C oC D m₂ ys h tk E' (List.mem_of_getElem? hs) hm hC hx F N off ne _ fun h' tk' F' N' => ?_
      cases hq : q sp with
      | true =>
        rw [if_pos rfl]
        refine LCgL.ld_own N' (.tail _ (.head _)) hC hx ?_ (hk C) (hl C) hd
        refine ⟨h', tk', news, rfl, F', N', off, hS, ih (i + 1) _ (by omega) ?_ (by rw [List.length_append, List.length_singleton]; omega)⟩
        rw [ht, List.filter_append, List.map_append]
        have e : List.filter q [sp] = [sp] := by simp [hq]
        rw [e]
        refine DatAll.append hy (DatAll.one (.tuple hm ?_))
        exact .cons (.int _ _) (.cons (.int _ _) .nil)
      | false =>
        rw [if_neg Bool.false_ne_true]
        refine ⟨h', tk', news, rfl, F', N', off, hS, ih (i + 1) _ (by omega) ?_ (by omega)⟩
        rw [ht, List.filter_append, List.map_append]
        have e : List.filter q [sp] = [] := by simp [hq]
        rw [e]
        simpa using hy
  have := key us.length 0 [] (by omega) (by simp; exact .nil) (Nat.le_refl _)
  simpa using this
end
end Mine
end

section
open PySem PySem.W PyProof.Rows
set_option maxRecDepth 100000
namespace Mine
section
variable {prog : Program} {w : World} {A : Around} {E : Value → Shared → Prop} {s : Shared} {h₀ : Heap} {L D : Addr} {m : Str → Option Value} {news news' : List (Addr × Obj)} {vs : List Value} {n : Nat} {k : Int} {t u : Tok} {v : Value}

theorem replT {x y z r : Str} {t u v : Tok} {Q : Value → Shared → Prop} (e : Txt.replace x y z = r) (hu : u ≠ 0) (hv : v ≠ 0) (huv : u ≠ v) (hyz : (y == z) = false) (hx : x.length ≤ 1048576) (hz : z.length ≤ 14)
    (h : ∀ t' k, s.toks ≤ k → Q (.str r t') { s with toks := k }) : wpAny (model prog w) A (call (.builtin "str.replace") [.str x t, .str y u, .str z v]) Q E s :=
  wpAny_low s.toks (Nat.le_refl _) (SC.replaceW hu hv huv hyz hx hz fun t' k hk => by rw [e]; exact h t' k hk)

theorem len_led {Q : Value → Shared → Prop} (N : News h₀ L s.heap news) (hm : (D, listOf vs.toArray n) ∈ news) (hfit : vs.length ≤ 1000000)
    (h : Q (.int (vs.length : Int) (s.toks + 1)) { s with toks := s.toks + 1 + 1 }) : wpAny (model prog w) A (call (.builtin "len") [.ref D]) Q E s := by
  have hl : s.heap.IsList D vs.toArray := ⟨_, (N _ hm).1, rfl, n, rfl⟩
  have e : vs.toArray.size = vs.length := List.size_toArray
  exact len_list hl (by rw [e]; omega) (by rw [e]; exact h)
theorem list_item {value slice : PySem.Expr} {Q : Value → Shared → Prop} (N : News h₀ L s.heap news) (hm : (D, listOf vs.toArray n) ∈ news) (h0 : 0 ≤ k) (hfit : k < 2 ^ 63) (hx : vs[k.toNat]? = some v) (h : Q v s)
    (hs : subscripted slice false (.ref D) (.int k u) = operate [.ref D, .int k u] (getItem (.ref D) (.int k u)) := by with_unfolding_all rfl) :
    wpAny (model prog w) A (subscriptTail value slice (.ref D) (.int k u)) Q E s := by
  have hl : s.heap.IsList D vs.toArray := ⟨_, (N _ hm).1, rfl, n, rfl⟩
  exact tail_any hl.typeIs slot_list_getitem.lookup (wpAny_getItem_list hl h0 hfit (by simpa using hx) h) hs
theorem list_set {pre post : List (Addr × Obj)} {Q : Unit → Shared → Prop} (F : Fr h₀ L s.heap m) (N : News h₀ L s.heap (pre ++ (D, listOf vs.toArray n) :: post)) (ha : ∀ p ∈ pre, p.1 ≠ D) (hb : ∀ p ∈ post, p.1 ≠ D) (h0 : 0 ≤ k) (h1 : k < vs.length) (hfit : k < 2 ^ 63)
    (h : ∀ h', Fr h₀ L h' m → News h₀ L h' (pre ++ (D, listOf (vs.set k.toNat v).toArray n) :: post) → Q () { s with heap := h' }) : wpAny (model prog w) A (setItem (.ref D) (.int k t) v) Q E s := by
  have z := N (D, listOf vs.toArray n) (List.mem_append.mpr (.inr (.head _)))
  have hs : vs.toArray.size = vs.length := List.size_toArray
  refine ki_setAt z.1 h0 hfit (by omega) (h _ (F.change (Heap.SameBut.update ..) z.2.1 z.2.2) (ki_turn _ N ha hb ?_ ?_))
  · show vs.toArray.setIfInBounds k.toNat v = (vs.set k.toNat v).toArray
    apply Array.toList_inj.mp
    simp
  · simp
end

theorem rows_len {l : List (Str × Tok)} {w : List Nat} (hw : w ∈ wordsAll) (e : l.map (·.1) = (rows w).map strL) (h2 : (rows w).length ≤ 2) : (strValues l).length = (rows w).length ∧ (strValues l).length ≤ 2 := by
  have : l.length = (rows w).length := by simpa using congrArg List.length e
  simp only [strValues, List.length_map]
  omega

def setHead : List (Addr × Obj) → Obj → List (Addr × Obj)
  | [], _ => []
  | (d, _) :: r, o => (d, o) :: r
theorem news_swap {h₀ h : Heap} {L : Addr} {a b : Addr × Obj} {r : List (Addr × Obj)} (N : News h₀ L h (a :: b :: r)) : News h₀ L h (b :: a :: r) := fun p hp => by
  refine N p ?_
  simp only [List.mem_cons] at hp ⊢
  rcases hp with h | h | h
  · exact .inr (.inl h)
  · exact .inl h
  · exact .inr (.inr h)

/-- the rows' list behind i turns -/
def proc (z c i : Nat) (rs : List (List Nat)) : List (List Nat) := rs.mapIdx fun k r => if k < i then rowT (if k = 0 then z else c) r else r
theorem proc_zero (z c : Nat) (rs : List (List Nat)) : proc z c 0 rs = rs := by
  unfold proc
  apply List.ext_getElem?
  intro k
  simp
theorem proc_get (z c i : Nat) (rs : List (List Nat)) : (proc z c i rs)[i]? = rs[i]? := by
  unfold proc
  rw [List.getElem?_mapIdx]
  simp
theorem proc_succ {z c i : Nat} {rs : List (List Nat)} {r : List Nat} (h : rs[i]? = some r) : proc z c (i + 1) rs = (proc z c i rs).set i (rowT (if i = 0 then z else c) r) := by
  unfold proc
  apply List.ext_getElem?
  intro k
  have hlt := (List.getElem?_eq_some_iff.mp h).1
  by_cases hk : k = i
  · subst hk
    rw [List.getElem?_set_self (by simpa using hlt), List.getElem?_mapIdx, h]
    simp
  · rw [List.getElem?_set_ne (Ne.symm hk), List.getElem?_mapIdx, List.getElem?_mapIdx]
    cases rs[k]? with
    | none => rfl
    | some r' =>
      have e : (k < i + 1) = (k < i) := propext ⟨fun h => by omega, fun h => by omega⟩
      simp only [e]
theorem proc_keep {z c i : Nat} {rs : List (List Nat)} {r : List Nat} (h : rs[i]? = some r) (hr : r.head? ≠ some 46) : proc z c (i + 1) rs = proc z c i rs := by
  rw [proc_succ h]
  have : rowT (if i = 0 then z else c) r = r := by unfold rowT; rw [if_neg hr]
  rw [this]
  apply List.ext_getElem?
  intro k
  by_cases hk : k = i
  · subst hk
    rw [List.getElem?_set_self (by unfold proc; simpa using (List.getElem?_eq_some_iff.mp h).1), proc_get, h]
  · rw [List.getElem?_set_ne (Ne.symm hk)]

theorem rows_at {l : List (Str × Tok)} {z c i : Nat} {rs : List (List Nat)} (e : l.map (·.1) = (proc z c i rs).map strL) (hi : i < rs.length) : ∃ r tr, rs[i]? = some r ∧ r ∈ rs ∧ (strValues l)[((0 : Int) + (i : Int)).toNat]? = some (Value.str (strL r) tr) ∧ (strValues l).length = rs.length := by
  have hr : rs[i]? = some rs[i] := List.getElem?_eq_getElem hi
  have h1 : (l.map (·.1))[i]? = some (strL rs[i]) := by rw [e, List.getElem?_map, proc_get, hr]; rfl
  rw [List.getElem?_map] at h1
  cases h2 : l[i]? with
  | none => rw [h2] at h1; cases h1
  | some q =>
    rw [h2] at h1
    injection h1 with h1
    obtain ⟨x, tr⟩ := q
    dsimp only at h1
    subst h1
    refine ⟨rs[i], tr, hr, List.getElem_mem hi, ?_, ?_⟩
    · rw [show ((0 : Int) + (i : Int)).toNat = i by omega]
      simp only [strValues, List.getElem?_map, h2]; rfl
    · have := congrArg List.length e
      simp only [List.length_map, proc, List.length_mapIdx] at this
      simp only [strValues, List.length_map]; omega
theorem foldl_one : ∀ (n : Nat) (acc : Array Nat), (List.replicate n (#[46] : Array Nat)).foldl (· ++ ·) acc = acc ++ (List.replicate n 46).toArray
  | 0, acc => by simp
  | n + 1, acc => by
    rw [List.replicate_succ, List.foldl_cons, foldl_one n, List.replicate_succ]
    apply Array.toList_inj.mp
    simp
theorem mul_dots (n : Nat) : Txt.mul (Str.ofString ".") (n : Int) = strL (List.replicate n 46) := by
  rw [dot_is]
  unfold Txt.mul
  by_cases h1 : (n : Int) < 1
  · rw [if_pos h1]
    have : n = 0 := by omega
    subst this; rfl
  · rw [if_neg h1]
    by_cases h2 : n = 1
    · subst h2; rfl
    · have e : ((n : Int) == 1 || (strL [46]).length == 0) = false := by
        have : ¬ (n : Int) = 1 := by omega
        simp [this, Str.length]
      rw [e, if_neg Bool.false_ne_true]
      show (⟨(List.replicate (n : Int).toNat (#[46] : Array Nat)).foldl (· ++ ·) #[]⟩ : Str) = _
      rw [foldl_one, Int.toNat_natCast]
      simp
theorem filter_count (ov : List Span) (p : Int) (i : Nat) : (ov.filter fun sp => decide (0 < (0 : Int) + (i : Int)) || decide (sp.1 = p)).length = if i = 0 then zed ov p else ov.length := by
  by_cases h : i = 0
  · subst h
    rw [if_pos rfl]
    unfold zed
    congr 1
  · rw [if_neg h]
    have : ∀ sp : Span, (decide (0 < (0 : Int) + (i : Int)) || decide (sp.1 = p)) = true := by
      intro sp
      have : (0 : Int) < 0 + (i : Int) := by omega
      rw [decide_eq_true this]; rfl
    rw [List.filter_eq_self.mpr (fun s _ => this s)]
theorem row_value {ys : List Value} {news : List (Addr × Obj)} {ov : List Span} {p : Int} {i : Nat} {r : List Nat} (h : DatAll news ys ((ov.filter fun sp => decide (0 < (0 : Int) + (i : Int)) || decide (sp.1 = p)).map spanD)) (hr : r.head? = some 46) :
    Txt.mul (Str.ofString ".") (ys.length : Int) ++ strL r = strL (rowT (if i = 0 then zed ov p else ov.length) r) := by
  have e := h.length
  rw [List.length_map, filter_count] at e
  rw [e, mul_dots, strL_append]
  unfold rowT
  rw [if_pos hr]
theorem set_rows {l : List (Str × Tok)} {z c i : Nat} {rs : List (List Nat)} {r : List Nat} {tr : Tok} (e : l.map (·.1) = (proc z c i rs).map strL) (h : rs[i]? = some r) :
    (l.set i (strL (rowT (if i = 0 then z else c) r), tr)).map (·.1) = (proc z c (i + 1) rs).map strL ∧
    (strValues l).set ((0 : Int) + (i : Int)).toNat (Value.str (strL (rowT (if i = 0 then z else c) r)) tr) = strValues (l.set i (strL (rowT (if i = 0 then z else c) r), tr)) := by
  rw [show ((0 : Int) + (i : Int)).toNat = i by omega]
  constructor
  · rw [List.map_set, e, proc_succ h, List.map_set]
  · simp only [strValues, List.map_set]
theorem crlf_is : Str.ofString "\x0d\n" = strL [13, 10] := by decide +kernel
theorem join_crlf : ∀ (r : List Nat) (rs : List (List Nat)), Str.join (strL [13, 10]) ((r :: rs).map strL) = strL (r ++ (rs.map fun r => 13 :: 10 :: r).flatten)
  | r, [] => by show strL r = _; simp
  | r, r' :: rs => by
    show strL r ++ strL [13, 10] ++ Str.join (strL [13, 10]) ((r' :: rs).map strL) = _
    rw [join_crlf r' rs, strL_append, strL_append]
    simp
theorem joinT_is (c : Nat) : ∀ rs : List (List Nat), joinT c rs = (rs.map fun r => 13 :: 10 :: rowT c r).flatten
  | [] => rfl
  | r :: rs => by rw [joinT, joinT_is c rs]; simp
theorem proc_all (z c : Nat) (r : List Nat) (rs : List (List Nat)) : proc z c (r :: rs).length (r :: rs) = rowT z r :: rs.map (rowT c) := by
  unfold proc
  apply List.ext_getElem?
  intro k
  rw [List.getElem?_mapIdx]
  cases k with
  | zero => simp
  | succ k =>
    simp only [List.getElem?_cons_succ, List.getElem?_map]
    cases h : rs[k]? with
    | none => rfl
    | some r' =>
      have := (List.getElem?_eq_some_iff.mp h).1
      simp; omega
theorem join_rows {z c : Nat} {rs : List (List Nat)} (hne : rs ≠ []) : Txt.join (Str.ofString "\x0d\n") ((proc z c rs.length rs).map strL) = strL (rowsT z c rs) := by
  cases rs with
  | nil => exact absurd rfl hne
  | cons r rs =>
    rw [proc_all]
    show Builtin.Str.glued _ _ = _
    rw [StrLaws.glued_eq_join, crlf_is, join_crlf, rowsT, joinT_is]
    simp [List.map_map, Function.comp_def]

theorem rowT_len (k : Nat) (r : List Nat) : (rowT k r).length ≤ k + r.length := by
  unfold rowT
  by_cases h : r.head? = some 46
  · rw [if_pos h, List.length_append, List.length_replicate]; omega
  · rw [if_neg h]; omega
theorem zed_le (ov : List Span) (p : Int) : zed ov p ≤ ov.length := List.length_filter_le _ _
theorem sum_le {B : Nat} : ∀ {l : List Nat}, (∀ x ∈ l, x ≤ B) → l.sum ≤ B * l.length
  | [], _ => Nat.zero_le _
  | x :: l, h => by
    have h1 := h x (by simp)
    have h2 := sum_le (l := l) fun y hy => h y (by simp [hy])
    rw [List.sum_cons, List.length_cons, Nat.mul_succ]; omega
theorem proc_len {z c : Nat} {rs : List (List Nat)} (hz : z ≤ 100) (hc : c ≤ 100) (hr : ∀ r ∈ rs, r.length ≤ 10) (h2 : rs.length ≤ 2) : ((((proc z c rs.length rs).map strL).map (·.length)).sum + ((proc z c rs.length rs).map strL).length) ≤ 1048576 := by
  have hl : (proc z c rs.length rs).length = rs.length := by unfold proc; simp
  have h1 : ∀ x ∈ ((proc z c rs.length rs).map strL).map (·.length), x ≤ 110 := by
    intro x hx
    simp only [List.map_map, List.mem_map, Function.comp_apply] at hx
    obtain ⟨y, hy, rfl⟩ := hx
    obtain ⟨j, hj, rfl⟩ := List.mem_iff_getElem.mp hy
    show (strL _).cps.size ≤ 110
    simp only [List.size_toArray]
    simp only [proc, List.getElem_mapIdx]
    have hm : rs[j]'(by rw [hl] at hj; exact hj) ∈ rs := List.getElem_mem _
    have h3 := hr _ hm
    by_cases hh : j < rs.length
    · rw [if_pos hh]
      refine Nat.le_trans (rowT_len _ _) ?_
      by_cases h0 : j = 0
      · rw [if_pos h0]; omega
      · rw [if_neg h0]; omega
    · rw [if_neg hh]; omega
  have h3 := sum_le h1
  simp only [List.length_map, hl] at h3 ⊢
  omega

/-- the eight words under the two replacements and the split -/
theorem word_facts {w : List Nat} (hw : w ∈ wordsAll) : (strL w).length ≤ 10 ∧ (Txt.replace (strL w) (Str.ofString "\x0d\n") (Str.ofString "\n")).length ≤ 10 ∧
    (Txt.replace (Txt.replace (strL w) (Str.ofString "\x0d\n") (Str.ofString "\n")) (Str.ofString "\x0d") (Str.ofString "\n")).length ≤ 10 ∧
    Txt.split (Txt.replace (Txt.replace (strL w) (Str.ofString "\x0d\n") (Str.ofString "\n")) (Str.ofString "\x0d") (Str.ofString "\n")) (Str.ofString "\n") = (rows w).map strL ∧ (rows w).length ≤ 2 ∧
    (∀ r ∈ rows w, r.length ≤ 10 ∧ (Txt.slice (strL r) none (some 1) == Str.ofString ".") = decide (r.head? = some 46)) := by
  have : ∀ w ∈ wordsAll, (strL w).length ≤ 10 ∧ (Txt.replace (strL w) (Str.ofString "\x0d\n") (Str.ofString "\n")).length ≤ 10 ∧
    (Txt.replace (Txt.replace (strL w) (Str.ofString "\x0d\n") (Str.ofString "\n")) (Str.ofString "\x0d") (Str.ofString "\n")).length ≤ 10 ∧
    Txt.split (Txt.replace (Txt.replace (strL w) (Str.ofString "\x0d\n") (Str.ofString "\n")) (Str.ofString "\x0d") (Str.ofString "\n")) (Str.ofString "\n") = (rows w).map strL ∧ (rows w).length ≤ 2 ∧
    (∀ r ∈ rows w, r.length ≤ 10 ∧ (Txt.slice (strL r) none (some 1) == Str.ofString ".") = decide (r.head? = some 46)) := by decide +kernel
  exact this w hw
end Mine
end

section
open PySem PySem.W PyProof.Rows
set_option Elab.async false
set_option maxRecDepth 100000
set_option maxHeartbeats 0
set_option pp.deepTerms false
set_option pp.deepTerms.threshold 8
namespace Mine

local macro_rules | `(tactic| k_mem) => `(tactic| assumption)
local macro_rules | `(tactic| walk_at "subscriptTail") => `(tactic| (k_here; (with_reducible show wpAny _ _ (subscriptTail _ _ (Value.ref _) (Value.int _ _)) _ _ _); k_dflt (refine' item_tupleT ?t ?a ?b ?c ?d ?_; (case t => exact News.isTup (by k_asm) (by k_mem)); (case a => decide); (case b => decide); (case c => rfl); (case d => rfl); k_whole)))
local macro_rules | `(tactic| walk_at "subscriptTail") => `(tactic| (k_here; (with_reducible show wpAny _ _ (subscriptTail _ _ (Value.ref _) (Value.int _ _)) _ _ _); refine list_item (by k_asm) (by k_mem) (by omega) (by omega) (by assumption) ?_))
local macro_rules | `(tactic| walk_at "call builtin:str.replace") => `(tactic| (k_here; (refine replT rfl (by ((show @Ne Nat _ _); omega)) (by ((show @Ne Nat _ _); omega)) (by ((show @Ne Nat _ _); omega)) (by decide +kernel) (by first | exact Nat.le_trans (word_facts (by assumption)).1 (by decide) | exact Nat.le_trans (word_facts (by assumption)).2.1 (by decide)) (by decide +kernel) ?_); intro t' k' htk'; (try dsimp only at htk')))
local macro_rules | `(tactic| walk_at "call builtin:str.split") => `(tactic| (k_here; (refine KSpl.split1 (by k_asm) (by k_asm) (by decide +kernel) ?_ (by (rw [sizeLine_eq]; exact Nat.le_trans (Nat.add_le_add_right (word_facts (by assumption)).2.2.1 2) (by decide)))); intro D' l' h' k' e' a' F' N' l1'; (rw [(word_facts (by assumption)).2.2.2.1] at e'); (have hl9 := rows_len (by assumption) e' (word_facts (by assumption)).2.2.2.2.1)))
local macro_rules | `(tactic| walk_at "call builtin:len") => `(tactic| (k_here; (refine len_led (by k_asm) (by k_mem) (by omega) ?_)))

theorem rows_c {w : World} {mean : ExcName → Option Value} {mg mb : Str → Option Value}
    (dp un : Nat) (gd : Option (List Code)) (cn : Str) (cs : Scope) (a : Addr) (ccd : Value) (cl : List (Str × Addr)) (outer : List Env) (A₀ : Around) (base h₀ : Heap) (L : Addr) (m : Str → Option Value) (news : List (Addr × Obj)) (s : Shared) (Q E : Value → Shared → Prop)
    (B : Below A₀ base outer h₀) (F : Fr h₀ L s.heap m) (X : (hd.heap_39 w.params).In h₀) (N : News h₀ L s.heap news)
    (T : Top hd.view_39 (looseW hd.view_39 [Str.ofString "_twin_re_1", Str.ofString "_twin_re_2"]) mean mg mb h₀)
    (hk : cs.kind = .function) (oa : Addr) (us : List Value) (k : Nat) (ov : List Span) (p : Int) (tp tw : Tok) (wd : List Nat) (hw : wd ∈ wordsAll)
    (ho : (oa, listOf us.toArray k) ∈ news) (hov : DatAll news us (ov.map spanD)) (hlen : ov.length ≤ 100)
    (htk : 1 ≤ s.toks) (hd : dp + 1 < recursionLimit) (hu : un + 8 < cLine)
    (hret : ∀ tk h' tk', Fr h₀ L h' m → News h₀ L h' news → Q (.str (strL (rowsT (zed ov p) ov.length (rows wd))) tk) { s with heap := h', toks := tk' }) :
    wpAny (model PySem.Challenge.rw_pe0026_01.row.prog w) (ktrTop dp un gd cn cs L a ccd cl outer) (call (.ref 67) [.ref oa, .int p tp, .str (strL wd) tw]) Q E s := by
  revert X T
  k_fill
  intro X T
  refine wpAny_call ?_
  k_dflt (refine' enter_cells ?k1 ?k2 ?k3 ?k4 ?k5 ?kA ?kF ?kK ?k6 ?k7 ?k8 ?k9 ?kB ?kD ?_ ?c2 ?c3 ?c4; (case kA => exact rfl); (case kF => exact rfl); (case kK => assumption); (case k1 => k_asm); (case k2 => k_asm); (case k3 => k_asm); (case k4 => k_asm); (case k5 => k_asm); (case k6 => k_is); (case k7 => k_is); (case k8 => ktr_room); (case k9 => exact BindsTo.of_eq rfl); (case kB => exact rfl); (case kD => decide +kernel); (case c2 => exact rfl); (case c3 => exact rfl); (case c4 => exact rfl); k_whole; intro g' L' h' tk' cells' htk' FG' F' N' Y' B' X' T' l1; k_cells Y'; (try simp only [List.cons_append, List.nil_append] at N'); (try dsimp only); (try k_fold))
  repeat' ((fail_if_success (with_reducible show wpAny _ _ (exec (Stmt.For _ _ _ _ _) _) _ _ _)); (first | (k_unfold; (try dsimp only)) | (k_end; wrow_close) | walk1 | (dsimp only; walk1) | (leave1; walk_say "STEP leave1"; try dsimp only) | fail "no step"))
  refine for_cell ?_
  repeat' ((fail_if_success (with_reducible show CellLoopAt _ _ _ _ _ _ _ _ _ _ _)); (first | (k_unfold; (try dsimp only)) | (k_end; wrow_close) | walk1 | (dsimp only; walk1) | (leave1; walk_say "STEP leave1"; try dsimp only) | fail "no step"))
  rename IsRange _ _ _ _ _ _ _ _ => R'
  rename Fr _ _ _ _ => F1
  rename News _ _ _ _ => N1
  rename (strValues _).length = _ ∧ _ => hl9
  rename (∀ p : Addr × Obj, p ∈ _ → p.1 < _) => hlt
  rename (List.map _ _ = List.map strL _) => hrows
  rename (Obj.data _ = _) => hpl
  have hus : us.length = ov.length := by have := hov.length; rwa [List.length_map] at this
  have N2 := news_swap N1
  rename List (Str × Tok) => l0
  refine cell_range F1 N2 (by assumption) ?_ R' ?_ (n := (strValues l0).length) ?_ (by rfl) (by rfl) (by rfl) (by rfl) (fun m₀ n₀ i m' nx => m' = m₀ ∧ ∃ l : List (Str × Tok), l.map (·.1) = (proc (zed ov p) ov.length i (rows wd)).map strL ∧ nx = setHead n₀ (listOf (strValues l).toArray 0)) ⟨rfl, l0, by rw [proc_zero]; exact hrows, rfl⟩ ?_ ?_
  · intro q hq
    rcases List.mem_cons.mp hq with rfl | hq
    · have := hlt (L' + 1 + 1, _) (.head _)
      exact Nat.ne_of_gt this
    · rcases List.mem_cons.mp hq with rfl | hq
      · exact Nat.ne_of_lt (Nat.lt_succ_self _)
      · have := l1 q hq
        exact Nat.ne_of_lt (Nat.lt_succ_of_lt (Nat.lt_succ_of_lt this))
  · exact small_one (by omega) (by omega) (by omega) (by omega)
  · exact rangeSize_nat _ _
  · rintro i t m₁ h tk nx I oI co₁ hi htk2 ⟨rfl, l, hl, rfl⟩ hco F3 N3 hne hcI qq hqq
    dsimp only [setHead] at N3
    have hi2 : i < (rows wd).length := by omega
    obtain ⟨r, tr, hr, hrm, hit, hll⟩ := rows_at hl hi2
    obtain ⟨hrl, hsl⟩ := (word_facts hw).2.2.2.2.2 r hrm
    have hrl2 : Str.length (strL r) ≤ 1048576 := by
      show (strL r).cps.size ≤ _
      simp; omega
    repeat' ((fail_if_success (with_reducible show wpAny _ _ (eval (Expr.ListComp _ _ _ _) _) _ _ _)); (first | (k_unfold; (try dsimp only)) | (k_end; wrow_close) | walk1 | (dsimp only; walk1) | (leave1; walk_say "STEP leave1"; try dsimp only) | fail "no step"))
    all_goals try (
      k_dflt (refine LCt.ListComp_T (F₀ := by k_asm) (by with_unfolding_all rfl) (by decide) (by rfl) (by decide) (by rfl) ?_)
      repeat' ((fail_if_success (with_reducible show LCt.CompSrcT _ _ _ _ _ _ _ _ _ _ _ _ _ _ _)); (first | (k_unfold; (try dsimp only)) | (k_end; wrow_close) | walk1 | (dsimp only; walk1) | (leave1; walk_say "STEP leave1"; try dsimp only) | fail "no step")))
    · rename Fr _ _ _ _ => F4
      rename News _ _ _ _ => N4
      refine LCt.CompSrcT.ledger (by rfl) F4 N4 (by k_mem) (by rw [List.size_toArray, sizeLine_eq]; omega) ?_
      intro g2
      refine filter_rest (fun sp => decide (0 < (0 : Int) + (i : Int)) || decide (sp.1 = p)) (hov.mono (fun q hq => by repeat' first | assumption | apply List.mem_cons_of_mem)) (.inr ⟨_, by k_mem, rfl, _, rfl⟩) (by intro C; rfl) (by intro C; rfl) (by decide) ?_ ?_
      · intro sp ad t1 t2 kk I2 oI2 C oC D2 m₂ ys h5 tk5 E' hsp hm hC hx F5 N5 off ne qq5 hqq5
        k_steps
        all_goals first
          | (rw [show (decide (0 < (0 : Int) + (i : Int)) || decide (sp.1 = p)) = true by first | (simp [*]; done) | (simp [*]; omega)] at hqq5; exact hqq5 _ _ (by k_asm) (by k_asm))
          | (rw [show (decide (0 < (0 : Int) + (i : Int)) || decide (sp.1 = p)) = false by first | (simp [*]; done) | (simp [*]; omega)] at hqq5; exact hqq5 _ _ (by k_asm) (by k_asm))
      · intro ys hys hyl
        repeat' ((fail_if_success (with_reducible show wpAny _ _ (setItem _ _ _) _ _ _)); (first | (k_unfold; (try dsimp only)) | (k_end; wrow_close) | walk1 | (dsimp only; walk1) | (leave1; walk_say "STEP leave1"; try dsimp only) | fail "no step"))
        rename Fr _ _ _ _ => F6
        rename News _ _ _ _ => N6
        rename (Ne _ _ ∧ Ne _ _ ∧ _) => ho1
        have hdec : decide (r.head? = some 46) = true := by rw [← hsl]; assumption
        have hhd : r.head? = some 46 := of_decide_eq_true hdec
        have hD1 := fun q hq => hlt q hq
        refine list_set (pre := [_, _, _]) F6 N6 ?_ ?_ (by omega) (by omega) (by omega) ?_
        · intro q hq
          simp only [List.mem_cons, List.not_mem_nil, or_false] at hq
          have hDn := hne (_, _) (.head _)
          rcases hq with rfl | rfl | rfl
          · exact Ne.symm ho1.2.2.1
          · exact Ne.symm hDn.1
          · exact Ne.symm hDn.2
        · intro q hq
          exact Nat.ne_of_lt (hlt q (List.mem_cons_of_mem _ hq))
        · intro h7 F7 N7
          have hset := fun tr => set_rows (tr := tr) hl hr
          rw [row_value hys hhd, (hset _).2] at N7
          k_steps
          refine hqq .next _ _ _ _ ((_, listOf (strValues _).toArray 0) :: (L' + 1, _) :: news) (.inl rfl) F7 N7 (.tail _ (.head _)) (.tail _ (.tail _ (.head _))) (fun q hq => .tail _ (.tail _ (.tail _ hq))) ?_ ⟨rfl, _, (hset _).1, rfl⟩
          intro q hq
          rcases List.mem_cons.mp hq with rfl | hq
          · have hh := hne _ (List.Mem.head _)
            exact hh
          · exact hne q (.tail _ hq)
    · have hdec : decide (r.head? = some 46) = false := by rw [← hsl]; assumption
      have hhd : r.head? ≠ some 46 := of_decide_eq_false hdec
      refine hqq .next _ _ _ _ _ (.inl rfl) (by k_asm) (by k_asm) (.head _) (.tail _ (.head _)) (fun q hq => .tail _ (.tail _ hq)) hne ⟨rfl, l, by rw [proc_keep hr hhd]; exact hl, rfl⟩
  · rintro m₁ h tk nx co₁ htk2 ⟨cv, hco⟩ ⟨rfl, l, hl, rfl⟩ F3 N3 hne
    dsimp only [setHead] at N3
    repeat' ((fail_if_success (with_reducible show wpAny _ _ (call (Value.builtin "str.join") _) _ _ _)); (first | (k_unfold; (try dsimp only)) | (k_end; wrow_close) | walk1 | (dsimp only; walk1) | (leave1; walk_say "STEP leave1"; try dsimp only) | fail "no step"))
    obtain ⟨hwf1, hwf2, hwf3, hwf4, hwf5, hwf6⟩ := word_facts hw
    rw [hl9.1] at hl
    refine SC.join (l := l) ⟨_, (N3 _ (.tail _ (.head _))).1, rfl, _, rfl⟩ hl (joinOk_of_weight (proc_len (Nat.le_trans (zed_le _ _) hlen) hlen (fun r hr => (hwf6 r hr).1) hwf5) (by decide +kernel)) fun t' k' => ?_
    rw [join_rows (ok_parts hw).2.2.2]
    have N4 : News g' _ h news := fun q hq => N3 q (.tail _ (.tail _ (.tail _ hq)))
    k_steps
    exact hret _ _ _ (by k_asm) (by k_asm)
end Mine
end

section
open PySem PySem.W PyProof.Rows
set_option maxRecDepth 100000
namespace Mine
/-- a word's value -/
def OptV (v : Value) : Option (List Nat) → Prop
  | none => v = .none
  | some x => ∃ t, v = .str (strL x) t
def OptAll : List Value → List (Option (List Nat)) → Prop
  | [], [] => True
  | v :: vs, x :: xs => OptV v x ∧ OptAll vs xs
  | _, _ => False
theorem OptAll.length : ∀ {vs : List Value} {xs : List (Option (List Nat))}, OptAll vs xs → vs.length = xs.length
  | [], [], _ => rfl
  | _ :: _, _ :: _, h => by rw [List.length_cons, List.length_cons, OptAll.length h.2]
  | [], _ :: _, h => h.elim
  | _ :: _, [], h => h.elim
theorem OptAll.get : ∀ {vs : List Value} {xs : List (Option (List Nat))}, OptAll vs xs → ∀ {i : Nat} {x : Option (List Nat)}, xs[i]? = some x → ∃ v, vs[i]? = some v ∧ OptV v x
  | [], [], _, _, _, h => by cases h
  | v :: _, _ :: _, h, 0, _, e => by injection e with e; subst e; exact ⟨v, rfl, h.1⟩
  | _ :: _, _ :: _, h, i + 1, _, e => OptAll.get h.2 e
  | [], _ :: _, h, _, _, _ => h.elim
  | _ :: _, [], h, _, _, _ => h.elim
def wsF (wl : List (Option (List Nat))) (p : Int) : Option (List Nat) := (wl[p.toNat]?).getD (some [])
def okWords (wl : List (Option (List Nat))) : Prop := ∀ x ∈ wl, ∀ y, x = some y → y ∈ wordsAll
theorem wd_ok {wl : List (Option (List Nat))} (h : okWords wl) (p : Int) : wdOf (wsF wl) p ∈ wordsAll := by
  unfold wdOf wsF
  cases e : wl[p.toNat]? with
  | none => show [] ∈ wordsAll; decide
  | some x =>
    show x.getD [67] ∈ wordsAll
    cases x with
    | none => show [67] ∈ wordsAll; decide
    | some y => exact h _ (List.mem_of_getElem? e) y rfl

/-- the state of the telling: what is ahead -/
def aheadV (st : Option (Int × List Nat)) (v : Value) : Prop := match st with
  | none => v = .none
  | some (a, _) => ∃ t, v = .int a t
def befL (st : Option (Int × List Nat)) : List Nat := match st with
  | none => []
  | some (_, b) => b
theorem bef_ok {wl : List (Option (List Nat))} (h : okWords wl) {pr : Int → Bool} : ∀ (ps : List Int) (stt : Option (Int × List Nat)), befL stt ∈ wordsAll → befL (finG pr (wdOf (wsF wl)) ps stt) ∈ wordsAll
  | [], _, k => k
  | p :: ps, stt, k => by
    rw [finG]
    cases pr p with
    | true => rw [if_pos rfl]; exact bef_ok h ps _ (wd_ok h p)
    | false => rw [if_neg Bool.false_ne_true]; exact bef_ok h ps stt k
theorem rangeKs_succ (a : Int) (n : Nat) : rangeKs a (n + 1) = rangeKs a n ++ [a + (n : Int)] := by simp [rangeKs, List.range_succ]
theorem ne_text_ahead : (Str.ofString "text" = Str.ofString "ahead") = False := eq_false (by decide +kernel)
theorem ne_text_before : (Str.ofString "text" = Str.ofString "before") = False := eq_false (by decide +kernel)
theorem ne_text_over : (Str.ofString "text" = Str.ofString "over") = False := eq_false (by decide +kernel)
theorem ne_text_word : (Str.ofString "text" = Str.ofString "word") = False := eq_false (by decide +kernel)
theorem ne_ahead_text : (Str.ofString "ahead" = Str.ofString "text") = False := eq_false (by decide +kernel)
theorem ne_ahead_before : (Str.ofString "ahead" = Str.ofString "before") = False := eq_false (by decide +kernel)
theorem ne_ahead_over : (Str.ofString "ahead" = Str.ofString "over") = False := eq_false (by decide +kernel)
theorem ne_ahead_word : (Str.ofString "ahead" = Str.ofString "word") = False := eq_false (by decide +kernel)
theorem ne_before_text : (Str.ofString "before" = Str.ofString "text") = False := eq_false (by decide +kernel)
theorem ne_before_ahead : (Str.ofString "before" = Str.ofString "ahead") = False := eq_false (by decide +kernel)
theorem ne_before_over : (Str.ofString "before" = Str.ofString "over") = False := eq_false (by decide +kernel)
theorem ne_before_word : (Str.ofString "before" = Str.ofString "word") = False := eq_false (by decide +kernel)
theorem ne_over_text : (Str.ofString "over" = Str.ofString "text") = False := eq_false (by decide +kernel)
theorem ne_over_ahead : (Str.ofString "over" = Str.ofString "ahead") = False := eq_false (by decide +kernel)
theorem ne_over_before : (Str.ofString "over" = Str.ofString "before") = False := eq_false (by decide +kernel)
theorem ne_over_word : (Str.ofString "over" = Str.ofString "word") = False := eq_false (by decide +kernel)
theorem ne_word_text : (Str.ofString "word" = Str.ofString "text") = False := eq_false (by decide +kernel)
theorem ne_word_ahead : (Str.ofString "word" = Str.ofString "ahead") = False := eq_false (by decide +kernel)
theorem ne_word_before : (Str.ofString "word" = Str.ofString "before") = False := eq_false (by decide +kernel)
theorem ne_word_over : (Str.ofString "word" = Str.ofString "over") = False := eq_false (by decide +kernel)

theorem ovr5 {m₀ : Str → Option Value} {a b c d e : Str} {va vb vc : Option Value} (ha : m₀ a = va) (hb : m₀ b = vb) (hc : m₀ c = vc) : m₀ = fun y => if y = a then va else if y = b then vb else if y = c then vc else if y = d then m₀ d else if y = e then m₀ e else m₀ y := by
  funext y
  by_cases h1 : y = a
  · rw [if_pos h1, h1, ha]
  · rw [if_neg h1]
    by_cases h2 : y = b
    · rw [if_pos h2, h2, hb]
    · rw [if_neg h2]
      by_cases h3 : y = c
      · rw [if_pos h3, h3, hc]
      · rw [if_neg h3]
        by_cases h4 : y = d
        · rw [if_pos h4, h4]
        · rw [if_neg h4]
          by_cases h5 : y = e
          · rw [if_pos h5, h5]
          · rw [if_neg h5]
theorem empty_is : Str.ofString "" = strL [] := by decide +kernel
theorem C_is : Str.ofString "C" = strL [67] := by decide +kernel
theorem over_ne {sp : List Span} {f l p : Int} (hm : (f, l) ∈ sp) (h1 : f ≤ p) (h2 : p ≤ l) : ∃ s r, overF sp f l p = s :: r := by
  have : (f, l) ∈ overF sp f l p := by simp [overF, hm, h1, h2]
  cases h : overF sp f l p with
  | nil => rw [h] at this; cases this
  | cons s r => exact ⟨s, r, rfl⟩
theorem told_step (pr : Int → Bool) (wd : Int → List Nat) (ov : Int → List Span) (ps : List Int) (p : Int) : toldG pr wd ov (ps ++ [p]) none = toldG pr wd ov ps none ++ (if pr p then point (finG pr wd ps none) (ov p) p ++ rowsT (zed (ov p) p) (ov p).length (rows (wd p)) else []) ∧
    finG pr wd (ps ++ [p]) none = if pr p then some (p, wd p) else finG pr wd ps none := by
  have fin : ∀ (ps : List Int) stt, finG pr wd (ps ++ [p]) stt = if pr p then some (p, wd p) else finG pr wd ps stt := by
    intro ps
    induction ps with
    | nil => intro stt; rw [List.nil_append, finG, finG, finG, finG]
    | cons q ps ih =>
      intro stt
      rw [List.cons_append, finG, finG, ih, ih]
      cases pr q <;> cases pr p <;> rfl
  refine ⟨?_, fin ps none⟩
  rw [toldG_append, toldG, toldG, toldG]
  cases pr p <;> simp
end Mine
end

section
open PySem PySem.W PyProof.Rows
set_option maxRecDepth 100000
namespace Mine
theorem datAll_up {news news' : List (Addr × Obj)} {us : List Value} {ds : List Dat} (h : DatAll news us ds) (hs : ∀ q ∈ news, q ∈ news') : DatAll news' us ds := h.mono hs
theorem rowsT_len {w : List Nat} (hw : w ∈ wordsAll) {z c : Nat} (hz : z ≤ 100) (hc : c ≤ 100) : (rowsT z c (rows w)).length ≤ 250 := by
  obtain ⟨_, _, _, _, h2, hr⟩ := word_facts hw
  generalize rows w = rs at *
  match rs, h2, hr with
  | [], _, _ => exact Nat.zero_le _
  | [r], _, hr =>
    have h1 := (hr r (by simp)).1
    have := rowT_len z r
    simp only [rowsT, joinT, List.append_nil]; omega
  | [r, r'], _, hr =>
    have h1 := (hr r (by simp)).1
    have h1' := (hr r' (by simp)).1
    have := rowT_len z r
    have := rowT_len c r'
    simp only [rowsT, joinT, List.append_nil, List.length_append, List.length_cons]; omega
  | _ :: _ :: _ :: _, h2, _ => simp at h2
theorem point_len (stt : Option (Int × List Nat)) {ov : List Span} (h : ov.length ≤ 100) (p : Int) : (point stt ov p).length ≤ 101 := by
  match stt with
  | none => exact Nat.zero_le _
  | some (a, w) =>
    show (List.replicate (1 + cnt ov p a w) 46).length ≤ 101
    rw [List.length_replicate]
    have : cnt ov p a w ≤ ov.length := List.length_filter_le _ _
    omega
theorem told_len {pr : Int → Bool} {wd : Int → List Nat} {ov : Int → List Span} (hw : ∀ p, wd p ∈ wordsAll) (ho : ∀ p, (ov p).length ≤ 100) : ∀ (ps : List Int) stt, (toldG pr wd ov ps stt).length ≤ 400 * ps.length
  | [], _ => Nat.zero_le _
  | p :: ps, stt => by
    rw [toldG, List.length_cons]
    cases pr p with
    | false => rw [if_neg Bool.false_ne_true]; have := told_len hw ho (pr := pr) ps stt; omega
    | true =>
      rw [if_pos rfl]
      have h1 := told_len hw ho (pr := pr) ps (some (p, wd p))
      have h2 := rowsT_len (hw p) (Nat.le_trans (zed_le (ov p) p) (ho p)) (ho p)
      have h3 := point_len stt (ho p) p
      simp only [List.length_append]; omega
theorem strL_len (x : List Nat) : (strL x).length = x.length := by show (strL x).cps.size = _; simp
theorem rangeKs_len (a : Int) (n : Nat) : (rangeKs a n).length = n := by simp [rangeKs]
end Mine
end

section
open PySem PySem.W PyProof.Rows
set_option maxRecDepth 100000
namespace Mine
theorem map_told1 {m₀ : Str → Option Value} {x1 x2 x3 x4 x5 y1 y2 y3 y4 y5 : Option Value} :
    (fun y => if y = Str.ofString "before" then x1 else if y = Str.ofString "ahead" then x2 else if y = Str.ofString "text" then x3 else if y = Str.ofString "word" then x4 else if y = Str.ofString "over" then x5 else
      (fun y => if y = Str.ofString "text" then y1 else if y = Str.ofString "ahead" then y2 else if y = Str.ofString "before" then y3 else if y = Str.ofString "over" then y4 else if y = Str.ofString "word" then y5 else m₀ y) y) =
    fun y => if y = Str.ofString "text" then x3 else if y = Str.ofString "ahead" then x2 else if y = Str.ofString "before" then x1 else if y = Str.ofString "over" then x5 else if y = Str.ofString "word" then x4 else m₀ y := by
  funext y
  by_cases h1 : y = Str.ofString "text"
  · subst h1; simp only [ne_text_before, ne_text_ahead, if_true, if_false]
  · by_cases h2 : y = Str.ofString "ahead"
    · subst h2; simp only [ne_ahead_before, ne_ahead_text, if_true, if_false]
    · by_cases h3 : y = Str.ofString "before"
      · subst h3; simp only [ne_before_ahead, ne_before_text, if_true, if_false]
      · by_cases h4 : y = Str.ofString "over"
        · subst h4; simp only [ne_over_ahead, ne_over_text, ne_over_before, ne_over_word, if_true, if_false]
        · by_cases h5 : y = Str.ofString "word"
          · subst h5; simp only [ne_word_ahead, ne_word_text, ne_word_before, ne_word_over, if_true, if_false]
          · simp only [h1, h2, h3, h4, h5, if_false]
theorem map_told2 {m₀ : Str → Option Value} {x1 x2 x3 x3' x4 x5 y1 y2 y3 y4 y5 : Option Value} :
    (fun y => if y = Str.ofString "before" then x1 else if y = Str.ofString "ahead" then x2 else if y = Str.ofString "text" then x3 else if y = Str.ofString "text" then x3' else if y = Str.ofString "word" then x4 else if y = Str.ofString "over" then x5 else
      (fun y => if y = Str.ofString "text" then y1 else if y = Str.ofString "ahead" then y2 else if y = Str.ofString "before" then y3 else if y = Str.ofString "over" then y4 else if y = Str.ofString "word" then y5 else m₀ y) y) =
    fun y => if y = Str.ofString "text" then x3 else if y = Str.ofString "ahead" then x2 else if y = Str.ofString "before" then x1 else if y = Str.ofString "over" then x5 else if y = Str.ofString "word" then x4 else m₀ y := by
  funext y
  by_cases h1 : y = Str.ofString "text"
  · subst h1; simp only [ne_text_before, ne_text_ahead, if_true, if_false]
  · by_cases h2 : y = Str.ofString "ahead"
    · subst h2; simp only [ne_ahead_before, ne_ahead_text, if_true, if_false]
    · by_cases h3 : y = Str.ofString "before"
      · subst h3; simp only [ne_before_ahead, ne_before_text, if_true, if_false]
      · by_cases h4 : y = Str.ofString "over"
        · subst h4; simp only [ne_over_ahead, ne_over_text, ne_over_before, ne_over_word, if_true, if_false]
        · by_cases h5 : y = Str.ofString "word"
          · subst h5; simp only [ne_word_ahead, ne_word_text, ne_word_before, ne_word_over, if_true, if_false]
          · simp only [h1, h2, h3, h4, h5, if_false]
theorem map_told0 {m₀ : Str → Option Value} {x5 y1 y2 y3 y4 y5 : Option Value} :
    (fun y => if y = Str.ofString "over" then x5 else
      (fun y => if y = Str.ofString "text" then y1 else if y = Str.ofString "ahead" then y2 else if y = Str.ofString "before" then y3 else if y = Str.ofString "over" then y4 else if y = Str.ofString "word" then y5 else m₀ y) y) =
    fun y => if y = Str.ofString "text" then y1 else if y = Str.ofString "ahead" then y2 else if y = Str.ofString "before" then y3 else if y = Str.ofString "over" then x5 else if y = Str.ofString "word" then y5 else m₀ y := by
  funext y
  by_cases h4 : y = Str.ofString "over"
  · subst h4; simp only [ne_over_ahead, ne_over_text, ne_over_before, if_true, if_false]
  · simp only [h4, if_false]
end Mine
end

section
open PySem PySem.W PyProof.Rows
set_option Elab.async false
set_option maxRecDepth 100000
set_option maxHeartbeats 0
set_option pp.deepTerms false
set_option pp.deepTerms.threshold 8
namespace Mine

local macro_rules | `(tactic| k_mem) => `(tactic| assumption)
local macro_rules | `(tactic| walk_at "subscriptTail") => `(tactic| (k_here; (with_reducible show wpAny _ _ (subscriptTail _ _ (Value.ref _) (Value.int _ _)) _ _ _); k_dflt (refine' item_tupleT ?t ?a ?b ?c ?d ?_; (case t => exact News.isTup (by k_asm) (by k_mem)); (case a => decide); (case b => decide); (case c => rfl); (case d => rfl); k_whole)))
local macro_rules | `(tactic| walk_at "subscriptTail") => `(tactic| (k_here; (with_reducible show wpAny _ _ (subscriptTail _ _ (Value.ref _) (Value.int _ _)) _ _ _); k_dflt (refine' list_item ?k1 ?k2 ?k3 ?k4 ?k5 ?_ ?k7; (case k1 => k_asm); (case k2 => k_mem); (case k3 => omega); (case k4 => omega); (case k5 => assumption); (case k7 => with_unfolding_all rfl); k_whole)))
local macro_rules | `(tactic| walk_at "execs cons") => `(tactic| ((with_reducible refine wpAny_execs_cons ?_); try dsimp only))
local macro_rules | `(tactic| walk_at "execs nil") => `(tactic| ((with_reducible refine wpAny_execs_nil ?_); try dsimp only))


theorem told_c {w : World} {mean : ExcName → Option Value} {mg mb : Str → Option Value}
    (dp un : Nat) (gd : Option (List Code)) (cn : Str) (cs : Scope) (a : Addr) (ccd : Value) (cl : List (Str × Addr)) (outer : List Env) (A₀ : Around) (base h₀ : Heap) (L : Addr) (m : Str → Option Value) (news : List (Addr × Obj)) (s : Shared) (Q E : Value → Shared → Prop)
    (B : Below A₀ base outer h₀) (F : Fr h₀ L s.heap m) (X : (hd.heap_39 w.params).In h₀) (N : News h₀ L s.heap news)
    (T : Top hd.view_39 (looseW hd.view_39 [Str.ofString "_twin_re_1", Str.ofString "_twin_re_2"]) mean mg mb h₀)
    (hk : cs.kind = .function) (wa sa : Addr) (wvs us : List Value) (k1 k2 : Nat) (wl : List (Option (List Nat))) (sp : List Span) (f l : Int) (tf tl : Tok)
    (hwa : (wa, listOf wvs.toArray k1) ∈ news) (hwl : OptAll wvs wl) (hok : okWords wl) (hsa : (sa, listOf us.toArray k2) ∈ news) (hsp : DatAll news us (sp.map spanD)) (hlen : sp.length ≤ 100)
    (hf : 0 ≤ f) (hfl : f ≤ l) (hl : l < wl.length) (hwlen : wl.length ≤ 100) (hmem : (f, l) ∈ sp) (hd : dp + 3 < recursionLimit) (hu : un + 24 < cLine)
    (hret : ∀ tk h' tk', Fr h₀ L h' m → News h₀ L h' news → Q (.str (strL (toldF (wsF wl) sp f l)) tk) { s with heap := h', toks := tk' }) :
    wpAny (model PySem.Challenge.rw_pe0026_01.row.prog w) (ktrTop dp un gd cn cs L a ccd cl outer) (call (.ref 72) [.ref wa, .ref sa, .int f tf, .int l tl]) Q E s := by
  revert X T
  k_fill
  intro X T
  refine wpAny_call ?_
  k_dflt (refine' enter_cells ?k1 ?k2 ?k3 ?k4 ?k5 ?kA ?kF ?kK ?k6 ?k7 ?k8 ?k9 ?kB ?kD ?_ ?c2 ?c3 ?c4; (case kA => exact rfl); (case kF => exact rfl); (case kK => assumption); (case k1 => k_asm); (case k2 => k_asm); (case k3 => k_asm); (case k4 => k_asm); (case k5 => k_asm); (case k6 => k_is); (case k7 => k_is); (case k8 => ktr_room); (case k9 => exact BindsTo.of_eq rfl); (case kB => exact rfl); (case kD => decide +kernel); (case c2 => exact rfl); (case c3 => exact rfl); (case c4 => exact rfl); k_whole; intro g' L' h' tk' cells' htk' FG' F' N' Y' B' X' T' l1; k_cells Y'; (try simp only [List.cons_append, List.nil_append] at N'); (try dsimp only); (try k_fold))
  repeat' ((fail_if_success (with_reducible show wpAny _ _ (exec (Stmt.For _ _ _ _ _) _) _ _ _)); (first | (k_unfold; (try dsimp only)) | (k_end; wrow_close) | walk1 | (dsimp only; walk1) | (leave1; walk_say "STEP leave1"; try dsimp only) | fail "no step"))
  refine for_cell ?_
  repeat' ((fail_if_success (with_reducible show CellLoopAt _ _ _ _ _ _ _ _ _ _ _)); (first | (k_unfold; (try dsimp only)) | (k_end; wrow_close) | walk1 | (dsimp only; walk1) | (leave1; walk_say "STEP leave1"; try dsimp only) | fail "no step"))
  rename IsRange _ _ _ _ _ _ _ _ => R'
  rename Fr _ _ _ _ => F1
  rename News _ _ _ _ => N1
  have hus : us.length = sp.length := by have := hsp.length; rwa [List.length_map] at this
  have hwv : wvs.length = wl.length := hwl.length
  refine cell_range F1 N1 (by assumption) ?_ R' (small_one (by omega) (by omega) (by omega) (by omega)) (n := (l + 1 - f).toNat) (rangeSize_nat _ _) (by rfl) (by rfl) (by rfl) (by rfl)
    (fun m₀ n₀ i m' nx => nx = n₀ ∧ ∃ t av tb u1 u2, aheadV (finG (presF (wsF wl) (overF sp f l)) (wdOf (wsF wl)) (rangeKs f i) none) av ∧ m' = fun y => if y = Str.ofString "text" then some (.str (strL (toldG (presF (wsF wl) (overF sp f l)) (wdOf (wsF wl)) (overF sp f l) (rangeKs f i) none)) t) else if y = Str.ofString "ahead" then some av else
      if y = Str.ofString "before" then some (.str (strL (befL (finG (presF (wsF wl) (overF sp f l)) (wdOf (wsF wl)) (rangeKs f i) none))) tb) else if y = Str.ofString "over" then u1 else if y = Str.ofString "word" then u2 else m₀ y) ?_ ?_ ?_
  · intro q hq
    rcases List.mem_cons.mp hq with rfl | hq
    · exact Nat.ne_of_lt (Nat.lt_succ_self _)
    · rcases List.mem_cons.mp hq with rfl | hq
      · exact Nat.ne_of_lt (Nat.lt_succ_of_lt (Nat.lt_succ_self _))
      · have := l1 q hq
        exact Nat.ne_of_lt (Nat.lt_succ_of_lt (Nat.lt_succ_of_lt (Nat.lt_succ_of_lt this)))
  · refine ⟨rfl, ?_⟩
    exact ⟨_, _, _, _, _, rfl, ovr5 (show some (Value.str (Str.ofString "") _) = some (Value.str (strL []) _) by rw [empty_is]) rfl (show some (Value.str (Str.ofString "") _) = some (Value.str (strL []) _) by rw [empty_is])⟩
  · rintro i t m₁ h tk nx I oI co₁ hi htk2 ⟨rfl, tt, av, tb, u1, u2, hav, rfl⟩ hco F3 N3 hne hcI qq hqq
    repeat' ((fail_if_success (with_reducible show wpAny _ _ (exec (Stmt.Assign _ (Expr.ListComp _ _ _ _) _) _) _ _ _)); (first | (k_unfold; (try dsimp only)) | (k_end; wrow_close) | walk1 | (dsimp only; walk1) | (leave1; walk_say "STEP leave1"; try dsimp only) | fail "no step"))
    k_dflt (refine LCt.Assign_ListComp_T (F₀ := by k_asm) (by rfl) (by with_unfolding_all rfl) (by with_unfolding_all rfl) (by decide) (by rfl) (by decide) (by rfl) (by rfl) (by rfl) ?_)
    repeat' ((fail_if_success (with_reducible show LCt.CompSrcT _ _ _ _ _ _ _ _ _ _ _ _ _ _ _)); (first | (k_unfold; (try dsimp only)) | (k_end; wrow_close) | walk1 | (dsimp only; walk1) | (leave1; walk_say "STEP leave1"; try dsimp only) | fail "no step"))
    rename Fr _ _ _ _ => F4
    rename News _ _ _ _ => N4
    refine LCt.CompSrcT.ledger (by rfl) F4 N4 (by k_mem) (by rw [List.size_toArray, sizeLine_eq]; omega) ?_
    intro g2
    refine filter_rest (fun s => decide (f ≤ s.1) && (decide (s.1 ≤ f + (i : Int)) && (decide (f + (i : Int) ≤ s.2) && decide (s.2 ≤ l)))) (hsp.mono (fun q hq => by repeat' first | assumption | apply List.mem_cons_of_mem)) (.inr ⟨_, by k_mem, rfl, _, rfl⟩) (by intro C; rfl) (by intro C; rfl) (by decide) ?_ ?_
    · intro sx ad t1 t2 kk I2 oI2 C oC D2 m₂ ys h5 tk5 E' hsx hm hC hx F5 N5 off ne qq5 hqq5
      k_steps
      all_goals first
        | (rw [show (decide (f ≤ sx.1) && (decide (sx.1 ≤ f + (i : Int)) && (decide (f + (i : Int) ≤ sx.2) && decide (sx.2 ≤ l)))) = true by first | (simp [*]; done) | (simp [*]; omega)] at hqq5; exact hqq5 _ _ (by k_asm) (by k_asm))
        | (rw [show (decide (f ≤ sx.1) && (decide (sx.1 ≤ f + (i : Int)) && (decide (f + (i : Int) ≤ sx.2) && decide (sx.2 ≤ l)))) = false by first | (simp [*]; done) | (simp [*]; omega)] at hqq5; exact hqq5 _ _ (by k_asm) (by k_asm))
    · intro ys hys hyl
      have hp1 : f ≤ f + (i : Int) := by omega
      have hp2 : f + (i : Int) ≤ l := by omega
      obtain ⟨s0, r0, hov0⟩ := over_ne hmem hp1 hp2
      have hys1 : DatAll _ ys ((overF sp f l (f + (i : Int))).map spanD) := hys
      have hyl1 : ys.length = (overF sp f l (f + (i : Int))).length := by have := hys1.length; rwa [List.length_map] at this
      have hyl2 : (overF sp f l (f + (i : Int))).length ≤ 100 := Nat.le_trans (List.length_filter_le _ _) hlen
      have hy0 : 0 < ys.length := by rw [hyl1, hov0]; exact Nat.succ_pos _
      obtain ⟨v0, hv0⟩ : ∃ v0, ys[0]? = some v0 := ⟨_, List.getElem?_eq_getElem hy0⟩
      obtain ⟨s1, ad0, ta0, tb0, n0, hs1, rfl, hm0⟩ := span_at hys1 hv0
      have hs01 : s1 = s0 := by rw [hov0] at hs1; injection hs1 with h; exact h.symm
      subst hs01
      have hv0' : ys[(0 : Int).toNat]? = some (Value.ref ad0) := hv0
      have hwi : (f + (i : Int)).toNat < wl.length := by omega
      obtain ⟨wv, hwv1, hwv2⟩ := OptAll.get hwl (List.getElem?_eq_getElem hwi)
      have hwsF : wsF wl (f + (i : Int)) = wl[(f + (i : Int)).toNat] := by unfold wsF; rw [List.getElem?_eq_getElem hwi]; rfl
      have hbw := bef_ok hok (pr := presF (wsF wl) (overF sp f l)) (rangeKs f i) none (by decide)
      have hwdp := wd_ok hok (f + (i : Int))
      obtain ⟨hts1, hts2⟩ := told_step (presF (wsF wl) (overF sp f l)) (wdOf (wsF wl)) (overF sp f l) (rangeKs f i) (f + (i : Int))
      rw [← rangeKs_succ] at hts1 hts2
      have hTl := told_len (pr := presF (wsF wl) (overF sp f l)) (wd_ok hok) (ov := overF sp f l) (fun p => Nat.le_trans (List.length_filter_le _ _) hlen) (rangeKs f i) none
      rw [rangeKs_len] at hTl
      have hTL : Str.length (strL (toldG (presF (wsF wl) (overF sp f l)) (wdOf (wsF wl)) (overF sp f l) (rangeKs f i) none)) ≤ 100000 := by rw [strL_len]; omega
      have hzl := Nat.le_trans (zed_le (overF sp f l (f + (i : Int))) (f + (i : Int))) hyl2
      generalize wl[(f + (i : Int)).toNat] = ow at hwv2 hwsF
      have hpr0 : presF (wsF wl) (overF sp f l) (f + (i : Int)) = (ow.isSome || (some s1.1 == some (f + (i : Int)))) := by unfold presF; rw [hwsF, hov0]; rfl
      have hwd0 : wdOf (wsF wl) (f + (i : Int)) = ow.getD [67] := by unfold wdOf; rw [hwsF]
      rw [hwd0] at hts1 hts2 hwdp
      have hRl := rowsT_len hwdp hzl hyl2
      have hRL : Str.length (strL (rowsT (zed (overF sp f l (f + (i : Int))) (f + (i : Int))) (overF sp f l (f + (i : Int))).length (rows (ow.getD [67])))) ≤ 100000 := by rw [strL_len]; omega
      generalize hst : finG (presF (wsF wl) (overF sp f l)) (wdOf (wsF wl)) (rangeKs f i) none = stt at *
      cases stt with
      | none =>
        have hav' : av = .none := hav
        subst hav'
        cases ow with
        | none =>
          have hwv2' : wv = .none := hwv2
          subst hwv2'
          dsimp only [Option.getD] at hts1 hts2 hRL hwdp
          k_steps
          · (try dsimp only)
            have hp0 : presF (wsF wl) (overF sp f l) (f + (i : Int)) = false := by rw [hpr0]; simp [*]
            rw [hp0, if_neg Bool.false_ne_true] at hts1 hts2
            rw [List.append_nil] at hts1
            refine hqq _ _ _ _ _ _ (.inr rfl) (by k_asm) (by k_asm) (by repeat' first | exact List.mem_cons_self | apply List.mem_cons_of_mem) (by repeat' first | exact List.mem_cons_self | apply List.mem_cons_of_mem) (fun q hq => by repeat' first | exact hq | apply List.mem_cons_of_mem) hne ⟨rfl, ?a1_1, ?a2_1, ?a3_1, ?a4_1, ?a5_1, ?pa_1, ?pb_1⟩
            case pb_1 => rw [hts1, hts2]; exact map_told0
            case pa_1 => rw [hts2]; exact rfl
          · (try rw [C_is]); k_dflt (refine' rows_c _ _ _ _ _ _ _ _ _ _ _ _ _ _ _ _ _ _ ?pB_1 ?pF_1 ?pX_1 ?pN_1 ?pT_1 ?pk_1 _ _ _ _ _ _ _ _ ?pw_1 ?po_1 ?pv_1 ?pl_1 ?pt_1 ?pd_1 ?pu_1 ?pr_1; (case pB_1 => k_asm); (case pF_1 => k_asm); (case pX_1 => k_asm); (case pN_1 => k_asm); (case pT_1 => k_asm); (case pk_1 => rfl); (case po_1 => k_mem); (case pw_1 => first | assumption | decide); (case pv_1 => (refine datAll_up (by assumption) ?ps_1; (case ps_1 => (intro q hq; repeat' first | assumption | apply List.mem_cons_of_mem)))); (case pl_1 => assumption); (case pt_1 => first | omega | (dsimp only; omega)); (case pd_1 => ktr_room); (case pu_1 => ktr_units)); intro tk1 h101 tl1 F101 N101; (try dsimp only)
            k_steps
            (try dsimp only)
            have hp0 : presF (wsF wl) (overF sp f l) (f + (i : Int)) = true := by rw [hpr0]; simp [*]
            rw [hp0, if_pos rfl] at hts1 hts2
            have e1 : strL (toldG (presF (wsF wl) (overF sp f l)) (wdOf (wsF wl)) (overF sp f l) (rangeKs f (i + 1)) none) = strL (toldG (presF (wsF wl) (overF sp f l)) (wdOf (wsF wl)) (overF sp f l) (rangeKs f i) none) ++ strL (rowsT (zed (overF sp f l (f + (i : Int))) (f + (i : Int))) (overF sp f l (f + (i : Int))).length (rows [67])) := by rw [hts1, strL_append]; rfl
            have e2 : strL (befL (finG (presF (wsF wl) (overF sp f l)) (wdOf (wsF wl)) (rangeKs f (i + 1)) none)) = Str.ofString "C" := by rw [hts2, C_is]; rfl
            refine hqq _ _ _ _ _ _ (.inl rfl) (by k_asm) (by k_asm) (by repeat' first | exact List.mem_cons_self | apply List.mem_cons_of_mem) (by repeat' first | exact List.mem_cons_self | apply List.mem_cons_of_mem) (fun q hq => by repeat' first | exact hq | apply List.mem_cons_of_mem) hne ⟨rfl, ?a1_2, ?a2_2, ?a3_2, ?a4_2, ?a5_2, ?pa_2, ?pb_2⟩
            case pb_2 => rw [e1, e2]; exact map_told1
            case pa_2 => rw [hts2]; exact ⟨_, rfl⟩
        | some ww =>
          obtain ⟨tw, rfl⟩ := hwv2
          dsimp only [Option.getD] at hts1 hts2 hRL hwdp
          k_steps
          · (try rw [C_is]); k_dflt (refine' rows_c _ _ _ _ _ _ _ _ _ _ _ _ _ _ _ _ _ _ ?pB_2 ?pF_2 ?pX_2 ?pN_2 ?pT_2 ?pk_2 _ _ _ _ _ _ _ _ ?pw_2 ?po_2 ?pv_2 ?pl_2 ?pt_2 ?pd_2 ?pu_2 ?pr_2; (case pB_2 => k_asm); (case pF_2 => k_asm); (case pX_2 => k_asm); (case pN_2 => k_asm); (case pT_2 => k_asm); (case pk_2 => rfl); (case po_2 => k_mem); (case pw_2 => first | assumption | decide); (case pv_2 => (refine datAll_up (by assumption) ?ps_2; (case ps_2 => (intro q hq; repeat' first | assumption | apply List.mem_cons_of_mem)))); (case pl_2 => assumption); (case pt_2 => first | omega | (dsimp only; omega)); (case pd_2 => ktr_room); (case pu_2 => ktr_units)); intro tk2 h102 tl2 F102 N102; (try dsimp only)
            k_steps
            (try dsimp only)
            have hp0 : presF (wsF wl) (overF sp f l) (f + (i : Int)) = true := by rw [hpr0]; simp [*]
            rw [hp0, if_pos rfl] at hts1 hts2
            have e1 : strL (toldG (presF (wsF wl) (overF sp f l)) (wdOf (wsF wl)) (overF sp f l) (rangeKs f (i + 1)) none) = strL (toldG (presF (wsF wl) (overF sp f l)) (wdOf (wsF wl)) (overF sp f l) (rangeKs f i) none) ++ strL (rowsT (zed (overF sp f l (f + (i : Int))) (f + (i : Int))) (overF sp f l (f + (i : Int))).length (rows ww)) := by rw [hts1, strL_append]; rfl
            have e2 : strL (befL (finG (presF (wsF wl) (overF sp f l)) (wdOf (wsF wl)) (rangeKs f (i + 1)) none)) = strL ww := by rw [hts2]; rfl
            refine hqq _ _ _ _ _ _ (.inl rfl) (by k_asm) (by k_asm) (by repeat' first | exact List.mem_cons_self | apply List.mem_cons_of_mem) (by repeat' first | exact List.mem_cons_self | apply List.mem_cons_of_mem) (fun q hq => by repeat' first | exact hq | apply List.mem_cons_of_mem) hne ⟨rfl, ?a1_3, ?a2_3, ?a3_3, ?a4_3, ?a5_3, ?pa_3, ?pb_3⟩
            case pb_3 => rw [e1, e2]; exact map_told1
            case pa_3 => rw [hts2]; exact ⟨_, rfl⟩
      | some ab =>
        obtain ⟨aa, bb⟩ := ab
        obtain ⟨ta, rfl⟩ := hav
        have hPL : Str.length (strL (List.replicate (1 + cnt (overF sp f l (f + (i : Int))) (f + (i : Int)) aa (befL (some (aa, bb)))) 46)) ≤ 100000 := by
          have := point_len (some (aa, bb)) hyl2 (f + (i : Int))
          rw [strL_len]
          exact Nat.le_trans this (by decide)
        cases ow with
        | none =>
          have hwv2' : wv = .none := hwv2
          subst hwv2'
          dsimp only [Option.getD] at hts1 hts2 hRL hwdp
          k_steps
          · (try dsimp only)
            have hp0 : presF (wsF wl) (overF sp f l) (f + (i : Int)) = false := by rw [hpr0]; simp [*]
            rw [hp0, if_neg Bool.false_ne_true] at hts1 hts2
            rw [List.append_nil] at hts1
            refine hqq _ _ _ _ _ _ (.inr rfl) (by k_asm) (by k_asm) (by repeat' first | exact List.mem_cons_self | apply List.mem_cons_of_mem) (by repeat' first | exact List.mem_cons_self | apply List.mem_cons_of_mem) (fun q hq => by repeat' first | exact hq | apply List.mem_cons_of_mem) hne ⟨rfl, ?a1_4, ?a2_4, ?a3_4, ?a4_4, ?a5_4, ?pa_4, ?pb_4⟩
            case pb_4 => rw [hts1, hts2]; exact map_told0
            case pa_4 => rw [hts2]; exact ⟨_, rfl⟩
          · k_dflt (refine' point_c _ _ _ _ _ _ _ _ _ _ _ _ _ _ _ _ _ _ ?pB_3 ?pF_3 ?pX_3 ?pN_3 ?pT_3 ?pk_3 _ _ _ _ _ _ _ _ _ _ ?pw_3 ?po_3 ?pv_3 ?pl_3 ?pd_3 ?pu_3 ?pr_3; (case pB_3 => k_asm); (case pF_3 => k_asm); (case pX_3 => k_asm); (case pN_3 => k_asm); (case pT_3 => k_asm); (case pk_3 => rfl); (case po_3 => k_mem); (case pw_3 => first | assumption | decide); (case pv_3 => (refine datAll_up (by assumption) ?ps_3; (case ps_3 => (intro q hq; repeat' first | assumption | apply List.mem_cons_of_mem)))); (case pl_3 => assumption); (case pd_3 => ktr_room); (case pu_3 => ktr_units)); intro tk3 h103 tl3 F103 N103; (try dsimp only)
            k_steps
            (try rw [C_is]); k_dflt (refine' rows_c _ _ _ _ _ _ _ _ _ _ _ _ _ _ _ _ _ _ ?pB_4 ?pF_4 ?pX_4 ?pN_4 ?pT_4 ?pk_4 _ _ _ _ _ _ _ _ ?pw_4 ?po_4 ?pv_4 ?pl_4 ?pt_4 ?pd_4 ?pu_4 ?pr_4; (case pB_4 => k_asm); (case pF_4 => k_asm); (case pX_4 => k_asm); (case pN_4 => k_asm); (case pT_4 => k_asm); (case pk_4 => rfl); (case po_4 => k_mem); (case pw_4 => first | assumption | decide); (case pv_4 => (refine datAll_up (by assumption) ?ps_4; (case ps_4 => (intro q hq; repeat' first | assumption | apply List.mem_cons_of_mem)))); (case pl_4 => assumption); (case pt_4 => first | omega | (dsimp only; omega)); (case pd_4 => ktr_room); (case pu_4 => ktr_units)); intro tk4 h104 tl4 F104 N104; (try dsimp only)
            k_steps
            (try dsimp only)
            have hp0 : presF (wsF wl) (overF sp f l) (f + (i : Int)) = true := by rw [hpr0]; simp [*]
            rw [hp0, if_pos rfl] at hts1 hts2
            have e1 : strL (toldG (presF (wsF wl) (overF sp f l)) (wdOf (wsF wl)) (overF sp f l) (rangeKs f (i + 1)) none) = strL (toldG (presF (wsF wl) (overF sp f l)) (wdOf (wsF wl)) (overF sp f l) (rangeKs f i) none) ++ strL (List.replicate (1 + cnt (overF sp f l (f + (i : Int))) (f + (i : Int)) aa (befL (some (aa, bb)))) 46) ++ strL (rowsT (zed (overF sp f l (f + (i : Int))) (f + (i : Int))) (overF sp f l (f + (i : Int))).length (rows [67])) := by rw [hts1, strL_append, strL_append, List.append_assoc]; rfl
            have e2 : strL (befL (finG (presF (wsF wl) (overF sp f l)) (wdOf (wsF wl)) (rangeKs f (i + 1)) none)) = Str.ofString "C" := by rw [hts2, C_is]; rfl
            refine hqq _ _ _ _ _ _ (.inl rfl) (by k_asm) (by k_asm) (by repeat' first | exact List.mem_cons_self | apply List.mem_cons_of_mem) (by repeat' first | exact List.mem_cons_self | apply List.mem_cons_of_mem) (fun q hq => by repeat' first | exact hq | apply List.mem_cons_of_mem) hne ⟨rfl, ?a1_5, ?a2_5, ?a3_5, ?a4_5, ?a5_5, ?pa_5, ?pb_5⟩
            case pb_5 => rw [e1, e2]; exact map_told2
            case pa_5 => rw [hts2]; exact ⟨_, rfl⟩
        | some ww =>
          obtain ⟨tw, rfl⟩ := hwv2
          dsimp only [Option.getD] at hts1 hts2 hRL hwdp
          k_steps
          · k_dflt (refine' point_c _ _ _ _ _ _ _ _ _ _ _ _ _ _ _ _ _ _ ?pB_5 ?pF_5 ?pX_5 ?pN_5 ?pT_5 ?pk_5 _ _ _ _ _ _ _ _ _ _ ?pw_5 ?po_5 ?pv_5 ?pl_5 ?pd_5 ?pu_5 ?pr_5; (case pB_5 => k_asm); (case pF_5 => k_asm); (case pX_5 => k_asm); (case pN_5 => k_asm); (case pT_5 => k_asm); (case pk_5 => rfl); (case po_5 => k_mem); (case pw_5 => first | assumption | decide); (case pv_5 => (refine datAll_up (by assumption) ?ps_5; (case ps_5 => (intro q hq; repeat' first | assumption | apply List.mem_cons_of_mem)))); (case pl_5 => assumption); (case pd_5 => ktr_room); (case pu_5 => ktr_units)); intro tk5 h105 tl5 F105 N105; (try dsimp only)
            k_steps
            (try rw [C_is]); k_dflt (refine' rows_c _ _ _ _ _ _ _ _ _ _ _ _ _ _ _ _ _ _ ?pB_6 ?pF_6 ?pX_6 ?pN_6 ?pT_6 ?pk_6 _ _ _ _ _ _ _ _ ?pw_6 ?po_6 ?pv_6 ?pl_6 ?pt_6 ?pd_6 ?pu_6 ?pr_6; (case pB_6 => k_asm); (case pF_6 => k_asm); (case pX_6 => k_asm); (case pN_6 => k_asm); (case pT_6 => k_asm); (case pk_6 => rfl); (case po_6 => k_mem); (case pw_6 => first | assumption | decide); (case pv_6 => (refine datAll_up (by assumption) ?ps_6; (case ps_6 => (intro q hq; repeat' first | assumption | apply List.mem_cons_of_mem)))); (case pl_6 => assumption); (case pt_6 => first | omega | (dsimp only; omega)); (case pd_6 => ktr_room); (case pu_6 => ktr_units)); intro tk6 h106 tl6 F106 N106; (try dsimp only)
            k_steps
            (try dsimp only)
            have hp0 : presF (wsF wl) (overF sp f l) (f + (i : Int)) = true := by rw [hpr0]; simp [*]
            rw [hp0, if_pos rfl] at hts1 hts2
            have e1 : strL (toldG (presF (wsF wl) (overF sp f l)) (wdOf (wsF wl)) (overF sp f l) (rangeKs f (i + 1)) none) = strL (toldG (presF (wsF wl) (overF sp f l)) (wdOf (wsF wl)) (overF sp f l) (rangeKs f i) none) ++ strL (List.replicate (1 + cnt (overF sp f l (f + (i : Int))) (f + (i : Int)) aa (befL (some (aa, bb)))) 46) ++ strL (rowsT (zed (overF sp f l (f + (i : Int))) (f + (i : Int))) (overF sp f l (f + (i : Int))).length (rows ww)) := by rw [hts1, strL_append, strL_append, List.append_assoc]; rfl
            have e2 : strL (befL (finG (presF (wsF wl) (overF sp f l)) (wdOf (wsF wl)) (rangeKs f (i + 1)) none)) = strL ww := by rw [hts2]; rfl
            refine hqq _ _ _ _ _ _ (.inl rfl) (by k_asm) (by k_asm) (by repeat' first | exact List.mem_cons_self | apply List.mem_cons_of_mem) (by repeat' first | exact List.mem_cons_self | apply List.mem_cons_of_mem) (fun q hq => by repeat' first | exact hq | apply List.mem_cons_of_mem) hne ⟨rfl, ?a1_6, ?a2_6, ?a3_6, ?a4_6, ?a5_6, ?pa_6, ?pb_6⟩
            case pb_6 => rw [e1, e2]; exact map_told2
            case pa_6 => rw [hts2]; exact ⟨_, rfl⟩
  · rintro m₁ h tk nx co₁ htk2 ⟨cv, hco⟩ ⟨rfl, tt, av, tb, u1, u2, hav, rfl⟩ F3 N3 hne
    have N4 : News g' _ h news := fun q hq => N3 q (.tail _ (.tail _ (.tail _ hq)))
    k_steps
    exact hret _ _ _ (by k_asm) (by k_asm)
end Mine
end

section
open PySem PySem.W PyProof.Rows
set_option Elab.async false
set_option maxRecDepth 100000
set_option maxHeartbeats 0
set_option pp.deepTerms false
set_option pp.deepTerms.threshold 8
namespace Mine

local macro_rules | `(tactic| k_mem) => `(tactic| assumption)
theorem build_c {w : World} {mean : ExcName → Option Value} {mg mb : Str → Option Value}
    (dp un : Nat) (gd : Option (List Code)) (cn : Str) (cs : Scope) (a : Addr) (ccd : Value) (cl : List (Str × Addr)) (outer : List Env) (A₀ : Around) (base h₀ : Heap) (L : Addr) (m : Str → Option Value) (news : List (Addr × Obj)) (s : Shared) (Q E : Value → Shared → Prop)
    (B : Below A₀ base outer h₀) (F : Fr h₀ L s.heap m) (X : (hd.heap_39 w.params).In h₀) (N : News h₀ L s.heap news)
    (T : Top hd.view_39 (looseW hd.view_39 [Str.ofString "_twin_re_1", Str.ofString "_twin_re_2"]) mean mg mb h₀)
    (hk : cs.kind = .function) (t : Addr) (v1 v2 : Value) (n : Nat) (x y : Option (List Nat)) (h1 : OptV v1 x) (h2 : OptV v2 y)
    (ht : (t, ({ cls := .type "tuple", data := .seq [v1, v2].toArray n } : Obj)) ∈ news)
    (hx : (x.getD []).length ≤ 100000) (hy : (y.getD []).length ≤ 100000)
    (hd : dp + 1 < recursionLimit) (hu : un + 8 < cLine)
    (hret : ∀ tk h' tk', Fr h₀ L h' m → News h₀ L h' news → Q (.str (strL (buildL x y)) tk) { s with heap := h', toks := tk' }) :
    wpAny (model PySem.Challenge.rw_pe0026_01.row.prog w) (ktrTop dp un gd cn cs L a ccd cl outer) (call (.ref 38) [.ref t]) Q E s := by
  revert X T
  k_fill
  intro X T
  cases x with
  | none =>
    have h1' : v1 = .none := h1
    subst h1'
    cases y with
    | none =>
      have h2' : v2 = .none := h2
      subst h2'
      refine wpAny_call ?_
      k_dflt ktr_enter
      k_steps
      rw [C_is]
      exact hret _ _ _ (by k_asm) (by k_asm)
    | some yy =>
      obtain ⟨t2, rfl⟩ := h2
      have hy' : Str.length (strL yy) ≤ 100000 := by rw [strL_len]; exact hy
      refine wpAny_call ?_
      k_dflt ktr_enter
      k_steps
      rw [show Str.ofString "C" ++ Str.ofString "." ++ strL yy = strL (buildL none (some yy)) by rw [C_is, dot_is, strL_append, strL_append]; rfl]
      exact hret _ _ _ (by k_asm) (by k_asm)
  | some xx =>
    obtain ⟨t1, rfl⟩ := h1
    have hx' : Str.length (strL xx) ≤ 100000 := by rw [strL_len]; exact hx
    cases y with
    | none =>
      have h2' : v2 = .none := h2
      subst h2'
      refine wpAny_call ?_
      k_dflt ktr_enter
      k_steps
      exact hret _ _ _ (by k_asm) (by k_asm)
    | some yy =>
      obtain ⟨t2, rfl⟩ := h2
      have hy' : Str.length (strL yy) ≤ 100000 := by rw [strL_len]; exact hy
      refine wpAny_call ?_
      k_dflt ktr_enter
      k_steps
      rw [show strL xx ++ Str.ofString "." ++ strL yy = strL (buildL (some xx) (some yy)) by rw [dot_is, strL_append, strL_append, List.append_assoc]; rfl]
      exact hret _ _ _ (by k_asm) (by k_asm)
end Mine
end

section
open PySem PySem.W PyProof.Rows
set_option maxRecDepth 100000
namespace Mine
/-- the posts are hidden -/
theorem hide2 {α : Type} {M : Model} {A : Around} {t : Sem α} {Q : α → Shared → Prop} {G₀ : Value → Shared → Prop} {env : Env} {s : Shared}
    (h : ∀ (Q' : α → Shared → Prop) (G : Value → Shared → Prop), (∀ f s', Q f s' → Q' f s') → wpAny M A t Q' (fun e s' => wpAny M A (leaving env e) (fun _ s'' => G e s'') (fun e' s'' => G e' s'') s') s) :
    wpAny M A t Q (fun e s' => wpAny M A (leaving env e) (fun _ s'' => G₀ e s'') (fun e' s'' => G₀ e' s'') s') s := h Q G₀ fun _ _ h => h
end Mine
end

section
open PySem PySem.W PyProof.Rows
set_option maxRecDepth 100000
namespace Mine
def words8 : List (Option (List Nat)) := [some [], some [46], some [10], some [97], some [98, 13], some [46, 13, 10, 46], none, some [13, 46, 99]]
def word8 (n : Int) : Option (List Nat) := (words8[(n % 8).toNat]?).getD none
theorem word8_ok (n : Int) : word8 n ∈ words8 := by
  unfold word8
  have h : (n % 8).toNat < words8.length := by show _ < 8; omega
  rw [List.getElem?_eq_getElem h]
  exact List.getElem_mem h
theorem okWords_map (ns : List Int) : okWords (ns.map word8) := by
  intro x hx y hy
  obtain ⟨n, _, rfl⟩ := List.mem_map.mp hx
  have : ∀ z ∈ words8, ∀ y, z = some y → y ∈ wordsAll := by
    intro z hz
    simp only [words8, List.mem_cons, List.not_mem_nil, or_false] at hz
    rcases hz with rfl | rfl | rfl | rfl | rfl | rfl | rfl | rfl <;> intro y hy <;> (first | (injection hy with hy; subst hy; decide) | cases hy)
  exact this _ (word8_ok n) y hy
theorem pick8 {v0 v1 v2 v3 v4 v5 v6 v7 : Value} (n : Int) (e0 : OptV v0 (some [])) (e1 : OptV v1 (some [46])) (e2 : OptV v2 (some [10])) (e3 : OptV v3 (some [97])) (e4 : OptV v4 (some [98, 13])) (e5 : OptV v5 (some [46, 13, 10, 46])) (e6 : OptV v6 none) (e7 : OptV v7 (some [13, 46, 99])) :
    ∃ v, [v0, v1, v2, v3, v4, v5, v6, v7][(n % 8).toNat]? = some v ∧ OptV v (word8 n) := by
  have h : OptAll [v0, v1, v2, v3, v4, v5, v6, v7] words8 := ⟨e0, e1, e2, e3, e4, e5, e6, e7, trivial⟩
  have h2 : (n % 8).toNat < words8.length := by show _ < 8; omega
  obtain ⟨v, h3, h4⟩ := h.get (List.getElem?_eq_getElem h2)
  refine ⟨v, h3, ?_⟩
  unfold word8
  rw [List.getElem?_eq_getElem h2]
  exact h4
theorem OptAll.append : ∀ {vs ws : List Value} {xs ys : List (Option (List Nat))}, OptAll vs xs → OptAll ws ys → OptAll (vs ++ ws) (xs ++ ys)
  | [], _, [], _, _, h => h
  | _ :: _, _, _ :: _, _, h, k => ⟨h.1, OptAll.append h.2 k⟩
  | [], _, _ :: _, _, h, _ => h.elim
  | _ :: _, _, [], _, h, _ => h.elim

def leaf (wl : List (Option (List Nat))) (i : Nat) : Item := ((i : Int), (i : Int), wsF wl (i : Int))
abbrev tup (vs : List Value) (n : Nat) : Obj := { cls := .type "tuple", data := .seq vs.toArray n }
def ItemV (news : List (Addr × Obj)) (v : Value) (it : Item) : Prop := ∃ a t1 t2 wv k, v = .ref a ∧ (a, tup [.int it.1 t1, .int it.2.1 t2, wv] k) ∈ news ∧ OptV wv it.2.2
def ItemAll (news : List (Addr × Obj)) : List Value → List Item → Prop
  | [], [] => True
  | v :: vs, x :: xs => ItemV news v x ∧ ItemAll news vs xs
  | _, _ => False
theorem ItemV.mono {news news' : List (Addr × Obj)} {v : Value} {it : Item} (h : ItemV news v it) (hs : ∀ q ∈ news, q ∈ news') : ItemV news' v it := by
  obtain ⟨a, t1, t2, wv, k, e, hm, ho⟩ := h
  exact ⟨a, t1, t2, wv, k, e, hs _ hm, ho⟩
theorem ItemAll.mono {news news' : List (Addr × Obj)} (hs : ∀ q ∈ news, q ∈ news') : ∀ {vs : List Value} {xs : List Item}, ItemAll news vs xs → ItemAll news' vs xs
  | [], [], _ => trivial
  | _ :: _, _ :: _, h => ⟨h.1.mono hs, ItemAll.mono hs h.2⟩
  | [], _ :: _, h => h.elim
  | _ :: _, [], h => h.elim
theorem ItemAll.append {news : List (Addr × Obj)} : ∀ {vs ws : List Value} {xs ys : List Item}, ItemAll news vs xs → ItemAll news ws ys → ItemAll news (vs ++ ws) (xs ++ ys)
  | [], _, [], _, _, h => h
  | _ :: _, _, _ :: _, _, h, k => ⟨h.1, ItemAll.append h.2 k⟩
  | [], _, _ :: _, _, h, _ => h.elim
  | _ :: _, _, [], _, h, _ => h.elim
theorem ItemAll.length {news : List (Addr × Obj)} : ∀ {vs : List Value} {xs : List Item}, ItemAll news vs xs → vs.length = xs.length
  | [], [], _ => rfl
  | _ :: _, _ :: _, h => by rw [List.length_cons, List.length_cons, ItemAll.length h.2]
  | [], _ :: _, h => h.elim
  | _ :: _, [], h => h.elim
theorem ItemAll.get {news : List (Addr × Obj)} : ∀ {vs : List Value} {xs : List Item}, ItemAll news vs xs → ∀ {i : Nat} {x : Item}, xs[i]? = some x → ∃ v, vs[i]? = some v ∧ ItemV news v x
  | [], [], _, _, _, h => by cases h
  | v :: _, _ :: _, h, 0, _, e => by injection e with e; subst e; exact ⟨v, rfl, h.1⟩
  | _ :: _, _ :: _, h, i + 1, _, e => ItemAll.get h.2 e
  | [], _ :: _, h, _, _, _ => h.elim
  | _ :: _, [], h, _, _, _ => h.elim
theorem ItemAll.take {news : List (Addr × Obj)} : ∀ {vs : List Value} {xs : List Item}, ItemAll news vs xs → ∀ i, ItemAll news (vs.take i) (xs.take i)
  | [], [], _, i => by simp [ItemAll]
  | _ :: _, _ :: _, h, 0 => trivial
  | _ :: _, _ :: _, h, i + 1 => ⟨h.1, ItemAll.take h.2 i⟩
  | [], _ :: _, h, _ => h.elim
  | _ :: _, [], h, _ => h.elim
theorem ItemAll.drop {news : List (Addr × Obj)} : ∀ {vs : List Value} {xs : List Item}, ItemAll news vs xs → ∀ i, ItemAll news (vs.drop i) (xs.drop i)
  | [], [], _, i => by simp [ItemAll]
  | _ :: _, _ :: _, h, 0 => h
  | _ :: _, _ :: _, h, i + 1 => ItemAll.drop h.2 i
  | [], _ :: _, h, _ => h.elim
  | _ :: _, [], h, _ => h.elim

section
variable {prog : Program} {w : World} {A : Around} {h₀ : Heap} {L : Addr} {m : Str → Option Value} {env : Env} {elt : Expr} {x : Str} {scope : Scope} {cl : List (Str × Addr)} {s : Shared} {S : List (Addr × Obj) → Prop} {Fin : List Value → List (Addr × Obj) → Prop} {news : List (Addr × Obj)}

/-- the words' list -/
theorem words_rest {vs : List Value} {ns : List Int} (hI : IntsAre vs ns) (hS : S news)
    (turn : ∀ n t I oI C oC D m₂ ys h tk (E' : Value → Shared → Prop), LCg.NsObj oC m₂ → m₂ x = some (.int n t) → Fr h₀ L h m → News h₀ L h ((I, oI) :: (C, oC) :: (D, LCg.lst ys) :: news) → LCg.Off3 I C D news → ((@Ne Nat I C) ∧ (@Ne Nat I D) ∧ (@Ne Nat C D)) → ∀ qq : Value → Shared → Prop,
      (∀ v h' tk', OptV v (word8 n) → Fr h₀ L h' m → News h₀ L h' ((I, oI) :: (C, oC) :: (D, LCg.lst ys) :: news) → qq v { s with heap := h', toks := tk' }) →
      wpAny (model prog w) A (eval elt (compEnvC scope cl C env)) qq E' { s with heap := h, toks := tk })
    (fin : ∀ ys, OptAll ys (ns.map word8) → Fin ys news) : LCg.CompRest prog w A h₀ L m env elt x scope cl s S (fun i v => vs.toArray[i]? = some v) Fin vs.toArray.size 0 [] news := by
  have key : ∀ (j i : Nat) (ys : List Value), i + j = vs.length → OptAll ys ((ns.take i).map word8) → LCg.CompRest prog w A h₀ L m env elt x scope cl s S (fun i v => vs.toArray[i]? = some v) Fin j i ys news := by
    intro j
    induction j with
    | zero =>
      intro i ys hi hy
      have e : i = ns.length := by have := hI.length; omega
      rw [e, List.take_length] at hy
      exact LCg.CompRest.zero (fin ys hy)
    | succ j ih =>
      intro i ys hi hy
      refine LCg.CompRest.succ ?_
      intro v I oI C oC D m₂ h tk E' hv hC hx F N off ne
      have hv' : vs[i]? = some v := by simpa using hv
      obtain ⟨n, t, rfl, hn⟩ := hI.at i v hv'
      refine turn n t I oI C oC D m₂ ys h tk E' hC hx F N off ne _ fun u h' tk' hu F' N' => ?_
      refine ⟨h', tk', news, rfl, F', N', off, hS, ih (i + 1) _ (by omega) ?_⟩
      have ht : ns.take (i + 1) = ns.take i ++ [n] := by rw [List.take_add_one, hn]; rfl
      rw [ht, List.map_append]
      exact hy.append ⟨hu, trivial⟩
  have := key vs.length 0 [] (by omega) (by simp [OptAll])
  simpa using this

/-- the items' list: each turn makes one tuple -/
theorem items_rest {wl : List (Option (List Nat))} (hS : ∀ news, S news)
    (turn : ∀ (i : Nat) t I oI C oC D m₂ ys h tk nw (E' : Value → Shared → Prop), i < wl.length → (∀ q ∈ news, q ∈ nw) → LCg.NsObj oC m₂ → m₂ x = some (.int (0 + (i : Int)) t) → Fr h₀ L h m → News h₀ L h ((I, oI) :: (C, oC) :: (D, LCg.lst ys) :: nw) → LCg.Off3 I C D nw → ((@Ne Nat I C) ∧ (@Ne Nat I D) ∧ (@Ne Nat C D)) → ∀ qq : Value → Shared → Prop,
      (∀ T t1 t2 wv k h' tk', OptV wv (wsF wl (i : Int)) → Fr h₀ L h' m → News h₀ L h' ((T, tup [.int (i : Int) t1, .int (i : Int) t2, wv] k) :: (I, oI) :: (C, oC) :: (D, LCg.lst ys) :: nw) → (∀ p ∈ (I, oI) :: (C, oC) :: (D, LCg.lst ys) :: nw, p.1 < T) → qq (.ref T) { s with heap := h', toks := tk' }) →
      wpAny (model prog w) A (eval elt (compEnvC scope cl C env)) qq E' { s with heap := h, toks := tk })
    (fin : ∀ ys nw, (∀ q ∈ news, q ∈ nw) → ItemAll nw ys ((List.range wl.length).map (leaf wl)) → Fin ys nw) :
    LCg.CompRest prog w A h₀ L m env elt x scope cl s S (fun i v => ∃ t, v = .int (0 + (i : Int)) t) Fin wl.length 0 [] news := by
  have key : ∀ (j i : Nat) (ys : List Value) nw, i + j = wl.length → (∀ q ∈ news, q ∈ nw) → ItemAll nw ys ((List.range i).map (leaf wl)) → LCg.CompRest prog w A h₀ L m env elt x scope cl s S (fun i v => ∃ t, v = .int (0 + (i : Int)) t) Fin j i ys nw := by
    intro j
    induction j with
    | zero =>
      intro i ys nw hi hs hy
      have e : i = wl.length := by omega
      subst e
      exact LCg.CompRest.zero (fin ys nw hs hy)
    | succ j ih =>
      intro i ys nw hi hs hy
      refine LCg.CompRest.succ ?_
      intro v I oI C oC D m₂ h tk E' hv hC hx F N off ne
      obtain ⟨t, rfl⟩ := hv
      refine turn i t I oI C oC D m₂ ys h tk nw E' (by omega) hs hC hx F N off ne _ fun T t1 t2 wv k h' tk' hwv F' N' lt => ?_
      have off' := LCg.Off3.mem off
      refine ⟨h', tk', (T, tup [.int (i : Int) t1, .int (i : Int) t2, wv] k) :: nw, rfl, F', fun p hp => N' p ?_, LCg.Off3.of ?_, hS _, ih (i + 1) _ _ (by omega) (fun q hq => .tail _ (hs q hq)) ?_⟩
      · simp only [List.mem_cons] at hp ⊢
        rcases hp with h | h | h | h | h
        · exact .inr (.inl h)
        · exact .inr (.inr (.inl h))
        · exact .inr (.inr (.inr (.inl h)))
        · exact .inl h
        · exact .inr (.inr (.inr (.inr h)))
      · intro p hp
        rcases List.mem_cons.mp hp with rfl | hp
        · exact ⟨Nat.ne_of_gt (lt (I, oI) (.head _)), Nat.ne_of_gt (lt (C, oC) (.tail _ (.head _))), Nat.ne_of_gt (lt (D, LCg.lst ys) (.tail _ (.tail _ (.head _))))⟩
        · exact off' p hp
      · rw [List.range_succ, List.map_append]
        refine (hy.mono fun q hq => .tail _ hq).append ⟨⟨T, t1, t2, wv, k, rfl, .head _, hwv⟩, trivial⟩
  exact key wl.length 0 [] news (by omega) (fun q hq => hq) (by simp [ItemAll])
end
end Mine
end

section
open PySem PySem.W PyProof.Rows
set_option maxRecDepth 100000
namespace Mine
theorem optv_of {x : Str} {y : List Nat} (t : Tok) (h : x = strL y) : OptV (.str x t) (some y) := ⟨t, by rw [h]⟩
theorem w0_is : Str.ofString "" = strL [] := by decide +kernel
theorem w1_is : Str.ofString "." = strL [46] := by decide +kernel
theorem w2_is : Str.ofString "\n" = strL [10] := by decide +kernel
theorem w3_is : Str.ofString "a" = strL [97] := by decide +kernel
theorem w4_is : Str.ofString "b\x0d" = strL [98, 13] := by decide +kernel
theorem w5_is : Str.ofString ".\x0d\n." = strL [46, 13, 10, 46] := by decide +kernel
theorem w7_is : Str.ofString "\x0d.c" = strL [13, 46, 99] := by decide +kernel
section
variable {prog : Program} {w : World} {A : Around} {E : Value → Shared → Prop} {s : Shared} {h₀ : Heap} {L D : Addr} {m : Str → Option Value} {news news' : List (Addr × Obj)} {vs : List Value} {k : Nat} {n : Int} {t u : Tok} {v : Value}
theorem item8 {value slice : PySem.Expr} {Q : Value → Shared → Prop} {t0 t1 t2 t3 t4 t5 t7 : Tok} (N : News h₀ L s.heap news)
    (hm : (D, listOf [Value.str (Str.ofString "") t0, Value.str (Str.ofString ".") t1, Value.str (Str.ofString "\n") t2, Value.str (Str.ofString "a") t3, Value.str (Str.ofString "b\x0d") t4, Value.str (Str.ofString ".\x0d\n.") t5, Value.none, Value.str (Str.ofString "\x0d.c") t7].toArray k) ∈ news)
    (h : ∀ v, OptV v (word8 n) → Q v s)
    (hs : subscripted slice false (.ref D) (.int (n.fmod 8) u) = operate [.ref D, .int (n.fmod 8) u] (getItem (.ref D) (.int (n.fmod 8) u)) := by with_unfolding_all rfl) :
    wpAny (model prog w) A (subscriptTail value slice (.ref D) (.int (n.fmod 8) u)) Q E s := by
  have e : n.fmod 8 = n % 8 := Int.fmod_eq_emod_of_nonneg n (by decide)
  obtain ⟨v, hv1, hv2⟩ := pick8 n (optv_of t0 w0_is) (optv_of t1 w1_is) (optv_of t2 w2_is) (optv_of t3 w3_is) (optv_of t4 w4_is) (optv_of t5 w5_is) (show OptV .none none from rfl) (optv_of t7 w7_is)
  rw [← e] at hv1
  exact list_item N hm (by rw [e]; omega) (by rw [e]; omega) hv1 (h v hv2) hs
end
end Mine
end

section
open PySem PySem.W PyProof.Rows
set_option maxRecDepth 100000
namespace Mine
def Chain : Int → List Item → Prop
  | _, [] => True
  | a, it :: r => it.1 = a ∧ it.1 ≤ it.2.1 ∧ Chain (it.2.1 + 1) r
theorem Chain.low : ∀ {a : Int} {its : List Item}, Chain a its → ∀ it ∈ its, a ≤ it.1
  | _, [], _, _, h => by cases h
  | a, x :: r, h, it, hm => by
    obtain ⟨h1, h2, h3⟩ := h
    rcases List.mem_cons.mp hm with rfl | hm
    · omega
    · have := Chain.low h3 it hm; omega
/-- two neighbours of the chain -/
theorem Chain.mid : ∀ {pre : List Item} {a : Int} {A B : Item} {post : List Item}, Chain a (pre ++ A :: B :: post) → (∀ it ∈ pre, it.2.1 < A.1) ∧ A.1 ≤ A.2.1 ∧ B.1 = A.2.1 + 1 ∧ B.1 ≤ B.2.1 ∧ (∀ it ∈ post, B.2.1 < it.1) ∧ a ≤ A.1 ∧ ∀ t, Chain a (pre ++ (A.1, B.2.1, t) :: post)
  | [], a, A, B, post, h => by
    obtain ⟨h1, h2, h3, h4, h5⟩ := h
    refine ⟨fun _ hm => (by cases hm), h2, h3, h4, fun it hm => ?_, by omega, fun t => ⟨h1, ?_, h5⟩⟩
    · have := Chain.low h5 it hm; omega
    · show A.1 ≤ B.2.1; omega
  | x :: pre, a, A, B, post, h => by
    obtain ⟨h1, h2, h3⟩ := h
    obtain ⟨k1, k2, k3, k4, k5, k6, k7⟩ := Chain.mid h3
    refine ⟨fun it hm => ?_, k2, k3, k4, k5, by omega, fun t => ⟨h1, h2, k7 t⟩⟩
    rcases List.mem_cons.mp hm with rfl | hm
    · omega
    · exact k1 it hm
structure Inv (wl : List (Option (List Nat))) (its : List Item) (sp : List Span) : Prop where
  chain : Chain 0 its
  ok : ∀ it ∈ its, ItemOk (wsF wl) sp it
  hi : ∀ it ∈ its, it.2.1 < wl.length
  spn : ∀ s ∈ sp, s.1 ≤ s.2
  cnt : its.length + sp.length = wl.length

theorem told_keep {ws : Int → Option (List Nat)} {sp : List Span} {N : Span} {f l : Int} (h : ¬ (f ≤ N.1 ∧ N.2 ≤ l)) : toldF ws (sp ++ [N]) f l = toldF ws sp f l := by
  have e : overF (sp ++ [N]) f l = overF sp f l := by
    funext p
    rw [over_snoc, over_none h, List.append_nil]
  unfold toldF
  rw [e]
theorem ok_keep {ws : Int → Option (List Nat)} {sp : List Span} {N : Span} {it : Item} (h : ItemOk ws sp it) (hN : N.1 ≤ N.2) (hd : it.2.1 < N.1 ∨ N.2 < it.1) : ItemOk ws (sp ++ [N]) it := by
  have hle := h.le
  have e : toldF ws (sp ++ [N]) it.1 it.2.1 = toldF ws sp it.1 it.2.1 := told_keep (by omega)
  refine ⟨h.le, fun s hs a b => ?_, ?_⟩
  · rcases List.mem_append.mp hs with hs | hs
    · exact h.sep s hs a b
    · rw [List.mem_singleton.mp hs] at a b; omega
  · rcases h.txt with ⟨e1, e2, e3⟩ | ⟨e1, e2, e3, e4⟩
    · refine .inl ⟨e1, e2, fun s hs => ?_⟩
      rcases List.mem_append.mp hs with hs | hs
      · exact e3 s hs
      · rw [List.mem_singleton.mp hs]; omega
    · exact .inr ⟨e1, by rw [e]; exact e2, by rw [e]; exact e3, List.mem_append.mpr (.inl e4)⟩
theorem Inv.step {wl : List (Option (List Nat))} {pre post : List Item} {A B : Item} {sp : List Span} (hok : okWords wl) (I : Inv wl (pre ++ A :: B :: post) sp) :
    quoteL (buildL A.2.2 B.2.2) = toldF (wsF wl) (sp ++ [(A.1, B.2.1)]) A.1 B.2.1 ∧ Inv wl (pre ++ (A.1, B.2.1, some (toldF (wsF wl) (sp ++ [(A.1, B.2.1)]) A.1 B.2.1)) :: post) (sp ++ [(A.1, B.2.1)]) ∧
    0 ≤ A.1 ∧ A.1 ≤ B.2.1 ∧ B.2.1 < wl.length := by
  obtain ⟨k1, k2, k3, k4, k5, k6, k7⟩ := Chain.mid I.chain
  have okA := I.ok A (by simp)
  have okB := I.ok B (by simp)
  have hiB := I.hi B (by simp)
  have hj := join_text (wd_ok hok) okA okB k3
  refine ⟨hj, ⟨k7 _, fun it hm => ?_, fun it hm => ?_, fun s hs => ?_, ?_⟩, k6, by omega, hiB⟩
  · rcases List.mem_append.mp hm with hm | hm
    · have := k1 it hm
      exact ok_keep (I.ok it (by simp [hm])) (by show A.1 ≤ B.2.1; omega) (.inl this)
    · rcases List.mem_cons.mp hm with rfl | hm
      · refine ⟨by show A.1 ≤ B.2.1; omega, fun s hs a b => ?_, .inr ⟨by show A.1 < B.2.1; omega, rfl, ?_, List.mem_append.mpr (.inr (by simp))⟩⟩
        · rcases List.mem_append.mp hs with hs | hs
          · have n1 := I.spn s hs
            have sA := okA.sep s hs
            have sB := okB.sep s hs
            dsimp only at a b ⊢
            by_cases h : s.1 ≤ A.2.1
            · have := sA h b; omega
            · have := sB a (by omega); omega
          · rw [List.mem_singleton.mp hs]
            exact ⟨Int.le_refl _, Int.le_refl _⟩
        · show nl (toldF _ _ _ _) = toldF _ _ _ _
          rw [← hj]
          exact nl_st true _
      · have := k5 it hm
        exact ok_keep (I.ok it (by simp [hm])) (by show A.1 ≤ B.2.1; omega) (.inr this)
  · rcases List.mem_append.mp hm with hm | hm
    · exact I.hi it (by simp [hm])
    · rcases List.mem_cons.mp hm with rfl | hm
      · exact hiB
      · exact I.hi it (by simp [hm])
  · rcases List.mem_append.mp hs with hs | hs
    · exact I.spn s hs
    · rw [List.mem_singleton.mp hs]; show A.1 ≤ B.2.1; omega
  · have := I.cnt
    simp only [List.length_append, List.length_cons, List.length_nil] at this ⊢
    omega
theorem chain_range (wl : List (Option (List Nat))) : ∀ (n k : Nat), Chain (k : Int) ((List.range' k n).map (leaf wl))
  | 0, _ => trivial
  | n + 1, k => by
    rw [List.range'_succ, List.map_cons]
    refine ⟨rfl, Int.le_refl _, ?_⟩
    exact chain_range wl n (k + 1)
theorem Inv.start (wl : List (Option (List Nat))) : Inv wl ((List.range wl.length).map (leaf wl)) [] := by
  refine ⟨by rw [List.range_eq_range']; exact chain_range wl _ 0, fun it hm => ?_, fun it hm => ?_, fun s hs => (by cases hs), by simp⟩
  · obtain ⟨i, hi, rfl⟩ := List.mem_map.mp hm
    exact ⟨Int.le_refl _, fun s hs => (by cases hs), .inl ⟨rfl, rfl, fun s hs => (by cases hs)⟩⟩
  · obtain ⟨i, hi, rfl⟩ := List.mem_map.mp hm
    have := List.mem_range.mp hi
    show (i : Int) < _
    omega
theorem Inv.text {wl : List (Option (List Nat))} {its : List Item} {sp : List Span} (hok : okWords wl) (I : Inv wl its sp) (h6 : wl.length ≤ 6) : ∀ it ∈ its, (it.2.2.getD []).length ≤ 2400 := by
  intro it hm
  have ok := I.ok it hm
  have hlo := Chain.low I.chain it hm
  have hhi := I.hi it hm
  rcases ok.txt with ⟨e1, e2, e3⟩ | ⟨e1, e2, e3, e4⟩
  · rw [e2]
    unfold wsF
    cases h : wl[it.1.toNat]? with
    | none => simp
    | some x =>
      cases x with
      | none => simp
      | some y =>
        have hy := hok _ (List.mem_of_getElem? h) y rfl
        have : ∀ w ∈ wordsAll, w.length ≤ 10 := by decide
        have := this y hy
        simp only [Option.getD_some]; omega
  · rw [e2]
    have hs : sp.length ≤ 100 := by have := I.cnt; omega
    have := told_len (pr := presF (wsF wl) (overF sp it.1 it.2.1)) (wd_ok hok) (ov := overF sp it.1 it.2.1) (fun p => Nat.le_trans (List.length_filter_le _ _) hs) (places it.1 it.2.1) none
    unfold places at this
    rw [rangeKs_len] at this
    show (toldF _ _ _ _).length ≤ _
    unfold toldF places
    omega
end Mine
end

section
open PySem PySem.W PyProof.Rows
set_option maxRecDepth 100000
namespace Mine
theorem quote_is (x : List Nat) : quote (strL x) = strL (quoteL x) := by
  unfold quote
  rw [nl_sub _ _ _ (by omega)]
  rw [st_sub _ _ _ (by omega)]
  simp [quoteL]
theorem mapJ {m : Str → Option Value} {va : Option Value} (a b c d e : Str) (ha : m a = va) : m = fun y => if y = a then va else if y = b then m b else if y = c then m c else if y = d then m d else if y = e then m e else m y := by
  funext y
  by_cases h1 : y = a
  · rw [if_pos h1, h1, ha]
  · rw [if_neg h1]
    by_cases h2 : y = b
    · rw [if_pos h2, h2]
    · rw [if_neg h2]
      by_cases h3 : y = c
      · rw [if_pos h3, h3]
      · rw [if_neg h3]
        by_cases h4 : y = d
        · rw [if_pos h4, h4]
        · rw [if_neg h4]
          by_cases h5 : y = e
          · rw [if_pos h5, h5]
          · rw [if_neg h5]
theorem fmod_bounds (a : Int) {b : Int} (h : 0 < b) : 0 ≤ a.fmod b ∧ a.fmod b < b := ⟨Int.fmod_nonneg_of_pos a h, Int.fmod_lt_of_pos a h⟩
theorem split_at {α : Type} {l : List α} {i : Nat} (h : i + 1 < l.length) : l = l.take i ++ l[i] :: l[i + 1] :: l.drop (i + 2) := by
  rw [List.getElem_cons_drop, List.getElem_cons_drop, List.take_append_drop]
theorem up2 {news news' : List (Addr × Obj)} {p : Addr × Obj} (h : p ∈ news) (hs : ∀ q ∈ news, q ∈ news') : p ∈ news' := hs p h
end Mine
namespace Mine
theorem split_at' {α : Type} {l : List α} {i : Nat} {A B : α} (hA : l[i]? = some A) (hB : l[i + 1]? = some B) : l = l.take i ++ A :: B :: l.drop (i + 2) := by
  obtain ⟨h1, rfl⟩ := List.getElem?_eq_some_iff.mp hA
  obtain ⟨h2, rfl⟩ := List.getElem?_eq_some_iff.mp hB
  exact split_at h2
end Mine
namespace Mine
theorem buildL_len {x y : Option (List Nat)} (hx : (x.getD []).length ≤ 2400) (hy : (y.getD []).length ≤ 2400) : (buildL x y).length ≤ 5000 := by
  unfold buildL
  cases x <;> cases y <;> simp at hx hy ⊢ <;> omega
theorem spans_more {news : List (Addr × Obj)} {us : List Value} {sp : List Span} {a : Addr} {f l : Int} {t1 t2 : Tok} {k : Nat} (h : DatAll news us (sp.map spanD)) (hm : (a, ({ cls := .type "tuple", data := .seq [Value.int f t1, Value.int l t2].toArray k } : Obj)) ∈ news) :
    DatAll news (us ++ [.ref a]) ((sp ++ [(f, l)]).map spanD) := by
  rw [List.map_append]
  refine DatAll.append h (DatAll.one (.tuple hm ?_))
  exact .cons (.int _ _) (.cons (.int _ _) .nil)
end Mine
end

section
open PySem PySem.W PyProof.Rows
set_option maxRecDepth 100000
namespace Mine
theorem pick_take (vs : List Value) (n : Nat) : slicePick vs.toArray none (some (n : Int)) none = (vs.take n).toArray := by
  have e : sliceBounds none (some (n : Int)) none vs.toArray.size = (((0 : Nat) : Int), ((min n vs.toArray.size : Nat) : Int), 1) := by
    simp only [sliceBounds, Option.getD_none, show (1 : Int) > 0 by decide, if_true, if_neg (show ¬ ((n : Int) < 0) by omega)]
    congr 1
    congr 1
    omega
  rw [kmk_pick_nat _ e]
  show ((vs.drop 0).take (min n vs.toArray.size - 0)).toArray = _
  rw [List.drop_zero, Nat.sub_zero, List.size_toArray, kmk_take_min]
theorem pick_drop (vs : List Value) (n : Nat) : slicePick vs.toArray (some (n : Int)) none none = (vs.drop n).toArray := by
  have e : sliceBounds (some (n : Int)) none none vs.toArray.size = (((min n vs.toArray.size : Nat) : Int), ((vs.toArray.size : Nat) : Int), 1) := by
    simp only [sliceBounds, Option.getD_none, show (1 : Int) > 0 by decide, if_true, if_neg (show ¬ ((n : Int) < 0) by omega)]
    congr 1
    omega
  rw [kmk_pick_nat _ e]
  show ((vs.drop (min n vs.toArray.size)).take (vs.toArray.size - min n vs.toArray.size)).toArray = _
  rw [List.size_toArray, kmk_drop_min, List.take_of_length_le]
  rw [List.length_drop]; omega
theorem map_law {b : Str → Option Value} {a p l r t : Str} {x1 x2 x3 x4 x5 z1 z2 z3 z4 z5 : Option Value} (hpl : p ≠ l) (hpr : p ≠ r) (hpt : p ≠ t) (hlr : l ≠ r) (hlt : l ≠ t) (hrt : r ≠ t) :
    (fun y => if y = a then x1 else if y = t then x2 else if y = r then x3 else if y = l then x4 else if y = p then x5 else
      (if y = a then z1 else if y = p then z2 else if y = l then z3 else if y = r then z4 else if y = t then z5 else b y)) =
    fun y => if y = a then x1 else if y = p then x5 else if y = l then x4 else if y = r then x3 else if y = t then x2 else b y := by
  funext y
  by_cases ha : y = a
  · simp only [ha, if_true]
  · by_cases hp : y = p
    · subst hp; simp only [ha, hpl, hpr, hpt, if_true, if_false]
    · by_cases hl : y = l
      · subst hl; simp only [ha, hp, hlr, hlt, if_true, if_false]
      · by_cases hr : y = r
        · subst hr; simp only [ha, hp, hl, hrt, if_true, if_false]
        · by_cases ht : y = t
          · subst ht; simp only [ha, hp, hl, hr, if_true, if_false]
          · simp only [ha, hp, hl, hr, ht, if_false]
theorem n_pl : Str.ofString "pick" ≠ Str.ofString "left" := by decide +kernel
theorem n_pr : Str.ofString "pick" ≠ Str.ofString "right" := by decide +kernel
theorem n_pt : Str.ofString "pick" ≠ Str.ofString "text" := by decide +kernel
theorem n_lr : Str.ofString "left" ≠ Str.ofString "right" := by decide +kernel
theorem n_lt : Str.ofString "left" ≠ Str.ofString "text" := by decide +kernel
theorem n_rt : Str.ofString "right" ≠ Str.ofString "text" := by decide +kernel
end Mine
namespace Mine
theorem ItemAll.one {news : List (Addr × Obj)} {v : Value} {it : Item} (h : ItemV news v it) : ItemAll news [v] [it] := ⟨h, trivial⟩
end Mine
end

section
open PySem PySem.W PyProof.Rows
set_option Elab.async false
set_option maxRecDepth 100000
set_option maxHeartbeats 0
set_option pp.deepTerms false
set_option pp.deepTerms.threshold 8
namespace Mine

local macro_rules | `(tactic| k_mem) => `(tactic| first | assumption | ((repeat' (first | assumption | exact List.mem_cons_self | apply List.mem_cons_of_mem)); done))
local macro_rules | `(tactic| walk_at "call builtin:len") => `(tactic| (k_here; (with_reducible show wpAny _ _ (call (Value.builtin "len") [Value.ref _]) _ _ _); k_dflt (refine' len_led ?l1 ?l2 ?l3 ?_; (case l1 => k_asm); (case l2 => k_mem); (case l3 => omega); k_whole)))
noncomputable def lawFn (p : Params) : Option (List Stmt × Scope) := match (hd.heap_39 p).lookup 77 with
  | some o => (match o.data with | .func f => (match f.body with | .stmts b => some (b, f.scope) | _ => none) | _ => none)
  | none => none
theorem law_tail {w : World} {mean : ExcName → Option Value} {mg mb : Str → Option Value} {s : Shared} {L fa : Addr} {cdv : Value} {m0 : Str → Option Value} {base h₀ : Heap} {st : Stmt} {rest : List Stmt} {scope : Scope} {Q : Flow → Shared → Prop} {G : Value → Shared → Prop} {D c : Addr} {cw : Obj} {cv : Option Value} {ws : List Value} {ns : List Int} {nw : List (Addr × Obj)}
    (hfn : lawFn w.params = some (st :: rest, scope)) (hlen : 1 ≤ ns.length ∧ ns.length ≤ 6) (hI : IntsAre ws ns)
    (B : Below callerA base [] h₀) (X : (hd.heap_39 w.params).In h₀) (T : Top hd.view_39 (looseW hd.view_39 [Str.ofString "_twin_re_1", Str.ofString "_twin_re_2"]) mean mg mb h₀)
    (F : Fr h₀ L s.heap (fun y => if y = Str.ofString "numbers" then some (Value.ref D) else m0 y)) (hc : c = L + 1) (N : News h₀ L s.heap ((D, listOf ws.toArray 0) :: (c, cw) :: nw)) (hcw : cw.data = .cell cv) (hcD : c ≠ D) (hnw : ∀ p ∈ nw, p.1 ≠ c)
    (hend : ∀ h' tk' m', Fr h₀ L h' m' → Q (Flow.ret (Value.bool true)) { s with heap := h', toks := tk' }) :
    wpAny (model PySem.Challenge.rw_pe0026_01.row.prog w) (callerA.deeper (envOfC (Str.ofString "law") scope L fa cdv)) (execs rest (envOfC (Str.ofString "law") scope L fa cdv)) Q
      (fun e s' => wpAny (model PySem.Challenge.rw_pe0026_01.row.prog w) (callerA.deeper (envOfC (Str.ofString "law") scope L fa cdv)) (leaving (envOfC (Str.ofString "law") scope L fa cdv) e) (fun _ s'' => G e s'') (fun e' s'' => G e' s'') s') s := by
  have e : lawFn w.params = some (_ :: _, _) := rfl
  rw [e] at hfn
  injection hfn with h1
  injection h1 with h2 h3
  injection h2 with h4 h5
  subst h3 h4 h5
  clear e
  subst hc
  revert X T
  k_fill
  intro X T
  dsimp only
  repeat' ((fail_if_success (with_reducible show wpAny _ _ (eval (Expr.ListComp _ _ _ _) _) _ _ _)); (first | (k_unfold; (try dsimp only)) | (k_end; wrow_close) | walk1 | (dsimp only; walk1) | (leave1; walk_say "STEP leave1"; try dsimp only) | fail "no step"))
  k_dflt (refine LCg.ListComp_U (F₀ := by k_asm) (by with_unfolding_all rfl) (by decide) (by rfl) (by decide) (by rfl) ?_)
  repeat' ((fail_if_success (with_reducible show LCg.CompSrc _ _ _ _ _ _ _ _ _ _ _ _ _ _)); (first | (k_unfold; (try dsimp only)) | (k_end; wrow_close) | walk1 | (dsimp only; walk1) | (leave1; walk_say "STEP leave1"; try dsimp only) | fail "no step"))
  rename Fr _ _ _ _ => F4
  rename News _ _ _ _ => N4
  refine LCg.CompSrc.ledger (by rfl) F4 N4 (List.mem_cons_self) (by rw [List.size_toArray, sizeLine_eq, hI.length]; omega) ?_
  intro g2
  refine words_rest hI (.inr ⟨_, List.mem_cons_self, rfl, _, rfl⟩) ?_ ?_
  · intro n t I oI C oC D2 m₂ ys h5 tk5 E' hC hx F5 N5 off ne qq5 hqq5
    repeat' ((fail_if_success (with_reducible show wpAny _ _ (subscriptTail _ _ (Value.ref _) (Value.int _ _)) _ _ _)); (first | (k_unfold; (try dsimp only)) | (k_end; wrow_close) | walk1 | (dsimp only; walk1) | (leave1; walk_say "STEP leave1"; try dsimp only) | fail "no step"))
    rename Fr _ _ _ _ => F6
    rename News _ _ _ _ => N6
    refine item8 N6 List.mem_cons_self fun v hv => ?_
    exact hqq5 v _ _ hv F6 (fun p hp => N6 p (.tail _ hp))
  · intro ys hys
    intro Dw h6 tk6 F6 N6 off6
    have hyl : ys.length = ns.length := by have := hys.length; rwa [List.length_map] at this
    refine storeX_C F6 N6 rfl (.tail (Ne.symm off6.2.1) (.tail (Ne.symm hcD) (.head hnw))) hcw ?_
    intro h7 o7 F7 N7 hd7
    dsimp only at N7 ⊢
    clear F4 N4 hcw F6 N6 g2
    repeat' ((fail_if_success (with_reducible show wpAny _ _ (exec (Stmt.Assign _ (Expr.ListComp _ _ _ _) _) _) _ _ _)); (first | (k_unfold; (try dsimp only)) | (k_end; wrow_close) | walk1 | (dsimp only; walk1) | (leave1; walk_say "STEP leave1"; try dsimp only) | fail "no step"))
    k_dflt (refine LCg.Assign_ListComp_U (F₀ := by k_asm) (by rfl) (by with_unfolding_all rfl) (by with_unfolding_all rfl) (by decide) (by rfl) (by decide) (by rfl) (by rfl) (by rfl) ?_)
    repeat' ((fail_if_success (with_reducible show LCg.CompSrc _ _ _ _ _ _ _ _ _ _ _ _ _ _)); (first | (k_unfold; (try dsimp only)) | (k_end; wrow_close) | walk1 | (dsimp only; walk1) | (leave1; walk_say "STEP leave1"; try dsimp only) | fail "no step"))
    rename IsRange _ _ _ _ _ _ _ _ => R'
    rename Fr _ _ _ _ => F8
    rename News _ _ _ _ => N8
    have hwlen : (ns.map word8).length = ns.length := List.length_map ..
    refine LCg.CompSrc.range (by rfl) F8 N8 R' (small_one (by omega) (by omega) (by omega) (by omega)) (n := (ns.map word8).length) (by rw [rangeSize_nat]; omega) (by rw [sizeLine_eq]; omega) ?_
    intro g3
    refine items_rest (fun _ => trivial) ?_ ?_
    · intro i t I oI C oC D2 m₂ zs h5 tk5 nx E' hi hsub hC hx F5 N5 off ne qq5 hqq5
      rw [Int.zero_add] at hx
      obtain ⟨wv, hwv1, hwv2⟩ := hys.get (List.getElem?_eq_getElem hi)
      have hwv3 : ys[((i : Nat) : Int).toNat]? = some wv := by rw [Int.toNat_natCast]; exact hwv1
      have hwv4 : OptV wv (wsF (ns.map word8) (i : Int)) := by unfold wsF; rw [Int.toNat_natCast, List.getElem?_eq_getElem hi]; exact hwv2
      have hm1 : (Dw, LCg.lst ys) ∈ nx := hsub _ List.mem_cons_self
      have hm2 : (L + 1, o7) ∈ nx := hsub _ (.tail _ (.tail _ (.head _)))
      repeat' ((fail_if_success (with_reducible show wpAny _ _ (subscriptTail _ _ (Value.ref _) (Value.int _ _)) _ _ _)); (first | (k_unfold; (try dsimp only)) | (k_end; wrow_close) | walk1 | (dsimp only; walk1) | (leave1; walk_say "STEP leave1"; try dsimp only) | fail "no step"))
      rename Fr _ _ _ _ => F6
      rename News _ _ _ _ => N6
      refine list_item N6 (by k_mem) (by omega) (by omega) hwv3 ?_
      repeat' ((fail_if_success (with_reducible show wpAny _ _ (newTuple _) _ _ _)); (first | (k_unfold; (try dsimp only)) | (k_end; wrow_close) | walk1 | (dsimp only; walk1) | (leave1; walk_say "STEP leave1"; try dsimp only) | fail "no step"))
      refine kup_newTuple F6 N6 (fun T h' F' N' l1 => ?_) (by show 3 ≤ _; rw [sizeLine_eq]; decide)
      exact hqq5 T _ _ wv _ h' _ hwv4 F' N' l1
    · intro zs nx hsub hzs
      intro Di h9 tk9 F9 N9 off9
      clear F8 N8 R'
      dsimp only
      repeat' ((fail_if_success (with_reducible show wpAny _ _ (newList _) _ _ _)); (first | (k_unfold; (try dsimp only)) | (k_end; wrow_close) | walk1 | (dsimp only; walk1) | (leave1; walk_say "STEP leave1"; try dsimp only) | fail "no step"))
      refine newList_K F9 N9 (fun Ds hA FA NA lA => ?_)
      clear F9 N9
      repeat' ((fail_if_success (with_reducible show wpAny _ _ (exec (Stmt.While _ _ _ _) _) _ _ _)); (first | (k_unfold; (try dsimp only)) | (k_end; wrow_close) | walk1 | (dsimp only; walk1) | (leave1; walk_say "STEP leave1"; try dsimp only) | fail "no step"))
      rename Fr _ _ _ _ => FB
      rename News _ _ _ _ => NB
      have hokw := okWords_map ns
      have hI0 := Inv.start (ns.map word8)
      generalize hwl : ns.map word8 = wl at *
      have hmN : (D, listOf ws.toArray 0) ∈ nx := hsub _ (.tail _ (.head _))
      have hmC : (L + 1, o7) ∈ nx := hsub _ (.tail _ (.tail _ (.head _)))
      have hmW : (Dw, LCg.lst ys) ∈ nx := hsub _ (.head _)
      refine While_inv2 (fun n m₁ n₁ => ∃ its sp zs us Di' k1 k2 rest u1 u2 u3 u4, n = List.length its ∧ Inv wl its sp ∧ n₁ = (Ds, listOf (List.toArray us) k2) :: rest ∧ (∀ p ∈ rest, p.1 ≠ Ds) ∧ (∀ q ∈ nx, q ∈ rest) ∧ (Di', listOf (List.toArray zs) k1) ∈ rest ∧ ItemAll rest zs its ∧ DatAll rest us (sp.map spanD) ∧
        m₁ = fun y => if y = Str.ofString "items" then some (Value.ref Di') else if y = Str.ofString "pick" then u1 else if y = Str.ofString "left" then u2 else if y = Str.ofString "right" then u3 else if y = Str.ofString "text" then u4 else
          if y = Str.ofString "spans" then some (Value.ref Ds) else if y = Str.ofString "items" then some (Value.ref Di) else if y = Str.ofString "numbers" then some (Value.ref D) else m0 y) (n₀ := ((List.range wl.length).map (leaf wl)).length) FB NB ?_ ?_
      · exact ⟨_, [], zs, [], Di, zs.length, 0, (Di, LCg.lst zs) :: nx, _, _, _, _, rfl, hI0, rfl, fun p hp => Nat.ne_of_lt (lA p hp), fun q hq => .tail _ hq, .head _, hzs.mono fun q hq => .tail _ hq, .nil,
          mapJ (Str.ofString "items") (Str.ofString "pick") (Str.ofString "left") (Str.ofString "right") (Str.ofString "text") rfl⟩
      · clear FB NB hzs hI0 lA
        rintro n m₁ news₁ h₁ tk₁ F1 N1 ⟨its, sp, zs, us, Di', k1, k2, rest, u1, u2, u3, u4, rfl, I, rfl, hrD, hsx, hDi, hits, hdat, rfl⟩
        have hzl := hits.length
        have hul : us.length = sp.length := by have := hdat.length; rwa [List.length_map] at this
        have hcnt := I.cnt
        have hmN' := hsx _ hmN
        have hmC' := hsx _ hmC
        have hmW' := hsx _ hmW
        repeat' ((fail_if_success (with_reducible show wpAny _ _ (subscriptTail _ _ (Value.ref _) (Value.int _ _)) _ _ _)); (first | (k_unfold; (try dsimp only)) | (k_end; wrow_close) | walk1 | (dsimp only; walk1) | (leave1; walk_say "STEP leave1"; try dsimp only) | fail "no step"))
        rotate_left
        · dsimp only
          exact hend _ _ _ (by k_asm)
        rename Fr _ _ _ _ => F2
        rename News _ _ _ _ => N2
        have hz2 : 1 < its.length := by omega
        rename IntsAre _ _ => hI
        have hwsl := hI.length
        have hus : ((us.length : Nat) : Int).toNat < ws.length := by omega
        obtain ⟨nn, tn, hnn, _⟩ := hI.at _ _ (List.getElem?_eq_getElem hus)
        have hnn2 : ws[((us.length : Nat) : Int).toNat]? = some (Value.int nn tn) := by rw [List.getElem?_eq_getElem hus, hnn]
        refine list_item N2 (by k_mem) (by omega) (by omega) hnn2 ?_
        repeat' ((fail_if_success (with_reducible show wpAny _ _ (subscriptTail _ _ (Value.ref _) (Value.int _ _)) _ _ _)); (first | (k_unfold; (try dsimp only)) | (k_end; wrow_close) | walk1 | (dsimp only; walk1) | (leave1; walk_say "STEP leave1"; try dsimp only) | fail "no step"))
        have hpb := fmod_bounds (nn.fdiv 8) (b := (zs.length : Int) - 1) (by omega)
        generalize (nn.fdiv 8).fmod ((zs.length : Int) - 1) = pk at *
        obtain ⟨pn, rfl⟩ : ∃ pn : Nat, pk = (pn : Int) := ⟨pk.toNat, by omega⟩
        have hpn : pn + 1 < its.length := by omega
        obtain ⟨A, hA⟩ : ∃ A, its[pn]? = some A := ⟨_, List.getElem?_eq_getElem (by omega)⟩
        obtain ⟨B', hB⟩ : ∃ B, its[pn + 1]? = some B := ⟨_, List.getElem?_eq_getElem hpn⟩
        have hsplit := split_at' hA hB
        obtain ⟨vA, hvA, aA, t1A, t2A, wA, kA, rfl, hmA, oA⟩ := hits.get hA
        obtain ⟨vB, hvB, aB, t1B, t2B, wB, kB, rfl, hmB, oB⟩ := hits.get hB
        have hvA' : zs[((pn : Nat) : Int).toNat]? = some (Value.ref aA) := by rw [Int.toNat_natCast]; exact hvA
        have hvB' : zs[(((pn : Nat) : Int) + 1).toNat]? = some (Value.ref aB) := by rw [show (((pn : Nat) : Int) + 1).toNat = pn + 1 by omega]; exact hvB
        rename News _ _ _ _ => N3
        refine list_item N3 (by k_mem) (by omega) (by omega) hvA' ?_
        repeat' ((fail_if_success (with_reducible show wpAny _ _ (subscriptTail _ _ (Value.ref _) (Value.int _ _)) _ _ _)); (first | (k_unfold; (try dsimp only)) | (k_end; wrow_close) | walk1 | (dsimp only; walk1) | (leave1; walk_say "STEP leave1"; try dsimp only) | fail "no step"))
        rename News _ _ _ _ => N4
        refine list_item N4 (by k_mem) (by omega) (by omega) hvB' ?_
        repeat' ((fail_if_success (with_reducible show wpAny _ _ (subscriptTail _ _ (Value.ref _) (Value.int _ _)) _ _ _)); (first | (k_unfold; (try dsimp only)) | (k_end; wrow_close) | walk1 | (dsimp only; walk1) | (leave1; walk_say "STEP leave1"; try dsimp only) | fail "no step"))
        rename News _ _ _ _ => N5
        refine item_tupleT (News.isTup N5 (by k_mem)) (by decide) (by decide) rfl rfl ?_
        repeat' ((fail_if_success (with_reducible show wpAny _ _ (subscriptTail _ _ (Value.ref _) (Value.int _ _)) _ _ _)); (first | (k_unfold; (try dsimp only)) | (k_end; wrow_close) | walk1 | (dsimp only; walk1) | (leave1; walk_say "STEP leave1"; try dsimp only) | fail "no step"))
        refine item_tupleT (News.isTup N5 (by k_mem)) (by decide) (by decide) rfl rfl ?_
        repeat' ((fail_if_success (with_reducible show wpAny _ _ (newTuple _) _ _ _)); (first | (k_unfold; (try dsimp only)) | (k_end; wrow_close) | walk1 | (dsimp only; walk1) | (leave1; walk_say "STEP leave1"; try dsimp only) | fail "no step"))
        rename Fr _ _ _ _ => F5
        refine kup_newTuple F5 N5 (fun T1 h6 F6 N6 l6 => ?_) (by show 2 ≤ _; rw [sizeLine_eq]; decide)
        have hT1 : T1 ≠ Ds := Nat.ne_of_gt (l6 _ (.head _))
        have hT1r : ∀ p ∈ rest, p.1 ≠ T1 := fun p hp => Nat.ne_of_lt (l6 p (.tail _ hp))
        clear l6
        repeat' ((fail_if_success (with_reducible show wpAny _ _ (call (Value.ref _) _) _ _ _)); (first | (k_unfold; (try dsimp only)) | (k_end; wrow_close) | walk1 | (dsimp only; walk1) | (leave1; walk_say "STEP leave1"; try dsimp only) | fail "no step"))
        have hAm : A ∈ its := List.mem_of_getElem? hA
        have hBm : B' ∈ its := List.mem_of_getElem? hB
        have hw6 : wl.length ≤ 6 := by omega
        have hlA := I.text hokw hw6 A hAm
        have hlB := I.text hokw hw6 B' hBm
        rw [hsplit] at I
        obtain ⟨hj, I', hlo, hmid, hhi⟩ := I.step hokw
        k_dflt (refine' build_c _ _ _ _ _ _ _ _ _ _ _ _ _ _ _ _ _ _ ?qB ?qF ?qX ?qN ?qT ?qk T1 wA wB _ A.2.2 B'.2.2 oA oB ?qt ?qx ?qy ?qd ?qu ?qr)
        case qB => k_asm
        case qF => exact F6
        case qX => k_asm
        case qN => exact N6
        case qT => k_asm
        case qk => rfl
        case qt => exact List.mem_cons_self
        case qx => omega
        case qy => omega
        case qd => ktr_room
        case qu => ktr_units
        clear F6 N6
        intro tk6 h8 tl6 F6 N6
        dsimp only
        repeat' ((fail_if_success (with_reducible show wpAny _ _ (call (Value.ref _) _) _ _ _)); (first | (k_unfold; (try dsimp only)) | (k_end; wrow_close) | walk1 | (dsimp only; walk1) | (leave1; walk_say "STEP leave1"; try dsimp only) | fail "no step"))
        have hbl := buildL_len hlA hlB
        k_dflt (refine' quote_c _ _ _ _ _ _ _ _ _ _ _ _ _ _ _ _ _ _ ?rB ?rF ?rX ?rN ?rT ?rk _ _ ?rx ?rd ?ru ?rr)
        case rB => k_asm
        case rF => exact F6
        case rX => k_asm
        case rN => exact N6
        case rT => k_asm
        case rk => rfl
        case rx => (show (strL _).cps.size ≤ _; rw [List.size_toArray]; omega)
        case rd => ktr_room
        case ru => ktr_units
        clear F6 N6
        intro tk7 h9 tl7 F6 N6
        rw [quote_is, hj]
        dsimp only
        repeat' ((fail_if_success (with_reducible show wpAny _ _ (subscriptTail _ _ (Value.ref _) (Value.int _ _)) _ _ _)); (first | (k_unfold; (try dsimp only)) | (k_end; wrow_close) | walk1 | (dsimp only; walk1) | (leave1; walk_say "STEP leave1"; try dsimp only) | fail "no step"))
        rename News _ _ _ _ => N7
        refine item_tupleT (News.isTup N7 (by k_mem)) (by decide) (by decide) rfl rfl ?_
        repeat' ((fail_if_success (with_reducible show wpAny _ _ (subscriptTail _ _ (Value.ref _) (Value.int _ _)) _ _ _)); (first | (k_unfold; (try dsimp only)) | (k_end; wrow_close) | walk1 | (dsimp only; walk1) | (leave1; walk_say "STEP leave1"; try dsimp only) | fail "no step"))
        refine item_tupleT (News.isTup N7 (by k_mem)) (by decide) (by decide) rfl rfl ?_
        repeat' ((fail_if_success (with_reducible show wpAny _ _ (newTuple _) _ _ _)); (first | (k_unfold; (try dsimp only)) | (k_end; wrow_close) | walk1 | (dsimp only; walk1) | (leave1; walk_say "STEP leave1"; try dsimp only) | fail "no step"))
        rename Fr _ _ _ _ => F7
        refine kup_newTuple F7 N7 (fun T2 h10 F8 N8 l8 => ?_) (by show 2 ≤ _; rw [sizeLine_eq]; decide)
        have hT2 : T2 ≠ Ds := Nat.ne_of_gt (l8 _ (.tail _ (.head _)))
        clear l8 F7 N7
        repeat' ((fail_if_success (with_reducible show wpAny _ _ (call (Value.builtin _) _) _ _ _)); (first | (k_unfold; (try dsimp only)) | (k_end; wrow_close) | walk1 | (dsimp only; walk1) | (leave1; walk_say "STEP leave1"; try dsimp only) | fail "no step"))
        refine append_K F8 N8 (.tail hT2 (.tail hT1 (.head hrD))) (fun h11 F9 N9 => ?_) (by rw [List.size_toArray, sizeLine_eq]; omega)
        clear F8 N8
        rw [List.push_toArray] at N9
        have hsp9 := spans_more (datAll_up hdat (fun q hq => List.mem_cons_of_mem (T2, tup [Value.int A.1 t1A, Value.int B'.2.1 t2B] 0) (List.mem_cons_of_mem (T1, tup [wA, wB] 0) (List.mem_cons_of_mem (Ds, listOf (us ++ [Value.ref T2]).toArray (k2 + 1)) hq)))) List.mem_cons_self
        repeat' ((fail_if_success (with_reducible show wpAny _ _ (call (Value.ref _) _) _ _ _)); (first | (k_unfold; (try dsimp only)) | (k_end; wrow_close) | walk1 | (dsimp only; walk1) | (leave1; walk_say "STEP leave1"; try dsimp only) | fail "no step"))
        rename Fr _ _ _ _ => F10
        rename News _ _ _ _ => N10
        have hsl : sp.length ≤ 4 := by omega
        k_dflt (refine' told_c _ _ _ _ _ _ _ _ _ _ _ _ _ _ _ _ _ _ ?tB ?tF ?tX ?tN ?tT ?tk Dw Ds ys (us ++ [Value.ref T2]) ys.length (k2 + 1) wl (sp ++ [(A.1, B'.2.1)]) A.1 B'.2.1 t1A t2B ?ta hys hokw ?tb hsp9 ?tc hlo hmid hhi ?td ?te ?tf ?tg ?tr)
        case tB => k_asm
        case tF => exact F10
        case tX => k_asm
        case tN => exact N10
        case tT => k_asm
        case tk => rfl
        case ta => exact .tail _ (.tail _ (.tail _ hmW'))
        case tb => exact .tail _ (.tail _ (.head _))
        case tc => (rw [List.length_append, List.length_singleton]; omega)
        case td => omega
        case te => exact List.mem_append.mpr (.inr (List.mem_singleton.mpr rfl))
        case tf => ktr_room
        case tg => ktr_units
        clear F10 N10
        intro tk8 h12 tl8 F10 N10
        dsimp only
        repeat' ((fail_if_success (with_reducible show wpAny _ _ (subscriptTail _ _ (Value.ref _) (Value.ref _)) _ _ _)); (first | (k_unfold; (try dsimp only)) | (k_end; wrow_close) | walk1 | (dsimp only; walk1) | (leave1; walk_say "STEP leave1"; try dsimp only) | fail "no step"))
        · exfalso
          rename_i hne
          simp at hne
        have hmD : (Di', listOf zs.toArray k1) ∈ (T2, tup [Value.int A.1 t1A, Value.int B'.2.1 t2B] 0) :: (T1, tup [wA, wB] 0) :: (Ds, listOf (us ++ [Value.ref T2]).toArray (k2 + 1)) :: rest := .tail _ (.tail _ (.tail _ hDi))
        refine kmk_slice F10 N10 (N10.isList hmD) .none (.int _ _) (fun D1 h13 F11 N11 l11 => ?_) (by with_unfolding_all rfl) (by intro _; with_unfolding_all rfl) (by rw [List.size_toArray, sizeLine_eq]; omega)
        rw [pick_take] at N11
        have hD1 : D1 ≠ Ds := Nat.ne_of_gt (l11 _ (.tail _ (.tail _ (.head _))))
        clear F10 N10 l11
        repeat' ((fail_if_success (with_reducible show wpAny _ _ (subscriptTail _ _ (Value.ref _) (Value.int _ _)) _ _ _)); (first | (k_unfold; (try dsimp only)) | (k_end; wrow_close) | walk1 | (dsimp only; walk1) | (leave1; walk_say "STEP leave1"; try dsimp only) | fail "no step"))
        refine item_tupleT (News.isTup N11 (by k_mem)) (by decide) (by decide) rfl rfl ?_
        repeat' ((fail_if_success (with_reducible show wpAny _ _ (subscriptTail _ _ (Value.ref _) (Value.int _ _)) _ _ _)); (first | (k_unfold; (try dsimp only)) | (k_end; wrow_close) | walk1 | (dsimp only; walk1) | (leave1; walk_say "STEP leave1"; try dsimp only) | fail "no step"))
        refine item_tupleT (News.isTup N11 (by k_mem)) (by decide) (by decide) rfl rfl ?_
        repeat' ((fail_if_success (with_reducible show wpAny _ _ (newTuple _) _ _ _)); (first | (k_unfold; (try dsimp only)) | (k_end; wrow_close) | walk1 | (dsimp only; walk1) | (leave1; walk_say "STEP leave1"; try dsimp only) | fail "no step"))
        refine kup_newTuple F11 N11 (fun T3 h14 F12 N12 l12 => ?_) (by show 3 ≤ _; rw [sizeLine_eq]; decide)
        have hT3 : T3 ≠ Ds := Nat.ne_of_gt (l12 _ (.tail _ (.tail _ (.tail _ (.head _)))))
        clear F11 N11 l12
        repeat' ((fail_if_success (with_reducible show wpAny _ _ (newList _) _ _ _)); (first | (k_unfold; (try dsimp only)) | (k_end; wrow_close) | walk1 | (dsimp only; walk1) | (leave1; walk_say "STEP leave1"; try dsimp only) | fail "no step"))
        refine newList_K F12 N12 (fun D2 h15 F13 N13 l13 => ?_)
        clear F12 N12 l13
        repeat' ((fail_if_success (with_reducible show wpAny _ _ (binaryOp _ _ _) _ _ _)); (first | (k_unfold; (try dsimp only)) | (k_end; wrow_close) | walk1 | (dsimp only; walk1) | (leave1; walk_say "STEP leave1"; try dsimp only) | fail "no step"))
        refine kmk_add_lit F13 N13 (N13.isList (by k_mem)) (N13.isList (by k_mem)) rfl (fun D3 h16 F14 N14 l14 => ?_) (by simp only [List.length_take, List.length_cons, List.length_nil, sizeLine_eq]; omega)
        clear F13 N13 l14
        repeat' ((fail_if_success (with_reducible show wpAny _ _ (subscriptTail _ _ (Value.ref _) (Value.ref _)) _ _ _)); (first | (k_unfold; (try dsimp only)) | (k_end; wrow_close) | walk1 | (dsimp only; walk1) | (leave1; walk_say "STEP leave1"; try dsimp only) | fail "no step"))
        refine kmk_slice F14 N14 (N14.isList (.tail _ (.tail _ (.tail _ (.tail _ hmD))))) (.int _ _) .none (fun D4 h17 F15 N15 l15 => ?_) (by with_unfolding_all rfl) (by intro _; with_unfolding_all rfl) (by rw [List.size_toArray, sizeLine_eq]; omega)
        rw [show slicePick zs.toArray (some (((pn : Nat) : Int) + 2)) none none = (zs.drop (pn + 2)).toArray from pick_drop zs (pn + 2)] at N15
        clear F14 N14 l15
        repeat' ((fail_if_success (with_reducible show wpAny _ _ (binaryOp _ _ _) _ _ _)); (first | (k_unfold; (try dsimp only)) | (k_end; wrow_close) | walk1 | (dsimp only; walk1) | (leave1; walk_say "STEP leave1"; try dsimp only) | fail "no step"))
        refine kmk_add_lit (zs := (zs.take pn ++ [Value.ref T3]) ++ zs.drop (pn + 2)) F15 N15 (N15.isList (by k_mem)) (N15.isList (by k_mem)) (by simp) (fun D5 h18 F16 N16 l16 => ?_) (by simp only [List.length_append, List.length_take, List.length_drop, List.length_cons, List.length_nil, sizeLine_eq]; omega)
        have hD5 : D5 ≠ Ds := Nat.ne_of_gt (l16 (Ds, listOf (us ++ [Value.ref T2]).toArray (k2 + 1)) (by k_mem))
        clear F15 N15 l16
        k_steps
        rename Fr _ _ _ _ => FZ
        rename News _ _ _ _ => NZ
        have hup : ∀ q ∈ rest, q ∈ (D5, listOf ((zs.take pn ++ [Value.ref T3]) ++ zs.drop (pn + 2)).toArray 0) :: (T3, tup [Value.int A.1 t1A, Value.int B'.2.1 t2B, Value.str (strL (toldF (wsF wl) (sp ++ [(A.1, B'.2.1)]) A.1 B'.2.1)) tk7] 0) :: (T2, tup [Value.int A.1 t1A, Value.int B'.2.1 t2B] 0) :: rest := fun q hq => .tail _ (.tail _ (.tail _ hq))
        have hit : ItemAll ((D5, listOf ((zs.take pn ++ [Value.ref T3]) ++ zs.drop (pn + 2)).toArray 0) :: (T3, tup [Value.int A.1 t1A, Value.int B'.2.1 t2B, Value.str (strL (toldF (wsF wl) (sp ++ [(A.1, B'.2.1)]) A.1 B'.2.1)) tk7] 0) :: (T2, tup [Value.int A.1 t1A, Value.int B'.2.1 t2B] 0) :: rest) ((zs.take pn ++ [Value.ref T3]) ++ zs.drop (pn + 2)) ((its.take pn ++ [(A.1, B'.2.1, some (toldF (wsF wl) (sp ++ [(A.1, B'.2.1)]) A.1 B'.2.1))]) ++ its.drop (pn + 2)) :=
          (((hits.take pn).mono hup).append (ItemAll.one (v := Value.ref T3) (it := (A.1, B'.2.1, some (toldF (wsF wl) (sp ++ [(A.1, B'.2.1)]) A.1 B'.2.1))) ⟨T3, t1A, t2B, _, 0, rfl, .tail _ (.head _), ⟨tk7, rfl⟩⟩)).append ((hits.drop (pn + 2)).mono hup)
        rw [show (its.take pn ++ [(A.1, B'.2.1, some (toldF (wsF wl) (sp ++ [(A.1, B'.2.1)]) A.1 B'.2.1))]) ++ its.drop (pn + 2) = its.take pn ++ (A.1, B'.2.1, some (toldF (wsF wl) (sp ++ [(A.1, B'.2.1)]) A.1 B'.2.1)) :: its.drop (pn + 2) by rw [List.append_assoc]; rfl] at hit
        have hlt : (its.take pn ++ (A.1, B'.2.1, some (toldF (wsF wl) (sp ++ [(A.1, B'.2.1)]) A.1 B'.2.1)) :: its.drop (pn + 2)).length < its.length := by
          have := congrArg List.length hsplit
          simp only [List.length_append, List.length_cons] at this ⊢
          omega
        have hNZ : News h₀ L _ ((Ds, listOf (us ++ [Value.ref T2]).toArray (k2 + 1)) :: (D5, listOf ((zs.take pn ++ [Value.ref T3]) ++ zs.drop (pn + 2)).toArray 0) :: (T3, tup [Value.int A.1 t1A, Value.int B'.2.1 t2B, Value.str (strL (toldF (wsF wl) (sp ++ [(A.1, B'.2.1)]) A.1 B'.2.1)) tk7] 0) :: (T2, tup [Value.int A.1 t1A, Value.int B'.2.1 t2B] 0) :: rest) := fun p hp => NZ p (by
          simp only [List.mem_cons] at hp
          rcases hp with rfl | rfl | rfl | rfl | hp <;> k_mem)
        refine ⟨_, _, _, _, _, rfl, FZ, hNZ, hlt, _, _, _, _, D5, 0, k2 + 1, _, _, _, _, _, rfl, I', rfl, ?_, fun q hq => hup q (hsx q hq), .head _, hit, spans_more (datAll_up hdat hup) (.tail _ (.tail _ (.head _))), map_law n_pl n_pr n_pt n_lr n_lt n_rt⟩
        intro p hp
        simp only [List.mem_cons] at hp
        rcases hp with rfl | rfl | rfl | hp
        · exact hD5
        · exact hT3
        · exact hT2
        · exact hrD p hp
end Mine
end

open Mine
theorem PySem.Challenge.cw_pe0026_01_holds : PySem.Challenge.rw_pe0026_01.Holds := by
  exact Mine.hd (by w_strict (k_go0
    <;> (
    rename_i w s0 s1 mg mb G Y fa o pm doc ho hg KX X V GL T B TE TW a10 o9 M w8 w7 hcd ns hs hlay0 hL1 hr1 hl2 w5 w4 sa wvs w1 hL ra we r0 hI hr hc1 hc2 K0 hD h1 tk1 F0 cw hcw N0 X0
    refine Mine.hide2 ?_
    intro QQ GG hQQ
    have hend : ∀ h' tk' m', Fr s1.heap s1.heap.objs.size h' m' → QQ (Flow.ret (Value.bool true)) { heap := h', gens := s1.gens, drawn := s1.drawn, toks := tk', os := s1.os } := by
      intro h' tk' m' F'
      apply hQQ
      dsimp only
      kc_close
    clear hQQ G Y X V GL B TE TW M hcd hs hlay0 hL1 hr1 hl2 ra we r0 hr hc2 hD X0
    dsimp only
    dsimp only at F0 hcw
    repeat' ((fail_if_success (with_reducible show wpAny _ _ (execs (Stmt.Assign _ (Expr.ListComp _ _ _ _) _ :: _) _) _ _ _)); (first | (k_unfold; (try dsimp only)) | (k_end; wrow_close) | walk1 | (dsimp only; walk1) | (leave1; walk_say "STEP leave1"; try dsimp only) | fail "no step"))
    rename_i D2 ws2 g4 hI2 hC1 hL1 l3 l9 g3 l2 D1 ws1 g2 hI1 l1 D0 ws0 g1 hI0 hC0 hL0 l0 g0 FX NX
    refine Mine.law_tail (nw := []) rfl ?_ hI0 K0 KX T FX rfl (fun p hp => NX p ?_) hcw (Nat.ne_of_lt l0.2.2.2) (fun p hp => by cases hp) hend
    · simp only [List.length_take, List.length_append, List.length_cons, List.length_nil]; omega
    · simp only [List.mem_cons, List.not_mem_nil, or_false] at hp ⊢
      rcases hp with hp | hp
      · exact .inl hp
      · exact .inr (.inr (.inr (.inr hp))))))
