import PyProof.Rows.All
import PySem.Builtin.Sre.Common
import PyProof.StrLawsIn
import PyProof.StrLawsFrom
import PyProof.StrLawsReplace
import PyProof.ListIndexNeg
import PyProof.SliceList
import PyProof.Rows.StrTemp
import KE.KIntText
import Wide.All
import OpenK.AllK
import Wide.FinOn
import Lean
import PySem.Challenge.RW_ny0115_01
set_option Elab.async false
set_option linter.all false

/-! ## Plain -/
section
namespace Mine

inductive Itm where
  | num (n : Nat)
  | txt (l : List Nat)

def kindOf (c : Nat) : Nat := if c = 46 ∨ c = 95 ∨ c = 43 ∨ c = 45 then 0 else if 48 ≤ c ∧ c ≤ 57 then 1 else 2

def curL : Option Itm → List Itm
  | none => []
  | some i => [i]

def nextN (cur : Option Itm) (c : Nat) : Nat := match cur with
  | some (.num n) => n * 10 + (c - 48)
  | _ => 0 * 10 + (c - 48)
def nextT (cur : Option Itm) (c : Nat) : List Nat := match cur with
  | some (.txt l) => l ++ [c]
  | _ => [] ++ [c]
def leftN : Option Itm → List Itm
  | some (.txt l) => [.txt l]
  | _ => []
def leftT : Option Itm → List Itm
  | some (.num n) => [.num n]
  | _ => []
def go : Option Itm → List Nat → List Itm
  | cur, [] => curL cur
  | cur, c :: r =>
    if kindOf c = 0 then curL cur ++ go none r
    else if kindOf c = 1 then leftN cur ++ go (some (.num (nextN cur c))) r
    else leftT cur ++ go (some (.txt (nextT cur c))) r

theorem go_nil (cur : Option Itm) : go cur [] = curL cur := rfl
theorem go_sep (cur : Option Itm) (c : Nat) (r : List Nat) (h : kindOf c = 0) : go cur (c :: r) = curL cur ++ go none r := by
  show (if kindOf c = 0 then _ else _) = _
  rw [if_pos h]
theorem go_dig (cur : Option Itm) (c : Nat) (r : List Nat) (h : kindOf c = 1) : go cur (c :: r) = leftN cur ++ go (some (.num (nextN cur c))) r := by
  show (if kindOf c = 0 then _ else if kindOf c = 1 then _ else _) = _
  rw [if_neg (by omega), if_pos h]
theorem go_oth (cur : Option Itm) (c : Nat) (r : List Nat) (h : kindOf c = 2) : go cur (c :: r) = leftT cur ++ go (some (.txt (nextT cur c))) r := by
  show (if kindOf c = 0 then _ else if kindOf c = 1 then _ else _) = _
  rw [if_neg (by omega), if_neg (by omega)]
theorem kind_cases (c : Nat) : kindOf c = 0 ∨ kindOf c = 1 ∨ kindOf c = 2 := by
  unfold kindOf
  by_cases h : c = 46 ∨ c = 95 ∨ c = 43 ∨ c = 45
  · exact .inl (if_pos h)
  · rw [if_neg h]
    by_cases h' : 48 ≤ c ∧ c ≤ 57
    · exact .inr (.inl (if_pos h'))
    · exact .inr (.inr (if_neg h'))

/-- what `_law_told` makes of one text run -/
def addPart (tab : Nat → List Itm) : List Itm × List Nat → Nat → List Itm × List Nat := fun st c =>
  match tab c with
  | [.txt s] => (st.1, st.2 ++ s)
  | [.txt s, .num n, .txt z] => (st.1 ++ [.txt (st.2 ++ s), .num n], z)
  | _ => st
def partsOf (tab : Nat → List Itm) (l : List Nat) : List Itm × List Nat := l.foldl (addPart tab) ([], [])
def partsL (tab : Nat → List Itm) (l : List Nat) : List Itm := (partsOf tab l).1 ++ [.txt (partsOf tab l).2]
def expand (tab : Nat → List Itm) : Itm → List Itm
  | .num n => [.num n]
  | .txt l => partsL tab l

/-- the table's word for a sign and what the escape writes of it agree -/
def Fits (tab : Nat → List Itm) (e : Nat → List Nat) (c : Nat) : Prop :=
  (kindOf c ≠ 2 → e c = [c]) ∧
  (kindOf c = 2 → (∃ s, tab c = [.txt s] ∧ e c = s ∧ s ≠ [] ∧ ∀ d ∈ s, kindOf d = 2) ∨
    (∃ s n z d, tab c = [.txt s, .num n, .txt z] ∧ e c = s ++ d ++ z ∧ s ≠ [] ∧ z ≠ [] ∧ d ≠ [] ∧ (∀ x ∈ s, kindOf x = 2) ∧ (∀ x ∈ z, kindOf x = 2) ∧ (∀ x ∈ d, kindOf x = 1) ∧ d.foldl (fun a x => a * 10 + (x - 48)) 0 = n))

theorem go_txt (s : List Nat) (hs : ∀ d ∈ s, kindOf d = 2) (q r : List Nat) : go (some (.txt q)) (s ++ r) = go (some (.txt (q ++ s))) r := by
  induction s generalizing q with
  | nil => simp
  | cons c s ih =>
    have hc : kindOf c = 2 := hs c (by simp)
    have := ih (fun d hd => hs d (by simp [hd])) (q ++ [c])
    rw [List.cons_append, go_oth _ _ _ hc]
    simpa [leftT, nextT] using this

theorem go_txt' (cur : Option Itm) (s : List Nat) (hne : s ≠ []) (hs : ∀ d ∈ s, kindOf d = 2) (r : List Nat) (hc : ∀ q, cur ≠ some (.txt q)) :
    go cur (s ++ r) = curL cur ++ go (some (.txt s)) r := by
  cases s with
  | nil => exact absurd rfl hne
  | cons c s =>
    have hk : kindOf c = 2 := hs c (by simp)
    have h2 := go_txt s (fun d hd => hs d (by simp [hd])) [c] r
    rw [List.cons_append, go_oth _ _ _ hk]
    have e : leftT cur = curL cur ∧ nextT cur c = [c] := by
      rcases cur with _ | (n | q)
      · exact ⟨rfl, rfl⟩
      · exact ⟨rfl, rfl⟩
      · exact absurd rfl (hc q)
    rw [e.1, e.2, h2]
    rfl

theorem go_num (s : List Nat) (hs : ∀ d ∈ s, kindOf d = 1) (n : Nat) (r : List Nat) : go (some (.num n)) (s ++ r) = go (some (.num (s.foldl (fun a x => a * 10 + (x - 48)) n))) r := by
  induction s generalizing n with
  | nil => simp
  | cons c s ih =>
    have hc : kindOf c = 1 := hs c (by simp)
    have := ih (fun d hd => hs d (by simp [hd])) (n * 10 + (c - 48))
    rw [List.cons_append, go_dig _ _ _ hc, List.foldl_cons]
    exact this

theorem go_num' (cur : Option Itm) (s : List Nat) (hne : s ≠ []) (hs : ∀ d ∈ s, kindOf d = 1) (r : List Nat) (hc : ∀ n, cur ≠ some (.num n)) :
    go cur (s ++ r) = curL cur ++ go (some (.num (s.foldl (fun a x => a * 10 + (x - 48)) 0))) r := by
  cases s with
  | nil => exact absurd rfl hne
  | cons c s =>
    have hk : kindOf c = 1 := hs c (by simp)
    have h2 := go_num s (fun d hd => hs d (by simp [hd])) (0 * 10 + (c - 48)) r
    rw [List.cons_append, go_dig _ _ _ hk, List.foldl_cons]
    have e : leftN cur = curL cur ∧ nextN cur c = 0 * 10 + (c - 48) := by
      rcases cur with _ | (n | q)
      · exact ⟨rfl, rfl⟩
      · exact absurd rfl (hc n)
      · exact ⟨rfl, rfl⟩
    rw [e.1, e.2, h2]

/-- the open run, as the escaped text has it -/
def curP (tab : Nat → List Itm) : Option Itm → List Itm
  | some (.txt l) => (partsOf tab l).1
  | _ => []
def curQ (tab : Nat → List Itm) : Option Itm → Option Itm
  | none => none
  | some (.num n) => some (.num n)
  | some (.txt l) => some (.txt (partsOf tab l).2)

theorem partsOf_snoc (tab : Nat → List Itm) (l : List Nat) (c : Nat) : partsOf tab (l ++ [c]) = addPart tab (partsOf tab l) c := by simp [partsOf]
theorem partsOf_one (tab : Nat → List Itm) (c : Nat) : partsOf tab [c] = addPart tab ([], []) c := by simp [partsOf]

theorem expand_curL (tab : Nat → List Itm) (cur : Option Itm) : (curL cur).flatMap (expand tab) = curP tab cur ++ curL (curQ tab cur) := by
  match cur with
  | none => simp [curL, curP, curQ]
  | some (.num n) => simp [curL, curP, curQ, expand]
  | some (.txt l) => simp [curL, curP, curQ, expand, partsL]

theorem go_esc (tab : Nat → List Itm) (e : Nat → List Nat) (rest : List Nat) (hf : ∀ c ∈ rest, Fits tab e c) (cur : Option Itm) :
    (go cur rest).flatMap (expand tab) = curP tab cur ++ go (curQ tab cur) (rest.flatMap e) := by
  induction rest generalizing cur with
  | nil => rw [go_nil, expand_curL]; rfl
  | cons c r ih =>
    have hfc := hf c (by simp)
    have ih := fun cur => ih (fun d hd => hf d (by simp [hd])) cur
    rcases kind_cases c with hk | hk | hk
    · have he := hfc.1 (by omega)
      rw [List.flatMap_cons, he, List.cons_append, List.nil_append, go_sep _ _ _ hk, go_sep _ _ _ hk, List.flatMap_append, ih none, expand_curL]
      simp [curP, curQ]
    · have he := hfc.1 (by omega)
      rw [List.flatMap_cons, he, List.cons_append, List.nil_append, go_dig _ _ _ hk, go_dig _ _ _ hk, List.flatMap_append, ih]
      have e : (leftN cur).flatMap (expand tab) = curP tab cur ++ leftN (curQ tab cur) ∧ nextN (curQ tab cur) c = nextN cur c := by
        rcases cur with _ | (n | q)
        · exact ⟨rfl, rfl⟩
        · exact ⟨rfl, rfl⟩
        · exact ⟨by simp [leftN, expand, partsL, curP, curQ], rfl⟩
      rw [e.1, e.2]
      simp [curP, curQ]
    · have h2 := hfc.2 hk
      rw [List.flatMap_cons]
      rw [go_oth _ _ _ hk, List.flatMap_append, ih]
      rcases h2 with ⟨s, ht, he, hne, hs⟩ | ⟨s, n, z, d, ht, he, hsne, hzne, hdne, hs, hz, hd, hn⟩
      · rw [he]
        match cur with
        | none =>
          rw [show curQ tab none = none from rfl, go_txt' none s hne hs _ (by simp)]
          simp [leftT, curP, curQ, nextT, partsOf_one, addPart, ht, curL]
        | some (.num m) =>
          rw [show curQ tab (some (.num m)) = some (.num m) from rfl, go_txt' _ s hne hs _ (by simp)]
          simp [leftT, curP, curQ, nextT, partsOf_one, addPart, ht, curL, expand]
        | some (.txt l) =>
          simp only [curQ, go_txt s hs]
          simp [leftT, curP, nextT, partsOf_snoc, addPart, ht]
      · rw [he, List.append_assoc, List.append_assoc]
        match cur with
        | none =>
          rw [show curQ tab none = none from rfl, go_txt' none s hsne hs _ (by simp), go_num' _ d hdne hd _ (by simp), go_txt' _ z hzne hz _ (by simp), hn]
          simp [leftT, curP, curQ, nextT, partsOf_one, addPart, ht, curL]
        | some (.num m) =>
          rw [show curQ tab (some (.num m)) = some (.num m) from rfl, go_txt' _ s hsne hs _ (by simp), go_num' _ d hdne hd _ (by simp), go_txt' _ z hzne hz _ (by simp), hn]
          simp [leftT, curP, curQ, nextT, partsOf_one, addPart, ht, curL, expand]
        | some (.txt l) =>
          simp only [curQ]
          rw [go_txt s hs, go_num' _ d hdne hd _ (by simp), go_txt' _ z hzne hz _ (by simp), hn]
          simp [leftT, curP, nextT, partsOf_snoc, addPart, ht, curL]

theorem go_told (tab : Nat → List Itm) (e : Nat → List Nat) (t : List Nat) (hf : ∀ c ∈ t, Fits tab e c) :
    (go none t).flatMap (expand tab) = go none (t.flatMap e) := by simpa [curP, curQ] using go_esc tab e t hf none

end Mine
end

/-! ## Sre1 -/
section
set_option maxRecDepth 100000
namespace Mine
open PySem PySem.Sre

def C : Array Nat := #[14, 4, 0, 1, 4294967295, 17, 0, 7, 14, 24, 10, 1, 4294967295, 13, 5, 22, 48, 57, 0, 1, 15, 17, 15, 13, 11, 9, 0, 26624, 2147483648, 0, 0, 0, 0, 0, 0, 15, 2, 0, 17, 1, 1]

theorem inDigit (c : Nat) (seen : Seen) : ∃ seen', accepts C 13 c seen = .ok (decide (kindOf c = 1), seen') := by
  by_cases h : 48 ≤ c ∧ c ≤ 57
  · have hk : kindOf c = 1 := by unfold kindOf; rw [if_neg (by omega), if_pos h]
    have e : (Nat.ble 48 c && Nat.ble c 57) = true := by simp [h.1, h.2]
    refine ⟨seen.add 22, ?_⟩
    show inSet C c 41 15 true seen = _
    show (if (decide (48 ≤ c) && decide (c ≤ 57)) = true then (Except.ok (true, seen.add 22) : Except String (Bool × Seen)) else _) = _
    rw [if_pos (by simp [h.1, h.2])]
    simp [hk]
  · have hk : ¬ kindOf c = 1 := by
      unfold kindOf
      by_cases h' : c = 46 ∨ c = 95 ∨ c = 43 ∨ c = 45
      · rw [if_pos h']; omega
      · rw [if_neg h', if_neg h]; omega
    refine ⟨(seen.add 22).add 0, ?_⟩
    show inSet C c 41 15 true seen = _
    show (if (decide (48 ≤ c) && decide (c ≤ 57)) = true then _ else inSet C c 40 18 true (seen.add 22)) = _
    rw [if_neg (by simp; omega)]
    show (Except.ok (false, (seen.add 22).add 0) : Except String (Bool × Seen)) = _
    simp [hk]

theorem bits_ok : ∀ c : Fin 256, (C.getD (25 + (1 + c.val / 32)) 0).testBit (c.val % 32) = decide (kindOf c.val = 0) := by decide +kernel

theorem inSep (c : Nat) (seen : Seen) : ∃ seen', accepts C 23 c seen = .ok (decide (kindOf c = 0), seen') := by
  by_cases h : c < 256
  · have hb := bits_ok ⟨c, h⟩
    simp only at hb
    by_cases hk : kindOf c = 0
    · refine ⟨seen.add 9, ?_⟩
      show (if (decide (c < 256) && (C.getD (25 + (1 + c / 32)) 0).testBit (c % 32)) = true then (Except.ok (true, seen.add 9) : Except String (Bool × Seen)) else _) = _
      rw [if_pos (by rw [hb]; simp [h, hk])]
      simp [hk]
    · refine ⟨(seen.add 9).add 0, ?_⟩
      show (if (decide (c < 256) && (C.getD (25 + (1 + c / 32)) 0).testBit (c % 32)) = true then (Except.ok (true, seen.add 9) : Except String (Bool × Seen)) else inSet C c 40 34 true (seen.add 9)) = _
      rw [if_neg (by rw [hb]; simp [h, hk])]
      show (Except.ok (false, (seen.add 9).add 0) : Except String (Bool × Seen)) = _
      simp [hk]
  · have hk : ¬ kindOf c = 0 := by unfold kindOf; rw [if_neg (by omega)]; split <;> omega
    refine ⟨(seen.add 9).add 0, ?_⟩
    show (if (decide (c < 256) && (C.getD (25 + (1 + c / 32)) 0).testBit (c % 32)) = true then (Except.ok (true, seen.add 9) : Except String (Bool × Seen)) else inSet C c 40 34 true (seen.add 9)) = _
    rw [if_neg (by simp [h])]
    show (Except.ok (false, (seen.add 9).add 0) : Except String (Bool × Seen)) = _
    simp [hk]

abbrev Fr1 (p : Nat) (first : Bool) : Sre.Frame := { wait := .nextStart, pc := 5, pos := p, outermost := first }
abbrev At (text : Array Nat) (lim ls p : Nat) (marks : Array (Option Nat)) (first : Bool) (seen : Seen) : M :=
  { code := C, text, lim, start := p, lastStart := ls, wholeText := false, mustAdvance := false, pc := 5, pos := p, handed := p, outermost := first, marks, lastmark := -1, lastindex := -1, loops := #[], inner := none,
    frames := [Fr1 p first], weight := 1, answer := none, seen, outcome := none }
section
variable (text : Array Nat) (lim ls p : Nat) (marks : Array (Option Nat)) (first : Bool) (seen : Seen)
theorem s1 : (At text lim ls p marks first seen).step = { At text lim ls p (marks.setIfInBounds 0 (some p)) first (seen.add 17) with lastmark := 0, pc := 7 } := rfl
abbrev KeptB : Sre.Kept := { lastmark := 0, lastindex := -1, whole := false, marks := #[] }
abbrev Fr2 (pc p : Nat) (first : Bool) : Sre.Frame := { wait := .nextBranch, pc := pc, pos := p, outermost := first, kept := KeptB }
theorem s2 : ({ At text lim ls p marks first seen with lastmark := 0, pc := 7 } : M).step =
   { At text lim ls p marks first (seen.add 7) with lastmark := 0, pc := 9, frames := [Fr2 8 p first, Fr1 p first], weight := 2 } := rfl

abbrev LI : Int := ((1 / 2 + 1 : Nat) : Int)
/-- the state at REPEAT_ONE -/
abbrev At3 : M := { At text lim ls p marks first seen with lastmark := 0, pc := 9, frames := [Fr2 8 p first, Fr1 p first], weight := 2 }
theorem s3_end (h : lim ≤ p) : (At3 text lim ls p marks first seen).step = { At3 text lim ls p marks first (seen.add 24) with answer := some false } := by
  show (if ((1 : Nat) : Int) > ((lim : Nat) : Int) - ((p : Nat) : Int) then M.say (At3 text lim ls p marks first (seen.add 24)) false else _) = _
  rw [if_pos (by omega)]
  rfl
theorem s3_run (h : p < lim) : (At3 text lim ls p marks first seen).step =
    match run C text 13 (min 4294967295 ((lim : Int) - (p : Int)).toNat) p 0 ((seen.add 24).add 13) with
    | .error why => M.stick (At3 text lim ls p marks first (seen.add 24)) why
    | .ok (n, seen') => if n < 1 then { At3 text lim ls p marks first seen' with answer := some false }
      else M.afterRun { At3 text lim ls p marks first seen' with pos := p + n } .giveBack n KeptB := by
  show (if ((1 : Nat) : Int) > ((lim : Nat) : Int) - ((p : Nat) : Int) then M.say (At3 text lim ls p marks first (seen.add 24)) false else _) = _
  rw [if_neg (by omega)]
  rfl
abbrev Fr3 (p n : Nat) (first : Bool) : Sre.Frame := { wait := .giveBack, pc := 9, pos := p + n, outermost := first, count := n, kept := KeptB }
abbrev At4 (n : Nat) : M := { At text lim ls p marks first seen with lastmark := 0, pc := 20, pos := p + n, handed := p + n, frames := [Fr3 p n first, Fr2 8 p first, Fr1 p first], weight := 3 }
theorem s4 (n : Nat) : M.afterRun { At3 text lim ls p marks first seen with pos := p + n } .giveBack n KeptB = At4 text lim ls p marks first seen n := rfl
theorem s5 (n : Nat) : (At4 text lim ls p marks first seen n).step = { At4 text lim ls p marks first (seen.add 15) n with pc := 38 } := rfl
theorem s6 (n : Nat) : ({ At4 text lim ls p marks first seen n with pc := 38 } : M).step = { At4 text lim ls p (marks.setIfInBounds 1 (some (p + n))) first (seen.add 17) n with pc := 40, lastmark := 1, lastindex := LI } := rfl
theorem s7 (n : Nat) : ({ At4 text lim ls p marks first seen n with pc := 40, lastmark := 1, lastindex := LI } : M).step = { At4 text lim ls p marks first (seen.add 1) n with pc := 40, lastmark := 1, lastindex := LI, answer := some true } := by
  cases first <;> rfl
theorem s8 (n : Nat) : ({ At4 text lim ls p marks first seen n with pc := 40, lastmark := 1, lastindex := LI, answer := some true } : M).step = { At4 text lim ls p marks first seen n with pc := 9, lastmark := 1, lastindex := LI, frames := [Fr2 8 p first, Fr1 p first], weight := 2, answer := some true } := rfl
theorem s9 (n : Nat) : ({ At4 text lim ls p marks first seen n with pc := 9, lastmark := 1, lastindex := LI, frames := [Fr2 8 p first, Fr1 p first], weight := 2, answer := some true } : M).step = { At4 text lim ls p marks first seen n with pc := 8, pos := p, lastmark := 1, lastindex := LI, frames := [Fr1 p first], weight := 1, answer := some true } := rfl
theorem s10 (n : Nat) : ({ At4 text lim ls p marks first seen n with pc := 8, pos := p, lastmark := 1, lastindex := LI, frames := [Fr1 p first], weight := 1, answer := some true } : M).step = { At4 text lim ls p marks first seen n with pc := 5, pos := p, lastmark := 1, lastindex := LI, frames := [], weight := 0, answer := some true } := rfl
theorem s11 (n : Nat) : ({ At4 text lim ls p marks first seen n with pc := 5, pos := p, lastmark := 1, lastindex := LI, frames := [], weight := 0, answer := some true } : M).step = { At4 text lim ls p marks first seen n with pc := 5, pos := p, lastmark := 1, lastindex := LI, frames := [], weight := 0, answer := some true, outcome := some .matched } := rfl

/-- the second branch -/
abbrev At5 : M := { At text lim ls p marks first seen with lastmark := 0, pc := 23, frames := [Fr2 22 p first, Fr1 p first], weight := 2 }
theorem t4 : ({ At3 text lim ls p marks first seen with answer := some false } : M).step = At5 text lim ls p marks first seen := rfl
theorem t5_end (h : lim ≤ p) : (At5 text lim ls p marks first seen).step = { At5 text lim ls p marks first (seen.add 13) with answer := some false } := by
  show (if p ≥ lim then M.say (At5 text lim ls p marks first (seen.add 13)) false else _) = _
  rw [if_pos h]
  rfl
theorem t5_run (h : p < lim) : (At5 text lim ls p marks first seen).step = 
    match accepts C 23 (text.getD p 0) (seen.add 13) with
    | .error why => M.stick (At5 text lim ls p marks first (seen.add 13)) why
    | .ok (false, seen') => { At5 text lim ls p marks first seen' with answer := some false }
    | .ok (true, seen') => { At5 text lim ls p marks first seen' with pc := 35, pos := p + 1 } := by
  show (if p ≥ lim then M.say (At5 text lim ls p marks first (seen.add 13)) false else _) = _
  rw [if_neg (by omega)]
  rfl
theorem t6 : ({ At5 text lim ls p marks first seen with pc := 35, pos := p + 1 } : M).step = { At5 text lim ls p marks first (seen.add 15) with pc := 38, pos := p + 1 } := rfl
theorem t7 : ({ At5 text lim ls p marks first seen with pc := 38, pos := p + 1 } : M).step = { At5 text lim ls p (marks.setIfInBounds 1 (some (p + 1))) first (seen.add 17) with pc := 40, pos := p + 1, lastmark := 1, lastindex := LI } := rfl
theorem t8 : ({ At5 text lim ls p marks first seen with pc := 40, pos := p + 1, lastmark := 1, lastindex := LI } : M).step = { At5 text lim ls p marks first (seen.add 1) with pc := 40, pos := p + 1, lastmark := 1, lastindex := LI, handed := p + 1, answer := some true } := by
  cases first <;> rfl
theorem t9 : ({ At5 text lim ls p marks first seen with pc := 40, pos := p + 1, lastmark := 1, lastindex := LI, handed := p + 1, answer := some true } : M).step = { At5 text lim ls p marks first seen with pc := 22, pos := p, lastmark := 1, lastindex := LI, handed := p + 1, answer := some true, frames := [Fr1 p first], weight := 1 } := rfl
theorem t10 : ({ At5 text lim ls p marks first seen with pc := 22, pos := p, lastmark := 1, lastindex := LI, handed := p + 1, answer := some true, frames := [Fr1 p first], weight := 1 } : M).step = { At5 text lim ls p marks first seen with pc := 5, pos := p, lastmark := 1, lastindex := LI, handed := p + 1, answer := some true, frames := [], weight := 0 } := rfl
theorem t11 : ({ At5 text lim ls p marks first seen with pc := 5, pos := p, lastmark := 1, lastindex := LI, handed := p + 1, answer := some true, frames := [], weight := 0 } : M).step = { At5 text lim ls p marks first seen with pc := 5, pos := p, lastmark := 1, lastindex := LI, handed := p + 1, answer := some true, frames := [], weight := 0, outcome := some .matched } := rfl

/-- neither branch -/
theorem u6 : ({ At5 text lim ls p marks first seen with answer := some false } : M).step = { At5 text lim ls p marks first seen with pc := 22, answer := some false, frames := [Fr1 p first], weight := 1 } := rfl
theorem u7_next (h : p < ls) : ({ At5 text lim ls p marks first seen with pc := 22, answer := some false, frames := [Fr1 p first], weight := 1 } : M).step = At text lim ls (p + 1) marks false seen := by
  show (if p < ls then M.attemptFrom _ (p + 1) false else _) = _
  rw [if_pos h]
  rfl
theorem u7_end (h : ls ≤ p) : ({ At5 text lim ls p marks first seen with pc := 22, answer := some false, frames := [Fr1 p first], weight := 1 } : M).step = { At5 text lim ls p marks first seen with pc := 5, answer := some false, frames := [], weight := 0 } := by
  show (if p < ls then M.attemptFrom _ (p + 1) false else _) = _
  rw [if_neg (by omega)]
  rfl
theorem u8 : ({ At5 text lim ls p marks first seen with pc := 5, answer := some false, frames := [], weight := 0 } : M).step = { At5 text lim ls p marks first seen with pc := 5, answer := some false, frames := [], weight := 0, outcome := some .failed } := rfl
end
end Mine
end

/-! ## Sre2 -/
section
set_option maxRecDepth 100000
namespace Mine
open PySem PySem.Sre

theorem runFor_succ {m : M} (h : m.outcome = none) (n : Nat) : M.runFor (n + 1) m = M.runFor n m.step := by
  show (if m.outcome.isSome = true then m else M.runFor n m.step) = _
  rw [h]; rfl
theorem runFor_done {m : M} (h : m.outcome.isSome = true) : ∀ n, M.runFor n m = m
  | 0 => rfl
  | n + 1 => by
    show (if m.outcome.isSome = true then m else M.runFor n m.step) = _
    rw [if_pos h]

structure Reach (k : Nat) (m m' : M) : Prop where
  run : ∀ n, M.runFor (k + n) m = M.runFor n m'
theorem Reach.one {m m' : M} (h : m.outcome = none) (e : m.step = m') : Reach 1 m m' := ⟨fun n => by
  rw [Nat.add_comm, runFor_succ h, e]⟩
theorem Reach.trans {a b : Nat} {m m' m'' : M} (h : Reach a m m') (g : Reach b m' m'') : Reach (a + b) m m'' := ⟨fun n => by
  rw [Nat.add_assoc, h.run, g.run]⟩

def digitP (c : Nat) : Bool := decide (kindOf c = 1)

theorem run_spec (text : Array Nat) : ∀ (r : List Nat) (p found : Nat) (seen : Seen), (∀ i (h : i < r.length), text.getD (p + i) 0 = r[i]) →
    ∃ seen', run C text 13 r.length p found seen = .ok (found + (r.takeWhile digitP).length, seen')
  | [], _, found, seen, _ => ⟨seen, rfl⟩
  | c :: r, p, found, seen, h => by
    have h0 : text.getD p 0 = c := h 0 (by simp)
    obtain ⟨s1, e1⟩ := inDigit c seen
    by_cases hk : kindOf c = 1
    · obtain ⟨s2, e2⟩ := run_spec text r (p + 1) (found + 1) s1 (fun i hi => by
        have := h (i + 1) (by simpa using hi)
        rw [Nat.add_assoc, Nat.add_comm 1 i]
        simpa using this)
      refine ⟨s2, ?_⟩
      show (do let (yes, seen) ← accepts C 13 (text.getD p 0) seen; if yes then run C text 13 r.length (p + 1) (found + 1) seen else pure (found, seen) : Except String (Nat × Seen)) = _
      rw [h0, e1]
      show (if decide (kindOf c = 1) = true then run C text 13 r.length (p + 1) (found + 1) s1 else pure (found, s1)) = _
      rw [if_pos (by simp [hk]), e2]
      simp [digitP, hk]
      omega
    · refine ⟨s1, ?_⟩
      show (do let (yes, seen) ← accepts C 13 (text.getD p 0) seen; if yes then run C text 13 r.length (p + 1) (found + 1) seen else pure (found, seen) : Except String (Nat × Seen)) = _
      rw [h0, e1]
      show (if decide (kindOf c = 1) = true then run C text 13 r.length (p + 1) (found + 1) s1 else pure (found, s1)) = _
      rw [if_neg (by simp [hk])]
      simp [digitP, hk]
      rfl

structure Done (m : M) (a b : Nat) : Prop where
  out : m.outcome = some .matched
  start : m.start = a
  handed : m.handed = b
  lastmark : m.lastmark = 1
  g0 : m.marks.getD 0 none = some a
  g1 : m.marks.getD 1 none = some b
section
variable (text : Array Nat) (lim ls p : Nat) (marks : Array (Option Nat)) (first : Bool) (seen : Seen)

theorem head_reach : Reach 2 (At text lim ls p marks first seen) (At3 text lim ls p (marks.setIfInBounds 0 (some p)) first ((seen.add 17).add 7)) :=
  (Reach.one rfl (s1 ..)).trans (.one rfl (s2 ..))

theorem pos_end (h : lim ≤ p) (hl : ls ≤ p) : ∃ m', Reach 8 (At text lim ls p marks first seen) m' ∧ m'.outcome = some .failed :=
  ⟨_, Reach.trans (head_reach ..) ((Reach.one rfl (s3_end _ _ _ _ _ _ _ h)).trans ((Reach.one rfl (t4 ..)).trans ((Reach.one rfl (t5_end _ _ _ _ _ _ _ h)).trans ((Reach.one rfl (u6 ..)).trans ((Reach.one rfl (u7_end _ _ _ _ _ _ _ hl)).trans (.one rfl (u8 ..))))))), rfl⟩ 

theorem digit_run (r : List Nat) (hp : p < lim) (hr : ∀ i (h : i < r.length), text.getD (p + i) 0 = r[i]) (hlen : p + r.length = lim) (hsm : lim < 4294967295) :
    ∃ seen', (At3 text lim ls p marks first seen).step = if (r.takeWhile digitP).length < 1 then { At3 text lim ls p marks first seen' with answer := some false } else At4 text lim ls p marks first seen' (r.takeWhile digitP).length := by
  obtain ⟨s', e⟩ := run_spec text r p 0 ((seen.add 24).add 13) hr
  refine ⟨s', ?_⟩
  rw [s3_run _ _ _ _ _ _ _ hp]
  have hm : min 4294967295 ((lim : Int) - (p : Int)).toNat = r.length := by omega
  rw [hm, e, Nat.zero_add]
  rfl

theorem pos_digit (r : List Nat) (hp : p < lim) (hr : ∀ i (h : i < r.length), text.getD (p + i) 0 = r[i]) (hlen : p + r.length = lim) (hsm : lim < 4294967295) (hk : 1 ≤ (r.takeWhile digitP).length) (hm : marks.size = 2) :
    ∃ m', Reach 10 (At text lim ls p marks first seen) m' ∧ Done m' p (p + (r.takeWhile digitP).length) := by
  obtain ⟨s', e⟩ := digit_run text lim ls p (marks.setIfInBounds 0 (some p)) first ((seen.add 17).add 7) r hp hr hlen hsm
  rw [if_neg (by omega)] at e
  refine ⟨_, Reach.trans (head_reach ..) ((Reach.one rfl e).trans ((Reach.one rfl (s5 ..)).trans ((Reach.one rfl (s6 ..)).trans ((Reach.one rfl (s7 ..)).trans ((Reach.one rfl (s8 ..)).trans ((Reach.one rfl (s9 ..)).trans ((Reach.one rfl (s10 ..)).trans (.one rfl (s11 ..))))))))), rfl, rfl, rfl, rfl, ?_, ?_⟩
  · simp [hm]
  · simp [hm]

theorem no_digit (c : Nat) (r : List Nat) (hp : p < lim) (hr : ∀ i (h : i < (c :: r).length), text.getD (p + i) 0 = (c :: r)[i]) (hlen : p + (c :: r).length = lim) (hsm : lim < 4294967295) (hk : kindOf c ≠ 1) :
    ∃ seen', Reach 4 (At text lim ls p marks first seen) (At5 text lim ls p (marks.setIfInBounds 0 (some p)) first seen') := by
  obtain ⟨s', e⟩ := digit_run text lim ls p (marks.setIfInBounds 0 (some p)) first ((seen.add 17).add 7) (c :: r) hp hr hlen hsm
  have h0 : ((c :: r).takeWhile digitP).length = 0 := by simp [digitP, hk]
  rw [if_pos (by omega)] at e
  exact ⟨_, Reach.trans (head_reach ..) ((Reach.one rfl e).trans (.one rfl (t4 ..)))⟩

theorem pos_sep (c : Nat) (r : List Nat) (hp : p < lim) (hr : ∀ i (h : i < (c :: r).length), text.getD (p + i) 0 = (c :: r)[i]) (hlen : p + (c :: r).length = lim) (hsm : lim < 4294967295) (hk : kindOf c = 0) (hm : marks.size = 2) :
    ∃ m', Reach 11 (At text lim ls p marks first seen) m' ∧ Done m' p (p + 1) := by
  obtain ⟨s', e⟩ := no_digit text lim ls p marks first seen c r hp hr hlen hsm (by omega)
  have h0 : text.getD p 0 = c := hr 0 (by simp)
  obtain ⟨s2, e2⟩ := inSep c (s'.add 13)
  have e3 := t5_run text lim ls p (marks.setIfInBounds 0 (some p)) first s' hp
  rw [h0, e2, decide_eq_true hk] at e3
  refine ⟨_, e.trans ((Reach.one rfl e3).trans ((Reach.one rfl (t6 ..)).trans ((Reach.one rfl (t7 ..)).trans ((Reach.one rfl (t8 ..)).trans ((Reach.one rfl (t9 ..)).trans ((Reach.one rfl (t10 ..)).trans (.one rfl (t11 ..)))))))), rfl, rfl, rfl, rfl, ?_, ?_⟩
  · simp [hm]
  · simp [hm]

theorem pos_other (c : Nat) (r : List Nat) (hp : p < lim) (hr : ∀ i (h : i < (c :: r).length), text.getD (p + i) 0 = (c :: r)[i]) (hlen : p + (c :: r).length = lim) (hsm : lim < 4294967295) (hk : kindOf c = 2) (hl : p < ls) :
    ∃ seen', Reach 7 (At text lim ls p marks first seen) (At text lim ls (p + 1) (marks.setIfInBounds 0 (some p)) false seen') := by
  obtain ⟨s', e⟩ := no_digit text lim ls p marks first seen c r hp hr hlen hsm (by omega)
  have h0 : text.getD p 0 = c := hr 0 (by simp)
  obtain ⟨s2, e2⟩ := inSep c (s'.add 13)
  have e3 := t5_run text lim ls p (marks.setIfInBounds 0 (some p)) first s' hp
  rw [h0, e2, decide_eq_false (by omega)] at e3
  exact ⟨_, e.trans ((Reach.one rfl e3).trans ((Reach.one rfl (u6 ..)).trans (.one rfl (u7_next _ _ _ _ _ _ _ hl))))⟩
end

def found : List Nat → Nat → Option (Nat × Nat)
  | [], _ => none
  | c :: r, p => if kindOf c = 0 then some (p, p + 1) else if kindOf c = 1 then some (p, p + ((c :: r).takeWhile digitP).length) else found r (p + 1)

def Ends (m : M) : Option (Nat × Nat) → Prop
  | none => m.outcome = some .failed
  | some (a, b) => Done m a b

theorem search_at (text : Array Nat) (lim : Nat) (hsm : lim < 4294967295) : ∀ (r : List Nat) (p : Nat) (marks : Array (Option Nat)) (first : Bool) (seen : Seen), (∀ i (h : i < r.length), text.getD (p + i) 0 = r[i]) → p + r.length = lim → marks.size = 2 →
    ∃ k m', k ≤ 7 * r.length + 11 ∧ Reach k (At text lim lim p marks first seen) m' ∧ Ends m' (found r p)
  | [], p, marks, first, seen, _, hl, _ => by
    obtain ⟨m', h1, h2⟩ := pos_end text lim lim p marks first seen (by simp at hl; omega) (by simp at hl; omega)
    exact ⟨8, m', by omega, h1, h2⟩
  | c :: r, p, marks, first, seen, hr, hl, hm => by
    have hp : p < lim := by simp at hl; omega
    rcases kind_cases c with hk | hk | hk
    · obtain ⟨m', h1, h2⟩ := pos_sep text lim lim p marks first seen c r hp hr hl hsm hk hm
      exact ⟨11, m', by omega, h1, by simp only [found, hk, if_true]; exact h2⟩
    · have hd : 1 ≤ ((c :: r).takeWhile digitP).length := by simp [digitP, hk]
      obtain ⟨m', h1, h2⟩ := pos_digit text lim lim p marks first seen (c :: r) hp hr hl hsm hd hm
      refine ⟨10, m', by omega, h1, ?_⟩
      have : found (c :: r) p = some (p, p + ((c :: r).takeWhile digitP).length) := by
        show (if kindOf c = 0 then _ else if kindOf c = 1 then _ else _) = _
        rw [if_neg (by omega), if_pos hk]
      rw [this]; exact h2
    · obtain ⟨s', h1⟩ := pos_other text lim lim p marks first seen c r hp hr hl hsm hk hp
      obtain ⟨k, m', h2, h3, h4⟩ := search_at text lim hsm r (p + 1) (marks.setIfInBounds 0 (some p)) false s' (fun i hi => by
        have := hr (i + 1) (by simpa using hi)
        rw [Nat.add_assoc, Nat.add_comm 1 i]
        simpa using this) (by simp at hl; omega) (by simpa using hm)
      refine ⟨7 + k, m', by simp only [List.length_cons]; omega, h1.trans h3, ?_⟩
      have : found (c :: r) p = found r (p + 1) := by
        show (if kindOf c = 0 then _ else if kindOf c = 1 then _ else _) = _
        rw [if_neg (by omega), if_neg (by omega)]
      rw [this]; exact h4

theorem forSearch_eq (text : Array Nat) (p lim : Nat) (h : p < lim) :
    forSearch C text 1 p lim false = At text lim lim p #[none, none] true (({} : Seen).add 14) := by
  show (if (decide (p > lim) || decide (lim - p < 1)) = true then _ else _) = _
  rw [if_neg (by simp; omega)]
  rfl
theorem forSearch_end (text : Array Nat) (lim : Nat) : ∃ m', Reach 1 (forSearch C text 1 lim lim false) m' ∧ m'.outcome = some .failed := by
  refine ⟨_, .one ?_ rfl, ?_⟩
  · show (if (decide (lim > lim) || decide (lim - lim < 1)) = true then _ else _ : M).outcome = _
    rw [if_pos (by simp)]; rfl
  · show (M.step (if (decide (lim > lim) || decide (lim - lim < 1)) = true then _ else _ : M)).outcome = _
    rw [if_pos (by simp)]; rfl

theorem search_ok (l : List Nat) (hsm : l.length < 4294967295) (p : Nat) (hp : p ≤ l.length) :
    ∃ k m', k ≤ 7 * l.length + 11 ∧ Reach k (forSearch C l.toArray 1 p l.length false) m' ∧ Ends m' (found (l.drop p) p) := by
  by_cases h : p < l.length
  · rw [forSearch_eq _ _ _ h]
    obtain ⟨k, m', h1, h2, h3⟩ := search_at l.toArray l.length hsm (l.drop p) p #[none, none] true (({} : Seen).add 14) (fun i hi => by
      simp only [List.length_drop] at hi
      simp [show p + i < l.length by omega]) (by simp; omega) rfl
    exact ⟨k, m', by simp at h1; omega, h2, h3⟩
  · obtain rfl : p = l.length := by omega
    obtain ⟨m', h1, h2⟩ := forSearch_end l.toArray l.length
    exact ⟨1, m', by omega, h1, by rw [List.drop_length]; exact h2⟩

theorem search_run (l : List Nat) (hsm : l.length < 4294967295) (p : Nat) (hp : p ≤ l.length) :
    ∃ m', (∀ n, 7 * l.length + 11 ≤ n → M.runFor n (forSearch C l.toArray 1 p l.length false) = m') ∧ m'.outcome.isSome = true ∧ Ends m' (found (l.drop p) p) := by
  obtain ⟨k, m', h1, h2, h3⟩ := search_ok l hsm p hp
  have ho : m'.outcome.isSome = true := by
    cases hf : found (l.drop p) p with
    | none => rw [hf] at h3; rw [show m'.outcome = _ from h3]; rfl
    | some ab => rw [hf] at h3; rw [(show Done m' ab.1 ab.2 from h3).out]; rfl
  refine ⟨m', fun n hn => ?_, ho, h3⟩
  have := h2.run (n - k)
  rw [show k + (n - k) = n by omega] at this
  rw [this, runFor_done ho]
end Mine
end

/-! ## Sre3 -/
section
set_option maxRecDepth 100000
namespace Mine
open PySem PySem.Sre PySem.Builtin.Re PySem.Builtin

theorem runFor_add (b : Nat) : ∀ (a : Nat) (m : M), M.runFor (a + b) m = M.runFor b (M.runFor a m)
  | 0, m => by rw [Nat.zero_add]; rfl
  | a + 1, m => by
    cases h : m.outcome with
    | none => rw [show a + 1 + b = (a + b) + 1 by omega, runFor_succ h, runFor_succ h, runFor_add b a]
    | some o => rw [runFor_done (by rw [h]; rfl), runFor_done (m := m) (by rw [h]; rfl), runFor_done (by rw [h]; rfl)]

section
variable {Mo : Model} {A : Around} {E : Value → Shared → Prop} {s : Shared}

theorem wp_drive {Q : M → Shared → Prop} {m' : M} (ho : m'.outcome.isSome = true) (hQ : Q m' s) : ∀ (turns N : Nat) (m : M), N ≤ 4 * turns → 0 < turns → (∀ n, N ≤ n → M.runFor n m = m') → wpAny Mo A (reDrive turns m) Q E s
  | 0, N, m, _, h0, _ => absurd h0 (Nat.lt_irrefl _)
  | t + 1, N, m, hN, _, h => by
    show wpAny Mo A (if (M.runFor 4 m).outcome.isSome = true then pure (M.runFor 4 m) else (do rule "sre.turn"; reDrive t (M.runFor 4 m))) Q E s
    by_cases hd : (M.runFor 4 m).outcome.isSome = true
    · rw [if_pos hd]
      have e := h (4 + N) (by omega)
      rw [runFor_add, runFor_done hd] at e
      rw [e]
      exact wpAny_pure hQ
    · rw [if_neg hd]
      refine wpAny_bind (wpAny_rule ?_)
      have h4 : 4 < N := by
        refine Nat.lt_of_not_le fun hle => hd ?_
        rw [h 4 hle]; exact ho
      refine wp_drive ho hQ t (N - 4) _ (by omega) (by omega) fun n hn => ?_
      rw [← runFor_add]
      exact h _ (by omega)

theorem wp_rules {m : M} {Q : PUnit → Shared → Prop} (hQ : Q ⟨⟩ s) : ∀ (xs : List Nat), wpAny Mo A (forIn xs PUnit.unit fun i __s =>
      if m.seen.has i = true then do
        PySem.rule (PySem.Sre.names.getD i "")
        pure (ForInStep.yield PUnit.unit)
      else pure (ForInStep.yield PUnit.unit)) Q E s
  | [] => by rw [List.forIn_nil]; exact wpAny_pure hQ
  | i :: xs => by
    rw [List.forIn_cons]
    refine wpAny_bind ?_
    by_cases h : m.seen.has i = true
    · rw [if_pos h]
      exact wpAny_bind (wpAny_rule (wpAny_pure (wp_rules hQ xs)))
    · rw [if_neg h]
      exact wpAny_pure (wp_rules hQ xs)

theorem wp_runToEnd {Q : Option M → Shared → Prop} {m m' : M} {N : Nat} (hN : N ≤ 4 * 2 ^ 64) (h : ∀ n, N ≤ n → M.runFor n m = m') (ab : Option (Nat × Nat)) (he : Ends m' ab)
    (hn : ab = none → Q none s) (hs : ∀ a b, ab = some (a, b) → Done m' a b → Q (some m') s) : wpAny Mo A (reRunToEnd m) Q E s := by
  have ho : m'.outcome.isSome = true := by
    cases ab with
    | none => rw [show m'.outcome = _ from he]; rfl
    | some ab => rw [(show Done m' ab.1 ab.2 from he).out]; rfl
  unfold reRunToEnd
  refine wpAny_bind (wp_drive ho ?_ (2 ^ 64) N m hN (Nat.two_pow_pos 64) h)
  refine wpAny_bind (wp_rules ?_ _)
  cases ab with
  | none =>
    rw [show m'.outcome = _ from he]
    exact wpAny_pure (hn rfl)
  | some ab =>
    have hd : Done m' ab.1 ab.2 := he
    rw [hd.out]
    exact wpAny_pure (hs _ _ rfl hd)
end

def othP (c : Nat) : Bool := decide (kindOf c = 2)

/-- the pieces that the split gives -/
def pieces : Nat → List Nat → List (List Nat)
  | 0, _ => []
  | f + 1, r => match r.dropWhile othP with
    | [] => [r.takeWhile othP]
    | c :: q => r.takeWhile othP :: (if kindOf c = 0 then [c] else (c :: q).takeWhile digitP) :: pieces f ((c :: q).drop (if kindOf c = 0 then [c] else (c :: q).takeWhile digitP).length)

theorem found_spec : ∀ (r : List Nat) (p : Nat), found r p = match r.dropWhile othP with
    | [] => none
    | c :: q => some (p + (r.takeWhile othP).length, p + (r.takeWhile othP).length + (if kindOf c = 0 then [c] else (c :: q).takeWhile digitP).length)
  | [], _ => rfl
  | c :: r, p => by
    show (if kindOf c = 0 then _ else if kindOf c = 1 then _ else _) = _
    rcases kind_cases c with hk | hk | hk
    · rw [if_pos hk]
      simp [List.dropWhile_cons, List.takeWhile_cons, othP, hk]
    · rw [if_neg (by omega), if_pos hk]
      simp [List.dropWhile_cons, List.takeWhile_cons, othP, hk]
    · rw [if_neg (by omega), if_neg (by omega), found_spec r (p + 1)]
      have e1 : (c :: r).dropWhile othP = r.dropWhile othP := by simp [List.dropWhile_cons, othP, hk]
      have e2 : ((c :: r).takeWhile othP).length = (r.takeWhile othP).length + 1 := by simp [List.takeWhile_cons, othP, hk]
      rw [e1, e2]
      cases r.dropWhile othP with
      | nil => rfl
      | cons d q => simp only [Option.some.injEq, Prod.mk.injEq]; omega

/-- a text value for each piece -/
inductive StrsOf : List Value → List (List Nat) → Prop
  | nil : StrsOf [] []
  | cons (l : List Nat) (t : Tok) {vs : List Value} {ls : List (List Nat)} (h : StrsOf vs ls) : StrsOf (.str ⟨l.toArray⟩ t :: vs) (l :: ls)
theorem StrsOf.append {vs us : List Value} {ls ks : List (List Nat)} (h : StrsOf vs ls) (g : StrsOf us ks) : StrsOf (vs ++ us) (ls ++ ks) := by
  induction h with
  | nil => exact g
  | cons l t _ ih => exact .cons l t ih
theorem StrsOf.length {vs : List Value} {ls : List (List Nat)} (h : StrsOf vs ls) : vs.length = ls.length := by
  induction h with
  | nil => rfl
  | cons l t _ ih => simp [ih]
theorem StrsOf.get {vs : List Value} {ls : List (List Nat)} (h : StrsOf vs ls) : ∀ (i : Nat) (v : Value), vs[i]? = some v → ∃ l t, ls[i]? = some l ∧ v = .str ⟨l.toArray⟩ t := by
  induction h with
  | nil => intro i v h; simp at h
  | cons l t _ ih =>
    intro i v h
    cases i with
    | zero => exact ⟨l, t, rfl, by simpa using h.symm⟩
    | succ i => exact ih i v (by simpa using h)

def codeVals : Array Value := #[Value.int 14 0, Value.int 4 0, Value.int 0 0, Value.int 1 0, Value.int 4294967295 0, Value.int 17 0,
              Value.int 0 0, Value.int 7 0, Value.int 14 0, Value.int 24 0, Value.int 10 0, Value.int 1 0,
              Value.int 4294967295 0, Value.int 13 0, Value.int 5 0, Value.int 22 0, Value.int 48 0, Value.int 57 0,
              Value.int 0 0, Value.int 1 0, Value.int 15 0, Value.int 17 0, Value.int 15 0, Value.int 13 0,
              Value.int 11 0, Value.int 9 0, Value.int 0 0, Value.int 26624 0, Value.int 2147483648 0, Value.int 0 0,
              Value.int 0 0, Value.int 0 0, Value.int 0 0, Value.int 0 0, Value.int 0 0, Value.int 15 0, Value.int 2 0,
              Value.int 0 0, Value.int 17 0, Value.int 1 0, Value.int 1 0]
abbrev patObj : Obj := { cls := Value.type "re.Pattern", data := Data.fields #[Value.str (Str.ofString "([0-9]+|[._+-])") 285, Value.int 32 329, Value.int 1 0, Value.none, Value.none, Value.ref 35, Value.int 0 0] }
abbrev codeObj : Obj := { cls := Value.type "tuple", data := Data.seq codeVals }

abbrev theTarget (l : List Nat) (tok : Tok) : ReTarget := { pattern := .ref 36, string := .str ⟨l.toArray⟩ tok, code := C, text := l.toArray, kind := 0, groups := 1, pos := 0, lim := l.toArray.size }

section
variable {Mo : Model} {A : Around} {E : Value → Shared → Prop} {s : Shared}
theorem code_is : (codeVals.map reRawOf).map (fun x => x.toNat) = C := by decide +kernel

theorem wp_target {l : List Nat} {tok : Tok} {Q : ReTarget → Shared → Prop} (h36 : s.heap.get? 36 = some patObj) (h35 : s.heap.get? 35 = some codeObj) (hQ : Q (theTarget l tok) s) :
    wpAny Mo A (reWholeTarget (.ref 36) (.str ⟨l.toArray⟩ tok)) Q E s := by
  unfold reWholeTarget
  refine wpAny_bind ?_
  refine wpAny_bind (wpAny_load h36 (wpAny_pure ?_))
  refine wpAny_bind (wpAny_pure ?_)
  refine wpAny_bind (wpAny_pure ?_)
  refine wpAny_bind (wpAny_bind (wpAny_bind (wpAny_load h35 (wpAny_pure (wpAny_pure (wpAny_pure ?_))))))
  show Q { theTarget l tok with code := (codeVals.map reRawOf).map (fun x => x.toNat) } s
  rw [code_is]
  exact hQ

theorem wp_slice {text : Array Nat} {b e : Nat} {Q : Value → Shared → Prop} (hsz : text.size ≤ sizeLine) (hQ : Q (.str ⟨text.extract b e⟩ s.toks) { s with toks := s.toks + 1 }) : wpAny Mo A (reSlice text 0 b e) Q E s := by
  show wpAny Mo A (mkStr ⟨text.extract b e⟩) Q E s
  refine wpAny_mkStr hQ ?_
  show (text.extract b e).size ≤ sizeLine
  rw [Array.size_extract]
  omega

/-- the loop of the split -/
def splitBody (t : ReTarget) (most : Int) : Nat → Array Value × Nat × Nat × Bool × Int × Bool → Sem (ForInStep (Array Value × Nat × Nat × Bool × Int × Bool)) := fun _ st =>
  if (!st.2.2.2.2.2) = true then do
    let f ← if (most != 0 && decide (st.2.2.2.2.1 ≥ most)) = true then pure none else reNextFound t st.2.1 st.2.2.2.1
    match f with
    | none => pure (ForInStep.yield (st.1, st.2.1, st.2.2.1, st.2.2.2.1, st.2.2.2.2.1, true))
    | some m => do
      let x ← reSlice t.text t.kind st.2.2.1 m.start
      let o ← forIn (List.range t.groups) (st.1.push x) fun g o => do
        let y ← reMachineGroup t m (g + 1) (pure Value.none)
        pure (ForInStep.yield (o.push y))
      pure (ForInStep.yield (o, m.handed, m.handed, m.handed == m.start, st.2.2.2.2.1 + 1, st.2.2.2.2.2))
  else pure (ForInStep.yield st)

theorem split_eq (l : List Nat) (tok : Tok) : «re.Pattern.split» ⟨[.ref 36, .str ⟨l.toArray⟩ tok], []⟩ = (do
    let t ← reWholeTarget (.ref 36) (.str ⟨l.toArray⟩ tok)
    let st ← forIn (List.range (reMostMatches t)) ((#[] : Array Value), 0, 0, false, 0, false) (splitBody t 0)
    if (!st.2.2.2.2.2) = true then do
      let _ ← (unsupported "internal:re:more-matches-than-can-be" : Sem Unit)
      let x ← reSlice t.text t.kind st.2.2.1 t.lim
      ret (← newList (st.1.push x).toList)
    else do
      let x ← reSlice t.text t.kind st.2.2.1 t.lim
      ret (← newList (st.1.push x).toList)) := rfl

theorem wp_over {t : ReTarget} {out : Array Value} {a b : Nat} {must : Bool} {n : Int} {Q : Array Value × Nat × Nat × Bool × Int × Bool → Shared → Prop} (hQ : Q (out, a, b, must, n, true) s) :
    ∀ xs : List Nat, wpAny Mo A (forIn xs (out, a, b, must, n, true) (splitBody t 0)) Q E s
  | [] => by rw [List.forIn_nil]; exact wpAny_pure hQ
  | i :: xs => by
    rw [List.forIn_cons]
    exact wpAny_bind (wpAny_pure (wp_over hQ xs))
end
theorem dropWhile_eq_drop (p : Nat → Bool) (r : List Nat) : r.dropWhile p = r.drop (r.takeWhile p).length := by
  have h := List.takeWhile_append_dropWhile (p := p) (l := r)
  have e : ((r.takeWhile p) ++ (r.dropWhile p)).drop (r.takeWhile p).length = r.dropWhile p := List.drop_left
  rw [h] at e
  exact e.symm
theorem takeWhile_eq_take (p : Nat → Bool) (r : List Nat) : r.takeWhile p = r.take (r.takeWhile p).length := by
  have h := List.takeWhile_append_dropWhile (p := p) (l := r)
  have e : ((r.takeWhile p) ++ (r.dropWhile p)).take (r.takeWhile p).length = r.takeWhile p := List.take_left
  rw [h] at e
  exact e.symm
/-- what the match takes -/
def hit (c : Nat) (q : List Nat) : List Nat := if kindOf c = 0 then [c] else (c :: q).takeWhile digitP
theorem hit_take (c : Nat) (q : List Nat) : hit c q = (c :: q).take (hit c q).length := by
  unfold hit
  split
  · rfl
  · exact takeWhile_eq_take _ _
theorem hit_pos {c : Nat} {q r : List Nat} (h : r.dropWhile othP = c :: q) : 1 ≤ (hit c q).length := by
  have hk : kindOf c ≠ 2 := by
    have := List.head_dropWhile_not (p := othP) (l := r) (by rw [h]; simp)
    simp only [h, List.head_cons, othP] at this
    simpa using this
  unfold hit
  split
  · simp
  · rename_i h0
    have h1 : kindOf c = 1 := by have := kind_cases c; omega
    simp [List.takeWhile_cons, digitP, h1]
theorem pieces_succ (f : Nat) (r : List Nat) : pieces (f + 1) r = match r.dropWhile othP with
    | [] => [r.takeWhile othP]
    | c :: q => r.takeWhile othP :: hit c q :: pieces f ((c :: q).drop (hit c q).length) := rfl
theorem pieces_fuel : ∀ (f g : Nat) (r : List Nat), r.length < f → r.length < g → pieces f r = pieces g r
  | 0, _, _, h, _ => absurd h (Nat.not_lt_zero _)
  | _ + 1, 0, _, _, h => absurd h (Nat.not_lt_zero _)
  | f + 1, g + 1, r, hf, hg => by
    rw [pieces_succ, pieces_succ]
    cases h : r.dropWhile othP with
    | nil => rfl
    | cons c q =>
      have h1 := hit_pos h
      have h2 : (c :: q).length ≤ r.length := by rw [← h, dropWhile_eq_drop, List.length_drop]; omega
      have h3 : 1 ≤ (c :: q).length := by simp
      show _ :: _ :: _ = _ :: _ :: _
      rw [pieces_fuel f g _ (by rw [List.length_drop]; omega) (by rw [List.length_drop]; omega)]

section
variable {Mo : Model} {A : Around} {E : Value → Shared → Prop}
theorem wp_splitLoop {l : List Nat} {tok : Tok} (hsz : l.length ≤ sizeLine) : ∀ (xs : List Nat) (p : Nat) (out : Array Value) (n : Int) (s : Shared) (Q : Array Value × Nat × Nat × Bool × Int × Bool → Shared → Prop), p ≤ l.length → l.length - p < xs.length →
    (∀ vs ps p' n' tk, p' ≤ l.length → StrsOf vs ps → ps ++ [l.drop p'] = pieces (l.length + 1) (l.drop p) → Q (out ++ vs.toArray, p', p', false, n', true) { s with toks := tk }) →
    wpAny Mo A (forIn xs (out, p, p, false, n, false) (splitBody (theTarget l tok) 0)) Q E s
  | [], _, _, _, _, _, _, h, _ => absurd h (Nat.not_lt_zero _)
  | i :: xs, p, out, n, s, Q, hp, hx, hQ => by
    have hs24 : sizeLine = 16777216 := by rw [sizeLine_eq]
    obtain ⟨m', hrun, hsome, hends⟩ := search_run l (by omega) p hp
    rw [List.forIn_cons]
    refine wpAny_bind ?_
    show wpAny Mo A (do
      let f ← reNextFound (theTarget l tok) p false
      match f with
      | none => pure (ForInStep.yield (out, p, p, false, n, true))
      | some m => do
        let x ← reSlice l.toArray 0 p m.start
        let o ← forIn (List.range 1) (out.push x) fun g o => do
          let y ← reMachineGroup (theTarget l tok) m (g + 1) (pure Value.none)
          pure (ForInStep.yield (o.push y))
        pure (ForInStep.yield (o, m.handed, m.handed, m.handed == m.start, n + 1, false))) _ E s
    rw [found_spec] at hends
    have hpc := pieces_succ l.length (l.drop p)
    refine wpAny_bind (wp_runToEnd (N := 7 * l.length + 11) (by omega) (by simpa using hrun) _ hends (fun hn => ?_) fun a b hab D => ?_)
    · cases hd : (l.drop p).dropWhile othP with
      | nil =>
        refine wpAny_pure (wp_over ?_ xs)
        have := hQ [] [] p n s.toks hp .nil (by
          rw [hpc, hd]
          have := List.takeWhile_append_dropWhile (p := othP) (l := l.drop p)
          rw [hd, List.append_nil] at this
          rw [this]; rfl)
        simpa using this
      | cons c q => rw [hd] at hn; cases hn
    · cases hd : (l.drop p).dropWhile othP with
      | nil => rw [hd] at hab; cases hab
      | cons c q =>
        rw [hd] at hab
        simp only [Option.some.injEq, Prod.mk.injEq] at hab
        obtain ⟨ea, eb⟩ := hab
        have eb : p + ((l.drop p).takeWhile othP).length + (hit c q).length = b := eb
        have h1 := hit_pos hd
        have hdr : l.drop (p + ((l.drop p).takeWhile othP).length) = c :: q := by rw [← List.drop_drop, ← dropWhile_eq_drop, hd]
        have hlen : p + ((l.drop p).takeWhile othP).length + (c :: q).length = l.length := by
          have := congrArg List.length hdr
          rw [List.length_drop] at this
          simp only [List.length_cons] at this ⊢
          omega
        have hhl : (hit c q).length ≤ (c :: q).length := by
          have := congrArg List.length (hit_take c q)
          rw [List.length_take] at this
          omega
        have h3 : 1 ≤ (c :: q).length := by simp
        refine wpAny_bind ?_
        rw [D.start]
        refine wp_slice (by simpa using hsz) ?_
        rw [show List.range 1 = [0] from rfl, List.forIn_cons]
        refine wpAny_bind (wpAny_bind (wpAny_bind ?_))
        show wpAny Mo A (if ((0 : Nat) : Int) ≥ m'.lastmark then _ else _) _ E _
        rw [D.lastmark, if_neg (by omega)]
        show wpAny Mo A (match m'.marks.getD 0 none, m'.marks.getD 1 none with
          | some b, some e => if e < b then reWrongSpan else reSlice l.toArray 0 b e
          | _, _ => _) _ E _
        rw [D.g0, D.g1]
        show wpAny Mo A (if b < a then reWrongSpan else reSlice l.toArray 0 a b) _ E _
        rw [if_neg (by omega)]
        refine wp_slice (by simpa using hsz) (wpAny_pure ?_)
        refine wpAny_pure (wpAny_pure ?_)
        rw [D.handed, show (b == a) = false by simp; omega]
        refine wp_splitLoop hsz xs b _ _ _ Q (by omega) (by simp only [List.length_cons] at hx; omega) fun vs ps p' n' tk hp' hvs hps => ?_
        have e1 : l.toArray.extract p a = ((l.drop p).takeWhile othP).toArray := by
          rw [List.extract_toArray, List.extract_eq_take_drop, takeWhile_eq_take]
          congr 2
          omega
        have e2 : l.toArray.extract a b = (hit c q).toArray := by
          rw [List.extract_toArray, List.extract_eq_take_drop, ← ea, hdr, hit_take c q]
          congr 2
          omega
        have := hQ (.str ⟨l.toArray.extract p a⟩ s.toks :: .str ⟨l.toArray.extract a b⟩ (s.toks + 1) :: vs) ((l.drop p).takeWhile othP :: hit c q :: ps) p' n' tk hp' (by rw [e1, e2]; exact .cons _ _ (.cons _ _ hvs)) (by
          rw [hpc, hd]
          show _ :: _ :: (ps ++ [l.drop p']) = _ :: _ :: _
          rw [hps, ← hdr, List.drop_drop, eb]
          rw [pieces_fuel (l.length + 1) l.length _ (by rw [List.length_drop]; omega) (by rw [List.length_drop]; omega)])
        simpa using this
end
end Mine
end

/-! ## Sre4 -/
section
set_option maxRecDepth 100000
namespace Mine
open PySem PySem.Sre PySem.Builtin.Re PySem.Builtin

theorem slot_split : Slot "re.Pattern" "split" "re.Pattern.split" :=
  .of (owner := "re.Pattern") (n := "split") (by rw [typeLookup_type, builtinLookup_eq_fast]; kernel_rfl) (by decide +kernel) (by decide +kernel) (by decide +kernel)
    (by first | exact .inl (by decide +kernel) | exact .inr (by decide +kernel)) (by rw [isSubtype_type]; kernel_rfl)
theorem entry_split : entryFor table "re.Pattern.split" = some Builtin.«re.Pattern.split» := entryFor_of_fast (by kernel_rfl)
theorem args_split (a b : Value) : argsOk "re.Pattern.split" ⟨[a, b], []⟩ := by unfold argsOk; kernel_rfl
theorem pa_pattern : PlainAttrs "re.Pattern" :=
  ⟨⟨"object.__getattribute__", by rw [typeLookup_type, builtinLookup_eq_fast]; kernel_rfl, by decide +kernel⟩, by rw [typeLookup_type, builtinLookup_eq_fast]; kernel_rfl⟩
theorem ty_split : typeOf (.builtin "re.Pattern.split") = pure (.type "method_descriptor") := by kernel_rfl

section
variable {prog : Program} {w : World} {A : Around} {E : Value → Shared → Prop} {s : Shared}
theorem pat_type (h36 : s.heap.get? 36 = some patObj) : s.TypeIs (.ref 36) "re.Pattern" := ⟨_, h36, rfl⟩
theorem getMethod_split {pl : Sem Bool} {Q : Value × List Value → Shared → Prop} (h36 : s.heap.get? 36 = some patObj) (h : Q (.builtin "re.Pattern.split", [.ref 36]) s) :
    wpAny (model prog w) A (getMethod (.ref 36) (Str.ofString "split") pl) Q E s :=
  getMethod_builtin (pat_type h36) pa_pattern slot_split ty_split (fun a e => by cases e; exact ⟨_, h36, rfl⟩) h

theorem call_split {l : List Nat} {tok : Tok} {Q : Value → Shared → Prop} (h36 : s.heap.get? 36 = some patObj) (h35 : s.heap.get? 35 = some codeObj) (hsz : l.length < 1000000)
    (hQ : ∀ vs tk, StrsOf vs (pieces (l.length + 1) l) → wpAny (model prog w) A.in1 (newList vs) Q E { s with toks := tk }) :
    wpAny (model prog w) A (call (.builtin "re.Pattern.split") [.ref 36, .str ⟨l.toArray⟩ tok]) Q E s := by
  refine wpAny_call_entry slot_split (pat_type h36) entry_split ?_ (args_split _ _)
  rw [split_eq]
  refine wpAny_bind (wp_target h36 h35 ?_)
  have hs24 : sizeLine = 16777216 := by rw [sizeLine_eq]
  refine wpAny_bind (wp_splitLoop (by omega) _ 0 #[] 0 s _ (Nat.zero_le _) (by simp [reMostMatches]; omega) fun vs ps p' n' tk hp' hvs hps => ?_)
  show wpAny (model prog w) A.in1 (do let x ← reSlice l.toArray 0 p' l.toArray.size; ret (← newList ((#[] ++ vs.toArray).push x).toList)) _ E _
  refine wpAny_bind (wp_slice (by simp; omega) ?_)
  refine wpAny_bind ?_
  have e1 : l.toArray.extract p' l.toArray.size = (l.drop p').toArray := by
    rw [List.extract_toArray, List.extract_eq_take_drop]
    congr 1
    apply List.take_of_length_le
    simp
  have := hQ (vs ++ [.str ⟨l.toArray.extract p' l.toArray.size⟩ tk]) (tk + 1) (by
    rw [e1]
    have h := hvs.append (.cons (l.drop p') tk .nil)
    rw [hps] at h
    exact h)
  have e2 : ((#[] ++ vs.toArray).push (Value.str ⟨l.toArray.extract p' l.toArray.size⟩ tk)).toList = vs ++ [.str ⟨l.toArray.extract p' l.toArray.size⟩ tk] := by simp
  show wpAny (model prog w) A.in1 (newList ((#[] ++ vs.toArray).push (Value.str ⟨l.toArray.extract p' l.toArray.size⟩ tk)).toList) _ E _
  rw [e2]
  exact wpAny_mono this (fun v s' h => wpAny_pure ⟨v, rfl, h⟩) fun _ _ e => e
end
end Mine
end

/-! ## Head1 -/
section
set_option maxRecDepth 100000
open PySem PySem.Spec PySem.W PySem.Calls PyProof.Rows
namespace Mine

def hasCaller (st : List (Code × Pos)) : Bool := st.any fun q => q.1.isCaller
def HasC (Γ : PySem.Ctx) : Prop := hasCaller ((Γ.code, default) :: Γ.below) = true

/-- `wpAny` over the contexts whose stack holds the claim's caller -/
def wpC {α : Type} (M : Model) (A : Around) (t : Sem α) (Q : α → Shared → Prop) (E : Value → Shared → Prop) (s : Shared) : Prop :=
  ∀ Γ p, Γ.In A → HasC Γ → Sem.wp M Γ t (fun a _ s' => Q a s') (fun e _ s' => E e s') p s

section
variable {α β : Type} {M : Model} {A : Around} {E : Value → Shared → Prop} {s : Shared}
theorem wpC_of_any {t : Sem α} {Q : α → Shared → Prop} (h : wpAny M A t Q E s) : wpC M A t Q E s := fun Γ p hΓ _ => h Γ p hΓ
theorem wpC_pure {a : α} {Q : α → Shared → Prop} (h : Q a s) : wpC M A (pure a) Q E s := fun _ _ _ _ => h
theorem wpC_mono {t : Sem α} {Q Q' : α → Shared → Prop} {E' : Value → Shared → Prop} (h : wpC M A t Q E s)
    (hQ : ∀ a s, Q a s → Q' a s) (hE : ∀ e s, E e s → E' e s) : wpC M A t Q' E' s :=
  fun Γ p hΓ hc => Sem.wp_mono M Γ t (fun a _ s => hQ a s) (fun e _ s => hE e s) p s (h Γ p hΓ hc)
theorem wpC_bind {m : Sem α} {f : α → Sem β} {Q : β → Shared → Prop} (h : wpC M A m (fun a s' => wpC M A (f a) Q E s') E s) :
    wpC M A (m >>= f) Q E s := fun Γ p hΓ hc => by
  rw [Sem.wp_bind']
  exact Sem.wp_mono M Γ m (fun a p' s' h' => h' Γ p' hΓ hc) (fun _ _ _ h' => h') p s (h Γ p hΓ hc)
/-- a first part off the spine -/
theorem wpC_then {m : Sem α} {f : α → Sem β} {Q : β → Shared → Prop} (h : wpAny M A m (fun a s' => wpC M A (f a) Q E s') E s) :
    wpC M A (m >>= f) Q E s := wpC_bind (wpC_of_any h)
end

abbrev theCaller : PySem.Ctx := ⟨.builtin "claim.caller" {}, none, none, [], none⟩

theorem ends_C {prog : Program} {w : World} {t : Sem PySem.Fin} {s : Shared} {R : Result → Shared → Prop} (hreg : s.asleep)
    (h : wpC (model prog w) callerA t (fun fin s' => ∃ f, fin = .done f ∧ (R (.ok f) s' ∧ leftWithCleanup s'.gens = false)) (fun e s' => R (.error e) s' ∧ leftWithCleanup s'.gens = false) s) :
    ∃ n r s' s'', runN (denote table) prog w n s ⟨t, .builtin "claim.caller" {}, default, []⟩ = .halted (outcomeOf r) s' ∧
      schedN (denote table) prog w n (.single s ⟨t, .builtin "claim.caller" {}, default, []⟩) = .halted (outcomeOf r) s' ∧ s'.forget = s''.forget ∧ R r s'' := by
  have h0 := Sem.wp_mono (model prog w) theCaller t (post' := Sem.finPost (model prog w) theCaller fun r s' => R r s' ∧ leftWithCleanup s'.gens = false) (exc' := fun e _ s' => R (.error e) s' ∧ leftWithCleanup s'.gens = false)
    (fun fin p' s' h' => by obtain ⟨f, rfl, hf⟩ := h'; exact hf) (fun _ _ _ h' => h') default s (h theCaller default caller_in rfl)
  obtain ⟨n, r, s₁, s₂, hs, hn, hfo, hR⟩ := wp_halts_full (M := model prog w) (R := R) hreg h0
  exact ⟨n, r, s₂, s₁, hn, hs, hfo, hR⟩

theorem callFrom_C {c : ClaimW} {tree : List Value → Sem PySem.Fin} {w : World} {s : Shared} {free : Addr → Prop} {gens : Prop} {kept : Heap → Prop} (hz : s.asleep) (hgens : s.gens = #[])
    (hspec : ∀ args, c.pre args = true → WData.layableAll args = true → ∀ ord : List DictEntry → List DictEntry, (∀ l, (ord l).Perm l) →
      ∃ vs s₁, layAllW c.records (classAt s.heap) w.params ord args s = some (vs, s₁) ∧
        wpC (model c.prog w) callerA (tree vs) (fun fin s' => ∃ f, fin = .done f ∧ (c.Ends s args vs s₁ (.ok f) s' ∧ s'.os = s.os ∧ AllBare s'.gens ∧ kept s'.heap))
          (fun e s' => c.Ends s args vs s₁ (.error e) s' ∧ s'.os = s.os ∧ AllBare s'.gens ∧ kept s'.heap) s₁) :
    c.CallFrom (fun vs => ⟨tree vs, .builtin "claim.caller" {}, default, []⟩) w free gens kept s := by
  intro args hpre hlay ord hord
  obtain ⟨vs, s₁, hlaid, hcode⟩ := hspec args hpre hlay ord hord
  have hal := layAllW_rest _ _ _ hlaid
  have hends := ends_C (prog := c.prog) (w := w) (t := tree vs) (s := s₁) (R := fun r s' => c.Ends s args vs s₁ r s' ∧ s'.os = s.os ∧ kept s'.heap) (Shared.asleep_of_life hal.2.2.2 hz)
    (wpC_mono hcode (fun fin s' ⟨f, e, h1, h2, h3, h4⟩ => ⟨f, e, ⟨h1, h2, h4⟩, leftWithCleanup_false_of_bare h3⟩) fun e s' ⟨h1, h2, h3, h4⟩ => ⟨⟨h1, h2, h4⟩, leftWithCleanup_false_of_bare h3⟩)
  obtain ⟨k, r, s', s'', hrun, hsched, hfo, hcase, hos, hkp⟩ := hends
  obtain ⟨eh, _, _, eo, _⟩ := Shared.forget_eq hfo
  have hcase := hcase.congr eh
  rw [← eh] at hkp
  rw [← eo] at hos
  have hlife : s'.heap.life = s.heap.life := (runN_life _ _ _ hrun).trans hal.2.2.2
  refine ⟨vs, s₁, hlaid, k, _, s', hsched, ?_, (fun _ i x hx => by rw [hgens] at hx; simp at hx), hkp, by rw [hlife], Shared.rest_eq hos⟩
  rcases hcase with ⟨v, rfl, d1, d2, d3, d4, d5⟩ | ⟨e, ob, cls, rfl, d1, d2, d3, d4, d5⟩
  · exact .inl ⟨v, rfl, d1, d2, d3, fun b o y _ => d4 b o y, d5⟩
  · exact .inr ⟨e, ob, cls, rfl, d1, d2, d3, d4, fun b o y _ => d5 b o y⟩

abbrev WalkC (q : Program) (loose : List PySem.Str) (XP : (PySem.Str → Option Value) → Heap → Prop) (YP : World → Heap → Prop) (r : RowW) (d : DefRec) (kwd : List (PySem.Str × Expr)) : Prop :=
  ∀ (w : World) (s₀ s₁ : Shared) (mg mb : PySem.Str → Option Value), Ground q loose r.records XP w s₀ mg mb s₁.heap → YP w s₁.heap → ∀ (a : Addr) (o : Obj) (pm cd doc dV kV : Value), s₁.heap.get? a = some o →
    o.data = .func { docDef d.name d.params d.body d.scope pm cd doc with defaults := dV, kwdefaults := kV } → s₁.heap.CodeRec cd d.name → Dflts mg s₁.heap d.params kwd dV kV → mg d.name = some (.ref a) → s₁.gens = #[] →
    ∀ (args : List WData) (vals : List Value) (as : List Addr), r.claim.pre args = true → WData.layableAll args = true → ReadsAllW r.records (classAt s₀.heap) s₁.heap vals args as → WellAll w.params s₁.heap vals args → (∀ a ∈ as, (a == sysModules) = false) →
      wpC (model r.prog w) callerA (PySem.call (.ref a) vals) (fun v s' => GoodWG r.claim (classAt s₀.heap) (ExcName.means s₀.heap) args s₁ (.ok (.ret v)) s')
        (fun e s' => GoodWG r.claim (classAt s₀.heap) (ExcName.means s₀.heap) args s₁ (.error e) s') s₁

end Mine

namespace MineH.PySem.W
open Mine
theorem holds_open {r : OpenRow} {q : Program} {loose : List PySem.Str} {Xt : Shared → Bool} {XP : (PySem.Str → Option Value) → Heap → Prop} {α : Type} {Yf : Shared → α} {Ya : World → α} {YP : World → Heap → Prop} {d : DefRec} {kwd : List (PySem.Str × Expr)} {N : Nat}
    (left : LeftO r.prog q loose Xt Yf Ya N) (hY : ∀ w s, Yf s = Ya w → YP w s.heap) (hYk : ∀ w h h', YP w h → (∀ b o, h.get? b = some o → h'.get? b = some o) → YP w h')
    (hX : ∀ s, Xt s = true → XP (s.heap.nsMap mainGlobals) s.heap) (hXk : ∀ mg h h', XP mg h → (∀ b o, h.get? b = some o → h'.get? b = some o) → XP mg h')
    (hdef : defOf q r.name = some (d, kwd)) (hp : r.prog.theDef r.name = some (d.params, d.body, d.scope)) (hk : kwWritten? d.params.kwonlyargs d.params.kw_defaults = some kwd) (hRf : ∀ s, Xt s = true → RecFacts r.records s.heap) (hwr : (!r.writes || r.records.isEmpty) = true)
    (k1 : r.wellSaid = true) (ok : (chainsOk q && opensWell r.prog && (frees r.toRowW && r.within.isEmpty)) = true) (hb : r.prog.bare) (hw : r.toRowW.promised)
    (walk : WalkC q loose XP YP r.toRowW d kwd) : r.Holds := by
  obtain ⟨ok, k5⟩ := Bool.and_eq_true_iff.mp ok
  obtain ⟨hch, o1⟩ := Bool.and_eq_true_iff.mp ok
  obtain ⟨k5, k6⟩ := Bool.and_eq_true_iff.mp k5
  obtain ⟨hsame, hu, ha, hap, hm⟩ := frees_parts k5
  have hi := ident_freeW hu ha hap
  have hwi : r.toRowW.claim.within = [] := List.isEmpty_iff.mp k6
  refine ⟨k1, hw, ⟨hb, o1, by show r.makers.map _ = []; rw [hm]; rfl⟩, hw.witness, fun w => ⟨(left.behind hX hch w).1, fun s' hs' => ?_⟩⟩
  obtain ⟨s₀, hf, hg0, s, hT, hz, hgens, hg, G00, y⟩ := (left.behind (XP := fun mg h => XP mg h ∧ RecFacts r.records h) (fun s hs => ⟨hX s hs, hRf s hs⟩) hch w).2 s' hs'
  have G0 : Ground q loose [] XP w s (s.heap.nsMap mainGlobals) (s.heap.nsMap builtinsNs) s.heap := ⟨G00.T, G00.B, G00.D, G00.TE, G00.TD, G00.W, G00.X.1, G00.cls, G00.has, G00.apart, G00.once, G00.K⟩
  have RF := G00.X.2
  have hgens : s.gens = #[] := Array.eq_empty_of_size_eq_zero (beq_iff_eq.mp hgens)
  have G : Ground q loose r.records XP w s _ _ s.heap := RF.ground G0
  refine ⟨s₀, hf, hg0, s, hT, fun n hn => ?_, RF.1, RF.2.1, callFrom_C (c := r.toRowW.claim) hz hgens fun args hpre hlay ord hord => ?_⟩
  · obtain rfl : n = r.name := by split at hn <;> simp_all
    exact pinned_of_view hg G0 hdef hp hk
  obtain ⟨⟨vs, s₁⟩, hlaid⟩ := Option.isSome_iff_exists.mp (layAllW_isSome (P := w.params) (ord := ord) G.has args r.args s (pre_splitW hpre).1)
  have keeps := layAllW_keeps _ _ _ hlaid
  have hal := layAllW_rest _ _ _ hlaid
  obtain ⟨as, hrd, hin, hold⟩ := reads_layAllW hord _ _ _ hlaid hlay s₁.heap (fun _ _ e => e)
  have L : Laid r.records w s s₁ args vs as := ⟨⟨ord, hord, hlaid⟩, hrd, hin, hold, keeps, hal.1.trans hgens, hal.2.2.1⟩
  have G₁ := G.keeps hXk keeps
  obtain ⟨a, o, pm, cd, doc, dV, kV, h1, h2, h3, h4, h5⟩ := G₁.fn hdef
  have h := walk w s s₁ _ _ G₁ (hYk _ _ _ (hY w s y) keeps) a o pm cd doc dV kV h2 h3 h4 h5 (defOf_name hdef ▸ h1) L.gens args vs as hpre hlay L.reads L.well (L.low G.low)
  refine ⟨vs, s₁, hlaid, ?_⟩
  refine wpC_then (wpAny_nsGet G₁.T.g ?_)
  rw [h1]
  refine wpC_bind (wpC_mono h (fun v s' g => wpC_pure ⟨_, rfl, ?_⟩) fun e s' g => ?_)
  · have z := g.laid (c := r.toRowW.claim) hsame hwi hi L
    exact ⟨z.1, z.2.1, z.2.2, fun q => ⟨namesKept_of hT hg r.keeps keeps g.2.1.old, noTable hwr q⟩⟩
  · have z := g.laid (c := r.toRowW.claim) hsame hwi hi L
    exact ⟨z.1, z.2.1, z.2.2, fun q => ⟨namesKept_of hT hg r.keeps keeps g.2.1.old, noTable hwr q⟩⟩
end MineH.PySem.W
end

/-! ## TopC -/
section
open PySem PySem.W PyProof.Rows
set_option maxRecDepth 100000
set_option maxHeartbeats 8000000
namespace MineH
open_top hd for PySem.Challenge.rw_ny0115_01
end MineH
end

/-! ## Spine -/
section
set_option maxRecDepth 100000
open PySem PySem.Calls PyProof.Rows
set_option autoImplicit false
namespace Mine

def HasB (Γ : PySem.Ctx) : Prop := hasCaller Γ.below = true
def codeC (M : Model) (A : Around) (c : Code) (R : Result → Shared → Prop) (s : Shared) : Prop :=
  ∀ Γ p, Γ.code = c → Γ.Below A → HasB Γ → wpCode M Γ R p s

theorem HasB.c {Γ : PySem.Ctx} (h : HasB Γ) : HasC Γ := by
  show ((Γ.code, default) :: Γ.below).any _ = true
  rw [List.any_cons, show (Γ.below.any fun q => q.1.isCaller) = true from h, Bool.or_true]
theorem HasC.enter {Γ : PySem.Ctx} (h : HasC Γ) (c : Code) (hd : Option Value) (p : Pos) : HasB (Γ.enter c hd p) := h

section
variable {α β : Type} {M : Model} {A : Around} {E : Value → Shared → Prop} {s : Shared}
theorem wpC_throw {e : Value} {Q : α → Shared → Prop} (h : E e s) : wpC M A (throw e : Sem α) Q E s := fun _ _ _ _ => h
theorem wpC_onRaise {m : Sem α} {k : Value → Sem Unit} {Q : α → Shared → Prop}
    (h : wpC M A m Q (fun e s' => wpC M A (k e) (fun _ s'' => E e s'') E s') s) : wpC M A (m.onRaise k) Q E s := fun Γ p hΓ hc => by
  rw [Sem.wp_onRaise]
  exact Sem.wp_mono M Γ m (fun _ _ _ h' => h') (fun e p' s' h' => h' Γ p' hΓ hc) p s (h Γ p hΓ hc)
theorem wpC_attempt {m : Sem α} {Q : Except Value α → Shared → Prop} (h : wpC M A m (fun a => Q (.ok a)) (fun e => Q (.error e)) s) :
    wpC M A m.attempt Q E s := fun Γ p hΓ hc => by rw [Sem.wp_attempt]; exact h Γ p hΓ hc
theorem wpC_holding {vs : List Value} {m : Sem α} {Q : α → Shared → Prop} (h : wpC M A m Q E s) : wpC M A (holding vs m) Q E s :=
  fun Γ p hΓ hc => by rw [Sem.wp_holding]; exact h Γ p hΓ hc
theorem wpC_run {c : Code} {h : Option Value} {Q : Flow → Shared → Prop}
    (hc : codeC M (A.mark h) c (fun r s' => match r with | .ok f => Q f s' | .error e => E e s') s) (hnb : h ≠ some byPass := by intro x; cases x) :
    wpC M A (run c h) Q E s :=
  fun Γ p hΓ hC => by rw [Sem.wp_run]; exact hc _ p rfl (hΓ.enter c h p hnb) (hC.enter c h p)
theorem wpC_runValue {c : Code} {Q : Value → Shared → Prop}
    (hc : codeC M A c (fun r s' => match r with | .ok (.ret v) => Q v s' | .ok _ => False | .error e => E e s') s) :
    wpC M A (runValue c) Q E s := fun Γ p hΓ hC => by rw [Sem.wp_runValue]; exact hc _ p rfl (hΓ.enter c none p (by intro x; cases x)) (hC.enter c none p)
theorem wpC_call {f : Value} {pos : List Value} {kw : List (PySem.Str × Value)} {Q : Value → Shared → Prop}
    (hc : codeC M A (.call f ⟨pos, kw⟩) (fun r s' => match r with | .ok (.ret v) => Q v s' | .ok _ => False | .error e => E e s') s) :
    wpC M A (call f pos kw) Q E s := wpC_runValue hc
theorem codeC_of_any {c : Code} {R : Result → Shared → Prop} (h : codeAny M A c R s) : codeC M A c R s := fun Γ p hc hΓ _ => h Γ p hc hΓ
theorem codeC_mono {c : Code} {R R' : Result → Shared → Prop} (h : codeC M A c R s) (hR : ∀ r s, R r s → R' r s) : codeC M A c R' s :=
  fun Γ p hc hΓ hB => wpCode_mono hR (h Γ p hc hΓ hB)
theorem codeC_of_tree {c : Code} {R : Result → Shared → Prop}
    (h : wpC M (A.under c) (M.den c) (fun fin s' => match fin with | .done f => R (.ok f) s' | .again c' => c'.quiet = true ∧ codeC M A c' R s')
      (fun e s' => R (.error e) s') s) : codeC M A c R s := fun Γ p hc hΓ hB => by
  rw [wpCode_iff_wp, hc]
  refine Sem.wp_mono M Γ _ (fun fin p' s' h' => ?_) (fun _ _ _ h' => h') p s (h Γ p (hc ▸ hΓ.in) hB.c)
  cases fin with
  | done f => exact h'
  | again c' => exact ⟨h'.1, h'.2 (Γ.goto c') p' rfl (hΓ.goto c') hB⟩
theorem codeC_loop {c : Code} {R : Result → Shared → Prop} (hq : c.quiet = true) (I : Nat → Shared → Prop)
    (turn : ∀ n s, I n s → wpC M (A.under c) (M.den c)
      (fun fin s' => match fin with
        | .done f => R (.ok f) s'
        | .again c' => (c' = c ∧ ∃ m, m < n ∧ I m s') ∨ (c'.quiet = true ∧ codeC M A c' R s')) (fun e s' => R (.error e) s') s)
    (n : Nat) (h : I n s) : codeC M A c R s := by
  induction n using Nat.strongRecOn generalizing s with
  | ind n ih =>
    refine codeC_of_tree (wpC_mono (turn n s h) (fun fin s' hf => ?_) fun _ _ h' => h')
    cases fin with
    | done f => exact hf
    | again c' =>
      rcases hf with ⟨rfl, m, hm, hI⟩ | hf
      · exact ⟨hq, ih m hm hI⟩
      · exact hf
end

section
variable {M : Model} {A : Around} {E : Value → Shared → Prop} {s : Shared} {env : Env}
theorem wpC_execs_cons {st : Stmt} {rest : List Stmt} {Q : Flow → Shared → Prop}
    (h : wpC M A (exec st env) (fun f s' => match f with | .next => wpC M A (execs rest env) Q E s' | f => Q f s') E s) : wpC M A (execs (st :: rest) env) Q E s := by
  rw [execs_cons]
  refine wpC_bind (wpC_mono h (fun f s' h' => ?_) fun _ _ h' => h')
  cases f <;> first | exact h' | exact wpC_pure h'
/-- a statement off the spine -/
theorem wpC_execs_off {st : Stmt} {rest : List Stmt} {Q : Flow → Shared → Prop}
    (h : wpAny M A (exec st env) (fun f s' => match f with | .next => wpC M A (execs rest env) Q E s' | f => Q f s') E s) : wpC M A (execs (st :: rest) env) Q E s := wpC_execs_cons (wpC_of_any h)
theorem wpC_If {test : Expr} {body orelse : List Stmt} {pos : Pos} {Q : Flow → Shared → Prop}
    (h : wpC M A (isTrue test env (eval test env)) (fun b s₂ => if b then wpC M A (execs body env) Q E s₂ else wpC M A (execs orelse env) Q E s₂) E s) :
    wpC M A (exec (.If test body orelse pos) env) Q E s := fun Γ p hΓ hc => by
  simp only [exec_If, Sem.wp_bind', Sem.wp_cmd_standAt]
  refine Sem.wp_mono M Γ _ (fun b p₂ s₂ h₂ => ?_) (fun _ _ _ h' => h') _ _ (h Γ _ hΓ hc)
  cases b <;> exact h₂ Γ p₂ hΓ hc
theorem wpC_isTrue_Compare1 {l : Expr} {op : CmpOp} {r : Expr} {pos : Pos} {whole : Sem Value} {Q : Bool → Shared → Prop}
    (h : wpC M A (eval l env) (fun a s₁ => wpAny M A (eval r env) (fun b s₂ => wpAny M A (compareOp op a b)
      (fun c s₃ => wpAny M A (truthy c) Q E s₃) E s₂) E s₁) E s)
    (hm : behindInMarks op r = false := by with_unfolding_all rfl) : wpC M A (isTrue (.Compare l [op] [r] pos) env whole) Q E s := fun Γ p hΓ hc => by
  simp only [isTrue_Compare1, markedBehindIn_of_false hm, Sem.wp_bind', Sem.wp_holding, Sem.wp_cmd_standAt, Sem.wp_operate]
  exact Sem.wp_mono M Γ _ (fun a p₁ s₁ h₁ => Sem.wp_mono M Γ _ (fun b _ s₂ h₂ => Sem.wp_mono M Γ _ (fun c p₃ s₃ h₃ => h₃ Γ p₃ hΓ)
    (fun _ _ _ h' => h') _ _ (h₂ Γ _ hΓ)) (fun _ _ _ h' => h') _ _ (h₁ Γ p₁ hΓ)) (fun _ _ _ h' => h') _ _ (h Γ p hΓ hc)
theorem wpC_runOwn {c : Code} {h : Option Value} {Q : Flow → Shared → Prop}
    (hc : codeC M (A.mark h) c (fun r s' => match r with | .ok f => Q f s' | .error e => cameBackBy M A env E e s') s) (hnb : h ≠ some byPass := by intro x; cases x) :
    wpC M A (runOwn c env h) Q E s := by
  unfold runOwn
  exact wpC_onRaise (wpC_mono (wpC_run (Q := Q) (E := fun e s' => cameBackBy M A env E e s') hc hnb) (fun _ _ h' => h') fun e s' h' => wpC_of_any h')
theorem wpC_For {target iter : Expr} {body orelse : List Stmt} {pos : Pos} {Q : Flow → Shared → Prop}
    (h : wpAny M A (eval iter env) (fun x s₁ => wpAny M A (pyIter x) (fun it s₂ =>
      codeC M A (.forLoop target it body orelse env) (fun r s' => match r with | .ok f => Q f s' | .error e => cameBackBy M A env E e s') s₂) E s₁) E s)
    (hs : ∀ x, foldedSetIterable iter env x = pure x := by intro _; rfl) :
    wpC M A (exec (.For target iter body orelse pos) env) Q E s := by
  rw [exec_For]
  exact wpC_then (wpAny_standAt (wpC_then (wpAny_mono h (fun x s₁ h₁ => wpC_then (wpAny_of_eq (hs x) (wpC_then (wpAny_standAt (wpC_then (wpAny_holding
    (wpAny_mono h₁ (fun it s₂ h₂ => wpC_runOwn h₂) fun _ _ h' => h'))))))) fun _ _ h' => h')))
theorem wpC_Try_except {body orelse : List Stmt} {h₀ : ExceptHandler} {hs : List ExceptHandler} {pos : Pos} {Q : Flow → Shared → Prop}
    (h : wpC M A (execs body env) (fun f s₁ => match f with | .next => wpAny M A (execs orelse env) Q E s₁ | f => Q f s₁)
      (fun e s₁ => wpAny M A (noteFrame e env) (fun _ s₂ => wpAny M A (setFlight e none) (fun _ s₃ => wpAny M A (handleBy e env (h₀ :: hs)) Q E s₃) E s₂) E s₁) s) :
    wpC M A (exec (.Try body (h₀ :: hs) orelse [] pos) env) Q E s := by
  rw [arm_exec_Try]
  refine wpC_then (wpAny_standAt ?_)
  unfold tryStmt
  simp only [List.isEmpty_nil, if_true, List.isEmpty_cons, Bool.false_and, Bool.false_eq_true, if_false]
  refine wpC_bind (wpC_attempt (wpC_mono h (fun f s₁ h₁ => ?_) fun e s₁ h₁ => ?_))
  · cases f <;> first | exact wpC_of_any h₁ | exact wpC_pure h₁
  · exact wpC_then (wpAny_mono h₁ (fun _ _ h₂ => wpC_then (wpAny_mono h₂ (fun _ _ h₃ => wpC_of_any h₃) fun _ _ x => x)) fun _ _ x => x)
end

section
variable {prog : Program} {w : World} {A : Around} {s : Shared} {R : Result → Shared → Prop}
theorem wpC_noted {α : Type} {M : Model} {E : Value → Shared → Prop} {env : Env} {m : Sem α} {Q : α → Shared → Prop} (h : wpC M A m Q (notedBy M A env E) s) : wpC M A (m.onRaise fun x => do noteFrame x env; theTreesLotGoes x) Q E s :=
  wpC_onRaise (wpC_mono h (fun _ _ q => q) fun _ _ hx => wpC_of_any (wpAny_bind (wpAny_mono hx (fun _ _ e => wpAny_theTreesLotGoes e) fun _ _ e => e)))
theorem codeC_forLoop {target : Expr} {it : Value} {body orelse : List Stmt} {env : Env} (I : Nat → Shared → Prop)
    (turn : ∀ n s, I n s → wpAny (model prog w) A (pyNext it) (fun r s₁ => match r with
      | none => wpAny (model prog w) A (execs orelse env) (fun f s₃ => R (.ok f) s₃) (notedBy (model prog w) A env fun e s' => R (.error e) s') s₁
      | some v => wpAny (model prog w) A (assign target env v) (fun _ s₂ => wpC (model prog w) A (execs body env) (fun f s₃ => match f with
          | .next | .cont => ∃ m, m < n ∧ I m s₃
          | .brk => R (.ok .next) s₃
          | .ret v => R (.ok (.ret v)) s₃) (notedBy (model prog w) A env fun e s' => R (.error e) s') s₂) (notedBy (model prog w) A env fun e s' => R (.error e) s') s₁) (notedBy (model prog w) A env fun e s' => R (.error e) s') s)
    (n : Nat) (h : I n s) (ht : ∀ v, letOwnedTupleGo target it v = pure () := by intro _; rfl) : codeC (model prog w) A (.forLoop target it body orelse env) R s := by
  refine codeC_loop rfl I (fun n s hI => ?_) n h
  show wpC _ _ ((forTurn target it body orelse env).onRaise (fun x => do noteFrame x env; theTreesLotGoes x)) _ _ s
  refine wpC_noted ?_
  simp only [forTurn]
  refine wpC_then (wpAny_standAt (wpC_then (wpAny_onRaise (wpAny_mono (turn n s hI) (fun r s₁ h₁ => ?_) fun _ _ h' => wpAny_standAt h'))))
  cases r with
  | none => exact wpC_pure (.inr ⟨rfl, codeC_of_any (codeAny_block h₁)⟩)
  | some v =>
    refine wpC_then (wpAny_of_eq (ht v) ?_)
    refine wpC_then (wpAny_mono h₁ (fun _ s₂ h₂ => wpC_bind (wpC_mono h₂ (fun f s₃ h₃ => ?_) fun _ _ h' => h')) fun _ _ h' => h')
    cases f with
    | next => exact wpC_pure (.inl ⟨rfl, h₃⟩)
    | cont => exact wpC_pure (.inl ⟨rfl, h₃⟩)
    | brk => exact wpC_pure h₃
    | ret v => exact wpC_pure h₃
theorem codeC_call_function {a : Addr} {args : Args} {o : Obj} {fd : FuncData} {body : List Stmt} (hroom : A.depth < recursionLimit)
    (ho : s.heap.get? a = some o)
    (hd' : o.data = .func fd) (hco : fd.scope.isCoroutine = false) (hgen : fd.scope.isGenerator = false) (hbody : fd.body = .stmts body) (hcd : s.heap.CodeRec fd.code fd.qualname)
    (h : wpAny (model prog w) A.in1 (bindArgs fd args) (fun binds s₁ =>
      wpAny (model prog w) A.in1 (newFunctionEnv fd.scope fd.globals fd.closure binds (fd.qualname ++ ".<locals>.") (some a) fd.code none fd.builtins)
        (fun env s₂ => s₂.heap.NoLimit ∧ codeC (model prog w) A (.func body env) R s₂) (fun e s' => R (.error e) s') s₁) (fun e s' => R (.error e) s') s) :
    codeC (model prog w) A (.call (.ref a) args) R s := by
  refine codeC_of_tree (wpC_of_any ?_)
  show wpAny _ A.in1 (callAny (.ref a) args) _ _ s
  simp only [callAny]
  refine wpAny_bind (wpAny_load ho ?_)
  obtain ⟨c, oc, vs, tq, hc, hoc, hdc, hq⟩ := hcd
  simp only [hd', callFunction, hco, hgen, hbody, hc]
  rw [hc] at h
  refine wpAny_bind (m := field (.ref c) 1) (wpAny_field hoc hdc hq (wpAny_bind (wpAny_pure ?_)))
  exact wpAny_bind (wpAny_mono h (fun binds s₁ h₁ => wpAny_bind (wpAny_mono h₁ (fun env s₂ h₂ => wpAny_bind (wpAny_enterFrame h₂.1 hroom
    (wpAny_pure (And.intro rfl h₂.2)))) fun _ _ h' => h')) fun _ _ h' => h')
theorem codeC_func {body : List Stmt} {env : Env}
    (h : wpC (model prog w) (A.deeper env) (execs body env) (fun f s' => R (.ok (.ret (match f with | .ret v => v | _ => .none))) s')
      (fun e s' => wpAny (model prog w) (A.deeper env) (leaving env e) (fun _ s'' => R (.error e) s'') (fun e' s'' => R (.error e') s'') s') s) :
    codeC (model prog w) A (.func body env) R s := by
  refine codeC_of_tree ?_
  show wpC _ (A.deeper env) (do point; match ← (execs body env).onRaise (leaving env) with | .ret v => ret v | _ => ret .none) _ _ s
  refine wpC_then (wpAny_point (wpC_bind (wpC_onRaise (wpC_mono h (fun f s' h' => ?_) fun _ _ h' => wpC_of_any h'))))
  cases f <;> exact wpC_pure h'

/-- a call of a def, on the spine -/
theorem wpC_callWith_ref {E : Value → Shared → Prop} {pos : Pos} {a : Addr} {o : Obj} {fd : FuncData} {first : List Value} {args : List (Bool × Sem Value)} {Q : Value → Shared → Prop} (hplain : args.any (·.1) = false)
    (h : wpAny (model prog w) A (evalArgs (.ref a) true args []) (fun x s₁ => (s₁.heap.get? a = some o ∧ o.data = .func fd) ∧ wpC (model prog w) A (call (.ref a) (first ++ x.pos) x.kw) Q E s₁) E s) :
    wpC (model prog w) A (callWith pos (.ref a) first args []) Q E s := by
  unfold callWith
  refine wpC_then (wpAny_holding (wpAny_mono h (fun x s₁ h₁ => wpC_then (wpAny_standAt ?_)) fun _ _ x => x))
  have tail : ∀ {t : Sem Value}, wpC (model prog w) A t Q E s₁ → wpC (model prog w) A (t >>= fun r => holding [r] point >>= fun _ => pure r) Q E s₁ :=
    fun ht => wpC_bind (wpC_mono ht (fun r s₂ hr => wpC_of_any (wpAny_bind (wpAny_holding (wpAny_point (wpAny_pure hr))))) fun _ _ x => x)
  simp only [hplain, List.any_nil, Bool.or_false]
  refine wpC_then (m := keeperOf (.ref a)) ?_
  unfold keeperOf
  refine wpAny_bind (wpAny_load h₁.1.1 ?_)
  rw [h₁.1.2]
  refine wpAny_pure ?_
  by_cases hl : args.length + 2 * ([] : List (Option PySem.Str × Sem Value)).length > 30
  · simp only [hl, if_true]
    exact tail h₁.2
  · simp only [hl, if_false]
    refine tail ?_
    unfold callMarked
    intro Γ p hΓ hc
    rw [Sem.wp_keep]
    exact h₁.2 Γ p hΓ hc
/-- a call of a class, on the spine -/
theorem wpC_callWith_type {E : Value → Shared → Prop} {pos : Pos} {T : String} {first : List Value} {args : List (Bool × Sem Value)} {Q : Value → Shared → Prop} (hplain : args.any (·.1) = false)
    (h : wpAny (model prog w) A (evalArgs (.type T) true args []) (fun a s₁ => wpC (model prog w) A (call (.type T) (first ++ a.pos) a.kw) Q E s₁) E s) :
    wpC (model prog w) A (callWith pos (.type T) first args []) Q E s := by
  unfold callWith
  refine wpC_then (wpAny_holding (wpAny_mono h (fun a s₁ h₁ => wpC_then (wpAny_standAt ?_)) fun _ _ x => x))
  simp only [hplain, List.any_nil, Bool.or_false]
  refine wpC_then (wpAny_pure ?_)
  exact wpC_bind (wpC_mono h₁ (fun r s₂ hr => wpC_of_any (wpAny_bind (wpAny_holding (wpAny_point (wpAny_pure hr))))) fun _ _ x => x)
end
end Mine
end

/-! ## IntC -/
section
set_option maxRecDepth 100000
open PySem PySem.Calls PyProof.Rows
set_option autoImplicit false
namespace Mine

section
variable {prog : Program} {w : World} {A : Around} {E : Value → Shared → Prop} {s : Shared} {R : Result → Shared → Prop}
theorem codeC_call_builtin {id : String} {args : Args} {b : Builtin} (hq : plainId id = true) (hb : entryFor table id = some b)
    (h : wpAny (model prog w) A.in1 (checkBuiltinCall id args) (fun _ s₁ => wpC (model prog w) A.in1 (b args)
      (fun fin s' => match fin with | .done f => R (.ok f) s' | .again c' => c'.quiet = true ∧ codeC (model prog w) A c' R s') (fun e s' => R (.error e) s') s₁)
      (fun e s' => R (.error e) s') s) : codeC (model prog w) A (.call (.builtin id) args) R s := by
  refine codeC_of_tree ?_
  show wpC _ A.in1 (do checkBuiltinCall id args; again (.builtin id args)) _ _ s
  refine wpC_then (wpAny_mono h (fun _ s₁ h₁ => wpC_pure (And.intro (plainId_quiet hq args) (codeC_of_tree ?_))) fun _ _ h' => h')
  show wpC _ _ (match entryFor table id with | some b => b args | none => unsupported ((withoutEnding? id "#data").getD id)) _ _ s₁
  rw [hb, Around.under_plainId hq args]; exact h₁

theorem codeC_builtin {id : String} {args : Args} {b : Builtin} (hb : entryFor table id = some b)
    (h : wpC (model prog w) (A.under (.builtin id args)) (b args)
      (fun fin s' => match fin with | .done f => R (.ok f) s' | .again c' => c'.quiet = true ∧ codeC (model prog w) A c' R s') (fun e s' => R (.error e) s') s) :
    codeC (model prog w) A (.builtin id args) R s := by
  refine codeC_of_tree ?_
  show wpC _ _ (match entryFor table id with | some b => b args | none => unsupported ((withoutEnding? id "#data").getD id)) _ _ s
  rw [hb]; exact h
theorem typeCall_int_2 (a b : Value) : checkTypeCall "int" ⟨[a, b], []⟩ = pure () := by kernel_rfl
theorem newCall_int_2 (a b : Value) : checkBuiltinCall "int.__new__" ⟨[.type "int", a, b], []⟩ = pure () := by kernel_rfl


theorem wpC_call_int {a b : Value} {Q : Value → Shared → Prop}
    (hr : wpC (model prog w) A.in1.in1 (Builtin.«int.__new__» ⟨[.type "int", a, b], []⟩) (fun _ _ => False) E s) : wpC (model prog w) A (call (.type "int") [a, b]) Q E s := by
  have h2 := F.called_int.canCreate
  have hm := F.mro_int
  have hmade := F.called_int.made
  refine wpC_call (codeC_of_tree ?_)
  show wpC _ _ (callAny (.type "int") _) _ _ _
  refine wpC_pure ⟨Code.quiet_builtin _ (by decide +kernel), codeC_builtin F.entry_type_call ?_⟩
  rw [Around.under_plain (weight_type_call_type "int" [a, b] []) (units_type_call_type "int" [a, b] [])]
  unfold Builtin.«type.__call__»
  show wpC _ _ (if (Value.type "int" == Value.type "type") = true then _ else _) _ _ _
  rw [if_neg (by decide +kernel)]
  show wpC _ _ (if (((Manifest.find? "int").bind _).getD false) = true then _ else _) _ _ _
  rw [if_neg (by rw [h2]; exact Bool.false_ne_true)]
  simp only [typeCall_int_2, hm, hmade, pure_bind]
  refine wpC_bind (wpC_holding (wpC_call (codeC_call_builtin F.called_int.plain F.entry_int_new (wpAny_of_eq (newCall_int_2 a b) (wpC_mono hr (fun _ _ h => h.elim) fun e s' h => ?_)))))
  exact h
end
end Mine
end

/-! ## IntC2 -/
section
set_option maxRecDepth 100000
open PySem PySem.Calls PyProof.Rows PySem.NumText
set_option autoImplicit false
namespace Mine
section
variable {prog : Program} {w : World} {A : Around} {E : Value → Shared → Prop} {s : Shared} {R : Result → Shared → Prop}

theorem wpC_mark {M : Model} {own : List String} {e : Value} {Q : Unit → Shared → Prop} (h : Q () s) : wpC M A (markTheRefusal own e) Q E s := fun Γ p hΓ hc => by
  unfold markTheRefusal
  rw [Sem.wp_bind']
  show Sem.wp M Γ (if pythonCodeMadeTheCall own (((Γ.code, p) :: Γ.below).map (·.1)) = true then _ else _) _ _ p s
  have hf : pythonCodeMadeTheCall own (((Γ.code, p) :: Γ.below).map (·.1)) = false := by
    have h1 : ((((Γ.code, p) :: Γ.below).map (·.1)).any Code.isCaller) = true := by
      rw [List.any_map]; exact hc
    show ((!((((Γ.code, p) :: Γ.below).map (·.1)).any Code.isCaller)) && _ && _) = false
    rw [h1]; rfl
  rw [hf, if_neg Bool.false_ne_true]
  exact h

theorem isType_int : isType (.type "int") = pure true := rfl
theorem intIndex_ten (t : Tok) : Builtin.Int.intIndex "int.__new__" (.int 10 t) = pure 10 := by
  first | rfl | kernel_rfl
theorem wpC_intNew_bad {x : PySem.Str} {u t : Tok} (hh : A.handled = none) (hl : x.length ≤ 600) (hx : ∀ c ∈ x.cps.toList, c ≠ 0 ∧ c < 128) (hn : PySem.intText? x = none)
    (hE : ∀ e h' tk, Heap.NewExc s.heap h' e "ValueError" → E (.ref e) { s with heap := h', toks := tk }) :
    wpC (model prog w) A (Builtin.«int.__new__» ⟨[.type "int", .str x u, .int 10 t], []⟩) (fun _ _ => False) E s := by
  unfold Builtin.«int.__new__»
  simp only [isType_int, F.conv_sub_int, F.madeHere_int, pure_bind]
  change wpC (model prog w) A ((int_private% "intFromText") (.str x u) (numTextOf x) 10 >>= _) _ _ _
  have hs : (numSeenOf x).length ≤ 640 := Nat.le_trans (seen_length x) (by omega)
  refine wpC_bind ?_
  have key : wpC (model prog w) A (do
      rule "int.__new__.invalid-literal"
      let shown ← pyRepr (.str x u)
      let m ← mkStr (((s!"invalid literal for int() with base {10}: " : String) ++ ⟨shown.cps.extract 0 200⟩ : PySem.Str))
      let refusal ← newExc (.type "ValueError") [m]
      markTheRefusal ["int.__new__"] refusal
      raiseNew refusal) (fun (_ : Value) _ => False) E s := by
    refine wpC_then (wpAny_rule ?_)
    refine wpC_then (wpAny_pyRepr_str ?_ ?_)
    · refine wpC_then (wpAny_mkStr ?_ ?_)
      · refine wpC_then (wpAny_newExc_plain plainExc_ValueError (fun h' e hm => ?_))
        refine wpC_bind (wpC_mark ?_)
        exact wpC_of_any (wpAny_raiseNew_none hh (hE _ _ _ hm.newExc))
      · have h1 : ((s!"invalid literal for int() with base {10}: " : String) : PySem.Str).length ≤ 100 := by decide +kernel
        have h2 : (⟨(reprText x).cps.extract 0 200⟩ : PySem.Str).length ≤ 200 := by
          show ((reprText x).cps.extract 0 200).size ≤ 200
          rw [Array.size_extract]; omega
        rw [PySem.Str.length_append, sizeLine_eq]
        omega
    · have := StrLaws.reprText_len x (fun c hc => Nat.lt_trans (hx c hc).2 (by decide))
      rw [sizeLine_eq]
      omega
  have hr : (int_private% "readNumeral") 0 10 (numSeenOf x) = int_private% "Numeral.invalid" := by
    have e1 : numTextOf x = x.cps.toList := by
      refine if_pos ?_
      rw [← Array.all_toList, List.all_eq_true]
      exact fun c hc => decide_eq_true (hx c hc).2
    have e2 : numSeenOf x = x.cps.toList := by
      show (numTextOf x).takeWhile _ = _
      rw [e1]
      exact takeWhile_all fun c hc => bne_iff_ne.mpr (hx c hc).1
    rcases read0 x hs with ⟨n, h1, _⟩ | ⟨_, h1 | ⟨i, _, h1⟩⟩
    · rw [hn] at h1; cases h1
    · exact h1
    · exact absurd (by rw [e1, e2]; exact beq_self_eq_true _) h1
  refine wpC_mono (Q := fun _ _ => False) ?_ (fun _ _ h => h.elim) (fun _ _ h => h)
  change wpC _ _ (if (numSeenOf x).length ≤ 640 then _ else _) _ _ _
  rw [if_pos hs]
  refine wpC_bind (wpC_pure ?_)
  have hr' : (int_private% "readNumeral") 0 10 (List.takeWhile (fun x => x != 0) (numTextOf x)) = int_private% "Numeral.invalid" := hr
  dsimp only
  rw [hr']
  exact key
end
end Mine
end

/-! ## IntV -/
section
set_option maxRecDepth 100000
open PySem PySem.Calls PyProof.Rows PySem.NumText
set_option autoImplicit false
namespace Mine
theorem args_objinit_3 (o a b : Value) : argsOk "object.__init__" ⟨[o, a, b], []⟩ := by unfold argsOk; kernel_rfl
theorem gives_int10 {x : PySem.Str} {u t : Tok} {n : Int} (hl : x.length ≤ 640) (hn : PySem.intText? x = some n) : Gives (Builtin.«int.__new__» ⟨[.type "int", .str x u, .int 10 t], []⟩) (.int n) :=
  .of_wp fun M A E s Q h => by
    have hs : (numSeenOf x).length ≤ 640 := Nat.le_trans (seen_length x) hl
    have hr : (int_private% "readNumeral") 0 10 (numSeenOf x) = (int_private% "Numeral.value") n ∧ ((numSeenOf x).length == (numTextOf x).length) = true := by
      rcases read0 x hs with ⟨m, h1, h2, h3⟩ | ⟨h1, _⟩
      · rw [hn] at h1
        injection h1 with h1
        subst h1
        exact ⟨h3, h2⟩
      · rw [hn] at h1
        cases h1
    unfold Builtin.«int.__new__»
    simp only [isType_int, F.conv_sub_int, F.madeHere_int, pure_bind]
    change wpAny M A ((int_private% "intFromText") (.str x u) (numTextOf x) 10 >>= _) _ _ _
    refine wpAny_bind (PySem.W.KIN.wp_text hs hr.1 hr.2 ?_)
    exact wpAny_pure ⟨_, rfl, h⟩
section
variable {prog : Program} {w : World} {A : Around} {E : Value → Shared → Prop} {s : Shared}
theorem call_int10 {x : PySem.Str} {u t : Tok} {n : Int} {Q : Value → Shared → Prop} (hl : x.length ≤ 640) (hn : PySem.intText? x = some n) (h : Q (.int n s.toks) { s with toks := s.toks + 1 }) :
    wpAny (model prog w) A (call (.type "int") [.str x u, .int 10 t]) Q E s :=
  callType_new F.called_int F.newNe_int (typeCall_int_2 _ _) (newCall_int_2 _ _) (fun obj => args_objinit_3 obj _ _) F.entry_int_new (gives_int10 hl hn).meets (show (Made.int n).post _ s from ⟨rfl, h⟩)
end
end Mine
end

/-! ## Spine2 -/
section
set_option maxRecDepth 100000
open PySem PySem.Calls PyProof.Rows PySem.W
set_option autoImplicit false
namespace Mine
section
variable {prog : Program} {w : World} {A A₀ : Around} {s : Shared} {R : Result → Shared → Prop}
theorem codeC_call_def {a : Addr} {o : Obj} {fd : FuncData} {body : List Stmt} {args : Args} {binds : List (PySem.Str × Value)}
    (hroom : A.depth < recursionLimit) (ho : s.heap.get? a = some o) (hdata : o.data = .func fd) (hlim : s.heap.NoLimit) (hcd : s.heap.CodeRec fd.code fd.qualname)
    (hbody : fd.body = .stmts body) (hbind : BindsTo s fd args binds)
    (hcell : ∀ x ∈ fd.scope.names, x.2 ≠ .cell) (hloc : ∀ x ∈ binds, fd.scope.names.lookup x.1 = some .local)
    (h : ∀ h₀, h₀.Ns s.heap.objs.size (fun x => binds.reverse.lookup x) → (∀ b o, s.heap.get? b = some o → h₀.get? b = some o) →
      wpC (model prog w) (A.deeper (callEnv fd s.heap.objs.size a)) (execs body (callEnv fd s.heap.objs.size a)) (fun f s' => R (.ok (.ret (match f with | .ret v => v | _ => .none))) s')
        (fun e s' => wpAny (model prog w) (A.deeper (callEnv fd s.heap.objs.size a)) (leaving (callEnv fd s.heap.objs.size a) e) (fun _ s'' => R (.error e) s'') (fun e' s'' => R (.error e') s'') s')
        { s with heap := h₀, toks := s.toks + binds.length })
    (hco : fd.scope.isCoroutine = false) (hgen : fd.scope.isGenerator = false) (hk : fd.scope.kind = .function) :
    codeC (model prog w) A (.call (.ref a) args) R s := by
  refine codeC_call_function hroom ho hdata hco hgen hbody hcd (hbind _ _ _ _ ?_)
  refine wpAny_newFunctionEnv hcell hloc (fun h₀ hns₀ hsb₀ => ⟨hlim.fresh _ hsb₀, codeC_func (h h₀ hns₀ fun b o e => ?_)⟩) hk
  exact hsb₀.extBut b o (Nat.ne_of_lt (Heap.lt_size e)) (Heap.get?_push_of_some _ e)

theorem codeC_def {K : Frag} {L : Addr} {h₀ base : Heap} {m mg mb : PySem.Str → Option Value} {news : List (Addr × Obj)} {p : Program} {loose : List PySem.Str} {mean : ExcName → Option Value}
    {env : Env} {outer : List Env} {name qual : PySem.Str} {params : Arguments} {body : List Stmt} {scope : Scope} {dV kV doc pm cdv ct oc : Value} {an od : Option Addr} {osl : Array (Option Value)} {f : Addr} {args : Args} {binds : List (PySem.Str × Value)}
    (B : Below A₀ base outer h₀) (F : Fr h₀ L s.heap m) (X₀ : K.In h₀) (N : News h₀ L s.heap news) (T : Top p loose mean mg mb h₀) (hA : A.frames = some (env :: outer)) (hf : env.frame = some L) (hke : env.scope.kind = .function)
    (ho : K.lookup f = some ⟨oc, od, .func (fnOf name qual params body scope dV kV doc pm an cdv ct), osl⟩) (hcd : codeIn K cdv qual = true) (hroom : A.depth < recursionLimit)
    (hbind : BindsTo s (fnOf name qual params body scope dV kV doc pm an cdv ct) args binds) (hloc : ∀ y ∈ binds, scope.names.lookup y.1 = some .local)
    (h : ∀ g L' h₁, Fr h₀ L g m → Fr g L' h₁ (fun y => binds.reverse.lookup y) → News g L' h₁ news → Below A base (env :: outer) g → K.In g → Top p loose mean mg mb g →
      wpC (model prog w) (A.deeper (envOf qual scope L' f cdv)) (execs body (envOf qual scope L' f cdv))
        (fun fl s' => LeaveK h₀ L m g R (match fl with | .ret v => v | _ => .none) s')
        (fun e s' => wpAny (model prog w) (A.deeper (envOf qual scope L' f cdv)) (leaving (envOf qual scope L' f cdv) e) (fun _ s'' => R (.error e) s'') (fun e' s'' => R (.error e') s'') s')
        { s with heap := h₁, toks := s.toks + binds.length })
    (hco : scope.isCoroutine = false) (hgen : scope.isGenerator = false) (hk : scope.kind = .function)
    (hcell : ∀ x ∈ scope.names, x.2 ≠ .cell) : codeC (model prog w) A (.call (.ref f) args) R s := by
  obtain ⟨FG, BG, st, lv⟩ := groundX (R := R) B F N hA hf hke
  refine codeC_call_def (fd := fnOf name qual params body scope dV kV doc pm an cdv ct) (body := body) (binds := binds) hroom ((X₀.keeps F.keep) _ _ ho) rfl (T.nolimit.keeps F.keep) (codeRec_of (X₀.keeps F.keep) hcd) rfl hbind hcell hloc (fun h₁ hns hk₁ => ?_) hco hgen hk
  exact wpC_mono (h _ s.heap.objs.size h₁ FG ⟨hns, fun b o e => hk₁ b o (of_hideAll _ e), Nat.le_of_eq (hideAll_size _ _)⟩
    (fun p hp => ⟨hk₁ _ _ (N p hp).1, Nat.ne_of_lt (Heap.lt_size (N p hp).1), hideAll_none _ (List.mem_map_of_mem hp)⟩) BG (X₀.keeps st) (T.keeps st)) (fun fl s' hl => lv _ _ hl) fun _ _ y => y
end
end Mine
end

/-! ## LoopC -/
section
set_option maxRecDepth 100000
open PySem PySem.Calls PyProof.Rows PySem.W
set_option autoImplicit false
namespace Mine
section
variable {prog : Program} {w : World} {A : Around} {E : Value → Shared → Prop} {s : Shared} {env : Env} {h₀ : Heap} {x : PySem.Str} {px : Pos} {body : List Stmt} {R : Result → Shared → Prop}

/-- what a turn leaves -/
def TurnEnd (h₀ : Heap) (L : Addr) (J : (PySem.Str → Option Value) → List (Addr × Obj) → Prop) (own : List (Addr × Obj)) (s₁ : Shared) (f : Flow) (s₂ : Shared) : Prop :=
  f = .next ∧ ∃ h' tk m' nx, s₂ = { s₁ with heap := h', toks := tk } ∧ Fr h₀ L h' m' ∧ News h₀ L h' (nx ++ own) ∧ OwnOff own (nx.map (·.1)) ∧ J m' nx

theorem forC_list {l : Addr} {vs : List Value} {nn : Nat} {m₀ : PySem.Str → Option Value} {news : List (Addr × Obj)} (J : Nat → (PySem.Str → Option Value) → List (Addr × Obj) → Prop)
    (hh : A.handled = none) (hl : (l, listOf vs.toArray nn) ∈ news) (F : Fr h₀ env.locals s.heap m₀) (N : News h₀ env.locals s.heap news) (hj : J 0 m₀ news)
    (hx : env.kindOf x = some .local) (hp : (env.scope.kind == .class || (env.scope.kind == .module && env.locals != env.globals)) = false)
    (turn : ∀ i v m₁ news₁ h tk own, vs[i]? = some v → OwnOff own (news₁.map (·.1)) → (l, listOf vs.toArray nn) ∈ news₁ → J i m₁ news₁ → Fr h₀ env.locals h (fun y => if y = x then some v else m₁ y) → News h₀ env.locals h (news₁ ++ own) →
      wpC (model prog w) A (execs body env) (TurnEnd h₀ env.locals (fun m' nx => (l, listOf vs.toArray nn) ∈ nx ∧ J (i + 1) m' nx) own { s with heap := h, toks := tk }) (fun _ _ => False) { s with heap := h, toks := tk })
    (done : ∀ m₁ news₁ h tk, J vs.length m₁ news₁ → Fr h₀ env.locals h m₁ → News h₀ env.locals h news₁ → R (.ok .next) { s with heap := h, toks := tk }) :
    wpAny (model prog w) A (pyIter (.ref l)) (fun it s₂ => codeC (model prog w) A (.forLoop (.Name x px) it body [] env) R s₂) E s := by
  have hol : s.heap.get? l = some (listOf vs.toArray nn) := (N _ hl).1
  have hls : s.heap.IsList l vs.toArray := ⟨_, hol, rfl, nn, rfl⟩
  have hlt : l < s.heap.objs.size := Heap.lt_size hol
  have hne : l ≠ s.heap.objs.size := Nat.ne_of_lt hlt
  have hLI : env.locals ≠ s.heap.objs.size := Nat.ne_of_lt F.ns.lt
  have hnone : h₀.get? s.heap.objs.size = none := next_is_new F
  refine wpAny_pyIter_list hls ?_
  have W := Walks.list (prog := prog) (w := w) hh s.heap.objs.size l hne vs.toArray
  refine codeC_forLoop (fun k s' => ∃ h' tk m' news' i, s' = { s with heap := h', toks := tk } ∧ (h'.IsListIter s.heap.objs.size l i ∧ h'.IsList l vs.toArray) ∧ Fr h₀ env.locals h' m' ∧ News h₀ env.locals h' news' ∧
      (∀ p ∈ news', p.1 ≠ s.heap.objs.size) ∧ (l, listOf vs.toArray nn) ∈ news' ∧ J i m' news' ∧ i ≤ vs.length ∧ k = vs.length + 1 - i) ?_ (vs.length + 1)
    ⟨_, s.toks, m₀, news, 0, rfl, ⟨⟨_, Heap.get?_push_size _ rfl, rfl, rfl⟩, hls.at fun o e => Heap.get?_push_of_some _ e⟩, F.push _, (fun p hp => ⟨Heap.get?_push_of_some _ (N p hp).1, (N p hp).2⟩),
      (fun p hp => Nat.ne_of_lt (Heap.lt_size (N p hp).1)), hl, hj, Nat.zero_le _, rfl⟩
  rintro k s' ⟨h', tk, m', news', i, rfl, hst', F', N', hoff, hl', hJ, hi, rfl⟩
  have next : ∀ h₁ : Heap, (∀ b o, b ∉ [s.heap.objs.size] → h'.get? b = some o → h₁.get? b = some o) → Fr h₀ env.locals h₁ m' ∧ News h₀ env.locals h₁ news' := fun h₁ hk₁ =>
    ⟨⟨F'.ns.at' fun o e => hk₁ _ o (by simpa using hLI) e, fun b o e => hk₁ b o (by simp; intro q; rw [q, hnone] at e; cases e) (F'.keep b o e), F'.above⟩, fun p hp => ⟨hk₁ _ _ (by simpa using hoff p hp) (N' p hp).1, (N' p hp).2⟩⟩
  by_cases hlt' : i < vs.length
  · refine W.item i _ _ _ (by simpa using hlt') hst' fun v h₁ tk₁ hP hst₁ hk₁ => ?_
    obtain ⟨F₁, N₁⟩ := next h₁ hk₁
    refine wpAny_assign_Name (wpAny_storeName_local hx F₁.ns (fun h₂ hn₂ hs₂ => ?_) hp)
    have F₂ := F₁.set hn₂ hs₂
    have hst₂ := W.frame _ _ h₂ hst₁ fun b hb o e => (hs₂.2 b fun q => by
      rcases List.mem_cons.mp (q ▸ hb) with e | e
      · exact hLI e
      · exact (N' _ hl').2.1 (List.mem_singleton.mp e).symm).trans e
    obtain ⟨oI, hoI, rI⟩ := id hst₂.1
    have NI : News h₀ env.locals h₂ (news' ++ [(s.heap.objs.size, oI)]) := fun p hp => by
      rcases List.mem_append.mp hp with q | q
      · exact (N₁.set hs₂) p q
      · rw [List.mem_singleton.mp q]; exact ⟨hoI, Ne.symm hLI, hnone⟩
    have hown : OwnOff [(s.heap.objs.size, oI)] (news'.map (·.1)) := fun p hp b hb e => by
      obtain ⟨q, hq, rfl⟩ := List.mem_map.mp hb
      rw [List.mem_singleton.mp hp] at e
      exact hoff q hq e.symm
    have hv : vs[i]? = some v := by simpa using hP
    refine wpC_mono (turn i v m' news' h₂ _ [(s.heap.objs.size, oI)] hv hown hl' hJ F₂ NI) (fun f s₃ h₃ => ?_) fun _ _ e => e.elim
    obtain ⟨rfl, h₃', tk₃, m₂, nx, rfl, F₃, N₃, ho₃, hl₃, hJ₃⟩ := h₃
    refine ⟨vs.length + 1 - (i + 1), by omega, h₃', tk₃, m₂, nx, i + 1, rfl, ⟨⟨oI, (N₃ _ (List.mem_append_right _ (.head _))).1, rI⟩, ⟨_, (N₃ _ (List.mem_append_left _ hl₃)).1, rfl, nn, rfl⟩⟩, F₃, (fun p hp => N₃ p (List.mem_append_left _ hp)), (fun p hp e => ?_), hl₃, hJ₃, hlt', rfl⟩
    exact ho₃ _ (.head _) p.1 (List.mem_map_of_mem hp) e.symm
  · have hin : i = vs.length := by omega
    subst hin
    refine W.done _ _ _ (by simpa using hst') fun h₁ tk₁ hk₁ => wpAny_execs_nil ?_
    obtain ⟨F₁, N₁⟩ := next h₁ hk₁
    exact done m' news' h₁ tk₁ hJ F₁ N₁

theorem forC_list2 {l : Addr} {vs : List Value} {nn : Nat} {m₀ : PySem.Str → Option Value} {news : List (Addr × Obj)} (stored : List PySem.Str) (J : Nat → List (Addr × Obj) → Prop)
    (hh : A.handled = none) (hl : (l, listOf vs.toArray nn) ∈ news) (F : Fr h₀ env.locals s.heap m₀) (N : News h₀ env.locals s.heap news) (hj : J 0 news)
    (hx : env.kindOf x = some .local) (hp : (env.scope.kind == .class || (env.scope.kind == .module && env.locals != env.globals)) = false)
    (turn : ∀ i v (u : PySem.Str → Option Value) news₁ h tk own, vs[i]? = some v → OwnOff own (news₁.map (·.1)) → J i news₁ → Fr h₀ env.locals h (fun y => if y = x then some v else if stored.contains y then u y else m₀ y) → News h₀ env.locals h (news₁ ++ own) →
      wpC (model prog w) A (execs body env) (TurnEnd h₀ env.locals (fun m' nx => (l, listOf vs.toArray nn) ∈ nx ∧ J (i + 1) nx ∧ ∀ z, z ≠ x → stored.contains z = false → m' z = m₀ z) own { s with heap := h, toks := tk }) (fun _ _ => False) { s with heap := h, toks := tk })
    (done : ∀ (u : PySem.Str → Option Value) news₁ h tk, J vs.length news₁ → Fr h₀ env.locals h (fun y => if y = x then u y else if stored.contains y then u y else m₀ y) → News h₀ env.locals h news₁ → R (.ok .next) { s with heap := h, toks := tk }) :
    wpAny (model prog w) A (pyIter (.ref l)) (fun it s₂ => codeC (model prog w) A (.forLoop (.Name x px) it body [] env) R s₂) E s := by
  refine forC_list (fun i m₁ nx => J i nx ∧ ∀ z, z ≠ x → stored.contains z = false → m₁ z = m₀ z) hh hl F N ⟨hj, fun _ _ _ => rfl⟩ hx hp ?_ ?_
  · rintro i v m₁ news₁ h tk own hv hoff hl₁ ⟨hJ, hm⟩ F₁ N₁
    have e : (fun y => if y = x then some v else m₁ y) = fun y => if y = x then some v else if stored.contains y then m₁ y else m₀ y := by
      funext y
      by_cases hy : y = x
      · rw [if_pos hy, if_pos hy]
      · rw [if_neg hy, if_neg hy]
        cases hc : stored.contains y with
        | true => simp
        | false => simp only [Bool.false_eq_true, if_false]; exact hm y hy hc
    rw [e] at F₁
    exact turn i v m₁ news₁ h tk own hv hoff hJ F₁ N₁
  · rintro m₁ news₁ h tk ⟨hJ, hm⟩ F₁ N₁
    refine done m₁ news₁ h tk hJ ?_ N₁
    have e : (fun y => if y = x then m₁ y else if stored.contains y then m₁ y else m₀ y) = m₁ := by
      funext y
      by_cases hy : y = x
      · rw [if_pos hy]
      · rw [if_neg hy]
        cases hc : stored.contains y with
        | true => simp
        | false => simp only [Bool.false_eq_true, if_false]; exact (hm y hy hc).symm
    rw [e]; exact F₁
end
end Mine
end

/-! ## Cmp0 -/
section
open PySem PySem.W PyProof.Rows
set_option maxRecDepth 100000
set_option autoImplicit false
namespace Mine
theorem k36 (P : Params) : (MineH.hd.heap_39 P).lookup 36 = some patObj := by kernel_rfl
theorem k35 (P : Params) : (MineH.hd.heap_39 P).lookup 35 = some codeObj := by kernel_rfl
theorem k36_at {P : Params} {g h : Heap} {L : Addr} {m : PySem.Str → Option Value} (X : (MineH.hd.heap_39 P).In g) (F : Fr g L h m) : h.get? 36 = some patObj := F.keep _ _ (X _ _ (k36 P))
theorem k35_at {P : Params} {g h : Heap} {L : Addr} {m : PySem.Str → Option Value} (X : (MineH.hd.heap_39 P).In g) (F : Fr g L h m) : h.get? 35 = some codeObj := F.keep _ _ (X _ _ (k35 P))

theorem hitLe (c : Nat) (q : List Nat) : (hit c q).length ≤ (c :: q).length := by
  have := congrArg List.length (hit_take c q)
  rw [List.length_take] at this
  omega
theorem pieces_length : ∀ (f : Nat) (r : List Nat), (pieces f r).length ≤ 2 * r.length + 1
  | 0, _ => by simp [pieces]
  | f + 1, r => by
    rw [pieces_succ]
    cases h : r.dropWhile othP with
    | nil => simp
    | cons c q =>
      have h1 := hit_pos h
      have h2 : (c :: q).length ≤ r.length := by rw [← h, dropWhile_eq_drop, List.length_drop]; omega
      have h3 := pieces_length f ((c :: q).drop (hit c q).length)
      have h4 := hitLe c q
      rw [List.length_drop] at h3
      simp only [List.length_cons] at *
      omega

section
variable {prog : Program} {w : World} {A : Around} {E : Value → Shared → Prop} {s : Shared} {h₀ : Heap} {L : Addr} {m : PySem.Str → Option Value} {news : List (Addr × Obj)}
theorem call_split_N {l : List Nat} {tok : Tok} {Q : Value → Shared → Prop} (h36 : s.heap.get? 36 = some patObj) (h35 : s.heap.get? 35 = some codeObj) (F : Fr h₀ L s.heap m) (N : News h₀ L s.heap news) (hsz : l.length < 1000000)
    (hQ : ∀ D vs h' tk, StrsOf vs (pieces (l.length + 1) l) → Fr h₀ L h' m → News h₀ L h' ((D, listOf vs.toArray 0) :: news) → (∀ p ∈ news, p.1 < D) → Q (.ref D) { s with heap := h', toks := tk }) :
    wpAny (model prog w) A (call (.builtin "re.Pattern.split") [.ref 36, .str ⟨l.toArray⟩ tok]) Q E s := by
  refine call_split h36 h35 hsz fun vs tk hvs => ?_
  refine newList_N (s := { s with toks := tk }) F N (fun h' F' N' => hQ _ vs h' tk hvs F' N' fun p hp => Heap.lt_size (N p hp).1) ?_
  have h1 := hvs.length
  have h2 := pieces_length (l.length + 1) l
  rw [sizeLine_eq]
  omega
end
end Mine
end

/-! ## Plain2 -/
section
set_option maxRecDepth 100000
open PySem PySem.NumText PySem.Builtin.Str
set_option autoImplicit false
namespace Mine

def cs (x : String) : List Nat := (PySem.Str.ofString x).cps.toList
def rankOf (l : List Nat) : Nat :=
  if l = cs "dev" then 10 else if l = cs "alpha" then 20 else if l = cs "a" then 20 else if l = cs "beta" then 30 else if l = cs "b" then 30
  else if l = cs "c" then 40 else if l = cs "RC" then 50 else if l = cs "rc" then 50 else if l = cs "pl" then 200 else if l = cs "p" then 200 else 0
def flatI : Itm → List Itm
  | .num n => [.num 100, .num n]
  | .txt l => [.num (rankOf l), .txt l]

/-- the kinds of piece -/
def Oth (p : List Nat) : Prop := ∀ c ∈ p, kindOf c = 2
def Sep (p : List Nat) : Prop := ∃ c, p = [c] ∧ kindOf c = 0
def Dig (p : List Nat) : Prop := p ≠ [] ∧ ∀ c ∈ p, kindOf c = 1
def valOf (p : List Nat) : Nat := p.foldl (fun a x => a * 10 + (x - 48)) 0

open Classical in
noncomputable def contrib (p : List Nat) : List Itm :=
  if p = [] ∨ Sep p then [] else if Dig p then [.num 100, .num (valOf p)] else [.num (rankOf p), .txt p]

theorem contrib_nil : contrib [] = [] := if_pos (.inl rfl)
theorem contrib_sep {p : List Nat} (h : Sep p) : contrib p = [] := if_pos (.inr h)
theorem Dig.notSep {p : List Nat} (h : Dig p) : ¬ (p = [] ∨ Sep p) := by
  rintro (e | ⟨c, rfl, hc⟩)
  · exact h.1 e
  · have := h.2 c (by simp); omega
theorem contrib_dig {p : List Nat} (h : Dig p) : contrib p = flatI (.num (valOf p)) := by
  unfold contrib; rw [if_neg h.notSep, if_pos h]; rfl
theorem contrib_oth {p : List Nat} (h : Oth p) (hne : p ≠ []) : contrib p = flatI (.txt p) := by
  have h1 : ¬ (p = [] ∨ Sep p) := by
    rintro (e | ⟨c, rfl, hc⟩)
    · exact hne e
    · have := h c (by simp); omega
  have h2 : ¬ Dig p := fun hd => by
    cases p with
    | nil => exact hne rfl
    | cons c r => have := h c (by simp); have := hd.2 c (by simp); omega
  unfold contrib; rw [if_neg h1, if_neg h2]; rfl

theorem takeWhile_mem {p : Nat → Bool} {r : List Nat} {c : Nat} (h : c ∈ r.takeWhile p) : p c = true := by
  induction r with
  | nil => simp at h
  | cons d r ih =>
    rw [List.takeWhile_cons] at h
    split at h
    · rcases List.mem_cons.mp h with rfl | h
      · assumption
      · exact ih h
    · simp at h
theorem oth_take (r : List Nat) : Oth (r.takeWhile othP) := fun c hc => by have := takeWhile_mem hc; simpa [othP] using this
theorem hit_class {c : Nat} {q r : List Nat} (h : r.dropWhile othP = c :: q) : Sep (hit c q) ∨ Dig (hit c q) := by
  have h1 := hit_pos h
  by_cases hk : kindOf c = 0
  · left; exact ⟨c, by simp [hit, hk], hk⟩
  · right
    have e : hit c q = (c :: q).takeWhile digitP := by simp [hit, hk]
    refine ⟨fun e => by rw [e] at h1; simp at h1, fun d hd => ?_⟩
    rw [e] at hd
    have := takeWhile_mem hd
    simpa [digitP] using this

theorem pieces_class : ∀ (f : Nat) (r : List Nat), ∀ p ∈ pieces f r, (Oth p ∨ Sep p ∨ Dig p) ∧ (∀ c ∈ p, c ∈ r) ∧ p.length ≤ r.length
  | 0, r, p, h => by simp [pieces] at h
  | f + 1, r, p, h => by
    rw [pieces_succ] at h
    have ht : ∀ c ∈ r.takeWhile othP, c ∈ r := fun c hc => (List.takeWhile_sublist _).subset hc
    have hl : (r.takeWhile othP).length ≤ r.length := (List.takeWhile_sublist _).length_le
    cases hd : r.dropWhile othP with
    | nil =>
      rw [hd] at h
      have := List.mem_singleton.mp h
      subst this
      exact ⟨.inl (oth_take r), ht, hl⟩
    | cons c q =>
      rw [hd] at h
      have hsub : ∀ d ∈ c :: q, d ∈ r := fun d hd' => (List.dropWhile_sublist _).subset (hd ▸ hd')
      have hlen : (c :: q).length ≤ r.length := by rw [← hd]; exact (List.dropWhile_sublist _).length_le
      rcases List.mem_cons.mp h with rfl | h
      · exact ⟨.inl (oth_take r), ht, hl⟩
      rcases List.mem_cons.mp h with rfl | h
      · refine ⟨.inr (hit_class hd), fun d hd' => hsub d ?_, Nat.le_trans (hitLe c q) hlen⟩
        rw [hit_take] at hd'
        exact List.mem_of_mem_take hd'
      · obtain ⟨h1, h2, h3⟩ := pieces_class f _ p h
        refine ⟨h1, fun d hd' => hsub d (List.mem_of_mem_drop (h2 d hd')), ?_⟩
        rw [List.length_drop] at h3
        omega

theorem go_txt_cut (s : List Nat) (c : Nat) (q : List Nat) (hk : kindOf c ≠ 2) : go (some (.txt s)) (c :: q) = [.txt s] ++ go none (c :: q) := by
  rcases kind_cases c with h | h | h
  · rw [go_sep _ _ _ h, go_sep _ _ _ h]; rfl
  · rw [go_dig _ _ _ h, go_dig _ _ _ h]; rfl
  · exact absurd h hk
theorem go_num_cut (n : Nat) (c : Nat) (q : List Nat) (hk : kindOf c ≠ 1) : go (some (.num n)) (c :: q) = [.num n] ++ go none (c :: q) := by
  rcases kind_cases c with h | h | h
  · rw [go_sep _ _ _ h, go_sep _ _ _ h]; rfl
  · exact absurd h hk
  · rw [go_oth _ _ _ h, go_oth _ _ _ h]; rfl

theorem flat_go_oth (s r : List Nat) (hs : Oth s) (hr : ∀ c q, r = c :: q → kindOf c ≠ 2) : (go none (s ++ r)).flatMap flatI = contrib s ++ (go none r).flatMap flatI := by
  by_cases hne : s = []
  · subst hne; rw [contrib_nil]; rfl
  rw [go_txt' none s hne hs r (by simp), show curL none = [] from rfl, List.nil_append, contrib_oth hs hne]
  cases r with
  | nil => simp [go, curL]
  | cons c q =>
    rw [go_txt_cut s c q (hr c q rfl), List.flatMap_append]; simp
theorem flat_go_dig (s r : List Nat) (hs : Dig s) (hr : ∀ c q, r = c :: q → kindOf c ≠ 1) : (go none (s ++ r)).flatMap flatI = contrib s ++ (go none r).flatMap flatI := by
  rw [go_num' none s hs.1 hs.2 r (by simp), show curL none = [] from rfl, List.nil_append, contrib_dig hs]
  cases r with
  | nil => simp [go, curL, valOf]
  | cons c q =>
    rw [go_num_cut _ c q (hr c q rfl), List.flatMap_append]; simp [valOf]
theorem flat_go_sep (c : Nat) (r : List Nat) (h : kindOf c = 0) : (go none (c :: r)).flatMap flatI = (go none r).flatMap flatI := by
  rw [go_sep _ _ _ h]; simp [curL]

theorem pieces_flat : ∀ (f : Nat) (r : List Nat), r.length < f → (pieces f r).flatMap contrib = (go none r).flatMap flatI
  | 0, _, h => absurd h (Nat.not_lt_zero _)
  | f + 1, r, hf => by
    rw [pieces_succ]
    have hr := List.takeWhile_append_dropWhile (p := othP) (l := r)
    have hhead : ∀ c q, r.dropWhile othP = c :: q → kindOf c ≠ 2 := fun c q e => by
      have := List.head_dropWhile_not (p := othP) (l := r) (by rw [e]; simp)
      simp only [e, List.head_cons, othP] at this
      simpa using this
    have h1 := flat_go_oth (r.takeWhile othP) (r.dropWhile othP) (oth_take r) hhead
    rw [hr] at h1
    rw [h1]
    cases hd : r.dropWhile othP with
    | nil => simp [go, curL]
    | cons c q =>
      have hp := hit_pos hd
      have hlen : (c :: q).length ≤ r.length := by rw [← hd]; exact (List.dropWhile_sublist _).length_le
      have ih := pieces_flat f ((c :: q).drop (hit c q).length) (by rw [List.length_drop]; have := hitLe c q; simp only [List.length_cons] at *; omega)
      simp only [List.flatMap_cons]
      rw [ih]
      congr 1
      by_cases hk : kindOf c = 0
      · have e : hit c q = [c] := by simp [hit, hk]
        rw [e, contrib_sep ⟨c, rfl, hk⟩, flat_go_sep c q hk]; rfl
      · have e : hit c q = (c :: q).takeWhile digitP := by simp [hit, hk]
        rcases hit_class hd with hs | hg
        · obtain ⟨d, e', hd'⟩ := hs
          rw [e] at e'
          have h1 : kindOf c = 1 := by have := kind_cases c; have := hhead c q hd; omega
          have : ((c :: q).takeWhile digitP) = c :: q.takeWhile digitP := by simp [digitP, h1]
          rw [this] at e'
          simp only [List.cons.injEq] at e'
          obtain ⟨rfl, _⟩ := e'
          omega
        · have hx := flat_go_dig (hit c q) ((c :: q).drop (hit c q).length) hg (by
            intro d t ht hdk
            have := List.head_dropWhile_not (p := digitP) (l := c :: q)
            rw [dropWhile_eq_drop, ← e, ht] at this
            have := this (by simp)
            simp [digitP, hdk] at this)
          rw [← hx, hit_take c q, List.length_take, Nat.min_eq_left (hitLe c q), List.take_append_drop]

/-- v in '._+-' -/
abbrev seps : PySem.Str := PySem.Str.ofString "._+-"
theorem seps_cps : seps.cps.toList = [46, 95, 43, 45] := by decide +kernel
theorem in_nil : (occurrences seps ⟨#[]⟩ 0 seps.length 1).isEmpty = false := by decide +kernel
theorem in_sep {p : List Nat} (h : Sep p) : (occurrences seps ⟨p.toArray⟩ 0 seps.length 1).isEmpty = false := by
  obtain ⟨c, rfl, hc⟩ := h
  have := StrLaws.found_one seps c
  have hm : c ∈ seps.cps.toList := by
    rw [seps_cps]
    unfold kindOf at hc
    split at hc
    · simp; omega
    · split at hc <;> omega
  rw [decide_eq_true hm] at this
  simpa using this
theorem in_not {p : List Nat} (hne : p ≠ []) (h : ∀ c ∈ p, kindOf c ≠ 0) : (occurrences seps ⟨p.toArray⟩ 0 seps.length 1).isEmpty = true := by
  rcases StrLaws.occ_head_from seps ⟨p.toArray⟩ 0 1 (Nat.le_refl _) with ⟨h0, _⟩ | ⟨i, r, _, _, ⟨h1, h2⟩, _⟩
  · rw [h0]; rfl
  · exfalso
    rw [StrLaws.subAt_eq] at h2
    have h3 := eq_of_beq h2
    cases p with
    | nil => exact hne rfl
    | cons c t =>
      have hc := h c (by simp)
      have : c ∈ seps.cps.toList := by
        have h4 : c ∈ (seps.cps.toList.drop i).take (⟨(c :: t).toArray⟩ : PySem.Str).length := by rw [h3]; simp
        exact List.mem_of_mem_drop (List.mem_of_mem_take h4)
      rw [seps_cps] at this
      apply hc
      unfold kindOf
      rw [if_pos (by simpa using this)]

/-- int(v, 10) -/
theorem int_dig {p : List Nat} (h : Dig p) (hl : p.length ≤ 640) : intText? ⟨p.toArray⟩ = some ((valOf p : Nat) : Int) := by
  refine intText_digits (x := ⟨p.toArray⟩) (fun c hc => ?_) h.1 (by show p.toArray.size ≤ _; simp; omega)
  have := h.2 c hc
  unfold kindOf at this
  split at this
  · omega
  · split at this
    · assumption
    · omega
theorem digits_oth {p : List Nat} (h : Oth p) : digits? 10 p = none := by
  cases p with
  | nil => rfl
  | cons c r =>
    have hc := h c (by simp)
    unfold digits?
    rw [List.foldlM_cons]
    have : NumText.step 10 (#[], false) c = none := by
      unfold NumText.step
      have h95 : c ≠ 95 := by intro e; subst e; simp [kindOf] at hc
      rw [if_neg (by simpa using h95)]
      unfold digit?
      have hnd : ¬ (48 ≤ c ∧ c ≤ 57) := by
        intro hd
        unfold kindOf at hc
        split at hc
        · omega
        · simp [hd] at hc
      rw [if_neg (by simpa using hnd)]
      by_cases h1 : 97 ≤ c ∧ c ≤ 122
      · rw [if_pos (by simpa using h1)]
        show (if c - 87 < 10 then _ else none) = none
        rw [if_neg (by omega)]
      · rw [if_neg (by simpa using h1)]
        by_cases h2 : 65 ≤ c ∧ c ≤ 90
        · rw [if_pos (by simpa using h2)]
          show (if c - 55 < 10 then _ else none) = none
          rw [if_neg (by omega)]
        · rw [if_neg (by simpa using h2)]
    rw [this]; rfl
theorem core_sub {t : List Nat} {c : Nat} (h : c ∈ core t) : c ∈ t := by
  unfold core at h
  have h := List.mem_reverse.mp h
  have h := (List.dropWhile_sublist _).subset h
  have h := List.mem_reverse.mp h
  have : ∀ (u : List Nat), c ∈ (sign u).2 → c ∈ u := by
    intro u hu
    unfold sign at hu
    split at hu
    · exact List.mem_cons_of_mem _ hu
    · exact List.mem_cons_of_mem _ hu
    · exact hu
  exact (List.dropWhile_sublist _).subset (this _ h)
theorem int_oth {p : List Nat} (h : Oth p) (ha : ∀ c ∈ p, c ≠ 0 ∧ c < 128) : intText? ⟨p.toArray⟩ = none := by
  have e1 : numTextOf ⟨p.toArray⟩ = p := by
    refine (if_pos ?_)
    rw [← Array.all_toList, List.all_eq_true]
    exact fun c hc => decide_eq_true (ha c hc).2
  have e2 : numSeenOf ⟨p.toArray⟩ = p := by
    show (numTextOf ⟨p.toArray⟩).takeWhile _ = _
    rw [e1]
    exact takeWhile_all fun c hc => bne_iff_ne.mpr (ha c hc).1
  unfold intText?
  rw [e1, e2, digits_oth (fun c hc => h c (core_sub hc))]
  split <;> rfl
end Mine
end

/-! ## Spine3 -/
section
set_option maxRecDepth 100000
open PySem PySem.Calls PyProof.Rows
set_option autoImplicit false
namespace Mine
section
variable {prog : Program} {w : World} {A : Around} {E : Value → Shared → Prop} {s : Shared} {env : Env}
theorem wpC_Assign_Name {M : Model} {x : PySem.Str} {pos' : Pos} {value : Expr} {pos : Pos} {Q : Flow → Shared → Prop}
    (h : wpC M A (eval value env) (fun v s₁ => wpAny M A (storeName env x v) (fun _ => Q .next) E s₁) E s)
    (hs : swapsWith value (some (.Name x pos')) pos.line env = pure false := by rfl) :
    wpC M A (exec (.Assign [.Name x pos'] value pos) env) Q E s := fun Γ p hΓ hc => by
  simp only [exec_Assign_Name env x pos' value pos hs, Sem.wp_bind', Sem.wp_cmd_standAt, Sem.wp_bindName, Sem.wp_pure']
  exact Sem.wp_mono M Γ _ (fun v _ s₁ h₁ => h₁ Γ _ hΓ) (fun _ _ _ h' => h') _ _ (h Γ _ hΓ hc)
theorem wpC_Call_type {x : PySem.Str} {p pos : Pos} {e : Expr} {rest : List Expr} {T : String} {Q : Value → Shared → Prop}
    (h : wpAny (model prog w) A (eval (.Name x p) env) (fun f s₁ => f = .type T ∧ wpAny (model prog w) A (spliced (backTo pos (starEach (e :: rest) env))) (fun vs s₂ => wpC (model prog w) A (call (.type T) vs) Q E s₂) E s₁) E s)
    (he : starEach (e :: rest) env = (false, eval e env) :: starEach rest env := by rfl)
    (hplain : (backTo pos (starEach rest env)).any (·.1) = false := by rfl) :
    wpC (model prog w) A (eval (.Call (.Name x p) (e :: rest) [] pos) env) Q E s := by
  refine wpC_then (wpAny_mono h (fun f s₁ h₁ => ?_) fun _ _ x => x)
  obtain ⟨rfl, h₁⟩ := h₁
  rw [he] at h₁ ⊢
  exact wpC_callWith_type (first := []) (by show (false || (backTo pos (starEach rest env)).any (·.1)) = false; rw [hplain]; rfl) (evalArgs_plain h₁)
theorem wpC_Call_ref {x : PySem.Str} {p pos : Pos} {e : Expr} {rest : List Expr} {a : Addr} {o : Obj} {fd : FuncData} {Q : Value → Shared → Prop}
    (h : wpAny (model prog w) A (eval (.Name x p) env) (fun f s₁ => f = .ref a ∧ wpAny (model prog w) A (spliced (backTo pos (starEach (e :: rest) env))) (fun vs s₂ => (s₂.heap.get? a = some o ∧ o.data = .func fd) ∧ wpC (model prog w) A (call (.ref a) vs) Q E s₂) E s₁) E s)
    (he : starEach (e :: rest) env = (false, eval e env) :: starEach rest env := by rfl)
    (hplain : (backTo pos (starEach rest env)).any (·.1) = false := by rfl) :
    wpC (model prog w) A (eval (.Call (.Name x p) (e :: rest) [] pos) env) Q E s := by
  refine wpC_then (wpAny_mono h (fun f s₁ h₁ => ?_) fun _ _ x => x)
  obtain ⟨rfl, h₁⟩ := h₁
  rw [he] at h₁ ⊢
  exact wpC_callWith_ref (first := []) (by show (false || (backTo pos (starEach rest env)).any (·.1)) = false; rw [hplain]; rfl) (evalArgs_plain h₁)
end
end Mine
end

/-! ## Spine4 -/
section
set_option maxRecDepth 100000
open PySem PySem.Calls PyProof.Rows PySem.W
set_option autoImplicit false
namespace Mine
section
variable {prog : Program} {w : World} {A : Around} {s : Shared} {R : Result → Shared → Prop}
theorem codeC_defT {K : Frag} {L : Addr} {h₀ : Heap} {m mg mb : PySem.Str → Option Value} {news : List (Addr × Obj)} {p : Program} {loose : List PySem.Str} {mean : ExcName → Option Value}
    {env : Env} {name qual : PySem.Str} {params : Arguments} {body : List Stmt} {scope : Scope} {dV kV doc pm cdv ct oc : Value} {an od : Option Addr} {osl : Array (Option Value)} {f : Addr} {args : Args} {binds : List (PySem.Str × Value)}
    (F : Fr h₀ L s.heap m) (X₀ : K.In h₀) (N : News h₀ L s.heap news) (T : Top p loose mean mg mb h₀) (hf : env.frame = some L) (hke : env.scope.kind = .function)
    (ho : K.lookup f = some ⟨oc, od, .func (fnOf name qual params body scope dV kV doc pm an cdv ct), osl⟩) (hcd : codeIn K cdv qual = true) (hroom : A.depth < recursionLimit)
    (hbind : BindsTo s (fnOf name qual params body scope dV kV doc pm an cdv ct) args binds) (hloc : ∀ y ∈ binds, scope.names.lookup y.1 = some .local)
    (h : ∀ oL L' h₁, TI.Caller h₀ L m oL → TI.Frs [env] [(L, oL)] → (∀ p ∈ news, p.1 ≠ L) → L < L' → (∀ p ∈ news, p.1 < L') → Fr h₀ L' h₁ (fun y => binds.reverse.lookup y) → News h₀ L' h₁ (news ++ [(L, oL)]) →
      wpC (model prog w) (A.deeper (envOf qual scope L' f cdv)) (execs body (envOf qual scope L' f cdv))
        (fun fl s' => R (.ok (.ret (match fl with | .ret v => v | _ => .none))) s') (fun _ _ => False)
        { s with heap := h₁, toks := s.toks + binds.length })
    (hco : scope.isCoroutine = false) (hgen : scope.isGenerator = false) (hk : scope.kind = .function)
    (hcell : ∀ x ∈ scope.names, x.2 ≠ .cell) : codeC (model prog w) A (.call (.ref f) args) R s := by
  have X := X₀.keeps F.keep
  obtain ⟨oL, es, ep, hL, hLd, hLk, hLf⟩ := F.ns
  have hLt := Heap.lt_size hL
  have hkind : env.scope.kind ≠ .module := by rw [hke]; decide
  refine codeC_call_def (fd := fnOf name qual params body scope dV kV doc pm an cdv ct) (body := body) (binds := binds) hroom (X _ _ ho) rfl (T.nolimit.keeps F.keep) (codeRec_of X hcd) rfl hbind hcell hloc (fun h₁ hns hk₁ => ?_) hco hgen hk
  refine wpC_mono (h oL _ h₁ ⟨fun h' sl e => ⟨_, es, ep, e, hLd, hLk, hLf⟩, ⟨es, ep, hLd⟩, F.above⟩ ⟨hkind, hf, ⟨es, ep, hLd⟩, trivial⟩ (fun p hp => (N p hp).2.1) hLt (fun p hp => Heap.lt_size (N p hp).1)
    ⟨hns, fun b o e => hk₁ b o (F.keep b o e), Nat.le_trans F.above (Nat.le_of_lt hLt)⟩ (fun p hp => ?_)) (fun _ _ x => x) fun _ _ x => x.elim
  rcases List.mem_append.mp hp with hp | hp
  · obtain ⟨h1, h2, h3⟩ := N p hp
    exact ⟨hk₁ _ _ h1, Nat.ne_of_lt (Heap.lt_size h1), h3⟩
  · rcases List.mem_cons.mp hp with rfl | hp
    · exact ⟨hk₁ _ _ hL, Nat.ne_of_lt hLt, Heap.get?_none_of_le F.above⟩
    · exact nomatch hp
end
end Mine
end

/-! ## Rank -/
section
set_option maxRecDepth 100000
open PySem
set_option autoImplicit false
namespace Mine
theorem cs_dev : cs "dev" = [100, 101, 118] := by decide +kernel
theorem cs_alpha : cs "alpha" = [97, 108, 112, 104, 97] := by decide +kernel
theorem cs_a : cs "a" = [97] := by decide +kernel
theorem cs_beta : cs "beta" = [98, 101, 116, 97] := by decide +kernel
theorem cs_b : cs "b" = [98] := by decide +kernel
theorem cs_c : cs "c" = [99] := by decide +kernel
theorem cs_RC : cs "RC" = [82, 67] := by decide +kernel
theorem cs_rc : cs "rc" = [114, 99] := by decide +kernel
theorem cs_pl : cs "pl" = [112, 108] := by decide +kernel
theorem cs_p : cs "p" = [112] := by decide +kernel
theorem look_cons (p k : List Nat) (v : PyData) (r : List (PyData × PyData)) :
    Spec.lookup (PyData.str ⟨p.toArray⟩) ((PyData.str ⟨k.toArray⟩, v) :: r) = if p = k then some v else Spec.lookup (PyData.str ⟨p.toArray⟩) r := by
  by_cases h : p = k
  · subst h; simp [Spec.lookup, Spec.same]
  · rw [if_neg h]
    have : ((⟨k.toArray⟩ : PySem.Str) == ⟨p.toArray⟩) = false := by
      rw [beq_eq_false_iff_ne]
      intro e
      injection e with e
      exact h (by simpa using congrArg Array.toList e.symm)
    simp [Spec.lookup, Spec.same, this]
abbrev stages : List (PyData × PyData) := [(PyData.str { cps := #[100, 101, 118] }, PyData.int 10), (PyData.str { cps := #[97, 108, 112, 104, 97] }, PyData.int 20), (PyData.str { cps := #[97] }, PyData.int 20), (PyData.str { cps := #[98, 101, 116, 97] }, PyData.int 30),
            (PyData.str { cps := #[98] }, PyData.int 30), (PyData.str { cps := #[99] }, PyData.int 40), (PyData.str { cps := #[82, 67] }, PyData.int 50), (PyData.str { cps := #[114, 99] }, PyData.int 50), (PyData.str { cps := #[112, 108] }, PyData.int 200), (PyData.str { cps := #[112] }, PyData.int 200)]
theorem rank_lookup (p : List Nat) : (Spec.lookup (PyData.str { cps := p.toArray }) stages).getD (PyData.int 0) = PyData.int ((rankOf p : Nat) : Int) := by
  unfold rankOf
  rw [cs_dev, cs_alpha, cs_a, cs_beta, cs_b, cs_c, cs_RC, cs_rc, cs_pl, cs_p]
  rw [look_cons p [100, 101, 118], look_cons p [97, 108, 112, 104, 97], look_cons p [97], look_cons p [98, 101, 116, 97], look_cons p [98], look_cons p [99], look_cons p [82, 67], look_cons p [114, 99], look_cons p [112, 108], look_cons p [112]]
  repeat (split; · rfl)
  rfl
end Mine
end

/-! ## Cmp1 -/
section
open PySem PySem.W PyProof.Rows
set_option maxRecDepth 100000
set_option maxHeartbeats 8000000
set_option autoImplicit false
namespace Mine
inductive ItmsOf : List Value → List Itm → Prop
  | nil : ItmsOf [] []
  | num (n : Nat) (t : Tok) {vs : List Value} {is : List Itm} (h : ItmsOf vs is) : ItmsOf (.int n t :: vs) (.num n :: is)
  | txt (l : List Nat) (t : Tok) {vs : List Value} {is : List Itm} (h : ItmsOf vs is) : ItmsOf (.str ⟨l.toArray⟩ t :: vs) (.txt l :: is)
theorem ItmsOf.append {vs us : List Value} {is js : List Itm} (h : ItmsOf vs is) (g : ItmsOf us js) : ItmsOf (vs ++ us) (is ++ js) := by
  induction h with
  | nil => exact g
  | num n t _ ih => exact .num n t ih
  | txt l t _ ih => exact .txt l t ih
theorem ItmsOf.length {vs : List Value} {is : List Itm} (h : ItmsOf vs is) : vs.length = is.length := by
  induction h with
  | nil => rfl
  | num n t _ ih => simp [ih]
  | txt l t _ ih => simp [ih]

theorem turn_fin {g h' : Heap} {L L' D r : Addr} {oo oL : Obj} {sl sl₀ : Array (Option Value)} {m' m₀ : PySem.Str → Option Value} {vs res us : List Value} {k' tk : Nat} {news own : List (Addr × Obj)} {X : List Itm} {x : PySem.Str} {stored : List PySem.Str} {s₁ : Shared}
    (F : Fr g L' h' m') (N : ∀ p ∈ (D, W.listOf vs.toArray 0) :: (r, W.listOf (res ++ us).toArray k') :: (news ++ (L, { oL with slots := sl }) :: own), h'.get? p.1 = some p.2 ∧ p.1 ≠ L' ∧ g.get? p.1 = none)
    (hoff : OwnOff own (((D, W.listOf vs.toArray 0) :: (r, oo) :: (news ++ [(L, { oL with slots := sl₀ })])).map (·.1)))
    (hi : ItmsOf (res ++ us) X) (hz : ∀ z, z ≠ x → stored.contains z = false → m' z = m₀ z) :
    TurnEnd g L' (fun m' nx => (D, W.listOf vs.toArray 0) ∈ nx ∧ (∃ res k sl, nx = (D, W.listOf vs.toArray 0) :: (r, W.listOf res.toArray k) :: (news ++ [(L, { oL with slots := sl })]) ∧ ItmsOf res X) ∧ ∀ z, z ≠ x → stored.contains z = false → m' z = m₀ z) own s₁ .next { s₁ with heap := h', toks := tk } := by
  refine ⟨rfl, _, _, _, (D, W.listOf vs.toArray 0) :: (r, W.listOf (res ++ us).toArray k') :: (news ++ [(L, { oL with slots := sl })]), rfl, F, fun q hq => N q ?_, ?_, .head _, ⟨_, _, _, rfl, hi⟩, hz⟩
  · simpa only [List.cons_append, List.append_assoc, List.nil_append] using hq
  · simpa using hoff
theorem contrib_len (q : List Nat) : (contrib q).length ≤ 2 := by
  unfold contrib
  split
  · simp
  · split <;> simp
theorem flatC_len (ps : List (List Nat)) : (ps.flatMap contrib).length ≤ 2 * ps.length := by
  induction ps with
  | nil => simp
  | cons q ps ih => have := contrib_len q; simp only [List.flatMap_cons, List.length_append, List.length_cons]; omega
theorem notIn_val {prog : Program} {w : World} {A : Around} {E : Value → Shared → Prop} {s : Shared} {x y : PySem.Str} {t u : Tok} {b : Bool} {Q : Value → Shared → Prop} (e : (Builtin.Str.occurrences x y 0 x.length 1).isEmpty = b) (h : Q (.bool b) s) :
    wpAny (model prog w) A (compareOp .NotIn (.str y u) (.str x t)) Q E s := by
  have h2 : (!!(Builtin.Str.occurrences x y 0 x.length 1).isEmpty) = b := by rw [e]; cases b <;> rfl
  exact notIn_str (by rw [h2]; exact h)
theorem ext2 {prog : Program} {w : World} {A : Around} {E : Value → Shared → Prop} {s : Shared} {h₀ : Heap} {L T D r : Addr} {m : PySem.Str → Option Value} {oD : Obj} {rest : List (Addr × Obj)} {res : List Value} {k : Nat} {a b : Value} {Q : Value → Shared → Prop}
    (F : Fr h₀ L s.heap m) (N : News h₀ L s.heap ((T, { cls := .type "tuple", data := .seq #[a, b] }) :: (D, oD) :: (r, W.listOf res.toArray k) :: rest))
    (hT : r < T) (hD : D ≠ r) (hrest : ∀ p ∈ rest, p.1 ≠ r) (hlen : res.length ≤ 100000)
    (h : ∀ h', Fr h₀ L h' m → News h₀ L h' ((T, { cls := .type "tuple", data := .seq #[a, b] }) :: (D, oD) :: (r, W.listOf (res ++ [a, b]).toArray (k + 1)) :: rest) → Q .none { s with heap := h' }) :
    wpAny (model prog w) A (call (.builtin "list.extend") [.ref r, .ref T]) Q E s := by
  have hs := sizeLine_eq
  refine kup_extend (its := res.toArray) (its2 := #[a, b]) (l := res ++ [a, b]) F N (.head _) rfl (by simp) (.tail (Nat.ne_of_gt hT) (.tail hD (.head hrest))) ?_ (by simp; omega) (by simp; omega) h
  unfold Builtin.List.listTooLong
  simp
  omega
local macro_rules | `(tactic| walk_at "compareOp NotIn str str") => `(tactic| (k_here; refine notIn_val (by assumption) ?_))
local macro_rules | `(tactic| walk_at "call builtin:list.extend") => `(tactic| (k_here; refine ext2 (by k_asm) (by k_asm) (by (rename (_ ∧ _ ∧ AllLt _ _) => hlt9; exact hlt9.2.1)) (by assumption) (by assumption) (by assumption) ?_; intro h' F' N'))
local macro_rules | `(tactic| walk_at "call type:int") => `(tactic| (k_here; refine call_int10 (by assumption) (by assumption) ?_))
local macro_rules | `(tactic| walk_at "getMethod ref") => `(tactic| (k_here; refine getMethod_split (k36_at (by k_asm) (by k_asm)) ?_))
local macro_rules | `(tactic| walk_at "call builtin:re.Pattern.split") => `(tactic| (k_here; refine call_split_N (k36_at (by k_asm) (by k_asm)) (k35_at (by k_asm) (by k_asm)) (by k_asm) (by k_asm) (by omega) ?_; intro D' vs' h' tk' hvs' F' N' lt'))
theorem cmp_c : ∀ (w : World) (mean : ExcName → Option Value) (mg mb : PySem.Str → Option Value) (news : List (Addr × Obj)) (l : List Nat) (tok : Tok)
   (dp un : Nat) (gd : Option (List Code)) (cn : PySem.Str) (cs : Scope) (a : Addr) (ccd : Value) (cl : List (PySem.Str × Addr)) (h₀ : Heap) (L : Addr) (m : PySem.Str → Option Value) (s : Shared) (Q E : Value → Shared → Prop)
   (F : Fr h₀ L s.heap m) (KX : (MineH.hd.heap_39 w.params).In h₀) (N : News h₀ L s.heap news)
   (T : Top MineH.hd.view_39 (looseW MineH.hd.view_39 [Str.ofString "_twin_re_1", Str.ofString "_ver_stages"]) mean mg mb h₀) (hcs : cs.kind = .function)
   (hdp : dp + 1 < recursionLimit) (hun : un + 8 < cLine) (hll : l.length ≤ 600) (hla : ∀ c ∈ l, c ≠ 0 ∧ c < 128)
   (ret : ∀ r vs k h' tk, ItmsOf vs ((go none l).flatMap flatI) → Fr h₀ L h' m → News h₀ L h' ((r, listOf vs.toArray k) :: news) → Q (.ref r) { s with heap := h', toks := tk }),
   wpC (model Challenge.rw_ny0115_01.row.prog w) (ktrTop dp un gd cn cs L a ccd cl []) (call (.ref 44) [.str ⟨l.toArray⟩ tok]) Q E s := by
  w_on
  k_fill
  intro w mean mg mb news l tok dp un gd cn cs a ccd cl h₀ L m s Q E F KX N T hcs hdp hun hll hla ret
  refine wpC_call ?_
  k_dflt (refine' codeC_defT ?k2 ?k3 ?k4 ?k5 ?kF ?kK ?k6 ?k7 ?k8 ?k9 ?kB ?_ ?c2 ?c3 ?c4 ?c5; (case kF => exact (rfl : (envX cn cs L a ccd cl).frame = some L)); (case kK => assumption); (case k2 => exact F); (case k3 => exact KX); (case k4 => exact N); (case k5 => exact T); (case k6 => k_is); (case k7 => k_is); (case k8 => ktr_room); (case k9 => exact BindsTo.of_eq rfl); (case c5 => decide); (case kB => exact locs rfl); (case c2 => exact rfl); (case c3 => exact rfl); (case c4 => exact rfl))
  intro oL L' h' hCal hFrs hneL hLL' hnL' F' N'
  clear N
  refine wpC_execs_off ?_
  k_steps
  dsimp only
  refine wpC_execs_off ?_
  k_steps
  dsimp only
  refine wpC_execs_cons (wpC_For ?_)
  k_steps
  rename_i _ r' _ l1 _ _ _ D' vs' _ _ hvs' F2 N2 lt2
  have hcls := pieces_class (l.length + 1) l
  have hplen := pieces_length (l.length + 1) l
  have hflat := pieces_flat (l.length + 1) l (Nat.lt_succ_self _)
  have hvl := hvs'.length
  have hLr : L < r' := l1 (L, oL) (List.mem_append_right _ (.head _))
  have hrD : r' < D' := lt2 _ (.head _)
  have hnr : ∀ p ∈ news, p.1 < r' := fun p hp => l1 p (List.mem_append_left _ hp)
  refine forC_list2 (h₀ := h₀) [Str.ofString "t"] (fun i nx => ∃ res k sl, nx = (D', W.listOf vs'.toArray 0) :: (r', W.listOf res.toArray k) :: (news ++ [(L, { oL with slots := sl })]) ∧ ItmsOf res (((pieces (l.length + 1) l).take i).flatMap contrib)) rfl (.head _) F2 N2 ⟨[], 0, oL.slots, rfl, .nil⟩ rfl rfl ?turn ?done
  case done =>
    rintro u news₁ h tk ⟨res, k, sl, rfl, hres⟩ F3 N3
    dsimp only
    rw [hvl, List.take_length, hflat] at hres
    refine wpC_of_any ?_
    k_steps
    dsimp only
    refine TLg.leave_back (s' := { s with heap := h }) (new := (D', W.listOf vs'.toArray 0) :: (r', W.listOf res.toArray k) :: news) hCal F3 N3 ⟨Nat.ne_of_gt (Nat.lt_trans hLr hrD), Nat.ne_of_gt hLr, TLgL.allNe_of hneL⟩ fun kF kN => ?_
    exact ret r' res k h _ hres kF (fun p hp => kN p (.tail _ hp))
  case turn =>
    rintro i v u news₁ h tk own hv hoff ⟨res, k, sl, rfl, hres⟩ F3 N3
    obtain ⟨p, t, hp, rfl⟩ := hvs'.get i v hv
    have hpc := hcls p (List.mem_of_getElem? hp)
    have htake : (pieces (l.length + 1) l).take (i + 1) = (pieces (l.length + 1) l).take i ++ [p] := by rw [List.take_add_one, hp]; rfl
    have hrl := hres.length
    have hin : i < (pieces (l.length + 1) l).length := by
      rcases Nat.lt_or_ge i (pieces (l.length + 1) l).length with h | h
      · exact h
      · rw [List.getElem?_eq_none h] at hp; cases hp
    simp only [List.cons_append, List.append_assoc, List.nil_append] at N3
    have hDr : D' ≠ r' := Nat.ne_of_gt hrD
    have hofr : ∀ q ∈ own, q.1 ≠ r' := fun q h => hoff q h r' (.tail _ (.head _))
    have hofL : ∀ q ∈ own, q.1 ≠ L := fun q h => hoff q h L (by simp)
    have hrest : ∀ q ∈ news ++ (L, { oL with slots := sl }) :: own, q.1 ≠ r' := fun q hq => by
      rcases List.mem_append.mp hq with h | h
      · exact Nat.ne_of_lt (hnr q h)
      · rcases List.mem_cons.mp h with rfl | h
        · exact Nat.ne_of_lt hLr
        · exact hofr q h
    have hrlen : res.length ≤ 100000 := by
      have h1 := flatC_len ((pieces (l.length + 1) l).take i)
      have h2 : ((pieces (l.length + 1) l).take i).length ≤ (pieces (l.length + 1) l).length := by rw [List.length_take]; omega
      omega
    by_cases h0 : p = [] ∨ Sep p
    · have hocc : (Builtin.Str.occurrences (Str.ofString "._+-") ⟨p.toArray⟩ 0 (Str.ofString "._+-").length 1).isEmpty = false := by
        rcases h0 with rfl | h0
        · exact in_nil
        · exact in_sep h0
      refine wpC_of_any ?_
      k_steps
      rename News _ _ _ _ => kN
      rename Fr _ _ _ _ => kF
      refine turn_fin (res := res) (us := []) kF (fun q hq => kN q (by simpa only [List.append_nil] using hq)) hoff ?_ ?_
      · rw [htake, List.flatMap_append]
        have : contrib p = [] := if_pos h0
        simpa [this] using hres
      · intro z hz1 hz2
        simp only [if_neg hz1, hz2, Bool.false_eq_true, if_false]
    · have hne : p ≠ [] := fun e => h0 (.inl e)
      have hocc : (Builtin.Str.occurrences (Str.ofString "._+-") ⟨p.toArray⟩ 0 (Str.ofString "._+-").length 1).isEmpty = true := by
        refine in_not hne fun c hc hk => ?_
        rcases hpc.1 with h1 | h1 | h1
        · have := h1 c hc; omega
        · exact h0 (.inr h1)
        · have := h1.2 c hc; omega
      by_cases hd : Dig p
      · have hint := int_dig hd (by have := hpc.2.2; omega)
        have hlen : (⟨p.toArray⟩ : PySem.Str).length ≤ 640 := by show p.toArray.size ≤ 640; have := hpc.2.2; simp; omega
        refine wpC_of_any ?_
        k_steps
        rename News _ _ _ _ => kN
        rename Fr _ _ _ _ => kF
        refine turn_fin kF (fun q hq => kN q (.tail _ hq)) hoff ?_ ?_
        · rw [htake, List.flatMap_append]
          refine hres.append ?_
          simp only [List.flatMap_cons, List.flatMap_nil, List.append_nil, contrib_dig hd]
          exact .num 100 _ (.num _ _ .nil)
        · intro z hz1 hz2
          have hz3 : z ≠ Str.ofString "t" := by simpa using hz2
          simp only [if_neg hz1, if_neg hz3, hz2, Bool.false_eq_true, if_false]
      · have hoth : Oth p := by
          rcases hpc.1 with h1 | h1 | h1
          · exact h1
          · exact absurd (.inr h1) h0
          · exact absurd h1 hd
        have hasc : ∀ c ∈ p, c ≠ 0 ∧ c < 128 := fun c hc => hla c (hpc.2.1 c hc)
        have hbad := int_oth hoth hasc
        have hlen : (⟨p.toArray⟩ : PySem.Str).length ≤ 600 := by show p.toArray.size ≤ 600; have := hpc.2.2; simp; omega
        refine wpC_execs_cons (wpC_If (wpC_of_any ?_))
        k_steps
        refine wpC_execs_cons (wpC_Try_except ?_)
        refine wpC_execs_cons (wpC_Assign_Name (wpC_Call_type (T := "int") ?_))
        k_steps
        refine wpC_call_int (wpC_intNew_bad rfl hlen hasc hbad ?_)
        intro e9 h9 tk9 hx9
        rename Fr _ _ _ _ => kF
        rename News _ _ _ _ => kN
        refine TLg.noted_new1 (new := (D', W.listOf vs'.toArray 0) :: (r', W.listOf res.toArray k) :: (news ++ own)) rfl (⟨hFrs.1, hFrs.2.1, hFrs.2.2.1, trivial⟩ : TI.Frs [_] [(L, { oL with slots := sl })]) hx9 kF (fun q hq => kN q ?_) ?_ ?_
        · simp only [List.cons_append, List.mem_cons, List.mem_append, List.not_mem_nil, or_false] at hq ⊢
          rcases hq with h | h | (h | h) | h
          · exact .inl h
          · exact .inr (.inl h)
          · exact .inr (.inr (.inl h))
          · exact .inr (.inr (.inr (.inr h)))
          · exact .inr (.inr (.inr (.inl h)))
        · refine ⟨Nat.ne_of_gt (Nat.lt_trans hLr hrD), Nat.ne_of_gt hLr, TLgL.allNe_of fun q hq => ?_⟩
          rcases List.mem_append.mp hq with h | h
          · exact hneL q h
          · exact hofL q h
        intro h10 sl10 tiF' tiH'
        simp only [List.cons_append, List.append_assoc] at tiH'
        have tiHH' := TT.HeldNA.held tiH'
        have hrest2 : ∀ q ∈ news ++ (own ++ [(L, { oL with slots := sl10 })]), q.1 ≠ r' := fun q hq => by
          rcases List.mem_append.mp hq with h | h
          · exact Nat.ne_of_lt (hnr q h)
          · rcases List.mem_append.mp h with h | h
            · exact hofr q h
            · rw [List.mem_singleton.mp h]; exact Nat.ne_of_lt hLr
        k_steps
        dsimp only
        refine wpC_of_any ?_
        k_steps
        dsimp only
        refine wpC_of_any ?_
        k_steps
        rename (PyProof.V.Flat _ _) => hfl
        rw [rank_lookup] at hfl
        obtain ⟨t9, rfl⟩ := PyProof.V.Flat.int_inv hfl
        rename News _ _ _ _ => kN
        rename Fr _ _ _ _ => kF
        refine turn_fin (sl := sl10) (res := res) (us := [.int (rankOf p) t9, .str ⟨p.toArray⟩ t]) (k' := k + 1) kF (fun q hq => kN q (.tail _ ?_)) hoff ?_ ?_
        · show q ∈ (_ : List (Addr × Obj))
          simp only [List.mem_cons, List.mem_append, List.not_mem_nil, or_false] at hq ⊢
          rcases hq with h | h | h | h | h
          · exact .inl h
          · exact .inr (.inl h)
          · exact .inr (.inr (.inl h))
          · exact .inr (.inr (.inr (.inr h)))
          · exact .inr (.inr (.inr (.inl h)))
        · rw [htake, List.flatMap_append]
          refine hres.append ?_
          simp only [List.flatMap_cons, List.flatMap_nil, List.append_nil, contrib_oth hoth hne]
          exact .num _ _ (.txt _ _ .nil)
        · intro z hz1 hz2
          have hz3 : z ≠ Str.ofString "t" := by simpa using hz2
          simp only [if_neg hz1, if_neg hz3, hz2, Bool.false_eq_true, if_false]
          rfl
end Mine
end

/-! ## Esc0 -/
section
set_option maxRecDepth 100000
open PySem PySem.Builtin.Str
set_option autoImplicit false
namespace Mine
def rep (c : Nat) (z : List Nat) (l : List Nat) : List Nat := l.flatMap fun d => if d = c then z else [d]
theorem rep_append (c : Nat) (z a b : List Nat) : rep c z (a ++ b) = rep c z a ++ rep c z b := by simp [rep]
theorem rep_free (c : Nat) (z : List Nat) : ∀ l : List Nat, c ∉ l → rep c z l = l
  | [], _ => rfl
  | d :: r, h => by
    have h1 : d ≠ c := fun e => h (by simp [e])
    have h2 := rep_free c z r fun m => h (by simp [m])
    unfold rep at h2 ⊢
    rw [List.flatMap_cons, h2, if_neg h1]; rfl
theorem rep_join (c : Nat) (z : PySem.Str) : ∀ parts : List PySem.Str, (∀ p ∈ parts, c ∉ p.cps.toList) → rep c z.cps.toList (PySem.Str.join ⟨#[c]⟩ parts).cps.toList = (PySem.Str.join z parts).cps.toList
  | [], _ => rfl
  | [p], h => rep_free c _ _ (h p (List.mem_singleton.mpr rfl))
  | p :: q :: r, h => by
    have ih := rep_join c z (q :: r) fun a ha => h a (List.mem_cons_of_mem _ ha)
    show rep c z.cps.toList (p ++ ⟨#[c]⟩ ++ PySem.Str.join ⟨#[c]⟩ (q :: r)).cps.toList = (p ++ z ++ PySem.Str.join z (q :: r)).cps.toList
    simp only [PySem.Str.cps_append, Array.toList_append]
    rw [rep_append, rep_append, ih, rep_free c _ _ (h p (List.mem_cons_self ..))]
    congr 2
    simp [rep]
theorem replace_rep (l : List Nat) (c : Nat) (z : PySem.Str) : Txt.replace ⟨l.toArray⟩ ⟨#[c]⟩ z = ⟨(rep c z.cps.toList l).toArray⟩ := by
  have h := rep_join c z _ (StrLaws.split_free ⟨l.toArray⟩ c)
  rw [StrLaws.join_split] at h
  rw [StrLaws.replace_one]
  refine PySem.Str.ext' (Array.toList_inj.mp ?_)
  exact h.symm

def escT (tab : List (Nat × List Nat)) (d : Nat) : List Nat := (tab.lookup d).getD [d]
/-- the next pair meets nothing that the table has written -/
def fresh (tab : List (Nat × List Nat)) (c : Nat) : Bool := tab.all fun p => p.1 != c && !p.2.contains c
theorem rep_escT (tab : List (Nat × List Nat)) (c : Nat) (z : List Nat) (h : fresh tab c = true) (d : Nat) : rep c z (escT tab d) = escT (tab ++ [(c, z)]) d := by
  unfold escT
  rw [List.lookup_append]
  cases hl : tab.lookup d with
  | none =>
    simp only [Option.none_or, Option.getD_none]
    by_cases e : d = c
    · subst e; simp [rep]
    · have : ([(c, z)] : List (Nat × List Nat)).lookup d = none := by rw [List.lookup_cons, beq_eq_false_iff_ne.mpr e]; rfl
      rw [this]
      simp [rep, e]
  | some x =>
    simp only [Option.some_or, Option.getD_some]
    refine rep_free c z x fun hm => ?_
    have : (d, x) ∈ tab := by
      clear h
      induction tab with
      | nil => cases hl
      | cons p r ih =>
        obtain ⟨k, v⟩ := p
        rw [List.lookup_cons] at hl
        by_cases e : (d == k) = true
        · rw [e] at hl
          have := eq_of_beq e
          cases hl; subst this; exact .head _
        · simp only [Bool.not_eq_true] at e
          rw [e] at hl
          exact .tail _ (ih hl)
    have := List.all_eq_true.mp h _ this
    simp at this
    exact this.2 hm
theorem rep_flat (tab : List (Nat × List Nat)) (c : Nat) (z : List Nat) (h : fresh tab c = true) (l : List Nat) : rep c z (l.flatMap (escT tab)) = l.flatMap (escT (tab ++ [(c, z)])) := by
  unfold rep
  rw [List.flatMap_assoc]
  congr 1
  funext d
  exact rep_escT tab c z h d
theorem esc_taken (l : List Nat) (tab : List (Nat × List Nat)) (c : Nat) (z : PySem.Str) (h : fresh tab c = true) :
    Txt.replace ⟨(l.flatMap (escT tab)).toArray⟩ ⟨#[c]⟩ z = ⟨(l.flatMap (escT (tab ++ [(c, z.cps.toList)]))).toArray⟩ := by
  rw [replace_rep, rep_flat tab c _ h]
theorem esc_not (l : List Nat) (tab : List (Nat × List Nat)) (c : Nat) (z : PySem.Str) (h : fresh tab c = true) (hn : c ∉ l.flatMap (escT tab)) :
    (⟨(l.flatMap (escT tab)).toArray⟩ : PySem.Str) = ⟨(l.flatMap (escT (tab ++ [(c, z.cps.toList)]))).toArray⟩ := by
  rw [← rep_flat tab c _ h, rep_free c _ _ hn]
theorem escT_len (tab : List (Nat × List Nat)) (h : (tab.all fun p => decide (p.2.length ≤ 6)) = true) (d : Nat) : (escT tab d).length ≤ 6 := by
  unfold escT
  cases hl : tab.lookup d with
  | none => simp
  | some x =>
    simp only [Option.getD_some]
    induction tab with
    | nil => cases hl
    | cons p r ih =>
      obtain ⟨k, v⟩ := p
      simp only [List.all_cons, Bool.and_eq_true, decide_eq_true_eq] at h
      rw [List.lookup_cons] at hl
      by_cases e : (d == k) = true
      · rw [e] at hl; cases hl; exact h.1
      · simp only [Bool.not_eq_true] at e
        rw [e] at hl
        exact ih h.2 hl
theorem flat_len (tab : List (Nat × List Nat)) (h : (tab.all fun p => decide (p.2.length ≤ 6)) = true) (l : List Nat) : (l.flatMap (escT tab)).length ≤ 6 * l.length := by
  induction l with
  | nil => simp
  | cons d r ih =>
    have := escT_len tab h d
    rw [List.flatMap_cons, List.length_append, List.length_cons]
    omega
theorem esc_nil (l : List Nat) : l.flatMap (escT []) = l := by
  induction l with
  | nil => rfl
  | cons d r ih => rw [List.flatMap_cons, ih]; rfl
theorem found_c (l : List Nat) (c : Nat) : (!(occurrences ⟨l.toArray⟩ ⟨#[c]⟩ 0 (⟨l.toArray⟩ : PySem.Str).length 1).isEmpty) = decide (c ∈ l) := by
  have := StrLaws.found_one ⟨l.toArray⟩ c
  simpa using this
end Mine
end

/-! ## Esc2 -/
section
local macro_rules | `(tactic| walk_at "pad 0") => `(tactic| skip)
open PySem PySem.W PyProof.Rows
set_option maxRecDepth 100000
set_option maxHeartbeats 8000000
set_option autoImplicit false
namespace Mine
def Stop (P : Prop) : Prop := P
theorem Stop.mk {P : Prop} (h : P) : Stop P := h
theorem Stop.out {P : Prop} (h : Stop P) : P := h

def EscPost (g : Heap) (L : Addr) (m : PySem.Str → Option Value) (news : List (Addr × Obj)) (x : PySem.Str) (s : Shared) (f : Flow) (s' : Shared) : Prop :=
  f = .next ∧ ∃ t h' tk, s' = { s with heap := h', toks := tk } ∧ Fr g L h' (fun y => if y = Str.ofString "text" then some (.str x t) else m y) ∧ News g L h' news
section
variable {prog : Program} {w : World} {A : Around} {E : Value → Shared → Prop} {s : Shared} {g : Heap} {L : Addr} {m : PySem.Str → Option Value} {news : List (Addr × Obj)}
theorem cut_esc {st : Stmt} {env : Env} {Q : Flow → Shared → Prop} {l : List Nat} {tab : List (Nat × List Nat)} (c : Nat) (z : PySem.Str) (_F : Fr g L s.heap m) (_N : News g L s.heap news) (hp : 0 < s.toks)
    (h1 : wpAny (model prog w) A (exec st env) (EscPost g L m news ⟨(l.flatMap (escT (tab ++ [(c, z.cps.toList)]))).toArray⟩ s) E s)
    (h2 : ∀ t h' tk, 0 < tk → Fr g L h' (fun y => if y = Str.ofString "text" then some (.str ⟨(l.flatMap (escT (tab ++ [(c, z.cps.toList)]))).toArray⟩ t) else m y) → News g L h' news → Q .next { s with heap := h', toks := tk }) :
    wpAny (model prog w) A (exec st env) Q E s := by
  refine wpAny_mono (wpAny_toks_of (n := s.toks) (Nat.le_refl _) h1) (fun f s' hq => ?_) fun _ _ e => e.2
  obtain ⟨htk, rfl, t, h', tk, rfl, F, N⟩ := hq
  exact h2 t h' tk (Nat.lt_of_lt_of_le hp htk) F N
theorem escPost_taken {l : List Nat} {tab : List (Nat × List Nat)} {c : Nat} {C z : PySem.Str} {t : Tok} {h' : Heap} {tk : Nat} (hC : C = ⟨#[c]⟩) (hf : fresh tab c = true)
    (F : Fr g L h' (fun y => if y = Str.ofString "text" then some (.str (Txt.replace ⟨(l.flatMap (escT tab)).toArray⟩ C z) t) else m y)) (N : News g L h' news) :
    EscPost g L m news ⟨(l.flatMap (escT (tab ++ [(c, z.cps.toList)]))).toArray⟩ s .next { s with heap := h', toks := tk } := by
  subst hC
  rw [esc_taken l tab c z hf] at F
  exact ⟨rfl, t, h', tk, rfl, F, N⟩
theorem escPost_not {l : List Nat} {tab : List (Nat × List Nat)} {c : Nat} {z : PySem.Str} {t : Tok} {h' : Heap} {tk : Nat} (hf : fresh tab c = true) (hn : c ∉ l.flatMap (escT tab))
    (F : Fr g L h' m) (hm : m (Str.ofString "text") = some (.str ⟨(l.flatMap (escT tab)).toArray⟩ t)) (N : News g L h' news) :
    EscPost g L m news ⟨(l.flatMap (escT (tab ++ [(c, z.cps.toList)]))).toArray⟩ s .next { s with heap := h', toks := tk } := by
  rw [esc_not l tab c z hf hn] at hm
  refine ⟨rfl, t, h', tk, rfl, ?_, N⟩
  have e : (fun y => if y = Str.ofString "text" then some (Value.str ⟨(l.flatMap (escT (tab ++ [(c, z.cps.toList)]))).toArray⟩ t) else m y) = m := by
    funext y
    by_cases h : y = Str.ofString "text"
    · rw [if_pos h, h, hm]
    · rw [if_neg h]
  rw [e]; exact F
theorem in_esc {l : List Nat} {C : PySem.Str} {t u : Tok} {c : Nat} {b : Bool} {Q : Value → Shared → Prop} (hC : C = ⟨#[c]⟩) (e : decide (c ∈ l) = b) (h : Q (.bool b) s) :
    wpAny (model prog w) A (compareOp .In (.str C u) (.str ⟨l.toArray⟩ t)) Q E s := by
  subst hC
  refine in_str ?_
  rw [found_c, e]; exact h
end
theorem gen_toks {M : Model} {A : Around} {α : Type} {t : Sem α} {Q : α → Shared → Prop} {E : Value → Shared → Prop} {h : Heap} {gs : Array GenState} {d : Drawn} {n : Nat} {os : OsState} (hn : 0 < n) (k : ∀ tk, 0 < tk → wpAny M A t Q E ⟨h, gs, d, tk, os⟩) : wpAny M A t Q E ⟨h, gs, d, n, os⟩ := k n hn
theorem cAmp : Str.ofString "&" = ⟨#[38]⟩ := by decide +kernel
theorem cLt : Str.ofString "<" = ⟨#[60]⟩ := by decide +kernel
theorem cGt : Str.ofString ">" = ⟨#[62]⟩ := by decide +kernel
theorem cQuot : Str.ofString "\"" = ⟨#[34]⟩ := by decide +kernel
theorem cCr : Str.ofString "\r" = ⟨#[13]⟩ := by decide +kernel
theorem cNl : Str.ofString "\n" = ⟨#[10]⟩ := by decide +kernel
theorem cTab : Str.ofString "\t" = ⟨#[9]⟩ := by decide +kernel
theorem esc_bound (l : List Nat) (tab : List (Nat × List Nat)) (hll : l.length ≤ 100) (h : (tab.all fun p => decide (p.2.length ≤ 6)) = true) : (⟨(l.flatMap (escT tab)).toArray⟩ : PySem.Str).length ≤ 1048576 := by
  show (List.toArray _).size ≤ _
  rw [List.size_toArray]
  have := flat_len tab h l
  omega


local macro_rules | `(tactic| walk_at "execs cons") => `(tactic| (k_here; refine gen_toks (n := _ + _) (by omega) ?_; intro tk htk))
local macro_rules | `(tactic| walk_at "execs nil") => `(tactic| (k_here; refine gen_toks (n := _ + _) (by omega) ?_; intro tk htk))
local macro_rules | `(tactic| walk_at "exec If") => `(tactic| (k_here; refine Stop.out ?_))
local macro_rules | `(tactic| walk_at "compareOp In str str") => `(tactic| (k_here; refine in_esc (by first | exact cAmp | exact cLt | exact cGt | exact cQuot | exact cCr | exact cNl | exact cTab) (by assumption) ?_))
local macro_rules | `(tactic| walk_at "call builtin:str.replace") => `(tactic| (k_here; refine SC.replaceW (by (dsimp only; exact Nat.ne_of_gt (by assumption))) (by exact Nat.succ_ne_zero _) (by exact Nat.ne_of_lt (Nat.lt_succ_self _)) (by decide +kernel) (by assumption) (by decide +kernel) ?_; intro t9 tk9))
theorem esc_cdata : ∀ (w : World) (mean : ExcName → Option Value) (mg mb : PySem.Str → Option Value) (news : List (Addr × Obj)) (l : List Nat) (tok : Tok)
   (dp un : Nat) (gd : Option (List Code)) (cn : PySem.Str) (cs : Scope) (a : Addr) (ccd : Value) (cl : List (PySem.Str × Addr)) (outer : List Env) (A₀ : Around) (base h₀ : Heap) (L : Addr) (m : PySem.Str → Option Value) (s : Shared) (Q E : Value → Shared → Prop)
   (B : Below A₀ base outer h₀) (F : Fr h₀ L s.heap m) (KX : (MineH.hd.heap_39 w.params).In h₀) (N : News h₀ L s.heap news)
   (T : Top MineH.hd.view_39 (looseW MineH.hd.view_39 [Str.ofString "_twin_re_1", Str.ofString "_ver_stages"]) mean mg mb h₀) (hcs : cs.kind = .function)
   (hdp : dp + 1 < recursionLimit) (hun : un + 8 < cLine) (hll : l.length ≤ 100) (htk : 0 < s.toks)
   (ret : ∀ t h' tk, 0 < tk → Fr h₀ L h' m → News h₀ L h' news → Q (.str ⟨(l.flatMap (escT [(38, (Str.ofString "&amp;").cps.toList), (60, (Str.ofString "&lt;").cps.toList), (62, (Str.ofString "&gt;").cps.toList)])).toArray⟩ t) { s with heap := h', toks := tk }),
   wpAny (model Challenge.rw_ny0115_01.row.prog w) (ktrTop dp un gd cn cs L a ccd cl outer) (call (.ref 58) [.str ⟨l.toArray⟩ tok]) Q E s := by
  w_on
  k_fill
  intro w mean mg mb news l tok dp un gd cn cs a ccd cl outer A₀ base h₀ L m s Q E B F KX N T hcs hdp hun hll htk ret
  rw [← esc_nil l]
  refine wpAny_call ?_
  k_dflt cell_enter
  have hL0 : (⟨(l.flatMap (escT ([]))).toArray⟩ : PySem.Str).length ≤ 1048576 := esc_bound l _ hll (by decide +kernel)
  k_steps
  refine Stop.mk ?_
  rename (0 < _) => hp
  rename Fr _ _ _ _ => eF
  rename News _ _ _ _ => eN
  refine cut_esc (l := l) (tab := []) 38 (Str.ofString "&amp;") eF eN hp ?ca0 ?cb0
  case ca0 =>
    by_cases hm : 38 ∈ l.flatMap (escT ([]))
    · have hdec := decide_eq_true hm
      refine wpAny_If ?_
      k_steps
      exact escPost_taken cAmp (by decide +kernel) (by assumption) (by assumption)
    · have hdec := decide_eq_false hm
      refine wpAny_If ?_
      k_steps
      exact escPost_not (by decide +kernel) hm (by assumption) rfl (by assumption)
  clear eF eN hp hL0
  intro t0 h0 tk0 hp0 F0 N0
  have hL1 : (⟨(l.flatMap (escT (([] ++ [(38, (Str.ofString "&amp;").cps.toList)])))).toArray⟩ : PySem.Str).length ≤ 1048576 := esc_bound l _ hll (by decide +kernel)
  k_steps
  refine Stop.mk ?_
  rename (0 < _) => hp
  rename Fr _ _ _ _ => eF
  rename News _ _ _ _ => eN
  refine cut_esc (l := l) (tab := ([] ++ [(38, (Str.ofString "&amp;").cps.toList)])) 60 (Str.ofString "&lt;") eF eN hp ?ca1 ?cb1
  case ca1 =>
    by_cases hm : 60 ∈ l.flatMap (escT (([] ++ [(38, (Str.ofString "&amp;").cps.toList)])))
    · have hdec := decide_eq_true hm
      refine wpAny_If ?_
      k_steps
      exact escPost_taken cLt (by decide +kernel) (by assumption) (by assumption)
    · have hdec := decide_eq_false hm
      refine wpAny_If ?_
      k_steps
      exact escPost_not (by decide +kernel) hm (by assumption) rfl (by assumption)
  clear eF eN hp hL1
  intro t1 h1 tk1 hp1 F1 N1
  have hL2 : (⟨(l.flatMap (escT ((([] ++ [(38, (Str.ofString "&amp;").cps.toList)]) ++ [(60, (Str.ofString "&lt;").cps.toList)])))).toArray⟩ : PySem.Str).length ≤ 1048576 := esc_bound l _ hll (by decide +kernel)
  k_steps
  refine Stop.mk ?_
  rename (0 < _) => hp
  rename Fr _ _ _ _ => eF
  rename News _ _ _ _ => eN
  refine cut_esc (l := l) (tab := (([] ++ [(38, (Str.ofString "&amp;").cps.toList)]) ++ [(60, (Str.ofString "&lt;").cps.toList)])) 62 (Str.ofString "&gt;") eF eN hp ?ca2 ?cb2
  case ca2 =>
    by_cases hm : 62 ∈ l.flatMap (escT ((([] ++ [(38, (Str.ofString "&amp;").cps.toList)]) ++ [(60, (Str.ofString "&lt;").cps.toList)])))
    · have hdec := decide_eq_true hm
      refine wpAny_If ?_
      k_steps
      exact escPost_taken cGt (by decide +kernel) (by assumption) (by assumption)
    · have hdec := decide_eq_false hm
      refine wpAny_If ?_
      k_steps
      exact escPost_not (by decide +kernel) hm (by assumption) rfl (by assumption)
  clear eF eN hp hL2
  intro t2 h2 tk2 hp2 F2 N2
  k_steps
  exact ret _ _ _ (by assumption) (by assumption) (by assumption)
theorem esc_attrib : ∀ (w : World) (mean : ExcName → Option Value) (mg mb : PySem.Str → Option Value) (news : List (Addr × Obj)) (l : List Nat) (tok : Tok)
   (dp un : Nat) (gd : Option (List Code)) (cn : PySem.Str) (cs : Scope) (a : Addr) (ccd : Value) (cl : List (PySem.Str × Addr)) (outer : List Env) (A₀ : Around) (base h₀ : Heap) (L : Addr) (m : PySem.Str → Option Value) (s : Shared) (Q E : Value → Shared → Prop)
   (B : Below A₀ base outer h₀) (F : Fr h₀ L s.heap m) (KX : (MineH.hd.heap_39 w.params).In h₀) (N : News h₀ L s.heap news)
   (T : Top MineH.hd.view_39 (looseW MineH.hd.view_39 [Str.ofString "_twin_re_1", Str.ofString "_ver_stages"]) mean mg mb h₀) (hcs : cs.kind = .function)
   (hdp : dp + 1 < recursionLimit) (hun : un + 8 < cLine) (hll : l.length ≤ 100) (htk : 0 < s.toks)
   (ret : ∀ t h' tk, 0 < tk → Fr h₀ L h' m → News h₀ L h' news → Q (.str ⟨(l.flatMap (escT [(38, (Str.ofString "&amp;").cps.toList), (60, (Str.ofString "&lt;").cps.toList), (62, (Str.ofString "&gt;").cps.toList), (34, (Str.ofString "&quot;").cps.toList), (13, (Str.ofString "&#13;").cps.toList), (10, (Str.ofString "&#10;").cps.toList), (9, (Str.ofString "&#09;").cps.toList)])).toArray⟩ t) { s with heap := h', toks := tk }),
   wpAny (model Challenge.rw_ny0115_01.row.prog w) (ktrTop dp un gd cn cs L a ccd cl outer) (call (.ref 65) [.str ⟨l.toArray⟩ tok]) Q E s := by
  w_on
  k_fill
  intro w mean mg mb news l tok dp un gd cn cs a ccd cl outer A₀ base h₀ L m s Q E B F KX N T hcs hdp hun hll htk ret
  rw [← esc_nil l]
  refine wpAny_call ?_
  k_dflt cell_enter
  have hL0 : (⟨(l.flatMap (escT ([]))).toArray⟩ : PySem.Str).length ≤ 1048576 := esc_bound l _ hll (by decide +kernel)
  k_steps
  refine Stop.mk ?_
  rename (0 < _) => hp
  rename Fr _ _ _ _ => eF
  rename News _ _ _ _ => eN
  refine cut_esc (l := l) (tab := []) 38 (Str.ofString "&amp;") eF eN hp ?ca0 ?cb0
  case ca0 =>
    by_cases hm : 38 ∈ l.flatMap (escT ([]))
    · have hdec := decide_eq_true hm
      refine wpAny_If ?_
      k_steps
      exact escPost_taken cAmp (by decide +kernel) (by assumption) (by assumption)
    · have hdec := decide_eq_false hm
      refine wpAny_If ?_
      k_steps
      exact escPost_not (by decide +kernel) hm (by assumption) rfl (by assumption)
  clear eF eN hp hL0
  intro t0 h0 tk0 hp0 F0 N0
  have hL1 : (⟨(l.flatMap (escT (([] ++ [(38, (Str.ofString "&amp;").cps.toList)])))).toArray⟩ : PySem.Str).length ≤ 1048576 := esc_bound l _ hll (by decide +kernel)
  k_steps
  refine Stop.mk ?_
  rename (0 < _) => hp
  rename Fr _ _ _ _ => eF
  rename News _ _ _ _ => eN
  refine cut_esc (l := l) (tab := ([] ++ [(38, (Str.ofString "&amp;").cps.toList)])) 60 (Str.ofString "&lt;") eF eN hp ?ca1 ?cb1
  case ca1 =>
    by_cases hm : 60 ∈ l.flatMap (escT (([] ++ [(38, (Str.ofString "&amp;").cps.toList)])))
    · have hdec := decide_eq_true hm
      refine wpAny_If ?_
      k_steps
      exact escPost_taken cLt (by decide +kernel) (by assumption) (by assumption)
    · have hdec := decide_eq_false hm
      refine wpAny_If ?_
      k_steps
      exact escPost_not (by decide +kernel) hm (by assumption) rfl (by assumption)
  clear eF eN hp hL1
  intro t1 h1 tk1 hp1 F1 N1
  have hL2 : (⟨(l.flatMap (escT ((([] ++ [(38, (Str.ofString "&amp;").cps.toList)]) ++ [(60, (Str.ofString "&lt;").cps.toList)])))).toArray⟩ : PySem.Str).length ≤ 1048576 := esc_bound l _ hll (by decide +kernel)
  k_steps
  refine Stop.mk ?_
  rename (0 < _) => hp
  rename Fr _ _ _ _ => eF
  rename News _ _ _ _ => eN
  refine cut_esc (l := l) (tab := (([] ++ [(38, (Str.ofString "&amp;").cps.toList)]) ++ [(60, (Str.ofString "&lt;").cps.toList)])) 62 (Str.ofString "&gt;") eF eN hp ?ca2 ?cb2
  case ca2 =>
    by_cases hm : 62 ∈ l.flatMap (escT ((([] ++ [(38, (Str.ofString "&amp;").cps.toList)]) ++ [(60, (Str.ofString "&lt;").cps.toList)])))
    · have hdec := decide_eq_true hm
      refine wpAny_If ?_
      k_steps
      exact escPost_taken cGt (by decide +kernel) (by assumption) (by assumption)
    · have hdec := decide_eq_false hm
      refine wpAny_If ?_
      k_steps
      exact escPost_not (by decide +kernel) hm (by assumption) rfl (by assumption)
  clear eF eN hp hL2
  intro t2 h2 tk2 hp2 F2 N2
  have hL3 : (⟨(l.flatMap (escT (((([] ++ [(38, (Str.ofString "&amp;").cps.toList)]) ++ [(60, (Str.ofString "&lt;").cps.toList)]) ++ [(62, (Str.ofString "&gt;").cps.toList)])))).toArray⟩ : PySem.Str).length ≤ 1048576 := esc_bound l _ hll (by decide +kernel)
  k_steps
  refine Stop.mk ?_
  rename (0 < _) => hp
  rename Fr _ _ _ _ => eF
  rename News _ _ _ _ => eN
  refine cut_esc (l := l) (tab := ((([] ++ [(38, (Str.ofString "&amp;").cps.toList)]) ++ [(60, (Str.ofString "&lt;").cps.toList)]) ++ [(62, (Str.ofString "&gt;").cps.toList)])) 34 (Str.ofString "&quot;") eF eN hp ?ca3 ?cb3
  case ca3 =>
    by_cases hm : 34 ∈ l.flatMap (escT (((([] ++ [(38, (Str.ofString "&amp;").cps.toList)]) ++ [(60, (Str.ofString "&lt;").cps.toList)]) ++ [(62, (Str.ofString "&gt;").cps.toList)])))
    · have hdec := decide_eq_true hm
      refine wpAny_If ?_
      k_steps
      exact escPost_taken cQuot (by decide +kernel) (by assumption) (by assumption)
    · have hdec := decide_eq_false hm
      refine wpAny_If ?_
      k_steps
      exact escPost_not (by decide +kernel) hm (by assumption) rfl (by assumption)
  clear eF eN hp hL3
  intro t3 h3 tk3 hp3 F3 N3
  have hL4 : (⟨(l.flatMap (escT ((((([] ++ [(38, (Str.ofString "&amp;").cps.toList)]) ++ [(60, (Str.ofString "&lt;").cps.toList)]) ++ [(62, (Str.ofString "&gt;").cps.toList)]) ++ [(34, (Str.ofString "&quot;").cps.toList)])))).toArray⟩ : PySem.Str).length ≤ 1048576 := esc_bound l _ hll (by decide +kernel)
  k_steps
  refine Stop.mk ?_
  rename (0 < _) => hp
  rename Fr _ _ _ _ => eF
  rename News _ _ _ _ => eN
  refine cut_esc (l := l) (tab := (((([] ++ [(38, (Str.ofString "&amp;").cps.toList)]) ++ [(60, (Str.ofString "&lt;").cps.toList)]) ++ [(62, (Str.ofString "&gt;").cps.toList)]) ++ [(34, (Str.ofString "&quot;").cps.toList)])) 13 (Str.ofString "&#13;") eF eN hp ?ca4 ?cb4
  case ca4 =>
    by_cases hm : 13 ∈ l.flatMap (escT ((((([] ++ [(38, (Str.ofString "&amp;").cps.toList)]) ++ [(60, (Str.ofString "&lt;").cps.toList)]) ++ [(62, (Str.ofString "&gt;").cps.toList)]) ++ [(34, (Str.ofString "&quot;").cps.toList)])))
    · have hdec := decide_eq_true hm
      refine wpAny_If ?_
      k_steps
      exact escPost_taken cCr (by decide +kernel) (by assumption) (by assumption)
    · have hdec := decide_eq_false hm
      refine wpAny_If ?_
      k_steps
      exact escPost_not (by decide +kernel) hm (by assumption) rfl (by assumption)
  clear eF eN hp hL4
  intro t4 h4 tk4 hp4 F4 N4
  have hL5 : (⟨(l.flatMap (escT (((((([] ++ [(38, (Str.ofString "&amp;").cps.toList)]) ++ [(60, (Str.ofString "&lt;").cps.toList)]) ++ [(62, (Str.ofString "&gt;").cps.toList)]) ++ [(34, (Str.ofString "&quot;").cps.toList)]) ++ [(13, (Str.ofString "&#13;").cps.toList)])))).toArray⟩ : PySem.Str).length ≤ 1048576 := esc_bound l _ hll (by decide +kernel)
  k_steps
  refine Stop.mk ?_
  rename (0 < _) => hp
  rename Fr _ _ _ _ => eF
  rename News _ _ _ _ => eN
  refine cut_esc (l := l) (tab := ((((([] ++ [(38, (Str.ofString "&amp;").cps.toList)]) ++ [(60, (Str.ofString "&lt;").cps.toList)]) ++ [(62, (Str.ofString "&gt;").cps.toList)]) ++ [(34, (Str.ofString "&quot;").cps.toList)]) ++ [(13, (Str.ofString "&#13;").cps.toList)])) 10 (Str.ofString "&#10;") eF eN hp ?ca5 ?cb5
  case ca5 =>
    by_cases hm : 10 ∈ l.flatMap (escT (((((([] ++ [(38, (Str.ofString "&amp;").cps.toList)]) ++ [(60, (Str.ofString "&lt;").cps.toList)]) ++ [(62, (Str.ofString "&gt;").cps.toList)]) ++ [(34, (Str.ofString "&quot;").cps.toList)]) ++ [(13, (Str.ofString "&#13;").cps.toList)])))
    · have hdec := decide_eq_true hm
      refine wpAny_If ?_
      k_steps
      exact escPost_taken cNl (by decide +kernel) (by assumption) (by assumption)
    · have hdec := decide_eq_false hm
      refine wpAny_If ?_
      k_steps
      exact escPost_not (by decide +kernel) hm (by assumption) rfl (by assumption)
  clear eF eN hp hL5
  intro t5 h5 tk5 hp5 F5 N5
  have hL6 : (⟨(l.flatMap (escT ((((((([] ++ [(38, (Str.ofString "&amp;").cps.toList)]) ++ [(60, (Str.ofString "&lt;").cps.toList)]) ++ [(62, (Str.ofString "&gt;").cps.toList)]) ++ [(34, (Str.ofString "&quot;").cps.toList)]) ++ [(13, (Str.ofString "&#13;").cps.toList)]) ++ [(10, (Str.ofString "&#10;").cps.toList)])))).toArray⟩ : PySem.Str).length ≤ 1048576 := esc_bound l _ hll (by decide +kernel)
  k_steps
  refine Stop.mk ?_
  rename (0 < _) => hp
  rename Fr _ _ _ _ => eF
  rename News _ _ _ _ => eN
  refine cut_esc (l := l) (tab := (((((([] ++ [(38, (Str.ofString "&amp;").cps.toList)]) ++ [(60, (Str.ofString "&lt;").cps.toList)]) ++ [(62, (Str.ofString "&gt;").cps.toList)]) ++ [(34, (Str.ofString "&quot;").cps.toList)]) ++ [(13, (Str.ofString "&#13;").cps.toList)]) ++ [(10, (Str.ofString "&#10;").cps.toList)])) 9 (Str.ofString "&#09;") eF eN hp ?ca6 ?cb6
  case ca6 =>
    by_cases hm : 9 ∈ l.flatMap (escT ((((((([] ++ [(38, (Str.ofString "&amp;").cps.toList)]) ++ [(60, (Str.ofString "&lt;").cps.toList)]) ++ [(62, (Str.ofString "&gt;").cps.toList)]) ++ [(34, (Str.ofString "&quot;").cps.toList)]) ++ [(13, (Str.ofString "&#13;").cps.toList)]) ++ [(10, (Str.ofString "&#10;").cps.toList)])))
    · have hdec := decide_eq_true hm
      refine wpAny_If ?_
      k_steps
      exact escPost_taken cTab (by decide +kernel) (by assumption) (by assumption)
    · have hdec := decide_eq_false hm
      refine wpAny_If ?_
      k_steps
      exact escPost_not (by decide +kernel) hm (by assumption) rfl (by assumption)
  clear eF eN hp hL6
  intro t6 h6 tk6 hp6 F6 N6
  k_steps
  exact ret _ _ _ (by assumption) (by assumption) (by assumption)
theorem esc_attrib_html : ∀ (w : World) (mean : ExcName → Option Value) (mg mb : PySem.Str → Option Value) (news : List (Addr × Obj)) (l : List Nat) (tok : Tok)
   (dp un : Nat) (gd : Option (List Code)) (cn : PySem.Str) (cs : Scope) (a : Addr) (ccd : Value) (cl : List (PySem.Str × Addr)) (outer : List Env) (A₀ : Around) (base h₀ : Heap) (L : Addr) (m : PySem.Str → Option Value) (s : Shared) (Q E : Value → Shared → Prop)
   (B : Below A₀ base outer h₀) (F : Fr h₀ L s.heap m) (KX : (MineH.hd.heap_39 w.params).In h₀) (N : News h₀ L s.heap news)
   (T : Top MineH.hd.view_39 (looseW MineH.hd.view_39 [Str.ofString "_twin_re_1", Str.ofString "_ver_stages"]) mean mg mb h₀) (hcs : cs.kind = .function)
   (hdp : dp + 1 < recursionLimit) (hun : un + 8 < cLine) (hll : l.length ≤ 100) (htk : 0 < s.toks)
   (ret : ∀ t h' tk, 0 < tk → Fr h₀ L h' m → News h₀ L h' news → Q (.str ⟨(l.flatMap (escT [(38, (Str.ofString "&amp;").cps.toList), (62, (Str.ofString "&gt;").cps.toList), (34, (Str.ofString "&quot;").cps.toList)])).toArray⟩ t) { s with heap := h', toks := tk }),
   wpAny (model Challenge.rw_ny0115_01.row.prog w) (ktrTop dp un gd cn cs L a ccd cl outer) (call (.ref 72) [.str ⟨l.toArray⟩ tok]) Q E s := by
  w_on
  k_fill
  intro w mean mg mb news l tok dp un gd cn cs a ccd cl outer A₀ base h₀ L m s Q E B F KX N T hcs hdp hun hll htk ret
  rw [← esc_nil l]
  refine wpAny_call ?_
  k_dflt cell_enter
  have hL0 : (⟨(l.flatMap (escT ([]))).toArray⟩ : PySem.Str).length ≤ 1048576 := esc_bound l _ hll (by decide +kernel)
  k_steps
  refine Stop.mk ?_
  rename (0 < _) => hp
  rename Fr _ _ _ _ => eF
  rename News _ _ _ _ => eN
  refine cut_esc (l := l) (tab := []) 38 (Str.ofString "&amp;") eF eN hp ?ca0 ?cb0
  case ca0 =>
    by_cases hm : 38 ∈ l.flatMap (escT ([]))
    · have hdec := decide_eq_true hm
      refine wpAny_If ?_
      k_steps
      exact escPost_taken cAmp (by decide +kernel) (by assumption) (by assumption)
    · have hdec := decide_eq_false hm
      refine wpAny_If ?_
      k_steps
      exact escPost_not (by decide +kernel) hm (by assumption) rfl (by assumption)
  clear eF eN hp hL0
  intro t0 h0 tk0 hp0 F0 N0
  have hL1 : (⟨(l.flatMap (escT (([] ++ [(38, (Str.ofString "&amp;").cps.toList)])))).toArray⟩ : PySem.Str).length ≤ 1048576 := esc_bound l _ hll (by decide +kernel)
  k_steps
  refine Stop.mk ?_
  rename (0 < _) => hp
  rename Fr _ _ _ _ => eF
  rename News _ _ _ _ => eN
  refine cut_esc (l := l) (tab := ([] ++ [(38, (Str.ofString "&amp;").cps.toList)])) 62 (Str.ofString "&gt;") eF eN hp ?ca1 ?cb1
  case ca1 =>
    by_cases hm : 62 ∈ l.flatMap (escT (([] ++ [(38, (Str.ofString "&amp;").cps.toList)])))
    · have hdec := decide_eq_true hm
      refine wpAny_If ?_
      k_steps
      exact escPost_taken cGt (by decide +kernel) (by assumption) (by assumption)
    · have hdec := decide_eq_false hm
      refine wpAny_If ?_
      k_steps
      exact escPost_not (by decide +kernel) hm (by assumption) rfl (by assumption)
  clear eF eN hp hL1
  intro t1 h1 tk1 hp1 F1 N1
  have hL2 : (⟨(l.flatMap (escT ((([] ++ [(38, (Str.ofString "&amp;").cps.toList)]) ++ [(62, (Str.ofString "&gt;").cps.toList)])))).toArray⟩ : PySem.Str).length ≤ 1048576 := esc_bound l _ hll (by decide +kernel)
  k_steps
  refine Stop.mk ?_
  rename (0 < _) => hp
  rename Fr _ _ _ _ => eF
  rename News _ _ _ _ => eN
  refine cut_esc (l := l) (tab := (([] ++ [(38, (Str.ofString "&amp;").cps.toList)]) ++ [(62, (Str.ofString "&gt;").cps.toList)])) 34 (Str.ofString "&quot;") eF eN hp ?ca2 ?cb2
  case ca2 =>
    by_cases hm : 34 ∈ l.flatMap (escT ((([] ++ [(38, (Str.ofString "&amp;").cps.toList)]) ++ [(62, (Str.ofString "&gt;").cps.toList)])))
    · have hdec := decide_eq_true hm
      refine wpAny_If ?_
      k_steps
      exact escPost_taken cQuot (by decide +kernel) (by assumption) (by assumption)
    · have hdec := decide_eq_false hm
      refine wpAny_If ?_
      k_steps
      exact escPost_not (by decide +kernel) hm (by assumption) rfl (by assumption)
  clear eF eN hp hL2
  intro t2 h2 tk2 hp2 F2 N2
  k_steps
  exact ret _ _ _ (by assumption) (by assumption) (by assumption)
theorem esc_cdata_c14n : ∀ (w : World) (mean : ExcName → Option Value) (mg mb : PySem.Str → Option Value) (news : List (Addr × Obj)) (l : List Nat) (tok : Tok)
   (dp un : Nat) (gd : Option (List Code)) (cn : PySem.Str) (cs : Scope) (a : Addr) (ccd : Value) (cl : List (PySem.Str × Addr)) (outer : List Env) (A₀ : Around) (base h₀ : Heap) (L : Addr) (m : PySem.Str → Option Value) (s : Shared) (Q E : Value → Shared → Prop)
   (B : Below A₀ base outer h₀) (F : Fr h₀ L s.heap m) (KX : (MineH.hd.heap_39 w.params).In h₀) (N : News h₀ L s.heap news)
   (T : Top MineH.hd.view_39 (looseW MineH.hd.view_39 [Str.ofString "_twin_re_1", Str.ofString "_ver_stages"]) mean mg mb h₀) (hcs : cs.kind = .function)
   (hdp : dp + 1 < recursionLimit) (hun : un + 8 < cLine) (hll : l.length ≤ 100) (htk : 0 < s.toks)
   (ret : ∀ t h' tk, 0 < tk → Fr h₀ L h' m → News h₀ L h' news → Q (.str ⟨(l.flatMap (escT [(38, (Str.ofString "&amp;").cps.toList), (60, (Str.ofString "&lt;").cps.toList), (62, (Str.ofString "&gt;").cps.toList), (13, (Str.ofString "&#xD;").cps.toList)])).toArray⟩ t) { s with heap := h', toks := tk }),
   wpAny (model Challenge.rw_ny0115_01.row.prog w) (ktrTop dp un gd cn cs L a ccd cl outer) (call (.ref 79) [.str ⟨l.toArray⟩ tok]) Q E s := by
  w_on
  k_fill
  intro w mean mg mb news l tok dp un gd cn cs a ccd cl outer A₀ base h₀ L m s Q E B F KX N T hcs hdp hun hll htk ret
  rw [← esc_nil l]
  refine wpAny_call ?_
  k_dflt cell_enter
  have hL0 : (⟨(l.flatMap (escT ([]))).toArray⟩ : PySem.Str).length ≤ 1048576 := esc_bound l _ hll (by decide +kernel)
  k_steps
  refine Stop.mk ?_
  rename (0 < _) => hp
  rename Fr _ _ _ _ => eF
  rename News _ _ _ _ => eN
  refine cut_esc (l := l) (tab := []) 38 (Str.ofString "&amp;") eF eN hp ?ca0 ?cb0
  case ca0 =>
    by_cases hm : 38 ∈ l.flatMap (escT ([]))
    · have hdec := decide_eq_true hm
      refine wpAny_If ?_
      k_steps
      exact escPost_taken cAmp (by decide +kernel) (by assumption) (by assumption)
    · have hdec := decide_eq_false hm
      refine wpAny_If ?_
      k_steps
      exact escPost_not (by decide +kernel) hm (by assumption) rfl (by assumption)
  clear eF eN hp hL0
  intro t0 h0 tk0 hp0 F0 N0
  have hL1 : (⟨(l.flatMap (escT (([] ++ [(38, (Str.ofString "&amp;").cps.toList)])))).toArray⟩ : PySem.Str).length ≤ 1048576 := esc_bound l _ hll (by decide +kernel)
  k_steps
  refine Stop.mk ?_
  rename (0 < _) => hp
  rename Fr _ _ _ _ => eF
  rename News _ _ _ _ => eN
  refine cut_esc (l := l) (tab := ([] ++ [(38, (Str.ofString "&amp;").cps.toList)])) 60 (Str.ofString "&lt;") eF eN hp ?ca1 ?cb1
  case ca1 =>
    by_cases hm : 60 ∈ l.flatMap (escT (([] ++ [(38, (Str.ofString "&amp;").cps.toList)])))
    · have hdec := decide_eq_true hm
      refine wpAny_If ?_
      k_steps
      exact escPost_taken cLt (by decide +kernel) (by assumption) (by assumption)
    · have hdec := decide_eq_false hm
      refine wpAny_If ?_
      k_steps
      exact escPost_not (by decide +kernel) hm (by assumption) rfl (by assumption)
  clear eF eN hp hL1
  intro t1 h1 tk1 hp1 F1 N1
  have hL2 : (⟨(l.flatMap (escT ((([] ++ [(38, (Str.ofString "&amp;").cps.toList)]) ++ [(60, (Str.ofString "&lt;").cps.toList)])))).toArray⟩ : PySem.Str).length ≤ 1048576 := esc_bound l _ hll (by decide +kernel)
  k_steps
  refine Stop.mk ?_
  rename (0 < _) => hp
  rename Fr _ _ _ _ => eF
  rename News _ _ _ _ => eN
  refine cut_esc (l := l) (tab := (([] ++ [(38, (Str.ofString "&amp;").cps.toList)]) ++ [(60, (Str.ofString "&lt;").cps.toList)])) 62 (Str.ofString "&gt;") eF eN hp ?ca2 ?cb2
  case ca2 =>
    by_cases hm : 62 ∈ l.flatMap (escT ((([] ++ [(38, (Str.ofString "&amp;").cps.toList)]) ++ [(60, (Str.ofString "&lt;").cps.toList)])))
    · have hdec := decide_eq_true hm
      refine wpAny_If ?_
      k_steps
      exact escPost_taken cGt (by decide +kernel) (by assumption) (by assumption)
    · have hdec := decide_eq_false hm
      refine wpAny_If ?_
      k_steps
      exact escPost_not (by decide +kernel) hm (by assumption) rfl (by assumption)
  clear eF eN hp hL2
  intro t2 h2 tk2 hp2 F2 N2
  have hL3 : (⟨(l.flatMap (escT (((([] ++ [(38, (Str.ofString "&amp;").cps.toList)]) ++ [(60, (Str.ofString "&lt;").cps.toList)]) ++ [(62, (Str.ofString "&gt;").cps.toList)])))).toArray⟩ : PySem.Str).length ≤ 1048576 := esc_bound l _ hll (by decide +kernel)
  k_steps
  refine Stop.mk ?_
  rename (0 < _) => hp
  rename Fr _ _ _ _ => eF
  rename News _ _ _ _ => eN
  refine cut_esc (l := l) (tab := ((([] ++ [(38, (Str.ofString "&amp;").cps.toList)]) ++ [(60, (Str.ofString "&lt;").cps.toList)]) ++ [(62, (Str.ofString "&gt;").cps.toList)])) 13 (Str.ofString "&#xD;") eF eN hp ?ca3 ?cb3
  case ca3 =>
    by_cases hm : 13 ∈ l.flatMap (escT (((([] ++ [(38, (Str.ofString "&amp;").cps.toList)]) ++ [(60, (Str.ofString "&lt;").cps.toList)]) ++ [(62, (Str.ofString "&gt;").cps.toList)])))
    · have hdec := decide_eq_true hm
      refine wpAny_If ?_
      k_steps
      exact escPost_taken cCr (by decide +kernel) (by assumption) (by assumption)
    · have hdec := decide_eq_false hm
      refine wpAny_If ?_
      k_steps
      exact escPost_not (by decide +kernel) hm (by assumption) rfl (by assumption)
  clear eF eN hp hL3
  intro t3 h3 tk3 hp3 F3 N3
  k_steps
  exact ret _ _ _ (by assumption) (by assumption) (by assumption)
theorem esc_attrib_c14n : ∀ (w : World) (mean : ExcName → Option Value) (mg mb : PySem.Str → Option Value) (news : List (Addr × Obj)) (l : List Nat) (tok : Tok)
   (dp un : Nat) (gd : Option (List Code)) (cn : PySem.Str) (cs : Scope) (a : Addr) (ccd : Value) (cl : List (PySem.Str × Addr)) (outer : List Env) (A₀ : Around) (base h₀ : Heap) (L : Addr) (m : PySem.Str → Option Value) (s : Shared) (Q E : Value → Shared → Prop)
   (B : Below A₀ base outer h₀) (F : Fr h₀ L s.heap m) (KX : (MineH.hd.heap_39 w.params).In h₀) (N : News h₀ L s.heap news)
   (T : Top MineH.hd.view_39 (looseW MineH.hd.view_39 [Str.ofString "_twin_re_1", Str.ofString "_ver_stages"]) mean mg mb h₀) (hcs : cs.kind = .function)
   (hdp : dp + 1 < recursionLimit) (hun : un + 8 < cLine) (hll : l.length ≤ 100) (htk : 0 < s.toks)
   (ret : ∀ t h' tk, 0 < tk → Fr h₀ L h' m → News h₀ L h' news → Q (.str ⟨(l.flatMap (escT [(38, (Str.ofString "&amp;").cps.toList), (60, (Str.ofString "&lt;").cps.toList), (34, (Str.ofString "&quot;").cps.toList), (9, (Str.ofString "&#x9;").cps.toList), (10, (Str.ofString "&#xA;").cps.toList), (13, (Str.ofString "&#xD;").cps.toList)])).toArray⟩ t) { s with heap := h', toks := tk }),
   wpAny (model Challenge.rw_ny0115_01.row.prog w) (ktrTop dp un gd cn cs L a ccd cl outer) (call (.ref 86) [.str ⟨l.toArray⟩ tok]) Q E s := by
  w_on
  k_fill
  intro w mean mg mb news l tok dp un gd cn cs a ccd cl outer A₀ base h₀ L m s Q E B F KX N T hcs hdp hun hll htk ret
  rw [← esc_nil l]
  refine wpAny_call ?_
  k_dflt cell_enter
  have hL0 : (⟨(l.flatMap (escT ([]))).toArray⟩ : PySem.Str).length ≤ 1048576 := esc_bound l _ hll (by decide +kernel)
  k_steps
  refine Stop.mk ?_
  rename (0 < _) => hp
  rename Fr _ _ _ _ => eF
  rename News _ _ _ _ => eN
  refine cut_esc (l := l) (tab := []) 38 (Str.ofString "&amp;") eF eN hp ?ca0 ?cb0
  case ca0 =>
    by_cases hm : 38 ∈ l.flatMap (escT ([]))
    · have hdec := decide_eq_true hm
      refine wpAny_If ?_
      k_steps
      exact escPost_taken cAmp (by decide +kernel) (by assumption) (by assumption)
    · have hdec := decide_eq_false hm
      refine wpAny_If ?_
      k_steps
      exact escPost_not (by decide +kernel) hm (by assumption) rfl (by assumption)
  clear eF eN hp hL0
  intro t0 h0 tk0 hp0 F0 N0
  have hL1 : (⟨(l.flatMap (escT (([] ++ [(38, (Str.ofString "&amp;").cps.toList)])))).toArray⟩ : PySem.Str).length ≤ 1048576 := esc_bound l _ hll (by decide +kernel)
  k_steps
  refine Stop.mk ?_
  rename (0 < _) => hp
  rename Fr _ _ _ _ => eF
  rename News _ _ _ _ => eN
  refine cut_esc (l := l) (tab := ([] ++ [(38, (Str.ofString "&amp;").cps.toList)])) 60 (Str.ofString "&lt;") eF eN hp ?ca1 ?cb1
  case ca1 =>
    by_cases hm : 60 ∈ l.flatMap (escT (([] ++ [(38, (Str.ofString "&amp;").cps.toList)])))
    · have hdec := decide_eq_true hm
      refine wpAny_If ?_
      k_steps
      exact escPost_taken cLt (by decide +kernel) (by assumption) (by assumption)
    · have hdec := decide_eq_false hm
      refine wpAny_If ?_
      k_steps
      exact escPost_not (by decide +kernel) hm (by assumption) rfl (by assumption)
  clear eF eN hp hL1
  intro t1 h1 tk1 hp1 F1 N1
  have hL2 : (⟨(l.flatMap (escT ((([] ++ [(38, (Str.ofString "&amp;").cps.toList)]) ++ [(60, (Str.ofString "&lt;").cps.toList)])))).toArray⟩ : PySem.Str).length ≤ 1048576 := esc_bound l _ hll (by decide +kernel)
  k_steps
  refine Stop.mk ?_
  rename (0 < _) => hp
  rename Fr _ _ _ _ => eF
  rename News _ _ _ _ => eN
  refine cut_esc (l := l) (tab := (([] ++ [(38, (Str.ofString "&amp;").cps.toList)]) ++ [(60, (Str.ofString "&lt;").cps.toList)])) 34 (Str.ofString "&quot;") eF eN hp ?ca2 ?cb2
  case ca2 =>
    by_cases hm : 34 ∈ l.flatMap (escT ((([] ++ [(38, (Str.ofString "&amp;").cps.toList)]) ++ [(60, (Str.ofString "&lt;").cps.toList)])))
    · have hdec := decide_eq_true hm
      refine wpAny_If ?_
      k_steps
      exact escPost_taken cQuot (by decide +kernel) (by assumption) (by assumption)
    · have hdec := decide_eq_false hm
      refine wpAny_If ?_
      k_steps
      exact escPost_not (by decide +kernel) hm (by assumption) rfl (by assumption)
  clear eF eN hp hL2
  intro t2 h2 tk2 hp2 F2 N2
  have hL3 : (⟨(l.flatMap (escT (((([] ++ [(38, (Str.ofString "&amp;").cps.toList)]) ++ [(60, (Str.ofString "&lt;").cps.toList)]) ++ [(34, (Str.ofString "&quot;").cps.toList)])))).toArray⟩ : PySem.Str).length ≤ 1048576 := esc_bound l _ hll (by decide +kernel)
  k_steps
  refine Stop.mk ?_
  rename (0 < _) => hp
  rename Fr _ _ _ _ => eF
  rename News _ _ _ _ => eN
  refine cut_esc (l := l) (tab := ((([] ++ [(38, (Str.ofString "&amp;").cps.toList)]) ++ [(60, (Str.ofString "&lt;").cps.toList)]) ++ [(34, (Str.ofString "&quot;").cps.toList)])) 9 (Str.ofString "&#x9;") eF eN hp ?ca3 ?cb3
  case ca3 =>
    by_cases hm : 9 ∈ l.flatMap (escT (((([] ++ [(38, (Str.ofString "&amp;").cps.toList)]) ++ [(60, (Str.ofString "&lt;").cps.toList)]) ++ [(34, (Str.ofString "&quot;").cps.toList)])))
    · have hdec := decide_eq_true hm
      refine wpAny_If ?_
      k_steps
      exact escPost_taken cTab (by decide +kernel) (by assumption) (by assumption)
    · have hdec := decide_eq_false hm
      refine wpAny_If ?_
      k_steps
      exact escPost_not (by decide +kernel) hm (by assumption) rfl (by assumption)
  clear eF eN hp hL3
  intro t3 h3 tk3 hp3 F3 N3
  have hL4 : (⟨(l.flatMap (escT ((((([] ++ [(38, (Str.ofString "&amp;").cps.toList)]) ++ [(60, (Str.ofString "&lt;").cps.toList)]) ++ [(34, (Str.ofString "&quot;").cps.toList)]) ++ [(9, (Str.ofString "&#x9;").cps.toList)])))).toArray⟩ : PySem.Str).length ≤ 1048576 := esc_bound l _ hll (by decide +kernel)
  k_steps
  refine Stop.mk ?_
  rename (0 < _) => hp
  rename Fr _ _ _ _ => eF
  rename News _ _ _ _ => eN
  refine cut_esc (l := l) (tab := (((([] ++ [(38, (Str.ofString "&amp;").cps.toList)]) ++ [(60, (Str.ofString "&lt;").cps.toList)]) ++ [(34, (Str.ofString "&quot;").cps.toList)]) ++ [(9, (Str.ofString "&#x9;").cps.toList)])) 10 (Str.ofString "&#xA;") eF eN hp ?ca4 ?cb4
  case ca4 =>
    by_cases hm : 10 ∈ l.flatMap (escT ((((([] ++ [(38, (Str.ofString "&amp;").cps.toList)]) ++ [(60, (Str.ofString "&lt;").cps.toList)]) ++ [(34, (Str.ofString "&quot;").cps.toList)]) ++ [(9, (Str.ofString "&#x9;").cps.toList)])))
    · have hdec := decide_eq_true hm
      refine wpAny_If ?_
      k_steps
      exact escPost_taken cNl (by decide +kernel) (by assumption) (by assumption)
    · have hdec := decide_eq_false hm
      refine wpAny_If ?_
      k_steps
      exact escPost_not (by decide +kernel) hm (by assumption) rfl (by assumption)
  clear eF eN hp hL4
  intro t4 h4 tk4 hp4 F4 N4
  have hL5 : (⟨(l.flatMap (escT (((((([] ++ [(38, (Str.ofString "&amp;").cps.toList)]) ++ [(60, (Str.ofString "&lt;").cps.toList)]) ++ [(34, (Str.ofString "&quot;").cps.toList)]) ++ [(9, (Str.ofString "&#x9;").cps.toList)]) ++ [(10, (Str.ofString "&#xA;").cps.toList)])))).toArray⟩ : PySem.Str).length ≤ 1048576 := esc_bound l _ hll (by decide +kernel)
  k_steps
  refine Stop.mk ?_
  rename (0 < _) => hp
  rename Fr _ _ _ _ => eF
  rename News _ _ _ _ => eN
  refine cut_esc (l := l) (tab := ((((([] ++ [(38, (Str.ofString "&amp;").cps.toList)]) ++ [(60, (Str.ofString "&lt;").cps.toList)]) ++ [(34, (Str.ofString "&quot;").cps.toList)]) ++ [(9, (Str.ofString "&#x9;").cps.toList)]) ++ [(10, (Str.ofString "&#xA;").cps.toList)])) 13 (Str.ofString "&#xD;") eF eN hp ?ca5 ?cb5
  case ca5 =>
    by_cases hm : 13 ∈ l.flatMap (escT (((((([] ++ [(38, (Str.ofString "&amp;").cps.toList)]) ++ [(60, (Str.ofString "&lt;").cps.toList)]) ++ [(34, (Str.ofString "&quot;").cps.toList)]) ++ [(9, (Str.ofString "&#x9;").cps.toList)]) ++ [(10, (Str.ofString "&#xA;").cps.toList)])))
    · have hdec := decide_eq_true hm
      refine wpAny_If ?_
      k_steps
      exact escPost_taken cCr (by decide +kernel) (by assumption) (by assumption)
    · have hdec := decide_eq_false hm
      refine wpAny_If ?_
      k_steps
      exact escPost_not (by decide +kernel) hm (by assumption) rfl (by assumption)
  clear eF eN hp hL5
  intro t5 h5 tk5 hp5 F5 N5
  k_steps
  exact ret _ _ _ (by assumption) (by assumption) (by assumption)
end Mine
end

/-! ## Last -/
section
set_option maxRecDepth 100000
open PySem PySem.Calls PyProof.Rows PySem.W
set_option autoImplicit false
namespace Mine
section
variable {prog : Program} {w : World} {A : Around} {E : Value → Shared → Prop} {s : Shared} {h₀ : Heap} {L D : Addr} {m : PySem.Str → Option Value} {pre post : List (Addr × Obj)} {xs : List Value} {v0 v : Value} {n : Nat} {t : Tok}
theorem read_last {value slice : Expr} {Q : Value → Shared → Prop} (N : News h₀ L s.heap (pre ++ (D, W.listOf (xs ++ [v0]).toArray n) :: post)) (h : Q v0 s)
    (hs : subscripted slice false (.ref D) (.int (-1) t) = operate [.ref D, .int (-1) t] (getItem (.ref D) (.int (-1) t)) := by with_unfolding_all rfl) :
    wpAny (model prog w) A (subscriptTail value slice (.ref D) (.int (-1) t)) Q E s := by
  have hl : s.heap.IsList D (xs ++ [v0]).toArray := ⟨_, (N _ (List.mem_append_right _ (.head _))).1, rfl, n, rfl⟩
  refine tail_any hl.typeIs slot_list_getitem.lookup (wpAny_getItem_list_neg hl (by decide) (by simp; omega) (by decide) ?_ h) hs
  have : ((-1 : Int) + ((xs ++ [v0]).toArray.size : Int)).toNat = xs.length := by simp; omega
  rw [this]
  simp
theorem set_last {Q : Unit → Shared → Prop} (F : Fr h₀ L s.heap m) (N : News h₀ L s.heap (pre ++ (D, W.listOf (xs ++ [v0]).toArray n) :: post)) (a : ∀ p ∈ pre, p.1 ≠ D) (c : ∀ p ∈ post, p.1 ≠ D)
    (h : ∀ h', Fr h₀ L h' m → News h₀ L h' (pre ++ (D, W.listOf (xs ++ [v]).toArray n) :: post) → Q () { s with heap := h' }) :
    wpAny (model prog w) A (setItem (.ref D) (.int (-1) t) v) Q E s := by
  have z := N _ (List.mem_append_right pre (.head _))
  have hl : s.heap.IsList D (xs ++ [v0]).toArray := ⟨_, z.1, rfl, n, rfl⟩
  have ho := z.1
  have hd : (W.listOf (xs ++ [v0]).toArray n).data = .seq (xs ++ [v0]).toArray n := rfl
  unfold setItem
  try with_reducible refine wpAny_holding ?_
  first | refine wpAny_bind (wpAny_pure ?_) | skip
  refine wpAny_bind (wpAny_sequenceKey hl.typeIs (by decide) ?_)
  refine wpAny_bind (wpAny_callSpecial?_slot (name := Str.ofString "__setitem__") hl.typeIs slot_list_setitem
    (wpAny_call_entry slot_list_setitem hl.typeIs entry_list_setitem ?_ (args_list_setitem _ _ _)))
  show wpAny _ _ (Builtin.List.listSubscript? (.int (-1) t) >>= _) _ _ s
  refine wpAny_bind (wpAny_listSubscript_int (fitsIndex_neg (by decide) (by decide)) ?_)
  have hidx := seqIndex_neg (k := -1) (n := (xs ++ [v0]).toArray.size) (by decide) (by simp; omega)
  have hi : ((-1 : Int) + ((xs ++ [v0]).toArray.size : Int)).toNat = xs.length := by simp; omega
  rw [hi] at hidx
  have hx : (xs ++ [v0]).toArray[xs.length]? = some v0 := by simp
  show wpAny _ _ ((Builtin.List.listItems (.ref D) >>= fun xs => pure ((seqIndex? (Int.negSucc 0) xs.size).bind fun i => xs[i]?.map (i, ·))) >>= _) _ _ s
  refine wpAny_bind (wpAny_bind ?_)
  show wpAny _ _ (seqItems? (.ref D) >>= _) _ _ s
  refine wpAny_bind (wpAny_seqItems ho hd (wpAny_pure (wpAny_pure ?_)))
  rw [show seqIndex? (Int.negSucc 0) (xs ++ [v0]).toArray.size = some xs.length from hidx]
  simp only [Option.bind_some, hx, Option.map_some]
  show wpAny _ _ (setSeqItemAt D xs.length v >>= _) _ _ s
  have hf : (xs ++ [v0]).toArray.setIfInBounds xs.length v = (xs ++ [v]).toArray := by simp
  have N' := kl_turn0 (fun a => a.setIfInBounds xs.length v) N a c hf (by simp)
  have F' := F.change (Heap.SameBut.update (h := s.heap) (a := D) (f := Obj.mapSeq fun a => a.setIfInBounds xs.length v)) z.2.1 z.2.2
  refine wpAny_bind (wpAny_setSeqItemAt ho hd ?_)
  first
    | exact wpAny_bind (wpAny_pure (wpAny_pure ⟨.none, rfl, wpAny_pure (h _ F' N')⟩))
    | exact wpAny_pure ⟨.none, rfl, wpAny_pure (h _ F' N')⟩
theorem app_last {Q : Value → Shared → Prop} {us : List Value} (F : Fr h₀ L s.heap m) (N : News h₀ L s.heap (pre ++ (D, W.listOf us.toArray n) :: post)) (a : ∀ p ∈ pre, p.1 ≠ D) (c : ∀ p ∈ post, p.1 ≠ D) (hsz : us.length ≤ 1000)
    (h : ∀ h', Fr h₀ L h' m → News h₀ L h' (pre ++ (D, W.listOf (us ++ [v]).toArray (n + 1)) :: post) → Q .none { s with heap := h' }) :
    wpAny (model prog w) A (call (.builtin "list.append") [.ref D, v]) Q E s := by
  have U : Upd D (W.listOf us.toArray n) (W.listOf (us.toArray.push v) (n + 1)) (pre ++ (D, W.listOf us.toArray n) :: post) (pre ++ (D, W.listOf (us.toArray.push v) (n + 1)) :: post) := by
    clear N h F
    induction pre with
    | nil => exact .head c
    | cons p r ih => exact .tail (a p (.head _)) (ih fun q hq => a q (.tail _ hq))
  refine append_K F N U (fun h' F' N' => h h' F' ?_) (by rw [List.size_toArray, sizeLine_eq]; omega)
  have e : us.toArray.push v = (us ++ [v]).toArray := by simp
  rw [e] at N'
  exact N'
end
end Mine
end

/-! ## Runs1 -/
section
open PySem PySem.W PyProof.Rows
set_option maxRecDepth 100000
set_option maxHeartbeats 8000000
set_option autoImplicit false
namespace Mine
structure RunSt where
  vs : List Value
  k : Nat
  ah : Nat
  ta : Tok
def curK : Option Itm → Nat
  | none => 0
  | some (.num _) => 1
  | some (.txt _) => 2
def numBound (n : Nat) : Option Itm → Prop
  | some (.num v) => v < 10 ^ n
  | some (.txt l) => l.length ≤ n
  | none => True
def RunP (pre : List Int) (c : RunSt) : Prop :=
  ∃ dn cur, ItmsOf c.vs (dn ++ curL cur) ∧ c.ah = curK cur ∧ (∀ rest, go none (pre.map Int.toNat ++ rest) = dn ++ go cur rest) ∧ (dn ++ curL cur).length ≤ pre.length ∧ numBound pre.length cur

theorem codes_back (l : List Nat) : (l.map fun (c : Nat) => (c : Int)).map Int.toNat = l := by
  rw [List.map_map]
  exact (List.map_congr_left (g := _root_.id) fun c _ => Int.toNat_natCast c).trans (List.map_id _)
theorem ItmsOf.snoc_inv {vs : List Value} {is : List Itm} {x : Itm} (h : ItmsOf vs (is ++ [x])) : ∃ vs0 v0, vs = vs0 ++ [v0] ∧ ItmsOf vs0 is ∧ ItmsOf [v0] [x] := by
  induction is generalizing vs with
  | nil =>
    cases h with
    | num n t h' => cases h'; exact ⟨[], _, rfl, .nil, .num n t .nil⟩
    | txt l t h' => cases h'; exact ⟨[], _, rfl, .nil, .txt l t .nil⟩
  | cons y is ih =>
    cases h with
    | num n t h' => obtain ⟨a, b, rfl, h1, h2⟩ := ih h'; exact ⟨_ :: a, b, rfl, .num n t h1, h2⟩
    | txt l t h' => obtain ⟨a, b, rfl, h1, h2⟩ := ih h'; exact ⟨_ :: a, b, rfl, .txt l t h1, h2⟩
theorem ItmsOf.snoc_num {vs : List Value} {is : List Itm} {n : Nat} (h : ItmsOf vs (is ++ [.num n])) : ∃ vs0 t0, vs = vs0 ++ [.int n t0] ∧ ItmsOf vs0 is := by
  obtain ⟨vs0, v0, rfl, h0, h1⟩ := h.snoc_inv
  cases h1 with
  | num _ t0 h2 => exact ⟨vs0, t0, rfl, h0⟩
theorem ItmsOf.snoc_txt {vs : List Value} {is : List Itm} {l : List Nat} (h : ItmsOf vs (is ++ [.txt l])) : ∃ vs0 t0, vs = vs0 ++ [.str ⟨l.toArray⟩ t0] ∧ ItmsOf vs0 is := by
  obtain ⟨vs0, v0, rfl, h0, h1⟩ := h.snoc_inv
  cases h1 with
  | txt _ t0 h2 => exact ⟨vs0, t0, rfl, h0⟩
theorem digs_cps : (Str.ofString "0123456789").cps.toList = [48, 49, 50, 51, 52, 53, 54, 55, 56, 57] := by decide +kernel
theorem isSep_of {c : Nat} (h : kindOf c = 0) : decide (c ∈ (Str.ofString "._+-").cps.toList) = true := by
  rw [show (Str.ofString "._+-").cps.toList = [46, 95, 43, 45] from seps_cps, decide_eq_true_eq]
  unfold kindOf at h
  split at h
  · simp; omega
  · split at h <;> omega
theorem notSep_of {c : Nat} (h : kindOf c ≠ 0) : decide (c ∈ (Str.ofString "._+-").cps.toList) = false := by
  rw [show (Str.ofString "._+-").cps.toList = [46, 95, 43, 45] from seps_cps, decide_eq_false_iff_not]
  intro hm
  apply h
  unfold kindOf
  rw [if_pos (by simpa using hm)]
theorem isDig_of {c : Nat} (h : kindOf c = 1) : decide (c ∈ (Str.ofString "0123456789").cps.toList) = true := by
  rw [digs_cps, decide_eq_true_eq]
  unfold kindOf at h
  split at h
  · omega
  · split at h
    · simp; omega
    · omega
theorem notDig_of {c : Nat} (h : kindOf c = 2) : decide (c ∈ (Str.ofString "0123456789").cps.toList) = false := by
  rw [digs_cps, decide_eq_false_iff_not]
  intro hm
  unfold kindOf at h
  split at h
  · omega
  · split at h
    · omega
    · simp at hm; omega
theorem in_one {prog : Program} {w : World} {A : Around} {E : Value → Shared → Prop} {s : Shared} {X : PySem.Str} {c : Nat} {t u : Tok} {b : Bool} {Q : Value → Shared → Prop} (e : decide (c ∈ X.cps.toList) = b) (h : Q (.bool b) s) :
    wpAny (model prog w) A (compareOp .In (.str ⟨#[c]⟩ u) (.str X t)) Q E s := in_str (by rw [StrLaws.found_one, e]; exact h)
local macro_rules | `(tactic| walk_at "compareOp In str str") => `(tactic| (k_here; refine in_one (by assumption) ?_))
local macro_rules | `(tactic| walk_at "subscriptTail Name UnaryOp ref int") => `(tactic| (k_here; k_dflt (refine read_last (pre := []) (by k_asm) ?_)))
local macro_rules | `(tactic| walk_at "subscriptTail") => `(tactic| (k_here; refine read_last (pre := []) (by k_asm) ?_))
local macro_rules | `(tactic| walk_at "setItem ref int") => `(tactic| (k_here; refine set_last (pre := []) (by k_asm) (by k_asm) (by simp) (by assumption) ?_; intro h' F' N'))
theorem dig_occ10 : ∀ d : Fin 10, Builtin.Str.occurrences (Str.ofString "0123456789") ⟨#[48 + d.val]⟩ 0 (Str.ofString "0123456789").length 1 = [d.val] := by decide +kernel
theorem dig_occ {c : Nat} (h : kindOf c = 1) : Builtin.Str.occurrences (Str.ofString "0123456789") ⟨#[c]⟩ 0 (Str.ofString "0123456789").length 1 = [c - 48] := by
  have hr : 48 ≤ c ∧ c ≤ 57 := by
    unfold kindOf at h
    split at h
    · omega
    · split at h
      · assumption
      · omega
  have := dig_occ10 ⟨c - 48, by omega⟩
  simp only [show 48 + (c - 48) = c by omega] at this
  exact this
local macro_rules | `(tactic| walk_at "call builtin:str.index") => `(tactic| (k_here; refine SC.index (dig_occ (by assumption)) ?_))
theorem ItmsOf.one_num {i : Int} {n : Nat} {t : Tok} (h : i = (n : Int)) : ItmsOf [.int i t] [.num n] := by subst h; exact .num n t .nil
theorem ItmsOf.one_txt {x : PySem.Str} {l : List Nat} {t : Tok} (h : x = ⟨l.toArray⟩) : ItmsOf [.str x t] [.txt l] := by subst h; exact .txt l t .nil
theorem nextN_none (n : Nat) : nextN none n = n - 48 := by show 0 * 10 + (n - 48) = _; omega
theorem nextN_txt (s : List Nat) (n : Nat) : nextN (some (.txt s)) n = n - 48 := by show 0 * 10 + (n - 48) = _; omega
theorem nextN_num (v n : Nat) : nextN (some (.num v)) n = v * 10 + (n - 48) := rfl
theorem bound_small {n k : Nat} (h : n ≤ 57) : n - 48 < 10 ^ (k + 1) := by
  have : 0 < 10 ^ k := Nat.pow_pos (by decide)
  rw [Nat.pow_succ]
  omega
theorem bound_num {v n k : Nat} (h : n ≤ 57) (hv : v < 10 ^ k) : v * 10 + (n - 48) < 10 ^ (k + 1) := by
  rw [Nat.pow_succ]
  omega
theorem str_app (a b : List Nat) : (⟨a.toArray⟩ : PySem.Str) ++ ⟨b.toArray⟩ = ⟨(a ++ b).toArray⟩ := PySem.Str.ext' (by rw [PySem.Str.cps_append]; simp)
theorem str_snoc (s : List Nat) (n : Nat) : (⟨s.toArray⟩ : PySem.Str) ++ ⟨#[n]⟩ = ⟨(s ++ [n]).toArray⟩ := str_app s [n]
theorem pre_snoc (pre : List Int) (n : Nat) (rest : List Nat) : (pre ++ [(n : Int)]).map Int.toNat ++ rest = pre.map Int.toNat ++ n :: rest := by simp
theorem runP_sep {pre : List Int} {vs : List Value} {dn : List Itm} {cur : Option Itm} {n : Nat} {k : Nat} {t : Tok} (hk : kindOf n = 0) (hvs : ItmsOf vs (dn ++ curL cur)) (hgo : ∀ rest, go none (pre.map Int.toNat ++ rest) = dn ++ go cur rest)
    (hlen : (dn ++ curL cur).length ≤ pre.length) : RunP (pre ++ [(n : Int)]) ⟨vs, k, 0, t⟩ :=
  ⟨dn ++ curL cur, none, by simpa [curL] using hvs, rfl, fun rest => by rw [pre_snoc, hgo, go_sep _ _ _ hk, List.append_assoc], by simp [curL] at hlen ⊢; omega, trivial⟩
theorem runP_dig {pre : List Int} {vs : List Value} {dn : List Itm} {cur : Option Itm} {n : Nat} {k : Nat} {t : Tok} (hk : kindOf n = 1) (hvs : ItmsOf vs ((dn ++ leftN cur) ++ [.num (nextN cur n)])) (hgo : ∀ rest, go none (pre.map Int.toNat ++ rest) = dn ++ go cur rest)
    (hlen : (dn ++ leftN cur).length ≤ pre.length) (hb : nextN cur n < 10 ^ (pre.length + 1)) : RunP (pre ++ [(n : Int)]) ⟨vs, k, 1, t⟩ :=
  ⟨dn ++ leftN cur, some (.num (nextN cur n)), hvs, rfl, fun rest => by rw [pre_snoc, hgo, go_dig _ _ _ hk, List.append_assoc], by simp [curL] at hlen ⊢; omega, by simpa [numBound] using hb⟩
theorem runP_oth {pre : List Int} {vs : List Value} {dn : List Itm} {cur : Option Itm} {n : Nat} {k : Nat} {t : Tok} (hk : kindOf n = 2) (hvs : ItmsOf vs ((dn ++ leftT cur) ++ [.txt (nextT cur n)])) (hgo : ∀ rest, go none (pre.map Int.toNat ++ rest) = dn ++ go cur rest)
    (hlen : (dn ++ leftT cur).length ≤ pre.length) (hb : (nextT cur n).length ≤ pre.length + 1) : RunP (pre ++ [(n : Int)]) ⟨vs, k, 2, t⟩ :=
  ⟨dn ++ leftT cur, some (.txt (nextT cur n)), hvs, rfl, fun rest => by rw [pre_snoc, hgo, go_oth _ _ _ hk, List.append_assoc], by simp [curL] at hlen ⊢; omega, by simpa [numBound] using hb⟩
theorem run_end {g h' : Heap} {L r : Addr} {m' m₀ : PySem.Str → Option Value} {news own : List (Addr × Obj)} {pre : List Int} {s₁ : Shared} {tk : Nat} {vs' : List Value} {k' ah' : Nat} {ta' : Tok}
    (F : Fr g L h' m') (N : News g L h' ((r, W.listOf vs'.toArray k') :: (news ++ own))) (hm : m' (Str.ofString "ahead") = some (.int ah' ta'))
    (hr : ∀ z, z ≠ Str.ofString "sign" → z ≠ Str.ofString "ahead" → [Str.ofString "kind"].contains z = false → m' z = m₀ z) (hP : RunP pre ⟨vs', k', ah', ta'⟩) :
    InvEndN g L (KstS (fun c : RunSt => (r, W.listOf c.vs.toArray c.k) :: news) (fun c => [(Str.ofString "ahead", .int c.ah c.ta)]) (fun _ => True) (Str.ofString "sign") [Str.ofString "kind"] m₀ RunP pre) own (r :: news.map (·.1)) s₁ { s₁ with heap := h', toks := tk } :=
  kst_end (⟨vs', k', ah', ta'⟩ : RunSt) F N (fun p hp => by
      rcases List.mem_cons.mp hp with h | h
      · exact h ▸ .head _
      · exact .tail _ (List.mem_append_left _ h)) (fun p hp => .tail _ (List.mem_append_right _ hp)) rfl trivial (fun p hp => by rw [List.mem_singleton.mp hp]; exact hm)
    (fun z h1 h2 h3 => hr z h1 (h2 _ (.head _)) h3) hP
local macro_rules | `(tactic| walk_at "call builtin:list.append") => `(tactic| (k_here; refine app_last (pre := []) (by k_asm) (by k_asm) (by simp) (by assumption) (by assumption) ?_; intro h' F' N'))
local macro_rules | `(tactic| walk_at "runframe") => `(tactic| (intro z hz1 hz2 hz3; (have hz4 : z ≠ Str.ofString "kind" := (by simpa using hz3)); simp only [if_neg hz1, if_neg hz2, if_neg hz4, hz3, kstB, Bool.false_eq_true, if_false]))
local macro_rules | `(tactic| walk_at "pyIter str") => `(tactic| (k_here; refine Stop.out ?_))
local macro_rules | `(tactic| walk_at "exec For") => `(tactic| (k_here; refine Stop.out ?_))
local macro_rules | `(tactic| walk_at "exec For Name Name cons nil") => `(tactic| (k_here; refine Stop.out ?_))
theorem runs_c : ∀ (w : World) (mean : ExcName → Option Value) (mg mb : PySem.Str → Option Value) (news : List (Addr × Obj)) (l : List Nat) (tok : Tok)
   (dp un : Nat) (gd : Option (List Code)) (cn : PySem.Str) (cs : Scope) (a : Addr) (ccd : Value) (cl : List (PySem.Str × Addr)) (outer : List Env) (A₀ : Around) (base h₀ : Heap) (L : Addr) (m : PySem.Str → Option Value) (s : Shared) (Q E : Value → Shared → Prop)
   (B : Below A₀ base outer h₀) (F : Fr h₀ L s.heap m) (KX : (MineH.hd.heap_39 w.params).In h₀) (N : News h₀ L s.heap news)
   (T : Top MineH.hd.view_39 (looseW MineH.hd.view_39 [Str.ofString "_twin_re_1", Str.ofString "_ver_stages"]) mean mg mb h₀) (hcs : cs.kind = .function)
   (hdp : dp + 1 < recursionLimit) (hun : un + 8 < cLine) (hll : l.length ≤ 100)
   (ret : ∀ r vs k h' tk, ItmsOf vs (go none l) → Fr h₀ L h' m → News h₀ L h' ((r, W.listOf vs.toArray k) :: news) → (∀ p ∈ news, p.1 < r) → Q (.ref r) { s with heap := h', toks := tk }),
   wpAny (model Challenge.rw_ny0115_01.row.prog w) (ktrTop dp un gd cn cs L a ccd cl outer) (call (.ref 100) [.str ⟨l.toArray⟩ tok]) Q E s := by
  w_on
  k_fill
  intro w mean mg mb news l tok dp un gd cn cs a ccd cl outer A₀ base h₀ L m s Q E B F KX N T hcs hdp hun hll ret
  refine wpAny_call ?_
  k_dflt cell_enter
  k_steps
  refine Stop.mk ?_
  rename Fr _ _ _ _ => F2
  rename News _ _ _ _ => N2
  refine For_invVF F2 rfl rfl ?_
  k_steps
  refine Stop.mk ?_
  rename_i g' L' _ FG' B' X' T' r' _ l1 _ _
  have hcodes : KStt.codes ⟨l.toArray⟩ = l.map fun (c : Nat) => (c : Int) := rfl
  refine KStt.kst_text (fun c : RunSt => (r', W.listOf c.vs.toArray c.k) :: news) (fun c => [(Str.ofString "ahead", .int c.ah c.ta)]) (fun _ => True) [Str.ofString "kind"] RunP ⟨[], 0, 0, tk + 1⟩ rfl F2 N2 trivial ?hk ?hp ?turn ?done
  case hk => exact fun p hp => by rw [List.mem_singleton.mp hp]; rfl
  case hp => exact ⟨[], none, .nil, rfl, fun rest => rfl, Nat.le_refl _, trivial⟩
  case done =>
    rintro c u h tk _ ⟨dn, cur, hvs, hah, hgo, hlen, hnb⟩ F3 N3
    k_steps
    rename News _ _ _ _ => kN
    rename Fr _ _ _ _ => kF
    have e := hgo []
    rw [hcodes, codes_back, List.append_nil] at e
    refine ret r' c.vs c.k h tk ?_ kF kN l1
    rw [e]; exact hvs
  case turn =>
    rintro ⟨vs, k, ah, ta⟩ pre post n t u h tk own hsp hoff _ ⟨dn, cur, hvs, hah, hgo, hlen, hnb⟩ F3 N3
    dsimp only at *
    simp only [List.cons_append] at N3
    have hrest : ∀ q ∈ news ++ own, q.1 ≠ r' := fun q hq => (List.mem_append.mp hq).elim (fun h => Nat.ne_of_lt (l1 q h)) fun h => hoff q h r' (.head _)
    have hpl : pre.length < 100 := by
      have := congrArg List.length hsp
      rw [hcodes, List.length_map, List.length_append, List.length_cons] at this
      omega
    have hvl := hvs.length
    have hvsl : vs.length ≤ 1000 := by omega
    rcases kind_cases n with hk | hk | hk
    · have e1 := isSep_of hk
      k_steps
      exact run_end (by assumption) (by assumption) rfl (by walk_at "runframe") (runP_sep hk hvs hgo hlen)
    · have e1 := notSep_of (c := n) (by omega)
      have e2 := isDig_of hk
      have hr : 48 ≤ n ∧ n ≤ 57 := by
        unfold kindOf at hk
        split at hk
        · omega
        · split at hk
          · assumption
          · omega
      rcases cur with _ | (v | sx)
      · obtain rfl : ah = 0 := hah
        have h0 : ItmsOf vs dn := by simpa [curL] using hvs
        k_steps
        refine run_end (by assumption) (by assumption) rfl (by walk_at "runframe") (runP_dig hk ?_ hgo (by simpa [curL, leftN] using hlen) (by rw [nextN_none]; exact bound_small hr.2))
        rw [nextN_none, show leftN none = [] from rfl, List.append_nil]
        exact h0.append (.one_num (by omega))
      · obtain rfl : ah = 1 := hah
        obtain ⟨vs0, t0, rfl, h0⟩ := hvs.snoc_num
        have hb : v < 10 ^ pre.length := hnb
        k_steps
        refine run_end (by assumption) (by assumption) rfl (by walk_at "runframe") (runP_dig hk ?_ hgo (by simp [curL, leftN] at hlen ⊢; omega) (by rw [nextN_num]; exact bound_num hr.2 hb))
        rw [nextN_num, show leftN (some (.num v)) = [] from rfl, List.append_nil]
        exact h0.append (.one_num (by omega))
      · obtain rfl : ah = 2 := hah
        k_steps
        refine run_end (by assumption) (by assumption) rfl (by walk_at "runframe") (runP_dig hk ?_ hgo (by simpa [curL, leftN] using hlen) (by rw [nextN_txt]; exact bound_small hr.2))
        rw [nextN_txt]
        exact hvs.append (.one_num (by omega))
    · have e1 := notSep_of (c := n) (by omega)
      have e2 := notDig_of hk
      rcases cur with _ | (v | sx)
      · obtain rfl : ah = 0 := hah
        have h0 : ItmsOf vs dn := by simpa [curL] using hvs
        k_steps
        refine run_end (by assumption) (by assumption) rfl (by walk_at "runframe") (runP_oth hk ?_ hgo (by simpa [curL, leftT] using hlen) (Nat.le_add_left 1 _))
        simp only [leftT, List.append_nil]
        exact h0.append (.one_txt (by rfl))
      · obtain rfl : ah = 1 := hah
        k_steps
        refine run_end (by assumption) (by assumption) rfl (by walk_at "runframe") (runP_oth hk ?_ hgo (by simpa [curL, leftT] using hlen) (Nat.le_add_left 1 _))
        exact hvs.append (.one_txt (by rfl))
      · obtain rfl : ah = 2 := hah
        obtain ⟨vs0, t0, rfl, h0⟩ := hvs.snoc_txt
        have hsx : sx.length ≤ pre.length := hnb
        have hsl : (⟨sx.toArray⟩ : PySem.Str).length ≤ 1000 := by show sx.toArray.size ≤ 1000; rw [List.size_toArray]; omega
        k_steps
        refine run_end (by assumption) (by assumption) rfl (by walk_at "runframe") (runP_oth hk ?_ hgo (by simp [curL, leftT] at hlen ⊢; omega) (by simp [nextT]; omega))
        simp only [leftT, List.append_nil]
        exact h0.append (.one_txt (str_snoc sx n))
end Mine
end

/-! ## LoopD -/
section
set_option maxRecDepth 100000
open PySem PySem.Calls PyProof.Rows PySem.W
set_option autoImplicit false
namespace Mine
section
variable {prog : Program} {w : World} {A : Around} {E : Value → Shared → Prop} {s : Shared} {env : Env} {h₀ : Heap} {x : PySem.Str} {px : Pos} {body : List Stmt} {R : Result → Shared → Prop}

/-- the loop with any walk whose iterator alone is written -/
theorem forC_walk {I : Addr} {fp : List Addr} {n : Nat} {P : Nat → Value → Prop} {St : Nat → Heap → Prop} {m₀ : PySem.Str → Option Value} {news : List (Addr × Obj)} (stored : List PySem.Str) (J : Nat → List (Addr × Obj) → Prop)
    (W : Walks prog w A I fp [I] n P St) (hLI : env.locals ≠ I) (hLf : env.locals ∉ fp) (hIn : h₀.get? I = none) (hfp : ∀ b ∈ fp, b = I ∨ ∃ o, h₀.get? b = some o) (hob : ∀ i h, St i h → ∃ o, h.get? I = some o)
    (hst : St 0 s.heap) (F : Fr h₀ env.locals s.heap m₀) (N : News h₀ env.locals s.heap news) (hoff0 : ∀ p ∈ news, p.1 ≠ I) (hj : J 0 news)
    (hx : env.kindOf x = some .local) (hp : (env.scope.kind == .class || (env.scope.kind == .module && env.locals != env.globals)) = false)
    (turn : ∀ i v (u : PySem.Str → Option Value) news₁ h tk own, i < n → P i v → OwnOff own (news₁.map (·.1)) → J i news₁ → Fr h₀ env.locals h (fun y => if y = x then some v else if stored.contains y then u y else m₀ y) → News h₀ env.locals h (news₁ ++ own) →
      wpC (model prog w) A (execs body env) (TurnEnd h₀ env.locals (fun m' nx => J (i + 1) nx ∧ ∀ z, z ≠ x → stored.contains z = false → m' z = m₀ z) own { s with heap := h, toks := tk }) (fun _ _ => False) { s with heap := h, toks := tk })
    (done : ∀ (u : PySem.Str → Option Value) news₁ h tk, J n news₁ → Fr h₀ env.locals h (fun y => if y = x then u y else if stored.contains y then u y else m₀ y) → News h₀ env.locals h news₁ → R (.ok .next) { s with heap := h, toks := tk }) :
    codeC (model prog w) A (.forLoop (.Name x px) (.ref I) body [] env) R s := by
  refine codeC_forLoop (fun k s' => ∃ h' tk m' news' i, s' = { s with heap := h', toks := tk } ∧ St i h' ∧ Fr h₀ env.locals h' m' ∧ News h₀ env.locals h' news' ∧
      (∀ p ∈ news', p.1 ≠ I) ∧ J i news' ∧ (∀ z, z ≠ x → stored.contains z = false → m' z = m₀ z) ∧ i ≤ n ∧ k = n + 1 - i) ?_ (n + 1)
    ⟨s.heap, s.toks, m₀, news, 0, rfl, hst, F, N, hoff0, hj, fun _ _ _ => rfl, Nat.zero_le _, rfl⟩
  rintro k s' ⟨h', tk, m', news', i, rfl, hst', F', N', hoff, hJ, hm, hi, rfl⟩
  have next : ∀ h₁ : Heap, (∀ b o, b ∉ [I] → h'.get? b = some o → h₁.get? b = some o) → Fr h₀ env.locals h₁ m' ∧ News h₀ env.locals h₁ news' := fun h₁ hk₁ =>
    ⟨⟨F'.ns.at' fun o e => hk₁ _ o (by simpa using hLI) e, fun b o e => hk₁ b o (by simp; intro q; rw [q, hIn] at e; cases e) (F'.keep b o e), F'.above⟩, fun p hp => ⟨hk₁ _ _ (by simpa using hoff p hp) (N' p hp).1, (N' p hp).2⟩⟩
  by_cases hlt' : i < n
  · refine W.item i _ _ _ hlt' hst' fun v h₁ tk₁ hP hst₁ hk₁ => ?_
    obtain ⟨F₁, N₁⟩ := next h₁ hk₁
    refine wpAny_assign_Name (wpAny_storeName_local hx F₁.ns (fun h₂ hn₂ hs₂ => ?_) hp)
    have F₂ := F₁.set hn₂ hs₂
    have hst₂ := W.frame _ _ h₂ hst₁ fun b hb o e => (hs₂.2 b fun q => hLf (q ▸ hb)).trans e
    obtain ⟨oI, hoI⟩ := hob _ _ hst₂
    have NI : News h₀ env.locals h₂ (news' ++ [(I, oI)]) := fun p hp => by
      rcases List.mem_append.mp hp with q | q
      · exact (N₁.set hs₂) p q
      · rw [List.mem_singleton.mp q]; exact ⟨hoI, Ne.symm hLI, hIn⟩
    have hown : OwnOff [(I, oI)] (news'.map (·.1)) := fun p hp b hb e => by
      obtain ⟨q, hq, rfl⟩ := List.mem_map.mp hb
      rw [List.mem_singleton.mp hp] at e
      exact hoff q hq e.symm
    have em : (fun y => if y = x then some v else m' y) = fun y => if y = x then some v else if stored.contains y then m' y else m₀ y := by
      funext y
      by_cases hy : y = x
      · rw [if_pos hy, if_pos hy]
      · rw [if_neg hy, if_neg hy]
        cases hc : stored.contains y with
        | true => simp
        | false => simp only [Bool.false_eq_true, if_false]; exact hm y hy hc
    rw [em] at F₂
    refine wpC_mono (turn i v m' news' h₂ _ [(I, oI)] hlt' hP hown hJ F₂ NI) (fun f s₃ h₃ => ?_) fun _ _ e => e.elim
    obtain ⟨rfl, h₃', tk₃, m₂, nx, rfl, F₃, N₃, ho₃, hJ₃, hm₃⟩ := h₃
    refine ⟨n + 1 - (i + 1), by omega, h₃', tk₃, m₂, nx, i + 1, rfl, W.frame _ _ _ hst₂ fun b hb o e => ?_, F₃, (fun p hp => N₃ p (List.mem_append_left _ hp)), (fun p hp e => ?_), hJ₃, hm₃, hlt', rfl⟩
    · rcases hfp b hb with rfl | ⟨o', ho'⟩
      · rw [hoI] at e; cases e
        exact (N₃ _ (List.mem_append_right _ (.head _))).1
      · have := F₂.keep b o' ho'
        rw [e] at this; cases this
        exact F₃.keep b o ho'
    · exact ho₃ _ (.head _) p.1 (List.mem_map_of_mem hp) e.symm
  · have hin : i = n := by omega
    subst hin
    refine W.done _ _ _ hst' fun h₁ tk₁ hk₁ => wpAny_execs_nil ?_
    obtain ⟨F₁, N₁⟩ := next h₁ hk₁
    have em : (fun y => if y = x then m' y else if stored.contains y then m' y else m₀ y) = m' := by
      funext y
      by_cases hy : y = x
      · rw [if_pos hy]
      · rw [if_neg hy]
        cases hc : stored.contains y with
        | true => simp
        | false => simp only [Bool.false_eq_true, if_false]; exact (hm y hy hc).symm
    refine done m' news' h₁ tk₁ hJ ?_ N₁
    rw [em]; exact F₁

theorem forC_str {xt : PySem.Str} {tx : Tok} {m₀ : PySem.Str → Option Value} {news : List (Addr × Obj)} (stored : List PySem.Str) (J : Nat → List (Addr × Obj) → Prop)
    (hh : A.handled = none) (F : Fr h₀ env.locals s.heap m₀) (N : News h₀ env.locals s.heap news) (hj : J 0 news)
    (hx : env.kindOf x = some .local) (hp : (env.scope.kind == .class || (env.scope.kind == .module && env.locals != env.globals)) = false)
    (turn : ∀ i c t (u : PySem.Str → Option Value) news₁ h tk own, xt.cps[i]? = some c → OwnOff own (news₁.map (·.1)) → J i news₁ → Fr h₀ env.locals h (fun y => if y = x then some (.str ⟨#[c]⟩ t) else if stored.contains y then u y else m₀ y) → News h₀ env.locals h (news₁ ++ own) →
      wpC (model prog w) A (execs body env) (TurnEnd h₀ env.locals (fun m' nx => J (i + 1) nx ∧ ∀ z, z ≠ x → stored.contains z = false → m' z = m₀ z) own { s with heap := h, toks := tk }) (fun _ _ => False) { s with heap := h, toks := tk })
    (done : ∀ (u : PySem.Str → Option Value) news₁ h tk, J xt.cps.size news₁ → Fr h₀ env.locals h (fun y => if y = x then u y else if stored.contains y then u y else m₀ y) → News h₀ env.locals h news₁ → R (.ok .next) { s with heap := h, toks := tk }) :
    wpAny (model prog w) A (pyIter (.str xt tx)) (fun it s₂ => codeC (model prog w) A (.forLoop (.Name x px) it body [] env) R s₂) E s := by
  have hLI : env.locals ≠ s.heap.objs.size := Nat.ne_of_lt F.ns.lt
  cases ha : xt.cps.all (· < 128)
  · refine wpAny_pyIter_wide ha ?_
    refine forC_walk stored J (Walks.strWide hh _ xt tx) hLI (by simpa using hLI) (next_is_new F) (fun b hb => .inl (List.mem_singleton.mp hb)) (fun i h ⟨o, ho, _⟩ => ⟨o, ho⟩) ⟨_, Heap.get?_push_size _ rfl, rfl, rfl⟩ (F.push _)
      (fun p hp => ⟨Heap.get?_push_of_some _ (N p hp).1, (N p hp).2⟩) (fun p hp => Nat.ne_of_lt (Heap.lt_size (N p hp).1)) hj hx hp ?_ done
    rintro i v u news₁ h tk own _ ⟨c, t, hc, rfl⟩ hoff hJ F₁ N₁
    exact turn i c t u news₁ h tk own hc hoff hJ F₁ N₁
  · refine wpAny_pyIter_ascii ha ?_
    refine forC_walk stored J (Walks.strAscii hh _ xt tx) hLI (by simpa using hLI) (next_is_new F) (fun b hb => .inl (List.mem_singleton.mp hb)) (fun i h ⟨o, ho, _⟩ => ⟨o, ho⟩) ⟨_, Heap.get?_push_size _ rfl, rfl, rfl⟩ (F.push _)
      (fun p hp => ⟨Heap.get?_push_of_some _ (N p hp).1, (N p hp).2⟩) (fun p hp => Nat.ne_of_lt (Heap.lt_size (N p hp).1)) hj hx hp ?_ done
    rintro i v u news₁ h tk own _ ⟨c, t, hc, rfl⟩ hoff hJ F₁ N₁
    exact turn i c t u news₁ h tk own hc hoff hJ F₁ N₁

theorem forC_base {l : Addr} {vs : List Value} {nn : Nat} {m₀ : PySem.Str → Option Value} {news : List (Addr × Obj)} (stored : List PySem.Str) (J : Nat → List (Addr × Obj) → Prop)
    (hh : A.handled = none) (hl : h₀.get? l = some (W.listOf vs.toArray nn)) (F : Fr h₀ env.locals s.heap m₀) (N : News h₀ env.locals s.heap news) (hj : J 0 news)
    (hx : env.kindOf x = some .local) (hp : (env.scope.kind == .class || (env.scope.kind == .module && env.locals != env.globals)) = false)
    (turn : ∀ i v (u : PySem.Str → Option Value) news₁ h tk own, vs[i]? = some v → OwnOff own (news₁.map (·.1)) → J i news₁ → Fr h₀ env.locals h (fun y => if y = x then some v else if stored.contains y then u y else m₀ y) → News h₀ env.locals h (news₁ ++ own) →
      wpC (model prog w) A (execs body env) (TurnEnd h₀ env.locals (fun m' nx => J (i + 1) nx ∧ ∀ z, z ≠ x → stored.contains z = false → m' z = m₀ z) own { s with heap := h, toks := tk }) (fun _ _ => False) { s with heap := h, toks := tk })
    (done : ∀ (u : PySem.Str → Option Value) news₁ h tk, J vs.length news₁ → Fr h₀ env.locals h (fun y => if y = x then u y else if stored.contains y then u y else m₀ y) → News h₀ env.locals h news₁ → R (.ok .next) { s with heap := h, toks := tk }) :
    wpAny (model prog w) A (pyIter (.ref l)) (fun it s₂ => codeC (model prog w) A (.forLoop (.Name x px) it body [] env) R s₂) E s := by
  have hol := F.keep _ _ hl
  have hls : s.heap.IsList l vs.toArray := ⟨_, hol, rfl, nn, rfl⟩
  have hne : l ≠ s.heap.objs.size := Nat.ne_of_lt (Heap.lt_size hol)
  have hLI : env.locals ≠ s.heap.objs.size := Nat.ne_of_lt F.ns.lt
  have hLl : env.locals ≠ l := fun e => Nat.lt_irrefl _ (Nat.lt_of_lt_of_le (Heap.lt_size hl) (e ▸ F.above))
  refine wpAny_pyIter_list hls ?_
  have W := Walks.list (prog := prog) (w := w) hh s.heap.objs.size l hne vs.toArray
  have hsz : vs.toArray.size = vs.length := by simp
  rw [hsz] at W
  refine forC_walk stored J W hLI (by simp [hLI, hLl]) (next_is_new F) (fun b hb => ?_) (fun i h st => let ⟨o, ho, _⟩ := st.1; ⟨o, ho⟩) ⟨⟨_, Heap.get?_push_size _ rfl, rfl, rfl⟩, hls.at fun o e => Heap.get?_push_of_some _ e⟩ (F.push _)
    (fun p hp => ⟨Heap.get?_push_of_some _ (N p hp).1, (N p hp).2⟩) (fun p hp => Nat.ne_of_lt (Heap.lt_size (N p hp).1)) hj hx hp ?_ done
  · rcases List.mem_cons.mp hb with h | h
    · exact .inl h
    · exact .inr ⟨_, (List.mem_singleton.mp h) ▸ hl⟩
  · rintro i v u news₁ h tk own _ hP hoff hJ F₁ N₁
    exact turn i v u news₁ h tk own (by simpa using hP) hoff hJ F₁ N₁

def DefEnd (g : Heap) (L' : Addr) (h₀ : Heap) (L : Addr) (m : PySem.Str → Option Value) (news : List (Addr × Obj)) (R : Value → Shared → Prop) (fl : Flow) (s' : Shared) : Prop :=
  ∃ m' made, Fr g L' s'.heap m' ∧ News g L' s'.heap made ∧ (Fr h₀ L s'.heap m → News h₀ L s'.heap (made ++ news) → R (match fl with | .ret v => v | _ => .none) s')
/-- a def entered over the whole heap of its caller -/
theorem codeC_defB {K : Frag} {L : Addr} {h₀ : Heap} {m mg mb : PySem.Str → Option Value} {news : List (Addr × Obj)} {p : Program} {loose : List PySem.Str} {mean : ExcName → Option Value}
    {name qual : PySem.Str} {params : Arguments} {body : List Stmt} {scope : Scope} {dV kV doc pm cdv ct oc : Value} {an od : Option Addr} {osl : Array (Option Value)} {f : Addr} {args : Args} {binds : List (PySem.Str × Value)}
    (F : Fr h₀ L s.heap m) (X₀ : K.In h₀) (N : News h₀ L s.heap news) (T : Top p loose mean mg mb h₀)
    (ho : K.lookup f = some ⟨oc, od, .func (fnOf name qual params body scope dV kV doc pm an cdv ct), osl⟩) (hcd : codeIn K cdv qual = true) (hroom : A.depth < recursionLimit)
    (hbind : BindsTo s (fnOf name qual params body scope dV kV doc pm an cdv ct) args binds) (hloc : ∀ y ∈ binds, scope.names.lookup y.1 = some .local)
    (h : ∀ L' h₁, K.In s.heap → Top p loose mean mg mb s.heap → Fr s.heap L' h₁ (fun y => binds.reverse.lookup y) → News s.heap L' h₁ [] →
      wpC (model prog w) (A.deeper (envOf qual scope L' f cdv)) (execs body (envOf qual scope L' f cdv))
        (DefEnd s.heap L' h₀ L m news fun v s' => R (.ok (.ret v)) s') (fun _ _ => False)
        { s with heap := h₁, toks := s.toks + binds.length })
    (hco : scope.isCoroutine = false) (hgen : scope.isGenerator = false) (hk : scope.kind = .function)
    (hcell : ∀ x ∈ scope.names, x.2 ≠ .cell) : codeC (model prog w) A (.call (.ref f) args) R s := by
  have X := X₀.keeps F.keep
  refine codeC_call_def (fd := fnOf name qual params body scope dV kV doc pm an cdv ct) (body := body) (binds := binds) hroom (X _ _ ho) rfl (T.nolimit.keeps F.keep) (codeRec_of X hcd) rfl hbind hcell hloc (fun h₁ hns hk₁ => ?_) hco hgen hk
  refine wpC_mono (h s.heap.objs.size h₁ X (T.keeps F.keep) ⟨hns, fun b o e => hk₁ b o e, Nat.le_refl _⟩ (fun p hp => nomatch hp)) (fun fl s' ⟨m', made, F', N', k⟩ => ?_) fun _ _ x => x.elim
  obtain ⟨oL, es, ep, hL, r⟩ := F.ns
  refine k ⟨⟨oL, es, ep, F'.keep _ _ hL, r⟩, fun b o e => F'.keep _ _ (F.keep b o e), F.above⟩ fun p hp => ?_
  rcases List.mem_append.mp hp with q | q
  · obtain ⟨x1, x2, x3⟩ := N' p q
    refine ⟨x1, fun e => ?_, ?_⟩
    · rw [e, hL] at x3; cases x3
    · cases q : h₀.get? p.1 with
      | none => rfl
      | some o => rw [F.keep _ _ q] at x3; cases x3
  · exact ⟨F'.keep _ _ (N p q).1, (N p q).2⟩
end
end Mine
end

/-! ## Told1 -/
section
open PySem PySem.W PyProof.Rows
set_option maxRecDepth 100000
set_option autoImplicit false
namespace Mine
def RankD (prog : Program) (w : World) (o : Obj) : Prop :=
  ∃ kvs, Obj.IsDictOf (PySem.strKind prog w) o kvs ∧ ∀ p : List Nat, (valueAt kvs ⟨p.toArray⟩ = none ∧ rankOf p = 0) ∨ ∃ t, valueAt kvs ⟨p.toArray⟩ = some (.int (rankOf p) t)
theorem valueAt_cons {x : PySem.Str} {v : Value} {r : List (PySem.Str × Value)} {k : PySem.Str} : valueAt ((x, v) :: r) k = if x = k then some v else valueAt r k := by
  unfold valueAt
  rw [List.find?_cons]
  by_cases h : x = k
  · simp [h]
  · simp [h]
theorem str_eq_cs {x : String} {p : List Nat} : (Str.ofString x = ⟨p.toArray⟩) ↔ p = cs x := by
  constructor
  · intro h; unfold cs; rw [h]
  · rintro rfl; unfold cs; rfl
theorem rank_step {p : List Nat} {k : String} {n : Nat} {u : Tok} {kvs : List (PySem.Str × Value)} {rest : Nat}
    (ih : (valueAt kvs ⟨p.toArray⟩ = none ∧ rest = 0) ∨ ∃ t, valueAt kvs ⟨p.toArray⟩ = some (.int (rest : Nat) t)) :
    (valueAt ((Str.ofString k, .int (n : Nat) u) :: kvs) ⟨p.toArray⟩ = none ∧ (if p = cs k then n else rest) = 0) ∨ ∃ t, valueAt ((Str.ofString k, .int (n : Nat) u) :: kvs) ⟨p.toArray⟩ = some (.int ((if p = cs k then n else rest : Nat) : Int) t) := by
  rw [valueAt_cons]
  by_cases h : p = cs k
  · rw [if_pos h, if_pos (str_eq_cs.mpr h)]
    exact .inr ⟨u, rfl⟩
  · rw [if_neg h, if_neg fun e => h (str_eq_cs.mp e)]
    exact ih
theorem rank_tab {prog : Program} {w : World} {o : Obj} {t1 t2 t3 t4 t5 t6 t7 t8 t9 t10 u1 u2 u3 u4 u5 u6 u7 u8 u9 u10 : Tok}
    (h : Obj.IsDictOf (PySem.strKind prog w) o (strPairs [(.str (Str.ofString "dev") t1, .int 10 u1), (.str (Str.ofString "alpha") t2, .int 20 u2), (.str (Str.ofString "a") t3, .int 20 u3), (.str (Str.ofString "beta") t4, .int 30 u4), (.str (Str.ofString "b") t5, .int 30 u5),
      (.str (Str.ofString "c") t6, .int 40 u6), (.str (Str.ofString "RC") t7, .int 50 u7), (.str (Str.ofString "rc") t8, .int 50 u8), (.str (Str.ofString "pl") t9, .int 200 u9), (.str (Str.ofString "p") t10, .int 200 u10)])) : RankD prog w o := by
  refine ⟨_, h, fun p => ?_⟩
  unfold rankOf
  exact rank_step (rank_step (rank_step (rank_step (rank_step (rank_step (rank_step (rank_step (rank_step (rank_step (.inl ⟨rfl, rfl⟩))))))))))
def WordOk (x : List Itm) : Prop := (∃ s, x = [.txt s] ∧ s.length ≤ 6) ∨ ∃ s n z, x = [.txt s, .num n, .txt z] ∧ s.length ≤ 6 ∧ z.length ≤ 6
def TabIn (prog : Program) (w : World) (g : Heap) (d : Addr) (tab : Nat → List Itm) : Prop :=
  ∃ o kvs, g.get? d = some o ∧ Obj.IsDictOf (PySem.strKind prog w) o kvs ∧ (d == sysModules) = false ∧ ∀ c, WordOk (tab c) ∧
    ((valueAt kvs ⟨#[c]⟩ = none ∧ tab c = [.txt [c]]) ∨ ∃ a ws n, valueAt kvs ⟨#[c]⟩ = some (.ref a) ∧ g.get? a = some (W.listOf ws.toArray n) ∧ ItmsOf ws (tab c))
section
variable {prog : Program} {w : World} {A : Around} {E : Value → Shared → Prop} {s : Shared} {h₀ : Heap} {L D : Addr} {m : PySem.Str → Option Value} {pre post : List (Addr × Obj)} {xs : List Value} {v0 v : Value} {n : Nat} {t : Tok}
theorem read_first {value slice : Expr} {Q : Value → Shared → Prop} (hg : s.heap.get? D = some (W.listOf (v0 :: xs).toArray n)) (h : Q v0 s)
    (hs : subscripted slice false (.ref D) (.int 0 t) = operate [.ref D, .int 0 t] (getItem (.ref D) (.int 0 t)) := by with_unfolding_all rfl) :
    wpAny (model prog w) A (subscriptTail value slice (.ref D) (.int 0 t)) Q E s := by
  have hl : s.heap.IsList D (v0 :: xs).toArray := ⟨_, hg, rfl, n, rfl⟩
  exact tail_any hl.typeIs slot_list_getitem.lookup (wpAny_getItem_list hl (Int.le_refl 0) (by decide) (by simp) h) hs
theorem read_firstN {value slice : Expr} {Q : Value → Shared → Prop} (N : News h₀ L s.heap ((D, W.listOf (v0 :: xs).toArray n) :: post)) (h : Q v0 s)
    (hs : subscripted slice false (.ref D) (.int 0 t) = operate [.ref D, .int 0 t] (getItem (.ref D) (.int 0 t)) := by with_unfolding_all rfl) :
    wpAny (model prog w) A (subscriptTail value slice (.ref D) (.int 0 t)) Q E s := read_first (N _ (.head _)).1 h hs
theorem read_firstB {value slice : Expr} {Q : Value → Shared → Prop} (F : Fr h₀ L s.heap m) (hg : h₀.get? D = some (W.listOf (v0 :: xs).toArray n)) (h : Q v0 s)
    (hs : subscripted slice false (.ref D) (.int 0 t) = operate [.ref D, .int 0 t] (getItem (.ref D) (.int 0 t)) := by with_unfolding_all rfl) :
    wpAny (model prog w) A (subscriptTail value slice (.ref D) (.int 0 t)) Q E s := read_first (F.keep _ _ hg) h hs
theorem slice_tl {value slice : Expr} {Q : Value → Shared → Prop} {news : List (Addr × Obj)} (F : Fr h₀ L s.heap m) (N : News h₀ L s.heap news) (hg : h₀.get? D = some (W.listOf (v0 :: xs).toArray n)) (hz : xs.length ≤ 1000)
    (h : ∀ D' h', Fr h₀ L h' m → News h₀ L h' ((D', W.listOf xs.toArray 0) :: news) → (∀ p ∈ news, p.1 < D') → Q (.ref D') { s with heap := h' })
    (hs : subscripted slice false (.ref D) (.ref s.heap.objs.size) = operate [.ref s.heap.objs.size, .ref D] (getItem (.ref D) (.ref s.heap.objs.size)) := by with_unfolding_all rfl) (ht : ∀ r, letTemporaryGo value (.ref D) r = pure () := by intro _; with_unfolding_all rfl) :
    wpAny (model prog w) A (subscriptTail value slice (.ref D) (.ref s.heap.objs.size)) Q E { s with heap := s.heap.push { cls := .type "slice", data := .fields #[.int 1 t, .none, .none] } } := by
  have hl : s.heap.IsList D (v0 :: xs).toArray := ⟨_, F.keep _ _ hg, rfl, n, rfl⟩
  refine kmk_slice_lit F N hl (lo := some 1) (hi := none) (by constructor) (by constructor) ?_ h hs ht (by simp [sizeLine_eq]; omega)
  have := slicePick_from (v0 :: xs).toArray 1 (by simp)
  rw [show (some ((1 : Nat) : Int)) = some (1 : Int) from rfl] at this
  rw [this]
  simp
theorem ext_any {Q : Value → Shared → Prop} {b : Addr} {us ws : List Value} {n2 : Nat} (F : Fr h₀ L s.heap m) (N : News h₀ L s.heap (pre ++ (D, W.listOf us.toArray n) :: post)) (hb : s.heap.get? b = some (W.listOf ws.toArray n2))
    (a : ∀ p ∈ pre, p.1 ≠ D) (c : ∀ p ∈ post, p.1 ≠ D) (hsz : us.length + ws.length ≤ 100000)
    (h : ∀ h' k', Fr h₀ L h' m → News h₀ L h' (pre ++ (D, W.listOf (us ++ ws).toArray k') :: post) → Q .none { s with heap := h' }) : wpAny (model prog w) A (call (.builtin "list.extend") [.ref D, .ref b]) Q E s := by
  have z := N (D, W.listOf us.toArray n) (List.mem_append.mpr (.inr (.head _)))
  have hsl := sizeLine_eq
  have e : us.toArray ++ ws.toArray = (us ++ ws).toArray := by simp
  refine call_meets PySem.F.slot_list_extend ⟨_, z.1, rfl⟩ PySem.F.entry_list_extend (PySem.F.args_list_extend_2 _ _) (PySem.AutoSeq1.list_extend_list_list_0 D us.toArray n b ws.toArray n2 ?_ (by simp; omega) (by simp; omega)) ⟨z.1, hb, ?_⟩
  · unfold Builtin.List.listTooLong
    simp
    omega
  · refine h _ (if (us.toArray ++ ws.toArray).size = us.toArray.size then n else n + 1) (F.change (Heap.SameBut.update ..) z.2.1 z.2.2) ?_
    by_cases hq : (us.toArray ++ ws.toArray).size = us.toArray.size
    · rw [if_pos hq]
      exact kl_turn0 (fun x => x ++ ws.toArray) N a c e (by rw [← e]; exact hq)
    · rw [if_neg hq]
      exact kl_turn (fun x => x ++ ws.toArray) N a c e (by rw [← e]; exact hq)
theorem ext_b {Q : Value → Shared → Prop} {b : Addr} {us ws : List Value} {n2 : Nat} (F : Fr h₀ L s.heap m) (N : News h₀ L s.heap ((b, W.listOf ws.toArray n2) :: (D, W.listOf us.toArray n) :: post))
    (a : D < b) (c : ∀ p ∈ post, p.1 ≠ D) (hsz : us.length + ws.length ≤ 100000)
    (h : ∀ h' k', Fr h₀ L h' m → News h₀ L h' ((b, W.listOf ws.toArray n2) :: (D, W.listOf (us ++ ws).toArray k') :: post) → Q .none { s with heap := h' }) : wpAny (model prog w) A (call (.builtin "list.extend") [.ref D, .ref b]) Q E s :=
  ext_any (pre := [(b, W.listOf ws.toArray n2)]) F N (N _ (.head _)).1 (fun p hp => by rw [List.mem_singleton.mp hp]; exact Nat.ne_of_gt a) c hsz h
theorem ext_qb {Q : Value → Shared → Prop} {b q : Addr} {oq : Obj} {us ws : List Value} {n2 : Nat} (F : Fr h₀ L s.heap m) (N : News h₀ L s.heap ((b, W.listOf ws.toArray n2) :: (q, oq) :: (D, W.listOf us.toArray n) :: post))
    (a : D < b) (a2 : D < q) (c : ∀ p ∈ post, p.1 ≠ D) (hsz : us.length + ws.length ≤ 100000)
    (h : ∀ h' k', Fr h₀ L h' m → News h₀ L h' ((b, W.listOf ws.toArray n2) :: (q, oq) :: (D, W.listOf (us ++ ws).toArray k') :: post) → Q .none { s with heap := h' }) : wpAny (model prog w) A (call (.builtin "list.extend") [.ref D, .ref b]) Q E s :=
  ext_any (pre := [(b, W.listOf ws.toArray n2), (q, oq)]) F N (N _ (.head _)).1 (fun p hp => by
    rcases List.mem_cons.mp hp with rfl | hp
    · exact Nat.ne_of_gt a
    · rw [List.mem_singleton.mp hp]; exact Nat.ne_of_gt a2) c hsz h
theorem tab_method {pl : Sem Bool} {Q : Value × List Value → Shared → Prop} {o : Obj} {kvs : List (PySem.Str × Value)} (F : Fr h₀ L s.heap m) (hp : h₀.get? D = some o) (hd : Obj.IsDictOf (PySem.strKind prog w) o kvs) (h : Q (.builtin "dict.get", [.ref D]) s) : wpAny (model prog w) A (getMethod (.ref D) "get" pl) Q E s :=
  have hD : s.heap.DictOf (PySem.strKind prog w) D kvs := Heap.dictOf_iff.mpr ⟨o, F.keep _ _ hp, hd⟩
  getMethod_builtin hD.typeIs PySem.F.plainAttrs_dict PySem.F.slot_dict_get PySem.F.type_dict_get hD.mapOf.noDict h
theorem tab_get2 {Q : Value → Shared → Prop} {o : Obj} {kvs : List (PySem.Str × Value)} {k : PySem.Str} {t : Tok} {dflt : Value} (F : Fr h₀ L s.heap m) (hp : h₀.get? D = some o) (hd : Obj.IsDictOf (PySem.strKind prog w) o kvs) (lo : (D == sysModules) = false) {x : Option Value} (hl : valueAt kvs k = x) (h : Q (x.getD dflt) { s with toks := s.toks + 1 }) :
    wpAny (model prog w) A (call (.builtin "dict.get") [.ref D, .str k t, dflt]) Q E s :=
  have hD : s.heap.DictOf (PySem.strKind prog w) D kvs := Heap.dictOf_iff.mpr ⟨o, F.keep _ _ hp, hd⟩
  call_meetsIn PySem.F.slot_dict_get hD.typeIs PySem.F.entry_dict_get (PySem.F.args_dict_get_3 _ _ _) (meets_dict_get_default (PySem.strKind prog w) D (strKind_is _ _ _ _) lo dflt) ⟨_, hD.mapOf, by rw [hl]; exact h⟩
end
theorem partsOf_bound {tab : Nat → List Itm} (ht : ∀ c, WordOk (tab c)) (l : List Nat) : (partsOf tab l).1.length ≤ 2 * l.length ∧ (partsOf tab l).2.length ≤ 6 * l.length + 6 := by
  generalize hn : l.length = n
  induction n generalizing l with
  | zero => rw [List.length_eq_zero_iff.mp hn]; exact ⟨Nat.le_refl _, by simp [partsOf]⟩
  | succ n ih =>
    have hne : l ≠ [] := by intro e; rw [e] at hn; cases hn
    have e := List.dropLast_concat_getLast hne
    have hl : l.dropLast.length = n := by rw [List.length_dropLast, hn]; rfl
    obtain ⟨h1, h2⟩ := ih l.dropLast hl
    rw [← e, partsOf_snoc]
    unfold addPart
    rcases ht (l.getLast hne) with ⟨s, hs, hb⟩ | ⟨s, k, z, hs, hb, hb2⟩
    · rw [hs]; simp; omega
    · rw [hs]; simp; omega
theorem partsL_one {tab : Nat → List Itm} {l : List Nat} {c : Nat} {s : List Nat} (h : tab c = [.txt s]) : partsL tab (l ++ [c]) = (partsOf tab l).1 ++ [.txt ((partsOf tab l).2 ++ s)] := by
  unfold partsL; rw [partsOf_snoc]; unfold addPart; rw [h]
theorem partsL_three {tab : Nat → List Itm} {l : List Nat} {c n : Nat} {s z : List Nat} (h : tab c = [.txt s, .num n, .txt z]) : partsL tab (l ++ [c]) = ((partsOf tab l).1 ++ [.txt ((partsOf tab l).2 ++ s)]) ++ [.num n, .txt z] := by
  unfold partsL; rw [partsOf_snoc]; unfold addPart; rw [h]; simp
theorem partsL_len {tab : Nat → List Itm} (ht : ∀ c, WordOk (tab c)) (l : List Nat) : (partsL tab l).length ≤ 2 * l.length + 1 := by
  have := (partsOf_bound ht l).1
  unfold partsL
  simp
  omega
theorem flatI_len (is : List Itm) : (is.flatMap flatI).length = 2 * is.length := by
  induction is with
  | nil => rfl
  | cons x r ih => rw [List.flatMap_cons, List.length_append, ih]; cases x <;> simp [flatI] <;> omega
theorem expand_len {tab : Nat → List Itm} (ht : ∀ c, WordOk (tab c)) (is : List Itm) (h : ∀ l, Itm.txt l ∈ is → l.length ≤ 100) : (is.flatMap (expand tab)).length ≤ 201 * is.length := by
  induction is with
  | nil => simp
  | cons x r ih =>
    have := ih fun l hl => h l (.tail _ hl)
    rw [List.flatMap_cons, List.length_append, List.length_cons]
    cases x with
    | num n => show 1 + _ ≤ _; omega
    | txt l => have h1 := partsL_len ht l; have h2 := h l (.head _); simp only [expand]; omega
end Mine
end

/-! ## Told2 -/
section
local macro_rules | `(tactic| walk_at "pad 0") => `(tactic| skip)
local macro_rules | `(tactic| walk_at "pad 1") => `(tactic| skip)
open PySem PySem.W PyProof.Rows
set_option maxRecDepth 100000
set_option maxHeartbeats 8000000
set_option autoImplicit false
namespace Mine
theorem and1 {P R : Prop} (h : P ∧ R) : P := h.1
theorem and2 {P R S : Prop} (h : S ∧ P ∧ R) : P := h.2.1
local macro_rules | `(tactic| walk_at "own m_lt") => `(tactic| first | assumption | (apply and1; assumption) | (apply and2; assumption))
local macro_rules | `(tactic| walk_at "pyIter str") => `(tactic| (k_here; refine Stop.out ?_))
local macro_rules | `(tactic| walk_at "getMethod ref") => `(tactic| (k_here; first | refine tab_method (by k_asm) (by assumption) (by assumption) ?_ | refine kdg_method (knd := PySem.strKind _ _) (by k_asm) (by k_mem) (by assumption) ?_))
local macro_rules | `(tactic| walk_at "call builtin:dict.get") => `(tactic| (k_here; first | (refine tab_get2 (by k_asm) (by assumption) (by assumption) (by assumption) (by assumption) ?_; dsimp only [Option.getD]) | (refine kdg_get2 (knd := PySem.strKind _ _) (by k_asm) (by k_mem) (by assumption) (by assumption) (strKind_is _ _ _ _) _ (by assumption) ?_; dsimp only [Option.getD])))
local macro_rules | `(tactic| walk_at "subscriptTail") => `(tactic| (k_here; first | refine read_last (pre := []) (by k_asm) ?_ | refine read_last (pre := [_]) (by k_asm) ?_))
local macro_rules | `(tactic| walk_at "subscriptTail Name UnaryOp ref int") => `(tactic| (k_here; k_dflt (first | refine read_last (pre := []) (by k_asm) ?_ | refine read_last (pre := [_]) (by k_asm) ?_)))
local macro_rules | `(tactic| walk_at "subscriptTail Name Constant ref int") => `(tactic| (k_here; k_dflt (first | refine read_firstN (by k_asm) ?_ | refine read_firstB (by k_asm) (by assumption) ?_)))
local macro_rules | `(tactic| walk_at "setItem ref int") => `(tactic| (k_here; first | (refine set_last (pre := []) (by k_asm) (by k_asm) (by simp) (by assumption) ?_; intro h' F' N') | (refine set_last (pre := [_]) (by k_asm) (by k_asm) (by intro p hp; rw [List.mem_singleton.mp hp]; exact Nat.ne_of_gt (by walk_at "own m_lt")) (by assumption) ?_; intro h' F' N'; simp only [List.cons_append, List.nil_append] at N')))
theorem allLt_mem {b : Addr} {ps : List (Addr × Obj)} (h : AllLt b ps) : ∀ q ∈ ps, q.1 < b := by
  induction ps with
  | nil => intro q hq; cases hq
  | cons p r ih =>
    intro q hq
    rcases List.mem_cons.mp hq with rfl | hq
    · exact h.1
    · exact ih h.2 q hq
theorem empty_cps : Str.ofString "" = ⟨([] : List Nat).toArray⟩ := by decide +kernel
theorem ItmsOf.get {vs : List Value} {is : List Itm} (h : ItmsOf vs is) : ∀ (i : Nat) (v : Value), vs[i]? = some v → ∃ it, is[i]? = some it ∧ ItmsOf [v] [it] := by
  induction h with
  | nil => intro i v h; simp at h
  | num n t h ih =>
    intro i v hv
    cases i with
    | zero => simp at hv; exact ⟨.num n, by simp, hv ▸ .num n t .nil⟩
    | succ i => simp at hv; simpa using ih i v hv
  | txt l t h ih =>
    intro i v hv
    cases i with
    | zero => simp at hv; exact ⟨.txt l, by simp, hv ▸ .txt l t .nil⟩
    | succ i => simp at hv; simpa using ih i v hv
local macro_rules | `(tactic| walk_at "call builtin:list.extend") => `(tactic| (k_here; first | (refine ext_b (by k_asm) (by k_asm) (by walk_at "own m_lt") (by assumption) (by simp only [List.length_cons, List.length_nil, List.length_append]; omega) ?_; intro h' k' F' N') | (refine ext_qb (by k_asm) (by k_asm) (by walk_at "own m_lt") (by walk_at "own m_lt") (by assumption) (by simp only [List.length_cons, List.length_nil, List.length_append]; omega) ?_; intro h' k' F' N')))
theorem turn_end1 {g h' : Heap} {L' P : Addr} {oo : Obj} {m' m₀ : PySem.Str → Option Value} {ps' : List Value} {k' tk : Nat} {rest own : List (Addr × Obj)} {X : List Itm} {x : PySem.Str} {stored : List PySem.Str} {s₁ : Shared}
    (F : Fr g L' h' m') (N : ∀ p ∈ (P, W.listOf ps'.toArray k') :: (rest ++ own), h'.get? p.1 = some p.2 ∧ p.1 ≠ L' ∧ g.get? p.1 = none)
    (hoff : OwnOff own (((P, oo) :: rest).map (·.1))) (hi : ItmsOf ps' X) (hz : ∀ z, z ≠ x → stored.contains z = false → m' z = m₀ z) :
    TurnEnd g L' (fun m' nx => (∃ ps k2, nx = (P, W.listOf ps.toArray k2) :: rest ∧ ItmsOf ps X) ∧ ∀ z, z ≠ x → stored.contains z = false → m' z = m₀ z) own s₁ .next { s₁ with heap := h', toks := tk } :=
  ⟨rfl, _, _, _, (P, W.listOf ps'.toArray k') :: rest, rfl, F, N, hoff, ⟨_, _, rfl, hi⟩, hz⟩
theorem turn_end2 {g h' : Heap} {L' P D2 : Addr} {oo o2 : Obj} {m' m₀ : PySem.Str → Option Value} {ps' : List Value} {k' tk : Nat} {rest own : List (Addr × Obj)} {X : List Itm} {x : PySem.Str} {stored : List PySem.Str} {s₁ : Shared}
    (F : Fr g L' h' m') (N : ∀ p ∈ (P, W.listOf ps'.toArray k') :: (rest ++ own), h'.get? p.1 = some p.2 ∧ p.1 ≠ L' ∧ g.get? p.1 = none) (h2 : (D2, o2) ∈ rest)
    (hoff : OwnOff own (((P, oo) :: rest).map (·.1))) (hi : ItmsOf ps' X) (hz : ∀ z, z ≠ x → stored.contains z = false → m' z = m₀ z) :
    TurnEnd g L' (fun m' nx => (D2, o2) ∈ nx ∧ (∃ ps k2, nx = (P, W.listOf ps.toArray k2) :: rest ∧ ItmsOf ps X) ∧ ∀ z, z ≠ x → stored.contains z = false → m' z = m₀ z) own s₁ .next { s₁ with heap := h', toks := tk } :=
  ⟨rfl, _, _, _, (P, W.listOf ps'.toArray k') :: rest, rfl, F, N, hoff, .tail _ h2, ⟨_, _, rfl, hi⟩, hz⟩
theorem told_c : ∀ (w : World) (mean : ExcName → Option Value) (mg mb : PySem.Str → Option Value) (news : List (Addr × Obj)) (R D : Addr) (vs : List Value) (nn : Nat) (items : List Itm) (tab : Nat → List Itm)
   (dp un : Nat) (gd : Option (List Code)) (cn : PySem.Str) (cs : Scope) (a : Addr) (ccd : Value) (cl : List (PySem.Str × Addr)) (h₀ : Heap) (L : Addr) (m : PySem.Str → Option Value) (s : Shared) (Q E : Value → Shared → Prop)
   (F : Fr h₀ L s.heap m) (KX : (MineH.hd.heap_39 w.params).In h₀) (N : News h₀ L s.heap news)
   (T : Top MineH.hd.view_39 (looseW MineH.hd.view_39 [Str.ofString "_twin_re_1", Str.ofString "_ver_stages"]) mean mg mb h₀) (hcs : cs.kind = .function)
   (hdp : dp + 1 < recursionLimit) (hun : un + 8 < cLine)
   (hR : s.heap.get? R = some (W.listOf vs.toArray nn)) (hvs : ItmsOf vs items) (hlen : items.length ≤ 100) (htl : ∀ l, Itm.txt l ∈ items → l.length ≤ 100)
   (hD : TabIn Challenge.rw_ny0115_01.row.prog w s.heap D tab)
   (ret : ∀ r vs k h' tk, ItmsOf vs ((items.flatMap (expand tab)).flatMap flatI) → Fr h₀ L h' m → News h₀ L h' ((r, W.listOf vs.toArray k) :: news) → Q (.ref r) { s with heap := h', toks := tk }),
   wpC (model Challenge.rw_ny0115_01.row.prog w) (ktrTop dp un gd cn cs L a ccd cl []) (call (.ref 107) [.ref R, .ref D]) Q E s := by
  w_on
  k_fill
  intro w mean mg mb news R D vs nn items tab dp un gd cn cs a ccd cl h₀ L m s Q E F KX N T hcs hdp hun hR hvs hlen htl hD ret
  refine wpC_call ?_
  k_dflt (refine' codeC_defB ?k2 ?k3 ?k4 ?k5 ?k6 ?k7 ?k8 ?k9 ?kB ?_ ?c2 ?c3 ?c4 ?c5; (case k2 => exact F); (case k3 => exact KX); (case k4 => exact N); (case k5 => exact T); (case k6 => k_is); (case k7 => k_is); (case k8 => ktr_room); (case k9 => exact BindsTo.of_eq rfl); (case c5 => decide); (case kB => exact locs rfl); (case c2 => exact rfl); (case c3 => exact rfl); (case c4 => exact rfl))
  intro L' h' KX' T' F' N'
  clear N F KX T
  generalize s.toks + _ = tk0
  generalize hg : s.heap = g at *
  refine wpC_execs_off ?_
  k_steps
  dsimp only
  refine wpC_execs_off ?_
  k_steps
  dsimp only
  rename Fr _ _ _ _ => F2
  rename News _ _ _ _ => N2
  rename Obj.IsDictOf _ _ _ => hdR
  have hrk := rank_tab hdR
  rename PyProof.V.FlatPairs _ _ _ => hfp
  clear hdR hfp
  rename_i _ oR lo1 _ _ _ r1 _ l1 _
  dsimp only at F2
  generalize h'.objs.size = dR at *
  have hrd : dR ≠ r1 := Nat.ne_of_lt l1
  obtain ⟨oT, kvs, hoT, hkvs, hloT, hkv⟩ := hD
  obtain ⟨kvR, hkR, hrkv⟩ := hrk
  have hTab : ∀ c, WordOk (tab c) := fun c => (hkv c).1
  refine wpC_execs_cons (wpC_For ?_)
  k_steps
  refine forC_base (h₀ := g) [Str.ofString "parts", Str.ofString "sign", Str.ofString "spelled", Str.ofString "part"] (fun i nx => ∃ res k, nx = [(r1, W.listOf res.toArray k), (dR, oR)] ∧ ItmsOf res (((items.take i).flatMap (expand tab)).flatMap flatI)) rfl hR F2 N2 ⟨[], 0, rfl, .nil⟩ rfl rfl ?turn ?done
  case done =>
    rintro u news₁ h tk ⟨res, k, rfl, hres⟩ F3 N3
    dsimp only
    rw [hvs.length, List.take_length] at hres
    refine wpC_of_any ?_
    k_steps
    dsimp only
    refine ⟨_, _, F3, N3, fun kF kN => ret r1 res k h tk hres kF fun p hp => kN p ?_⟩
    rcases List.mem_cons.mp hp with rfl | hp
    · exact .head _
    · exact .tail _ (.tail _ hp)
  case turn =>
    rintro i v u news₁ h tk own hv hoff ⟨res, k, rfl, hres⟩ F3 N3
    simp only [List.cons_append, List.nil_append] at N3
    obtain ⟨it, hit, hvi⟩ : ∃ it, items[i]? = some it ∧ ItmsOf [v] [it] := hvs.get i v hv
    have htake : items.take (i + 1) = items.take i ++ [it] := by rw [List.take_add_one, hit]; rfl
    have hrest : ∀ q ∈ (dR, oR) :: own, q.1 ≠ r1 := fun q hq => by
      rcases List.mem_cons.mp hq with rfl | hq
      · exact hrd
      · exact hoff q hq r1 (.head _)
    have hrlen : res.length ≤ 90000 := by
      have h1 := hres.length
      have h2 := expand_len hTab (items.take i) fun l hl => htl l (List.mem_of_mem_take hl)
      rw [flatI_len] at h1
      rw [List.length_take] at h2
      omega
    rcases it with n | l
    · obtain ⟨t0, rfl⟩ : ∃ t, v = .int n t := by cases hvi; exact ⟨_, rfl⟩
      refine wpC_of_any ?_
      k_steps
      rename News _ _ _ _ => kN
      rename Fr _ _ _ _ => kF
      refine turn_end1 (rest := [(dR, oR)]) kF (fun q hq => kN q (.tail _ hq)) hoff ?_ (fun z hz1 hz2 => by simp only [if_neg hz1, hz2, Bool.false_eq_true, if_false])
      rw [htake, List.flatMap_append, List.flatMap_append]
      exact hres.append (.num 100 _ (.num n _ .nil))
    · obtain ⟨t0, rfl⟩ : ∃ t, v = .str ⟨l.toArray⟩ t := by cases hvi; exact ⟨_, rfl⟩
      have hll : l.length ≤ 100 := htl l (List.mem_of_getElem? hit)
      refine wpC_execs_cons (wpC_If (wpC_of_any ?_))
      k_steps
      refine wpC_execs_off ?_
      k_steps
      dsimp only
      refine wpC_execs_cons (wpC_For ?_)
      k_steps
      refine Stop.mk ?_
      rename Fr _ _ _ _ => F4
      rename News _ _ _ _ => N4
      rename_i P1 _ _ _ lP _
      have hrP : r1 ≠ P1 := Nat.ne_of_lt lP.1
      have hdP : dR ≠ P1 := Nat.ne_of_lt lP.2.1
      have hoP : ∀ q ∈ own, q.1 ≠ P1 := fun q hq => Nat.ne_of_lt (allLt_mem lP.2.2 q hq)
      refine forC_str (h₀ := g) [Str.ofString "spelled"] (fun i nx => ∃ ps k2, nx = (P1, W.listOf ps.toArray k2) :: (r1, W.listOf res.toArray k) :: (dR, oR) :: own ∧ ItmsOf ps (partsL tab (l.take i))) rfl F4 N4 ⟨_, 0, rfl, .one_txt empty_cps⟩ rfl rfl ?tS ?dS
      case tS =>
        rintro j c tc u2 news₂ h2 tk2 own2 hcj hoff2 ⟨ps, k2, rfl, hps⟩ F5 N5
        have hcl : l[j]? = some c := by simpa using hcj
        have htk2 : l.take (j + 1) = l.take j ++ [c] := by rw [List.take_add_one, hcl]; rfl
        simp only [List.cons_append, List.append_assoc] at N5
        obtain ⟨ps0, tl0, rfl, hps0⟩ := ItmsOf.snoc_txt hps
        have hbd := partsOf_bound hTab (l.take j)
        have hjl : (l.take j).length ≤ 100 := by rw [List.length_take]; omega
        have hp0l := hps0.length
        have hl2 : (⟨(partsOf tab (l.take j)).2.toArray⟩ : PySem.Str).length ≤ 1000 := by show (List.toArray _).size ≤ 1000; rw [List.size_toArray]; omega
        have hrest2 : ∀ q ∈ (r1, W.listOf res.toArray k) :: (dR, oR) :: (own ++ own2), q.1 ≠ P1 := fun q hq => by
          rcases List.mem_cons.mp hq with rfl | hq
          · exact hrP
          rcases List.mem_cons.mp hq with rfl | hq
          · exact hdP
          rcases List.mem_append.mp hq with hq | hq
          · exact hoP q hq
          · exact hoff2 q hq P1 (.head _)
        rcases (hkv c).2 with ⟨hnone, hword⟩ | ⟨aw, ws, nw, hsome, haw, hws⟩
        · refine wpC_of_any ?_
          k_steps
          rename News _ _ _ _ => kN
          rename Fr _ _ _ _ => kF
          refine turn_end1 (rest := (r1, W.listOf res.toArray k) :: (dR, oR) :: own) kF (fun q hq => kN q (.tail _ (.tail _ hq))) hoff2 ?_ (fun z hz1 hz2 => by
            have hz3 : z ≠ Str.ofString "spelled" := by simpa using hz2
            simp only [if_neg hz1, if_neg hz3, hz2, Bool.false_eq_true, if_false])
          rw [htk2, partsL_one hword]
          rw [List.append_nil]
          exact hps0.append (.one_txt (str_snoc _ c))
        · rcases (hkv c).1 with ⟨sw, hsw, hswl⟩ | ⟨sw, nw2, zw, hsw, hswl, hzwl⟩
          · obtain ⟨tw, rfl⟩ : ∃ t, ws = [.str ⟨sw.toArray⟩ t] := by rw [hsw] at hws; cases hws with | txt _ t h => cases h; exact ⟨t, rfl⟩
            have hB : g.IsList aw [.str ⟨sw.toArray⟩ tw].toArray := ⟨_, haw, rfl, nw, rfl⟩
            have hl3 : (⟨sw.toArray⟩ : PySem.Str).length ≤ 6 := by show (List.toArray _).size ≤ 6; rw [List.size_toArray]; omega
            refine wpC_of_any ?_
            k_steps
            rename News _ _ _ _ => kN
            rename Fr _ _ _ _ => kF
            refine turn_end1 (rest := (r1, W.listOf res.toArray k) :: (dR, oR) :: own) kF (fun q hq => kN q (.tail _ (.tail _ hq))) hoff2 ?_ (fun z hz1 hz2 => by
              have hz3 : z ≠ Str.ofString "spelled" := by simpa using hz2
              simp only [if_neg hz1, if_neg hz3, hz2, Bool.false_eq_true, if_false])
            rw [htk2, partsL_one hsw]
            rw [List.append_nil]
            exact hps0.append (.one_txt (str_app _ sw))
          · obtain ⟨tw, tx, ty, rfl⟩ : ∃ t t1 t2, ws = [.str ⟨sw.toArray⟩ t, .int nw2 t1, .str ⟨zw.toArray⟩ t2] := by
              rw [hsw] at hws
              cases hws with | txt _ t h => cases h with | num _ t1 h => cases h with | txt _ t2 h => cases h; exact ⟨t, t1, t2, rfl⟩
            have hB : g.IsList aw [.str ⟨sw.toArray⟩ tw, .int nw2 tx, .str ⟨zw.toArray⟩ ty].toArray := ⟨_, haw, rfl, nw, rfl⟩
            have hl3 : (⟨sw.toArray⟩ : PySem.Str).length ≤ 6 := by show (List.toArray _).size ≤ 6; rw [List.size_toArray]; omega
            refine wpC_of_any ?_
            k_steps
            rename News _ _ _ _ => kN
            rename Fr _ _ _ _ => kF
            refine turn_end1 (rest := (r1, W.listOf res.toArray k) :: (dR, oR) :: own) kF (fun q hq => kN q (.tail _ (.tail _ hq))) hoff2 ?_ (fun z hz1 hz2 => by
              have hz3 : z ≠ Str.ofString "spelled" := by simpa using hz2
              simp only [if_neg hz1, if_neg hz3, hz2, Bool.false_eq_true, if_false])
            rw [htk2, partsL_three hsw]
            exact (hps0.append (.one_txt (str_app _ sw))).append (.num nw2 tx (.txt zw ty .nil))
      case dS =>
        rintro u2 news₂ h2 tk2 ⟨ps, k2, rfl, hps⟩ F5 N5
        dsimp only
        rw [show (PySem.Str.cps ⟨l.toArray⟩).size = l.length from List.size_toArray, List.take_length] at hps
        have hpl := hps.length
        have hpl2 := partsL_len hTab l
        refine wpC_execs_cons (wpC_For ?_)
        k_steps
        refine forC_list2 (h₀ := g) [] (fun j nx => ∃ ps' k2', nx = (r1, W.listOf ps'.toArray k2') :: (P1, W.listOf ps.toArray k2) :: (dR, oR) :: own ∧ ItmsOf ps' (((items.take i).flatMap (expand tab)).flatMap flatI ++ ((partsL tab l).take j).flatMap flatI)) rfl (.tail _ (.head _)) F5 (fun q hq => N5 q ?_) ⟨res, k, rfl, by simpa using hres⟩ rfl rfl ?tP ?dP
        · simp only [List.mem_cons] at hq ⊢
          rcases hq with h | h | h
          · exact .inr (.inl h)
          · exact .inl h
          · exact .inr (.inr h)
        case tP =>
          rintro j v3 u3 news₃ h3 tk3 own3 hv3 hoff3 ⟨res3, k3, rfl, hres3⟩ F6 N6
          simp only [List.cons_append, List.append_assoc] at N6
          obtain ⟨it3, hit3, hvi3⟩ := hps.get j v3 hv3
          have htk3 : (partsL tab l).take (j + 1) = (partsL tab l).take j ++ [it3] := by rw [List.take_add_one, hit3]; rfl
          have hrest3 : ∀ q ∈ (P1, W.listOf ps.toArray k2) :: (dR, oR) :: (own ++ own3), q.1 ≠ r1 := fun q hq => by
            rcases List.mem_cons.mp hq with rfl | hq
            · exact Ne.symm hrP
            rcases List.mem_cons.mp hq with rfl | hq
            · exact hrd
            rcases List.mem_append.mp hq with hq | hq
            · exact hoff q hq r1 (.head _)
            · exact hoff3 q hq r1 (.head _)
          have hr3 : res3.length ≤ 95000 := by
            have := hres3.length
            rw [List.length_append, ← hres.length, flatI_len, List.length_take] at this
            omega
          rcases it3 with n3 | p3
          · obtain ⟨t3, rfl⟩ : ∃ t, v3 = .int n3 t := by cases hvi3; exact ⟨_, rfl⟩
            refine wpC_of_any ?_
            k_steps
            rename News _ _ _ _ => kN
            rename Fr _ _ _ _ => kF
            refine turn_end2 (rest := (P1, W.listOf ps.toArray k2) :: (dR, oR) :: own) kF (fun q hq => kN q (.tail _ hq)) (.head _) hoff3 ?_ (fun z hz1 hz2 => by simp only [if_neg hz1, hz2, Bool.false_eq_true, if_false])
            rw [htk3, List.flatMap_append, ← List.append_assoc]
            exact hres3.append (.num 100 _ (.num n3 _ .nil))
          · obtain ⟨t3, rfl⟩ : ∃ t, v3 = .str ⟨p3.toArray⟩ t := by cases hvi3; exact ⟨_, rfl⟩
            rcases hrkv p3 with ⟨hrn, hr0⟩ | ⟨tr, hrs⟩
            · refine wpC_of_any ?_
              k_steps
              rename News _ _ _ _ => kN
              rename Fr _ _ _ _ => kF
              refine turn_end2 (rest := (P1, W.listOf ps.toArray k2) :: (dR, oR) :: own) kF (fun q hq => kN q (.tail _ hq)) (.head _) hoff3 ?_ (fun z hz1 hz2 => by simp only [if_neg hz1, hz2, Bool.false_eq_true, if_false])
              rw [htk3, List.flatMap_append, ← List.append_assoc]
              refine hres3.append ?_
              show ItmsOf _ [.num (rankOf p3), .txt p3]
              rw [hr0]
              exact .num 0 _ (.txt p3 _ .nil)
            · refine wpC_of_any ?_
              k_steps
              rename News _ _ _ _ => kN
              rename Fr _ _ _ _ => kF
              refine turn_end2 (rest := (P1, W.listOf ps.toArray k2) :: (dR, oR) :: own) kF (fun q hq => kN q (.tail _ hq)) (.head _) hoff3 ?_ (fun z hz1 hz2 => by simp only [if_neg hz1, hz2, Bool.false_eq_true, if_false])
              rw [htk3, List.flatMap_append, ← List.append_assoc]
              exact hres3.append (.num (rankOf p3) _ (.txt p3 _ .nil))
        case dP =>
          rintro u3 news₃ h3 tk3 ⟨res3, k3, rfl, hres3⟩ F6 N6
          dsimp only
          refine wpC_of_any ?_
          k_steps
          dsimp only
          refine wpC_of_any ?_
          k_steps
          refine turn_end1 (ps' := res3) (k' := k3) (rest := [(dR, oR)]) F6 (fun q hq => N6 q ?_) hoff ?_ (fun z hz1 hz2 => ?_)
          · simp only [List.mem_cons, List.mem_append, List.not_mem_nil, or_false] at hq ⊢
            rcases hq with h | h | h
            · exact .inl h
            · exact .inr (.inr (.inl h))
            · exact .inr (.inr (.inr h))
          · rw [htake, List.flatMap_append, List.flatMap_append]
            rw [hpl, List.take_length] at hres3
            simpa [expand] using hres3
          · have hz3 : z ≠ Str.ofString "parts" ∧ z ≠ Str.ofString "sign" ∧ z ≠ Str.ofString "spelled" ∧ z ≠ Str.ofString "part" := by simpa only [List.contains_cons, List.contains_nil, Bool.or_false, Bool.or_eq_false_iff, beq_eq_false_iff_ne] using hz2
            have hz4 : [Str.ofString "spelled"].contains z = false := by simpa only [List.contains_cons, List.contains_nil, Bool.or_false, beq_eq_false_iff_ne] using hz3.2.2.1
            simp only [if_neg hz1, if_neg hz3.1, if_neg hz3.2.1, if_neg hz3.2.2.2, hz2, hz4, List.contains_nil, Bool.false_eq_true, if_false]
end Mine
end

/-! ## Tabs0 -/
section
open PySem PySem.W PyProof.Rows
set_option maxRecDepth 100000
set_option autoImplicit false
namespace Mine
def tabT (rows : List (Nat × List Itm)) (c : Nat) : List Itm := (rows.lookup c).getD [.txt [c]]
inductive RowsOf (made : List (Addr × Obj)) : List (PySem.Str × Value) → List (Nat × List Itm) → Prop
  | nil : RowsOf made [] []
  | cons {x : PySem.Str} {c : Nat} {a : Addr} {ws : List Value} {n : Nat} {items : List Itm} {kvs : List (PySem.Str × Value)} {rows : List (Nat × List Itm)}
      (hx : x = ⟨#[c]⟩) (hm : (a, W.listOf ws.toArray n) ∈ made) (hi : ItmsOf ws items) (hw : WordOk items) (h : RowsOf made kvs rows) : RowsOf made ((x, .ref a) :: kvs) ((c, items) :: rows)
theorem ofS_cs (x : String) : Str.ofString x = ⟨(cs x).toArray⟩ := rfl
theorem RowsOf.one {made : List (Addr × Obj)} {k x : String} {c : Nat} {a : Addr} {t : Tok} {n : Nat} {kvs : List (PySem.Str × Value)} {rows : List (Nat × List Itm)}
    (hx : Str.ofString k = ⟨#[c]⟩) (hl : (cs x).length ≤ 6) (hm : (a, W.listOf #[.str (Str.ofString x) t] n) ∈ made) (h : RowsOf made kvs rows) : RowsOf made ((Str.ofString k, .ref a) :: kvs) ((c, [.txt (cs x)]) :: rows) :=
  .cons (ws := [.str (Str.ofString x) t]) hx hm (.one_txt (ofS_cs x)) (.inl ⟨_, rfl, hl⟩) h
theorem RowsOf.three {made : List (Addr × Obj)} {k x z : String} {c v : Nat} {a : Addr} {t t2 t3 : Tok} {n : Nat} {kvs : List (PySem.Str × Value)} {rows : List (Nat × List Itm)}
    (hx : Str.ofString k = ⟨#[c]⟩) (hl : (cs x).length ≤ 6) (hz : (cs z).length ≤ 6) (hm : (a, W.listOf #[.str (Str.ofString x) t, .int (v : Nat) t2, .str (Str.ofString z) t3] n) ∈ made) (h : RowsOf made kvs rows) : RowsOf made ((Str.ofString k, .ref a) :: kvs) ((c, [.txt (cs x), .num v, .txt (cs z)]) :: rows) :=
  .cons (ws := [.str (Str.ofString x) t, .int (v : Nat) t2, .str (Str.ofString z) t3]) hx hm (.txt (cs x) t (.num v t2 (.one_txt (ofS_cs z)))) (.inr ⟨_, _, _, rfl, hl, hz⟩) h
def TabL (prog : Program) (w : World) (made : List (Addr × Obj)) (d : Addr) (tab : Nat → List Itm) : Prop :=
  ∃ o kvs, (d, o) ∈ made ∧ Obj.IsDictOf (PySem.strKind prog w) o kvs ∧ (d == sysModules) = false ∧ ∀ c, WordOk (tab c) ∧
    ((valueAt kvs ⟨#[c]⟩ = none ∧ tab c = [.txt [c]]) ∨ ∃ a ws n, valueAt kvs ⟨#[c]⟩ = some (.ref a) ∧ (a, W.listOf ws.toArray n) ∈ made ∧ ItmsOf ws (tab c))
theorem RowsOf.tab {made : List (Addr × Obj)} {kvs : List (PySem.Str × Value)} {rows : List (Nat × List Itm)} (h : RowsOf made kvs rows) (c : Nat) : WordOk (tabT rows c) ∧
    ((valueAt kvs ⟨#[c]⟩ = none ∧ tabT rows c = [.txt [c]]) ∨ ∃ a ws n, valueAt kvs ⟨#[c]⟩ = some (.ref a) ∧ (a, W.listOf ws.toArray n) ∈ made ∧ ItmsOf ws (tabT rows c)) := by
  induction h with
  | nil => exact ⟨.inl ⟨_, rfl, by simp⟩, .inl ⟨rfl, rfl⟩⟩
  | @cons x d a ws n items kvs rows hx hm hi hw h ih =>
    subst hx
    unfold tabT
    rw [List.lookup_cons, valueAt_cons]
    by_cases e : c = d
    · subst e
      rw [beq_self_eq_true, if_pos rfl]
      exact ⟨hw, .inr ⟨a, ws, n, rfl, hm, hi⟩⟩
    · rw [beq_eq_false_iff_ne.mpr e, if_neg (by intro q; injection q with q; injection q with q; injection q with q; exact e q.symm)]
      exact ih
theorem TabL.mk {prog : Program} {w : World} {made : List (Addr × Obj)} {d : Addr} {o : Obj} {kvs : List (PySem.Str × Value)} {rows : List (Nat × List Itm)}
    (hm : (d, o) ∈ made) (hd : Obj.IsDictOf (PySem.strKind prog w) o kvs) (lo : (d == sysModules) = false) (h : RowsOf made kvs rows) : TabL prog w made d (tabT rows) :=
  ⟨o, kvs, hm, hd, lo, h.tab⟩
theorem TabL.at {prog : Program} {w : World} {made : List (Addr × Obj)} {d : Addr} {tab : Nat → List Itm} {h₀ h : Heap} {L : Addr} (t : TabL prog w made d tab) (N : ∀ p ∈ made, h.get? p.1 = some p.2 ∧ p.1 ≠ L ∧ h₀.get? p.1 = none) : TabIn prog w h d tab := by
  obtain ⟨o, kvs, hm, hd, lo, hc⟩ := t
  refine ⟨o, kvs, (N _ hm).1, hd, lo, fun c => ⟨(hc c).1, ?_⟩⟩
  rcases (hc c).2 with h | ⟨a, ws, n, h1, h2, h3⟩
  · exact .inl h
  · exact .inr ⟨a, ws, n, h1, (N _ h2).1, h3⟩
theorem allLt_memT {b : Addr} {ps : List (Addr × Obj)} (h : AllLt b ps) : ∀ q ∈ ps, q.1 < b := by
  induction ps with
  | nil => intro q hq; cases hq
  | cons p r ih =>
    intro q hq
    rcases List.mem_cons.mp hq with rfl | hq
    · exact h.1
    · exact ih h.2 q hq
def rows0 : List (Nat × List Itm) := []
def rows1 : List (Nat × List Itm) := [(38, [.txt (cs "&amp;")]), (60, [.txt (cs "&lt;")]), (62, [.txt (cs "&gt;")])]
def rows2 : List (Nat × List Itm) := [(38, [.txt (cs "&amp;")]), (60, [.txt (cs "&lt;")]), (62, [.txt (cs "&gt;")]), (34, [.txt (cs "&quot;")]), (13, [.txt (cs "&#"), .num 13, .txt (cs ";")]), (10, [.txt (cs "&#"), .num 10, .txt (cs ";")]), (9, [.txt (cs "&#"), .num 9, .txt (cs ";")])]
def rows3 : List (Nat × List Itm) := [(38, [.txt (cs "&amp;")]), (62, [.txt (cs "&gt;")]), (34, [.txt (cs "&quot;")])]
def rows4 : List (Nat × List Itm) := [(38, [.txt (cs "&amp;")]), (60, [.txt (cs "&lt;")]), (62, [.txt (cs "&gt;")]), (13, [.txt (cs "&#xD;")])]
def rows5 : List (Nat × List Itm) := [(38, [.txt (cs "&amp;")]), (60, [.txt (cs "&lt;")]), (34, [.txt (cs "&quot;")]), (9, [.txt (cs "&#x"), .num 9, .txt (cs ";")]), (10, [.txt (cs "&#xA;")]), (13, [.txt (cs "&#xD;")])]
end Mine
end

/-! ## Tabs3 -/
section
local macro_rules | `(tactic| walk_at "pad 0") => `(tactic| skip)
local macro_rules | `(tactic| walk_at "pad 1") => `(tactic| skip)
local macro_rules | `(tactic| walk_at "pad 2") => `(tactic| skip)
local macro_rules | `(tactic| walk_at "pad 3") => `(tactic| skip)
local macro_rules | `(tactic| walk_at "pad 4") => `(tactic| skip)
local macro_rules | `(tactic| walk_at "pad 5") => `(tactic| skip)
local macro_rules | `(tactic| walk_at "pad 6") => `(tactic| skip)
open PySem PySem.W PyProof.Rows
set_option maxRecDepth 100000
set_option maxHeartbeats 8000000
set_option autoImplicit false
namespace Mine
theorem gen_any {prog : Program} {w : World} {A : Around} {α : Type} {M : Sem α} {Q : α → Shared → Prop} {E : Value → Shared → Prop} {hp : Heap} {ge : _} {dr : _} {tk : Nat} {os : _} (h : ∀ tk', wpAny (model prog w) A M Q E ⟨hp, ge, dr, tk', os⟩) : wpAny (model prog w) A M Q E ⟨hp, ge, dr, tk, os⟩ := h tk
local macro_rules | `(tactic| walk_at "eval Dict nil nil") => `(tactic| (k_here; refine newDict_K (by k_asm) (by k_asm) (TopRead.nolimit (by k_asm)) ?_; intro d' h' o' F' N' l1 lo' hs' fs' hi' fi'; (try k_lt l1)))
local macro_rules | `(tactic| walk_at "evalPairs") => `(tactic| (k_here; refine gen_any (tk := _ + _) ?_; intro tk; dsimp only))
local macro_rules | `(tactic| walk_at "own m_mem") => `(tactic| repeat' (first | exact List.Mem.head _ | apply List.Mem.tail))
local macro_rules | `(tactic| walk_at "own r_one") => `(tactic| (refine RowsOf.one (by decide +kernel) (by decide +kernel) (by walk_at "own m_mem") ?_))
local macro_rules | `(tactic| walk_at "own r_three") => `(tactic| (refine RowsOf.three (by decide +kernel) (by decide +kernel) (by decide +kernel) (by walk_at "own m_mem") ?_))
theorem mem_more {p q : Addr × Obj} {l : List (Addr × Obj)} (h : p ∈ l) : p ∈ q :: l := .tail _ h
theorem tabs_c : ∀ (w : World) (mean : ExcName → Option Value) (mg mb : PySem.Str → Option Value) (news : List (Addr × Obj))
   (dp un : Nat) (gd : Option (List Code)) (cn : PySem.Str) (cs : Scope) (a : Addr) (ccd : Value) (cl : List (PySem.Str × Addr)) (outer : List Env) (A₀ : Around) (base h₀ : Heap) (L : Addr) (m : PySem.Str → Option Value) (s : Shared) (Q E : Value → Shared → Prop)
   (B : Below A₀ base outer h₀) (F : Fr h₀ L s.heap m) (KX : (MineH.hd.heap_39 w.params).In h₀) (N : News h₀ L s.heap news)
   (T : Top MineH.hd.view_39 (looseW MineH.hd.view_39 [Str.ofString "_twin_re_1", Str.ofString "_ver_stages"]) mean mg mb h₀) (hcs : cs.kind = .function)
   (hdp : dp + 1 < recursionLimit) (hun : un + 8 < cLine)
   (ret : ∀ (l d0 d1 d2 d3 d4 d5 : Addr) (more : List (Addr × Obj)) h' tk, TabL Challenge.rw_ny0115_01.row.prog w more d0 (tabT rows0) → TabL Challenge.rw_ny0115_01.row.prog w more d1 (tabT rows1) → TabL Challenge.rw_ny0115_01.row.prog w more d2 (tabT rows2) →
     TabL Challenge.rw_ny0115_01.row.prog w more d3 (tabT rows3) → TabL Challenge.rw_ny0115_01.row.prog w more d4 (tabT rows4) → TabL Challenge.rw_ny0115_01.row.prog w more d5 (tabT rows5) → (∀ p ∈ news, p ∈ more) → (∀ p ∈ news, p.1 < l) →
     Fr h₀ L h' m → News h₀ L h' ((l, W.listOf #[.ref d0, .ref d1, .ref d2, .ref d3, .ref d4, .ref d5] 0) :: more) → Q (.ref l) { s with heap := h', toks := tk }),
   wpAny (model Challenge.rw_ny0115_01.row.prog w) (ktrTop dp un gd cn cs L a ccd cl outer) (call (.ref 93) []) Q E s := by
  w_on
  k_fill
  intro w mean mg mb news dp un gd cn cs a ccd cl outer A₀ base h₀ L m s Q E B F KX N T hcs hdp hun ret
  refine wpAny_call ?_
  k_dflt cell_enter
  k_steps
  rename (Fr h₀ L { heap := _, gens := _, drawn := _, toks := _, os := _ : Shared}.heap m) => kF
  rename (News h₀ L { heap := _, gens := _, drawn := _, toks := _, os := _ : Shared}.heap _) => kN
  rename (_ ∧ _ ∧ _ ∧ _ ∧ _) => kL
  refine ret _ _ _ _ _ _ _ _ _ _ ?_ ?_ ?_ ?_ ?_ ?_ ?_ ?_ kF kN
  · exact .mk (by walk_at "own m_mem") (by assumption) (by assumption) .nil
  · refine .mk (by walk_at "own m_mem") (by assumption) (by assumption) ?_
    walk_at "own r_one"; walk_at "own r_one"; walk_at "own r_one"; exact .nil
  · refine .mk (by walk_at "own m_mem") (by assumption) (by assumption) ?_
    walk_at "own r_one"; walk_at "own r_one"; walk_at "own r_one"; walk_at "own r_one"; walk_at "own r_three"; walk_at "own r_three"; walk_at "own r_three"; exact .nil
  · refine .mk (by walk_at "own m_mem") (by assumption) (by assumption) ?_
    walk_at "own r_one"; walk_at "own r_one"; walk_at "own r_one"; exact .nil
  · refine .mk (by walk_at "own m_mem") (by assumption) (by assumption) ?_
    walk_at "own r_one"; walk_at "own r_one"; walk_at "own r_one"; walk_at "own r_one"; exact .nil
  · refine .mk (by walk_at "own m_mem") (by assumption) (by assumption) ?_
    walk_at "own r_one"; walk_at "own r_one"; walk_at "own r_one"; walk_at "own r_three"; walk_at "own r_one"; walk_at "own r_one"; exact .nil
  · intro p hp
    repeat (first | exact hp | apply List.Mem.tail)
  · intro p hp
    have kL2 := kL
    repeat (first | exact allLt_memT kL2 p hp | replace kL2 := kL2.2)
end Mine
end

/-! ## Spine5 -/
section
set_option maxRecDepth 100000
open PySem PySem.Calls PyProof.Rows PySem.W PySem.Spec
set_option autoImplicit false
namespace Mine
theorem codeC_cellsN {prog : Program} {w : World} {A : Around} {R : Result → Shared → Prop} {s : Shared} {name : PySem.Str} {params : Arguments} {body : List Stmt} {scope : Scope}
    {pm cd doc : Value} {a : Addr} {o : Obj} {args : List Value} {binds : List (PySem.Str × Value)}
    (hroom : A.depth < recursionLimit) (ho : s.heap.get? a = some o) (hdata : o.data = .func (Calls.docDef name params body scope pm cd doc)) (hlim : s.heap.NoLimit) (hcd : s.heap.CodeRec cd name)
    (hbind : bindArgs (Calls.docDef name params body scope pm cd doc) ⟨args, []⟩ = pure binds)
    (hkind : ∀ x ∈ binds, scope.names.lookup x.1 = some .local ∨ (scope.names.lookup x.1 = some .cell ∧ ((cellsFrom (s.heap.objs.size + 1) scope.names []).lookup x.1).isSome = true))
    (hnd : ((cellsFrom 0 scope.names []).map (·.1)).Nodup)
    (h : ∀ h₁ tk cells, Fr s.heap s.heap.objs.size h₁ (bindL (envOfC name scope s.heap.objs.size a cd).kindOf binds fun _ => none) → News s.heap s.heap.objs.size h₁ cells →
      CellsAre (bindC (envOfC name scope s.heap.objs.size a cd).kindOf binds fun _ => none) (cellsFrom (s.heap.objs.size + 1) scope.names []) cells →
      wpC (model prog w) (A.deeper (envOfC name scope s.heap.objs.size a cd)) (execs body (envOfC name scope s.heap.objs.size a cd))
        (fun f s' => R (.ok (.ret (match f with | .ret v => v | _ => .none))) s') (fun _ _ => False)
        { s with heap := h₁, toks := tk })
    (hco : scope.isCoroutine = false := by rfl) (hgen : scope.isGenerator = false := by rfl) (hk : scope.kind = .function := by rfl) :
    codeC (model prog w) A (.call (.ref a) ⟨args, []⟩) R s := by
  refine codeC_call_function (fd := Calls.docDef name params body scope pm cd doc) hroom ho hdata hco hgen rfl hcd ?_
  rw [hbind]
  refine wpAny_pure (wpAny_newFunctionEnv_cells hk hkind fun env he s' X => ?_)
  subst he
  refine ⟨hlim.keeps X.toInCall.keep, codeC_func ?_⟩
  obtain ⟨h₁, tk, rfl, _⟩ := X.done
  obtain ⟨cells, N, Y⟩ := Cl.news (h₀ := s.heap) (Nat.le_refl _) fun n c hm => ⟨X.cell n c (lookup_of_mem_nodup (cellsFrom_names scope.names 0 (s.heap.objs.size + 1) [] [] rfl ▸ hnd) hm), X.above n c hm⟩
  exact wpC_mono (h h₁ tk cells ⟨X.toInCall.ns, X.toInCall.keep, X.toInCall.fresh⟩ N Y) (fun _ _ x => x) fun _ _ x => x.elim
end Mine
end

/-! ## Text0 -/
section
open PySem PySem.W PyProof.Rows
set_option maxRecDepth 100000
set_option autoImplicit false
namespace Mine
def pieceL : List PySem.Str := [Str.ofString "0", Str.ofString "1", Str.ofString "9", Str.ofString ".", Str.ofString "_", Str.ofString "+", Str.ofString "-", Str.ofString "a", Str.ofString "b", Str.ofString "c", Str.ofString "p", Str.ofString "l", Str.ofString "x", Str.ofString "rc", Str.ofString "RC", Str.ofString "dev", Str.ofString "alpha", Str.ofString "beta", Str.ofString "#", Str.ofString ";", Str.ofString "&", Str.ofString "<", Str.ofString ">", Str.ofString "\"", Str.ofString "\r", Str.ofString "\n", Str.ofString "\t", Str.ofString " "]
def pickS (k : Int) : PySem.Str := pieceL.getD (k.fmod 28).toNat PySem.Str.empty
def okC (c : Nat) : Bool := c != 0 && decide (c < 128)
theorem pieceL_ok : ∀ i : Fin 28, (pieceL.getD i.val PySem.Str.empty).length ≤ 5 ∧ (pieceL.getD i.val PySem.Str.empty).cps.toList.all okC = true := by decide +kernel
theorem pickS_ok (k : Int) : (pickS k).length ≤ 5 ∧ (pickS k).cps.toList.all okC = true := by
  have h1 := Int.fmod_nonneg_of_pos k (b := 28) (by decide)
  have h2 := Int.fmod_lt_of_pos k (b := 28) (by decide)
  exact pieceL_ok ⟨(k.fmod 28).toNat, by omega⟩
theorem pickS_len (k : Int) : (pickS k).length ≤ 10 := Nat.le_trans (pickS_ok k).1 (by decide)
theorem join_cps : ∀ l : List Int, (PySem.Str.join (Str.ofString "") (l.map pickS)).cps.toList = l.flatMap fun k => (pickS k).cps.toList
  | [] => rfl
  | [k] => by simp [PySem.Str.join]
  | k :: j :: r => by
    have ih := join_cps (j :: r)
    show (pickS k ++ Str.ofString "" ++ PySem.Str.join (Str.ofString "") ((j :: r).map pickS)).cps.toList = _
    rw [PySem.Str.cps_append, PySem.Str.cps_append, Array.toList_append, Array.toList_append, ih]
    simp [show (Str.ofString "").cps.toList = [] from by decide +kernel]
theorem join_fact (l : List Int) (hl : l.length ≤ 12) : ∃ t : List Nat, PySem.Txt.join (Str.ofString "") (l.map pickS) = ⟨t.toArray⟩ ∧ t.length ≤ 60 ∧ ∀ c ∈ t, c ≠ 0 ∧ c < 128 := by
  refine ⟨l.flatMap fun k => (pickS k).cps.toList, ?_, ?_, ?_⟩
  · rw [eq_of_beq (join_plain_closes (Str.ofString "") (l.map pickS)), ← join_cps l]
  · have : ∀ l : List Int, (l.flatMap fun k => (pickS k).cps.toList).length ≤ 5 * l.length := by
      intro l
      induction l with
      | nil => simp
      | cons k r ih =>
        have := (pickS_ok k).1
        rw [List.flatMap_cons, List.length_append, List.length_cons]
        have e : (pickS k).cps.toList.length = (pickS k).length := by rw [Array.length_toList]; rfl
        omega
    have := this l
    omega
  · intro c hc
    obtain ⟨k, _, hk⟩ := List.mem_flatMap.mp hc
    have := List.all_eq_true.mp (pickS_ok k).2 c hk
    simpa [okC] using this
def litS : String := "1.0rc9-dev+\t9<a&#10;_pl.\r\n\"01>"
theorem lit_ok : (cs litS).length ≤ 30 ∧ (cs litS).all okC = true := by decide +kernel
theorem text_ok {t : List Nat} (hl : t.length ≤ 60) (h : ∀ c ∈ t, c ≠ 0 ∧ c < 128) : (t ++ cs litS).length ≤ 100 ∧ ∀ c ∈ t ++ cs litS, c ≠ 0 ∧ c < 128 := by
  refine ⟨by rw [List.length_append]; have := lit_ok.1; omega, fun c hc => ?_⟩
  rcases List.mem_append.mp hc with hc | hc
  · exact h c hc
  · have := List.all_eq_true.mp lit_ok.2 c hc
    simpa [okC] using this
end Mine
end

/-! ## Plain3 -/
section
local macro_rules | `(tactic| walk_at "pad 0") => `(tactic| skip)
local macro_rules | `(tactic| walk_at "pad 1") => `(tactic| skip)
local macro_rules | `(tactic| walk_at "pad 2") => `(tactic| skip)
local macro_rules | `(tactic| walk_at "pad 3") => `(tactic| skip)
local macro_rules | `(tactic| walk_at "pad 4") => `(tactic| skip)
local macro_rules | `(tactic| walk_at "pad 5") => `(tactic| skip)
local macro_rules | `(tactic| walk_at "pad 6") => `(tactic| skip)
local macro_rules | `(tactic| walk_at "pad 7") => `(tactic| skip)
local macro_rules | `(tactic| walk_at "pad 8") => `(tactic| skip)
local macro_rules | `(tactic| walk_at "pad 9") => `(tactic| skip)
local macro_rules | `(tactic| walk_at "pad 10") => `(tactic| skip)
local macro_rules | `(tactic| walk_at "pad 11") => `(tactic| skip)
open PySem PySem.W PyProof.Rows
set_option maxRecDepth 100000
set_option autoImplicit false
namespace Mine
def esc1 : List (Nat × List Nat) := [(38, cs "&amp;"), (60, cs "&lt;"), (62, cs "&gt;")]
def esc2 : List (Nat × List Nat) := [(38, cs "&amp;"), (60, cs "&lt;"), (62, cs "&gt;"), (34, cs "&quot;"), (13, cs "&#13;"), (10, cs "&#10;"), (9, cs "&#09;")]
def esc3 : List (Nat × List Nat) := [(38, cs "&amp;"), (62, cs "&gt;"), (34, cs "&quot;")]
def esc4 : List (Nat × List Nat) := [(38, cs "&amp;"), (60, cs "&lt;"), (62, cs "&gt;"), (13, cs "&#xD;")]
def esc5 : List (Nat × List Nat) := [(38, cs "&amp;"), (60, cs "&lt;"), (34, cs "&quot;"), (9, cs "&#x9;"), (10, cs "&#xA;"), (13, cs "&#xD;")]
theorem fit_same {rows : List (Nat × List Itm)} {esc : List (Nat × List Nat)} {c : Nat} (h1 : rows.lookup c = none) (h2 : esc.lookup c = none) : Fits (tabT rows) (escT esc) c := by
  unfold Fits tabT escT
  rw [h1, h2]
  exact ⟨fun _ => rfl, fun h => .inl ⟨[c], rfl, rfl, by simp, fun d hd => by rw [List.mem_singleton.mp hd]; exact h⟩⟩
def allOth (s : List Nat) : Bool := !s.isEmpty && s.all fun d => kindOf d == 2
def allDig (s : List Nat) : Bool := !s.isEmpty && s.all fun d => kindOf d == 1
theorem allOth_ne {s : List Nat} (h : allOth s = true) : s ≠ [] ∧ ∀ d ∈ s, kindOf d = 2 := by
  unfold allOth at h
  obtain ⟨h1, h2⟩ := Bool.and_eq_true_iff.mp h
  exact ⟨(fun e => by (rw [e] at h1; exact absurd h1 (by decide))), fun d hd => by simpa using List.all_eq_true.mp h2 d hd⟩
theorem allDig_ne {s : List Nat} (h : allDig s = true) : s ≠ [] ∧ ∀ d ∈ s, kindOf d = 1 := by
  unfold allDig at h
  obtain ⟨h1, h2⟩ := Bool.and_eq_true_iff.mp h
  exact ⟨(fun e => by (rw [e] at h1; exact absurd h1 (by decide))), fun d hd => by simpa using List.all_eq_true.mp h2 d hd⟩
theorem fit_one {rows : List (Nat × List Itm)} {esc : List (Nat × List Nat)} {c : Nat} {s : List Nat} (hk : kindOf c = 2) (h1 : rows.lookup c = some [.txt s]) (h2 : esc.lookup c = some s) (h : allOth s = true) : Fits (tabT rows) (escT esc) c := by
  unfold Fits tabT escT
  rw [h1, h2]
  exact ⟨fun h => absurd hk h, fun _ => .inl ⟨s, rfl, rfl, (allOth_ne h).1, (allOth_ne h).2⟩⟩
theorem fit_three {rows : List (Nat × List Itm)} {esc : List (Nat × List Nat)} {c n : Nat} {s z d e : List Nat} (hk : kindOf c = 2) (h1 : rows.lookup c = some [.txt s, .num n, .txt z]) (h2 : esc.lookup c = some e) (he : e = s ++ d ++ z)
    (hs : allOth s = true) (hz : allOth z = true) (hd : allDig d = true) (hn : d.foldl (fun a x => a * 10 + (x - 48)) 0 = n) : Fits (tabT rows) (escT esc) c := by
  unfold Fits tabT escT
  rw [h1, h2]
  exact ⟨fun h => absurd hk h, fun _ => .inr ⟨s, n, z, d, rfl, he, (allOth_ne hs).1, (allOth_ne hz).1, (allDig_ne hd).1, (allOth_ne hs).2, (allOth_ne hz).2, (allDig_ne hd).2, hn⟩⟩
theorem look_none {α : Type} (l : List (Nat × α)) (c : Nat) (h : ∀ p ∈ l, c ≠ p.1) : l.lookup c = none := by
  induction l with
  | nil => rfl
  | cons p r ih =>
    obtain ⟨k, v⟩ := p
    rw [List.lookup_cons, beq_eq_false_iff_ne.mpr (h (k, v) (.head _))]
    exact ih fun p hp => h p (.tail _ hp)
local macro_rules | `(tactic| walk_at "own f_one") => `(tactic| exact fit_one (by decide) rfl rfl (by decide +kernel))
theorem fits1 (c : Nat) : Fits (tabT rows1) (escT esc1) c := by
  by_cases h1 : c = 38
  · subst h1; walk_at "own f_one"
  by_cases h2 : c = 60
  · subst h2; walk_at "own f_one"
  by_cases h3 : c = 62
  · subst h3; walk_at "own f_one"
  exact fit_same (look_none _ _ (by simp [rows1]; omega)) (look_none _ _ (by simp [esc1]; omega))
theorem fits2 (c : Nat) : Fits (tabT rows2) (escT esc2) c := by
  by_cases h1 : c = 38
  · subst h1; walk_at "own f_one"
  by_cases h2 : c = 60
  · subst h2; walk_at "own f_one"
  by_cases h3 : c = 62
  · subst h3; walk_at "own f_one"
  by_cases h4 : c = 34
  · subst h4; walk_at "own f_one"
  by_cases h5 : c = 13
  · subst h5; exact fit_three (d := [49, 51]) (by decide) rfl rfl (by decide +kernel) (by decide +kernel) (by decide +kernel) (by decide) (by decide)
  by_cases h6 : c = 10
  · subst h6; exact fit_three (d := [49, 48]) (by decide) rfl rfl (by decide +kernel) (by decide +kernel) (by decide +kernel) (by decide) (by decide)
  by_cases h7 : c = 9
  · subst h7; exact fit_three (d := [48, 57]) (by decide) rfl rfl (by decide +kernel) (by decide +kernel) (by decide +kernel) (by decide) (by decide)
  exact fit_same (look_none _ _ (by simp [rows2]; omega)) (look_none _ _ (by simp [esc2]; omega))
theorem fits3 (c : Nat) : Fits (tabT rows3) (escT esc3) c := by
  by_cases h1 : c = 38
  · subst h1; walk_at "own f_one"
  by_cases h3 : c = 62
  · subst h3; walk_at "own f_one"
  by_cases h4 : c = 34
  · subst h4; walk_at "own f_one"
  exact fit_same (look_none _ _ (by simp [rows3]; omega)) (look_none _ _ (by simp [esc3]; omega))
theorem fits4 (c : Nat) : Fits (tabT rows4) (escT esc4) c := by
  by_cases h1 : c = 38
  · subst h1; walk_at "own f_one"
  by_cases h2 : c = 60
  · subst h2; walk_at "own f_one"
  by_cases h3 : c = 62
  · subst h3; walk_at "own f_one"
  by_cases h5 : c = 13
  · subst h5; walk_at "own f_one"
  exact fit_same (look_none _ _ (by simp [rows4]; omega)) (look_none _ _ (by simp [esc4]; omega))
theorem fits5 (c : Nat) : Fits (tabT rows5) (escT esc5) c := by
  by_cases h1 : c = 38
  · subst h1; walk_at "own f_one"
  by_cases h2 : c = 60
  · subst h2; walk_at "own f_one"
  by_cases h4 : c = 34
  · subst h4; walk_at "own f_one"
  by_cases h7 : c = 9
  · subst h7; exact fit_three (d := [57]) (by decide) rfl rfl (by decide +kernel) (by decide +kernel) (by decide +kernel) (by decide) (by decide)
  by_cases h6 : c = 10
  · subst h6; walk_at "own f_one"
  by_cases h5 : c = 13
  · subst h5; walk_at "own f_one"
  exact fit_same (look_none _ _ (by simp [rows5]; omega)) (look_none _ _ (by simp [esc5]; omega))
theorem fits0 (c : Nat) : Fits (tabT rows0) (escT []) c := fit_same rfl rfl
theorem escT_nil (l : List Nat) : l.flatMap (escT []) = l := by
  induction l with
  | nil => rfl
  | cons a r ih => rw [List.flatMap_cons, ih]; rfl
theorem esc_ok {esc : List (Nat × List Nat)} (h : (esc.all fun p => p.2.all fun c => c != 0 && decide (c < 128)) = true) (h6 : (esc.all fun p => decide (p.2.length ≤ 6)) = true) {l : List Nat} (hl : l.length ≤ 100) (hc : ∀ c ∈ l, c ≠ 0 ∧ c < 128) :
    (l.flatMap (escT esc)).length ≤ 600 ∧ ∀ c ∈ l.flatMap (escT esc), c ≠ 0 ∧ c < 128 := by
  have key : ∀ c, c ≠ 0 ∧ c < 128 → (escT esc c).length ≤ 6 ∧ ∀ d ∈ escT esc c, d ≠ 0 ∧ d < 128 := by
    intro c hc
    unfold escT
    clear hl
    induction esc with
    | nil => exact ⟨by simp, fun d hd => by rw [List.mem_singleton.mp hd]; exact hc⟩
    | cons p r ih =>
      obtain ⟨k, v⟩ := p
      rw [List.all_cons, Bool.and_eq_true_iff] at h h6
      rw [List.lookup_cons]
      cases e : c == k with
      | true => exact ⟨by simpa using h6.1, fun d hd => by simpa using List.all_eq_true.mp h.1 d hd⟩
      | false => exact ih h.2 h6.2
  refine ⟨?_, fun d hd => ?_⟩
  · have : ∀ l : List Nat, (∀ c ∈ l, c ≠ 0 ∧ c < 128) → (l.flatMap (escT esc)).length ≤ 6 * l.length := by
      intro l
      induction l with
      | nil => simp
      | cons a r ih =>
        intro hc
        have h1 := (key a (hc a (.head _))).1
        have h2 := ih fun c h => hc c (.tail _ h)
        rw [List.flatMap_cons, List.length_append, List.length_cons]
        omega
    have := this l hc
    omega
  · obtain ⟨c, hcl, hcd⟩ := List.mem_flatMap.mp hd
    exact (key c (hc c hcl)).2 d hcd
end Mine
end

/-! ## LoopZ -/
section
set_option maxRecDepth 100000
open PySem PySem.Calls PyProof.Rows PySem.W
set_option autoImplicit false
namespace Mine
section
variable {prog : Program} {w : World} {A : Around} {s : Shared} {R : Result → Shared → Prop}
theorem codeC_forLoop_any {target : Expr} {it : Value} {body orelse : List Stmt} {env : Env} (I : Nat → Shared → Prop)
    (turn : ∀ n s, I n s → wpAny (model prog w) A (pyNext it) (fun r s₁ => match r with
      | none => wpAny (model prog w) A (execs orelse env) (fun f s₃ => R (.ok f) s₃) (notedBy (model prog w) A env fun e s' => R (.error e) s') s₁
      | some v => wpAny (model prog w) A (letOwnedTupleGo target it v) (fun _ s₁' => wpAny (model prog w) A (assign target env v) (fun _ s₂ => wpC (model prog w) A (execs body env) (fun f s₃ => match f with
          | .next | .cont => ∃ m, m < n ∧ I m s₃
          | .brk => R (.ok .next) s₃
          | .ret v => R (.ok (.ret v)) s₃) (notedBy (model prog w) A env fun e s' => R (.error e) s') s₂) (notedBy (model prog w) A env fun e s' => R (.error e) s') s₁') (notedBy (model prog w) A env fun e s' => R (.error e) s') s₁) (notedBy (model prog w) A env fun e s' => R (.error e) s') s)
    (n : Nat) (h : I n s) : codeC (model prog w) A (.forLoop target it body orelse env) R s := by
  refine codeC_loop rfl I (fun n s hI => ?_) n h
  show wpC _ _ ((forTurn target it body orelse env).onRaise (fun x => do noteFrame x env; theTreesLotGoes x)) _ _ s
  refine wpC_noted ?_
  simp only [forTurn]
  refine wpC_then (wpAny_standAt (wpC_then (wpAny_onRaise (wpAny_mono (turn n s hI) (fun r s₁ h₁ => ?_) fun _ _ h' => wpAny_standAt h'))))
  cases r with
  | none => exact wpC_pure (.inr ⟨rfl, codeC_of_any (codeAny_block h₁)⟩)
  | some v =>
    refine wpC_then (wpAny_mono h₁ (fun _ s₁' h₁' => ?_) fun _ _ h' => h')
    refine wpC_then (wpAny_mono h₁' (fun _ s₂ h₂ => wpC_bind (wpC_mono h₂ (fun f s₃ h₃ => ?_) fun _ _ h' => h')) fun _ _ h' => h')
    cases f with
    | next => exact wpC_pure (.inl ⟨rfl, h₃⟩)
    | cont => exact wpC_pure (.inl ⟨rfl, h₃⟩)
    | brk => exact wpC_pure h₃
    | ret v => exact wpC_pure h₃
end
section
variable {prog : Program} {w : World} {A : Around} {E : Value → Shared → Prop} {s : Shared} {env : Env} {h₀ : Heap} {target : Expr} {body : List Stmt} {R : Result → Shared → Prop}
/-- what a turn over a fixed ledger leaves -/
def TurnZ (h₀ : Heap) (L : Addr) (news : List (Addr × Obj)) (m₀ : PySem.Str → Option Value) (stored : List PySem.Str) (s₁ : Shared) (f : Flow) (s₂ : Shared) : Prop :=
  f = .next ∧ ∃ h' tk m', s₂ = { s₁ with heap := h', toks := tk } ∧ Fr h₀ L h' m' ∧ News h₀ L h' news ∧ ∀ z, stored.contains z = false → m' z = m₀ z
theorem forC_turns {I : Addr} {fp wr : List Addr} {n : Nat} {P Md : Nat → Value → Heap → Prop} {St : Nat → Heap → Prop} {m₀ : PySem.Str → Option Value} {news : List (Addr × Obj)} (stored : List PySem.Str) (W : KTurns prog w A target I fp wr n P Md St)
    (hLf : env.locals ∉ fp) (hwr : ∀ b ∈ wr, h₀.get? b = none) (hnw : ∀ p ∈ news, p.1 ∉ wr) (hst : St 0 s.heap) (F : Fr h₀ env.locals s.heap m₀) (N : News h₀ env.locals s.heap news)
    (turn : ∀ i v (u : PySem.Str → Option Value) h tk own, i < n → P i v h → Fr h₀ env.locals h (fun y => if stored.contains y then u y else m₀ y) → News h₀ env.locals h (own ++ news) →
      wpAny (model prog w) A (assign target env v) (fun _ s₂ => wpC (model prog w) A (execs body env) (TurnZ h₀ env.locals (own ++ news) m₀ stored { s with heap := h, toks := tk }) (fun _ _ => False) s₂) (fun _ _ => False) { s with heap := h, toks := tk })
    (done : ∀ (u : PySem.Str → Option Value) h tk, Fr h₀ env.locals h (fun y => if stored.contains y then u y else m₀ y) → News h₀ env.locals h news → R (.ok .next) { s with heap := h, toks := tk }) :
    codeC (model prog w) A (.forLoop target (.ref I) body [] env) R s := by
  have hLw : env.locals ∉ wr := fun h => hLf (W.sub _ h)
  have old : ∀ b o, h₀.get? b = some o → b ∉ wr := fun b o e hb => by rw [hwr b hb] at e; cases e
  have em : ∀ m' : PySem.Str → Option Value, (∀ z, stored.contains z = false → m' z = m₀ z) → m' = fun y => if stored.contains y then m' y else m₀ y := fun m' hm => by
    funext y
    cases hc : stored.contains y with
    | true => simp
    | false => simp only [Bool.false_eq_true, if_false]; exact hm y hc
  refine codeC_forLoop_any
    (fun k s' => ∃ h' tk m' i, s' = { s with heap := h', toks := tk } ∧ St i h' ∧ Fr h₀ env.locals h' m' ∧ News h₀ env.locals h' news ∧ (∀ z, stored.contains z = false → m' z = m₀ z) ∧ i ≤ n ∧ k = n + 1 - i) ?_ (n + 1)
    ⟨s.heap, s.toks, m₀, 0, rfl, hst, F, N, fun _ _ => rfl, Nat.zero_le _, rfl⟩
  rintro k s' ⟨h', tk, m', i, rfl, hst', F', N', hm, hi, rfl⟩
  have next : ∀ h₁ : Heap, (∀ b o, b ∉ wr → h'.get? b = some o → h₁.get? b = some o) → Fr h₀ env.locals h₁ m' ∧ News h₀ env.locals h₁ news := fun h₁ hk₁ =>
    ⟨⟨F'.ns.at' fun o e => hk₁ _ o hLw e, fun b o e => hk₁ b o (old b o e) (F'.keep b o e), F'.above⟩, fun p hp => ⟨hk₁ _ _ (hnw p hp) (N' p hp).1, (N' p hp).2⟩⟩
  by_cases hlt : i < n
  · refine W.item i _ _ _ hlt hst' fun v h₁ tk₁ hMd hk₁ => ?_
    refine W.go i v _ _ _ hMd fun h₂ hP hst₂ hk₂ => ?_
    obtain ⟨F₂, N₂⟩ := next h₂ fun b o hb x => hk₂ b o hb (hk₁ b o hb x)
    have Nown : News h₀ env.locals h₂ (PyProof.Rows.ownOf h₀ fp h₂) := news_ownOf hLf
    rw [em m' hm] at F₂
    refine wpAny_mono (turn i v m' h₂ tk₁ (PyProof.Rows.ownOf h₀ fp h₂) hlt hP F₂ (Nown.append N₂)) (fun _ s₂ h₂' => wpC_mono h₂' (fun f s₃ h₃ => ?_) fun _ _ e => e.elim) fun _ _ e => e.elim
    obtain ⟨rfl, h₃', tk₃, m₂, rfl, F₃, N₃, hm₃⟩ := h₃
    refine ⟨n + 1 - (i + 1), by omega, h₃', tk₃, m₂, i + 1, rfl, ?_, F₃, N₃.right, hm₃, hlt, rfl⟩
    refine W.frame _ _ _ hst₂ fun b hb o e => ?_
    cases hn : h₀.get? b with
    | some o₀ =>
      have : o₀ = o := by have q := F₂.keep b o₀ hn; rw [e] at q; exact (Option.some.inj q).symm
      exact this ▸ F₃.keep b o₀ hn
    | none => exact (N₃ _ (List.mem_append_left _ (mem_ownOf hb hn e))).1
  · have hin : i = n := by omega
    subst hin
    refine W.done _ _ _ hst' fun h₁ tk₁ hk₁ => wpAny_execs_nil ?_
    obtain ⟨F₁, N₁⟩ := next h₁ hk₁
    rw [em m' hm] at F₁
    exact done m' h₁ tk₁ F₁ N₁
theorem forC_zip {elts : List Expr} {k : Nat} {pos : Pos} {l1 l2 : Addr} {xs ys : List Value} {n1 n2 : Nat} {m₀ : PySem.Str → Option Value} {news : List (Addr × Obj)} (stored : List PySem.Str)
    (hh : A.handled = none) (F : Fr h₀ env.locals s.heap m₀) (N : News h₀ env.locals s.heap news) (hm1 : (l1, W.listOf xs.toArray n1) ∈ news) (hm2 : (l2, W.listOf ys.toArray n2) ∈ news)
    (turn : ∀ (i : Nat) x y T (u : PySem.Str → Option Value) h tk own, xs[i]? = some x → ys[i]? = some y → h.IsTuple T #[x, y] → Fr h₀ env.locals h (fun y => if stored.contains y then u y else m₀ y) → News h₀ env.locals h (own ++ news) →
      wpAny (model prog w) A (assign (.Tuple elts k pos) env (.ref T)) (fun _ s₂ => wpC (model prog w) A (execs body env) (TurnZ h₀ env.locals (own ++ news) m₀ stored { s with heap := h, toks := tk }) (fun _ _ => False) s₂) (fun _ _ => False) { s with heap := h, toks := tk })
    (done : ∀ (u : PySem.Str → Option Value) h tk, Fr h₀ env.locals h (fun y => if stored.contains y then u y else m₀ y) → News h₀ env.locals h news → R (.ok .next) { s with heap := h, toks := tk }) :
    wpAny (model prog w) A (call (.type "zip") [.ref l1, .ref l2]) (fun xv s₁ => wpAny (model prog w) A (pyIter xv) (fun it s₂ => codeC (model prog w) A (.forLoop (.Tuple elts k pos) it body [] env) R s₂) E s₁) E s := by
  have hax1 := N _ hm1
  have hax2 := N _ hm2
  have hl1 : s.heap.IsList l1 xs.toArray := ⟨_, hax1.1, rfl, n1, rfl⟩
  have hl2 : s.heap.IsList l2 ys.toArray := ⟨_, hax2.1, rfl, n2, rfl⟩
  have hlt1 : l1 < s.heap.objs.size := Heap.lt_size hax1.1
  have hlt2 : l2 < s.heap.objs.size := Heap.lt_size hax2.1
  have hLs : env.locals < s.heap.objs.size := F.ns.lt
  have D : ZipApart (s.heap.objs.size + 4) (s.heap.objs.size + 2) (s.heap.objs.size + 3) s.heap.objs.size (s.heap.objs.size + 1) l1 l2 := ktu_apart _ _ _ hlt1 hlt2
  refine call_zip_2 hl1 hl2 fun h' hz hTI hTO hi1 hi2 hsz hk => ?_
  refine wpAny_pyIter_zip hz ?_
  refine forC_turns (s := { s with heap := h' }) (h₀ := h₀) stored (KTurns.ofWalksU (WalksT.zip2 hh _ _ _ _ _ _ _ D xs.toArray ys.toArray).toU) ?_ ?_ ?_ ?_ (F.keeps hk) (N.grown hk) ?_ done
  · intro hb
    have hb' : env.locals = s.heap.objs.size + 4 ∨ env.locals = s.heap.objs.size + 2 ∨ env.locals = s.heap.objs.size + 3 ∨ env.locals = s.heap.objs.size ∨ env.locals = s.heap.objs.size + 1 ∨ env.locals = l1 ∨ env.locals = l2 := by simpa using hb
    rcases hb' with e | e | e | e | e | e | e
    · exact ktu_ne 4 hLs e
    · exact ktu_ne 2 hLs e
    · exact ktu_ne 3 hLs e
    · exact Nat.ne_of_lt hLs e
    · exact ktu_ne 1 hLs e
    · exact hax1.2.1 e.symm
    · exact hax2.2.1 e.symm
  · intro b hb
    have hb' : b = s.heap.objs.size + 4 ∨ b = s.heap.objs.size + 3 ∨ b = s.heap.objs.size ∨ b = s.heap.objs.size + 1 := by simpa using hb
    rcases hb' with rfl | rfl | rfl | rfl
    · exact ktu_new F (Nat.le_add_right _ _)
    · exact ktu_new F (Nat.le_add_right _ _)
    · exact ktu_new F (Nat.le_refl _)
    · exact ktu_new F (Nat.le_add_right _ _)
  · intro p hp hb
    have hlp := Heap.lt_size (N p hp).1
    have hb' : p.1 = s.heap.objs.size + 4 ∨ p.1 = s.heap.objs.size + 3 ∨ p.1 = s.heap.objs.size ∨ p.1 = s.heap.objs.size + 1 := by simpa using hb
    rcases hb' with e | e | e | e
    · exact ktu_ne 4 hlp e
    · exact ktu_ne 3 hlp e
    · exact Nat.ne_of_lt hlp e
    · exact ktu_ne 1 hlp e
  · exact ⟨hz, hTI, ⟨_, _, hTO⟩, hi1, hi2, hl1.at fun o e => hk l1 o e, hl2.at fun o e => hk l2 o e⟩
  · rintro i v u h tk own hi ⟨T, vals, rfl, ⟨x, y, hx, hy, rfl⟩, hT⟩ F₁ N₁
    exact turn i x y T u h tk own (by simpa using hx) (by simpa using hy) hT F₁ N₁
end
end Mine
end

/-! ## Fin0 -/
section
set_option maxRecDepth 100000
open PySem PySem.W PyProof.Rows PyProof.V PySem.Spec PySem.SeqAt
set_option autoImplicit false
namespace Mine
def curN : Option Itm → Nat
  | some (.txt l) => l.length
  | _ => 0
theorem go_len (r : List Nat) : ∀ cur, (go cur r).length ≤ (curL cur).length + r.length := by
  induction r with
  | nil => intro cur; rw [go_nil]; simp
  | cons c r ih =>
    intro cur
    rcases kind_cases c with hk | hk | hk
    · rw [go_sep _ _ _ hk, List.length_append, List.length_cons]
      have := ih none
      simp only [curL, List.length_nil] at this
      omega
    · rw [go_dig _ _ _ hk, List.length_append, List.length_cons]
      have := ih (some (.num (nextN cur c)))
      rcases cur with _ | (n | q) <;> simp only [curL, leftN, List.length_nil, List.length_cons] at * <;> omega
    · rw [go_oth _ _ _ hk, List.length_append, List.length_cons]
      have := ih (some (.txt (nextT cur c)))
      rcases cur with _ | (n | q) <;> simp only [curL, leftT, List.length_nil, List.length_cons] at * <;> omega
theorem go_mem (P : Nat → Prop) (r : List Nat) : ∀ cur, (∀ c ∈ r, P c) → (∀ t, cur = some (.txt t) → ∀ c ∈ t, P c) → ∀ t, Itm.txt t ∈ go cur r → (∀ c ∈ t, P c) ∧ t.length ≤ curN cur + r.length := by
  induction r with
  | nil =>
    intro cur _ hc t ht
    rw [go_nil] at ht
    rcases cur with _ | (n | q)
    · cases ht
    · have := List.mem_singleton.mp ht; cases this
    · have e := List.mem_singleton.mp ht
      injection e with e
      subst e
      exact ⟨hc t rfl, by simp [curN]⟩
  | cons c r ih =>
    intro cur hr hc t ht
    have hr' : ∀ d ∈ r, P d := fun d hd => hr d (.tail _ hd)
    have old : ∀ q, cur = some (.txt q) → t = q → (∀ c ∈ t, P c) ∧ t.length ≤ curN cur + (c :: r).length := by
      rintro q rfl rfl
      exact ⟨hc _ rfl, by simp only [curN]; omega⟩
    rcases kind_cases c with hk | hk | hk
    · rw [go_sep _ _ _ hk] at ht
      rcases List.mem_append.mp ht with h | h
      · rcases cur with _ | (n | q)
        · cases h
        · have := List.mem_singleton.mp h; cases this
        · have e := List.mem_singleton.mp h
          injection e with e
          exact old q rfl e
      · have := ih none hr' (fun _ e => by cases e) t h
        exact ⟨this.1, by have := this.2; simp only [curN, List.length_cons] at *; omega⟩
    · rw [go_dig _ _ _ hk] at ht
      rcases List.mem_append.mp ht with h | h
      · rcases cur with _ | (n | q)
        · cases h
        · cases h
        · have e := List.mem_singleton.mp h
          injection e with e
          exact old q rfl e
      · have := ih _ hr' (fun _ e => by cases e) t h
        exact ⟨this.1, by have := this.2; simp only [curN, List.length_cons] at *; omega⟩
    · rw [go_oth _ _ _ hk] at ht
      rcases List.mem_append.mp ht with h | h
      · rcases cur with _ | (n | q)
        · cases h
        · have := List.mem_singleton.mp h; cases this
        · cases h
      · have hcP := hr c (.head _)
        have := ih _ hr' (fun q e d hd => by
          injection e with e; injection e with e
          subst e
          rcases cur with _ | (n | q)
          · simp only [nextT, List.nil_append] at hd; rw [List.mem_singleton.mp hd]; exact hcP
          · simp only [nextT, List.nil_append] at hd; rw [List.mem_singleton.mp hd]; exact hcP
          · simp only [nextT] at hd
            rcases List.mem_append.mp hd with hd | hd
            · exact hc q rfl d hd
            · rw [List.mem_singleton.mp hd]; exact hcP) t h
        refine ⟨this.1, ?_⟩
        have := this.2
        rcases cur with _ | (n | q) <;> simp only [curN, nextT, List.length_append, List.length_cons, List.length_nil] at * <;> omega
theorem go_bounds {l : List Nat} (hl : l.length ≤ 100) : (go none l).length ≤ 100 ∧ ∀ t, Itm.txt t ∈ go none l → t.length ≤ 100 := by
  refine ⟨?_, fun t ht => ?_⟩
  · have := go_len l none
    simp only [curL, List.length_nil] at this
    omega
  · have := (go_mem (fun _ => True) l none (fun _ _ => trivial) (fun _ e => by cases e) t ht).2
    simp only [curN] at this
    omega
def dataI : Itm → PyData
  | .num n => .int n
  | .txt l => .str ⟨l.toArray⟩
theorem readsAll_itms {h : Heap} : ∀ {vs : List Value} {is : List Itm}, ItmsOf vs is → ReadsAll h vs (is.map dataI) []
  | _, _, .nil => .nil
  | _, _, .num n t r => by
    have := ReadsAll.cons (Reads.int (h := h) n t) (readsAll_itms (h := h) r)
    simpa [dataI] using this
  | _, _, .txt l t r => by
    have := ReadsAll.cons (Reads.str (h := h) ⟨l.toArray⟩ t) (readsAll_itms (h := h) r)
    simpa [dataI] using this
theorem canLay_itms : ∀ is : List Itm, (∀ t, Itm.txt t ∈ is → ∀ c ∈ t, c < 128) → PyData.canLayAll0 (is.map dataI) = true
  | [], _ => by simp [PyData.canLayAll0]
  | .num n :: r, h => by
    have := canLay_itms r fun t ht => h t (.tail _ ht)
    simp [PyData.canLayAll0, PyData.canLay0, dataI, this]
  | .txt l :: r, h => by
    have := canLay_itms r fun t ht => h t (.tail _ ht)
    have hl : PyData.strOk (⟨l.toArray⟩ : PySem.Str) = true := by
      unfold PyData.strOk
      rw [Array.all_eq_true']
      intro c hc
      have := h l (.head _) c (by simpa using hc)
      exact decide_eq_true (by omega)
    simp [PyData.canLayAll0, PyData.canLay0, dataI, this, hl]
theorem depth_itms : ∀ is : List Itm, PyData.depthAll (is.map dataI) ≤ 1
  | [] => by simp [PyData.depthAll]
  | .num n :: r => by
    have := depth_itms r
    simp only [List.map_cons, PyData.depthAll, PyData.depth, dataI]
    omega
  | .txt n :: r => by
    have := depth_itms r
    simp only [List.map_cons, PyData.depthAll, PyData.depth, dataI]
    omega
theorem noMix_itms : ∀ is : List Itm, noMixAll (is.map dataI) (is.map dataI) = true
  | [] => by simp [noMixAll]
  | .num n :: r => by simp [noMixAll, noMix, dataI, noMix_itms r]
  | .txt n :: r => by simp [noMixAll, noMix, dataI, noMix_itms r]
theorem same_itms : ∀ is : List Itm, PySem.Spec.sameAll (is.map dataI) (is.map dataI) = true
  | [] => by simp [PySem.Spec.sameAll]
  | .num n :: r => by simp [PySem.Spec.sameAll, PySem.Spec.same, dataI, same_itms r]
  | .txt n :: r => by simp [PySem.Spec.sameAll, PySem.Spec.same, dataI, same_itms r]
theorem shaped_itms {is : List Itm} (h : ∀ t, Itm.txt t ∈ is → ∀ c ∈ t, c < 128) : shaped (.list (is.map dataI)) = true := by
  have h1 := depth_itms is
  have h2 : PyData.depth (.list (is.map dataI)) ≤ 64 := by simp only [PyData.depth]; omega
  show (PyData.canLay0 (.list (is.map dataI)) && decide (PyData.depth (.list (is.map dataI)) ≤ 64)) = true
  rw [Bool.and_eq_true]
  exact ⟨by simp only [PyData.canLay0]; exact canLay_itms is h, decide_eq_true h2⟩
theorem flatI_mem {is : List Itm} {t : List Nat} (h : Itm.txt t ∈ is.flatMap flatI) : Itm.txt t ∈ is := by
  obtain ⟨x, hx, ht⟩ := List.mem_flatMap.mp h
  cases x with
  | num n => simp [flatI] at ht
  | txt l => simp [flatI] at ht; subst ht; exact hx
section
variable {prog : Program} {w : World} {A : Around} {E : Value → Shared → Prop} {s : Shared} {h₀ : Heap} {L : Addr}
theorem ne_itms {a b : Addr} {vs us : List Value} {ka kb : Nat} {is js : List Itm} {Q : Value → Shared → Prop} {news : List (Addr × Obj)} (N : News h₀ L s.heap news) (hl : (a, W.listOf vs.toArray ka) ∈ news) (hi : ItmsOf vs is) (hl' : (b, W.listOf us.toArray kb) ∈ news) (hi' : ItmsOf us js)
    (hu : A.units + 64 < cLine) (e : js = is) (hc : ∀ t, Itm.txt t ∈ is → ∀ c ∈ t, c < 128)
    (h : Q (.bool false) s) : wpAny (model prog w) A (compareOp .NotEq (.ref a) (.ref b)) Q E s := by
  subst e
  refine ne_dataH_same (.list (N _ hl).1 rfl rfl (by simpa using readsAll_itms hi)) (.list (N _ hl').1 rfl rfl (by simpa using readsAll_itms hi')) (shaped_itms hc) (shaped_itms hc) hu (by simp only [noMix]; exact noMix_itms _) ?_
  simp only [PySem.Spec.same]
  rw [same_itms]
  exact h
end
end Mine
end

/-! ## Pair0 -/
section
set_option maxRecDepth 100000
open PySem PySem.W PyProof.Rows
set_option autoImplicit false
namespace Mine
def PairOk (w : World) (more : List (Addr × Obj)) (l : List Nat) (x y : Value) : Prop :=
  ∃ lw tw d tab, x = .str ⟨lw.toArray⟩ tw ∧ y = .ref d ∧ TabL Challenge.rw_ny0115_01.row.prog w more d tab ∧ lw.length ≤ 600 ∧ (∀ c ∈ lw, c ≠ 0 ∧ c < 128) ∧ (go none l).flatMap (expand tab) = go none lw
theorem pair_one {w : World} {more : List (Addr × Obj)} {l : List Nat} {rows : List (Nat × List Itm)} {esc : List (Nat × List Nat)} {d : Addr} {t : Tok} (hll : l.length ≤ 100) (hlc : ∀ c ∈ l, c ≠ 0 ∧ c < 128)
    (T : TabL Challenge.rw_ny0115_01.row.prog w more d (tabT rows)) (hf : ∀ c, Fits (tabT rows) (escT esc) c) (h : (esc.all fun p => p.2.all fun c => c != 0 && decide (c < 128)) = true) (h6 : (esc.all fun p => decide (p.2.length ≤ 6)) = true) :
    PairOk w more l (.str ⟨(l.flatMap (escT esc)).toArray⟩ t) (.ref d) :=
  ⟨_, _, _, _, rfl, rfl, T, (esc_ok h h6 hll hlc).1, (esc_ok h h6 hll hlc).2, go_told _ _ _ fun c _ => hf c⟩
theorem pair_ok {w : World} {more : List (Addr × Obj)} {l : List Nat} {d0 d1 d2 d3 d4 d5 : Addr} {t0 t1 t2 t3 t4 t5 : Tok} {i : Nat} {x y : Value} (hll : l.length ≤ 100) (hlc : ∀ c ∈ l, c ≠ 0 ∧ c < 128)
    (T0 : TabL Challenge.rw_ny0115_01.row.prog w more d0 (tabT rows0)) (T1 : TabL Challenge.rw_ny0115_01.row.prog w more d1 (tabT rows1)) (T2 : TabL Challenge.rw_ny0115_01.row.prog w more d2 (tabT rows2)) (T3 : TabL Challenge.rw_ny0115_01.row.prog w more d3 (tabT rows3))
    (T4 : TabL Challenge.rw_ny0115_01.row.prog w more d4 (tabT rows4)) (T5 : TabL Challenge.rw_ny0115_01.row.prog w more d5 (tabT rows5))
    (hx : [Value.str ⟨l.toArray⟩ t0, .str ⟨(l.flatMap (escT esc1)).toArray⟩ t1, .str ⟨(l.flatMap (escT esc2)).toArray⟩ t2, .str ⟨(l.flatMap (escT esc3)).toArray⟩ t3, .str ⟨(l.flatMap (escT esc4)).toArray⟩ t4, .str ⟨(l.flatMap (escT esc5)).toArray⟩ t5][i]? = some x)
    (hy : [Value.ref d0, .ref d1, .ref d2, .ref d3, .ref d4, .ref d5][i]? = some y) : PairOk w more l x y := by
  match i, hx, hy with
  | 0, hx, hy =>
    cases hx; cases hy
    have := pair_one (t := t0) (esc := []) hll hlc T0 fits0 rfl rfl
    rw [escT_nil] at this
    exact this
  | 1, hx, hy => cases hx; cases hy; exact pair_one hll hlc T1 fits1 (by decide +kernel) (by decide +kernel)
  | 2, hx, hy => cases hx; cases hy; exact pair_one hll hlc T2 fits2 (by decide +kernel) (by decide +kernel)
  | 3, hx, hy => cases hx; cases hy; exact pair_one hll hlc T3 fits3 (by decide +kernel) (by decide +kernel)
  | 4, hx, hy => cases hx; cases hy; exact pair_one hll hlc T4 fits4 (by decide +kernel) (by decide +kernel)
  | 5, hx, hy => cases hx; cases hy; exact pair_one hll hlc T5 fits5 (by decide +kernel) (by decide +kernel)
  | i + 6, hx, hy => simp at hy
section
variable {M : Model} {A : Around} {E : Value → Shared → Prop} {s : Shared} {env : Env}
theorem wpC_isTrue_Compare2 {l : PySem.Expr} {op : CmpOp} {r : PySem.Expr} {pos : Pos} {whole : Sem Value} {Q : Bool → Shared → Prop}
    (h : wpC M A (eval l env) (fun a s₁ => wpC M A (eval r env) (fun b s₂ => wpAny M A (compareOp op a b)
      (fun c s₃ => wpAny M A (truthy c) Q E s₃) E s₂) E s₁) E s)
    (hm : behindInMarks op r = false := by with_unfolding_all rfl) : wpC M A (isTrue (.Compare l [op] [r] pos) env whole) Q E s := fun Γ p hΓ hc => by
  simp only [isTrue_Compare1, markedBehindIn_of_false hm, Sem.wp_bind', Sem.wp_holding, Sem.wp_cmd_standAt, Sem.wp_operate]
  exact Sem.wp_mono M Γ _ (fun a p₁ s₁ h₁ => Sem.wp_mono M Γ _ (fun b _ s₂ h₂ => Sem.wp_mono M Γ _ (fun c p₃ s₃ h₃ => h₃ Γ p₃ hΓ)
    (fun _ _ _ h' => h') _ _ (h₂ Γ _ hΓ)) (fun _ _ _ h' => h') _ _ (h₁ Γ p₁ hΓ hc)) (fun _ _ _ h' => h') _ _ (h Γ p hΓ hc)
end
section
variable {prog : Program} {w : World} {A : Around} {E : Value → Shared → Prop} {s : Shared} {env : Env}
theorem wpC_Call_K {K : Frag} {x : PySem.Str} {p pos : Pos} {e : PySem.Expr} {rest : List PySem.Expr} {a : Addr} {o : Obj} {fd : FuncData} {Q : Value → Shared → Prop} (ho : K.lookup a = some o) (hd : o.data = .func fd)
    (h : wpAny (model prog w) A (eval (.Name x p) env) (fun f s₁ => f = .ref a ∧ wpAny (model prog w) A (spliced (backTo pos (starEach (e :: rest) env))) (fun vs s₂ => K.In s₂.heap ∧ wpC (model prog w) A (call (.ref a) vs) Q E s₂) E s₁) E s)
    (he : starEach (e :: rest) env = (false, eval e env) :: starEach rest env := by rfl)
    (hplain : (backTo pos (starEach rest env)).any (·.1) = false := by rfl) :
    wpC (model prog w) A (eval (.Call (.Name x p) (e :: rest) [] pos) env) Q E s :=
  wpC_Call_ref (o := o) (fd := fd) (wpAny_mono h (fun f s₁ h₁ => ⟨h₁.1, wpAny_mono h₁.2 (fun vs s₂ h₂ => ⟨⟨h₂.1 _ _ ho, hd⟩, h₂.2⟩) fun _ _ x => x⟩) fun _ _ x => x) he hplain
end
end Mine
end

/-! ## Law0 -/
section
local macro_rules | `(tactic| walk_at "pad 0") => `(tactic| skip)
local macro_rules | `(tactic| walk_at "pad 1") => `(tactic| skip)
local macro_rules | `(tactic| walk_at "pad 2") => `(tactic| skip)
local macro_rules | `(tactic| walk_at "pad 3") => `(tactic| skip)
local macro_rules | `(tactic| walk_at "pad 4") => `(tactic| skip)
local macro_rules | `(tactic| walk_at "pad 5") => `(tactic| skip)
local macro_rules | `(tactic| walk_at "pad 6") => `(tactic| skip)
local macro_rules | `(tactic| walk_at "pad 7") => `(tactic| skip)
local macro_rules | `(tactic| walk_at "pad 8") => `(tactic| skip)
local macro_rules | `(tactic| walk_at "pad 9") => `(tactic| skip)
local macro_rules | `(tactic| walk_at "pad 10") => `(tactic| skip)
open PySem PySem.W PyProof.Rows
set_option maxRecDepth 100000
set_option maxHeartbeats 8000000
set_option autoImplicit false
namespace Mine
local macro_rules | `(tactic| walk_at "CompSrc") => `(tactic| (k_here; refine Stop.out ?_))
local macro_rules | `(tactic| walk_at "call builtin:str.join") => `(tactic| (k_here; refine Stop.out ?_))
local macro_rules | `(tactic| walk_at "call ref") => `(tactic| (k_here; refine Stop.out ?_))
theorem law0 : PySem.Challenge.rw_ny0115_01.Holds := MineH.hd (by
  w_on
  k_fill
  intro w s₀ s₁ mg mb G Y fa o pm cd doc dV kV ho hd hcd hD hmg hg args vals as hpre hlay hrd hwl hlo
  have KX := kIn_of Y
  have X := (Ground.X G).1
  have V := (Ground.X G).2
  try w_nolog (first | (have GL := glob_more (Ground.glob G (by first | k_qdec | decide +kernel) (by first | k_qdec | decide +kernel)) V) | (have GL := glob_more (Ground.glob G (by decide +kernel)) V))
  have T := G.T
  have TA := at_of_top T
  try (obtain ⟨_, _, he, B0⟩ := based_of_top T rfl hmg ho hd; have he' : cd = _ := he; subst he'; clear he)
  clear hmg
  wrow_args hpre hlay hrd hwl hlo
  all_goals (
   refine wpC_call ?_
   w_top on
   have K0 := below_caller (Top.heap T)
   have he := Dflts.none hD rfl; subst he; have he := Dflts.noKw hD; subst he
   refine codeC_cellsN (by decide) ho (fd_plain hd) (Top.nolimit T) hcd rfl (kinds_of (by kinds_ok)) (by decide) fun h₁ tk₁ cells F N0 X0 => ?_
   cells_open X0
   clear hd TA
   k_drop
   refine wpC_execs_off ?_
   k_steps
   dsimp only
   refine wpC_execs_off ?_
   k_steps
   refine Stop.mk ?_
   (try k_fmods); (try kcf_lens)
   refine LCg.CompSrc.ledger (by rfl) (by k_asm) (by k_asm) (by k_mem) (by kcf_size) ?_
   intro g'
   refine kct_list pickS (by first | assumption | l_ints) (fun k' t' I' oI' C' oC' D' m' ys' h' tk' E' hk' hC' hx' F' N' off' ne' hMark' => ?_) ?_
   · simp only [LCg.Off3, and_true] at off'
     k_steps
     exact kct_el rfl (by with_unfolding_all rfl) (by with_unfolding_all rfl)
   · k_steps
     refine Stop.mk ?_
     rename CarriedAll _ (List.map _ _) => ktC
     refine KT.join_B 10 (News.isList (by k_asm) (by k_mem)) ktC ?_ ?_ (by decide) ?_
     · intro a _; exact pickS_len a
     · rw [List.length_take]; omega
     · intro t' k'
       rename IntsAre _ (List.take 12 _) => hI9
       obtain ⟨tx, etx, htl, htc⟩ := join_fact (List.take 12 _) (Nat.le_trans (List.length_take_le _ _) (Nat.le_refl 12))
       rw [etx]
       have hlx : (⟨tx.toArray⟩ : PySem.Str).length ≤ 60 := by show (List.toArray _).size ≤ 60; rw [List.size_toArray]; exact htl
       k_steps
       dsimp only
       rename Fr _ _ _ _ => F1
       rename News _ _ _ _ => N1
       have etext : (⟨tx.toArray⟩ : PySem.Str) ++ Str.ofString "1.0rc9-dev+\t9<a&#10;_pl.\r\n\"01>" = ⟨(tx ++ cs litS).toArray⟩ := str_app tx (cs litS)
       rw [etext] at F1
       obtain ⟨hll, hlc⟩ := text_ok htl htc
       generalize tx ++ cs litS = l at *
       clear etext hlx htl htc etx
       generalize hnw : (_ :: _ : List (Addr × Obj)) = news1 at N1
       clear hnw
       refine wpC_execs_off ?_
       k_steps
       refine Stop.mk ?_
       (refine esc_cdata _ _ _ _ _ _ _ _ _ _ _ _ _ _ _ _ _ _ _ _ _ _ _ _ (by assumption) (by k_asm) (by assumption) (by k_asm) (by assumption) (by rfl) (by decide) (by decide) (by assumption) (by first | assumption | (dsimp only; omega)) ?_; intro t9 h9 tk9 htk9 F9 N9)
       k_steps
       refine Stop.mk ?_
       (refine esc_attrib _ _ _ _ _ _ _ _ _ _ _ _ _ _ _ _ _ _ _ _ _ _ _ _ (by assumption) (by k_asm) (by assumption) (by k_asm) (by assumption) (by rfl) (by decide) (by decide) (by assumption) (by first | assumption | (dsimp only; omega)) ?_; intro t9 h9 tk9 htk9 F9 N9)
       k_steps
       refine Stop.mk ?_
       (refine esc_attrib_html _ _ _ _ _ _ _ _ _ _ _ _ _ _ _ _ _ _ _ _ _ _ _ _ (by assumption) (by k_asm) (by assumption) (by k_asm) (by assumption) (by rfl) (by decide) (by decide) (by assumption) (by first | assumption | (dsimp only; omega)) ?_; intro t9 h9 tk9 htk9 F9 N9)
       k_steps
       refine Stop.mk ?_
       (refine esc_cdata_c14n _ _ _ _ _ _ _ _ _ _ _ _ _ _ _ _ _ _ _ _ _ _ _ _ (by assumption) (by k_asm) (by assumption) (by k_asm) (by assumption) (by rfl) (by decide) (by decide) (by assumption) (by first | assumption | (dsimp only; omega)) ?_; intro t9 h9 tk9 htk9 F9 N9)
       k_steps
       refine Stop.mk ?_
       (refine esc_attrib_c14n _ _ _ _ _ _ _ _ _ _ _ _ _ _ _ _ _ _ _ _ _ _ _ _ (by assumption) (by k_asm) (by assumption) (by k_asm) (by assumption) (by rfl) (by decide) (by decide) (by assumption) (by first | assumption | (dsimp only; omega)) ?_; intro t9 h9 tk9 htk9 F9 N9)
       k_steps
       dsimp only
       refine wpC_execs_off ?_
       k_steps
       refine Stop.mk ?_
       refine runs_c _ _ _ _ _ _ _ _ _ _ _ _ _ _ _ _ _ _ _ _ _ _ _ _ (by assumption) (by k_asm) (by assumption) (by k_asm) (by assumption) (by rfl) (by decide) (by decide) (by assumption) ?_
       intro rR vR kR hR tkR hvR FR NR ltR
       k_steps
       dsimp only
       refine wpC_execs_cons (wpC_For ?_)
       k_steps
       refine Stop.mk ?_
       refine tabs_c _ _ _ _ _ _ _ _ _ _ _ _ _ _ _ _ _ _ _ _ _ _ (by assumption) (by k_asm) (by assumption) (by k_asm) (by assumption) (by rfl) (by decide) (by decide) ?_
       intro lT d0 d1 d2 d3 d4 d5 more hT tkT T0 T1 T2 T3 T4 T5 subT ltT FT NT
       k_steps
       have hRr := subT _ (.head _)
       have hWw := subT _ (.tail _ (.head _))
       clear subT ltT ltR F1 hcd X0
       refine forC_zip [Str.ofString "writing", Str.ofString "table"] rfl FT NT (.tail _ hWw) (.head _) ?turn ?done
       case done =>
         intro u3 h3 tk3 F3 N3
         dsimp only
         refine wpC_of_any ?_
         clear FT NT
         k_steps
         dsimp only
         refine GoodW.toG ?_
         kc_close
       case turn =>
         intro i x y T8 u3 h3 tk3 own hx hy hT8 F3 N3
         clear FT NT
         obtain ⟨lw, tw, dW, tab, rfl, rfl, hTab, hlw, hcw, hgo⟩ := pair_ok hll hlc T0 T1 T2 T3 T4 T5 hx hy
         clear hx hy T0 T1 T2 T3 T4 T5 hWw
         k_steps
         clear F3 N3
         refine wpC_execs_cons (wpC_If (wpC_isTrue_Compare2 ?_))
         refine wpC_Call_K (a := 44) (K := MineH.hd.heap_39 w.params) (by k_is) rfl ?_
         k_steps
         rename Fr _ _ _ _ => F4
         rename News _ _ _ _ => N4
         refine cmp_c _ _ _ _ _ _ _ _ _ _ _ _ _ _ _ _ _ _ _ _ _ F4 KX N4 T (by rfl) (by decide) (by decide) hlw hcw ?_
         intro r5 v5 k5 h5 tk5 hv5 F5 N5
         dsimp only
         clear F4 N4
         refine wpC_Call_K (a := 107) (K := MineH.hd.heap_39 w.params) (by k_is) rfl ?_
         k_steps
         have N6 : ∀ p ∈ more, h5.get? p.1 = some p.2 ∧ p.1 ≠ _ ∧ _ := fun p hp => N5 p (.tail _ (List.mem_append_right _ (.tail _ hp)))
         refine told_c _ _ _ _ _ _ _ _ _ _ _ _ _ _ _ _ _ _ _ _ _ _ _ _ _ F5 KX N5 T (by rfl) (by decide) (by decide) (N6 _ hRr).1 hvR (go_bounds hll).1 (go_bounds hll).2 (hTab.at N6) ?_
         intro r7 v7 k7 h7 tk7 hv7 F7 N7
         dsimp only
         clear F5 N5 N6
         refine ne_itms N7 (.tail _ (.head _)) hv5 (.head _) hv7 (by units_room) (by rw [hgo]) (fun t ht => fun c hc => ((go_mem (fun c => c < 128) lw none (fun c hc => (hcw c hc).2) (fun _ e => by cases e) t (flatI_mem ht)).1 c hc)) ?_
         k_steps
         refine wpC_of_any (wpAny_execs_nil ?_)
         dsimp only
         refine wpC_of_any (wpAny_execs_nil ?_)
         refine ⟨rfl, _, _, _, rfl, F7, fun p hp => N7 p (.tail _ (.tail _ hp)), fun z hz => ?_⟩
         have hz1 : z ≠ Str.ofString "writing" := fun e => by rw [e] at hz; exact absurd hz (by decide +kernel)
         have hz2 : z ≠ Str.ofString "table" := fun e => by rw [e] at hz; exact absurd hz (by decide +kernel)
         simp only [if_neg hz1, if_neg hz2, hz, Bool.false_eq_true, if_false]))
end Mine
end

set_option maxRecDepth 100000 in
set_option maxHeartbeats 8000000 in
theorem PySem.Challenge.cw_ny0115_01_holds : PySem.Challenge.rw_ny0115_01.Holds := by
  exact Mine.law0
