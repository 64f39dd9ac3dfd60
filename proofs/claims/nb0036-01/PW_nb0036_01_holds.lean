import PyProof.Rows.All
import Wide.All
import OpenK.AllK
import KE.KEqDat
import KE.KPop
import KE.KTryDeepN
import Wide.FinOn
import PySem.Challenge.RW_nb0036_01
set_option Elab.async false
-- Hd
section
open PySem PySem.W PyProof.Rows
set_option maxRecDepth 100000
set_option maxHeartbeats 8000000
namespace Mine
open_top hd for PySem.Challenge.rw_nb0036_01
end Mine
end
-- Spec
section
open PySem
namespace Mine
/-- a thing: its place, its sign's code, whether it stands behind an open backslash -/
structure Th where
  k : Nat
  c : Nat
  odd : Bool
/-- what a reading yields: an int, or the place where it is refused -/
inductive Vl where
  | i (n : Int)
  | r (p : Nat)
def dee (d : Nat) (a b : Int) : Int := match d with
  | 0 => a + b
  | 1 => a - b
  | 2 => a * b
  | 3 => a.fdiv b
  | 4 => a.fmod b
  | 5 => Builtin.bitAnd a b
  | 6 => Builtin.bitOr a b
  | 7 => Builtin.bitXor a b
  | 8 => 0 - b
  | _ => 0 - b - 1
def Th.lit (t : Th) : Bool := t.c == 92 || !t.odd
def Th.litV (t : Th) : Int := if t.c = 92 then (t.k : Int) else (t.c : Int) - 48
def Th.one (t : Th) : Bool := t.c == 56 || t.c == 57
def Th.div (t : Th) : Bool := t.c == 51 || t.c == 52
def comb (t : Th) (a b : Vl) : Vl := match a, b with
  | .r p, _ => .r p
  | .i _, .r p => .r p
  | .i a, .i b => if t.div = true ∧ b = 0 then .r t.k else .i (dee (t.c - 48) a b)
def lastV : List Vl → Vl
  | [] => .i 0
  | v :: l => l.getLast?.getD v
/-- one thing upon the stack (its top is the list's end) -/
def stepV (S : List Vl) (t : Th) : List Vl :=
  if t.lit = true then S ++ [.i t.litV]
  else if t.one = true then S.dropLast ++ [comb t (.i 0) (lastV S)]
  else S.dropLast.dropLast ++ [comb t (lastV S.dropLast) (lastV S)]
def stk (ths : List Th) (j : Nat) : List Vl := (ths.take j).foldl stepV []
/-- the reader: from behind, j things are left -/
def rdI (ths : List Th) : Nat → Nat → Vl × Nat
  | 0, _ => (.i 0, 0)
  | _ + 1, 0 => (.i 0, 0)
  | n + 1, j + 1 => match ths[j]? with
    | none => (.i 0, 0)
    | some t =>
      if t.lit = true then (.i t.litV, j)
      else
        let b := rdI ths n j
        if t.one = true then (comb t (.i 0) b.1, b.2)
        else
          let a := rdI ths n b.2
          (comb t a.1 b.1, a.2)
theorem lastV_snoc (S : List Vl) (v : Vl) : lastV (S ++ [v]) = v := by
  cases S with
  | nil => rfl
  | cons x l => simp [lastV]
theorem stk_succ {ths : List Th} {j : Nat} {t : Th} (h : ths[j]? = some t) : stk ths (j + 1) = stepV (stk ths j) t := by
  unfold stk
  rw [List.take_add_one, h]
  simp
/-- the reader reads the stack's top, and leaves the rest of it -/
theorem rdI_stk (ths : List Th) : ∀ (n j : Nat), j ≤ n → j ≤ ths.length →
    (rdI ths n j).1 = lastV (stk ths j) ∧ (rdI ths n j).2 ≤ j ∧ (0 < j → (rdI ths n j).2 < j) ∧ stk ths (rdI ths n j).2 = (stk ths j).dropLast := by
  intro n
  induction n with
  | zero =>
    intro j h1 h2
    have : j = 0 := by omega
    subst this
    exact ⟨rfl, Nat.le_refl _, fun h => absurd h (Nat.lt_irrefl _), rfl⟩
  | succ n ih =>
    intro j h1 h2
    cases j with
    | zero => exact ⟨rfl, Nat.le_refl _, fun h => absurd h (Nat.lt_irrefl _), rfl⟩
    | succ j =>
      have hj : ths[j]? = some ths[j] := List.getElem?_eq_getElem (by omega)
      have hs := stk_succ hj
      have b := ih j (by omega) (by omega)
      rw [hs]
      simp only [rdI, hj]
      unfold stepV
      by_cases hl : ths[j].lit = true
      · rw [if_pos hl, if_pos hl]
        refine ⟨(lastV_snoc _ _).symm, by simp, fun _ => by simp, by simp⟩
      · rw [if_neg hl, if_neg hl]
        by_cases ho : ths[j].one = true
        · rw [if_pos ho, if_pos ho]
          refine ⟨by rw [lastV_snoc, b.1], by simpa using Nat.le_succ_of_le b.2.1, fun _ => by simpa using Nat.lt_succ_of_le b.2.1, by simpa using b.2.2.2⟩
        · rw [if_neg ho, if_neg ho]
          have a := ih (rdI ths n j).2 (by omega) (by omega)
          refine ⟨by rw [lastV_snoc, b.1, a.1, b.2.2.2], ?_, fun _ => ?_, ?_⟩
          · show (rdI ths n (rdI ths n j).2).2 ≤ j + 1
            omega
          · show (rdI ths n (rdI ths n j).2).2 < j + 1
            omega
          · show stk ths (rdI ths n (rdI ths n j).2).2 = _
            rw [a.2.2.2, b.2.2.2]; simp
/-- the fuel does not matter -/
theorem rdI_fuel (ths : List Th) : ∀ (n n' j : Nat), j ≤ n → j ≤ n' → j ≤ ths.length → rdI ths n j = rdI ths n' j := by
  intro n
  induction n with
  | zero =>
    intro n' j h1 h2 h3
    have : j = 0 := by omega
    subst this
    cases n' <;> rfl
  | succ n ih =>
    intro n' j h1 h2 h3
    cases j with
    | zero => cases n' <;> rfl
    | succ j =>
      cases n' with
      | zero => omega
      | succ n' =>
        have hj : ths[j]? = some ths[j] := List.getElem?_eq_getElem (by omega)
        have e := ih n' j (by omega) (by omega) (by omega)
        have hb := (rdI_stk ths n' j (by omega) (by omega)).2.1
        have e2 := ih n' (rdI ths n' j).2 (by omega) (by omega) (by omega)
        simp only [rdI, hj, e, e2]
/-- bits -/
theorem bits_and {x y : Int} {m n : Nat} (hx : Builtin.Int.intBits x ≤ m) (hy : Builtin.Int.intBits y ≤ n) : Builtin.Int.intBits (Builtin.bitAnd x y) ≤ max m n + 1 := by
  have h1 := intBits_le_iff.mp (Nat.le_trans hx (Nat.le_max_left m n))
  have h2 := intBits_le_iff.mp (Nat.le_trans hy (Nat.le_max_right m n))
  refine intBits_le_iff.mpr ?_
  rw [Nat.pow_succ]
  by_cases p : 0 ≤ x <;> by_cases q : 0 ≤ y
  · have e : Builtin.bitAnd x y = ((x.toNat &&& y.toNat : Nat) : Int) := by simp [Builtin.bitAnd, p, q]
    have := @Nat.and_le_left x.toNat y.toNat
    rw [e]; omega
  · have e : Builtin.bitAnd x y = x - ((x.toNat &&& (Builtin.bitNot y).toNat : Nat) : Int) := by simp [Builtin.bitAnd, p, q]
    have := @Nat.and_le_left x.toNat (Builtin.bitNot y).toNat
    rw [e]; omega
  · have e : Builtin.bitAnd x y = y - ((y.toNat &&& (Builtin.bitNot x).toNat : Nat) : Int) := by simp [Builtin.bitAnd, p, q]
    have := @Nat.and_le_left y.toNat (Builtin.bitNot x).toNat
    rw [e]; omega
  · have e : Builtin.bitAnd x y = Builtin.bitNot (((Builtin.bitNot x).toNat ||| (Builtin.bitNot y).toNat : Nat) : Int) := by simp [Builtin.bitAnd, p, q]
    have := @Nat.or_lt_two_pow (Builtin.bitNot x).toNat (Builtin.bitNot y).toNat (max m n) (by unfold Builtin.bitNot; omega) (by unfold Builtin.bitNot; omega)
    rw [e]
    generalize ((Builtin.bitNot x).toNat ||| (Builtin.bitNot y).toNat) = z at this
    unfold Builtin.bitNot; omega
theorem bits_not {x : Int} {m : Nat} (hx : Builtin.Int.intBits x ≤ m) : Builtin.Int.intBits (Builtin.bitNot x) ≤ m + 1 := by
  have h1 := intBits_le_iff.mp hx
  refine intBits_le_iff.mpr ?_
  rw [Nat.pow_succ]; unfold Builtin.bitNot; omega
theorem bits_mono {x : Int} {m n : Nat} (hx : Builtin.Int.intBits x ≤ m) (h : m ≤ n) : Builtin.Int.intBits x ≤ n := Nat.le_trans hx h
theorem bits_dee {d : Nat} {x y : Int} {m n : Nat} (hx : Builtin.Int.intBits x ≤ m) (hy : Builtin.Int.intBits y ≤ n) : Builtin.Int.intBits (dee d x y) ≤ m + n + 6 := by
  have hb : ∀ {x y : Int}, Builtin.Int.intBits x ≤ m + 1 → Builtin.Int.intBits y ≤ n + 1 → Builtin.Int.intBits (Builtin.bitAnd x y) ≤ m + n + 2 := fun {x y} hx hy => bits_mono (bits_and hx hy) (by omega)
  have ho : Builtin.Int.intBits (Builtin.bitOr x y) ≤ m + n + 3 := bits_not (hb (bits_not hx) (bits_not hy))
  unfold dee
  split
  · exact bits_mono (intBits_add_le hx hy) (by omega)
  · exact bits_mono (intBits_sub_le hx hy) (by omega)
  · exact bits_mono (intBits_mul_le hx hy) (by omega)
  · exact bits_mono (intBits_fdiv_le hx) (by omega)
  · exact bits_mono (intBits_fmod_le hx hy) (by omega)
  · exact bits_mono (hb (by omega) (by omega)) (by omega)
  · exact bits_mono ho (by omega)
  · exact bits_mono (intBits_sub_le ho (hb (x := x) (y := y) (by omega) (by omega))) (by omega)
  · rw [Int.zero_sub]; exact bits_mono (intBits_neg_le hy) (by omega)
  · rw [Int.zero_sub]; exact bits_mono (show Builtin.Int.intBits (Builtin.bitNot y) ≤ n + 1 from bits_not hy) (by omega)
def Vl.small (v : Vl) (m : Nat) : Prop := match v with | .i n => Builtin.Int.intBits n ≤ m | .r _ => True
theorem Vl.small.mono {v : Vl} {m n : Nat} (h : v.small m) (hl : m ≤ n) : v.small n := by
  cases v with
  | i x => exact Nat.le_trans h hl
  | r p => trivial
theorem comb_small {t : Th} {a b : Vl} {m n : Nat} (ha : a.small m) (hb : b.small n) : (comb t a b).small (m + n + 6) := by
  cases a with
  | r p => trivial
  | i x =>
    cases b with
    | r p => trivial
    | i y =>
      simp only [comb]
      split
      · trivial
      · exact bits_dee ha hb
/-- the things of a text of at most 63 signs -/
def Good (ths : List Th) : Prop := ths.length < 64 ∧ ∀ t ∈ ths, t.k < 64 ∧ (t.c = 92 ∨ (48 ≤ t.c ∧ t.c < 58))
theorem litV_small {t : Th} (h : t.k < 64) (hc : t.c = 92 ∨ (48 ≤ t.c ∧ t.c < 58)) : Builtin.Int.intBits t.litV ≤ 6 := by
  refine intBits_le_iff.mpr ?_
  unfold Th.litV
  split <;> omega
theorem rdI_small {ths : List Th} (hg : Good ths) : ∀ (n j : Nat), j ≤ n → j ≤ ths.length → (rdI ths n j).1.small (6 * (j - (rdI ths n j).2)) := by
  intro n
  induction n with
  | zero => intro j _ _; exact Nat.zero_le _
  | succ n ih =>
    intro j h1 h2
    cases j with
    | zero => exact Nat.zero_le _
    | succ j =>
      have hj : ths[j]? = some ths[j] := List.getElem?_eq_getElem (by omega)
      have ht := hg.2 ths[j] (List.getElem_mem _)
      have b := ih j (by omega) (by omega)
      have lb := (rdI_stk ths n j (by omega) (by omega)).2.1
      simp only [rdI, hj]
      by_cases hl : ths[j].lit = true
      · rw [if_pos hl]
        have := litV_small ht.1 ht.2
        show Builtin.Int.intBits _ ≤ 6 * (j + 1 - j)
        omega
      · rw [if_neg hl]
        by_cases ho : ths[j].one = true
        · rw [if_pos ho]
          exact (comb_small (m := 0) (a := .i 0) (Nat.zero_le _) b).mono (by show _ ≤ 6 * (j + 1 - (rdI ths n j).2); omega)
        · rw [if_neg ho]
          have a := ih (rdI ths n j).2 (by omega) (by omega)
          have la := (rdI_stk ths n (rdI ths n j).2 (by omega) (by omega)).2.1
          exact (comb_small a b).mono (by show _ ≤ 6 * (j + 1 - (rdI ths n (rdI ths n j).2).2); omega)
theorem stk_small {ths : List Th} (hg : Good ths) : ∀ (n j : Nat), j ≤ n → j ≤ ths.length → ∀ v ∈ stk ths j, v.small 400 := by
  intro n
  induction n with
  | zero =>
    intro j h1 h2 v hv
    have : j = 0 := by omega
    subst this
    cases hv
  | succ n ih =>
    intro j h1 h2 v hv
    cases j with
    | zero => cases hv
    | succ j =>
      have r := rdI_stk ths (j + 1) (j + 1) (Nat.le_refl _) h2
      have rs := rdI_small hg (j + 1) (j + 1) (Nat.le_refl _) h2
      have hlen := hg.1
      have hne : stk ths (j + 1) ≠ [] := by intro e; rw [e] at hv; cases hv
      have hsp : stk ths (j + 1) = (stk ths (j + 1)).dropLast ++ [(stk ths (j + 1)).getLast hne] := (List.dropLast_concat_getLast hne).symm
      rw [hsp] at hv
      rcases List.mem_append.mp hv with h | h
      · rw [← r.2.2.2] at h
        exact ih _ (by have := r.2.2.1 (by omega); omega) (by omega) v h
      · have e : v = (rdI ths (j + 1) (j + 1)).1 := by
          rw [List.mem_singleton.mp h, r.1]
          conv => rhs; rw [hsp]
          rw [lastV_snoc]
        rw [e]; exact rs.mono (by omega)
/-- the first refusal -/
def firstR : List Vl → Option Nat
  | [] => none
  | .r p :: _ => some p
  | .i _ :: l => firstR l
def intsV : List Vl → List Int
  | [] => []
  | .r _ :: l => intsV l
  | .i n :: l => n :: intsV l
abbrev Res := List Int ⊕ Nat
def due (S : List Vl) : Res := match firstR S with
  | some p => .inr p
  | none => .inl (intsV S)
def lastI : List Int → Int
  | [] => 0
  | v :: l => l.getLast?.getD v
/-- one thing upon the reckoner's stack -/
def stepR (S : List Int) (t : Th) : Res :=
  if t.lit = true then .inl (S ++ [t.litV])
  else if t.one = true then .inl (S.dropLast ++ [dee (t.c - 48) 0 (lastI S)])
  else if t.div = true ∧ lastI S = 0 then .inr t.k
  else .inl (S.dropLast.dropLast ++ [dee (t.c - 48) (lastI S.dropLast) (lastI S)])
def runF : List Th → List Int → Res
  | [], S => .inl S
  | t :: r, S => match stepR S t with
    | .inl S' => runF r S'
    | .inr p => .inr p
theorem firstR_append (a b : List Vl) : firstR (a ++ b) = (firstR a).or (firstR b) := by
  induction a with
  | nil => simp [firstR]
  | cons v l ih => cases v <;> simp [firstR, ih]
theorem firstR_map (S : List Int) : firstR (S.map Vl.i) = none := by
  induction S with
  | nil => rfl
  | cons v l ih => simpa [firstR] using ih
theorem intsV_map (S : List Int) : intsV (S.map Vl.i) = S := by
  induction S with
  | nil => rfl
  | cons v l ih => simp [intsV, ih]
theorem lastV_map (S : List Int) : lastV (S.map Vl.i) = .i (lastI S) := by
  cases S with
  | nil => rfl
  | cons v l =>
    simp only [List.map_cons, lastV, lastI, List.getLast?_map]
    cases l.getLast? <;> rfl
theorem snoc_cases {α : Type} (l : List α) : l = [] ∨ ∃ d x, l = d ++ [x] := by
  cases h : l with
  | nil => exact .inl rfl
  | cons a t => exact .inr ⟨_, _, (List.dropLast_concat_getLast (List.cons_ne_nil a t)).symm⟩
theorem firstR_step {S : List Vl} {p : Nat} (t : Th) (h : firstR S = some p) : firstR (stepV S t) = some p := by
  unfold stepV
  split
  · rw [firstR_append, h]; rfl
  · rcases snoc_cases S with rfl | ⟨D, b, rfl⟩
    · cases h
    · rw [List.dropLast_concat, lastV_snoc]
      rw [firstR_append] at h
      split
      · rw [firstR_append]
        cases hD : firstR D with
        | some q => rw [hD] at h; simpa using h
        | none =>
          rw [hD] at h
          cases b with
          | i n => cases h
          | r q => simpa [comb, firstR] using h
      · rcases snoc_cases D with rfl | ⟨D', a, rfl⟩
        · cases b with
          | i n => cases h
          | r q => simpa [comb, firstR, lastV] using h
        · rw [List.dropLast_concat, lastV_snoc, firstR_append]
          rw [firstR_append] at h
          cases hD : firstR D' with
          | some q => rw [hD] at h; simpa using h
          | none =>
            rw [hD] at h
            cases a with
            | r q => simpa [comb, firstR] using h
            | i n =>
              cases b with
              | i n => cases h
              | r q => simpa [comb, firstR] using h
theorem firstR_fold {p : Nat} : ∀ (ths : List Th) (S : List Vl), firstR S = some p → firstR (ths.foldl stepV S) = some p := by
  intro ths
  induction ths with
  | nil => intro S h; exact h
  | cons t r ih => intro S h; exact ih _ (firstR_step t h)
theorem runF_due : ∀ (ths : List Th) (S : List Int), (∀ t ∈ ths, t.one = true → t.div = false) → due (ths.foldl stepV (S.map .i)) = runF ths S := by
  intro ths
  induction ths with
  | nil => intro S _; simp only [List.foldl_nil, runF, due, firstR_map, intsV_map]
  | cons t r ih =>
    intro S hd
    have ih' := fun S => ih S fun t ht => hd t (List.mem_cons_of_mem _ ht)
    have hstep : (∃ S', stepR S t = .inl S' ∧ stepV (S.map .i) t = S'.map .i) ∨ (stepR S t = .inr t.k ∧ firstR (stepV (S.map .i) t) = some t.k) := by
      unfold stepR stepV
      by_cases hl : t.lit = true
      · rw [if_pos hl, if_pos hl]; exact .inl ⟨_, rfl, by simp⟩
      · rw [if_neg hl, if_neg hl]
        by_cases ho : t.one = true
        · have hv : t.div = false := hd t (List.mem_cons_self ..) ho
          rw [if_pos ho, if_pos ho]
          refine .inl ⟨_, rfl, ?_⟩
          rw [← List.map_dropLast, lastV_map]
          simp [comb, hv]
        · rw [if_neg ho, if_neg ho]
          rw [← List.map_dropLast, ← List.map_dropLast, lastV_map, lastV_map]
          by_cases hz : t.div = true ∧ lastI S = 0
          · rw [if_pos hz]
            refine .inr ⟨rfl, ?_⟩
            rw [firstR_append, firstR_map]
            simp [comb, hz, firstR]
          · rw [if_neg hz]
            refine .inl ⟨_, rfl, ?_⟩
            simp [comb, hz]
    rw [List.foldl_cons]
    rcases hstep with ⟨S', e1, e2⟩ | ⟨e1, e2⟩
    · rw [e2, ih' S']
      simp only [runF, e1]
    · simp only [runF, e1]
      unfold due
      rw [firstR_fold r _ e2]
theorem one_div {t : Th} (h : t.one = true) : t.div = false := by
  simp only [Th.one, Bool.or_eq_true, beq_iff_eq] at h
  rcases h with h | h <;> simp [Th.div, h]
/-- the reckoner's end is the reader's -/
theorem run_is_due (ths : List Th) : runF ths [] = due (stk ths ths.length) := by
  have := runF_due ths [] (fun t _ h => one_div h)
  unfold stk
  rw [List.take_length]
  exact this.symm
end Mine
end
-- Ctx
section
open PySem PySem.W PyProof.Rows
set_option maxRecDepth 100000
namespace Mine
abbrev lst (vs : List Value) (n : Nat) : Obj := { cls := .type "list", data := .seq vs.toArray n }
abbrev tup (vs : List Value) (n : Nat) : Obj := { cls := .type "tuple", data := .seq vs.toArray n }
abbrev thO (k : Nat) (c : Nat) (odd : Bool) (t1 t2 : Tok) (n : Nat) : Obj := lst [.int k t1, .str (Str.mk #[c]) t2, .bool odd] n
abbrev refO (p : Nat) (t1 t2 : Tok) (n : Nat) : Obj := lst [.str (Str.ofString "refused") t1, .int p t2] n
/-- the ledger bears the list of things -/
def ThIn (news : List (Addr × Obj)) (r : Addr) (ths : List Th) : Prop :=
  ∃ (n : Nat) (as : List Addr), (r, lst (as.map Value.ref) n) ∈ news ∧ as.length = ths.length ∧ ∀ (i : Nat) (t : Th), ths[i]? = some t → ∃ (a : Addr) (t1 t2 : Tok) (n' : Nat), as[i]? = some a ∧ (a, thO t.k t.c t.odd t1 t2 n') ∈ news
theorem ThIn.mono {news news' : List (Addr × Obj)} {r : Addr} {ths : List Th} (h : ThIn news r ths) (hs : ∀ p ∈ news, p ∈ news') : ThIn news' r ths := by
  obtain ⟨n, as, h1, h2, h3⟩ := h
  refine ⟨n, as, hs _ h1, h2, fun i t ht => ?_⟩
  obtain ⟨a, t1, t2, n', e, hm⟩ := h3 i t ht
  exact ⟨a, t1, t2, n', e, hs _ hm⟩
theorem item_news {w : World} {A : Around} {E : Value → Shared → Prop} {s : Shared} {value slice : PySem.Expr} {l : Addr} {vs : List Value} {n : Nat} {k : Int} {u : Tok} {v : Value} {Q : Value → Shared → Prop} {h₀ : Heap} {L : Addr} {news : List (Addr × Obj)}
    (N : News h₀ L s.heap news) (hl : (l, lst vs n) ∈ news) (h0 : 0 ≤ k) (hhi : k < 2 ^ 63) (hx : vs[k.toNat]? = some v) (h : Q v s)
    (hs : subscripted slice false (.ref l) (.int k u) = operate [.ref l, .int k u] (getItem (.ref l) (.int k u)) := by with_unfolding_all rfl) :
    wpAny (model PySem.Challenge.rw_nb0036_01.row.prog w) A (subscriptTail value slice (.ref l) (.int k u)) Q E s :=
  have hL : s.heap.IsList l vs.toArray := News.isList N hl
  tail_any hL.typeIs slot_list_getitem.lookup (wpAny_getItem_list hL h0 hhi (by simpa using hx) h) hs
theorem pick1 {h₀ h : Heap} {L : Addr} {l news : List (Addr × Obj)} {p1 : Addr × Obj} (N : News h₀ L h l) (h1 : p1 ∈ l) (hs : ∀ p ∈ news, p ∈ l) : News h₀ L h (p1 :: news) := fun p hp => by
  rcases List.mem_cons.mp hp with e | hp
  · rw [e]; exact N _ h1
  · exact N _ (hs p hp)
theorem pick2 {h₀ h : Heap} {L : Addr} {l news : List (Addr × Obj)} {p1 p2 : Addr × Obj} (N : News h₀ L h l) (h1 : p1 ∈ l) (h2 : p2 ∈ l) (hs : ∀ p ∈ news, p ∈ l) : News h₀ L h (p1 :: p2 :: news) :=
  pick1 N h1 fun p hp => by
    rcases List.mem_cons.mp hp with e | hp
    · rw [e]; exact h2
    · exact hs p hp
theorem lt_tail {l : List (Addr × Obj)} {q : Addr × Obj} {d : Addr} (h : ∀ p ∈ q :: l, p.1 < d) : ∀ p ∈ l, p.1 < d := fun p hp => h p (List.mem_cons_of_mem _ hp)
/-- _law_plain -/
def PlainT (w : World) (mean : ExcName → Option Value) (mg mb : Str → Option Value) (d : Nat) : Prop :=
  ∀ (dp un : Nat) (gd : Option (List Code)) (cn : Str) (cs : Scope) (a : Addr) (ccd : Value) (cl : List (Str × Addr)) (outer : List Env) (A₀ : Around) (base h₀ : Heap) (L : Addr) (m : Str → Option Value) (news : List (Addr × Obj)) (s : Shared) (Q E : Value → Shared → Prop) (x y : Int) (ux uy uz : Tok),
    Below A₀ base outer h₀ → Fr h₀ L s.heap m → (hd.heap_39 w.params).In h₀ → News h₀ L s.heap news → Top hd.view_39 (looseW hd.view_39 []) mean mg mb h₀ → cs.kind = .function → dp + 3 < recursionLimit → un + 40 < cLine → IntMulOk x y → Builtin.divisionGoesByPylong x y = false → ((d = 3 ∨ d = 4) → y ≠ 0) →
    (∀ h' tk tk', Fr h₀ L h' m → News h₀ L h' news → Q (.int (dee d x y) tk) { s with heap := h', toks := tk' }) →
    wpAny (model PySem.Challenge.rw_nb0036_01.row.prog w) (ktrTop dp un gd cn cs L a ccd cl outer) (call (.ref 112) [.int d uz, .int x ux, .int y uy]) Q E s
/-- _law_value -/
def ValT (w : World) (mean : ExcName → Option Value) (mg mb : Str → Option Value) (ths : List Th) (n j : Nat) : Prop :=
  ∀ (dp un : Nat) (gd : Option (List Code)) (cn : Str) (cs : Scope) (a : Addr) (ccd : Value) (cl : List (Str × Addr)) (outer : List Env) (A₀ : Around) (base h₀ : Heap) (L : Addr) (m : Str → Option Value) (news : List (Addr × Obj)) (s : Shared) (Q E : Value → Shared → Prop) (r : Addr) (kk : Int) (u : Tok),
    Below A₀ base outer h₀ → Fr h₀ L s.heap m → (hd.heap_39 w.params).In h₀ → News h₀ L s.heap news → Top hd.view_39 (looseW hd.view_39 []) mean mg mb h₀ → cs.kind = .function → ThIn news r ths → kk = (j : Int) - 1 → dp + (j + 4) < recursionLimit → un + 8 * (j + 8) < cLine →
    (∀ x, (rdI ths n j).1 = .i x → ∀ kk', kk' = ((rdI ths n j).2 : Int) - 1 → ∀ r' t tk c h' tk', Fr h₀ L h' m → News h₀ L h' ((r', tup [.int x t, .int kk' tk] c) :: news) → (∀ p ∈ news, p.1 < r') → Q (.ref r') { s with heap := h', toks := tk' }) →
    (∀ x, (rdI ths n j).1 = .r x → ∀ kk', kk' = ((rdI ths n j).2 : Int) - 1 → ∀ r' b t1 t2 tk c c' h' tk', Fr h₀ L h' m → News h₀ L h' ((r', tup [.ref b, .int kk' tk] c) :: (b, refO x t1 t2 c') :: news) → (∀ p ∈ news, p.1 < r') → (∀ p ∈ news, p.1 < b) → b < r' → Q (.ref r') { s with heap := h', toks := tk' }) →
    wpAny (model PySem.Challenge.rw_nb0036_01.row.prog w) (ktrTop dp un gd cn cs L a ccd cl outer) (call (.ref 119) [.ref r, .int kk u]) Q E s
end Mine
end
-- Rules
theorem Mine.calmRules : True := by
  w_top off
  trivial
section
open PySem PySem.W PyProof.Rows
set_option maxRecDepth 100000
namespace Mine
section
variable {prog : Program} {w : World} {A : Around} {E : Value → Shared → Prop} {s : Shared} {Q : Value → Shared → Prop} {c : Nat} {t u : Tok} {b : Bool}
theorem fig_text (h : 48 ≤ c ∧ c < 58) : PySem.intText? (Str.mk #[c]) = some ((c : Int) - 48) := by
  have : c = 48 ∨ c = 49 ∨ c = 50 ∨ c = 51 ∨ c = 52 ∨ c = 53 ∨ c = 54 ∨ c = 55 ∨ c = 56 ∨ c = 57 := by omega
  rcases this with h | h | h | h | h | h | h | h | h | h <;> subst h <;> decide +kernel
theorem int_fig (h : 48 ≤ c ∧ c < 58) (k : Q (.int ((c : Int) - 48) s.toks) { s with toks := s.toks + 1 }) : wpAny (model prog w) A (call (.type "int") [.str (Str.mk #[c]) t]) Q E s :=
  KIN.call_text (fig_text h) (show (1 : Nat) ≤ 640 by decide) k
theorem bs_eq : ((Str.mk #[c] : Str) == Str.ofString "\\") = (c == 92) := by
  have e : Str.ofString "\\" = Str.mk #[92] := by decide +kernel
  rw [e, Bool.eq_iff_iff, beq_iff_eq, beq_iff_eq]
  constructor
  · intro h; have := congrArg Str.cps h; simpa using this
  · intro h; rw [h]
theorem eq_bs (hb : (c == 92) = b) (h : Q (.bool b) s) : wpAny (model prog w) A (compareOp .Eq (.str (Str.mk #[c]) u) (.str (Str.ofString "\\") t)) Q E s :=
  eq_str (by rw [← hb] at h; first | (rw [bs_eq]; exact h) | (rw [← bs_eq] at h; simpa using h))
theorem in_34 (hb : (c == 51 || c == 52) = b) (h : Q (.bool b) s) : wpAny (model prog w) A (compareOp .In (.str (Str.mk #[c]) u) (.str (Str.ofString "34") t)) Q E s := by
  refine in_str ?_
  have e : (!(Builtin.Str.occurrences (Str.ofString "34") ⟨#[c]⟩ 0 (Str.ofString "34").length 1).isEmpty) = b := by
    rw [StrLaws.found_one, ← hb, Bool.eq_iff_iff]
    have : (Str.ofString "34").cps.toList = [51, 52] := by decide +kernel
    rw [this]; simp
  rw [e]; exact h
theorem nin_89 (hb : (c == 56 || c == 57) = b) (h : Q (.bool (!b)) s) : wpAny (model prog w) A (compareOp .NotIn (.str (Str.mk #[c]) u) (.str (Str.ofString "89") t)) Q E s := by
  refine notIn_str ?_
  have e : (!(Builtin.Str.occurrences (Str.ofString "89") ⟨#[c]⟩ 0 (Str.ofString "89").length 1).isEmpty) = b := by
    rw [StrLaws.found_one, ← hb, Bool.eq_iff_iff]
    have : (Str.ofString "89").cps.toList = [56, 57] := by decide +kernel
    rw [this]; simp
  rw [e]; exact h
theorem in_89 (hb : (c == 56 || c == 57) = b) (h : Q (.bool b) s) : wpAny (model prog w) A (compareOp .In (.str (Str.mk #[c]) u) (.str (Str.ofString "89") t)) Q E s := by
  refine in_str ?_
  have e : (!(Builtin.Str.occurrences (Str.ofString "89") ⟨#[c]⟩ 0 (Str.ofString "89").length 1).isEmpty) = b := by
    rw [StrLaws.found_one, ← hb, Bool.eq_iff_iff]
    have : (Str.ofString "89").cps.toList = [56, 57] := by decide +kernel
    rw [this]; simp
  rw [e]; exact h
end
end Mine
end
-- Text
theorem Mine.calmText : True := by
  w_top off
  trivial
section
open PySem PySem.W PyProof.Rows
namespace Mine
def trail (l : List Nat) : Nat := (l.reverse.takeWhile (· == 92)).length
def oddAt (cs : List Nat) (k : Nat) : Bool := trail (cs.take k) % 2 == 1
def thAt (cs : List Nat) (k : Nat) : List Th :=
  if oddAt cs k || cs.getD k 0 != 92 then [⟨k, cs.getD k 0, oddAt cs k⟩]
  else if k + 1 = cs.length then [⟨k, 92, false⟩] else []
def thsTo (cs : List Nat) : Nat → List Th
  | 0 => []
  | k + 1 => thsTo cs k ++ thAt cs k
def thsOf (cs : List Nat) : List Th := thsTo cs cs.length
/-- the signs of a text for the reckoner -/
def Signs (x : Str) : Prop := x.length < 63 ∧ ∀ c ∈ x.cps.toList, c = 92 ∨ (48 ≤ c ∧ c < 58)
theorem trail_le (l : List Nat) : trail l ≤ l.length := by
  unfold trail
  have := List.takeWhile_sublist (l := l.reverse) (p := (· == 92)) |>.length_le
  simpa using this
theorem trail_snoc (l : List Nat) (c : Nat) : trail (l ++ [c]) = if c = 92 then trail l + 1 else 0 := by
  unfold trail
  rw [List.reverse_append]
  simp only [List.reverse_cons, List.reverse_nil, List.nil_append, List.singleton_append, List.takeWhile_cons]
  by_cases h : c = 92
  · simp [h]
  · simp [h]
theorem take_succ' {cs : List Nat} {k : Nat} (h : k < cs.length) : cs.take (k + 1) = cs.take k ++ [cs.getD k 0] := by
  rw [List.take_add_one, List.getElem?_eq_getElem h]
  simp [List.getD_eq_getElem?_getD, List.getElem?_eq_getElem h]
theorem odd_zero (cs : List Nat) : oddAt cs 0 = false := by simp [oddAt, trail]
theorem odd_succ {cs : List Nat} {k : Nat} (h : k < cs.length) : oddAt cs (k + 1) = (!oddAt cs k && cs.getD k 0 == 92) := by
  unfold oddAt
  rw [take_succ' h, trail_snoc]
  by_cases hc : cs.getD k 0 = 92
  · rw [if_pos hc, hc]
    generalize trail (cs.take k) = n
    rw [Bool.eq_iff_iff]
    simp
    omega
  · rw [if_neg hc]
    have hc' : (cs.getD k 0 == 92) = false := by simpa using hc
    rw [hc']
    simp
theorem slice_take (x : Str) {i : Nat} (h : i ≤ x.length) : Txt.slice x none (some (i : Int)) = Str.mk (x.cps.toList.take i).toArray := by
  have hl : x.cps.toList.length = x.length := by simp [Str.length]
  have := slice_closes_to (x := x) (j := (i : Int)) ⟨by omega, by omega⟩
  rw [beq_iff_eq] at this
  rw [this]
  simp
theorem item_at (x : Str) {i : Nat} (h : i < x.length) : Txt.item x (i : Int) = Str.mk #[x.cps.toList.getD i 0] := by
  have hl : x.cps.size = x.length := rfl
  unfold Txt.item Txt.charAt
  have e : seqIndex? (i : Int) x.length = some i := by
    unfold seqIndex?
    simp
    omega
  rw [e]
  simp [List.getD_eq_getElem?_getD]
theorem rstrip_len (x : Str) {i : Nat} (h : i ≤ x.length) : (Txt.rstripChars (Txt.slice x none (some (i : Int))) (Str.ofString "\\")).length = i - trail (x.cps.toList.take i) := by
  have hl : x.cps.toList.length = x.length := by simp [Str.length]
  rw [slice_take x h]
  unfold Txt.rstripChars
  rw [PyProof.Rows.stripBy_eq]
  have e : (Str.ofString "\\").cps = #[92] := by decide +kernel
  have e2 : ∀ n : Nat, (#[92] : Array Nat).contains n = (n == 92) := by intro n; rw [Bool.eq_iff_iff]; simp
  have e3 : stripLo (Str.ofString "\\").cps.contains false (Str.mk (x.cps.toList.take i).toArray) = 0 := rfl
  rw [e3]
  have e4 : stripHi (Str.ofString "\\").cps.contains true (Str.mk (x.cps.toList.take i).toArray) 0 = i - trail (x.cps.toList.take i) := by
    simp only [stripHi, if_true, e]
    unfold trail
    have hlen : (Str.mk (x.cps.toList.take i).toArray).length = i := by
      show (x.cps.toList.take i).toArray.size = i
      rw [List.size_toArray, List.length_take]; omega
    rw [hlen]
    have : (#[92] : Array Nat).contains = fun n => n == 92 := funext e2
    rw [this]
    simp
  rw [e4]
  have hsub : (Builtin.Str.strSub (Str.mk (x.cps.toList.take i).toArray) 0 (i - trail (x.cps.toList.take i))).cps.toList.length = i - trail (x.cps.toList.take i) := by
    rw [StrLaws.strSub_toList]
    have ht := trail_le (x.cps.toList.take i)
    rw [List.length_take, List.length_drop, List.length_take]
    rw [List.length_take] at ht
    omega
  simpa [Str.length] using hsub
theorem odd_is (x : Str) {i : Nat} (h : i ≤ x.length) : (((i : Int) - ((Txt.rstripChars (Txt.slice x none (some (i : Int))) (Str.ofString "\\")).length : Int)).fmod 2 == 1) = oddAt x.cps.toList i := by
  have hl : x.cps.toList.length = x.length := by simp [Str.length]
  rw [rstrip_len x h]
  have ht := trail_le (x.cps.toList.take i)
  have hti : (x.cps.toList.take i).length = i := by rw [List.length_take]; omega
  unfold oddAt
  generalize trail (x.cps.toList.take i) = n at ht
  have e : (i : Int) - ((i - n : Nat) : Int) = (n : Int) := by omega
  rw [e, Bool.eq_iff_iff, beq_iff_eq, beq_iff_eq, Int.fmod_eq_emod_of_nonneg _ (by decide)]
  omega
end Mine
end
-- Plain
theorem Mine.calmPlain : True := by
  w_top off
  trivial
section
open PySem PySem.W PyProof.Rows
set_option maxRecDepth 100000
set_option maxHeartbeats 4000000
namespace Mine
local macro_rules | `(tactic| walk_at "call builtin:divmod") => `(tactic| (k_here; (refine' divmod_N ?k1 ?k2 ?k3 ?_ (Or.inl ?k4); (case k1 => k_asm); (case k2 => k_asm); (case k3 => assumption); (case k4 => assumption)); intro h' F' N'; (try k_sweep)))
theorem plain_3 (w : World) (mean : ExcName → Option Value) (mg mb : Str → Option Value) : PlainT w mean mg mb 3 := by
  intro dp un gd cn cs a ccd cl outer A₀ base h₀ L m news s Q E x y ux uy uz B F X N T hk hd hu hm hpl hy hret
  replace hy := hy (.inl rfl)
  revert X; k_fill; intro X
  refine wpAny_call ?_
  k_dflt ktr_enter
  k_steps
  all_goals (refine' hret _ _ _ ?f ?n; (case f => assumption); (case n => exact fun p hp => (by assumption : News h₀ L _ _) p (by simp only [List.mem_cons, hp, or_true])))
theorem plain_4 (w : World) (mean : ExcName → Option Value) (mg mb : Str → Option Value) : PlainT w mean mg mb 4 := by
  intro dp un gd cn cs a ccd cl outer A₀ base h₀ L m news s Q E x y ux uy uz B F X N T hk hd hu hm hpl hy hret
  replace hy := hy (.inr rfl)
  revert X; k_fill; intro X
  refine wpAny_call ?_
  k_dflt ktr_enter
  k_steps
  all_goals (refine' hret _ _ _ ?f ?n; (case f => assumption); (case n => exact fun p hp => (by assumption : News h₀ L _ _) p (by simp only [List.mem_cons, hp, or_true])))
theorem plain_o (w : World) (mean : ExcName → Option Value) (mg mb : Str → Option Value) (d : Nat) (hd3 : d ≠ 3) (hd4 : d ≠ 4) (hd9 : d < 10): PlainT w mean mg mb d := by
  intro dp un gd cn cs a ccd cl outer A₀ base h₀ L m news s Q E x y ux uy uz B F X N T hk hd hu hm hpl hy hret
  clear hy
  have hno : ∀ {P : Prop}, (([3, 4] : List Int).any fun x => x == (d : Int)) = true → P := by
    intro P h
    simp at h
    omega
  revert X; k_fill; intro X
  refine wpAny_call ?_
  k_dflt ktr_enter
  k_with "call builtin:divmod" => exact hno (by assumption)
  k_steps
  all_goals (
    have e : (([x + y, x - y, x * y, 0, 0, Builtin.bitAnd x y, Builtin.bitOr x y, Builtin.bitXor x y, 0 - y, 0 - y - 1] : List Int).getD (d : Int).toNat 0) = dee d x y := by
      have : d = 0 ∨ d = 1 ∨ d = 2 ∨ d = 5 ∨ d = 6 ∨ d = 7 ∨ d = 8 ∨ d = 9 := by omega
      rcases this with h | h | h | h | h | h | h | h <;> subst h <;> rfl
    rw [e]
    refine' hret _ _ _ ?f ?n; (case f => assumption); (case n => exact fun p hp => (by assumption : News h₀ L _ _) p (by simp only [List.mem_cons, hp, or_true])))
  k_with_none
theorem plain_all (w : World) (mean : ExcName → Option Value) (mg mb : Str → Option Value) : ∀ d, d < 10 → PlainT w mean mg mb d := by
  intro d h
  by_cases h3 : d = 3
  · subst h3; exact plain_3 w mean mg mb
  · by_cases h4 : d = 4
    · subst h4; exact plain_4 w mean mg mb
    · exact plain_o w mean mg mb d h3 h4 h
end Mine
end
-- Val
theorem Mine.calmVal : True := by
  w_top off
  trivial
section
open PySem PySem.W PyProof.Rows
set_option maxRecDepth 100000
set_option maxHeartbeats 4000000
namespace Mine
local macro_rules | `(tactic| walk_at "subscriptTail") => `(tactic| (k_here; (with_reducible show wpAny _ _ (subscriptTail _ _ (Value.ref _) (Value.int _ _)) _ _ _); (with_unfolding_all refine' item_news ?k1 ?k2 ?k3 ?k4 ?k5 ?_ ?k6; (case k1 => k_asm); (case k2 => assumption); (case k3 => omega); (case k4 => omega); (case k5 => assumption); (case k6 => with_unfolding_all rfl); k_whole)))
local macro_rules | `(tactic| walk_at "compareOp Eq str str") => `(tactic| (k_here; (with_reducible refine' eq_bs ?k1 ?_; (case k1 => assumption); k_whole)))
local macro_rules | `(tactic| walk_at "compareOp In str str") => `(tactic| (k_here; (with_reducible refine' in_34 ?k1 ?_; (case k1 => assumption); k_whole)))
local macro_rules | `(tactic| walk_at "compareOp NotIn str str") => `(tactic| (k_here; (with_reducible refine' nin_89 ?k1 ?_; (case k1 => assumption); k_whole)))
local macro_rules | `(tactic| walk_at "call type:int") => `(tactic| (k_here; (with_reducible refine' int_fig ?k1 ?_; (case k1 => assumption); k_whole)))
-- j = 0
theorem val_zero (w : World) (mean : ExcName → Option Value) (mg mb : Str → Option Value) (ths : List Th) (n : Nat) : ValT w mean mg mb ths n 0 := by
  intro dp un gd cn cs a ccd cl outer A₀ base h₀ L m news s Q E r kk u B F X N T hk hR hkk hd hu hI hRf
  have e1 : (rdI ths n 0).1 = .i 0 := by cases n <;> rfl
  have e2 : (rdI ths n 0).2 = 0 := by cases n <;> rfl
  rw [e2] at hI
  replace hI := hI 0 e1
  clear hRf e1 e2
  revert X; k_fill; intro X
  refine wpAny_call ?_
  k_dflt ktr_enter
  k_steps
  all_goals (refine' hI _ ?e _ _ _ _ _ _ ?f ?n ?l; (case f => assumption); (case n => assumption); (case l => assumption); (case e => omega))
-- a backslash
theorem val_lit (w : World) (mean : ExcName → Option Value) (mg mb : Str → Option Value) {ths : List Th} {n j : Nat} {t : Th} (ht : ths[j]? = some t) (hj : j < 64) (hc : t.c = 92) : ValT w mean mg mb ths (n + 1) (j + 1) := by
  intro dp un gd cn cs a ccd cl outer A₀ base h₀ L m news s Q E r kk u B F X N T hk hR hkk hd hu hI hRf
  have hl : t.lit = true := by simp [Th.lit, hc]
  have e1 : (rdI ths (n + 1) (j + 1)).1 = .i t.k := by simp [rdI, ht, hl, Th.litV, hc]
  have e2 : (rdI ths (n + 1) (j + 1)).2 = j := by simp [rdI, ht, hl]
  rw [e2] at hI
  replace hI := hI _ e1
  clear hRf e1 e2
  obtain ⟨n0, as, h1, h2, h3⟩ := hR
  obtain ⟨a', t1, t2, n', hat, hmem⟩ := h3 j t ht
  have hbs : (t.c == 92) = true := by simp [hc]
  have hx : (as.map Value.ref)[kk.toNat]? = some (.ref a') := by
    have : kk.toNat = j := by omega
    rw [this]; simp [hat]
  revert X; k_fill; intro X
  refine wpAny_call ?_
  k_dflt ktr_enter
  k_steps
  all_goals (refine' hI _ ?e _ _ _ _ _ _ ?f ?n ?l; (case f => assumption); (case n => assumption); (case l => assumption); (case e => omega))
-- a figure
theorem val_fig (w : World) (mean : ExcName → Option Value) (mg mb : Str → Option Value) {ths : List Th} {n j : Nat} {t : Th} (ht : ths[j]? = some t) (hj : j < 64) (hc : 48 ≤ t.c ∧ t.c < 58) (ho : t.odd = false) : ValT w mean mg mb ths (n + 1) (j + 1) := by
  intro dp un gd cn cs a ccd cl outer A₀ base h₀ L m news s Q E r kk u B F X N T hk hR hkk hd hu hI hRf
  have hl : t.lit = true := by simp [Th.lit, ho]
  have e1 : (rdI ths (n + 1) (j + 1)).1 = .i ((t.c : Int) - 48) := by simp [rdI, ht, hl, Th.litV]; omega
  have e2 : (rdI ths (n + 1) (j + 1)).2 = j := by simp [rdI, ht, hl]
  rw [e2] at hI
  replace hI := hI _ e1
  clear hRf e1 e2
  obtain ⟨n0, as, h1, h2, h3⟩ := hR
  obtain ⟨a', t1, t2, n', hat, hmem⟩ := h3 j t ht
  rw [ho] at hmem
  have hbs : (t.c == 92) = false := by simp; omega
  have hx : (as.map Value.ref)[kk.toNat]? = some (.ref a') := by
    have : kk.toNat = j := by omega
    rw [this]; simp [hat]
  revert X; k_fill; intro X
  refine wpAny_call ?_
  k_dflt ktr_enter
  k_steps
  all_goals (refine' hI _ ?e _ _ _ _ _ _ ?f ?n ?l; (case f => assumption); (case n => assumption); (case l => assumption); (case e => omega))
-- Val2
theorem calmVal2 : True := by
  w_top off
  trivial
local macro_rules | `(tactic| ktr_rel) => `(tactic| first | assumption | exact ktn_ltOf (by assumption) | exact ktn_ltOf (And.right (by assumption)) | exact ktn_ltOf (And.right (And.right (by assumption))) | exact ktn_ltOf (And.right (And.right (And.right (by assumption)))) | exact ktn_ltOf (And.right (And.right (And.right (And.right (by assumption))))) | exact lt_tail (by assumption) | exact lt_tail (lt_tail (by assumption)) | exact lt_tail (lt_tail (lt_tail (by assumption))) | fail "no order")
local macro_rules | `(tactic| tb_rel) => `(tactic| first | (refine' pick2 ?y1 ?y2 ?y3 ?y4; (case y1 => assumption); (case y2 => k_mem); (case y3 => k_mem); (case y4 => (intro p9 h9; simp only [List.mem_cons, h9, or_true]))) | (refine' pick1 ?y1 ?y2 ?y4; (case y1 => assumption); (case y2 => k_mem); (case y4 => (intro p9 h9; simp only [List.mem_cons, h9, or_true]))))
theorem val_two (w : World) (mean : ExcName → Option Value) (mg mb : Str → Option Value) {ths : List Th} {n j : Nat} {t : Th} (ht : ths[j]? = some t) (hj : j < 64) (hc : 48 ≤ t.c ∧ t.c < 58) (ho : t.odd = true) (h89 : (t.c == 56 || t.c == 57) = false) (h34 : (t.c == 51 || t.c == 52) = false)
    (IH : ∀ j', j' ≤ j → ValT w mean mg mb ths n j') (PL : ∀ d, d < 10 → PlainT w mean mg mb d) (hjl : (rdI ths n j).2 ≤ j) (hmul : ∀ x y, (rdI ths n j).1 = .i y → (rdI ths n (rdI ths n j).2).1 = .i x → IntMulOk x y ∧ Builtin.divisionGoesByPylong x y = false) : ValT w mean mg mb ths (n + 1) (j + 1) := by
  intro dp un gd cn cs a ccd cl outer A₀ base h₀ L m news s Q E r kk u B F X N T hk hR hkk hd hu hI hRf
  have hTh := hR
  obtain ⟨n0, as, h1, h2, h3⟩ := hR
  obtain ⟨a', t1, t2, n', hat, hmem⟩ := h3 j t ht
  rw [ho] at hmem
  have hbs : (t.c == 92) = false := by simp; omega
  have hd10 : t.c - 48 < 10 := by omega
  have hdc : (t.c : Int) - 48 = ((t.c - 48 : Nat) : Int) := by omega
  have hx : (as.map Value.ref)[kk.toNat]? = some (.ref a') := by
    have : kk.toNat = j := by omega
    rw [this]; simp [hat]
  have hl : t.lit = false := by simp [Th.lit, ho]; omega
  have hon : t.one = false := h89
  have hE : rdI ths (n + 1) (j + 1) = (comb t (rdI ths n (rdI ths n j).2).1 (rdI ths n j).1, (rdI ths n (rdI ths n j).2).2) := by simp [rdI, ht, hl, hon]
  have cA : ∀ p, (rdI ths n (rdI ths n j).2).1 = .r p → (rdI ths (n + 1) (j + 1)).1 = .r p := fun p e => by rw [hE, e]; rfl
  have cB : ∀ x p, (rdI ths n (rdI ths n j).2).1 = .i x → (rdI ths n j).1 = .r p → (rdI ths (n + 1) (j + 1)).1 = .r p := fun x p e e' => by rw [hE, e, e']; rfl
  have c2 : (rdI ths (n + 1) (j + 1)).2 = (rdI ths n (rdI ths n j).2).2 := by rw [hE]
  rw [c2] at hI hRf
  have cI : ∀ x y, (rdI ths n (rdI ths n j).2).1 = .i x → (rdI ths n j).1 = .i y → (rdI ths (n + 1) (j + 1)).1 = .i (dee (t.c - 48) x y) := fun x y e e' => by
    have hdv : t.div = false := h34
    rw [hE, e, e']; simp [comb, hdv]
  revert X; k_fill; intro X
  refine wpAny_call ?_
  k_dflt ktr_enter
  k_with "call ref" =>
    (with_unfolding_all
     refine' IH j (Nat.le_refl j) _ _ _ _ _ _ _ _ _ _ _ _ _ _ _ _ _ _ _ _ _ ?B ?F ?X ?N ?T ?K ?R ?kk ?d ?u ?_ ?_
     (case kk => omega)
     (case B => k_asm)
     (case F => k_asm)
     (case X => k_asm)
     (case N => k_asm)
     (case T => k_asm)
     (case K => exact rfl)
     (case R => exact hTh.mono (by ktd_sub))
     (case d => ktr_room)
     (case u => ktr_units))
  k_with "call ref" =>
    (with_unfolding_all
     refine' IH (rdI ths n j).2 hjl _ _ _ _ _ _ _ _ _ _ _ _ _ _ _ _ _ _ _ _ _ ?B ?F ?X ?N ?T ?K ?R ?kk ?d ?u ?_ ?_
     (case kk => omega)
     (case B => k_asm)
     (case F => k_asm)
     (case X => k_asm)
     (case N => k_asm)
     (case T => k_asm)
     (case K => exact rfl)
     (case R => exact hTh.mono (by ktd_sub))
     (case d => ktr_room)
     (case u => ktr_units))
  k_with "call ref" =>
    (rw [hdc]
     with_unfolding_all
     refine' PL (t.c - 48) hd10 _ _ _ _ _ _ _ _ _ _ _ _ _ _ _ _ _ _ _ _ _ _ _ ?B ?F ?X ?N ?T ?K ?d ?u ?mu ?pl ?nz ?_
     (case B => k_asm)
     (case F => k_asm)
     (case X => k_asm)
     (case N => k_asm)
     (case T => k_asm)
     (case K => exact rfl)
     (case d => ktr_room)
     (case u => ktr_units)
     (case mu => exact (hmul _ _ (by assumption) (by assumption)).1)
     (case pl => exact (hmul _ _ (by assumption) (by assumption)).2)
     (case nz => intro h; simp at h34; omega))
  k_steps
  all_goals (clear IH PL; first
    | (refine' hI _ (cI _ _ ?zp ?zq) _ ?ze _ _ _ _ _ _ ?zf ?zn ?zl; (case zp => assumption); (case zq => assumption); (case zf => assumption); (case zn => tb_rel); (case zl => ktr_rel); (case ze => omega))
    | (refine' hRf _ (cA _ ?zp) _ ?ze _ _ _ _ _ _ _ _ _ ?zf ?zn ?zl1 ?zl2 ?zl3; (case zp => assumption); (case zf => assumption); (case zn => tb_rel); (case zl1 => ktr_rel); (case zl2 => ktr_rel); (case zl3 => (refine ltN ?_; omega)); (case ze => omega))
    | (refine' hRf _ (cB _ _ ?zp ?zq) _ ?ze _ _ _ _ _ _ _ _ _ ?zf ?zn ?zl1 ?zl2 ?zl3; (case zp => assumption); (case zq => assumption); (case zf => assumption); (case zn => tb_rel); (case zl1 => ktr_rel); (case zl2 => ktr_rel); (case zl3 => (refine ltN ?_; omega)); (case ze => omega))
    | fail "an end is left")
  k_with_none
-- Val3
theorem calmVal3 : True := by
  w_top off
  trivial
theorem val_div (w : World) (mean : ExcName → Option Value) (mg mb : Str → Option Value) {ths : List Th} {n j : Nat} {t : Th} (ht : ths[j]? = some t) (hj : j < 64) (hc : 48 ≤ t.c ∧ t.c < 58) (ho : t.odd = true) (h89 : (t.c == 56 || t.c == 57) = false) (h34 : (t.c == 51 || t.c == 52) = true)
    (IH : ∀ j', j' ≤ j → ValT w mean mg mb ths n j') (PL : ∀ d, d < 10 → PlainT w mean mg mb d) (hjl : (rdI ths n j).2 ≤ j) (hmul : ∀ x y, (rdI ths n j).1 = .i y → (rdI ths n (rdI ths n j).2).1 = .i x → IntMulOk x y ∧ Builtin.divisionGoesByPylong x y = false) : ValT w mean mg mb ths (n + 1) (j + 1) := by
  intro dp un gd cn cs a ccd cl outer A₀ base h₀ L m news s Q E r kk u B F X N T hk hR hkk hd hu hI hRf
  have hTh := hR
  obtain ⟨n0, as, h1, h2, h3⟩ := hR
  obtain ⟨a', t1, t2, n', hat, hmem⟩ := h3 j t ht
  rw [ho] at hmem
  have hbs : (t.c == 92) = false := by simp; omega
  have hd10 : t.c - 48 < 10 := by omega
  have hdc : (t.c : Int) - 48 = ((t.c - 48 : Nat) : Int) := by omega
  have hx : (as.map Value.ref)[kk.toNat]? = some (.ref a') := by
    have : kk.toNat = j := by omega
    rw [this]; simp [hat]
  have hl : t.lit = false := by simp [Th.lit, ho]; omega
  have hon : t.one = false := h89
  have hE : rdI ths (n + 1) (j + 1) = (comb t (rdI ths n (rdI ths n j).2).1 (rdI ths n j).1, (rdI ths n (rdI ths n j).2).2) := by simp [rdI, ht, hl, hon]
  have cA : ∀ p, (rdI ths n (rdI ths n j).2).1 = .r p → (rdI ths (n + 1) (j + 1)).1 = .r p := fun p e => by rw [hE, e]; rfl
  have cB : ∀ x p, (rdI ths n (rdI ths n j).2).1 = .i x → (rdI ths n j).1 = .r p → (rdI ths (n + 1) (j + 1)).1 = .r p := fun x p e e' => by rw [hE, e, e']; rfl
  have c2 : (rdI ths (n + 1) (j + 1)).2 = (rdI ths n (rdI ths n j).2).2 := by rw [hE]
  rw [c2] at hI hRf
  have cI : ∀ x y, (rdI ths n (rdI ths n j).2).1 = .i x → (rdI ths n j).1 = .i y → ¬ (y = 0) → (rdI ths (n + 1) (j + 1)).1 = .i (dee (t.c - 48) x y) := fun x y e e' h0 => by
    rw [hE, e, e']; simp [comb, h0]
  have cZ : ∀ x y, (rdI ths n (rdI ths n j).2).1 = .i x → (rdI ths n j).1 = .i y → y = 0 → (rdI ths (n + 1) (j + 1)).1 = .r t.k := fun x y e e' h0 => by
    have hdv : t.div = true := h34
    rw [hE, e, e']; simp [comb, h0, hdv]
  revert X; k_fill; intro X
  refine wpAny_call ?_
  k_dflt ktr_enter
  k_with "call ref" =>
    (with_unfolding_all
     refine' IH j (Nat.le_refl j) _ _ _ _ _ _ _ _ _ _ _ _ _ _ _ _ _ _ _ _ _ ?B ?F ?X ?N ?T ?K ?R ?kk ?d ?u ?_ ?_
     (case kk => omega)
     (case B => k_asm)
     (case F => k_asm)
     (case X => k_asm)
     (case N => k_asm)
     (case T => k_asm)
     (case K => exact rfl)
     (case R => exact hTh.mono (by ktd_sub))
     (case d => ktr_room)
     (case u => ktr_units))
  k_with "call ref" =>
    (with_unfolding_all
     refine' IH (rdI ths n j).2 hjl _ _ _ _ _ _ _ _ _ _ _ _ _ _ _ _ _ _ _ _ _ ?B ?F ?X ?N ?T ?K ?R ?kk ?d ?u ?_ ?_
     (case kk => omega)
     (case B => k_asm)
     (case F => k_asm)
     (case X => k_asm)
     (case N => k_asm)
     (case T => k_asm)
     (case K => exact rfl)
     (case R => exact hTh.mono (by ktd_sub))
     (case d => ktr_room)
     (case u => ktr_units))
  k_with "call ref" =>
    (rw [hdc]
     with_unfolding_all
     refine' PL (t.c - 48) hd10 _ _ _ _ _ _ _ _ _ _ _ _ _ _ _ _ _ _ _ _ _ _ _ ?B ?F ?X ?N ?T ?K ?d ?u ?mu ?pl ?nz ?_
     (case B => k_asm)
     (case F => k_asm)
     (case X => k_asm)
     (case N => k_asm)
     (case T => k_asm)
     (case K => exact rfl)
     (case d => ktr_room)
     (case u => ktr_units)
     (case mu => exact (hmul _ _ (by assumption) (by assumption)).1)
     (case pl => exact (hmul _ _ (by assumption) (by assumption)).2)
     (case nz => intro _; first | assumption | omega | fail "nz"))
  k_steps
  all_goals (clear IH PL; first
    | (refine' hI _ (cI _ _ ?zp ?zq ?zr) _ ?ze _ _ _ _ _ _ ?zf ?zn ?zl; (case zp => assumption); (case zq => assumption); (case zf => assumption); (case zn => tb_rel); (case zl => ktr_rel); (case ze => omega); (case zr => first | assumption | omega | fail "zr"))
    | (refine' hRf _ (cZ _ _ ?zp ?zq ?zr) _ ?ze _ _ _ _ _ _ _ _ _ ?zf ?zn ?zl1 ?zl2 ?zl3; (case zp => assumption); (case zq => assumption); (case zf => assumption); (case zn => tb_rel); (case zl1 => ktr_rel); (case zl2 => ktr_rel); (case zl3 => (refine ltN ?_; omega)); (case ze => omega); (case zr => first | assumption | omega | fail "zr"))
    | (refine' hRf _ (cA _ ?zp) _ ?ze _ _ _ _ _ _ _ _ _ ?zf ?zn ?zl1 ?zl2 ?zl3; (case zp => assumption); (case zf => assumption); (case zn => tb_rel); (case zl1 => ktr_rel); (case zl2 => ktr_rel); (case zl3 => (refine ltN ?_; omega)); (case ze => omega))
    | (refine' hRf _ (cB _ _ ?zp ?zq) _ ?ze _ _ _ _ _ _ _ _ _ ?zf ?zn ?zl1 ?zl2 ?zl3; (case zp => assumption); (case zq => assumption); (case zf => assumption); (case zn => tb_rel); (case zl1 => ktr_rel); (case zl2 => ktr_rel); (case zl3 => (refine ltN ?_; omega)); (case ze => omega))
    | fail "an end is left")
  k_with_none
-- Val4
theorem calmVal4 : True := by
  w_top off
  trivial
theorem val_one (w : World) (mean : ExcName → Option Value) (mg mb : Str → Option Value) {ths : List Th} {n j : Nat} {t : Th} (ht : ths[j]? = some t) (hj : j < 64) (hc : 48 ≤ t.c ∧ t.c < 58) (ho : t.odd = true) (h89 : (t.c == 56 || t.c == 57) = true) (h34 : (t.c == 51 || t.c == 52) = false)
    (IH : ∀ j', j' ≤ j → ValT w mean mg mb ths n j') (PL : ∀ d, d < 10 → PlainT w mean mg mb d) (hjl : (rdI ths n j).2 ≤ j) (hmul : ∀ y, (rdI ths n j).1 = .i y → IntMulOk 0 y ∧ Builtin.divisionGoesByPylong 0 y = false) : ValT w mean mg mb ths (n + 1) (j + 1) := by
  intro dp un gd cn cs a ccd cl outer A₀ base h₀ L m news s Q E r kk u B F X N T hk hR hkk hd hu hI hRf
  have hTh := hR
  obtain ⟨n0, as, h1, h2, h3⟩ := hR
  obtain ⟨a', t1, t2, n', hat, hmem⟩ := h3 j t ht
  rw [ho] at hmem
  have hbs : (t.c == 92) = false := by simp; omega
  have hd10 : t.c - 48 < 10 := by omega
  have hdc : (t.c : Int) - 48 = ((t.c - 48 : Nat) : Int) := by omega
  have hx : (as.map Value.ref)[kk.toNat]? = some (.ref a') := by
    have : kk.toNat = j := by omega
    rw [this]; simp [hat]
  have hl : t.lit = false := by simp [Th.lit, ho]; omega
  have hon : t.one = true := h89
  have hdv : t.div = false := h34
  have hE : rdI ths (n + 1) (j + 1) = (comb t (.i 0) (rdI ths n j).1, (rdI ths n j).2) := by simp [rdI, ht, hl, hon]
  have cB : ∀ p, (rdI ths n j).1 = .r p → (rdI ths (n + 1) (j + 1)).1 = .r p := fun p e => by rw [hE, e]; rfl
  have cI : ∀ y, (rdI ths n j).1 = .i y → (rdI ths (n + 1) (j + 1)).1 = .i (dee (t.c - 48) 0 y) := fun y e => by rw [hE, e]; simp [comb, hdv]
  have c2 : (rdI ths (n + 1) (j + 1)).2 = (rdI ths n j).2 := by rw [hE]
  rw [c2] at hI hRf
  revert X; k_fill; intro X
  refine wpAny_call ?_
  k_dflt ktr_enter
  k_with "call ref" =>
    (with_unfolding_all
     refine' IH j (Nat.le_refl j) _ _ _ _ _ _ _ _ _ _ _ _ _ _ _ _ _ _ _ _ _ ?B ?F ?X ?N ?T ?K ?R ?kk ?d ?u ?_ ?_
     (case kk => omega)
     (case B => k_asm)
     (case F => k_asm)
     (case X => k_asm)
     (case N => k_asm)
     (case T => k_asm)
     (case K => exact rfl)
     (case R => exact hTh.mono (by ktd_sub))
     (case d => ktr_room)
     (case u => ktr_units))
  k_with "call ref" =>
    (rw [hdc]
     with_unfolding_all
     refine' PL (t.c - 48) hd10 _ _ _ _ _ _ _ _ _ _ _ _ _ _ _ _ _ _ _ _ _ _ _ ?B ?F ?X ?N ?T ?K ?d ?u ?mu ?pl ?nz ?_
     (case B => k_asm)
     (case F => k_asm)
     (case X => k_asm)
     (case N => k_asm)
     (case T => k_asm)
     (case K => exact rfl)
     (case d => ktr_room)
     (case u => ktr_units)
     (case mu => exact (hmul _ (by assumption)).1)
     (case pl => exact (hmul _ (by assumption)).2)
     (case nz => intro h; simp at h34; omega))
  k_steps
  all_goals (clear IH PL; first
    | (refine' hI _ (cI _ ?zp) _ ?ze _ _ _ _ _ _ ?zf ?zn ?zl; (case zp => assumption); (case zf => assumption); (case zn => tb_rel); (case zl => ktr_rel); (case ze => omega))
    | (refine' hRf _ (cB _ ?zp) _ ?ze _ _ _ _ _ _ _ _ _ ?zf ?zn ?zl1 ?zl2 ?zl3; (case zp => assumption); (case zf => assumption); (case zn => tb_rel); (case zl1 => ktr_rel); (case zl2 => ktr_rel); (case zl3 => (refine ltN ?_; omega)); (case ze => omega))
    | fail "an end is left")
  k_with_none
end Mine
end
-- ValAll
theorem Mine.calmValAll : True := by
  w_top off
  trivial
section
open PySem PySem.W PyProof.Rows
namespace Mine
theorem bits_ok {x y : Int} (hx : Builtin.Int.intBits x ≤ 400) (hy : Builtin.Int.intBits y ≤ 400) : IntMulOk x y ∧ Builtin.divisionGoesByPylong x y = false := by
  refine ⟨IntMulOk.of_le hx hy (by decide), PyProof.noPylong_of_log2 ?_⟩
  by_cases h0 : y = 0
  · subst h0; decide
  · have e : Builtin.Int.intBits y = y.natAbs.log2 + 1 := by
      unfold Builtin.Int.intBits
      rw [if_neg (by simpa using h0)]
    omega
theorem val_all (w : World) (mean : ExcName → Option Value) (mg mb : Str → Option Value) {ths : List Th} (hg : Good ths) : ∀ n j, j ≤ n → j ≤ ths.length → ValT w mean mg mb ths n j := by
  intro n
  induction n with
  | zero =>
    intro j h1 h2
    have : j = 0 := by omega
    subst this
    exact val_zero w mean mg mb ths 0
  | succ n ih =>
    intro j h1 h2
    cases j with
    | zero => exact val_zero w mean mg mb ths (n + 1)
    | succ j =>
      have ht : ths[j]? = some ths[j] := List.getElem?_eq_getElem (by omega)
      have hlen := hg.1
      obtain ⟨hk, hc⟩ := hg.2 ths[j] (List.getElem_mem _)
      have hjl := (rdI_stk ths n j (by omega) (by omega)).2.1
      have small : ∀ j', j' ≤ j → ∀ x, (rdI ths n j').1 = .i x → Builtin.Int.intBits x ≤ 400 := fun j' hj' x e => by
        have := rdI_small hg n j' (by omega) (by omega)
        rw [e] at this
        exact Nat.le_trans this (by omega)
      have IH : ∀ j', j' ≤ j → ValT w mean mg mb ths n j' := fun j' hj' => ih j' (by omega) (by omega)
      by_cases h92 : ths[j].c = 92
      · exact val_lit w mean mg mb ht (by omega) h92
      · have hc' : 48 ≤ ths[j].c ∧ ths[j].c < 58 := by omega
        cases ho : ths[j].odd with
        | false => exact val_fig w mean mg mb ht (by omega) hc' ho
        | true =>
          cases h89 : (ths[j].c == 56 || ths[j].c == 57) with
          | true =>
            refine val_one w mean mg mb ht (by omega) hc' ho h89 ?_ IH (plain_all w mean mg mb) hjl fun y e => bits_ok (by decide) (small j (Nat.le_refl _) y e)
            simp only [Bool.or_eq_true, beq_iff_eq] at h89
            simp only [Bool.or_eq_false_iff, beq_eq_false_iff_ne]
            omega
          | false =>
            have hmul : ∀ x y, (rdI ths n j).1 = .i y → (rdI ths n (rdI ths n j).2).1 = .i x → IntMulOk x y ∧ Builtin.divisionGoesByPylong x y = false :=
              fun x y e e' => bits_ok (small _ hjl x e') (small j (Nat.le_refl _) y e)
            cases h34 : (ths[j].c == 51 || ths[j].c == 52) with
            | true => exact val_div w mean mg mb ht (by omega) hc' ho h89 h34 IH (plain_all w mean mg mb) hjl hmul
            | false => exact val_two w mean mg mb ht (by omega) hc' ho h89 h34 IH (plain_all w mean mg mb) hjl hmul
end Mine
#print axioms Mine.val_all
end
-- Loop
theorem Mine.calmLoop : True := by
  w_top off
  trivial
section
open PySem PySem.W PyProof.Rows
set_option maxRecDepth 100000
namespace Mine
def PostJ (h₀ : Heap) (L I : Addr) (o : Obj) (J : (Str → Option Value) → List (Addr × Obj) → Prop) (s₁ : Shared) (Q : Flow → Shared → Prop) (f : Flow) (s₂ : Shared) : Prop :=
  match f with
  | .ret v => Q (.ret v) s₂
  | .brk => Q .next s₂
  | _ => ∃ h' tk m' news', s₂ = { s₁ with heap := h', toks := tk } ∧ Fr h₀ L h' m' ∧ News h₀ L h' ((I, o) :: news') ∧ (∀ p ∈ news', p.1 ≠ I) ∧ J m' news'
theorem PostJ.end {h₀ : Heap} {L I : Addr} {o : Obj} {J : (Str → Option Value) → List (Addr × Obj) → Prop} {s₁ : Shared} {Q : Flow → Shared → Prop} {h' : Heap} {tk : Nat} {m' : Str → Option Value} {news' : List (Addr × Obj)}
    (F : Fr h₀ L h' m') (N : News h₀ L h' ((I, o) :: news')) (hn : ∀ p ∈ news', p.1 ≠ I) (hj : J m' news') : PostJ h₀ L I o J s₁ Q .next { s₁ with heap := h', toks := tk } := ⟨h', tk, m', news', rfl, F, N, hn, hj⟩
section
variable {prog : Program} {w : World} {A : Around} {E : Value → Shared → Prop} {s : Shared} {env : Env} {h₀ : Heap} {x : Str} {body : List Stmt} {Q : Flow → Shared → Prop}
theorem iter_rangeJ {r : Addr} {b₀ : Int} {t₀ u₀ v₀ : Tok} {n : Nat} {m₀ : Str → Option Value} {news : List (Addr × Obj)} (J : Nat → (Str → Option Value) → List (Addr × Obj) → Prop)
    (hh : A.handled = none) (hr : IsRange s.heap r 0 b₀ 1 t₀ u₀ v₀) (hsmall : Builtin.Range.small 0 b₀ 1 = true) (hn : Builtin.Range.rangeSize 0 b₀ 1 = (n : Int)) (F : Fr h₀ env.locals s.heap m₀) (N : News h₀ env.locals s.heap news) (h0 : J 0 m₀ news)
    (turn : ∀ i t m₁ news₁ h tk I o, i < n → J i m₁ news₁ → (∀ p ∈ news₁, p.1 ≠ I) → Fr h₀ env.locals h (fun y => if y = x then some (.int ((i : Nat) : Int) t) else m₁ y) → News h₀ env.locals h ((I, o) :: news₁) →
      wpAny (model prog w) A (execs body env) (PostJ h₀ env.locals I o (J (i + 1)) { s with heap := h, toks := tk } Q) E { s with heap := h, toks := tk })
    (done : ∀ m₁ news₁ h tk, J n m₁ news₁ → Fr h₀ env.locals h m₁ → News h₀ env.locals h news₁ → Q .next { s with heap := h, toks := tk }) :
    wpAny (model prog w) A (pyIter (.ref r)) (fun it s₂ => LoopAtV prog w A h₀ env x body Q E it s₂) E s := by
  refine wpAny_pyIter_range hr hsmall ?_
  have W : Walks prog w A s.heap.objs.size [s.heap.objs.size] [s.heap.objs.size] n (fun i v => i < n ∧ ∃ t, v = .int (0 + i * 1) t)
      (fun i h => IsRangeIter h s.heap.objs.size (0 + (i : Nat) * 1) ((n : Int) - (i : Nat)) 1) := (Walks.range hh _ 0 1 n).bound
  refine ⟨_, _, _, n, _, _, m₀, news, J, rfl, W, ?_, ?_, ?_, (by show IsRangeIter _ _ _ _ _; rw [hn]; simpa using Heap.get?_push_size _ rfl), F.push _, (fun p hp => ⟨Heap.get?_push_of_some _ (N p hp).1, (N p hp).2⟩), h0, ?_, ?_⟩
  · intro hm
    exact absurd F.ns.lt ((List.mem_singleton.mp hm) ▸ Nat.lt_irrefl _)
  · intro b hb
    rw [List.mem_singleton.mp hb]
    exact next_is_new F
  · intro p hp hI
    exact absurd (Heap.lt_size (N p hp).1) ((List.mem_singleton.mp hI) ▸ Nat.lt_irrefl _)
  · rintro i v m₁ news₁ s₁ own ⟨hh', tk', rfl⟩ hin ⟨_, t, rfl⟩ hJ hoff hown _ hall hst F₁ N₁
    obtain ⟨ob, hob⟩ : ∃ ob, hh'.get? s.heap.objs.size = some ob := ⟨_, hst⟩
    have hio : (s.heap.objs.size, ob) ∈ own := hall _ (List.mem_singleton.mpr rfl) (next_is_new F) _ hob
    have hone := own_one hown (fun b hb => .inl (List.mem_singleton.mp hb)) hob N₁
    have e0 : (0 : Int) + (i : Int) * 1 = (i : Int) := by omega
    rw [e0] at F₁
    refine wpAny_mono (turn i t m₁ news₁ hh' tk' _ _ hin hJ (fun p hp e => hoff p hp (List.mem_singleton.mpr e)) F₁ (news_one hio N₁)) (fun f s₂ p => ?_) fun _ _ e => e
    have fin : (∃ h' tk m' news', s₂ = { ({ s with heap := hh', toks := tk' } : Shared) with heap := h', toks := tk } ∧ Fr h₀ env.locals h' m' ∧ News h₀ env.locals h' ((s.heap.objs.size, ob) :: news') ∧ (∀ p ∈ news', p.1 ≠ s.heap.objs.size) ∧ J (i + 1) m' news') →
        LoopStepU h₀ env.locals [s.heap.objs.size] own (J (i + 1)) { s with heap := hh', toks := tk' } .next s₂ := by
      rintro ⟨h', tk, m', news', e, F', N', hne, hj⟩
      refine ⟨rfl, h', tk, m', news', e, F', fun p hp => ?_, fun p hp hm => hne p hp (List.mem_singleton.mp hm), hj⟩
      rcases List.mem_append.mp hp with h | h
      · rw [hone p h]; exact N' _ (List.mem_cons_self ..)
      · exact N' _ (List.mem_cons_of_mem _ h)
    cases f with
    | ret v => exact .ret p
    | brk => exact .brk p
    | next => exact .next (fin p)
    | cont => exact .cont (fin p)
  · rintro h' tk m' news' F' N' _ hJ
    exact done m' news' h' tk hJ F' N'
theorem iter_rangeJ1 {r d : Addr} {ob : Obj} {b₀ : Int} {t₀ u₀ v₀ : Tok} {n : Nat} {m₀ : Str → Option Value} {news : List (Addr × Obj)} (J : Addr → Nat → (Str → Option Value) → List (Addr × Obj) → Prop)
    (hh : A.handled = none) (hr : IsRange s.heap r 0 b₀ 1 t₀ u₀ v₀) (hsmall : Builtin.Range.small 0 b₀ 1 = true) (hn : Builtin.Range.rangeSize 0 b₀ 1 = (n : Int)) (F : Fr h₀ env.locals s.heap m₀) (N : News h₀ env.locals s.heap ((d, ob) :: news)) (h0 : J d 0 m₀ ((d, ob) :: news))
    (turn : ∀ i t m₁ news₁ h tk I o, i < n → J d i m₁ news₁ → (∀ p ∈ news₁, p.1 ≠ I) → Fr h₀ env.locals h (fun y => if y = x then some (.int ((i : Nat) : Int) t) else m₁ y) → News h₀ env.locals h ((I, o) :: news₁) →
      wpAny (model prog w) A (execs body env) (PostJ h₀ env.locals I o (J d (i + 1)) { s with heap := h, toks := tk } Q) E { s with heap := h, toks := tk })
    (done : ∀ m₁ news₁ h tk, J d n m₁ news₁ → Fr h₀ env.locals h m₁ → News h₀ env.locals h news₁ → Q .next { s with heap := h, toks := tk }) :
    wpAny (model prog w) A (pyIter (.ref r)) (fun it s₂ => LoopAtV prog w A h₀ env x body Q E it s₂) E s := iter_rangeJ (J d) hh hr hsmall hn F N h0 turn done
end
theorem swapN {h₀ h : Heap} {L : Addr} {a b : Addr × Obj} {l : List (Addr × Obj)} (N : News h₀ L h (a :: b :: l)) : News h₀ L h (b :: a :: l) := fun p hp => by
  rcases List.mem_cons.mp hp with e | hp
  · rw [e]; exact N _ (List.mem_cons_of_mem _ (List.mem_cons_self ..))
  · rcases List.mem_cons.mp hp with e | hp
    · rw [e]; exact N _ (List.mem_cons_self ..)
    · exact N _ (List.mem_cons_of_mem _ (List.mem_cons_of_mem _ hp))
/-- the walk stops here -/
def Stop (p : Prop) : Prop := p
theorem stop {p : Prop} (h : Stop p) : p := h
theorem map2 {m' : Str → Option Value} {a b : Str} {va vb : Value} (ha : m' a = some va) (hb : m' b = some vb) : m' = fun y => if y = a then some va else if y = b then some vb else m' y := by
  funext y
  by_cases h1 : y = a
  · subst h1; simp [ha]
  · by_cases h2 : y = b
    · subst h2; simp [hb, h1]
    · simp [h1, h2]
end Mine
end
-- Things
theorem Mine.calmThings : True := by
  w_top off
  trivial
section
open PySem PySem.W PyProof.Rows
set_option maxRecDepth 100000
set_option maxHeartbeats 4000000
namespace Mine
def ThL (rest : List (Addr × Obj)) (as : List Addr) (ths : List Th) : Prop :=
  as.length = ths.length ∧ ∀ (i : Nat) (t : Th), ths[i]? = some t → ∃ (a : Addr) (t1 t2 : Tok) (n' : Nat), as[i]? = some a ∧ (a, thO t.k t.c t.odd t1 t2 n') ∈ rest
theorem ThL.nil {rest : List (Addr × Obj)} : ThL rest [] [] := ⟨rfl, fun i t h => by simp at h⟩
theorem ThL.mono {rest rest' : List (Addr × Obj)} {as : List Addr} {ths : List Th} (h : ThL rest as ths) (hs : ∀ p ∈ rest, p ∈ rest') : ThL rest' as ths := by
  refine ⟨h.1, fun i t ht => ?_⟩
  obtain ⟨a, t1, t2, n', e, hm⟩ := h.2 i t ht
  exact ⟨a, t1, t2, n', e, hs _ hm⟩
theorem ThL.snoc {rest : List (Addr × Obj)} {as : List Addr} {ths : List Th} {th : Th} {a : Addr} {t1 t2 : Tok} {n' : Nat} (h : ThL rest as ths) (hm : (a, thO th.k th.c th.odd t1 t2 n') ∈ rest) : ThL rest (as ++ [a]) (ths ++ [th]) := by
  refine ⟨by simp [h.1], fun i t ht => ?_⟩
  rw [List.getElem?_append] at ht
  split at ht
  · rename_i hlt
    obtain ⟨b, u1, u2, k, e, hb⟩ := h.2 i t ht
    exact ⟨b, u1, u2, k, by rw [List.getElem?_append_left (by rw [h.1]; exact hlt)]; exact e, hb⟩
  · rename_i hlt
    have hi : i - ths.length = 0 := by
      by_cases h0 : i - ths.length = 0
      · exact h0
      · rw [List.getElem?_eq_none (by simp; omega)] at ht; cases ht
    rw [hi] at ht
    have e := Option.some.inj ht
    subst e
    refine ⟨a, t1, t2, n', ?_, hm⟩
    rw [List.getElem?_append_right (by rw [h.1]; omega), h.1, hi]; rfl
theorem thsTo_len (cs : List Nat) (i : Nat) : (thsTo cs i).length ≤ i := by
  induction i with
  | zero => exact Nat.le_refl _
  | succ i ih =>
    show (thsTo cs i ++ thAt cs i).length ≤ i + 1
    have : (thAt cs i).length ≤ 1 := by
      unfold thAt
      split
      · simp
      · split <;> simp
    rw [List.length_append]; omega
def ThJ (x : Str) (u : Tok) (news0 : List (Addr × Obj)) (dA : Addr) (i : Nat) (m₁ : Str → Option Value) (news₁ : List (Addr × Obj)) : Prop :=
  (∃ g : Str → Option Value, m₁ = fun y => if y = Str.ofString "things" then some (.ref dA) else if y = Str.ofString "text" then some (.str x u) else g y) ∧
  ∃ (as : List Addr) (n : Nat) (rest : List (Addr × Obj)), news₁ = (dA, lst (as.map Value.ref) n) :: rest ∧ (∀ p ∈ rest, p.1 ≠ dA) ∧ (∀ p ∈ news0, p ∈ rest) ∧ ThL rest as (thsTo x.cps.toList i)
theorem bs92 : Str.ofString "\\" = Str.mk #[92] := by decide +kernel
theorem th_end {x : Str} {u : Tok} {h₀ h' : Heap} {L I dA l' : Addr} {o ob : Obj} {s₁ : Shared} {Q : Flow → Shared → Prop} {tk i n n1 : Nat} {m' : Str → Option Value} {as : List Addr} {news rest : List (Addr × Obj)} {th : Th} {t1 t2 : Tok}
    (F : Fr h₀ L h' m') (N : News h₀ L h' ((l', ob) :: (dA, W.listOf ((as.map Value.ref).toArray.push (.ref l')) n1) :: (I, o) :: rest))
    (hm1 : m' (Str.ofString "things") = some (.ref dA)) (hm2 : m' (Str.ofString "text") = some (.str x u)) (hlt : dA < l' ∧ I < l' ∧ AllLt l' rest)
    (hne : ∀ p ∈ rest, p.1 ≠ dA) (hoff : ∀ p ∈ (dA, lst (as.map Value.ref) n) :: rest, p.1 ≠ I) (hsub : ∀ p ∈ news, p ∈ rest) (hL : ThL rest as (thsTo x.cps.toList i))
    (hob : ob = thO th.k th.c th.odd t1 t2 0) (hT : thAt x.cps.toList i = [th]) : PostJ h₀ L I o (ThJ x u news dA (i + 1)) s₁ Q .next { s₁ with heap := h', toks := tk } := by
  have e : W.listOf ((as.map Value.ref).toArray.push (.ref l')) n1 = lst ((as ++ [l']).map Value.ref) n1 := by simp [W.listOf, lst]
  rw [e] at N
  refine PostJ.end (news' := (dA, lst ((as ++ [l']).map Value.ref) n1) :: (l', ob) :: rest) F ?_ ?_ ⟨⟨m', map2 hm1 hm2⟩, as ++ [l'], n1, (l', ob) :: rest, rfl, ?_, fun p hp => List.mem_cons_of_mem _ (hsub p hp), ?_⟩
  · intro p hp
    refine N p ?_
    simp only [List.mem_cons] at hp ⊢
    rcases hp with h | h | h | h <;> simp only [h, true_or, or_true]
  · intro p hp
    rcases List.mem_cons.mp hp with h | hp
    · rw [h]; exact hoff (dA, lst (as.map Value.ref) n) (List.mem_cons_self ..)
    · rcases List.mem_cons.mp hp with h | hp
      · rw [h]; exact Nat.ne_of_gt hlt.2.1
      · exact hoff _ (List.mem_cons_of_mem _ hp)
  · intro p hp
    rcases List.mem_cons.mp hp with h | hp
    · rw [h]; exact Nat.ne_of_gt hlt.1
    · exact hne p hp
  · show ThL _ _ (thsTo x.cps.toList i ++ thAt x.cps.toList i)
    rw [hT]
    subst hob
    exact (hL.mono fun p hp => List.mem_cons_of_mem _ hp).snoc (List.mem_cons_self ..)
theorem th_end0 {x : Str} {u : Tok} {h₀ h' : Heap} {L I dA : Addr} {o : Obj} {s₁ : Shared} {Q : Flow → Shared → Prop} {tk i n : Nat} {m' : Str → Option Value} {as : List Addr} {news rest : List (Addr × Obj)}
    (F : Fr h₀ L h' m') (N : News h₀ L h' ((dA, lst (as.map Value.ref) n) :: (I, o) :: rest))
    (hm1 : m' (Str.ofString "things") = some (.ref dA)) (hm2 : m' (Str.ofString "text") = some (.str x u))
    (hne : ∀ p ∈ rest, p.1 ≠ dA) (hoff : ∀ p ∈ (dA, lst (as.map Value.ref) n) :: rest, p.1 ≠ I) (hsub : ∀ p ∈ news, p ∈ rest) (hL : ThL rest as (thsTo x.cps.toList i))
    (hT : thAt x.cps.toList i = []) : PostJ h₀ L I o (ThJ x u news dA (i + 1)) s₁ Q .next { s₁ with heap := h', toks := tk } := by
  refine PostJ.end (news' := (dA, lst (as.map Value.ref) n) :: rest) F (swapN N) hoff ⟨⟨m', map2 hm1 hm2⟩, as, n, rest, rfl, hne, hsub, ?_⟩
  show ThL _ _ (thsTo x.cps.toList i ++ thAt x.cps.toList i)
  rw [hT, List.append_nil]
  exact hL
local macro_rules | `(tactic| walk_at "call builtin:list.append") => `(tactic| (k_here; k_dflt (refine' append_K ?k1 ?k2 ?k3 ?_ ?z; (case k1 => k_asm); (case k2 => k_asm); (case k3 => (refine' Upd.tail ?a1 ?b1; (case a1 => k_ne); (case b1 => (refine' Upd.head ?a2; (case a2 => with_reducible assumption))))); (case z => (rw [List.size_toArray]; with_reducible assumption)); k_whole); intro h' F' N'; (try k_sweep)))
local macro_rules | `(tactic| walk_at "getMethod ref") => `(tactic| (k_here; (with_reducible show wpAny _ _ (getMethod (Value.ref _) (PySem.Str.ofString "append") _) _ _ _); k_dflt (refine' listMethod_K ?N ?m PySem.F.slot_list_append PySem.F.type_list_append ?_; (case N => k_asm); (case m => k_mem))))
local macro_rules | `(tactic| walk_at "newList") => `(tactic| (k_here; k_dflt (refine' newList_K ?k1 ?k2 ?_ ?z; (case k1 => k_asm); (case k2 => k_asm); (case z => exact Nat.le_of_ble_eq_true rfl); k_whole); intro l' h' F' N' l1; (try k_lt l1); (try k_sweep)))
theorem ThL.thIn {rest : List (Addr × Obj)} {as : List Addr} {ths : List Th} {d : Addr} {n : Nat} (h : ThL rest as ths) : ThIn ((d, lst (as.map Value.ref) n) :: rest) d ths := by
  refine ⟨n, as, List.mem_cons_self .., h.1, fun i t ht => ?_⟩
  obtain ⟨a, t1, t2, n', e, hm⟩ := h.2 i t ht
  exact ⟨a, t1, t2, n', e, List.mem_cons_of_mem _ hm⟩
theorem range_small {n : Nat} (h : n < 64) : Builtin.Range.small 0 (n : Int) 1 = true := by
  have e : n = 0 ∨ 0 < n := by omega
  unfold Builtin.Range.small Builtin.Range.rangeSize Builtin.Range.rangeFitsLong
  simp
  omega
theorem hbs_is (x : Str) {i : Nat} (hi : i < x.length) : (Txt.item x ((i : Nat) : Int) != Str.ofString "\\") = (x.cps.toList.getD i 0 != 92) := by
  rw [item_at x hi]; show (!(_ == _)) = (!(_ == _)); rw [bs_eq]
theorem thAt_1 {x : Str} {i : Nat} (hi : i < x.length) (e : ((i : Int) - ((Txt.rstripChars (Txt.slice x none (some (i : Int))) (Str.ofString "\\")).length : Int)).fmod 2 = 1) : thAt x.cps.toList i = [⟨i, x.cps.toList.getD i 0, oddAt x.cps.toList i⟩] := by
  have hod := odd_is x (Nat.le_of_lt hi)
  rw [e] at hod
  have : oddAt x.cps.toList i = true := hod.symm
  simp only [thAt, this, Bool.true_or, if_true]
theorem thAt_2 {x : Str} {i : Nat} (hi : i < x.length) (e : (Txt.item x ((i : Nat) : Int) != Str.ofString "\\") = true) : thAt x.cps.toList i = [⟨i, x.cps.toList.getD i 0, oddAt x.cps.toList i⟩] := by
  rw [hbs_is x hi] at e
  simp only [thAt, e, Bool.or_true, if_true]
theorem odd_no {x : Str} {i : Nat} (hi : i < x.length) (e : ((i : Int) - ((Txt.rstripChars (Txt.slice x none (some (i : Int))) (Str.ofString "\\")).length : Int)).fmod 2 ≠ 1) : oddAt x.cps.toList i = false := by
  rw [← odd_is x (Nat.le_of_lt hi)]; simpa using e
theorem thAt_3 {x : Str} {i : Nat} (hi : i < x.length) (e1 : ((i : Int) - ((Txt.rstripChars (Txt.slice x none (some (i : Int))) (Str.ofString "\\")).length : Int)).fmod 2 ≠ 1) (e2 : (Txt.item x ((i : Nat) : Int) != Str.ofString "\\") = false) (e3 : (i : Int) = (x.length : Int) - 1) : thAt x.cps.toList i = [⟨i, 92, false⟩] := by
  rw [hbs_is x hi] at e2
  have e1 := odd_no hi e1
  have hcs : x.cps.toList.length = x.length := by simp [Str.length]
  have e4 : i + 1 = x.cps.toList.length := by rw [hcs]; omega
  simp only [thAt, e1, e2, Bool.or_self, Bool.false_eq_true, if_false, if_pos e4]
theorem thAt_4 {x : Str} {i : Nat} (hi : i < x.length) (e1 : ((i : Int) - ((Txt.rstripChars (Txt.slice x none (some (i : Int))) (Str.ofString "\\")).length : Int)).fmod 2 ≠ 1) (e2 : (Txt.item x ((i : Nat) : Int) != Str.ofString "\\") = false) (e3 : (i : Int) ≠ (x.length : Int) - 1) : thAt x.cps.toList i = [] := by
  rw [hbs_is x hi] at e2
  have e1 := odd_no hi e1
  have hcs : x.cps.toList.length = x.length := by simp [Str.length]
  have e4 : ¬ (i + 1 = x.cps.toList.length) := by rw [hcs]; omega
  simp only [thAt, e1, e2, Bool.or_self, Bool.false_eq_true, if_false, if_neg e4]
theorem range_size (n : Nat) : Builtin.Range.rangeSize 0 (n : Int) 1 = (n : Int) := by
  unfold Builtin.Range.rangeSize
  rw [if_pos (by decide)]
  split <;> omega
def ThingsT (w : World) (mean : ExcName → Option Value) (mg mb : Str → Option Value) (x : Str) : Prop :=
  ∀ (dp un : Nat) (gd : Option (List Code)) (cn : Str) (cs : Scope) (a : Addr) (ccd : Value) (cl : List (Str × Addr)) (outer : List Env) (A₀ : Around) (base h₀ : Heap) (L : Addr) (m : Str → Option Value) (news : List (Addr × Obj)) (s : Shared) (Q E : Value → Shared → Prop) (u : Tok),
    Below A₀ base outer h₀ → Fr h₀ L s.heap m → (hd.heap_39 w.params).In h₀ → News h₀ L s.heap news → Top hd.view_39 (looseW hd.view_39 []) mean mg mb h₀ → cs.kind = .function → Signs x → dp + 4 < recursionLimit → un + 60 < cLine →
    (∀ r tl h' tk', Fr h₀ L h' m → News h₀ L h' (tl ++ news) → ThIn tl r (thsOf x.cps.toList) → Q (.ref r) { s with heap := h', toks := tk' }) →
    wpAny (model PySem.Challenge.rw_nb0036_01.row.prog w) (ktrTop dp un gd cn cs L a ccd cl outer) (call (.ref 105) [.str x u]) Q E s
theorem things_all (w : World) (mean : ExcName → Option Value) (mg mb : Str → Option Value) (x : Str) : ThingsT w mean mg mb x := by
  intro dp un gd cn cs a ccd cl outer A₀ base h₀ L m news s Q E u B F X N T hk hS hd hu hret
  have hlen : x.length < 64 := Nat.lt_of_lt_of_le hS.1 (by decide)
  have hcs : x.cps.toList.length = x.length := by simp [Str.length]
  revert X; k_fill; intro X
  refine wpAny_call ?_
  k_dflt ktr_enter
  k_with "exec For Name Call cons nil" =>
    ((rename Fr _ _ _ _ => lF'); (with_unfolding_all refine' For_invVF lF' ?k1 ?k2 ?_; (case k1 => exact rfl); (case k2 => exact rfl)))
  k_with "pyIter ref" => refine stop ?_
  k_steps
  k_with_none
  unfold Stop
  rename Fr _ _ _ _ => lF'
  rename News _ _ _ _ => lN'
  rename IsRange _ _ _ _ _ _ _ _ => rgX
  refine iter_rangeJ1 (n := x.length) (ThJ x u news) rfl rgX ?_ ?_ lF' lN' ?_ ?_ ?_
  · exact range_small hlen
  · exact range_size x.length
  · exact ⟨⟨_, map2 rfl rfl⟩, [], 0, news, rfl, fun p hp => Nat.ne_of_lt ((by assumption : ∀ p ∈ news, p.1 < _) p hp), fun p hp => hp, ThL.nil⟩
  · rintro i t m₁ news₁ h tk I o hi ⟨⟨g, rfl⟩, as, n, rest, rfl, hne, hsub, hL⟩ hoff F₁ N₁
    clear lF' lN' rgX hret
    replace N₁ := swapN N₁
    dsimp only [envOf] at F₁ N₁
    have hz : (as.map Value.ref).length ≤ sizeLine := by
      have h1 := hL.1
      have h2 := thsTo_len x.cps.toList i
      rw [List.length_map, h1, sizeLine_eq]; omega
    have hoI := fun p (hp : p ∈ (I, o) :: rest) => (List.mem_cons.mp hp).elim (fun e => by rw [e]; exact (hoff _ (List.mem_cons_self ..)).symm) (fun h => hne p h)
    have hz1 : (Txt.slice x none (some ((i : Nat) : Int))).length ≤ sizeLine := by have := Txt.slice_le x none (some ((i : Nat) : Int)); rw [sizeLine_eq]; omega
    have hz2 : x.length ≤ sizeLine := by rw [sizeLine_eq]; omega
    k_steps
    all_goals first
      | exact th_end (by assumption) (by assumption) rfl rfl (by assumption) hne hoff hsub hL (by rw [odd_is x (Nat.le_of_lt hi), item_at x hi]) (thAt_1 hi (by assumption))
      | exact th_end (by assumption) (by assumption) rfl rfl (by assumption) hne hoff hsub hL (by rw [odd_is x (Nat.le_of_lt hi), item_at x hi]) (thAt_2 hi (by assumption))
      | exact th_end (by assumption) (by assumption) rfl rfl (by assumption) hne hoff hsub hL (by rw [bs92]) (thAt_3 hi (by assumption) (by assumption) (by assumption))
      | exact th_end0 (by assumption) (by assumption) rfl rfl hne hoff hsub hL (thAt_4 hi (by assumption) (by assumption) (by assumption))
      | trace_state
  · rintro m₁ news₁ h tk ⟨⟨g, rfl⟩, as, n, rest, rfl, hne, hsub, hL⟩ F₁ N₁
    clear lF' lN' rgX
    dsimp only [envOf] at F₁ N₁
    k_steps
    all_goals (refine' hret _ _ _ _ ?zf ?zn hL.thIn; (case zf => assumption); (case zn => exact fun p hp => (by assumption : News h₀ L _ _) p ((List.mem_append.mp hp).elim id fun h9 => List.mem_cons_of_mem _ (hsub p h9))))
end Mine
end
-- DueL
theorem Mine.calmDueL : True := by
  w_top off
  trivial
section
open PySem PySem.W PyProof.Rows
set_option maxRecDepth 100000
namespace Mine
def VlIs (news : List (Addr × Obj)) (v : Value) : Vl → Prop
  | .i x => ∃ t, v = .int x t
  | .r p => ∃ b t1 t2 c, v = .ref b ∧ (b, refO p t1 t2 c) ∈ news
def VlsIs (news : List (Addr × Obj)) : List Value → List Vl → Prop
  | [], [] => True
  | v :: vs, a :: as => VlIs news v a ∧ VlsIs news vs as
  | _, _ => False
theorem VlIs.mono {news news' : List (Addr × Obj)} {v : Value} {a : Vl} (h : VlIs news v a) (hs : ∀ p ∈ news, p ∈ news') : VlIs news' v a := by
  cases a with
  | i x => exact h
  | r p => obtain ⟨b, t1, t2, c, e, hm⟩ := h; exact ⟨b, t1, t2, c, e, hs _ hm⟩
theorem VlsIs.mono {news news' : List (Addr × Obj)} (hs : ∀ p ∈ news, p ∈ news') : ∀ {vs : List Value} {as : List Vl}, VlsIs news vs as → VlsIs news' vs as
  | [], [], _ => trivial
  | _ :: _, _ :: _, h => ⟨h.1.mono hs, VlsIs.mono hs h.2⟩
  | [], _ :: _, h => h.elim
  | _ :: _, [], h => h.elim
theorem VlsIs.length {news : List (Addr × Obj)} : ∀ {vs : List Value} {as : List Vl}, VlsIs news vs as → vs.length = as.length
  | [], [], _ => rfl
  | _ :: _, _ :: _, h => by simp [VlsIs.length h.2]
  | [], _ :: _, h => h.elim
  | _ :: _, [], h => h.elim
theorem stepV_ne (S : List Vl) (t : Th) : stepV S t ≠ [] := by
  unfold stepV
  split
  · simp
  · split <;> simp
theorem stepV_len (S : List Vl) (t : Th) : (stepV S t).length ≤ S.length + 1 := by
  unfold stepV
  split
  · simp
  · split <;> simp <;> omega
theorem stk_len (ths : List Th) (j : Nat) (hj : j ≤ ths.length) : (stk ths j).length ≤ j := by
  induction j with
  | zero => exact Nat.le_refl _
  | succ j ih =>
    rw [stk_succ (List.getElem?_eq_getElem (by omega : j < ths.length))]
    have := stepV_len (stk ths j) ths[j]
    have := ih (by omega)
    omega
theorem stk_split {ths : List Th} {j : Nat} (h0 : 0 < j) (hj : j ≤ ths.length) (n : Nat) (hn : j ≤ n) : stk ths j = stk ths (rdI ths n j).2 ++ [(rdI ths n j).1] := by
  obtain ⟨k, rfl⟩ : ∃ k, j = k + 1 := ⟨j - 1, by omega⟩
  have r := rdI_stk ths n (k + 1) hn hj
  have hne : stk ths (k + 1) ≠ [] := by
    rw [stk_succ (List.getElem?_eq_getElem (by omega : k < ths.length))]; exact stepV_ne _ _
  rw [r.2.2.2, r.1]
  have hsp : stk ths (k + 1) = (stk ths (k + 1)).dropLast ++ [(stk ths (k + 1)).getLast hne] := (List.dropLast_concat_getLast hne).symm
  conv => lhs; rw [hsp]
  congr 2
  conv => rhs; rw [hsp]
  rw [lastV_snoc]
theorem len_things {w : World} {A : Around} {E : Value → Shared → Prop} {s : Shared} {Q : Value → Shared → Prop} {h₀ : Heap} {L r : Addr} {news : List (Addr × Obj)} {ths : List Th}
    (N : News h₀ L s.heap news) (h : ThIn news r ths) (hl : ths.length < 64) (k : Q (.int ths.length (s.toks + 1)) { s with toks := s.toks + 1 + 1 }) : wpAny (model PySem.Challenge.rw_nb0036_01.row.prog w) A (call (.builtin "len") [.ref r]) Q E s := by
  obtain ⟨n, as, hm, hla, _⟩ := h
  have hL : s.heap.IsList r (as.map Value.ref).toArray := News.isList N hm
  have e : (as.map Value.ref).toArray.size = ths.length := by simp [hla]
  refine len_list hL (by rw [e]; omega) ?_
  rw [e]; exact k
theorem cat_news {w : World} {A : Around} {E : Value → Shared → Prop} {s : Shared} {Q : Value → Shared → Prop} {h₀ : Heap} {L a b : Addr} {m : Str → Option Value} {news : List (Addr × Obj)} {vs ws : List Value} {c c' : Nat}
    (F : Fr h₀ L s.heap m) (N : News h₀ L s.heap news) (ha : (a, lst vs c) ∈ news) (hb : (b, lst ws c') ∈ news) (hz : vs.length + ws.length ≤ sizeLine)
    (h : ∀ D h', Fr h₀ L h' m → News h₀ L h' ((D, lst (vs ++ ws) 0) :: news) → (∀ p ∈ news, p.1 < D) → Q (.ref D) { s with heap := h' }) : wpAny (model PySem.Challenge.rw_nb0036_01.row.prog w) A (binaryOp .Add (.ref a) (.ref b)) Q E s :=
  kmk_add_lit (its := vs.toArray) (its2 := ws.toArray) F N (News.isList N ha) (News.isList N hb) rfl h (by simpa using hz)
theorem map3 {m' : Str → Option Value} {a b c : Str} {va vb vc : Value} (ha : m' a = some va) (hb : m' b = some vb) (hc : m' c = some vc) : m' = fun y => if y = a then some va else if y = b then some vb else if y = c then some vc else m' y := by
  funext y
  by_cases h1 : y = a
  · subst h1; simp [ha]
  · by_cases h2 : y = b
    · subst h2; simp [hb, h1]
    · by_cases h3 : y = c
      · subst h3; simp [hc, h1, h2]
      · simp [h1, h2, h3]
def DueJ (ths : List Th) (r : Addr) (news0 : List (Addr × Obj)) (j : Nat) (m₁ : Str → Option Value) (news₁ : List (Addr × Obj)) : Prop :=
  ∃ (g : Str → Option Value) (vals : List Vl) (vs : List Value) (lv : Addr) (c : Nat) (kk : Int) (tk : Tok), m₁ = (fun y => if y = Str.ofString "things" then some (.ref r) else if y = Str.ofString "k" then some (.int kk tk) else if y = Str.ofString "values" then some (.ref lv) else g y) ∧
    kk = (j : Int) - 1 ∧ j ≤ ths.length ∧ ThIn news₁ r ths ∧ (lv, lst vs c) ∈ news₁ ∧ (∀ p ∈ news0, p ∈ news₁) ∧ VlsIs news₁ vs vals ∧ stk ths j ++ vals = stk ths ths.length
theorem due_step {ths : List Th} {r D : Addr} {news0 news₁ news₂ : List (Addr × Obj)} {j : Nat} {kk' : Int} {tk : Tok} {vals : List Vl} {vs : List Value} {v : Value} {c : Nat} {m' : Str → Option Value}
    (hj0 : 0 < j) (hj : j ≤ ths.length) (hT : ThIn news₁ r ths) (hsub : ∀ p ∈ news0, p ∈ news₁) (hV : VlsIs news₁ vs vals) (hS : stk ths j ++ vals = stk ths ths.length)
    (h12 : ∀ p ∈ news₁, p ∈ news₂) (hv : VlIs news₂ v (rdI ths ths.length j).1) (hD : (D, lst (v :: vs) c) ∈ news₂) (hk : kk' = ((rdI ths ths.length j).2 : Int) - 1)
    (m1 : m' (Str.ofString "things") = some (.ref r)) (m2 : m' (Str.ofString "k") = some (.int kk' tk)) (m3 : m' (Str.ofString "values") = some (.ref D)) :
    DueJ ths r news0 (rdI ths ths.length j).2 m' news₂ := by
  have rr := rdI_stk ths ths.length j hj hj
  refine ⟨m', (rdI ths ths.length j).1 :: vals, v :: vs, D, c, kk', tk, map3 m1 m2 m3, hk, by omega, hT.mono h12, hD, fun p hp => h12 p (hsub p hp), ⟨hv, hV.mono h12⟩, ?_⟩
  rw [← hS, stk_split hj0 hj ths.length hj]
  simp
theorem While_due {prog : Program} {w : World} {A : Around} {E : Value → Shared → Prop} {Q : Flow → Shared → Prop} {s : Shared} {env : Env} {h₀ : Heap} {L r : Addr} {test : Expr} {body : List Stmt} {pos : Pos} {m : Str → Option Value} {news news0 tl : List (Addr × Obj)} {ths : List Th} {n₀ : Nat}
    (_hT : ThIn tl r ths) (F : Fr h₀ L s.heap m) (N : News h₀ L s.heap news) (hJ : DueJ ths r news0 n₀ m news)
    (turn : ∀ n m₁ news₁ h₁ tk₁, Fr h₀ L h₁ m₁ → News h₀ L h₁ news₁ → DueJ ths r news0 n m₁ news₁ →
      wpAny (model prog w) A (isTrue test env (eval test env)) (fun b s₂ =>
        if b = true then wpAny (model prog w) A (execs body env) (WhileStep h₀ L s (DueJ ths r news0) n) E s₂ else Q .next s₂) E { s with heap := h₁, toks := tk₁ })
    (hE : PassesOwn (model prog w) A env E := by passes_own) :
    wpAny (model prog w) A (exec (.While test body [] pos) env) Q E s := While_inv (DueJ ths r news0) F N hJ turn hE
end Mine
end
-- Comp1
theorem Mine.calmComp1 : True := by
  w_top off
  trivial
section
open PySem PySem.W PyProof.Rows
set_option maxRecDepth 100000
namespace Mine
abbrev nm (s : String) (p : Pos) : PySem.Expr := .Name (Str.ofString s) p
section
variable {prog : Program} {w : World} {A : Around} {E : Value → Shared → Prop} {s : Shared}
/-- type(value) is list -/
theorem refused_test {cenv : Env} {v : Value} {b : Bool} {p1 p2 p3 p4 p5 : Pos} {whole : Sem Value} {Q : Bool → Shared → Prop}
    (h1 : ∀ {Q : Value → Shared → Prop}, Q (.type "type") s → wpAny (model prog w) A (eval (nm "type" p1) cenv) Q E s)
    (h2 : ∀ {Q : Value → Shared → Prop}, Q (.type "list") s → wpAny (model prog w) A (eval (nm "list" p4) cenv) Q E s)
    (h3 : ∀ {Q : Value → Shared → Prop}, Q v s → wpAny (model prog w) A (eval (nm "value" p2) cenv) Q E s)
    (hv : (b = false ∧ ∃ x t, v = .int x t) ∨ (b = true ∧ ∃ a o, v = .ref a ∧ s.heap.get? a = some o ∧ o.cls = .type "list"))
    (hQ : Q b s) : wpAny (model prog w) A (isTrue (.Compare (.Call (nm "type" p1) [nm "value" p2] [] p3) [.Is] [nm "list" p4] p5) cenv whole) Q E s := by
  refine wpAny_isTrue_Compare1 ?_
  refine Call_ (h1 ?_)
  refine PyProof.Rows.callWith_type1 ?_
  refine args_cons (h3 ?_)
  refine args_nil ?_
  rcases hv with ⟨rfl, x, t, rfl⟩ | ⟨rfl, a, o, rfl, ho, hc⟩
  · refine call_type_of (Tx := "int") rfl (by decide +kernel) (h2 ?_)
    exact wpAny_is_other (by rfl) (by decide +kernel) (wpAny_truthy_bool hQ)
  · refine call_type_of (Tx := "list") ⟨o, ho, hc⟩ (by decide +kernel) (h2 ?_)
    exact wpAny_is_self (by rfl) (wpAny_truthy_bool hQ)
theorem paired_eq : ∀ {l l' : List Value}, Paired (fun v y => y = v) l l' → l' = l
  | _, _, .nil => rfl
  | _, _, .cons h t => by rw [h, paired_eq t]
theorem list_of_items {vs vs' : List Value} (hl : vs'.length = vs.length) (h : ∀ (j : Nat) (v : Value), vs'[j]? = some v → vs.toArray[j]? = some v) : vs' = vs := by
  refine List.ext_getElem hl fun i h1 h2 => ?_
  have := h i vs'[i] (List.getElem?_eq_getElem h1)
  rw [List.getElem?_toArray, List.getElem?_eq_getElem h2] at this
  exact (Option.some.inj this).symm
/-- [x for x in values if test] -/
theorem assign_filter {env : Env} {iter test : PySem.Expr} {x y : Str} {px px' py : Pos} {scope : Scope} {pos spos : Pos} {h₀ : Heap} {m : Str → Option Value} {news : List (Addr × Obj)} {lv : Addr} {vs : List Value} {c : Nat} {Q : Flow → Shared → Prop} (p : Value → Bool)
    (F : Fr h₀ env.locals s.heap m) (N : News h₀ env.locals s.heap news) (hlv : (lv, lst vs c) ∈ news) (hh : A.handled = none) (hz : vs.length < 1000)
    (hsw : swapsWith (.ListComp (.Name x px') [⟨.Name x px, iter, [test], 0⟩] scope pos) (some (.Name y py)) spos.line env = pure true)
    (hclos : closureFor scope env = pure []) (hcell : ∀ z ∈ scope.names, z.2 ≠ .cell) (hkind : scope.kind = .function)
    (hnames : ∀ z ∈ scope.names, z.2 = .local → scope.names.lookup z.1 = some .local) (hx : scope.names.lookup x = some .local) (hxd : (x == ("__debug__" : Str)) = false)
    (hy : env.kindOf y = some .local) (hp : (env.scope.kind == .class || (env.scope.kind == .module && env.locals != env.globals)) = false)
    (hs : ∀ x, foldedSetIterable iter env x = pure x)
    (hit : ∀ {Q : Value → Shared → Prop}, Q (.ref lv) s → wpAny (model prog w) A (eval iter env) Q E s)
    (htest : ∀ (C : Addr) (i : Nat) (v : Value) (s₃ : Shared) (m₃ : Str → Option Value) (E' : Value → Shared → Prop) (Q : Bool → Shared → Prop), vs[i]? = some v → s₃.heap.Ns C m₃ → m₃ x = some v → (∀ b o, s.heap.get? b = some o → s₃.heap.get? b = some o) →
      Q (p v) s₃ → wpAny (model prog w) A (isTrue test (compEnvC scope [] C env) (eval test (compEnvC scope [] C env))) Q E' s₃)
    (h : ∀ D n h' tk, Fr h₀ env.locals h' (fun z => if z = y then some (.ref D) else m z) → News h₀ env.locals h' ((D, lst (vs.filter p) n) :: news) → (∀ q ∈ news, q.1 ≠ D) → Q .next { s with heap := h', toks := tk }) :
    wpAny (model prog w) A (exec (.Assign [.Name y py] (.ListComp (.Name x px') [⟨.Name x px, iter, [test], 0⟩] scope pos) spos) env) Q E s := by
  have hL := News.isList N hlv
  obtain ⟨ol, hol, _⟩ := id hL
  have hne : lv ≠ s.heap.objs.size := Nat.ne_of_lt (Heap.lt_size hol)
  have W := Walks.list (prog := prog) (w := w) hh s.heap.objs.size lv hne vs.toArray
  have hkp : ∀ b o, s.heap.get? b = some o → b ∉ [s.heap.objs.size] := fun b o e hm => Nat.lt_irrefl _ ((List.mem_singleton.mp hm) ▸ Heap.lt_size e)
  have hlk : (compEnvC scope [] 0 env).kindOf x = some .local := lookup_relabel_local hx
  refine wpAny_Assign_ListComp_free (cl := []) p (fun v y => y = v) hsw hclos hcell hkind hnames hx hy hp (hit (wpAny_pyIter_list hL ?_)) hs
  refine ⟨_, _, _, _, _, _, m, rfl, W, (by simp; rw [sizeLine_eq]; omega), ⟨⟨_, Heap.get?_push_size _ rfl, rfl, rfl⟩, hL.at fun o e => Heap.get?_push_of_some _ e⟩, ?_, ?_, ?_, ?_, ?_⟩
  · intro b hb
    simp only [List.mem_cons, List.not_mem_nil, or_false] at hb
    rw [Heap.size_push]
    rcases hb with e | e
    · rw [e]; exact Nat.lt_succ_self _
    · rw [e]; exact Nat.lt_succ_of_lt (Heap.lt_size hol)
  · intro hm
    exact absurd F.ns.lt ((List.mem_singleton.mp hm) ▸ Nat.lt_irrefl _)
  · exact (F.push _).ns
  · refine ⟨fun C i v s₃ m₃ E' _ hP hns hv hk _ => ?_, fun C i v s₃ m₃ E' _ hP _ hns hv hk _ => ?_⟩
    · have hP' : vs[i]? = some v := by simpa using hP
      simp only [List.forIn_cons, List.forIn_nil, if_true]
      refine wpAny_bind (wpAny_bind (htest C i v s₃ m₃ E' _ hP' hns hv (fun b o e => hk b o (hkp b o e) (Heap.get?_push_of_some _ e)) ?_))
      exact wpAny_pure (wpAny_pure ⟨rfl, s₃.heap, s₃.toks, rfl, fun _ _ e => e⟩)
    · refine wpAny_Name (wpAny_loadName_local (env := compEnvC scope [] C env) (by simp [compEnvC, relabel, hkind]) hlk hns hv ⟨rfl, s₃.heap, s₃.toks, rfl, fun _ _ e => e⟩) hxd
  · intro D h' tk ys vs' hD hl hpl hlen hP hF hns hk
    have e1 := list_of_items (vs := vs) (by simpa using hlen) hP
    subst e1
    have e2 := paired_eq hF
    obtain ⟨n, hn⟩ := hpl
    have hup : ∀ b o, b ≠ env.locals → s.heap.get? b = some o → h'.get? b = some o := fun b o hb e => hk b o hb (hkp b o e) (Heap.get?_push_of_some _ e)
    have e3 : ys = (vs'.filter p).toArray := by rw [← e2]
    rw [e3] at hn
    obtain ⟨oL, _, _, hoL, _⟩ := F.ns
    refine h D n h' tk ⟨hns, fun b o e => hup b o (Nat.ne_of_lt (Nat.lt_of_lt_of_le (Heap.lt_size e) F.above)) (F.keep b o e), F.above⟩ (fun q hq => ?_) (fun q hq e => ?_)
    · rcases List.mem_cons.mp hq with e | hq
      · rw [e]
        refine ⟨hn, fun e' => ?_, ?_⟩
        · have h9 : D = env.locals := e'
          rw [h9, Heap.get?_push_of_some _ hoL] at hD; cases hD
        · cases h9 : h₀.get? D with
          | none => rfl
          | some o9 => rw [Heap.get?_push_of_some _ (F.keep _ _ h9)] at hD; cases hD
      · exact ⟨hup _ _ (N q hq).2.1 (N q hq).1, (N q hq).2⟩
    · rw [← e, Heap.get?_push_of_some _ (N q hq).1] at hD; cases hD
/-- a built-in's name, a def's name, in a comprehension's block -/
theorem comp_B {K : Frag} {h₀ : Heap} {mg mb : Str → Option Value} {p : Program} {loose : List Str} {scope : Scope} {C : Addr} {env : Env} {x : Str} {pos : Pos} {v : Value} {Q : Value → Shared → Prop}
    (hkeep : ∀ b o, h₀.get? b = some o → s.heap.get? b = some o) (X : K.In h₀) (T : TopRead p loose mg mb h₀) (e : nsIn K mainGlobals x = some none) (hv : bootBuiltins x = some v) (hn : x ≠ "__name__")
    (hg : env.globals = mainGlobals) (hb : env.builtins = builtinsNs) (hkd : (compEnvC scope [] C env).scope.kind = .function) (hx : (compEnvC scope [] C env).kindOf x = some .globalImplicit) (hd : (x == ("__debug__" : Str)) = false) (h : Q v s) :
    wpAny (model prog w) A (eval (.Name x pos) (compEnvC scope [] C env)) Q E s :=
  Calls.Name_function_global hkd hx (Calls.loadGlobal_builtin (env := compEnvC scope [] C env) (mg := mg) (mb := mb) (by show s.heap.Ns env.globals mg; rw [hg]; exact T.g.keeps hkeep) (mg_none_of X T.g e) (by show s.heap.Ns env.builtins mb; rw [hb]; exact T.b.keeps hkeep) ((T.builtins x hn).trans hv) h) hd
theorem comp_K {K : Frag} {h₀ : Heap} {mg mb : Str → Option Value} {p : Program} {loose : List Str} {scope : Scope} {C : Addr} {env : Env} {x : Str} {pos : Pos} {v : Value} {Q : Value → Shared → Prop}
    (hkeep : ∀ b o, h₀.get? b = some o → s.heap.get? b = some o) (X : K.In h₀) (T : TopRead p loose mg mb h₀) (e : nsIn K mainGlobals x = some (some v))
    (hg : env.globals = mainGlobals) (hkd : (compEnvC scope [] C env).scope.kind = .function) (hx : (compEnvC scope [] C env).kindOf x = some .globalImplicit) (hd : (x == ("__debug__" : Str)) = false) (h : Q v s) :
    wpAny (model prog w) A (eval (.Name x pos) (compEnvC scope [] C env)) Q E s :=
  Calls.Name_function_global hkd hx (Calls.loadGlobal_global (env := compEnvC scope [] C env) (mg := mg) (by show s.heap.Ns env.globals mg; rw [hg]; exact T.g.keeps hkeep) (mg_of X T.g e) h) hd
def isRefV : Value → Bool
  | .ref _ => true
  | _ => false
theorem VlsIs.get {news : List (Addr × Obj)} : ∀ {vs : List Value} {as : List Vl}, VlsIs news vs as → ∀ (i : Nat) (v : Value), vs[i]? = some v → ∃ a, as[i]? = some a ∧ VlIs news v a
  | [], [], _, i, v, h => by simp at h
  | v' :: vs, a :: as, h, 0, v, e => by
    have : v' = v := by simpa using e
    subst this
    exact ⟨a, rfl, h.1⟩
  | v' :: vs, a :: as, h, i + 1, v, e => VlsIs.get h.2 i v (by simpa using e)
  | [], _ :: _, h, _, _, _ => h.elim
  | _ :: _, [], h, _, _, _ => h.elim
theorem refused_v {news : List (Addr × Obj)} {vs : List Value} {as : List Vl} {i : Nat} {v : Value} {h₀ : Heap} {L : Addr} {s₃ : Shared} (hV : VlsIs news vs as) (N : News h₀ L s.heap news) (hk : ∀ b o, s.heap.get? b = some o → s₃.heap.get? b = some o) (hi : vs[i]? = some v) :
    (isRefV v = false ∧ ∃ x t, v = .int x t) ∨ (isRefV v = true ∧ ∃ a o, v = .ref a ∧ s₃.heap.get? a = some o ∧ o.cls = .type "list") := by
  obtain ⟨a, _, ha⟩ := hV.get i v hi
  cases a with
  | i x => obtain ⟨t, rfl⟩ := ha; exact .inl ⟨rfl, x, t, rfl⟩
  | r q => obtain ⟨b, t1, t2, c, rfl, hm⟩ := ha; exact .inr ⟨rfl, b, _, rfl, hk _ _ (N _ hm).1, rfl⟩
end
end Mine
end
-- Res
theorem Mine.calmRes : True := by
  w_top off
  trivial
section
open PySem PySem.W PyProof.Rows
set_option maxRecDepth 100000
namespace Mine
def resDat : Res → List Dat
  | .inl ns => ns.map Dat.int
  | .inr p => [.str (Str.ofString "refused"), .int p]
theorem resDat_ok (r : Res) : ∀ d ∈ resDat r, kqdOk 8 d = true := by
  cases r with
  | inl ns =>
    intro d hd
    obtain ⟨n, _, rfl⟩ := List.mem_map.mp hd
    rfl
  | inr p =>
    intro d hd
    simp only [resDat, List.mem_cons, List.not_mem_nil, or_false] at hd
    rcases hd with rfl | rfl
    · decide +kernel
    · rfl
theorem datAll_ref {news : List (Addr × Obj)} (p : Nat) (t1 t2 : Tok) : DatAll news [.str (Str.ofString "refused") t1, .int p t2] (resDat (.inr p)) := .cons (.str _ _) (.cons (.int _ _) .nil)
def datV : Vl → Dat
  | .i x => .int x
  | .r p => .list [.str (Str.ofString "refused"), .int p]
def isR : Vl → Bool
  | .r _ => true
  | _ => false
theorem VlIs.isRef {news : List (Addr × Obj)} {v : Value} {a : Vl} (h : VlIs news v a) : isRefV v = isR a := by
  cases a with
  | i x => obtain ⟨t, rfl⟩ := h; rfl
  | r p => obtain ⟨b, t1, t2, c, rfl, _⟩ := h; rfl
theorem VlIs.dat {news : List (Addr × Obj)} {v : Value} {a : Vl} (h : VlIs news v a) : DatIn news v (datV a) := by
  cases a with
  | i x => obtain ⟨t, rfl⟩ := h; exact .int _ _
  | r p => obtain ⟨b, t1, t2, c, rfl, hm⟩ := h; exact .list hm (.cons (.str _ _) (.cons (.int _ _) .nil))
theorem filter_dat {news : List (Addr × Obj)} : ∀ {vs : List Value} {as : List Vl}, VlsIs news vs as → DatAll news (vs.filter isRefV) ((as.filter isR).map datV)
  | [], [], _ => .nil
  | v :: vs, a :: as, h => by
    have e := h.1.isRef
    have r := filter_dat h.2
    rw [List.filter_cons, List.filter_cons, e]
    cases isR a with
    | true => exact .cons h.1.dat r
    | false => exact r
  | [], _ :: _, h => h.elim
  | _ :: _, [], h => h.elim
theorem datV_ok {a : Vl} (h : isR a = true) : kqdOk 8 (datV a) = true := by
  cases a with
  | i x => cases h
  | r p =>
    show (kqdOk 7 (.str (Str.ofString "refused")) && (kqdOk 7 (.int p) && true)) = true
    have : PyData.strOk (Str.ofString "refused") = true := by decide +kernel
    simp [kqdOk, this]
theorem datAll_len {news : List (Addr × Obj)} : ∀ {vs : List Value} {ds : List Dat}, DatAll news vs ds → vs.length = ds.length
  | _, _, .nil => rfl
  | _, _, .cons _ r => by simp [datAll_len r]
/-- no refusal: the values are ints -/
theorem vals_ints {news : List (Addr × Obj)} : ∀ {vs : List Value} {as : List Vl}, VlsIs news vs as → firstR as = none → DatAll [] vs ((intsV as).map Dat.int) ∧ vs.filter isRefV = []
  | [], [], _, _ => ⟨.nil, rfl⟩
  | v :: vs, .i x :: as, h, hf => by
    obtain ⟨t, rfl⟩ := h.1
    obtain ⟨r1, r2⟩ := vals_ints h.2 hf
    exact ⟨.cons (.int _ _) r1, by rw [List.filter_cons]; exact r2⟩
  | v :: vs, .r q :: as, h, hf => by cases hf
  | [], _ :: _, h, _ => h.elim
  | _ :: _, [], h, _ => h.elim
/-- a refusal: the first one -/
theorem vals_ref {news : List (Addr × Obj)} {p : Nat} : ∀ {vs : List Value} {as : List Vl}, VlsIs news vs as → firstR as = some p → ∃ b t1 t2 c ws, vs.filter isRefV = .ref b :: ws ∧ (b, refO p t1 t2 c) ∈ news
  | [], [], _, hf => by cases hf
  | v :: vs, .i x :: as, h, hf => by
    obtain ⟨t, rfl⟩ := h.1
    obtain ⟨b, t1, t2, c, ws, e, hm⟩ := vals_ref h.2 hf
    exact ⟨b, t1, t2, c, ws, by rw [List.filter_cons]; exact e, hm⟩
  | v :: vs, .r q :: as, h, hf => by
    obtain ⟨b, t1, t2, c, rfl, hm⟩ := h.1
    have : q = p := by simpa [firstR] using hf
    subst this
    exact ⟨b, t1, t2, c, _, by rw [List.filter_cons]; rfl, hm⟩
  | [], _ :: _, h, _ => h.elim
  | _ :: _, [], h, _ => h.elim
section
variable {prog : Program} {w : World} {A : Around} {E : Value → Shared → Prop} {s : Shared} {h₀ : Heap} {L D l : Addr} {news n₁ : List (Addr × Obj)} {Q : Value → Shared → Prop}
theorem ne_nil {ws : List Value} {ds : List Dat} {n n' : Nat} (N : News h₀ L s.heap news) (hD : (D, lst ws n) ∈ news) (hl : (l, lst [] n') ∈ news) (DA : DatAll n₁ ws ds) (sa : ∀ p ∈ n₁, p ∈ news) (ok : ∀ d ∈ ds, kqdOk 8 d = true) (hu : A.units + 64 < cLine)
    (h : Q (.bool (!ws.isEmpty)) s) : wpAny (model prog w) A (compareOp .NotEq (.ref D) (.ref l)) Q E s := by
  refine kqd_ne (n₁ := n₁) (n₂ := []) N hD rfl rfl DA sa hl rfl rfl DatAll.nil (fun _ h => nomatch h) ok (fun _ h => nomatch h) hu ?_
  have hlen := datAll_len DA
  have e : (!decide (ds = [])) = !ws.isEmpty := by
    cases ws with
    | nil =>
      have : ds = [] := List.eq_nil_of_length_eq_zero (by simpa using hlen.symm)
      simp [this]
    | cons a b =>
      have : ds ≠ [] := by intro e; rw [e] at hlen; simp at hlen
      simp [this]
  rw [e]; exact h
theorem ne_nil_f {ds : List Dat} {n n' : Nat} (N : News h₀ L s.heap news) (hD : (D, lst [] n) ∈ news) (hl : (l, lst [] n') ∈ news) (DA : DatAll n₁ [] ds) (sa : ∀ p ∈ n₁, p ∈ news) (ok : ∀ d ∈ ds, kqdOk 8 d = true) (hu : A.units + 64 < cLine)
    (h : Q (.bool false) s) : wpAny (model prog w) A (compareOp .NotEq (.ref D) (.ref l)) Q E s := ne_nil N hD hl DA sa ok hu h
theorem ne_nil_t {v : Value} {ws : List Value} {ds : List Dat} {n n' : Nat} (N : News h₀ L s.heap news) (hD : (D, lst (v :: ws) n) ∈ news) (hl : (l, lst [] n') ∈ news) (DA : DatAll n₁ (v :: ws) ds) (sa : ∀ p ∈ n₁, p ∈ news) (ok : ∀ d ∈ ds, kqdOk 8 d = true) (hu : A.units + 64 < cLine)
    (h : Q (.bool true) s) : wpAny (model prog w) A (compareOp .NotEq (.ref D) (.ref l)) Q E s := ne_nil N hD hl DA sa ok hu h
end
end Mine
end
-- Due
theorem Mine.calmDue : True := by
  w_top off
  trivial
section
open PySem PySem.W PyProof.Rows
set_option maxRecDepth 100000
set_option maxHeartbeats 4000000
namespace Mine
local macro_rules | `(tactic| walk_at "no such key") => `(tactic| skip)
local macro_rules | `(tactic| walk_at "call builtin:len") => `(tactic| (k_here; (with_reducible show wpAny _ _ (call (Value.builtin "len") [Value.ref _]) _ _ _); (refine' len_things ?k1 ?k2 ?k3 ?_; (case k1 => k_asm); (case k2 => (refine ThIn.mono (by assumption) ?_; ktd_sub)); (case k3 => assumption))))
local macro_rules | `(tactic| walk_at "newList") => `(tactic| (k_here; k_dflt (refine' newList_K ?k1 ?k2 ?_ ?z; (case k1 => k_asm); (case k2 => k_asm); (case z => exact Nat.le_of_ble_eq_true rfl); k_whole); intro l' h' F' N' l1; (try k_lt l1); (try k_sweep)))
local macro_rules | `(tactic| walk_at "compareOp NotEq ref ref") => `(tactic| (k_here; first | (refine' ne_nil_f ?q1 ?q2 ?q3 ?qd ?q4 ?qo ?q5 ?_; (case q1 => k_asm); (case q2 => exact List.mem_cons_of_mem _ (List.mem_cons_self ..)); (case q3 => exact List.mem_cons_self ..); (case qd => assumption); (case q4 => exact fun p9 h9 => List.mem_cons_of_mem _ (List.mem_cons_of_mem _ h9)); (case qo => assumption); (case q5 => ktr_units)) | (refine' ne_nil_t ?q1 ?q2 ?q3 ?qd ?q4 ?qo ?q5 ?_; (case q1 => k_asm); (case q2 => exact List.mem_cons_of_mem _ (List.mem_cons_self ..)); (case q3 => exact List.mem_cons_self ..); (case qd => assumption); (case q4 => exact fun p9 h9 => List.mem_cons_of_mem _ (List.mem_cons_of_mem _ h9)); (case qo => assumption); (case q5 => ktr_units))))
def DueT (w : World) (mean : ExcName → Option Value) (mg mb : Str → Option Value) (x : Str) : Prop :=
  ∀ (dp un : Nat) (gd : Option (List Code)) (cn : Str) (cs : Scope) (a : Addr) (ccd : Value) (cl : List (Str × Addr)) (outer : List Env) (A₀ : Around) (base h₀ : Heap) (L : Addr) (m : Str → Option Value) (news : List (Addr × Obj)) (s : Shared) (Q E : Value → Shared → Prop) (u : Tok),
    Below A₀ base outer h₀ → Fr h₀ L s.heap m → (hd.heap_39 w.params).In h₀ → News h₀ L s.heap news → Top hd.view_39 (looseW hd.view_39 []) mean mg mb h₀ → cs.kind = .function → Signs x → dp + 100 < recursionLimit → un + 800 < cLine →
    (∀ r vs c h' tk', Fr h₀ L h' m → News h₀ L h' ((r, lst vs c) :: news) → DatAll [] vs (resDat (due (stk (thsOf x.cps.toList) (thsOf x.cps.toList).length))) → Q (.ref r) { s with heap := h', toks := tk' }) →
    wpAny (model PySem.Challenge.rw_nb0036_01.row.prog w) (ktrTop dp un gd cn cs L a ccd cl outer) (call (.ref 124) [.str x u]) Q E s
theorem due_all (w : World) (mean : ExcName → Option Value) (mg mb : Str → Option Value) (x : Str) (hg : Good (thsOf x.cps.toList)) : DueT w mean mg mb x := by
  intro dp un gd cn cs a ccd cl outer A₀ base h₀ L m news s Q E u B F X N T hk hS hd hu hret
  generalize hths : thsOf x.cps.toList = ths at hg hret
  have hlen := hg.1
  revert X; k_fill; intro X
  refine wpAny_call ?_
  k_dflt ktr_enter
  have TH := things_all w mean mg mb x
  k_with "call ref" =>
    (with_unfolding_all
     refine' TH _ _ _ _ _ _ _ _ _ _ _ _ _ _ _ _ _ _ _ ?B ?F ?X ?N ?T ?K ?S ?d ?u ?_
     (case B => k_asm)
     (case F => k_asm)
     (case X => k_asm)
     (case N => k_asm)
     (case T => k_asm)
     (case K => exact rfl)
     (case S => exact hS)
     (case d => ktr_room)
     (case u => ktr_units)
     rw [hths])
  k_with "exec While Compare cons nil" => refine stop ?_
  k_steps
  k_with_none
  clear TH
  unfold Stop
  rename Fr _ _ _ _ => lF'
  rename News _ _ _ _ => lN'
  rename ThIn _ _ _ => hTI
  refine While_due (n₀ := ths.length) (news0 := news) hTI lF' lN' ?_ ?_
  · refine ⟨_, [], [], _, 0, _, _, map3 rfl rfl rfl, rfl, Nat.le_refl _, ThIn.mono hTI (by intro p hp; simp only [List.mem_cons, List.mem_append, hp, true_or, or_true]), (by k_mem), (by intro p hp; simp only [List.mem_cons, List.mem_append, hp, true_or, or_true]), trivial, by simp⟩
  · rintro j m₁ news₁ h₁ tk₁ F₁ N₁ ⟨g, vals, vs, lv, c, kk, tk, rfl, hkk, hj, hTj, hlv, hsub, hV, hSt⟩
    clear lF' lN' hTI
    have hvl : vs.length ≤ 64 := by
      have h1 := hV.length
      have h2 := congrArg List.length hSt
      have h3 := stk_len ths ths.length (Nat.le_refl _)
      rw [List.length_append] at h2
      omega
    have VA := val_all w mean mg mb hg ths.length j hj hj
    k_with "call ref" =>
     (with_unfolding_all
      refine' VA _ _ _ _ _ _ _ _ _ _ _ _ _ _ _ _ _ _ _ _ _ ?B ?F ?X ?N ?T ?K ?R ?kk ?d ?u ?_ ?_
      (case kk => omega)
      (case B => k_asm)
      (case F => k_asm)
      (case X => k_asm)
      (case N => k_asm)
      (case T => k_asm)
      (case K => exact rfl)
      (case R => assumption)
      (case d => ktr_room)
      (case u => ktr_units))
    k_with "binaryOp Add ref ref" => ((refine' cat_news ?k1 ?k2 ?k3 ?k4 ?k5 ?_; (case k1 => k_asm); (case k2 => k_asm); (case k3 => exact List.Mem.head _); (case k4 => first | exact List.mem_cons_of_mem _ (List.mem_cons_of_mem _ hlv) | exact List.mem_cons_of_mem _ (List.mem_cons_of_mem _ (List.mem_cons_of_mem _ hlv))); (case k5 => (simp only [List.length_cons, List.length_nil, sizeLine_eq]; omega)); intro D' h' F' N' l1; (try k_lt l1); (try k_sweep)))
    k_with "exec Assign cons ListComp" => refine stop ?_
    k_steps
    k_with_none
    rotate_right
    · unfold Stop
      clear VA
      with_unfolding_all refine' assign_filter isRefV F₁ N₁ hlv ?f1 ?f2 ?f3 ?f4 ?f5 ?f6 ?f7 ?f8 ?f9 ?f10 ?f11 ?f12 ?f13 ?f14 ?_
      case f1 => rfl
      case f2 => omega
      case f3 => with_unfolding_all rfl
      case f4 => rfl
      case f5 => decide
      case f6 => rfl
      case f7 => decide +kernel
      case f8 => rfl
      case f9 => decide +kernel
      case f10 => rfl
      case f11 => rfl
      case f12 => intro _; rfl
      case f13 => exact fun hq => ld F₁ rfl hq
      case f14 =>
        intro C i v s₃ m₃ E' Q' hvi hns hv hk' hq
        have hkg : ∀ b o, Heap.get? _ b = some o → s₃.heap.get? b = some o := fun b o e => hk' b o (F₁.keep b o e)
        refine refused_test (fun hq' => ?_) (fun hq' => ?_) (fun hq' => ?_) (refused_v hV N₁ hk' hvi) hq
        · refine' comp_B hkg ?g1 ?g2 ?g3 ?g4 ?g5 rfl rfl rfl rfl ?g6 hq'
          case g1 => assumption
          case g2 => exact topRead_of (by assumption)
          case g3 => k_is
          case g4 => boot_by_name
          case g5 => decide
          case g6 => decide +kernel
        · refine' comp_B hkg ?g1 ?g2 ?g3 ?g4 ?g5 rfl rfl rfl rfl ?g6 hq'
          case g1 => assumption
          case g2 => exact topRead_of (by assumption)
          case g3 => k_is
          case g4 => boot_by_name
          case g5 => decide
          case g6 => decide +kernel
        · exact wpAny_Name (wpAny_loadName_local rfl rfl hns hv hq') (by decide +kernel)
      intro D n h' tk' F₂ N₂ hnD
      dsimp only [envOf] at F₂ N₂
      have hj0 : j = 0 := by omega
      subst hj0
      have hvals : vals = stk ths ths.length := hSt
      subst hvals
      have hV2 := filter_dat hV
      have hok : ∀ d ∈ ((stk ths ths.length).filter isR).map datV, kqdOk 8 d = true := fun d hd => by
        obtain ⟨a9, h9, rfl⟩ := List.mem_map.mp hd
        exact datV_ok (List.mem_filter.mp h9).2
      clear hkk hSt
      cases hf : firstR (stk ths ths.length) with
      | none =>
        obtain ⟨hi1, hi2⟩ := vals_ints hV hf
        have hdue : due (stk ths ths.length) = .inl (intsV (stk ths ths.length)) := by unfold due; rw [hf]
        rw [hdue] at hret
        rw [hi2] at N₂ hV2
        k_steps
        k_with_none
        all_goals (refine' hret lv vs c _ _ ?zf ?zn hi1; (case zf => assumption); (case zn => exact pick1 (by assumption) (List.mem_cons_of_mem _ (List.mem_cons_of_mem _ hlv)) (fun p9 h9 => List.mem_cons_of_mem _ (List.mem_cons_of_mem _ (hsub p9 h9)))))
      | some p =>
        obtain ⟨b, t1, t2, c', ws, he, hm⟩ := vals_ref hV hf
        have hdue : due (stk ths ths.length) = .inr p := by unfold due; rw [hf]
        rw [hdue] at hret
        rw [he] at N₂ hV2
        k_steps
        k_with_none
        all_goals (refine' hret b _ c' _ _ ?zf ?zn (datAll_ref p t1 t2); (case zf => assumption); (case zn => exact pick1 (by assumption) (List.mem_cons_of_mem _ (List.mem_cons_of_mem _ hm)) (fun p9 h9 => List.mem_cons_of_mem _ (List.mem_cons_of_mem _ (hsub p9 h9)))))
    · have hj0 : 0 < j := by omega
      have hlt := (rdI_stk ths ths.length j hj hj).2.2.1 hj0
      refine' WhileStep.intro (n' := (rdI ths ths.length j).2) ?zf ?zn hlt ?zj
      case zf => assumption
      case zn => assumption
      case zj =>
        refine' due_step hj0 hj hTj hsub hV hSt ?y1 ?y2 (List.Mem.head _) ?y4 rfl rfl rfl
        case y4 => assumption
        case y1 => intro p9 h9; simp only [List.mem_cons, h9, or_true]
        case y2 => rename (rdI ths ths.length j).1 = Vl.i _ => he9; rw [he9]; exact ⟨_, rfl⟩
    · have hj0 : 0 < j := by omega
      have hlt := (rdI_stk ths ths.length j hj hj).2.2.1 hj0
      refine' WhileStep.intro (n' := (rdI ths ths.length j).2) ?zf ?zn hlt ?zj
      case zf => assumption
      case zn => assumption
      case zj =>
        refine' due_step hj0 hj hTj hsub hV hSt ?y1 ?y2 (List.Mem.head _) ?y4 rfl rfl rfl
        case y4 => assumption
        case y1 => intro p9 h9; simp only [List.mem_cons, h9, or_true]
        case y2 => rename (rdI ths ths.length j).1 = Vl.r _ => he9; rw [he9]; exact ⟨_, _, _, _, rfl, .tail _ (.tail _ (.tail _ (.head _)))⟩
end Mine
end
-- Gen1
theorem Mine.calmGen1 : True := by
  w_top off
  trivial
section
open PySem
set_option maxRecDepth 100000
namespace Mine
section
variable {M : Model} {A : Around} {R : GenEnd} {Y : Protocol} {n : Nat} {s₀ : Shared} {c : Code} {fs : List Frame} {s : Shared} {env : Env}
  {K : Flow → Sem Fin} {H : Value → Sem Fin} {gd : Bool → Bool} {lv : List Value → List Value}
abbrev NoE : Value → Shared → Prop := fun _ _ => False
theorem seg_stmt {st : Stmt} (h : wpAny M (A.over c fs) (exec st env) (fun f s' => Seg M A R Y n s₀ c (K f) fs s') NoE s) :
    Seg M A R Y n s₀ c ((exec st env).wrap K H gd lv) fs s := seg_wrap (wpAny_mono h (fun _ _ x => x) fun _ _ x => x.elim)
theorem seg_If {test : PySem.Expr} {b o : List Stmt} {pos : Pos}
    (h : wpAny M (A.over c fs) (isTrue test env (eval test env)) (fun r s' => if r = true then Seg M A R Y n s₀ c ((execs b env).wrap K H gd lv) fs s' else Seg M A R Y n s₀ c ((execs o env).wrap K H gd lv) fs s') NoE s) :
    Seg M A R Y n s₀ c ((exec (.If test b o pos) env).wrap K H gd lv) fs s := by
  rw [exec_If]
  refine seg_bind_wrap (wpAny_standAt ?_)
  refine seg_bind_wrap (wpAny_mono h (fun r s' hr => ?_) fun _ _ x => x.elim)
  cases r with
  | true => simpa using hr
  | false => simpa using hr
theorem seg_For {target iter : PySem.Expr} {body orelse : List Stmt} {pos : Pos} (hs : ∀ x, foldedSetIterable iter env x = pure x)
    (h : wpAny M (A.over c fs) (eval iter env) (fun x s₁ => wpAny M (A.over c fs) (pyIter x) (fun it s₂ => ∀ (kk : Result → Sem Fin) (p : Pos), kk (.ok .next) = K .next →
      Seg M A R Y n s₀ (.forLoop target it body orelse env) (M.den (.forLoop target it body orelse env)) (.ret kk none (gd false) (lv []) c p [] :: fs) s₂) NoE s₁) NoE s) :
    Seg M A R Y n s₀ c ((exec (.For target iter body orelse pos) env).wrap K H gd lv) fs s := by
  rw [exec_For]
  refine seg_bind_wrap (wpAny_standAt ?_)
  refine seg_bind_wrap (wpAny_mono h (fun x s₁ h₁ => ?_) fun _ _ x => x.elim)
  refine seg_bind_wrap (wpAny_of_eq (hs x) ?_)
  refine seg_bind_wrap (wpAny_standAt ?_)
  refine seg_bind_wrap (wpAny_holding (wpAny_mono h₁ (fun it s₂ h₂ => ?_) fun _ _ x => x.elim))
  exact seg_call fun p => h₂ _ p rfl
end
section
variable {prog : Program} {w : World} {A : Around} {R : GenEnd} {Y : Protocol} {n : Nat} {s₀ : Shared} {fs : List Frame} {s : Shared} {env : Env}
theorem seg_forTurn {target it : _} {body : List Stmt}
    (h : wpAny (model prog w) (A.over (.forLoop target it body [] env) fs) (pyNext it) (fun r s₁ => match r with
      | none => ∀ c', Seg (model prog w) A R Y n s₀ c' (leafOf (.ok .next)) fs s₁
      | some v => wpAny (model prog w) (A.over (.forLoop target it body [] env) fs) (letOwnedTupleGo target it v) (fun _ s₁' =>
          wpAny (model prog w) (A.over (.forLoop target it body [] env) fs) (assign target env v) (fun _ s₂ =>
            ∀ H : Value → Sem Fin, Seg (model prog w) A R Y n s₀ (.forLoop target it body [] env) ((execs body env).wrap (fun f => match f with
              | .next | .cont => .pure (.again (.forLoop target it body [] env))
              | .brk => .pure (.done .next)
              | .ret v => .pure (.done (.ret v))) H id id) fs s₂) NoE s₁') NoE s₁) NoE s) :
    Seg (model prog w) A R Y n s₀ (.forLoop target it body [] env) ((model prog w).den (.forLoop target it body [] env)) fs s := by
  show Seg _ A R Y n s₀ _ ((forTurn target it body [] env).onRaise (fun x => do noteFrame x env; theTreesLotGoes x)) fs s
  unfold forTurn
  rw [Sem.onRaise_eq_wrap]
  refine seg_bind_wrap (wpAny_standAt ?_)
  refine seg_bind_wrap (wpAny_onRaise (wpAny_mono h (fun r s₁ h₁ => ?_) fun _ _ x => x.elim))
  cases r with
  | none =>
    refine seg_again rfl ?_
    show Seg _ A R Y n s₀ _ (((execs [] env).onRaise _) >>= fun f => pure (.done f)) fs s₁
    refine seg_bind (wpAny_onRaise (wpAny_execs_nil ?_))
    exact h₁ _
  | some v =>
    refine seg_bind_wrap (wpAny_mono h₁ (fun _ s₁' h₁' => ?_) fun _ _ x => x.elim)
    refine seg_bind_wrap (wpAny_mono h₁' (fun _ s₂ h₂ => ?_) fun _ _ x => x.elim)
    rw [Sem.bind_eq_wrap', Sem.wrap_wrap]
    rw [Sem.wrap_congr (execs body env) _ _ (K' := fun f => match f with
              | .next | .cont => .pure (.again (.forLoop target it body [] env))
              | .brk => .pure (.done .next)
              | .ret v => .pure (.done (.ret v))) (H' := _) (fun f => by cases f <;> rfl) (fun _ => rfl)]
    exact h₂ _
end
end Mine
end
-- Gen2
theorem Mine.calmGen2 : True := by
  w_top off
  trivial
section
open PySem PySem.W PyProof.Rows
set_option maxRecDepth 100000
namespace Mine
section
variable {prog : Program} {w : World} {A : Around} {E : Value → Shared → Prop} {s : Shared}
/-- next of a generator function's generator; what it leaves suspended is bare -/
theorem next_fn {a : Addr} {g n : Nat} {gs : GenState} {P : Nat → Shared → Shared → Prop} {Y : Protocol} {Q : Option Value → Shared → Prop} (hh : A.handled = none)
    (hl : s.heap.NoLimit) (hroom : A.depth < recursionLimit) (hg : s.heap.IsGen a g) (hgs : s.gens[g]? = some gs)
    (hgo : gs.Goes (model prog w) A.in1 (fun n s₀ r s₁ => r = .ok (.ret .none) ∧ P n s₀ s₁) Y n (.send .none) (s.setGen g .running))
    (hY : ∀ v s₁ gs', gs'.bare = true → Y (n - 1) (s.setGen g .running) v s₁ (fun r' s'' => match n with
        | 0 => False
        | m + 1 => gs'.Goes (model prog w) A.in1 (fun n s₀ r s₁ => r = .ok (.ret .none) ∧ P n s₀ s₁) Y m r' s'') → Q (some v) (s₁.setGen g gs'))
    (hP : ∀ s₁, P n (s.setGen g .running) s₁ → ∀ h', (∀ b o, s₁.heap.get? b = some o → h'.get? b = some o) → Q none { s₁.setGen g .finished with heap := h' }) :
    wpAny (model prog w) A (pyNext (.ref a)) Q E s := by
  unfold pyNext
  refine wpAny_bind (wpAny_attempt (wpAny_callSpecial?_slot (name := Str.ofString "__next__") hg.typeIs slot_gen_next (wpAny_call_entry slot_gen_next hg.typeIs entry_gen_next ?_ (args_gen_next _))))
  show wpAny _ A.in1 (Builtin.Generator.genWake (.ref a) (.send .none)) _ _ s
  unfold Builtin.Generator.genWake
  refine wpAny_bind (wpAny_holding (wpAny_genNumber hg (wpAny_bind (wpAny_genState hgs ?_))))
  cases gs with
  | running => exact hgo.elim
  | finished => exact hgo.elim
  | _ =>
    refine wpAny_bind (wpAny_roomToWake hl hroom ?_)
    show wpAny _ A.in1 (.resume g (.send .none) [] _) _ _ s
    refine wpAny_resumeQ hgs hgo (fun x s₁ hx => ?_) (fun v s₁ gs' hb hv => ?_)
    · obtain ⟨rfl, hp⟩ := hx
      show wpAny _ A.in1 (newExc (.type "StopIteration") [] >>= _) _ _ _
      refine wpAny_bind ?_
      simp only [newExc, newTuple]
      refine wpAny_bind (wpAny_newObj_type ?_ (by size_fits))
      refine wpAny_bind (m := firstArgMember _ _) (wpAny_of_eq (a := Value.none) (by first | rfl | (simp only [firstArgMember]; rfl)) ?_)
      refine wpAny_newObj_type ?_ (by size_fits)
      simp only [raiseNew]
      refine wpAny_bind (wpAny_bind (wpAny_handled ?_))
      first | rw [show A.in1.handled = none from hh] | rw [hh]
      refine wpAny_throw ?_
      refine wpAny_bind (wpAny_isInstance (T := "StopIteration") (b := true) ⟨_, Heap.get?_push_size _ rfl, rfl⟩ isSubtype_stop ?_)
      exact wpAny_pure (hP s₁ hp _ fun b o hb => Heap.get?_push_of_some _ (Heap.get?_push_of_some _ hb))
    · exact wpAny_pure ⟨v, rfl, wpAny_pure (hY v s₁ gs' hb hv)⟩
end
/-- what the generator yields -/
def gy : Nat → Bool → List Nat → List (Nat × Str)
  | i, true, [] => [(i - 1, Str.mk #[92])]
  | _, false, [] => []
  | i, true, c :: r => (i, Str.mk #[92, c]) :: gy (i + 1) false r
  | i, false, c :: r => if c = 92 then gy (i + 1) true r else (i, Str.mk #[c]) :: gy (i + 1) false r
def thItem (t : Th) : Nat × Str := (t.k, if t.odd then Str.mk #[92, t.c] else Str.mk #[t.c])
theorem gy_tail (cs : List Nat) : ∀ (r : List Nat) (i : Nat), i + r.length = cs.length → cs.drop i = r → (thsTo cs i).map thItem ++ gy i (oddAt cs i) r = (thsOf cs).map thItem ∨ (r = [] ∧ oddAt cs i = true) := by
  intro r
  induction r with
  | nil =>
    intro i hi hd
    cases ho : oddAt cs i with
    | true => exact .inr ⟨rfl, rfl⟩
    | false =>
      left
      have : i = cs.length := by simpa using hi
      subst this
      simp [gy, thsOf]
  | cons c r ih =>
    intro i hi hd
    left
    have hlt : i < cs.length := by simp at hi; omega
    have hc : cs.getD i 0 = c := by
      have := congrArg (·[0]?) hd
      simp [List.getElem?_drop] at this
      simp [List.getD_eq_getElem?_getD, this]
    have hdr : cs.drop (i + 1) = r := by
      have := congrArg (List.drop 1) hd
      simpa [List.drop_drop, Nat.add_comm] using this
    have hr := ih (i + 1) (by simp at hi ⊢; omega) hdr
    have hs := odd_succ hlt
    rw [hc] at hs
    have hT : thsTo cs (i + 1) = thsTo cs i ++ thAt cs i := rfl
    cases ho : oddAt cs i with
    | true =>
      rw [ho] at hs
      have hs' : oddAt cs (i + 1) = false := by simpa using hs
      have ht : thAt cs i = [⟨i, c, true⟩] := by unfold thAt; rw [ho, hc]; simp
      rw [hs', hT, ht] at hr
      rcases hr with hr | ⟨_, hr⟩
      · rw [← hr]; simp [gy, thItem]
      · cases hr
    | false =>
      rw [ho] at hs
      by_cases h92 : c = 92
      · have hs' : oddAt cs (i + 1) = true := by simpa [h92] using hs
        rw [hs', hT] at hr
        by_cases hend : i + 1 = cs.length
        · have hr0 : r = [] := by
            have : r.length = 0 := by simp at hi; omega
            exact List.eq_nil_of_length_eq_zero this
          subst hr0
          have ht : thAt cs i = [⟨i, 92, false⟩] := by
            unfold thAt; rw [ho, hc]; simp [h92, hend]
          have hL : thsOf cs = thsTo cs i ++ [⟨i, 92, false⟩] := by unfold thsOf; rw [← hend, hT, ht]
          rw [hL]; simp [gy, h92, thItem]
        · have ht : thAt cs i = [] := by unfold thAt; rw [ho, hc]; simp [h92, hend]
          rw [ht] at hr
          rcases hr with hr | ⟨hr, _⟩
          · rw [← hr]; simp [gy, h92]
          · subst hr; simp at hi; omega
      · have hs' : oddAt cs (i + 1) = false := by
          have h9 : (c == 92) = false := by simpa using h92
          rw [h9] at hs; simpa using hs
        have ht : thAt cs i = [⟨i, c, false⟩] := by unfold thAt; rw [ho, hc]; simp [h92]
        rw [hs', hT, ht] at hr
        rcases hr with hr | ⟨_, hr⟩
        · rw [← hr]; simp [gy, h92, thItem]
        · cases hr
theorem gy_all (cs : List Nat) : gy 0 false cs = (thsOf cs).map thItem := by
  have := gy_tail cs cs 0 (by simp) (by simp)
  rw [odd_zero] at this
  rcases this with h | ⟨_, h⟩
  · simpa [thsTo] using h
  · cases h
end Mine
end
-- Gen3
theorem Mine.calmGen3 : True := by
  w_top off
  trivial
section
open PySem PySem.W PyProof.Rows
set_option maxRecDepth 100000
set_option maxHeartbeats 4000000
namespace Mine
theorem fn_elim {K : Frag} {f : Addr} {o o' : Obj} {P : Prop} (h : K.lookup f = some o) (h' : K.lookup f = some o') (k : o = o' → P) : P := k (Option.some.inj (h.symm.trans h'))
def Since (nH : Nat) (Lg : Addr) (s₀ s : Shared) : Prop := ∃ h' tk, s = { s₀ with heap := h', toks := tk } ∧ ∀ b o, b < nH → b ≠ Lg → s₀.heap.get? b = some o → h'.get? b = some o
/-- what a yield says -/
def GY (nH : Nat) (Lg : Addr) (h₀ : Heap) (items : List (Nat × Str)) : Protocol := fun n s₀ v s kap =>
  Since nH Lg s₀ s ∧ (∃ a t1 t2 it, v = .ref a ∧ nH ≤ a ∧ s.heap.get? a = some (tup [.int ((it : Nat × Str).1 : Int) t1, .str it.2 t2] 0) ∧ items[items.length - 1 - n]? = some it) ∧
  ∃ own : List (Addr × Obj), (∀ p ∈ own, s.heap.get? p.1 = some p.2 ∧ (p.1 = Lg ∨ nH ≤ p.1)) ∧
    ∀ s'' : Shared, (∀ p ∈ own, s''.heap.get? p.1 = some p.2) → nH ≤ s''.heap.objs.size → (∀ b o, h₀.get? b = some o → s''.heap.get? b = some o) → kap (.send .none) s''
abbrev GR (nH : Nat) (Lg : Addr) : GenEnd := fun n s₀ r s₁ => r = .ok (.ret .none) ∧ (n = 0 ∧ Since nH Lg s₀ s₁)
def fpO (nH : Nat) (Lg : Addr) : List Addr := (List.range nH).filter (fun b => b != Lg)
abbrev olds (h₀ : Heap) (nH : Nat) (Lg : Addr) (s₀ : Shared) : List (Addr × Obj) := ownOf h₀ (fpO nH Lg) s₀.heap
theorem olds_off {h₀ : Heap} {nH : Nat} {Lg : Addr} {s₀ : Shared} : ∀ p ∈ olds h₀ nH Lg s₀, p.1 < nH ∧ p.1 ≠ Lg := fun p hp => by
  have := ownOf_sub p hp
  simp only [fpO, List.mem_filter, List.mem_range, bne_iff_ne, ne_eq] at this
  exact this
theorem since_of {h₀ h' : Heap} {nH : Nat} {Lg : Addr} {s₀ : Shared} {m : Str → Option Value} {tk : Nat} {l : List (Addr × Obj)} (hb : ∀ b o, h₀.get? b = some o → s₀.heap.get? b = some o) (F : Fr h₀ Lg h' m) (N : News h₀ Lg h' l) (hs : ∀ p ∈ olds h₀ nH Lg s₀, p ∈ l) :
    Since nH Lg s₀ { s₀ with heap := h', toks := tk } := by
  refine ⟨h', tk, rfl, fun b o hlt hne e => ?_⟩
  cases h9 : h₀.get? b with
  | some o' =>
    have := hb b o' h9
    rw [e] at this
    rw [Option.some.inj this]
    exact F.keep b o' h9
  | none => exact (N _ (hs _ (mem_ownOf (by simp [fpO, hlt]; exact hne) h9 e))).1
abbrev enO (it : Addr) (i : Int) (old : Value) : Obj := { cls := .type "enumerate", data := .fields #[.none, .bool false, .ref it, rawInt i, .none, old] }
/-- the generator's own state: i signs taken, escape is e, pos is p -/
def GIn (h₀ : Heap) (nH : Nat) (Lg ea si : Addr) (x : Str) (t : Tok) (i : Nat) (e : Bool) (p : Nat) (s₀ s : Shared) : Prop :=
  ∃ (g : Str → Option Value) (tk : Tok) (old : Value) (so : Obj) (h' : Heap) (tk' : Nat), s = { s₀ with heap := h', toks := tk' } ∧
    Fr h₀ Lg h' (fun y => if y = Str.ofString "escape" then some (.bool e) else if y = Str.ofString "pos" then some (.int (p : Int) tk) else g y) ∧
    News h₀ Lg h' ((ea, enO si i old) :: (si, so) :: olds h₀ nH Lg s₀) ∧ so.cls = .type "str_ascii_iterator" ∧ so.data = .fields #[.str x t, .int (i : Int) 0] ∧ nH ≤ h'.objs.size ∧ (∀ b o, h₀.get? b = some o → s₀.heap.get? b = some o)
theorem over_handled {A : Around} (hA : A.handled = none) {c : Code} {kk : Result → Sem Fin} {cF : Code} {pF : Pos} : (A.over c [.ret kk none false [] cF pF []]).handled = none := by
  show (marksOver [Frame.ret kk none false [] cF pF []] (A.handled, A.handled)).1 = none
  rw [hA]; rfl
theorem items_at {α : Type} {items pre r : List α} {a : α} (h : items = pre ++ a :: r) : items[items.length - 1 - r.length]? = some a := by
  subst h
  have : (pre ++ a :: r).length - 1 - r.length = pre.length := by simp
  rw [this]
  simp
section
variable {prog : Program} {w : World} {A : Around} {E : Value → Shared → Prop} {h₀ : Heap} {nH : Nat} {Lg ea si : Addr} {x : Str} {t : Tok} {i : Nat} {e : Bool} {p : Nat} {s₀ s : Shared}
theorem gen_item {c : Nat} {elts : List PySem.Expr} {k1 : Nat} {pos : Pos} {Q : Value → Unit → Shared → Prop} (hh : A.handled = none) (hG : GIn h₀ nH Lg ea si x t i e p s₀ s) (hc : x.cps[i]? = some c) (hLg : Lg < nH) (h1 : nH ≤ ea) (h2 : nH ≤ si) (h12 : ea ≠ si)
    (hQ : ∀ (T : Addr) (g : Str → Option Value) (tk : Tok) (old : Value) (so : Obj) (h' : Heap) (tk' : Nat) (tt uu : Tok), nH ≤ T →
      Fr h₀ Lg h' (fun y => if y = Str.ofString "escape" then some (.bool e) else if y = Str.ofString "pos" then some (.int (p : Int) tk) else g y) →
      News h₀ Lg h' ((T, tup [.int (i : Int) tt, .str (Str.mk #[c]) uu] 0) :: (ea, enO si ((i + 1 : Nat) : Int) old) :: (si, so) :: olds h₀ nH Lg s₀) → so.cls = .type "str_ascii_iterator" → so.data = .fields #[.str x t, .int ((i + 1 : Nat) : Int) 0] →
      nH ≤ h'.objs.size → Q (.ref T) () { s₀ with heap := h', toks := tk' }) :
    wpAny (model prog w) A (pyNext (.ref ea)) (fun r s₁ => match r with
      | none => False
      | some v => wpAny (model prog w) A (letOwnedTupleGo (.Tuple elts k1 pos) (.ref ea) v) (fun u s₂ => Q v u s₂) E s₁) E s := by
  obtain ⟨g, tk, old, so, h', tk', rfl, F, N, hcl, hda, hsz, hb⟩ := hG
  have he : IsEnum h' ea si i old := (N _ (.head _)).1
  have hso : h'.get? si = some so := (N _ (.tail _ (.head _))).1
  have hit : h'.IsStrIter si "str_ascii_iterator" x t i := ⟨so, hso, hcl, hda⟩
  have hlt : i < x.cps.size := by
    rcases Nat.lt_or_ge i x.cps.size with h | h
    · exact h
    · rw [Array.getElem?_eq_none h] at hc; cases hc
  have nE := (N _ (.head _)).2
  have nS := (N _ (.tail _ (.head _))).2
  have hnE : h₀.get? ea = none := nE.2
  have hnS : h₀.get? si = none := nS.2
  have hLE : ea ≠ Lg := nE.1
  have hLS : si ≠ Lg := nS.1
  refine wpAny_pyNext_enum_itemD (Draws.strAscii (A := A.in1) hh si x t) he hit hlt h12 (fun hm => h12 (List.mem_singleton.mp hm)) fun v h1' tk1 hP ho hst hT hz hk => ?_
  obtain ⟨c', uu, hc', rfl⟩ := hP
  rw [hc] at hc'
  cases hc'
  refine wpAny_letOwnedTupleGo_enum ho fun h2' he2 hs2 => ?_
  have hTn : h'.objs.size ≠ ea := fun q => Nat.lt_irrefl _ (q ▸ Heap.lt_size he)
  have up : ∀ b o, b ≠ ea → b ≠ si → h'.get? b = some o → h2'.get? b = some o := fun b o q1 q2 q => hs2.extBut b o q1 (hk b o q1 q2 q)
  obtain ⟨so2, hso2, hcl2, hda2⟩ := hst
  have hso2' : h2'.get? si = some so2 := hs2.extBut _ _ (Ne.symm h12) hso2
  have hT2 : h2'.get? h'.objs.size = some { cls := .type "tuple", data := .seq #[.int i tk1, .str ⟨#[c]⟩ uu] } := hs2.extBut _ _ hTn hT
  have hLg' : Lg < h'.objs.size := F.ns.lt
  have hz2 : h2'.objs.size = h'.objs.size + 1 := by rw [hs2.1, hz]
  have ab := F.above
  refine hQ h'.objs.size g tk (.str ⟨#[c]⟩ uu) so2 h2' _ tk1 uu hsz ⟨F.ns.at' fun o q => up _ o hLE.symm hLS.symm q, fun b o q => up b o (fun z => by rw [z, hnE] at q; cases q) (fun z => by rw [z, hnS] at q; cases q) (F.keep b o q), F.above⟩ ?_ hcl2 hda2 (by rw [hz2]; exact Nat.le_succ_of_le hsz)
  intro q hq
  rcases List.mem_cons.mp hq with z | hq
  · rw [z]
    refine ⟨hT2, Nat.ne_of_gt hLg', ?_⟩
    cases h9 : h₀.get? h'.objs.size with
    | none => rfl
    | some o9 => exact absurd (Heap.lt_size (F.keep _ _ h9)) (Nat.lt_irrefl _)
  · rcases List.mem_cons.mp hq with z | hq
    · rw [z]; exact ⟨he2, nE⟩
    · rcases List.mem_cons.mp hq with z | hq
      · rw [z]; exact ⟨hso2', nS⟩
      · have o1 := olds_off q hq
        have o2 := N q (.tail _ (.tail _ hq))
        exact ⟨up _ _ (fun z => by have := o1.1; rw [z] at this; exact Nat.lt_irrefl _ (Nat.lt_of_lt_of_le this h1)) (fun z => by have := o1.1; rw [z] at this; exact Nat.lt_irrefl _ (Nat.lt_of_lt_of_le this h2)) o2.1, o2.2⟩
theorem gen_done (hh : A.handled = none) (hG : GIn h₀ nH Lg ea si x t x.cps.size e p s₀ s) (h2 : nH ≤ si) (h12 : ea ≠ si) {Q : Shared → Prop}
    (hQ : ∀ (g : Str → Option Value) (tk : Tok) (h' : Heap) (tk' : Nat) (eo : Obj),
      Fr h₀ Lg h' (fun y => if y = Str.ofString "escape" then some (.bool e) else if y = Str.ofString "pos" then some (.int (p : Int) tk) else g y) → News h₀ Lg h' ((ea, eo) :: olds h₀ nH Lg s₀) → Q { s₀ with heap := h', toks := tk' }) :
    wpAny (model prog w) A (pyNext (.ref ea)) (fun r s₁ => match r with
      | none => Q s₁
      | some _ => False) E s := by
  obtain ⟨g, tk, old, so, h', tk', rfl, F, N, hcl, hda, hsz, hb⟩ := hG
  have he : IsEnum h' ea si x.cps.size old := (N _ (.head _)).1
  have hso : h'.get? si = some so := (N _ (.tail _ (.head _))).1
  have hit : h'.IsStrIter si "str_ascii_iterator" x t x.cps.size := ⟨so, hso, hcl, hda⟩
  have nS := (N _ (.tail _ (.head _))).2
  refine wpAny_pyNext_enum_endD (Draws.strAscii (A := A.in1) hh si x t) he hit fun h1' hx => ?_
  have hnS : h₀.get? si = none := nS.2
  have hLS : si ≠ Lg := nS.1
  refine hQ g tk h1' tk' (enO si x.cps.size old) ⟨F.ns.at' fun o q => hx _ o hLS.symm q, fun b o q => hx b o (fun z => by rw [z, hnS] at q; cases q) (F.keep b o q), F.above⟩ fun q hq => ?_
  rcases List.mem_cons.mp hq with z | hq
  · rw [z]; exact ⟨hx _ _ h12 he, (N _ (.head _)).2⟩
  have o1 := olds_off q hq
  have o2 := N q (.tail _ (.tail _ hq))
  exact ⟨hx _ _ (fun z => by have := o1.1; rw [z] at this; exact Nat.lt_irrefl _ (Nat.lt_of_lt_of_le this h2)) o2.1, o2.2⟩
theorem seg_item {R : GenEnd} {Y : Protocol} {n : Nat} {env : Env} {body : List Stmt} {kk : Result → Sem Fin} {cF : Code} {pF : Pos} {c : Nat} {elts : List PySem.Expr} {k1 : Nat} {pos : Pos} (hA : A.handled = none)
    (hG : GIn h₀ nH Lg ea si x t i e p s₀ s) (hc : x.cps[i]? = some c) (hLg : Lg < nH) (h1 : nH ≤ ea) (h2 : nH ≤ si) (h12 : ea ≠ si)
    (hQ : ∀ (T : Addr) (g : Str → Option Value) (tk : Tok) (old : Value) (so : Obj) (h' : Heap) (tk' : Nat) (tt uu : Tok), nH ≤ T →
      Fr h₀ Lg h' (fun y => if y = Str.ofString "escape" then some (.bool e) else if y = Str.ofString "pos" then some (.int (p : Int) tk) else g y) →
      News h₀ Lg h' ((T, tup [.int (i : Int) tt, .str (Str.mk #[c]) uu] 0) :: (ea, enO si ((i + 1 : Nat) : Int) old) :: (si, so) :: olds h₀ nH Lg s₀) → so.cls = .type "str_ascii_iterator" → so.data = .fields #[.str x t, .int ((i + 1 : Nat) : Int) 0] →
      nH ≤ h'.objs.size → wpAny (model prog w) (A.over (.forLoop (.Tuple elts k1 pos) (.ref ea) body [] env) [.ret kk none false [] cF pF []]) (assign (.Tuple elts k1 pos) env (.ref T)) (fun _ s₂ =>
            ∀ H : Value → Sem Fin, Seg (model prog w) A R Y n s₀ (.forLoop (.Tuple elts k1 pos) (.ref ea) body [] env) ((execs body env).wrap (fun f => match f with
              | .next | .cont => .pure (.again (.forLoop (.Tuple elts k1 pos) (.ref ea) body [] env))
              | .brk => .pure (.done .next)
              | .ret v => .pure (.done (.ret v))) H id id) [.ret kk none false [] cF pF []] s₂) NoE { s₀ with heap := h', toks := tk' }) :
    Seg (model prog w) A R Y n s₀ (.forLoop (.Tuple elts k1 pos) (.ref ea) body [] env) ((model prog w).den (.forLoop (.Tuple elts k1 pos) (.ref ea) body [] env)) [.ret kk none false [] cF pF []] s := by
  refine seg_forTurn (wpAny_mono (gen_item (elts := elts) (k1 := k1) (pos := pos) (Q := fun v _ s₂ => wpAny (model prog w) (A.over (.forLoop (.Tuple elts k1 pos) (.ref ea) body [] env) [.ret kk none false [] cF pF []]) (assign (.Tuple elts k1 pos) env v) (fun _ s₂ =>
            ∀ H : Value → Sem Fin, Seg (model prog w) A R Y n s₀ (.forLoop (.Tuple elts k1 pos) (.ref ea) body [] env) ((execs body env).wrap (fun f => match f with
              | .next | .cont => .pure (.again (.forLoop (.Tuple elts k1 pos) (.ref ea) body [] env))
              | .brk => .pure (.done .next)
              | .ret v => .pure (.done (.ret v))) H id id) [.ret kk none false [] cF pF []] s₂) NoE s₂) (over_handled hA) hG hc hLg h1 h2 h12 hQ) (fun r s₁ hr => ?_) fun _ _ z => z)
  cases r with
  | none => exact hr.elim
  | some v => exact hr
theorem GIn.of {m' : Str → Option Value} {tk : Tok} {old : Value} {so : Obj} {h' : Heap} {tk' : Nat} (F : Fr h₀ Lg h' m') (he : m' (Str.ofString "escape") = some (.bool e)) (hp : m' (Str.ofString "pos") = some (.int (p : Int) tk))
    (N : News h₀ Lg h' ((ea, enO si i old) :: (si, so) :: olds h₀ nH Lg s₀)) (hcl : so.cls = .type "str_ascii_iterator") (hda : so.data = .fields #[.str x t, .int (i : Int) 0]) (hz : nH ≤ ea) (hb : ∀ b o, h₀.get? b = some o → s₀.heap.get? b = some o) :
    GIn h₀ nH Lg ea si x t i e p s₀ { s₀ with heap := h', toks := tk' } :=
  ⟨m', tk, old, so, h', tk', rfl, (map2 he hp) ▸ F, N, hcl, hda, Nat.le_of_lt (Nat.lt_of_le_of_lt hz (Heap.lt_size (N _ (.head _)).1)), hb⟩
/-- what the generator leaves is its own; with that and h₀ kept it goes on -/
theorem gen_back {m' : Str → Option Value} {eo so : Obj} {h' : Heap} {l : List (Addr × Obj)} (F : Fr h₀ Lg h' m') (N : News h₀ Lg h' l) (hE : (ea, eo) ∈ l) (hS : (si, so) ∈ l) (h1 : nH ≤ ea) (h2 : nH ≤ si) (hlt : Lg < nH) :
    ∃ own : List (Addr × Obj), (∀ q ∈ own, h'.get? q.1 = some q.2 ∧ (q.1 = Lg ∨ nH ≤ q.1)) ∧ ∀ s'' : Shared, (∀ q ∈ own, s''.heap.get? q.1 = some q.2) → (∀ b o, h₀.get? b = some o → s''.heap.get? b = some o) →
      Fr h₀ Lg s''.heap m' ∧ News h₀ Lg s''.heap ((ea, eo) :: (si, so) :: olds h₀ nH Lg s'') := by
  obtain ⟨oL, es, ep, hL, r⟩ := F.ns
  refine ⟨[(Lg, oL), (ea, eo), (si, so)], fun q hq => ?_, fun s'' ho hk => ⟨⟨⟨oL, es, ep, ho (Lg, oL) (.head _), r⟩, hk, F.above⟩, fun q hq => ?_⟩⟩
  · simp only [List.mem_cons, List.not_mem_nil, or_false] at hq
    rcases hq with z | z | z
    · rw [z]; exact ⟨hL, .inl rfl⟩
    · rw [z]; exact ⟨(N _ hE).1, .inr h1⟩
    · rw [z]; exact ⟨(N _ hS).1, .inr h2⟩
  · rcases List.mem_cons.mp hq with z | hq
    · rw [z]; exact ⟨ho (ea, eo) (.tail _ (.head _)), (N _ hE).2⟩
    · rcases List.mem_cons.mp hq with z | hq
      · rw [z]; exact ⟨ho (si, so) (.tail _ (.tail _ (.head _))), (N _ hS).2⟩
      · exact news_ownOf (L := Lg) (by simp [fpO]) q hq
theorem bs_cat (c : Nat) : Str.ofString "\\" ++ Str.mk #[c] = Str.mk #[92, c] := by
  have e : Str.ofString "\\" = Str.mk #[92] := by decide +kernel
  rw [e]; rfl
end
end Mine
end
-- Gen4
theorem Mine.calmGen4 : True := by
  w_top off
  trivial
section
open PySem PySem.W PyProof.Rows
set_option maxRecDepth 100000
set_option maxHeartbeats 4000000
namespace Mine
local macro_rules | `(tactic| walk_at "compareOp Eq str str") => `(tactic| (k_here; (with_reducible refine' eq_bs ?k1 ?_; (case k1 => assumption); k_whole)))
theorem gen_loop (w : World) (mean : ExcName → Option Value) (mg mb : Str → Option Value) {A : Around} (hA : A.handled = none) {h₀ : Heap} (X : (hd.heap_39 w.params).In h₀) (T : Top hd.view_39 (looseW hd.view_39 []) mean mg mb h₀) {Lg ea si : Addr} {x : Str} {t : Tok} {nH : Nat} {items : List (Nat × Str)} (hlt : Lg < nH) (h1 : nH ≤ ea) (h2 : nH ≤ si) (h12 : ea ≠ si)
    {oc : Value} {od : Option Addr} {name qual : Str} {params : Arguments} {s1 s2 s4 : Stmt} {target iter : PySem.Expr} {fbody : List Stmt} {fpos : Pos} {scope : Scope} {dV kV doc pm cdv ct : Value} {an : Option Addr} {osl : Array (Option Value)}
    (hfn : (hd.heap_39 w.params).lookup 21 = some ⟨oc, od, .func (fnOf name qual params [s1, s2, .For target iter fbody [] fpos, s4] scope dV kV doc pm an cdv ct), osl⟩)
    {kk : Result → Sem Fin} {cF : Code} {pF : Pos}
    (after : ∀ (e : Bool) (s₀ : Shared) (g : Str → Option Value) (tk : Tok) (h' : Heap) (tk' : Nat) (eo : Obj), (∀ b o, h₀.get? b = some o → s₀.heap.get? b = some o) → (∃ pre, items = pre ++ gy x.cps.size e []) →
      Fr h₀ Lg h' (fun y => if y = Str.ofString "escape" then some (.bool e) else if y = Str.ofString "pos" then some (.int ((x.cps.size - 1 : Nat) : Int) tk) else g y) → News h₀ Lg h' ((ea, eo) :: olds h₀ nH Lg s₀) →
      Seg (model PySem.Challenge.rw_nb0036_01.row.prog w) A (GR nH Lg) (GY nH Lg h₀ items) (gy x.cps.size e []).length s₀ cF (kk (.ok .next)) [] { s₀ with heap := h', toks := tk' }) :
    ∀ (r : List Nat) (i : Nat) (e : Bool) (s₀ s : Shared), x.cps.toList.drop i = r → i + r.length = x.cps.size → (∃ pre, items = pre ++ gy i e r) → GIn h₀ nH Lg ea si x t i e (i - 1) s₀ s →
      Seg (model PySem.Challenge.rw_nb0036_01.row.prog w) A (GR nH Lg) (GY nH Lg h₀ items) (gy i e r).length s₀ (.forLoop target (.ref ea) fbody [] (envOf qual scope Lg 21 cdv)) ((model PySem.Challenge.rw_nb0036_01.row.prog w).den (.forLoop target (.ref ea) fbody [] (envOf qual scope Lg 21 cdv))) [.ret kk none false [] cF pF []] s := by
  revert hfn; k_fill; intro hfn
  refine' fn_elim hfn ?k ?_
  (case k => k_is)
  intro h3
  cases h3
  clear hfn
  intro r
  induction r with
  | nil =>
    intro i e s₀ s hdr hi hpre hG
    have hi' : i = x.cps.size := by simpa using hi
    subst hi'
    have hb := hG
    obtain ⟨_, _, _, _, _, _, _, _, _, _, _, _, hb⟩ := hb
    refine seg_forTurn (wpAny_mono (gen_done (over_handled hA) hG h2 h12 (Q := fun s₁ => ∀ c', Seg (model PySem.Challenge.rw_nb0036_01.row.prog w) A (GR nH Lg) (GY nH Lg h₀ items) (gy x.cps.size e []).length s₀ c' (leafOf (.ok .next)) [.ret kk none false [] cF pF []] s₁)
      (fun g tk h' tk' eo F N c' => seg_leaf (.ok .next) (after e s₀ g tk h' tk' eo hb hpre F N))) (fun r s₁ hr => ?_) fun _ _ z => z)
    cases r with
    | none => exact hr
    | some v => exact hr.elim
  | cons c r ih =>
    intro i e s₀ s hdr hi hpre hG
    have hc : x.cps[i]? = some c := by
      have := congrArg (·[0]?) hdr
      simpa [List.getElem?_drop] using this
    have hdr' : x.cps.toList.drop (i + 1) = r := by
      have := congrArg (List.drop 1) hdr
      simpa [List.drop_drop, Nat.add_comm] using this
    have hi' : i + 1 + r.length = x.cps.size := by simp at hi; omega
    have hb : ∀ b o, h₀.get? b = some o → s₀.heap.get? b = some o := by
      obtain ⟨_, _, _, _, _, _, _, _, _, _, _, _, hb⟩ := hG
      exact hb
    refine seg_item hA hG hc hlt h1 h2 h12 ?_
    clear hG
    intro TT g tk old so h' tk' tt uu hTT F N hcl hda hsz
    refine unpackN_ F N (News.isTup N (List.Mem.head _)) (over_handled hA) rfl rfl ?_
    intro h1' F1 N1
    clear F N
    obtain ⟨pre, hpre⟩ := hpre
    cases e with
    | true =>
      k_steps
      rename_i H
      refine seg_execs_cons (seg_If ?_)
      k_steps
      rw [show (gy i true (c :: r)).length = (gy (i + 1) false r).length + 1 from rfl]
      refine seg_execs_cons (seg_Expr_Yield rfl rfl rfl ?_)
      k_steps
      rename_i kap hkap
      rename Fr _ _ _ _ => F2
      rename News _ _ _ _ => N2
      obtain ⟨own, how, hgo⟩ := gen_back (nH := nH) F2 N2 (.tail _ (.tail _ (.head _))) (.tail _ (.tail _ (.tail _ (.head _)))) h1 h2 hlt
      refine ⟨since_of hb F2 N2 (fun q hq => .tail _ (.tail _ (.tail _ (.tail _ hq)))), ⟨_, _, _, (i, Str.mk #[92, c]), rfl, ?_, (N2 _ (.head _)).1.trans (by rw [bs_cat]), items_at hpre⟩, own, how, fun s'' ho hz hk => hkap .none s'' ?_⟩
      · rename _ ∧ _ => l9
        exact Nat.le_trans h1 (Nat.le_of_lt l9.2.1)
      · obtain ⟨F3, N3⟩ := hgo s'' ho hk
        clear F2 N2
        refine seg_execs_cons (seg_stmt ?_)
        k_steps
        refine seg_execs_nil ?_
        refine seg_again rfl (ih (i + 1) false s'' _ hdr' hi' ⟨pre ++ [(i, Str.mk #[92, c])], by rw [hpre]; simp [gy]⟩ (GIn.of (by assumption) rfl rfl (by assumption) hcl hda h1 hk))
    | false =>
      k_steps
      rename_i H
      refine seg_execs_cons (seg_If ?_)
      k_steps
      refine seg_execs_cons (seg_If ?_)
      cases hbs : (c == 92) with
      | true =>
        have hc92 : c = 92 := by simpa using hbs
        k_steps
        refine seg_execs_cons (seg_stmt ?_)
        k_steps
        refine seg_execs_nil ?_
        refine seg_execs_nil ?_
        have hgy : gy i false (c :: r) = gy (i + 1) true r := by simp [gy, hc92]
        rw [hgy] at hpre ⊢
        refine seg_again rfl (ih (i + 1) true s₀ _ hdr' hi' ⟨pre, hpre⟩ (GIn.of (by assumption) rfl rfl (fun q hq => (by assumption : News h₀ Lg _ (_ :: _)) q (.tail _ hq)) hcl hda h1 hb))
      | false =>
        have hc92 : ¬ (c = 92) := by simpa using hbs
        have hgy : gy i false (c :: r) = (i, Str.mk #[c]) :: gy (i + 1) false r := by simp [gy, hc92]
        rw [hgy] at hpre ⊢
        k_steps
        rw [show ((i, Str.mk #[c]) :: gy (i + 1) false r).length = (gy (i + 1) false r).length + 1 from rfl]
        refine seg_execs_cons (seg_Expr_Yield rfl rfl rfl ?_)
        k_steps
        rename_i kap hkap
        rename Fr _ _ _ _ => F2
        rename News _ _ _ _ => N2
        obtain ⟨own, how, hgo⟩ := gen_back (nH := nH) F2 N2 (.tail _ (.tail _ (.head _))) (.tail _ (.tail _ (.tail _ (.head _)))) h1 h2 hlt
        refine ⟨since_of hb F2 N2 (fun q hq => .tail _ (.tail _ (.tail _ (.tail _ hq)))), ⟨_, _, _, (i, Str.mk #[c]), rfl, ?_, (N2 _ (.head _)).1, items_at hpre⟩, own, how, fun s'' ho hz hk => hkap .none s'' ?_⟩
        · rename _ ∧ _ => l9
          exact Nat.le_trans h1 (Nat.le_of_lt l9.2.1)
        · obtain ⟨F3, N3⟩ := hgo s'' ho hk
          clear F2 N2
          refine seg_execs_nil ?_
          refine seg_execs_nil ?_
          refine seg_again rfl (ih (i + 1) false s'' s'' hdr' hi' ⟨pre ++ [(i, Str.mk #[c])], by rw [hpre]; simp⟩ (GIn.of F3 rfl rfl N3 hcl hda h1 hk))
end Mine
end
-- Gen5
theorem Mine.calmGen5 : True := by
  w_top off
  trivial
section
open PySem PySem.W PyProof.Rows
set_option maxRecDepth 100000
set_option maxHeartbeats 4000000
namespace Mine
theorem bs_one : Str.ofString "\\" = Str.mk #[92] := by decide +kernel
theorem strit {h : Heap} {a : Addr} {x : Str} {t : Tok} (hx : x.cps.all (· < 128) = true) (hit : h.IsStrIter a (strIterType x) x t 0) : h.IsStrIter a "str_ascii_iterator" x t 0 := by simpa [strIterType, hx] using hit
theorem enum_news {h₀ h2 h3 : Heap} {Lg : Addr} {m : Str → Option Value} {l : List (Addr × Obj)} {so : Obj} (F : Fr h₀ Lg h2 m) (N : News h₀ Lg h2 l) (hk : ∀ b o, h2.get? b = some o → h3.get? b = some o) (he : IsEnum h3 (h2.objs.size + 1) h2.objs.size 0 .none) (hso : h3.get? h2.objs.size = some so) :
    News h₀ Lg h3 ((h2.objs.size + 1, enO h2.objs.size ((0 : Nat) : Int) .none) :: (h2.objs.size, so) :: l) := by
  have ab := F.above
  have lL := F.ns.lt
  intro q hq
  rcases List.mem_cons.mp hq with z | hq
  · rw [z]
    refine ⟨he, Nat.ne_of_gt (Nat.lt_succ_of_lt lL), Heap.get?_none_of_le ?_⟩
    exact Nat.le_trans ab (Nat.le_of_lt (Nat.lt_succ_of_lt lL))
  · rcases List.mem_cons.mp hq with z | hq
    · rw [z]
      exact ⟨hso, Nat.ne_of_gt lL, Heap.get?_none_of_le (Nat.le_trans ab (Nat.le_of_lt lL))⟩
    · exact ⟨hk _ _ (N q hq).1, (N q hq).2⟩
theorem gen_start (w : World) (mean : ExcName → Option Value) (mg mb : Str → Option Value) {A : Around} (hA : A.handled = none) {h₀ : Heap} (X : (hd.heap_39 w.params).In h₀) (T : Top hd.view_39 (looseW hd.view_39 []) mean mg mb h₀) {Lg : Addr} {x : Str} {u : Tok} {nH : Nat} (hlt : Lg < nH) (hx : x.cps.all (· < 128) = true)
    {oc : Value} {od : Option Addr} {name qual : Str} {params : Arguments} {s1 s2 s4 : Stmt} {target iter : PySem.Expr} {fbody : List Stmt} {fpos : Pos} {scope : Scope} {dV kV doc pm cdv ct : Value} {an : Option Addr} {osl : Array (Option Value)}
    (hfn : (hd.heap_39 w.params).lookup 21 = some ⟨oc, od, .func (fnOf name qual params [s1, s2, .For target iter fbody [] fpos, s4] scope dV kV doc pm an cdv ct), osl⟩)
    (s₀ : Shared) (g : Str → Option Value) (F : Fr h₀ Lg s₀.heap (fun y => if y = Str.ofString "addr" then some (.str x u) else g y)) {ga : Addr} {og : Obj} (hga : nH = ga + 1) (hgo : s₀.heap.get? ga = some og) (hgn : h₀.get? ga = none) (hgL : ga ≠ Lg) :
    Seg (model PySem.Challenge.rw_nb0036_01.row.prog w) A (GR nH Lg) (GY nH Lg h₀ (gy 0 false x.cps.toList)) (gy 0 false x.cps.toList).length s₀ (.func [s1, s2, .For target iter fbody [] fpos, s4] (envOf qual scope Lg 21 cdv))
      ((model PySem.Challenge.rw_nb0036_01.row.prog w).den (.func [s1, s2, .For target iter fbody [] fpos, s4] (envOf qual scope Lg 21 cdv))) [] s₀ := by
  have hfn0 := hfn
  revert hfn; k_fill; intro hfn
  refine' fn_elim hfn ?k ?_
  (case k => k_is)
  intro h3
  cases h3
  clear hfn
  have N : News h₀ Lg s₀.heap (olds h₀ nH Lg s₀) := news_ownOf (by simp [fpO])
  have hb : ∀ b o, h₀.get? b = some o → s₀.heap.get? b = some o := F.keep
  refine seg_func ?_
  refine seg_execs_cons (seg_stmt ?_)
  k_steps
  refine seg_execs_cons (seg_stmt ?_)
  k_steps
  refine seg_execs_cons (seg_For (fun _ => rfl) ?_)
  k_with "call type:enumerate" => refine stop ?_
  k_steps
  k_with_none
  unfold Stop
  rename Fr _ _ _ _ => F2
  rename News _ _ _ _ => N2
  refine call_enumerate_str fun h3 he hit hs hk => ?_
  refine wpAny_pyIter_enum he ?_
  intro kk pF hkk
  have hz2 := Heap.lt_size (N2 _ (mem_ownOf (by simp [fpO, hga, hgL]) hgn hgo)).1
  have hit' := strit hx hit
  obtain ⟨so, hso, hcl, hda⟩ := hit'
  have F3 : Fr h₀ Lg h3 _ := ⟨F2.ns.keeps hk, fun b o e => hk b o (F2.keep b o e), F2.above⟩
  have N3 := enum_news F2 N2 hk he hso
  refine gen_loop w mean mg mb hA X T (t := u) (items := gy 0 false x.cps.toList) hlt ?_ ?_ ?_ hfn0 (kk := kk) (pF := pF) ?_ x.cps.toList 0 false s₀ _ (by simp) (by simp) ⟨[], rfl⟩ (GIn.of F3 rfl rfl N3 hcl hda ?_ hb)
  · rw [hga]; exact Nat.le_succ_of_le hz2
  · rw [hga]; exact hz2
  · exact Nat.succ_ne_self _
  · intro e s₀' g' tk h' tk' eo hb' hpre F4 N4
    obtain ⟨pre, hpre⟩ := hpre
    rw [hkk]
    refine seg_execs_cons (seg_If ?_)
    cases e with
    | true =>
      k_steps
      rw [show (gy x.cps.size true []).length = 0 + 1 from rfl]
      refine seg_execs_cons (seg_Expr_Yield rfl rfl rfl ?_)
      k_steps
      rename_i kap hkap
      rename Fr _ _ _ _ => F5
      rename News _ _ _ _ => N5
      rename _ ∧ _ => l9
      refine ⟨since_of hb' F5 N5 (fun q hq => .tail _ (.tail _ hq)), ⟨_, _, _, (x.cps.size - 1, Str.mk #[92]), rfl, Nat.le_trans ?_ (Nat.le_of_lt l9.1), (N5 _ (.head _)).1.trans (by rw [bs_one]), items_at (r := []) hpre⟩, [], (fun q hq => nomatch hq), fun s'' _ _ hk => hkap .none s'' ?_⟩
      · rw [hga]; exact Nat.le_succ_of_le hz2
      · refine seg_execs_nil ?_
        refine seg_execs_nil ?_
        exact seg_end (.ok (.ret .none)) ⟨rfl, rfl, s''.heap, s''.toks, rfl, fun b o _ _ e => e⟩
    | false =>
      k_steps
      refine seg_execs_nil ?_
      refine seg_execs_nil ?_
      exact seg_end (.ok (.ret .none)) ⟨rfl, rfl, since_of hb' F4 N4 fun q hq => .tail _ hq⟩
  · rw [hga]; exact Nat.le_succ_of_le hz2
end Mine
end
-- Gen6
theorem Mine.calmGen6 : True := by
  w_top off
  trivial
section
open PySem PySem.W PyProof.Rows
set_option maxRecDepth 100000
set_option maxHeartbeats 4000000
namespace Mine
section
variable {prog : Program} {w : World} {A : Around} {E : Value → Shared → Prop} {s : Shared}
theorem letgo_gen {elts : List PySem.Expr} {x1 : Nat} {pos : Pos} {a T : Addr} {g : Nat} {Q : Unit → Shared → Prop} (hit : s.heap.IsGen a g) (hQ : Q () s) :
    wpAny (model prog w) A (letOwnedTupleGo (.Tuple elts x1 pos) (.ref a) (.ref T)) Q E s := by
  obtain ⟨o, n1, n2, ho, hc, hd, _⟩ := hit
  unfold letOwnedTupleGo
  refine wpAny_bind (wpAny_load ho ?_)
  rw [hc, hd]
  show wpAny _ A (if (["enumerate", "zip", "dict_itemiterator", "dict_reverseitemiterator", "odict_iterator", "itertools.zip_longest", "itertools.pairwise"].contains "generator" &&
      (#[.int g 0, n1, n2] : Array Value)[0]? == some (rawInt T)) = true then _ else _) Q E s
  rw [if_neg (by
    intro h
    rw [show (["enumerate", "zip", "dict_itemiterator", "dict_reverseitemiterator", "odict_iterator", "itertools.zip_longest", "itertools.pairwise"].contains "generator") = false from by decide, Bool.false_and] at h
    cases h)]
  exact wpAny_pure hQ
theorem gen_call {K : Frag} {h₀ : Heap} {L f : Addr} {m : Str → Option Value} {name qual : Str} {params : Arguments} {body : List Stmt} {scope : Scope} {dV kV doc pm cdv ct oc : Value} {an od : Option Addr} {osl : Array (Option Value)} {pos : List Value} {kw : List (Str × Value)} {binds : List (Str × Value)} {Q : Value → Shared → Prop}
    (F : Fr h₀ L s.heap m) (X₀ : K.In h₀) (hlim : h₀.NoLimit) (ho : K.lookup f = some ⟨oc, od, .func (fnOf name qual params body scope dV kV doc pm an cdv ct), osl⟩) (hcd : codeIn K cdv qual = true) (hroom : A.depth < recursionLimit)
    (hbind : BindsTo s (fnOf name qual params body scope dV kV doc pm an cdv ct) ⟨pos, kw⟩ binds) (hloc : ∀ y ∈ binds, scope.names.lookup y.1 = some .local)
    (hco : scope.isCoroutine = false) (hgen : scope.isGenerator = true) (hk : scope.kind = .function) (hcell : ∀ x ∈ scope.names, x.2 ≠ .cell)
    (h : ∀ h' tk, h'.Ns s.heap.objs.size (fun y => binds.reverse.lookup y) → (∀ b o, s.heap.get? b = some o → h'.get? b = some o) → h'.IsGen (s.heap.objs.size + 1) s.gens.size →
      Q (.ref (s.heap.objs.size + 1)) { s with heap := h', gens := s.gens.push (.fresh (.func body (envOf qual scope s.heap.objs.size f cdv))), toks := tk }) :
    wpAny (model prog w) A (call (.ref f) pos kw) Q E s := by
  refine wpAny_call (codeAny_call_generator (fd := fnOf name qual params body scope dV kV doc pm an cdv ct) (body := body) hroom ((X₀.keeps F.keep) _ _ ho) rfl hco hgen rfl (codeRec_of (X₀.keeps F.keep) hcd) (hbind _ _ _ _ ?_))
  refine wpAny_newFunctionEnv hcell hloc (fun h' hns hsb => ?_) hk
  have up : ∀ b o, s.heap.get? b = some o → h'.get? b = some o := fun b o e => hsb.extBut b o (Nat.ne_of_lt (Heap.lt_size e)) (Heap.get?_push_of_some _ e)
  have hz : h'.objs.size = s.heap.objs.size + 1 := by rw [hsb.1, Heap.size_push]
  refine ⟨(hlim.keeps F.keep).keeps up, ?_⟩
  have := h (h'.push { cls := .type "generator", data := .fields #[.int s.gens.size 0, .str name (s.toks + binds.length), .str qual (s.toks + binds.length + 1)] }) (s.toks + binds.length + 1 + 1) (hns.keeps fun b o e => Heap.get?_push_of_some _ e) (fun b o e => Heap.get?_push_of_some _ (up b o e))
    ⟨_, _, _, (by rw [← hz]; exact Heap.get?_push_size _ rfl), rfl, rfl, rfl⟩
  rw [← hz] at this
  exact this
end
theorem nL1 {a b : Nat} (h : a < b) : a < b + 2 := by omega
theorem nL3 {a l g : Nat} (h : g + 2 ≤ a) (h' : l < g) : a ≠ l := by omega
theorem nL4 {a g : Nat} (h : g + 2 ≤ a) : g ≤ a := by omega
theorem nL5 {q l g : Nat} (h : q = g ∨ g + 2 ≤ q) (h' : l < g) : q ≠ l := by omega
theorem nL6 {q g : Nat} (h : q = g ∨ g + 2 ≤ q) : g ≤ q := by omega
theorem nL7 {a d g : Nat} (h : g + 2 ≤ a) (h' : d < g) : d < a := by omega
theorem nL8 {d g : Nat} (h' : d < g) : g + 1 ≠ d := by omega
theorem nL9 {g : Nat} : g + 1 < g + 2 ∧ g + 1 ≠ g ∧ g < g + 2 := by omega
def PostG (h₀ : Heap) (L d : Addr) (rest : List (Addr × Obj)) (J : (Str → Option Value) → List Value → Prop) (s₁ : Shared) (R : Result → Shared → Prop) (f : Flow) (s₂ : Shared) : Prop :=
  match f with
  | .ret v => R (.ok (.ret v)) s₂
  | .brk => R (.ok .next) s₂
  | _ => ∃ h' tk m' vs c, s₂ = { s₁ with heap := h', toks := tk } ∧ Fr h₀ L h' m' ∧ News h₀ L h' ((d, lst vs c) :: rest) ∧ J m' vs
theorem PostG.end {h₀ : Heap} {L d : Addr} {rest : List (Addr × Obj)} {J : (Str → Option Value) → List Value → Prop} {s₁ : Shared} {R : Result → Shared → Prop} {h' : Heap} {tk : Nat} {m' : Str → Option Value} {vs : List Value} {c : Nat}
    (F : Fr h₀ L h' m') (N : News h₀ L h' ((d, lst vs c) :: rest)) (hj : J m' vs) : PostG h₀ L d rest J s₁ R .next { s₁ with heap := h', toks := tk } := ⟨h', tk, m', vs, c, rfl, F, N, hj⟩
theorem bare_set {gens : Array GenState} {g : Nat} {x : GenState} (h : AllBare gens) (hx : x.bare = true) : AllBare (gens.setIfInBounds g x) := by
  intro y hy
  rcases Array.mem_iff_getElem?.mp hy with ⟨i, hi⟩
  rw [Array.getElem?_setIfInBounds] at hi
  split at hi
  · split at hi
    · rw [← Option.some.inj hi]; exact hx
    · cases hi
  · exact h y (Array.mem_iff_getElem?.mpr ⟨i, hi⟩)
theorem bare_set2 {gens : Array GenState} {g : Nat} {x y : GenState} (h : AllBare gens) (hx : x.bare = true) : AllBare ((gens.setIfInBounds g y).setIfInBounds g x) := by
  rw [Array.setIfInBounds_setIfInBounds]; exact bare_set h hx
theorem for_gen (w : World) (mean : ExcName → Option Value) (mg mb : Str → Option Value) {A : Around} (hA : A.handled = none) {h₀ : Heap} (X : (hd.heap_39 w.params).In h₀) (T : Top hd.view_39 (looseW hd.view_39 []) mean mg mb h₀) {env : Env} {x : Str} {u : Tok} (hx : x.cps.all (· < 128) = true) {elts : List PySem.Expr} {k1 : Nat} {tpos : Pos} {lbody : List Stmt}
    {oc : Value} {od : Option Addr} {name qual : Str} {params : Arguments} {s1 s2 s4 : Stmt} {target iter : PySem.Expr} {fbody : List Stmt} {fpos : Pos} {scope : Scope} {dV kV doc pm cdv ct : Value} {an : Option Addr} {osl : Array (Option Value)}
    (hfn : (hd.heap_39 w.params).lookup 21 = some ⟨oc, od, .func (fnOf name qual params [s1, s2, .For target iter fbody [] fpos, s4] scope dV kV doc pm an cdv ct), osl⟩)
    (hroom : A.depth < recursionLimit) {Lg d : Addr} {s : Shared} {m₀ g : Str → Option Value} {vs₀ : List Value} {c₀ : Nat} {p1 p2 : Addr × Obj} {news : List (Addr × Obj)} {gi : Nat}
    (F : Fr h₀ env.locals s.heap m₀) (N : News h₀ env.locals s.heap ((d, lst vs₀ c₀) :: p1 :: p2 :: news)) (hne : ∀ p ∈ p1 :: p2 :: news, p.1 ≠ d) (hold : ∀ p ∈ (d, lst vs₀ c₀) :: p1 :: p2 :: news, p.1 < Lg) (hlL : env.locals < Lg)
    (hns : s.heap.Ns Lg (fun y => if y = Str.ofString "addr" then some (.str x u) else g y)) (hga : s.heap.IsGen (Lg + 1) gi) (hgs : s.gens[gi]? = some (.fresh (.func [s1, s2, .For target iter fbody [] fpos, s4] (envOf qual scope Lg 21 cdv)))) (hbare : AllBare s.gens)
    {R : Result → Shared → Prop} (J : List (Nat × Str) → (Str → Option Value) → List Value → Prop) (h0 : J (gy 0 false x.cps.toList) m₀ vs₀)
    (turn : ∀ it rem m₁ vs c a t1 t2 rest (S : Shared) (E' : Value → Shared → Prop), (∀ e, PassesOwnAt (model PySem.Challenge.rw_nb0036_01.row.prog w) (A.mark (some (.ref e))) A env E') → J (it :: rem) m₁ vs → Fr h₀ env.locals S.heap m₁ → News h₀ env.locals S.heap ((a, tup [.int ((it : Nat × Str).1 : Int) t1, .str it.2 t2] 0) :: (d, lst vs c) :: p1 :: p2 :: rest) → d < a → (∀ p ∈ p1 :: p2 :: rest, p.1 ≠ d) → (∀ p ∈ news, p ∈ rest) → S.os = s.os → AllBare S.gens →
      wpAny (model PySem.Challenge.rw_nb0036_01.row.prog w) A (assign (.Tuple elts k1 tpos) env (.ref a)) (fun _ s₂ => wpAny (model PySem.Challenge.rw_nb0036_01.row.prog w) A (execs lbody env) (PostG h₀ env.locals d (p1 :: p2 :: rest) (J rem) S R) E' s₂) E' S)
    (done : ∀ m₁ vs c (S : Shared), J [] m₁ vs → Fr h₀ env.locals S.heap m₁ → News h₀ env.locals S.heap ((d, lst vs c) :: p1 :: p2 :: news) → S.os = s.os → AllBare S.gens → R (.ok .next) S) :
    codeAny (model PySem.Challenge.rw_nb0036_01.row.prog w) A (.forLoop (.Tuple elts k1 tpos) (.ref (Lg + 1)) lbody [] env) R s := by
  obtain ⟨go, gn1, gn2, hgo, hgc, hgd, hgsl⟩ := hga
  have hab := F.above
  have hnone : ∀ b, Lg ≤ b → h₀.get? b = none := fun b hb => Heap.get?_none_of_le (Nat.le_trans hab (Nat.le_trans (Nat.le_of_lt hlL) hb))
  refine codeAny_forLoop_any (fun k S => ∃ m₁ vs c own gs rem pre, gy 0 false x.cps.toList = pre ++ rem ∧ k = rem.length ∧ Fr h₀ env.locals S.heap m₁ ∧ News h₀ env.locals S.heap ((d, lst vs c) :: p1 :: p2 :: (Lg + 1, go) :: (own ++ news)) ∧ (∀ p ∈ own, p.1 = Lg ∨ Lg + 2 ≤ p.1) ∧ J rem m₁ vs ∧ S.os = s.os ∧ AllBare S.gens ∧ S.gens[gi]? = some gs ∧
    (∀ s'' : Shared, (∀ p ∈ own, s''.heap.get? p.1 = some p.2) → s''.heap.get? (Lg + 1) = some go → (∀ b o, h₀.get? b = some o → s''.heap.get? b = some o) → gs.Goes (model PySem.Challenge.rw_nb0036_01.row.prog w) A.in1 (GR (Lg + 2) Lg) (GY (Lg + 2) Lg h₀ (gy 0 false x.cps.toList)) rem.length (.send .none) s'')) ?_ (gy 0 false x.cps.toList).length ?_
  · rintro k S ⟨m₁, vs, c, own, gs, rem, pre, hpre, rfl, F₁, N₁, hown, hJ, hos, hb, hg, hgoes⟩
    have hgoN := (N₁ _ (.tail _ (.tail _ (.tail _ (.head _))))).1
    have hisg : S.heap.IsGen (Lg + 1) gi := ⟨go, gn1, gn2, hgoN, hgc, hgd, hgsl⟩
    have hd9 : d < Lg := hold _ (.head _)
    have hp1 : p1.1 < Lg := hold _ (.tail _ (.head _))
    have hp2 : p2.1 < Lg := hold _ (.tail _ (.tail _ (.head _)))
    have hnw : ∀ p ∈ news, p.1 < Lg := fun p hp => hold _ (.tail _ (.tail _ (.tail _ hp)))
    refine next_fn (Y := GY (Lg + 2) Lg h₀ (gy 0 false x.cps.toList)) (P := fun n s₀ s₁ => n = 0 ∧ Since (Lg + 2) Lg s₀ s₁) hA (T.nolimit.keeps F₁.keep) hroom hisg hg
      (hgoes (S.setGen gi .running) (fun p hp => (N₁ p (.tail _ (.tail _ (.tail _ (.tail _ (List.mem_append_left _ hp)))))).1) hgoN F₁.keep) ?_ ?_
    · rintro v s₁ gs' hbare' ⟨hsin, ⟨a, t1, t2, it, rfl, hna, hat, hit⟩, own', hown', hcont⟩
      obtain ⟨h', tk, rfl, hkeep⟩ := hsin
      have hkeep' : ∀ b o, b < Lg → S.heap.get? b = some o → h'.get? b = some o := fun b o hlt e => hkeep b o (nL1 hlt) (Nat.ne_of_lt hlt) e
      have hh0 : ∀ b o, h₀.get? b = some o → h'.get? b = some o := fun b o e => hkeep' b o (Nat.lt_of_lt_of_le (Heap.lt_size e) (Nat.le_trans hab (Nat.le_of_lt hlL))) (F₁.keep b o e)
      have hgo' : h'.get? (Lg + 1) = some go := hkeep _ _ nL9.1 nL9.2.1 hgoN
      cases rem with
      | nil => exact (hcont _ (fun p hp => (hown' p hp).1) (Nat.le_of_lt (Nat.lt_of_le_of_lt hna (Heap.lt_size hat))) hh0).elim
      | cons it' rem =>
        have hii := items_at hpre
        rw [show (it' :: rem).length - 1 = rem.length from rfl] at hit
        rw [hii] at hit
        obtain rfl : it' = it := Option.some.inj hit
        have F₂ : Fr h₀ env.locals h' m₁ := ⟨F₁.ns.at' fun o e => hkeep' _ o hlL e, hh0, hab⟩
        have N₂ : News h₀ env.locals h' ((a, tup [.int (it'.1 : Int) t1, .str it'.2 t2] 0) :: (d, lst vs c) :: p1 :: p2 :: (Lg + 1, go) :: (own' ++ news)) := by
          intro q hq
          rcases List.mem_cons.mp hq with z | hq
          · rw [z]; exact ⟨hat, nL3 hna hlL, hnone a (nL4 hna)⟩
          rcases List.mem_cons.mp hq with z | hq
          · rw [z]; exact ⟨hkeep' _ _ hd9 (N₁ _ (.head _)).1, (N₁ _ (.head _)).2⟩
          rcases List.mem_cons.mp hq with z | hq
          · rw [z]; exact ⟨hkeep' _ _ hp1 (N₁ _ (.tail _ (.head _))).1, (N₁ _ (.tail _ (.head _))).2⟩
          rcases List.mem_cons.mp hq with z | hq
          · rw [z]; exact ⟨hkeep' _ _ hp2 (N₁ _ (.tail _ (.tail _ (.head _)))).1, (N₁ _ (.tail _ (.tail _ (.head _)))).2⟩
          rcases List.mem_cons.mp hq with z | hq
          · rw [z]; exact ⟨hgo', (N₁ _ (.tail _ (.tail _ (.tail _ (.head _))))).2⟩
          rcases List.mem_append.mp hq with hq | hq
          · obtain ⟨w1, w2⟩ := hown' q hq
            refine ⟨w1, nL5 w2 hlL, hnone q.1 (nL6 w2)⟩
          · have w3 := N₁ q (.tail _ (.tail _ (.tail _ (.tail _ (List.mem_append_right _ hq)))))
            exact ⟨hkeep' _ _ (hnw q hq) w3.1, w3.2⟩
        have hb2 : AllBare ((S.gens.setIfInBounds gi .running).setIfInBounds gi gs') := bare_set2 hb hbare'
        · refine letgo_gen (g := gi) ⟨go, gn1, gn2, hgo', hgc, hgd, hgsl⟩ ?_
          refine wpAny_mono (turn it' rem m₁ vs c a t1 t2 ((Lg + 1, go) :: (own' ++ news)) ({ (S.setGen gi .running) with heap := h', toks := tk }.setGen gi gs') _ (fun e => PassesOwnAt.looking) hJ F₂ N₂ (nL7 hna hd9) ?_ (fun p hp => .tail _ (List.mem_append_right _ hp)) hos hb2) (fun _ s₂ h₂ => wpAny_mono h₂ (fun f s₃ h₃ => ?_) fun _ _ e => e) fun _ _ e => e
          · intro q hq
            rcases List.mem_cons.mp hq with z | hq
            · rw [z]; exact hne _ (.head _)
            rcases List.mem_cons.mp hq with z | hq
            · rw [z]; exact hne _ (.tail _ (.head _))
            rcases List.mem_cons.mp hq with z | hq
            · rw [z]; exact nL8 hd9
            rcases List.mem_append.mp hq with hq | hq
            · exact nL5 (hown' q hq).2 hd9
            · exact hne _ (.tail _ (.tail _ hq))
          · cases f with
            | ret v => exact h₃
            | brk => exact h₃
            | next | cont =>
              obtain ⟨h3, tk3, m3, vs3, c3, rfl, F3, N3, hJ3⟩ := h₃
              refine ⟨rem.length, Nat.lt_succ_self _, m3, vs3, c3, own', gs', rem, pre ++ [it'], by rw [hpre]; simp, rfl, F3, N3, fun p hp => (hown' p hp).2, hJ3, hos, hb2, ?_, fun s'' q1 q2 q3 => hcont s'' q1 (Heap.lt_size q2) q3⟩
              show ((S.gens.setIfInBounds gi .running).setIfInBounds gi gs')[gi]? = some gs'
              have hlt : gi < S.gens.size := by
                rcases Nat.lt_or_ge gi S.gens.size with q | q
                · exact q
                · rw [Array.getElem?_eq_none q] at hg; cases hg
              simp [Array.getElem?_setIfInBounds, hlt]
    · rintro s₁ ⟨hn0, h', tk, rfl, hkeep⟩ h2 hk2
      have hr : rem = [] := List.eq_nil_of_length_eq_zero hn0
      subst hr
      have hkeep' : ∀ b o, b < Lg → S.heap.get? b = some o → h2.get? b = some o := fun b o hlt e => hk2 b o (hkeep b o (nL1 hlt) (Nat.ne_of_lt hlt) e)
      have hb2 : AllBare ((S.gens.setIfInBounds gi .running).setIfInBounds gi .finished) := bare_set2 hb rfl
      refine wpAny_execs_nil (done m₁ vs c _ hJ ⟨F₁.ns.at' fun o e => hkeep' _ o hlL e, fun b o e => hkeep' b o (Nat.lt_of_lt_of_le (Heap.lt_size e) (Nat.le_trans hab (Nat.le_of_lt hlL))) (F₁.keep b o e), hab⟩ (fun q hq => ?_) hos hb2)
      have hq' : q ∈ (d, lst vs c) :: p1 :: p2 :: (Lg + 1, go) :: (own ++ news) := by
        simp only [List.mem_cons, List.mem_append] at hq ⊢
        rcases hq with z | z | z | z <;> simp [z]
      have hlt : q.1 < Lg := by
        rcases List.mem_cons.mp hq with z | hq
        · rw [z]; exact hd9
        · exact hold _ (.tail _ hq)
      exact ⟨hkeep' _ _ hlt (N₁ q hq').1, (N₁ q hq').2⟩
  · obtain ⟨oL, es, ep, hL, rL⟩ := hns
    refine ⟨m₀, vs₀, c₀, [(Lg, oL)], _, _, [], rfl, rfl, F, ?_, ?_, h0, rfl, hbare, hgs, ?_⟩
    · intro q hq
      rcases List.mem_cons.mp hq with z | hq
      · rw [z]; exact N _ (.head _)
      rcases List.mem_cons.mp hq with z | hq
      · rw [z]; exact N _ (.tail _ (.head _))
      rcases List.mem_cons.mp hq with z | hq
      · rw [z]; exact N _ (.tail _ (.tail _ (.head _)))
      rcases List.mem_cons.mp hq with z | hq
      · rw [z]; exact ⟨hgo, nL8 hlL, hnone _ (Nat.le_succ _)⟩
      rcases List.mem_cons.mp hq with z | hq
      · rw [z]; exact ⟨hL, Nat.ne_of_gt hlL, hnone _ (Nat.le_refl _)⟩
      · exact N _ (.tail _ (.tail _ (.tail _ hq)))
    · intro p hp
      rw [List.mem_singleton.mp hp]; exact .inl rfl
    · intro s'' q1 q2 q3
      refine ⟨rfl, gen_start w mean mg mb (A := A.in1) hA X T (nH := Lg + 2) nL9.2.2 hx hfn s'' g ⟨⟨oL, es, ep, q1 _ (.head _), rL⟩, q3, Nat.le_trans hab (Nat.le_of_lt hlL)⟩ (ga := Lg + 1) rfl q2 (hnone _ (Nat.le_succ _)) nL9.2.1⟩
end Mine
end
-- Run0
theorem Mine.calmRun0 : True := by
  w_top off
  trivial
section
open PySem PySem.W PyProof.Rows
set_option maxRecDepth 100000
set_option maxHeartbeats 4000000
namespace Mine
theorem stepR_V {S : List Int} {t : Th} : (∃ S', stepR S t = .inl S' ∧ stepV (S.map .i) t = S'.map .i) ∨ (stepR S t = .inr t.k) := by
  unfold stepR stepV
  by_cases hl : t.lit = true
  · rw [if_pos hl, if_pos hl]; exact .inl ⟨_, rfl, by simp⟩
  · rw [if_neg hl, if_neg hl]
    by_cases ho : t.one = true
    · have hv : t.div = false := one_div ho
      rw [if_pos ho, if_pos ho]
      refine .inl ⟨_, rfl, ?_⟩
      rw [← List.map_dropLast, lastV_map]
      simp [comb, hv]
    · rw [if_neg ho, if_neg ho]
      rw [← List.map_dropLast, ← List.map_dropLast, lastV_map, lastV_map]
      by_cases hz : t.div = true ∧ lastI S = 0
      · rw [if_pos hz]
        exact .inr rfl
      · rw [if_neg hz]
        refine .inl ⟨_, rfl, ?_⟩
        simp [comb, hz]
/-- the loop's state: what is left to come, the frame's names, the stack -/
def RunJ (ths : List Th) (d tw on : Addr) (items : List (Nat × Str)) (m : Str → Option Value) (vs : List Value) : Prop :=
  ∃ j S, items = (ths.drop j).map thItem ∧ j ≤ ths.length ∧ IntsAre vs S ∧ stk ths j = S.map .i ∧ runF ths [] = runF (ths.drop j) S ∧
    ∃ g : Str → Option Value, m = fun y => if y = Str.ofString "stack" then some (.ref d) else if y = Str.ofString "ones" then some (.ref on) else if y = Str.ofString "twos" then some (.ref tw) else g y
theorem RunJ.step {ths : List Th} {d tw on : Addr} {rem : List (Nat × Str)} {m' : Str → Option Value} {vs : List Value} {j : Nat} {S S' : List Int} {t : Th} {r : List Th} (hdr : ths.drop j = t :: r) (hrem : rem = r.map thItem) (hst : stk ths j = S.map .i) (hrun : runF ths [] = runF (ths.drop j) S)
    (hI : IntsAre vs S') (hS : stepR S t = .inl S') (h1 : m' (Str.ofString "stack") = some (.ref d)) (h2 : m' (Str.ofString "ones") = some (.ref on)) (h3 : m' (Str.ofString "twos") = some (.ref tw)) : RunJ ths d tw on rem m' vs := by
  have hj : ths[j]? = some t := by
    have := congrArg (·[0]?) hdr
    simpa [List.getElem?_drop] using this
  have hdr' : ths.drop (j + 1) = r := by
    have := congrArg (List.drop 1) hdr
    simpa [List.drop_drop, Nat.add_comm] using this
  have hlt : j < ths.length := by
    rcases Nat.lt_or_ge j ths.length with h | h
    · exact h
    · rw [List.drop_eq_nil_of_le h] at hdr; cases hdr
  refine ⟨j + 1, S', by rw [hdr', hrem], hlt, hI, ?_, ?_, m', map3 h1 h2 h3⟩
  · rw [stk_succ hj, hst]
    rcases stepR_V (S := S) (t := t) with ⟨S'', e1, e2⟩ | e
    · rw [hS] at e1; cases e1; exact e2
    · rw [hS] at e; cases e
  · rw [hrun, hdr, hdr']
    simp only [runF, hS]
theorem ints_snoc {vs : List Value} {S : List Int} {x : Int} {t : Tok} (h : IntsAre vs S) : IntsAre (vs ++ [.int x t]) (S ++ [x]) := by
  induction h with
  | nil => exact .cons _ _ .nil
  | cons k t r ih => exact .cons k t ih
theorem ints_cases {vs : List Value} {S : List Int} (h : IntsAre vs S) : (vs = [] ∧ S = []) ∨ (∃ vs' S' x t, vs = vs' ++ [.int x t] ∧ S = S' ++ [x] ∧ IntsAre vs' S') := by
  induction h with
  | nil => exact .inl ⟨rfl, rfl⟩
  | cons k t r ih =>
    right
    rcases ih with ⟨rfl, rfl⟩ | ⟨vs', S', x, t', rfl, rfl, h'⟩
    · exact ⟨[], [], k, t, rfl, rfl, .nil⟩
    · exact ⟨_, _, x, t', rfl, rfl, .cons k t h'⟩
theorem lastI_snoc (S : List Int) (v : Int) : lastI (S ++ [v]) = v := by
  cases S with
  | nil => rfl
  | cons x l => simp [lastI]
theorem ints_dat {news : List (Addr × Obj)} {vs : List Value} {S : List Int} (h : IntsAre vs S) : DatAll news vs (resDat (.inl S)) := by
  induction h with
  | nil => exact .nil
  | cons k t r ih => exact .cons (.int _ _) ih
theorem turn_end {g h' : Heap} {L' d tw on : Addr} {fix l : List (Addr × Obj)} {ths : List Th} {j : Nat} {S S' : List Int} {t : Th} {r : List Th} {s : Shared} {R : Result → Shared → Prop} {m' : Str → Option Value} {vs' : List Value} {c tk : Nat} {x : Int} {u : Tok}
    (hdr : ths.drop j = t :: r) (hst : stk ths j = S.map .i) (hrun : runF ths [] = runF (ths.drop j) S) (F : Fr g L' h' m') (N : News g L' h' l) (hm : (d, listOf (vs'.toArray.push (.int x u)) c) ∈ l) (hsub : ∀ p ∈ fix, p ∈ l) (hI : IntsAre vs' S') (hS : stepR S t = .inl (S' ++ [x]))
    (h1 : m' (Str.ofString "stack") = some (.ref d)) (h2 : m' (Str.ofString "ones") = some (.ref on)) (h3 : m' (Str.ofString "twos") = some (.ref tw)) :
    PostG g L' d fix (RunJ ths d tw on (r.map thItem)) s R .next { s with heap := h', toks := tk } := by
  have e : listOf (vs'.toArray.push (.int x u)) c = lst (vs' ++ [.int x u]) c := by
    show listOf _ c = listOf _ c
    rw [List.push_toArray]
  rw [e] at hm
  exact PostG.end F (pick1 N hm hsub) (RunJ.step hdr rfl hst hrun (ints_snoc hI) hS h1 h2 h3)
theorem run_room {ths : List Th} (hg : Good ths) {j : Nat} {S : List Int} {t : Th} {r : List Th} (hdr : ths.drop j = t :: r) (hst : stk ths j = S.map .i) {vs : List Value} (hI : IntsAre vs S) : vs.length ≤ 64 := by
  have hlt : j < ths.length := by
    rcases Nat.lt_or_ge j ths.length with h | h
    · exact h
    · rw [List.drop_eq_nil_of_le h] at hdr; cases hdr
  have h1 := congrArg List.length hst
  rw [List.length_map] at h1
  have h2 := hg.1
  have h3 := stk_len ths j (Nat.le_of_lt hlt)
  have h4 := hI.length
  omega
end Mine
end
-- Ops
theorem Mine.calmOps : True := by
  w_top off
  trivial
section
open PySem PySem.W PyProof.Rows
set_option maxRecDepth 100000
set_option maxHeartbeats 4000000
namespace Mine
local macro_rules | `(tactic| walk_at "binaryOp FloorDiv int int") => `(tactic| (k_here; (with_reducible refine' floordiv_int ?k1 ?_ (Or.inl ?k2)); (case k1 => assumption); (case k2 => assumption)))
local macro_rules | `(tactic| walk_at "binaryOp Mod int int") => `(tactic| (k_here; (with_reducible refine' mod_int' ?k1 ?_); (case k1 => assumption)))
def OpT (w : World) (mean : ExcName → Option Value) (mg mb : Str → Option Value) (f : Addr) (d : Nat) : Prop :=
  ∀ (dp un : Nat) (gd : Option (List Code)) (cn : Str) (cs : Scope) (a : Addr) (ccd : Value) (cl : List (Str × Addr)) (outer : List Env) (A₀ : Around) (base h₀ : Heap) (L : Addr) (m : Str → Option Value) (news : List (Addr × Obj)) (s : Shared) (Q E : Value → Shared → Prop) (x y : Int) (ux uy : Tok),
    Below A₀ base outer h₀ → Fr h₀ L s.heap m → (hd.heap_39 w.params).In h₀ → News h₀ L s.heap news → Top hd.view_39 (looseW hd.view_39 []) mean mg mb h₀ → cs.kind = .function → dp + 3 < recursionLimit → un + 40 < cLine → IntMulOk x y → Builtin.divisionGoesByPylong x y = false → ((d = 3 ∨ d = 4) → y ≠ 0) →
    (∀ h' tk tk', Fr h₀ L h' m → News h₀ L h' news → Q (.int (dee d x y) tk) { s with heap := h', toks := tk' }) →
    wpAny (model PySem.Challenge.rw_nb0036_01.row.prog w) (ktrTop dp un gd cn cs L a ccd cl outer) (call (.ref f) [.int x ux, .int y uy]) Q E s
def OneT (w : World) (mean : ExcName → Option Value) (mg mb : Str → Option Value) (f : Addr) (d : Nat) : Prop :=
  ∀ (dp un : Nat) (gd : Option (List Code)) (cn : Str) (cs : Scope) (a : Addr) (ccd : Value) (cl : List (Str × Addr)) (outer : List Env) (A₀ : Around) (base h₀ : Heap) (L : Addr) (m : Str → Option Value) (news : List (Addr × Obj)) (s : Shared) (Q E : Value → Shared → Prop) (y : Int) (uy : Tok),
    Below A₀ base outer h₀ → Fr h₀ L s.heap m → (hd.heap_39 w.params).In h₀ → News h₀ L s.heap news → Top hd.view_39 (looseW hd.view_39 []) mean mg mb h₀ → cs.kind = .function → dp + 3 < recursionLimit → un + 40 < cLine →
    (∀ h' tk tk', Fr h₀ L h' m → News h₀ L h' news → Q (.int (dee d 0 y) tk) { s with heap := h', toks := tk' }) →
    wpAny (model PySem.Challenge.rw_nb0036_01.row.prog w) (ktrTop dp un gd cn cs L a ccd cl outer) (call (.ref f) [.int y uy]) Q E s
theorem op_add (w : World) (mean : ExcName → Option Value) (mg mb : Str → Option Value) : OpT w mean mg mb 28 0 := by
  intro dp un gd cn cs a ccd cl outer A₀ base h₀ L m news s Q E x y ux uy B F X N T hk hd hu hm hpl hy hret
  clear hy
  revert X; k_fill; intro X
  refine wpAny_call ?_
  k_dflt ktr_enter
  k_steps
  all_goals (refine' hret _ _ _ ?f ?n; (case f => assumption); (case n => assumption))
theorem op_sub (w : World) (mean : ExcName → Option Value) (mg mb : Str → Option Value) : OpT w mean mg mb 84 1 := by
  intro dp un gd cn cs a ccd cl outer A₀ base h₀ L m news s Q E x y ux uy B F X N T hk hd hu hm hpl hy hret
  clear hy
  revert X; k_fill; intro X
  refine wpAny_call ?_
  k_dflt ktr_enter
  k_steps
  all_goals (refine' hret _ _ _ ?f ?n; (case f => assumption); (case n => assumption))
theorem op_mul (w : World) (mean : ExcName → Option Value) (mg mb : Str → Option Value) : OpT w mean mg mb 63 2 := by
  intro dp un gd cn cs a ccd cl outer A₀ base h₀ L m news s Q E x y ux uy B F X N T hk hd hu hm hpl hy hret
  clear hy
  revert X; k_fill; intro X
  refine wpAny_call ?_
  k_dflt ktr_enter
  k_steps
  all_goals (refine' hret _ _ _ ?f ?n; (case f => assumption); (case n => assumption))
theorem op_fdv (w : World) (mean : ExcName → Option Value) (mg mb : Str → Option Value) : OpT w mean mg mb 42 3 := by
  intro dp un gd cn cs a ccd cl outer A₀ base h₀ L m news s Q E x y ux uy B F X N T hk hd hu hm hpl hy hret
  replace hy := hy (.inl rfl)
  revert X; k_fill; intro X
  refine wpAny_call ?_
  k_dflt ktr_enter
  k_steps
  all_goals (refine' hret _ _ _ ?f ?n; (case f => assumption); (case n => assumption))
theorem op_mod (w : World) (mean : ExcName → Option Value) (mg mb : Str → Option Value) : OpT w mean mg mb 56 4 := by
  intro dp un gd cn cs a ccd cl outer A₀ base h₀ L m news s Q E x y ux uy B F X N T hk hd hu hm hpl hy hret
  replace hy := hy (.inr rfl)
  revert X; k_fill; intro X
  refine wpAny_call ?_
  k_dflt ktr_enter
  k_steps
  all_goals (refine' hret _ _ _ ?f ?n; (case f => assumption); (case n => assumption))
theorem op_and (w : World) (mean : ExcName → Option Value) (mg mb : Str → Option Value) : OpT w mean mg mb 35 5 := by
  intro dp un gd cn cs a ccd cl outer A₀ base h₀ L m news s Q E x y ux uy B F X N T hk hd hu hm hpl hy hret
  clear hy
  revert X; k_fill; intro X
  refine wpAny_call ?_
  k_dflt ktr_enter
  k_steps
  all_goals (refine' hret _ _ _ ?f ?n; (case f => assumption); (case n => assumption))
theorem op_or (w : World) (mean : ExcName → Option Value) (mg mb : Str → Option Value) : OpT w mean mg mb 77 6 := by
  intro dp un gd cn cs a ccd cl outer A₀ base h₀ L m news s Q E x y ux uy B F X N T hk hd hu hm hpl hy hret
  clear hy
  revert X; k_fill; intro X
  refine wpAny_call ?_
  k_dflt ktr_enter
  k_steps
  all_goals (refine' hret _ _ _ ?f ?n; (case f => assumption); (case n => assumption))
theorem op_xor (w : World) (mean : ExcName → Option Value) (mg mb : Str → Option Value) : OpT w mean mg mb 91 7 := by
  intro dp un gd cn cs a ccd cl outer A₀ base h₀ L m news s Q E x y ux uy B F X N T hk hd hu hm hpl hy hret
  clear hy
  revert X; k_fill; intro X
  refine wpAny_call ?_
  k_dflt ktr_enter
  k_steps
  all_goals (refine' hret _ _ _ ?f ?n; (case f => assumption); (case n => assumption))
theorem one_neg (w : World) (mean : ExcName → Option Value) (mg mb : Str → Option Value) : OneT w mean mg mb 70 8 := by
  intro dp un gd cn cs a ccd cl outer A₀ base h₀ L m news s Q E y uy B F X N T hk hd hu hret
  have e : dee 8 0 y = -y := by exact Int.zero_sub y
  rw [e] at hret
  revert X; k_fill; intro X
  refine wpAny_call ?_
  k_dflt ktr_enter
  k_steps
  all_goals (refine' hret _ _ _ ?f ?n; (case f => assumption); (case n => assumption))
theorem one_inv (w : World) (mean : ExcName → Option Value) (mg mb : Str → Option Value) : OneT w mean mg mb 49 9 := by
  intro dp un gd cn cs a ccd cl outer A₀ base h₀ L m news s Q E y uy B F X N T hk hd hu hret
  have e : dee 9 0 y = Builtin.bitNot y := by show 0 - y - 1 = -y - 1; rw [Int.zero_sub]
  rw [e] at hret
  revert X; k_fill; intro X
  refine wpAny_call ?_
  k_dflt ktr_enter
  k_steps
  all_goals (refine' hret _ _ _ ?f ?n; (case f => assumption); (case n => assumption))
def twoA (d : Nat) : Addr := [28, 84, 63, 42, 56, 35, 77, 91].getD d 0
theorem op_all (w : World) (mean : ExcName → Option Value) (mg mb : Str → Option Value) : ∀ d, d < 8 → OpT w mean mg mb (twoA d) d := by
  intro d h
  have : d = 0 ∨ d = 1 ∨ d = 2 ∨ d = 3 ∨ d = 4 ∨ d = 5 ∨ d = 6 ∨ d = 7 := by omega
  rcases this with h | h | h | h | h | h | h | h <;> subst h
  · exact op_add w mean mg mb
  · exact op_sub w mean mg mb
  · exact op_mul w mean mg mb
  · exact op_fdv w mean mg mb
  · exact op_mod w mean mg mb
  · exact op_and w mean mg mb
  · exact op_or w mean mg mb
  · exact op_xor w mean mg mb
def oneA (d : Nat) : Addr := if d = 8 then 70 else 49
theorem one_all (w : World) (mean : ExcName → Option Value) (mg mb : Str → Option Value) : ∀ d, d = 8 ∨ d = 9 → OneT w mean mg mb (oneA d) d := by
  intro d h
  rcases h with h | h <;> subst h
  · exact one_neg w mean mg mb
  · exact one_inv w mean mg mb
end Mine
end
-- TurnO
theorem Mine.calmTurnO : True := by
  w_top off
  trivial
section
open PySem PySem.W PyProof.Rows
set_option maxRecDepth 100000
set_option maxHeartbeats 4000000
namespace Mine
section
variable {prog : Program} {w : World} {A : Around} {E : Value → Shared → Prop} {s : Shared} {h₀ : Heap} {L D l : Addr} {m : Str → Option Value} {news news' : List (Addr × Obj)} {n n' : Nat} {Q : Value → Shared → Prop}
theorem last_snoc (y : Value) : ∀ p : List Value, kl_last (p ++ [y]) = some (p, y)
  | [] => rfl
  | x :: p => by
    show (match kl_last (p ++ [y]) with | some (q, z) => some (x :: q, z) | none => some ([], x)) = some (x :: p, y)
    rw [last_snoc y p]
theorem pop_snoc {vs : List Value} {y : Value} (F : Fr h₀ L s.heap m) (N : News h₀ L s.heap news) (U : Upd D (lst (vs ++ [y]) n) (lst vs (n + 1)) news news') (hz : vs.length + 1 ≤ sizeLine)
    (h : ∀ h', Fr h₀ L h' m → News h₀ L h' news' → Q y { s with heap := h' }) : wpAny (model prog w) A (call (.builtin "list.pop") [.ref D]) Q E s :=
  kl_pop F N (p := vs) (y := y) (by simpa using last_snoc y vs) U (by simpa using hz) h
theorem ne_snoc {ws : List Value} {S : List Int} {x : Int} {u : Tok} (N : News h₀ L s.heap news) (hD : (D, lst (ws ++ [.int x u]) n) ∈ news) (hl : (l, lst [] n') ∈ news) (hI : IntsAre ws S) (hu : A.units + 64 < cLine)
    (h : Q (.bool true) s) : wpAny (model prog w) A (compareOp .NotEq (.ref D) (.ref l)) Q E s :=
  ne_nil N hD hl (ints_dat (news := []) (ints_snoc hI)) (fun _ h => nomatch h) (resDat_ok _) hu (by rw [show (ws ++ [Value.int x u]).isEmpty = false by cases ws <;> rfl]; exact h)
theorem ne_non (N : News h₀ L s.heap news) (hD : (D, lst [] n) ∈ news) (hl : (l, lst [] n') ∈ news) (hu : A.units + 64 < cLine)
    (h : Q (.bool false) s) : wpAny (model prog w) A (compareOp .NotEq (.ref D) (.ref l)) Q E s :=
  ne_nil (n₁ := []) N hD hl .nil (fun _ h => nomatch h) (fun _ h => nomatch h) hu h
theorem len_two {tc : Nat} {t : Tok} (h : Q (.int 2 (s.toks + 1)) { s with toks := s.toks + 1 + 1 }) : wpAny (model prog w) A (call (.builtin "len") [.str (Str.mk #[92, tc]) t]) Q E s :=
  P.len_str (x := Str.mk #[92, tc]) (by show ¬ ((2 : Nat) : Int) ≥ 2 ^ 63; decide) h
theorem item_one {value slice : PySem.Expr} {tc : Nat} {t u : Tok} (h : Q (.str ⟨#[tc]⟩ s.toks) { s with toks := s.toks + 1 })
    (hs : subscripted slice false (.str (Str.mk #[92, tc]) t) (.int 1 u) = operate [.str (Str.mk #[92, tc]) t, .int 1 u] (getItem (.str (Str.mk #[92, tc]) t) (.int 1 u)) := by with_unfolding_all rfl) :
    wpAny (model prog w) A (subscriptTail value slice (.str (Str.mk #[92, tc]) t) (.int 1 u)) Q E s :=
  tail_any rfl F.slot_str_getitem.lookup (P.getItem_str (by decide) rfl h) hs
end
theorem in_no {tc : Nat} (hc : tc ≠ 92) {P : Prop} (h : ([Str.ofString "\\", Str.ofString "\\\\"].any fun x => x == Str.mk #[92, tc]) = true) : P := by
  have e1 : Str.ofString "\\" = Str.mk #[92] := by decide +kernel
  have e2 : Str.ofString "\\\\" = Str.mk #[92, 92] := by decide +kernel
  rw [e1, e2] at h
  simp only [List.any_cons, List.any_nil, Bool.or_false, Bool.or_eq_true, beq_iff_eq, Str.mk.injEq] at h
  exfalso
  rcases h with h | h
  · have := congrArg (fun a => a.size) h; simp at this
  · have := congrArg (fun a => a.toList) h; simp at this; omega
theorem two_step {t : Th} {S : List Int} (ho : t.odd = true) (hc : 48 ≤ t.c ∧ t.c < 58) (h89 : (t.c == 56 || t.c == 57) = false) (hnz : ¬(t.div = true ∧ lastI S = 0)) : stepR S t = .inl (S.dropLast.dropLast ++ [dee (t.c - 48) (lastI S.dropLast) (lastI S)]) := by
  have hl : t.lit = false := by simp [Th.lit, ho]; omega
  have hon : t.one = false := h89
  unfold stepR
  rw [if_neg (by simp [hl]), if_neg (by simp [hon]), if_neg hnz]
theorem small_all {ths : List Th} (hg : Good ths) {j : Nat} {S : List Int} {t : Th} {r : List Th} (hdr : ths.drop j = t :: r) (hst : stk ths j = S.map .i) : ∀ x ∈ S, Builtin.Int.intBits x ≤ 400 := by
  intro x hx
  have hlt : j < ths.length := by
    rcases Nat.lt_or_ge j ths.length with h | h
    · exact h
    · rw [List.drop_eq_nil_of_le h] at hdr; cases hdr
  exact stk_small hg j j (Nat.le_refl _) (Nat.le_of_lt hlt) (.i x) (by rw [hst]; exact List.mem_map_of_mem hx)
end Mine
end
-- Pop
theorem Mine.calmPop : True := by
  w_top off
  trivial
section
open PySem PySem.W PyProof.Rows
set_option maxRecDepth 100000
set_option maxHeartbeats 4000000
namespace Mine
section
variable {prog : Program} {w : World} {A : Around} {E : Value → Shared → Prop} {s : Shared} {h₀ : Heap} {d : Addr} {m : Str → Option Value}
/-- stack.pop() if stack != [] else 0 -/
theorem popz {env : Env} {L : Addr} {q1 q2 : Addr × Obj} {post : List (Addr × Obj)} {vs : List Value} {c : Nat} {S : List Int} {b : Int} {p1 p2 p3 p4 p5 p6 p7 p8 : Pos} {pl : Sem Bool} {Q : Value → Shared → Prop}
    (F : Fr h₀ L s.heap m) (N : News h₀ L s.heap (q1 :: q2 :: (d, lst vs c) :: post)) (hL : env.locals = L) (e0 : env.scope.kind = .function) (e1 : env.kindOf (Str.ofString "stack") = some .local) (hm : m (Str.ofString "stack") = some (.ref d))
    (n1 : q1.1 ≠ d) (n2 : q2.1 ≠ d) (n3 : ∀ p ∈ post, p.1 ≠ d) (hI : IntsAre vs S) (hz : vs.length ≤ sizeLine) (hb : lastI S = b) (hu : A.units + 64 < cLine)
    (he : eval (.Call (.Attribute (nm "stack" p4) (Str.ofString "pop") p5) [] [] p6) env = (do
      let ov ← eval (nm "stack" p4) env
      standAt p5.atName
      let (f, first) ← holding [ov] (getMethod ov (Str.ofString "pop") pl)
      callWith p6 f first (backTo p6 (starEach [] env)) []))
    (h : ∀ vs' c' t h' tk, Fr h₀ L h' m → News h₀ L h' (q1 :: q2 :: (d, lst vs' c') :: post) → IntsAre vs' S.dropLast → vs'.length ≤ sizeLine → Q (.int b t) { s with heap := h', toks := tk }) :
    wpAny (model prog w) A (eval (.IfExp (.Compare (nm "stack" p1) [.NotEq] [.List [] p2] p3) (.Call (.Attribute (nm "stack" p4) (Str.ofString "pop") p5) [] [] p6) (.Constant (.int 0) 0 p7) p8) env) Q E s := by
  subst hL
  refine IfExp_ (wpAny_isTrue_Compare1 ?_)
  refine wpAny_Name (wpAny_loadName_local e0 e1 F.ns hm ?_) (by decide +kernel)
  refine List_ (args_nil ?_)
  refine newList_K F N (fun l h1 F1 N1 l1 => ?_) (Nat.zero_le _)
  refine ne_nil N1 (.tail _ (.tail _ (.tail _ (.head _)))) (.head _) (ints_dat (news := []) hI) (fun _ h => nomatch h) (resDat_ok _) hu ?_
  refine wpAny_truthy_bool ?_
  have hl : l ≠ d := Ne.symm (Nat.ne_of_lt (l1 _ (.tail _ (.tail _ (.head _)))))
  rcases ints_cases hI with ⟨rfl, rfl⟩ | ⟨vs', S', x, t, rfl, rfl, hI'⟩
  · refine (if_neg (by simp)).mpr ?_
    refine wpAny_Constant_int ?_
    rw [show (0 : Int) = b from hb]
    exact h [] c _ h1 _ F1 (fun p hp => N1 p (.tail _ hp)) .nil (Nat.zero_le _)
  · refine (if_pos (by cases vs' <;> rfl)).mpr ?_
    refine MethodCall_ (he := he) ?_
    refine wpAny_Name (wpAny_loadName_local e0 e1 F1.ns hm ?_) (by decide +kernel)
    refine kl_method N1 (.tail _ (.tail _ (.tail _ (.head _)))) PySem.F.slot_list_pop PySem.F.type_list_pop ?_
    refine callWith_method0 ?_
    refine pop_snoc F1 N1 (.tail hl (.tail n1 (.tail n2 (.head n3)))) (by simpa using hz) fun h2 F2 N2 => ?_
    rw [lastI_snoc] at hb
    rw [hb]
    refine h vs' (c + 1) _ h2 _ F2 (fun p hp => N2 p (.tail _ hp)) (by rw [List.dropLast_concat]; exact hI') (by rw [List.length_append] at hz; exact Nat.le_trans (Nat.le_add_right _ _) hz)
end
theorem last_small {S : List Int} (h : ∀ x ∈ S, Builtin.Int.intBits x ≤ 400) : Builtin.Int.intBits (lastI S) ≤ 400 := by
  rcases snoc_cases S with rfl | ⟨d, x, rfl⟩
  · decide
  · rw [lastI_snoc]; exact h x (List.mem_append_right _ (.head _))
theorem drop_small {S : List Int} (h : ∀ x ∈ S, Builtin.Int.intBits x ≤ 400) : ∀ x ∈ S.dropLast, Builtin.Int.intBits x ≤ 400 := fun x hx => h x (List.dropLast_subset _ hx)
end Mine
end
-- TurnTT
theorem Mine.calmTurnTT : True := by
  w_top off
  trivial
section
open PySem PySem.W PyProof.Rows
set_option maxRecDepth 100000
set_option maxHeartbeats 4000000
namespace Mine
local macro_rules | `(tactic| walk_at "newList") => `(tactic| (k_here; k_dflt (refine' newList_K ?k1 ?k2 ?_ ?z; (case k1 => k_asm); (case k2 => k_asm); (case z => exact Nat.le_of_ble_eq_true rfl); k_whole); intro l' h' F' N' l1; (try k_lt l1); (try k_sweep)))
local macro_rules | `(tactic| walk_at "getMethod ref") => `(tactic| (k_here; (with_reducible show wpAny _ _ (getMethod (Value.ref _) (PySem.Str.ofString "append") _) _ _ _); k_dflt (refine' listMethod_K ?N ?m PySem.F.slot_list_append PySem.F.type_list_append ?_; (case N => k_asm); (case m => k_mem))))
local macro_rules | `(tactic| walk_at "call builtin:list.append") => `(tactic| (k_here; k_dflt (refine' append_K ?k1 ?k2 ?k3 ?_ ?z; (case k1 => k_asm); (case k2 => k_asm); (case k3 => (refine' .tail ?a1 (.tail ?a2 (.head ?a3)); (case a1 => k_ne); (case a2 => k_ne); (case a3 => with_reducible assumption))); (case z => (rw [List.size_toArray]; with_reducible assumption)); k_whole); intro h' F' N'; (try k_sweep)))
local macro_rules | `(tactic| walk_at "call type:int") => `(tactic| (k_here; (with_reducible refine' int_fig ?k1 ?_; (case k1 => assumption); k_whole)))
local macro_rules | `(tactic| walk_at "eval IfExp") => `(tactic| (k_here; (with_unfolding_all refine' popz ?F ?N ?h1 ?h2 ?h3 ?h4 ?n1 ?n2 ?n3 ?I ?z ?b ?u ?he ?_); (case F => k_asm); (case N => k_asm); (case h1 => with_unfolding_all rfl); (case h2 => with_unfolding_all rfl); (case h3 => with_unfolding_all rfl); (case h4 => with_unfolding_all rfl); (case n1 => k_ne); (case n2 => k_ne); (case n3 => with_reducible assumption); (case I => assumption); (case z => assumption); (case b => assumption); (case u => ktr_units); (case he => with_unfolding_all rfl); intro vs' c' t' h' tk' F' N' hI' hz'; (try k_sweep)))
local macro_rules | `(tactic| walk_at "compareOp In str str") => `(tactic| (k_here; (with_reducible refine' in_89 ?k1 ?_; (case k1 => assumption); k_whole)))
local macro_rules | `(tactic| walk_at "subscriptTail Name Constant str int") => `(tactic| (k_here; (with_reducible show wpAny _ _ (subscriptTail _ _ (Value.str _ _) (Value.int _ _)) _ _ _); (with_unfolding_all refine' item_one ?_ ?k6; (case k6 => with_unfolding_all rfl); k_whole)))
local macro_rules | `(tactic| walk_at "call builtin:len") => `(tactic| (k_here; (with_reducible refine' len_two ?_; k_whole)))
local macro_rules | `(tactic| walk_at "subscriptTail") => `(tactic| (k_here; (with_reducible show wpAny _ _ (subscriptTail _ _ (Value.ref _) (Value.int _ _)) _ _ _); (refine stop ?_)))
theorem cps {M : Model} {A : Around} {α : Type} {t : Sem α} {Q : α → Shared → Prop} {E : Value → Shared → Prop} {s : Shared} (h : ∀ R : α → Shared → Prop, (∀ a s', Q a s' → R a s') → wpAny M A t R E s) : wpAny M A t Q E s := h Q fun _ _ x => x
theorem turn_two (w : World) (mean : ExcName → Option Value) (mg mb : Str → Option Value) {dp un : Nat} {gd : Option (List Code)} {cn : Str} {cs : Scope} {L a : Addr} {ccd : Value} {cl : List (Str × Addr)} {outer : List Env} {base g : Heap} {L' : Addr}
    (B : Below (ktrTop dp un gd cn cs L a ccd cl outer) base (envX cn cs L a ccd cl :: outer) g) (X : (hd.heap_39 w.params).In g) (T : Top hd.view_39 (looseW hd.view_39 []) mean mg mb g) (hdp : dp + 100 < recursionLimit) (hu : un + 800 < cLine)
    {oc : Value} {od : Option Addr} {name qual : Str} {params : Arguments} {s1 s3 : Stmt} {elts : List PySem.Expr} {k1 : Nat} {tpos : Pos} {iter : PySem.Expr} {lbody : List Stmt} {fpos : Pos} {scope : Scope} {dV kV doc pm cdv ct : Value} {an : Option Addr} {osl : Array (Option Value)}
    (hfn : (hd.heap_39 w.params).lookup 98 = some ⟨oc, od, .func (fnOf name qual params [s1, .For (.Tuple elts k1 tpos) iter lbody [] fpos, s3] scope dV kV doc pm an cdv ct), osl⟩)
    {ths : List Th} (hg : Good ths) {d tw on : Addr} {R : Result → Shared → Prop} {j : Nat} {S : List Int} {t : Th} {r : List Th} (hdr : ths.drop j = t :: r) (hst : stk ths j = S.map .i) (hrun : runF ths [] = runF (ths.drop j) S)
    {gm : Str → Option Value} {vs : List Value} (hI : IntsAre vs S) {c : Nat} {ta : Addr} {t1 t2 : Tok} {rest : List (Addr × Obj)} {s : Shared} {E : Value → Shared → Prop}
    (F : Fr g L' s.heap (fun y => if y = Str.ofString "stack" then some (.ref d) else if y = Str.ofString "ones" then some (.ref on) else if y = Str.ofString "twos" then some (.ref tw) else gm y))
    (N : News g L' s.heap ((ta, tup [.int ((thItem t).1 : Int) t1, .str (thItem t).2 t2] 0) :: (d, lst vs c) :: (on, lst [.ref 70, .ref 49] 0) :: (tw, lst [.ref 28, .ref 84, .ref 63, .ref 42, .ref 56, .ref 35, .ref 77, .ref 91] 0) :: rest))
    (hda : @LT.lt Nat _ d ta) (hne : ∀ p ∈ (on, lst [.ref 70, .ref 49] 0) :: (tw, lst [.ref 28, .ref 84, .ref 63, .ref 42, .ref 56, .ref 35, .ref 77, .ref 91] 0) :: rest, p.1 ≠ d) (ho : t.odd = true) (hc : 48 ≤ t.c ∧ t.c < 58) (h89 : (t.c == 56 || t.c == 57) = false) (hnz : ¬(t.div = true ∧ lastI S = 0)) : wpAny (model PySem.Challenge.rw_nb0036_01.row.prog w) ((ktrTop dp un gd cn cs L a ccd cl outer).deeper (envOf qual scope L' 98 cdv)) (assign (.Tuple elts k1 tpos) (envOf qual scope L' 98 cdv) (.ref ta)) (fun _ s₂ => wpAny (model PySem.Challenge.rw_nb0036_01.row.prog w) ((ktrTop dp un gd cn cs L a ccd cl outer).deeper (envOf qual scope L' 98 cdv)) (execs lbody (envOf qual scope L' 98 cdv)) (PostG g L' d ((on, lst [.ref 70, .ref 49] 0) :: (tw, lst [.ref 28, .ref 84, .ref 63, .ref 42, .ref 56, .ref 35, .ref 77, .ref 91] 0) :: rest) (RunJ ths d tw on (r.map thItem)) s R) E s₂) E s := by
  have hst' := two_step ho hc h89 hnz
  have hsm := small_all hg hdr hst
  have hz9 : vs.length ≤ sizeLine := by rw [sizeLine_eq]; exact Nat.le_trans (run_room hg hdr hst hI) (by decide)
  have hb1 := last_small hsm
  have hb2 := last_small (drop_small hsm)
  obtain ⟨b1, hl1⟩ : ∃ b1, lastI S = b1 := ⟨_, rfl⟩
  obtain ⟨b2, hl2⟩ : ∃ b2, lastI S.dropLast = b2 := ⟨_, rfl⟩
  rw [hl1] at hnz hb1 hst'
  rw [hl2] at hb2 hst'
  revert hfn; k_fill; intro hfn
  refine' fn_elim hfn ?k ?_
  (case k => k_is)
  intro h3
  cases h3
  clear hfn
  obtain ⟨tk', tc, to⟩ := t
  have hto : to = true := ho
  subst hto
  change 48 ≤ tc ∧ tc < 58 at hc
  have hc92 : tc ≠ 92 := by omega
  change (tc == 56 || tc == 57) = false at h89
  have hc8 : tc = 48 ∨ tc = 49 ∨ tc = 50 ∨ tc = 51 ∨ tc = 52 ∨ tc = 53 ∨ tc = 54 ∨ tc = 55 := by simp at h89; omega
  have hx2 : ([.ref 28, .ref 84, .ref 63, .ref 42, .ref 56, .ref 35, .ref 77, .ref 91] : List Value)[((tc : Int) - 48).toNat]? = some (.ref (twoA (tc - 48))) := by
    rcases hc8 with h | h | h | h | h | h | h | h <;> rw [h] <;> rfl
  have hkf : keepIn (hd.heap_39 w.params) (.ref (twoA (tc - 48))) = true := by
    rcases hc8 with h | h | h | h | h | h | h | h <;> rw [h]
    · show keepIn _ (.ref 28) = true
      k_is
    · show keepIn _ (.ref 84) = true
      k_is
    · show keepIn _ (.ref 63) = true
      k_is
    · show keepIn _ (.ref 42) = true
      k_is
    · show keepIn _ (.ref 56) = true
      k_is
    · show keepIn _ (.ref 35) = true
      k_is
    · show keepIn _ (.ref 77) = true
      k_is
    · show keepIn _ (.ref 91) = true
      k_is
  change News g L' s.heap ((ta, tup [.int (tk' : Int) t1, .str (Str.mk #[92, tc]) t2] 0) :: _) at N
  refine unpackN_ F N (News.isTup N (List.Mem.head _)) rfl rfl rfl ?_
  intro h1' F1 N1
  clear F N
  refine cps fun RA hRA => ?_
  k_steps
  refine hRA _ _ ?_
  clear hRA RA
  refine cps fun RR hRR => ?_
  k_steps
  · exact in_no hc92 (by assumption)
  unfold Stop
  refine' item_news ?k1 ?k2 ?k3 ?k4 hx2 ?_ ?k6
  case k1 => k_asm
  case k2 => exact .tail _ (.tail _ (.tail _ (.tail _ (.head _))))
  case k3 => omega
  case k4 => omega
  case k6 => with_unfolding_all rfl
  refine callWith_K X hkf ?_
  k_with "call ref" =>
      (with_unfolding_all
       refine' op_all w mean mg mb (tc - 48) ?lt _ _ _ _ _ _ _ _ _ _ _ _ _ _ _ _ _ _ _ _ _ _ ?B ?F ?X ?N ?T ?K ?d ?u ?mu ?pl ?nz ?_
       (case lt => omega)
       (case B => k_asm)
       (case F => k_asm)
       (case X => k_asm)
       (case N => k_asm)
       (case T => k_asm)
       (case K => exact rfl)
       (case d => ktr_room)
       (case u => ktr_units)
       (case mu => exact (bits_ok hb2 hb1).1)
       (case pl => exact (bits_ok hb2 hb1).2)
       (case nz => exact fun h9 hb0 => hnz ⟨by simp [Th.div]; omega, hb0⟩))
  k_steps
  k_with_none
  all_goals (refine hRR _ _ ?_; exact turn_end hdr hst hrun (by assumption) (by assumption) (.tail _ (.tail _ (.head _))) (fun p hp => .tail _ (.tail _ (.tail _ hp))) (by assumption) hst' rfl rfl rfl)
-- TurnTI
theorem calmTurnTI : True := by
  w_top off
  trivial
theorem one_step {t : Th} {S : List Int} (ho : t.odd = true) (hc : 48 ≤ t.c ∧ t.c < 58) (h89 : (t.c == 56 || t.c == 57) = true) : stepR S t = .inl (S.dropLast ++ [dee (t.c - 48) 0 (lastI S)]) := by
  have hl : t.lit = false := by simp [Th.lit, ho]; omega
  have hon : t.one = true := h89
  unfold stepR
  rw [if_neg (by simp [hl]), if_pos hon]
theorem turn_one (w : World) (mean : ExcName → Option Value) (mg mb : Str → Option Value) {dp un : Nat} {gd : Option (List Code)} {cn : Str} {cs : Scope} {L a : Addr} {ccd : Value} {cl : List (Str × Addr)} {outer : List Env} {base g : Heap} {L' : Addr}
    (B : Below (ktrTop dp un gd cn cs L a ccd cl outer) base (envX cn cs L a ccd cl :: outer) g) (X : (hd.heap_39 w.params).In g) (T : Top hd.view_39 (looseW hd.view_39 []) mean mg mb g) (hdp : dp + 100 < recursionLimit) (hu : un + 800 < cLine)
    {oc : Value} {od : Option Addr} {name qual : Str} {params : Arguments} {s1 s3 : Stmt} {elts : List PySem.Expr} {k1 : Nat} {tpos : Pos} {iter : PySem.Expr} {lbody : List Stmt} {fpos : Pos} {scope : Scope} {dV kV doc pm cdv ct : Value} {an : Option Addr} {osl : Array (Option Value)}
    (hfn : (hd.heap_39 w.params).lookup 98 = some ⟨oc, od, .func (fnOf name qual params [s1, .For (.Tuple elts k1 tpos) iter lbody [] fpos, s3] scope dV kV doc pm an cdv ct), osl⟩)
    {ths : List Th} (hg : Good ths) {d tw on : Addr} {R : Result → Shared → Prop} {j : Nat} {S : List Int} {t : Th} {r : List Th} (hdr : ths.drop j = t :: r) (hst : stk ths j = S.map .i) (hrun : runF ths [] = runF (ths.drop j) S)
    {gm : Str → Option Value} {vs : List Value} (hI : IntsAre vs S) {c : Nat} {ta : Addr} {t1 t2 : Tok} {rest : List (Addr × Obj)} {s : Shared} {E : Value → Shared → Prop}
    (F : Fr g L' s.heap (fun y => if y = Str.ofString "stack" then some (.ref d) else if y = Str.ofString "ones" then some (.ref on) else if y = Str.ofString "twos" then some (.ref tw) else gm y))
    (N : News g L' s.heap ((ta, tup [.int ((thItem t).1 : Int) t1, .str (thItem t).2 t2] 0) :: (d, lst vs c) :: (on, lst [.ref 70, .ref 49] 0) :: (tw, lst [.ref 28, .ref 84, .ref 63, .ref 42, .ref 56, .ref 35, .ref 77, .ref 91] 0) :: rest))
    (hda : @LT.lt Nat _ d ta) (hne : ∀ p ∈ (on, lst [.ref 70, .ref 49] 0) :: (tw, lst [.ref 28, .ref 84, .ref 63, .ref 42, .ref 56, .ref 35, .ref 77, .ref 91] 0) :: rest, p.1 ≠ d) (ho : t.odd = true) (hc : 48 ≤ t.c ∧ t.c < 58) (h89 : (t.c == 56 || t.c == 57) = true) : wpAny (model PySem.Challenge.rw_nb0036_01.row.prog w) ((ktrTop dp un gd cn cs L a ccd cl outer).deeper (envOf qual scope L' 98 cdv)) (assign (.Tuple elts k1 tpos) (envOf qual scope L' 98 cdv) (.ref ta)) (fun _ s₂ => wpAny (model PySem.Challenge.rw_nb0036_01.row.prog w) ((ktrTop dp un gd cn cs L a ccd cl outer).deeper (envOf qual scope L' 98 cdv)) (execs lbody (envOf qual scope L' 98 cdv)) (PostG g L' d ((on, lst [.ref 70, .ref 49] 0) :: (tw, lst [.ref 28, .ref 84, .ref 63, .ref 42, .ref 56, .ref 35, .ref 77, .ref 91] 0) :: rest) (RunJ ths d tw on (r.map thItem)) s R) E s₂) E s := by
  have hst' := one_step (S := S) ho hc h89
  have hz9 : vs.length ≤ sizeLine := by rw [sizeLine_eq]; exact Nat.le_trans (run_room hg hdr hst hI) (by decide)
  obtain ⟨b1, hl1⟩ : ∃ b1, lastI S = b1 := ⟨_, rfl⟩
  rw [hl1] at hst'
  revert hfn; k_fill; intro hfn
  refine' fn_elim hfn ?k ?_
  (case k => k_is)
  intro h3
  cases h3
  clear hfn
  obtain ⟨tk', tc, to⟩ := t
  have hto : to = true := ho
  subst hto
  change 48 ≤ tc ∧ tc < 58 at hc
  have hc92 : tc ≠ 92 := by omega
  change (tc == 56 || tc == 57) = true at h89
  have hc8 : tc = 56 ∨ tc = 57 := by simpa using h89
  have hc9 : 56 ≤ tc ∧ tc ≤ 57 := by omega
  have hx2 : ([.ref 70, .ref 49] : List Value)[((tc : Int) - 48 - 8).toNat]? = some (.ref (oneA (tc - 48))) := by
    rcases hc8 with h | h <;> rw [h] <;> rfl
  have hkf : keepIn (hd.heap_39 w.params) (.ref (oneA (tc - 48))) = true := by
    rcases hc8 with h | h <;> rw [h]
    · show keepIn _ (.ref 70) = true
      k_is
    · show keepIn _ (.ref 49) = true
      k_is
  change News g L' s.heap ((ta, tup [.int (tk' : Int) t1, .str (Str.mk #[92, tc]) t2] 0) :: _) at N
  refine unpackN_ F N (News.isTup N (List.Mem.head _)) rfl rfl rfl ?_
  intro h1' F1 N1
  clear F N
  refine cps fun RA hRA => ?_
  k_steps
  refine hRA _ _ ?_
  clear hRA RA
  refine cps fun RR hRR => ?_
  k_steps
  · exact in_no hc92 (by assumption)
  unfold Stop
  refine' item_news ?k1 ?k2 ?k3 ?k4 hx2 ?_ ?k6
  case k1 => k_asm
  case k2 => exact .tail _ (.tail _ (.tail _ (.head _)))
  case k3 => omega
  case k4 => omega
  case k6 => with_unfolding_all rfl
  refine callWith_K X hkf ?_
  k_with "call ref" =>
      (with_unfolding_all
       refine' one_all w mean mg mb (tc - 48) ?lt _ _ _ _ _ _ _ _ _ _ _ _ _ _ _ _ _ _ _ _ ?B ?F ?X ?N ?T ?K ?d ?u ?_
       (case lt => omega)
       (case B => k_asm)
       (case F => k_asm)
       (case X => k_asm)
       (case N => k_asm)
       (case T => k_asm)
       (case K => exact rfl)
       (case d => ktr_room)
       (case u => ktr_units))
  k_steps
  k_with_none
  all_goals (refine hRR _ _ ?_; exact turn_end hdr hst hrun (by assumption) (by assumption) (.tail _ (.tail _ (.head _))) (fun p hp => .tail _ (.tail _ (.tail _ hp))) (by assumption) hst' rfl rfl rfl)
-- TurnTL
theorem calmTurnTL : True := by
  w_top off
  trivial
theorem turn_lit (w : World) (mean : ExcName → Option Value) (mg mb : Str → Option Value) {dp un : Nat} {gd : Option (List Code)} {cn : Str} {cs : Scope} {L a : Addr} {ccd : Value} {cl : List (Str × Addr)} {outer : List Env} {base g : Heap} {L' : Addr}
    (B : Below (ktrTop dp un gd cn cs L a ccd cl outer) base (envX cn cs L a ccd cl :: outer) g) (X : (hd.heap_39 w.params).In g) (T : Top hd.view_39 (looseW hd.view_39 []) mean mg mb g) (hdp : dp + 100 < recursionLimit) (hu : un + 800 < cLine)
    {oc : Value} {od : Option Addr} {name qual : Str} {params : Arguments} {s1 s3 : Stmt} {elts : List PySem.Expr} {k1 : Nat} {tpos : Pos} {iter : PySem.Expr} {lbody : List Stmt} {fpos : Pos} {scope : Scope} {dV kV doc pm cdv ct : Value} {an : Option Addr} {osl : Array (Option Value)}
    (hfn : (hd.heap_39 w.params).lookup 98 = some ⟨oc, od, .func (fnOf name qual params [s1, .For (.Tuple elts k1 tpos) iter lbody [] fpos, s3] scope dV kV doc pm an cdv ct), osl⟩)
    {ths : List Th} (hg : Good ths) {d tw on : Addr} {R : Result → Shared → Prop} {j : Nat} {S : List Int} {t : Th} {r : List Th} (hdr : ths.drop j = t :: r) (hst : stk ths j = S.map .i) (hrun : runF ths [] = runF (ths.drop j) S)
    {gm : Str → Option Value} {vs : List Value} (hI : IntsAre vs S) {c : Nat} {ta : Addr} {t1 t2 : Tok} {rest : List (Addr × Obj)} {s : Shared} {E : Value → Shared → Prop}
    (F : Fr g L' s.heap (fun y => if y = Str.ofString "stack" then some (.ref d) else if y = Str.ofString "ones" then some (.ref on) else if y = Str.ofString "twos" then some (.ref tw) else gm y))
    (N : News g L' s.heap ((ta, tup [.int ((thItem t).1 : Int) t1, .str (thItem t).2 t2] 0) :: (d, lst vs c) :: (on, lst [.ref 70, .ref 49] 0) :: (tw, lst [.ref 28, .ref 84, .ref 63, .ref 42, .ref 56, .ref 35, .ref 77, .ref 91] 0) :: rest))
    (hda : @LT.lt Nat _ d ta) (hne : ∀ p ∈ (on, lst [.ref 70, .ref 49] 0) :: (tw, lst [.ref 28, .ref 84, .ref 63, .ref 42, .ref 56, .ref 35, .ref 77, .ref 91] 0) :: rest, p.1 ≠ d) (hlit : t.lit = true) : wpAny (model PySem.Challenge.rw_nb0036_01.row.prog w) ((ktrTop dp un gd cn cs L a ccd cl outer).deeper (envOf qual scope L' 98 cdv)) (assign (.Tuple elts k1 tpos) (envOf qual scope L' 98 cdv) (.ref ta)) (fun _ s₂ => wpAny (model PySem.Challenge.rw_nb0036_01.row.prog w) ((ktrTop dp un gd cn cs L a ccd cl outer).deeper (envOf qual scope L' 98 cdv)) (execs lbody (envOf qual scope L' 98 cdv)) (PostG g L' d ((on, lst [.ref 70, .ref 49] 0) :: (tw, lst [.ref 28, .ref 84, .ref 63, .ref 42, .ref 56, .ref 35, .ref 77, .ref 91] 0) :: rest) (RunJ ths d tw on (r.map thItem)) s R) E s₂) E s := by
  have hz : vs.length ≤ sizeLine := by
    have := run_room hg hdr hst hI
    rw [sizeLine_eq]; omega
  revert hfn; k_fill; intro hfn
  refine' fn_elim hfn ?k ?_
  (case k => k_is)
  intro h3
  cases h3
  clear hfn
  have htg := hg.2 t (List.mem_of_mem_drop (hdr ▸ List.mem_cons_self ..))
  have hstep : stepR S t = .inl (S ++ [t.litV]) := by unfold stepR; rw [if_pos hlit]
  obtain ⟨tk', tc, to⟩ := t
  cases to with
  | true =>
    change News g L' s.heap ((ta, tup [.int (tk' : Int) t1, .str (Str.mk #[92, tc]) t2] 0) :: _) at N
    have hc : tc = 92 := by simpa [Th.lit] using hlit
    subst hc
    refine unpackN_ F N (News.isTup N (List.Mem.head _)) rfl rfl rfl ?_
    intro h1' F1 N1
    clear F N
    refine cps fun RA hRA => ?_
    k_steps
    refine hRA _ _ ?_
    clear hRA RA
    refine cps fun RR hRR => ?_
    k_steps
    refine hRR _ _ ?_
    exact turn_end hdr hst hrun (by assumption) (by assumption) (.tail _ (.tail _ (.head _))) (fun p hp => .tail _ (.tail _ (.tail _ hp))) hI hstep rfl rfl rfl
  | false =>
    change News g L' s.heap ((ta, tup [.int (tk' : Int) t1, .str (Str.mk #[tc]) t2] 0) :: _) at N
    refine unpackN_ F N (News.isTup N (List.Mem.head _)) rfl rfl rfl ?_
    intro h1' F1 N1
    clear F N
    refine cps fun RA hRA => ?_
    k_steps
    refine hRA _ _ ?_
    clear hRA RA
    refine cps fun RR hRR => ?_
    by_cases hc : tc = 92
    · subst hc
      k_steps
      refine hRR _ _ ?_
      exact turn_end hdr hst hrun (by assumption) (by assumption) (.tail _ (.tail _ (.head _))) (fun p hp => .tail _ (.tail _ (.tail _ hp))) hI hstep rfl rfl rfl
    · have hc2 : 48 ≤ tc ∧ tc < 58 := htg.2.resolve_left hc
      have hno : ∀ {P : Prop}, ([Str.ofString "\\", Str.ofString "\\\\"].any fun x => x == Str.mk #[tc]) = true → P := by
        intro P h
        have e1 : Str.ofString "\\" = Str.mk #[92] := by decide +kernel
        have e2 : Str.ofString "\\\\" = Str.mk #[92, 92] := by decide +kernel
        rw [e1, e2] at h
        simp only [List.any_cons, List.any_nil, Bool.or_false, Bool.or_eq_true, beq_iff_eq, Str.mk.injEq] at h
        exfalso
        rcases h with h | h
        · have := congrArg (fun a => a.toList) h; simp at this; omega
        · have := congrArg (fun a => a.size) h; simp at this
      have hstep' : stepR S ⟨tk', tc, false⟩ = .inl (S ++ [(tc : Int) - 48]) := by rw [hstep]; simp [Th.litV, hc]
      k_steps
      all_goals first
        | exact hno (by assumption)
        | (refine hRR _ _ ?_; exact turn_end hdr hst hrun (by assumption) (by assumption) (.tail _ (.tail _ (.head _))) (fun p hp => .tail _ (.tail _ (.tail _ hp))) hI hstep' rfl rfl rfl)
-- TurnTD
theorem calmTurnTD : True := by
  w_top off
  trivial
local macro_rules | `(tactic| walk_at "leaving ref") => `(tactic| (k_here; refine' leave_newS ?k1 ?k0 ?k2 ?k3 ?_; (case k0 => assumption); (case k1 => assumption); (case k2 => assumption); (case k3 => k_asm); k_whole; intro h' RS' R' U'; (try dsimp only at RS' R' U' ⊢)))
local macro_rules | `(tactic| walk_at "noteFrame ref") => `(tactic| refine stop ?_)
theorem div_step {t : Th} {S : List Int} (ho : t.odd = true) (hdv : t.div = true) (hb0 : lastI S = 0) : stepR S t = .inr t.k := by
  have hl : t.lit = false := by simp [Th.lit, ho]; simp [Th.div] at hdv; omega
  have hon : t.one = false := by simp [Th.one]; simp [Th.div] at hdv; omega
  unfold stepR
  rw [if_neg (by simp [hl]), if_neg (by simp [hon]), if_pos ⟨hdv, hb0⟩]
theorem turn_div (w : World) (mean : ExcName → Option Value) (mg mb : Str → Option Value) {dp un : Nat} {gd : Option (List Code)} {cn : Str} {cs : Scope} {L a : Addr} {ccd : Value} {cl : List (Str × Addr)} {outer : List Env} {base g : Heap} {L' : Addr}
    (B : Below (ktrTop dp un gd cn cs L a ccd cl outer) base (envX cn cs L a ccd cl :: outer) g) (X : (hd.heap_39 w.params).In g) (T : Top hd.view_39 (looseW hd.view_39 []) mean mg mb g) (hdp : dp + 100 < recursionLimit) (hu : un + 800 < cLine)
    {oc : Value} {od : Option Addr} {name qual : Str} {params : Arguments} {s1 s3 : Stmt} {elts : List PySem.Expr} {k1 : Nat} {tpos : Pos} {iter : PySem.Expr} {lbody : List Stmt} {fpos : Pos} {scope : Scope} {dV kV doc pm cdv ct : Value} {an : Option Addr} {osl : Array (Option Value)}
    (hfn : (hd.heap_39 w.params).lookup 98 = some ⟨oc, od, .func (fnOf name qual params [s1, .For (.Tuple elts k1 tpos) iter lbody [] fpos, s3] scope dV kV doc pm an cdv ct), osl⟩)
    {ths : List Th} (hg : Good ths) {d tw on : Addr} {R : Result → Shared → Prop} {j : Nat} {S : List Int} {t : Th} {r : List Th} (hdr : ths.drop j = t :: r) (hst : stk ths j = S.map .i) (hrun : runF ths [] = runF (ths.drop j) S)
    {gm : Str → Option Value} {vs : List Value} (hI : IntsAre vs S) {c : Nat} {ta : Addr} {t1 t2 : Tok} {rest : List (Addr × Obj)} {s : Shared} {E : Value → Shared → Prop}
    (F : Fr g L' s.heap (fun y => if y = Str.ofString "stack" then some (.ref d) else if y = Str.ofString "ones" then some (.ref on) else if y = Str.ofString "twos" then some (.ref tw) else gm y))
    (N : News g L' s.heap ((ta, tup [.int ((thItem t).1 : Int) t1, .str (thItem t).2 t2] 0) :: (d, lst vs c) :: (on, lst [.ref 70, .ref 49] 0) :: (tw, lst [.ref 28, .ref 84, .ref 63, .ref 42, .ref 56, .ref 35, .ref 77, .ref 91] 0) :: rest))
    (hda : @LT.lt Nat _ d ta) (hne : ∀ p ∈ (on, lst [.ref 70, .ref 49] 0) :: (tw, lst [.ref 28, .ref 84, .ref 63, .ref 42, .ref 56, .ref 35, .ref 77, .ref 91] 0) :: rest, p.1 ≠ d) (ho : t.odd = true) (hdv : t.div = true) (hb0 : lastI S = 0) (XB : (hd.heap_39 w.params).In base) (TB : Top hd.view_39 (looseW hd.view_39 []) mean mg mb base) (hD : KtsDicts ((envX cn cs L a ccd cl :: outer).filterMap (·.frame)) g) (hE : ∀ e, PassesOwnAt (model PySem.Challenge.rw_nb0036_01.row.prog w) (((ktrTop dp un gd cn cs L a ccd cl outer).deeper (envOf qual scope L' 98 cdv)).mark (some (.ref e))) ((ktrTop dp un gd cn cs L a ccd cl outer).deeper (envOf qual scope L' 98 cdv)) (envOf qual scope L' 98 cdv) E)
    (hret2 : ∀ rr vs c S' m' g', KtsTurn ((envX cn cs L a ccd cl :: outer).filterMap (·.frame)) g g' → Fr g' L' (S' : Shared).heap m' → News g' L' S'.heap ((rr, lst vs c) :: rest) → DatAll [] vs (resDat (runF ths [])) → S'.os = s.os → S'.gens = s.gens → R (.ok (.ret (.ref rr))) S') : wpAny (model PySem.Challenge.rw_nb0036_01.row.prog w) ((ktrTop dp un gd cn cs L a ccd cl outer).deeper (envOf qual scope L' 98 cdv)) (assign (.Tuple elts k1 tpos) (envOf qual scope L' 98 cdv) (.ref ta)) (fun _ s₂ => wpAny (model PySem.Challenge.rw_nb0036_01.row.prog w) ((ktrTop dp un gd cn cs L a ccd cl outer).deeper (envOf qual scope L' 98 cdv)) (execs lbody (envOf qual scope L' 98 cdv)) (PostG g L' d ((on, lst [.ref 70, .ref 49] 0) :: (tw, lst [.ref 28, .ref 84, .ref 63, .ref 42, .ref 56, .ref 35, .ref 77, .ref 91] 0) :: rest) (RunJ ths d tw on (r.map thItem)) s R) E s₂) E s := by
  have hst' := div_step ho hdv hb0
  have hres : runF ths [] = .inr t.k := by rw [hrun, hdr]; simp only [runF, hst']
  have hz9 : vs.length ≤ sizeLine := by rw [sizeLine_eq]; exact Nat.le_trans (run_room hg hdr hst hI) (by decide)
  obtain ⟨b2, hl2⟩ : ∃ b2, lastI S.dropLast = b2 := ⟨_, rfl⟩
  revert hfn; k_fill; intro hfn
  refine' fn_elim hfn ?k ?_
  (case k => k_is)
  intro h3
  cases h3
  clear hfn
  obtain ⟨tk', tc, to⟩ := t
  have hto : to = true := ho
  subst hto
  have hc : 48 ≤ tc ∧ tc < 58 := by simp [Th.div] at hdv; omega
  have hc92 : tc ≠ 92 := by omega
  have h89 : (tc == 56 || tc == 57) = false := by simp [Th.div] at hdv ⊢; omega
  have hc8 : tc = 51 ∨ tc = 52 := by simpa [Th.div] using hdv
  have hx2 : ([.ref 28, .ref 84, .ref 63, .ref 42, .ref 56, .ref 35, .ref 77, .ref 91] : List Value)[((tc : Int) - 48).toNat]? = some (.ref (twoA (tc - 48))) := by
    rcases hc8 with h | h <;> rw [h] <;> rfl
  have hkf : keepIn (hd.heap_39 w.params) (.ref (twoA (tc - 48))) = true := by
    rcases hc8 with h | h <;> rw [h]
    · show keepIn _ (.ref 42) = true
      k_is
    · show keepIn _ (.ref 56) = true
      k_is
  change News g L' s.heap ((ta, tup [.int (tk' : Int) t1, .str (Str.mk #[92, tc]) t2] 0) :: _) at N
  refine unpackN_ F N (News.isTup N (List.Mem.head _)) rfl rfl rfl ?_
  intro h1' F1 N1
  clear F N
  refine cps fun RA hRA => ?_
  k_steps
  refine hRA _ _ ?_
  clear hRA RA
  refine cps fun RR hRR => ?_
  k_steps
  · exact in_no hc92 (by assumption)
  unfold Stop
  refine' item_news ?k1 ?k2 ?k3 ?k4 hx2 ?_ ?k6
  case k1 => k_asm
  case k2 => exact .tail _ (.tail _ (.tail _ (.tail _ (.head _))))
  case k3 => omega
  case k4 => omega
  case k6 => with_unfolding_all rfl
  refine callWith_K X hkf ?_
  k_with "call ref" => refine stop ?_
  k_steps
  k_with_none
  unfold Stop
  clear hx2 hkf
  rcases hc8 with rfl | rfl
  · show wpAny _ _ (call (.ref 42) _) _ _ _
    (refine wpAny_call ?_
     refine' code_def ?k1 ?k2 ?k3 ?k4 ?k5 ?kA ?kF ?kK ?k6 ?k7 ?k8 ?k9 ?kB ?_ ?c2 ?c3 ?c4 ?c5
     (case kA => exact rfl)
     (case kF => exact rfl)
     (case kK => exact rfl)
     (case k1 => k_asm)
     (case k2 => k_asm)
     (case k3 => k_asm)
     (case k4 => k_asm)
     (case k5 => k_asm)
     (case k6 => k_is)
     (case k7 => k_is)
     (case k8 => ktr_room)
     (case k9 => exact BindsTo.of_eq rfl)
     (case c5 => decide)
     (case kB => exact locs rfl)
     (case c2 => exact rfl)
     (case c3 => exact rfl)
     (case c4 => exact rfl)
     intro g' L9 h' FG' F' N' B' X' T'
     dsimp only)
    k_steps
    · unfold Stop
      refine' caught_SN0 (T' := "ZeroDivisionError") (hE := ?he) ?R ?F ?K ?U ?XB ?TB ?D ?T0 ?ex PyProof.Rows.Boot.«ZeroDivisionError» ?hn PySem.F.isExc_ZeroDivisionError PySem.F.notTuple_ZeroDivisionError ?hs ?_
      case R => assumption
      case F => assumption
      case K => exact B
      case U => assumption
      case XB => exact XB
      case TB => exact TB
      case D => exact hD
      case T0 => exact KtsTurn.refl
      case hs => rw [isSubtype_type]; kernel_rfl
      case ex => k_is
      case hn => decide
      case he => exact hE _
      intro h9 g9 T9 F9 N9 K9 X9 P9 D9
      k_steps
      refine hRR _ _ ?_
      exact hret2 _ _ _ _ _ _ T9 (by assumption) (pick1 (by assumption) (.head _) (fun p hp => .tail _ (.tail _ (.tail _ (.tail _ (.tail _ (.tail _ hp))))))) (by rw [hres]; exact datAll_ref _ _ _) rfl rfl
    · exact absurd rfl (by assumption)
  · show wpAny _ _ (call (.ref 56) _) _ _ _
    (refine wpAny_call ?_
     refine' code_def ?k1 ?k2 ?k3 ?k4 ?k5 ?kA ?kF ?kK ?k6 ?k7 ?k8 ?k9 ?kB ?_ ?c2 ?c3 ?c4 ?c5
     (case kA => exact rfl)
     (case kF => exact rfl)
     (case kK => exact rfl)
     (case k1 => k_asm)
     (case k2 => k_asm)
     (case k3 => k_asm)
     (case k4 => k_asm)
     (case k5 => k_asm)
     (case k6 => k_is)
     (case k7 => k_is)
     (case k8 => ktr_room)
     (case k9 => exact BindsTo.of_eq rfl)
     (case c5 => decide)
     (case kB => exact locs rfl)
     (case c2 => exact rfl)
     (case c3 => exact rfl)
     (case c4 => exact rfl)
     intro g' L9 h' FG' F' N' B' X' T'
     dsimp only)
    k_steps
    · unfold Stop
      refine' caught_SN0 (T' := "ZeroDivisionError") (hE := ?he) ?R ?F ?K ?U ?XB ?TB ?D ?T0 ?ex PyProof.Rows.Boot.«ZeroDivisionError» ?hn PySem.F.isExc_ZeroDivisionError PySem.F.notTuple_ZeroDivisionError ?hs ?_
      case R => assumption
      case F => assumption
      case K => exact B
      case U => assumption
      case XB => exact XB
      case TB => exact TB
      case D => exact hD
      case T0 => exact KtsTurn.refl
      case hs => rw [isSubtype_type]; kernel_rfl
      case ex => k_is
      case hn => decide
      case he => exact hE _
      intro h9 g9 T9 F9 N9 K9 X9 P9 D9
      k_steps
      refine hRR _ _ ?_
      exact hret2 _ _ _ _ _ _ T9 (by assumption) (pick1 (by assumption) (.head _) (fun p hp => .tail _ (.tail _ (.tail _ (.tail _ (.tail _ (.tail _ hp))))))) (by rw [hres]; exact datAll_ref _ _ _) rfl rfl
    · exact absurd rfl (by assumption)
end Mine
end
-- Run1
theorem Mine.calmRun1 : True := by
  w_top off
  trivial
section
open PySem PySem.W PyProof.Rows
set_option maxRecDepth 100000
set_option maxHeartbeats 4000000
namespace Mine
/-- any turn -/
theorem turn_any (w : World) (mean : ExcName → Option Value) (mg mb : Str → Option Value) {dp un : Nat} {gd : Option (List Code)} {cn : Str} {cs : Scope} {L a : Addr} {ccd : Value} {cl : List (Str × Addr)} {outer : List Env} {base g : Heap} {L' : Addr}
    (B : Below (ktrTop dp un gd cn cs L a ccd cl outer) base (envX cn cs L a ccd cl :: outer) g) (X : (hd.heap_39 w.params).In g) (T : Top hd.view_39 (looseW hd.view_39 []) mean mg mb g) (hdp : dp + 100 < recursionLimit) (hu : un + 800 < cLine)
    {oc : Value} {od : Option Addr} {name qual : Str} {params : Arguments} {s1 s3 : Stmt} {elts : List PySem.Expr} {k1 : Nat} {tpos : Pos} {iter : PySem.Expr} {lbody : List Stmt} {fpos : Pos} {scope : Scope} {dV kV doc pm cdv ct : Value} {an : Option Addr} {osl : Array (Option Value)}
    (hfn : (hd.heap_39 w.params).lookup 98 = some ⟨oc, od, .func (fnOf name qual params [s1, .For (.Tuple elts k1 tpos) iter lbody [] fpos, s3] scope dV kV doc pm an cdv ct), osl⟩)
    {ths : List Th} (hg : Good ths) {d tw on : Addr} {R : Result → Shared → Prop} {j : Nat} {S : List Int} {t : Th} {r : List Th} (hdr : ths.drop j = t :: r) (hst : stk ths j = S.map .i) (hrun : runF ths [] = runF (ths.drop j) S)
    {gm : Str → Option Value} {vs : List Value} (hI : IntsAre vs S) {c : Nat} {ta : Addr} {t1 t2 : Tok} {rest : List (Addr × Obj)} {s : Shared} {E : Value → Shared → Prop}
    (F : Fr g L' s.heap (fun y => if y = Str.ofString "stack" then some (.ref d) else if y = Str.ofString "ones" then some (.ref on) else if y = Str.ofString "twos" then some (.ref tw) else gm y))
    (N : News g L' s.heap ((ta, tup [.int ((thItem t).1 : Int) t1, .str (thItem t).2 t2] 0) :: (d, lst vs c) :: (on, lst [.ref 70, .ref 49] 0) :: (tw, lst [.ref 28, .ref 84, .ref 63, .ref 42, .ref 56, .ref 35, .ref 77, .ref 91] 0) :: rest))
    (hda : @LT.lt Nat _ d ta) (hne : ∀ p ∈ (on, lst [.ref 70, .ref 49] 0) :: (tw, lst [.ref 28, .ref 84, .ref 63, .ref 42, .ref 56, .ref 35, .ref 77, .ref 91] 0) :: rest, p.1 ≠ d) (XB : (hd.heap_39 w.params).In base) (TB : Top hd.view_39 (looseW hd.view_39 []) mean mg mb base) (hD : KtsDicts ((envX cn cs L a ccd cl :: outer).filterMap (·.frame)) g) (hE : ∀ e, PassesOwnAt (model PySem.Challenge.rw_nb0036_01.row.prog w) (((ktrTop dp un gd cn cs L a ccd cl outer).deeper (envOf qual scope L' 98 cdv)).mark (some (.ref e))) ((ktrTop dp un gd cn cs L a ccd cl outer).deeper (envOf qual scope L' 98 cdv)) (envOf qual scope L' 98 cdv) E)
    (hret2 : ∀ rr vs c S' m' g', KtsTurn ((envX cn cs L a ccd cl :: outer).filterMap (·.frame)) g g' → Fr g' L' (S' : Shared).heap m' → News g' L' S'.heap ((rr, lst vs c) :: rest) → DatAll [] vs (resDat (runF ths [])) → S'.os = s.os → S'.gens = s.gens → R (.ok (.ret (.ref rr))) S') : wpAny (model PySem.Challenge.rw_nb0036_01.row.prog w) ((ktrTop dp un gd cn cs L a ccd cl outer).deeper (envOf qual scope L' 98 cdv)) (assign (.Tuple elts k1 tpos) (envOf qual scope L' 98 cdv) (.ref ta)) (fun _ s₂ => wpAny (model PySem.Challenge.rw_nb0036_01.row.prog w) ((ktrTop dp un gd cn cs L a ccd cl outer).deeper (envOf qual scope L' 98 cdv)) (execs lbody (envOf qual scope L' 98 cdv)) (PostG g L' d ((on, lst [.ref 70, .ref 49] 0) :: (tw, lst [.ref 28, .ref 84, .ref 63, .ref 42, .ref 56, .ref 35, .ref 77, .ref 91] 0) :: rest) (RunJ ths d tw on (r.map thItem)) s R) E s₂) E s := by
  by_cases hl : t.lit = true
  · exact turn_lit w mean mg mb B X T hdp hu hfn hg hdr hst hrun hI F N hda hne hl
  · have ho : t.odd = true := by
      cases h : t.odd with
      | true => rfl
      | false => exact absurd (by simp [Th.lit, h]) hl
    have hc : 48 ≤ t.c ∧ t.c < 58 := by
      have := (hg.2 t (List.mem_of_mem_drop (hdr ▸ List.mem_cons_self ..))).2
      rcases this with h | h
      · exact absurd (by simp [Th.lit, h]) hl
      · exact h
    cases h89 : (t.c == 56 || t.c == 57) with
    | true => exact turn_one w mean mg mb B X T hdp hu hfn hg hdr hst hrun hI F N hda hne ho hc h89
    | false =>
      by_cases hz : t.div = true ∧ lastI S = 0
      · exact turn_div w mean mg mb B X T hdp hu hfn hg hdr hst hrun hI F N hda hne ho hz.1 hz.2 XB TB hD hE hret2
      · exact turn_two w mean mg mb B X T hdp hu hfn hg hdr hst hrun hI F N hda hne ho hc h89 hz
end Mine
end
-- Run3
theorem Mine.calmRun3 : True := by
  w_top off
  trivial
section
open PySem PySem.W PyProof.Rows
set_option maxRecDepth 100000
set_option maxHeartbeats 4000000
namespace Mine
local macro_rules | `(tactic| walk_at "newList") => `(tactic| (k_here; k_dflt (refine' newList_K ?k1 ?k2 ?_ ?z; (case k1 => k_asm); (case k2 => k_asm); (case z => exact Nat.le_of_ble_eq_true rfl); k_whole); intro l' h' F' N' l1; (try k_lt l1); (try k_sweep)))
def RunT (w : World) (mean : ExcName → Option Value) (mg mb : Str → Option Value) (x : Str) : Prop :=
  ∀ (dp un : Nat) (gd : Option (List Code)) (cn : Str) (cs : Scope) (a : Addr) (ccd : Value) (A₀ : Around) (h₀ : Heap) (L : Addr) (m : Str → Option Value) (news : List (Addr × Obj)) (s : Shared) (Q E : Value → Shared → Prop) (u : Tok),
    Below A₀ h₀ [] h₀ → Fr h₀ L s.heap m → (hd.heap_39 w.params).In h₀ → News h₀ L s.heap news → Top hd.view_39 (looseW hd.view_39 []) mean mg mb h₀ → cs.kind = .function → Signs x → dp + 110 < recursionLimit → un + 900 < cLine → AllBare s.gens →
    (∀ r vs c s', Fr h₀ L s'.heap m → News h₀ L s'.heap ((r, lst vs c) :: news) → DatAll [] vs (resDat (runF (thsOf x.cps.toList) [])) → s'.os = s.os → AllBare s'.gens → Q (.ref r) s') →
    wpAny (model PySem.Challenge.rw_nb0036_01.row.prog w) (ktrTop dp un gd cn cs L a ccd [] []) (call (.ref 98) [.str x u]) Q E s
theorem lt_ne3 {d on tw : Addr} {o1 o2 : Obj} {news : List (Addr × Obj)} (h : @LT.lt Nat _ on d ∧ @LT.lt Nat _ tw d ∧ AllLt d news) : ∀ p ∈ (on, o1) :: (tw, o2) :: news, p.1 ≠ d := fun p hp => by
  rcases List.mem_cons.mp hp with e | hp
  · rw [e]; exact Nat.ne_of_lt h.1
  · rcases List.mem_cons.mp hp with e | hp
    · rw [e]; exact Nat.ne_of_lt h.2.1
    · exact Nat.ne_of_lt (ktn_ltOf h.2.2 p hp)
theorem map1 {m' : Str → Option Value} {a : Str} {va : Value} (ha : m' a = some va) : m' = fun y => if y = a then some va else m' y := by
  funext y
  by_cases h1 : y = a
  · subst h1; simp [ha]
  · simp [h1]
theorem run_for (w : World) (mean : ExcName → Option Value) (mg mb : Str → Option Value) {dp un : Nat} {gd : Option (List Code)} {cn : Str} {cs : Scope} {L a : Addr} {ccd : Value} {base g : Heap} {L' : Addr}
    (B : Below (ktrTop dp un gd cn cs L a ccd [] []) base [envX cn cs L a ccd []] g) (X : (hd.heap_39 w.params).In g) (T : Top hd.view_39 (looseW hd.view_39 []) mean mg mb g) (XB : (hd.heap_39 w.params).In base) (TB : Top hd.view_39 (looseW hd.view_39 []) mean mg mb base) (hD : KtsDicts ([envX cn cs L a ccd []].filterMap (·.frame)) g) (hdp : dp + 100 < recursionLimit) (hu : un + 800 < cLine)
    {oc : Value} {od : Option Addr} {name qual : Str} {params : Arguments} {s1 s3 : Stmt} {elts : List PySem.Expr} {k1 : Nat} {tpos : Pos} {iter : PySem.Expr} {lbody : List Stmt} {fpos : Pos} {scope : Scope} {dV kV doc pm cdv ct : Value} {an : Option Addr} {osl : Array (Option Value)}
    (hfn : (hd.heap_39 w.params).lookup 98 = some ⟨oc, od, .func (fnOf name qual params [s1, .For (.Tuple elts k1 tpos) iter lbody [] fpos, s3] scope dV kV doc pm an cdv ct), osl⟩)
    {oc2 : Value} {od2 : Option Addr} {name2 qual2 : Str} {params2 : Arguments} {z1 z2 z4 : Stmt} {target2 iter2 : PySem.Expr} {fbody2 : List Stmt} {fpos2 : Pos} {scope2 : Scope} {dV2 kV2 doc2 pm2 cdv2 ct2 : Value} {an2 : Option Addr} {osl2 : Array (Option Value)}
    (hfn2 : (hd.heap_39 w.params).lookup 21 = some ⟨oc2, od2, .func (fnOf name2 qual2 params2 [z1, z2, .For target2 iter2 fbody2 [] fpos2, z4] scope2 dV2 kV2 doc2 pm2 an2 cdv2 ct2), osl2⟩)
    {x : Str} {u : Tok} (hg : Good (thsOf x.cps.toList)) (hx : x.cps.all (· < 128) = true) {s : Shared} {h2 : Heap} {tk2 : Nat} {m₀ : Str → Option Value} {D d on tw : Addr} {oD : Obj} {c₀ : Nat} {news : List (Addr × Obj)}
    (F1 : Fr g L' s.heap m₀) (N1 : News g L' s.heap ((D, oD) :: (d, lst [] c₀) :: (on, lst [.ref 70, .ref 49] 0) :: (tw, lst [.ref 28, .ref 84, .ref 63, .ref 42, .ref 56, .ref 35, .ref 77, .ref 91] 0) :: news))
    (l9 : @LT.lt Nat _ on d ∧ @LT.lt Nat _ tw d ∧ AllLt d news) (e1 : m₀ (Str.ofString "stack") = some (.ref d)) (e2 : m₀ (Str.ofString "ones") = some (.ref on)) (e3 : m₀ (Str.ofString "twos") = some (.ref tw))
    {bm : Str → Option Value} (hns : h2.Ns s.heap.objs.size bm) (hbm : bm (Str.ofString "addr") = some (.str x u)) (hk2 : ∀ b o, s.heap.get? b = some o → h2.get? b = some o) (hgen2 : h2.IsGen (s.heap.objs.size + 1) s.gens.size) (hbare : AllBare s.gens)
    {R : Result → Shared → Prop}
    (hret2 : ∀ rr vs c S' m' g', KtsTurn ([envX cn cs L a ccd []].filterMap (·.frame)) g g' → Fr g' L' (S' : Shared).heap m' → News g' L' S'.heap ((rr, lst vs c) :: news) → DatAll [] vs (resDat (runF (thsOf x.cps.toList) [])) → S'.os = s.os → AllBare S'.gens → R (.ok (.ret (.ref rr))) S')
    (hdone : ∀ vs c S' (m' : Str → Option Value), Fr g L' (S' : Shared).heap (fun y => if y = Str.ofString "stack" then some (.ref d) else m' y) → News g L' S'.heap ((d, lst vs c) :: news) → DatAll [] vs (resDat (runF (thsOf x.cps.toList) [])) → S'.os = s.os → AllBare S'.gens → R (.ok .next) S') :
    codeAny (model PySem.Challenge.rw_nb0036_01.row.prog w) ((ktrTop dp un gd cn cs L a ccd [] []).deeper (envOf qual scope L' 98 cdv)) (.forLoop (.Tuple elts k1 tpos) (.ref (s.heap.objs.size + 1)) lbody [] (envOf qual scope L' 98 cdv)) R
      { s with heap := h2, gens := s.gens.push (.fresh (.func [z1, z2, .For target2 iter2 fbody2 [] fpos2, z4] (envOf qual2 scope2 s.heap.objs.size 21 cdv2))), toks := tk2 } := by
  have hns' : h2.Ns s.heap.objs.size (fun y => if y = Str.ofString "addr" then some (.str x u) else bm y) := (map1 hbm) ▸ hns
  refine for_gen w mean mg mb (A := (ktrTop dp un gd cn cs L a ccd [] []).deeper (envOf qual scope L' 98 cdv)) rfl X T (env := envOf qual scope L' 98 cdv) (x := x) (u := u) hx hfn2 ?_ (Lg := s.heap.objs.size) (d := d) (p1 := (on, lst [.ref 70, .ref 49] 0)) (p2 := (tw, lst [.ref 28, .ref 84, .ref 63, .ref 42, .ref 56, .ref 35, .ref 77, .ref 91] 0)) (news := news) (vs₀ := []) (c₀ := c₀)
    (m₀ := m₀) (g := bm) (gi := s.gens.size) ⟨F1.ns.keeps hk2, fun b o e => hk2 b o (F1.keep b o e), F1.above⟩ (fun p hp => ⟨hk2 _ _ (N1 p (.tail _ hp)).1, (N1 p (.tail _ hp)).2⟩) (lt_ne3 l9) (fun p hp => Heap.lt_size (N1 p (.tail _ hp)).1) F1.ns.lt hns' hgen2 (by simp) (hbare.push rfl) (RunJ (thsOf x.cps.toList) d tw on) ?_ ?_ ?_
  · show dp + 1 < recursionLimit
    omega
  · refine ⟨0, [], ?_, Nat.zero_le _, .nil, rfl, rfl, m₀, map3 e1 e2 e3⟩
    rw [gy_all]; rfl
  · rintro it rem m₁ vs c ta t1 t2 rest S E' hE ⟨j, Si, hit, hj, hI, hst, hrun, gm, rfl⟩ F₂ N₂ hda hne hsub hos hb
    cases hdr : (thsOf x.cps.toList).drop j with
    | nil => rw [hdr] at hit; cases hit
    | cons t r =>
      rw [hdr, List.map_cons] at hit
      cases hit
      exact turn_any w mean mg mb B X T hdp hu hfn hg hdr hst hrun hI F₂ N₂ hda hne XB TB hD hE (fun rr vs c S' m' g' q1 q2 q3 q4 q5 q6 => hret2 rr vs c S' m' g' q1 q2 (fun p hp => q3 p (by
        rcases List.mem_cons.mp hp with z | z
        · rw [z]; exact List.mem_cons_self ..
        · exact List.mem_cons_of_mem _ (hsub p z))) q4 (q5.trans hos) (q6 ▸ hb))
  · rintro m₁ vs c S ⟨j, Si, hit, hj, hI, hst, hrun, gm, rfl⟩ F₂ N₂ hos hb
    have hdr : (thsOf x.cps.toList).drop j = [] := by
      cases hdr : (thsOf x.cps.toList).drop j with
      | nil => rfl
      | cons t r => rw [hdr] at hit; cases hit
    rw [hdr] at hrun
    refine hdone vs c S _ F₂ (fun p hp => N₂ p ?_) (by rw [hrun]; exact ints_dat hI) hos hb
    rcases List.mem_cons.mp hp with z | z
    · rw [z]; exact List.mem_cons_self ..
    · exact List.mem_cons_of_mem _ (List.mem_cons_of_mem _ (List.mem_cons_of_mem _ z))
theorem run_all (w : World) (mean : ExcName → Option Value) (mg mb : Str → Option Value) (x : Str) (hg : Good (thsOf x.cps.toList)) (hx : x.cps.all (· < 128) = true) : RunT w mean mg mb x := by
  intro dp un gd cn cs a ccd A₀ h₀ L m news s Q E u B F X N T hk hS hd hu hbare hret
  revert X; k_fill; intro X
  refine wpAny_call ?_
  refine' code_defS0 ?k1 ?k2 ?k3 ?k4 ?k5 ?kA ?k6 ?k7 ?k8 ?k9 ?kB ?_ ?kK ?c2 ?c3 ?c4 ?c5
  (case kA => exact rfl)
  (case kK => assumption)
  (case k1 => k_asm)
  (case k2 => k_asm)
  (case k3 => k_asm)
  (case k4 => k_asm)
  (case k5 => k_asm)
  (case k6 => k_is)
  (case k7 => k_is)
  (case k8 => ktr_room)
  (case k9 => exact BindsTo.of_eq rfl)
  (case c5 => decide)
  (case kB => exact locs rfl)
  (case c2 => exact rfl)
  (case c3 => exact rfl)
  (case c4 => exact rfl)
  intro g' L' h' FG' F' N' B' X' T' D'
  dsimp only
  k_with "exec For Tuple Call cons nil" => refine stop ?_
  k_steps
  k_with_none
  unfold Stop
  refine wpAny_For ?_
  k_with "call ref" => refine stop ?_
  k_steps
  k_with_none
  unfold Stop
  rename Fr _ L' _ _ => F1
  rename News _ L' _ _ => N1
  with_unfolding_all refine' gen_call F1 ?gx ?gl ?g1 ?g2 ?g3 ?g4 ?g5 ?g6 ?g7 ?g8 ?g9 ?_
  case gx => exact X'
  case gl => exact T'.nolimit
  case g1 => k_is
  case g2 => k_is
  case g3 => ktr_room
  case g4 => exact BindsTo.of_eq rfl
  case g5 => exact locs rfl
  case g6 => exact rfl
  case g7 => exact rfl
  case g8 => exact rfl
  case g9 => decide
  intro h2 tk2 hns hk2 hgen2
  refine wpAny_pyIter_gen hgen2 ?_
  with_unfolding_all refine' run_for w mean mg mb (base := h₀) (news := news) ?b1 X' T' X T ?b2 ?b3 ?b4 ?b5 ?b6 hg hx F1 N1 ?l9 ?e1 ?e2 ?e3 hns ?e4 hk2 hgen2 hbare ?r2 ?dn
  case b1 => exact B'
  case b2 => exact D'
  case b3 => omega
  case b4 => omega
  case b5 => k_is
  case b6 => k_is
  case l9 => assumption
  case e1 => rfl
  case e2 => rfl
  case e3 => rfl
  case e4 => rfl
  case r2 =>
    intro rr vs c S' m' g9 q1 q2 q3 q4 q5 q6
    refine leaveS0_ q2 q3 q1 fun F9 N9 => hret rr vs c S' F9 N9 q4 q5 q6
  case dn =>
    intro vs c S' m' q2 q3 q4 q5 q6
    k_steps
    exact hret _ vs c S' (by assumption) (by assumption) q4 q5 q6
end Mine
end
-- Sig
theorem Mine.calmSig : True := by
  w_top off
  trivial
section
open PySem PySem.W PyProof.Rows
set_option maxRecDepth 100000
namespace Mine
theorem thsTo_all {cs : List Nat} (hc : ∀ c ∈ cs, c = 92 ∨ (48 ≤ c ∧ c < 58)) : ∀ i, i ≤ cs.length → ∀ t ∈ thsTo cs i, t.k < i ∧ (t.c = 92 ∨ (48 ≤ t.c ∧ t.c < 58)) := by
  intro i
  induction i with
  | zero => intro _ t ht; simp [thsTo] at ht
  | succ i ih =>
    intro hi t ht
    have hT : thsTo cs (i + 1) = thsTo cs i ++ thAt cs i := rfl
    rw [hT] at ht
    rcases List.mem_append.mp ht with h | h
    · have := ih (by omega) t h
      exact ⟨by omega, this.2⟩
    · have hlt : i < cs.length := by omega
      have hm : cs.getD i 0 = cs[i] := by simp [List.getD_eq_getElem?_getD, hlt]
      unfold thAt at h
      split at h
      · rw [List.mem_singleton.mp h]
        exact ⟨Nat.lt_succ_self _, hm ▸ hc _ (List.getElem_mem hlt)⟩
      · split at h
        · rw [List.mem_singleton.mp h]; exact ⟨Nat.lt_succ_self _, .inl rfl⟩
        · cases h
theorem good_of {x : Str} (h : Signs x) : Good (thsOf x.cps.toList) := by
  have hl : x.cps.toList.length < 63 := by have := h.1; simpa [Str.length] using this
  refine ⟨?_, fun t ht => ?_⟩
  · have := thsTo_len x.cps.toList x.cps.toList.length
    show (thsTo x.cps.toList x.cps.toList.length).length < 64
    omega
  · have := thsTo_all (fun c hc => h.2 c hc) _ (Nat.le_refl _) t ht
    exact ⟨by omega, this.2⟩
theorem ascii_of {x : Str} (h : Signs x) : x.cps.all (· < 128) = true := by
  rw [Array.all_eq_true_iff_forall_mem]
  intro c hc
  rcases h.2 c (by simpa using hc) with h | h <;> simp <;> omega
end Mine
end
-- LawC
theorem Mine.calmLawC : True := by
  w_top off
  trivial
section
open PySem PySem.W PyProof.Rows
set_option maxRecDepth 100000
set_option maxHeartbeats 8000000
namespace Mine
def sgn (n : Int) : Nat := if n.fmod 3 = 0 then 92 else 48 + ((n.fdiv 3).fmod 10).toNat
def SgnOf (v y : Value) : Prop := ∃ n t u, v = .int n t ∧ y = .str (Str.mk #[sgn n]) u
section
variable {prog : Program} {w : World} {A : Around} {E : Value → Shared → Prop} {s : Shared}
theorem ints_item {vs : List Value} {S : List Int} (h : IntsAre vs S) : ∀ (i : Nat) (v : Value), vs[i]? = some v → ∃ n t, v = .int n t ∧ S[i]? = some n := by
  induction h with
  | nil => intro i v h; simp at h
  | cons k t r ih =>
    intro i v h
    cases i with
    | zero => simp at h; exact ⟨k, t, h.symm, rfl⟩
    | succ i => exact ih i v (by simpa using h)
theorem sgn_bs {n : Int} {t u : Tok} (h : n.fmod 3 = 0) : SgnOf (.int n t) (.str (Str.ofString "\\") u) := ⟨n, t, u, rfl, by rw [bs_one, sgn, if_pos h]⟩
theorem dig_text : ∀ k : Nat, k < 10 → Str.ofString (toString (k : Int)) = Str.mk #[48 + k] := by decide +kernel
theorem sgn_fig {n : Int} {t u : Tok} (h : n.fmod 3 ≠ 0) : SgnOf (.int n t) (.str (Str.ofString (toString ((n.fdiv 3).fmod 10))) u) := by
  refine ⟨n, t, u, rfl, ?_⟩
  have h0 : 0 ≤ (n.fdiv 3).fmod 10 := Int.fmod_nonneg_of_pos _ (by decide)
  have h1 : (n.fdiv 3).fmod 10 < 10 := Int.fmod_lt_of_pos _ (by decide)
  have e : (n.fdiv 3).fmod 10 = (((n.fdiv 3).fmod 10).toNat : Int) := by omega
  have := dig_text ((n.fdiv 3).fmod 10).toNat (by omega)
  rw [← e] at this
  rw [this, sgn, if_neg h]
theorem sgn_ok (n : Int) : sgn n = 92 ∨ (48 ≤ sgn n ∧ sgn n < 58) := by
  unfold sgn
  split
  · exact .inl rfl
  · have h0 : 0 ≤ (n.fdiv 3).fmod 10 := Int.fmod_nonneg_of_pos _ (by decide)
    have h1 : (n.fdiv 3).fmod 10 < 10 := Int.fmod_lt_of_pos _ (by decide)
    right; omega
/-- [elt for x in numbers] where elt turns an int into its sign -/
theorem comp_sgn {env : Env} {elt iter : PySem.Expr} {x : Str} {px : Pos} {scope : Scope} {pos : Pos} {h₀ : Heap} {m : Str → Option Value} {news : List (Addr × Obj)} {lv : Addr} {vs : List Value} {c : Nat} {S : List Int} {Q : Value → Shared → Prop}
    (F : Fr h₀ env.locals s.heap m) (N : News h₀ env.locals s.heap news) (hlv : (lv, lst vs c) ∈ news) (hh : A.handled = none) (hz : vs.length < 1000) (hI : IntsAre vs S)
    (hclos : closureFor scope env = pure []) (hcell : ∀ z ∈ scope.names, z.2 ≠ .cell) (hkind : scope.kind = .function)
    (hnames : ∀ z ∈ scope.names, z.2 = .local → scope.names.lookup z.1 = some .local) (hx : scope.names.lookup x = some .local)
    (hs : ∀ x, foldedSetIterable iter env x = pure x)
    (hit : ∀ {Q : Value → Shared → Prop}, Q (.ref lv) s → wpAny (model prog w) A (eval iter env) Q E s)
    (helt : ∀ (C : Addr) (n : Int) (t : Tok) (s₃ : Shared) (m₃ : Str → Option Value) (E' : Value → Shared → Prop), s₃.heap.Ns C m₃ → m₃ x = some (.int n t) → (∀ b o, s.heap.get? b = some o → s₃.heap.get? b = some o) →
      wpAny (model prog w) A (eval elt (compEnvC scope [] C env)) (fun y s₄ => SgnOf (.int n t) y ∧ Keeps s₃ s₄) E' s₃)
    (h : ∀ D n h' tk ys, Fr h₀ env.locals h' m → News h₀ env.locals h' ((D, lst ys n) :: news) → Paired SgnOf vs ys → (∀ q ∈ news, q.1 ≠ D) → Q (.ref D) { s with heap := h', toks := tk }) :
    wpAny (model prog w) A (eval (.ListComp elt [⟨.Name x px, iter, [], 0⟩] scope pos) env) Q E s := by
  have hL := News.isList N hlv
  obtain ⟨ol, hol, _⟩ := id hL
  have hne : lv ≠ s.heap.objs.size := Nat.ne_of_lt (Heap.lt_size hol)
  have W := Walks.list (prog := prog) (w := w) hh s.heap.objs.size lv hne vs.toArray
  have hkp : ∀ b o, s.heap.get? b = some o → b ∉ [s.heap.objs.size] := fun b o e hm => Nat.lt_irrefl _ ((List.mem_singleton.mp hm) ▸ Heap.lt_size e)
  refine wpAny_ListComp_free (cl := []) (fun _ => true) SgnOf hclos hcell hkind hnames hx (hit (wpAny_pyIter_list hL ?_)) hs
  refine ⟨_, _, _, _, _, _, rfl, W, (by simp; rw [sizeLine_eq]; omega), ⟨⟨_, Heap.get?_push_size _ rfl, rfl, rfl⟩, hL.at fun o e => Heap.get?_push_of_some _ e⟩, ?_, ?_, ?_⟩
  · intro b hb
    simp only [List.mem_cons, List.not_mem_nil, or_false] at hb
    rw [Heap.size_push]
    rcases hb with e | e
    · rw [e]; exact Nat.lt_succ_self _
    · rw [e]; exact Nat.lt_succ_of_lt (Heap.lt_size hol)
  · refine ⟨fun C i v s₃ m₃ E' _ hP hns hv hk _ => ?_, fun C i v s₃ m₃ E' _ hP _ hns hv hk _ => ?_⟩
    · exact wpAny_pure ⟨rfl, s₃.heap, s₃.toks, rfl, fun _ _ e => e⟩
    · have hP' : vs[i]? = some v := by simpa using hP
      obtain ⟨n, t, rfl, _⟩ := ints_item hI i v hP'
      exact helt C n t s₃ m₃ E' hns hv (fun b o e => hk b o (hkp b o e) (Heap.get?_push_of_some _ e))
  · intro D h' tk ys vs' hD hl hpl hlen hP hF hk
    have e1 := list_of_items (vs := vs) (by simpa using hlen) hP
    subst e1
    obtain ⟨n, hn⟩ := hpl
    have hup : ∀ b o, s.heap.get? b = some o → h'.get? b = some o := fun b o e => hk b o (hkp b o e) (Heap.get?_push_of_some _ e)
    have hft : vs'.filter (fun _ => true) = vs' := List.filter_eq_self.mpr (fun _ _ => rfl)
    have hF' : Paired SgnOf vs' ys.toList := hft ▸ hF
    refine h D n h' tk ys.toList ⟨F.ns.keeps hup, fun b o e => hup b o (F.keep b o e), F.above⟩ (fun q hq => ?_) hF' (fun q hq e => ?_)
    · rcases List.mem_cons.mp hq with e | hq
      · rw [e]
        obtain ⟨oL, _, _, hoL, _⟩ := F.ns
        refine ⟨by simpa using hn, fun e' => ?_, ?_⟩
        · have h9 : D = env.locals := e'
          rw [h9, Heap.get?_push_of_some _ hoL] at hD; cases hD
        · cases h9 : h₀.get? D with
          | none => rfl
          | some o9 => rw [Heap.get?_push_of_some _ (F.keep _ _ h9)] at hD; cases hD
      · exact ⟨hup _ _ (N q hq).1, (N q hq).2⟩
    · rw [← e, Heap.get?_push_of_some _ (N q hq).1] at hD; cases hD
end
end Mine
end
-- LawJ
theorem Mine.calmLawJ : True := by
  w_top off
  trivial
section
open PySem PySem.W PyProof.Rows
set_option maxRecDepth 100000
namespace Mine
theorem sgn_strs {vs ys : List Value} {S : List Int} (hI : IntsAre vs S) : Paired SgnOf vs ys → StrsAre ys (S.map fun n => Str.mk #[sgn n]) := by
  induction hI generalizing ys with
  | nil => intro h; cases h; exact .nil
  | cons k t r ih =>
    intro h
    cases h with
    | cons h1 h2 =>
      obtain ⟨n, t', u, e1, rfl⟩ := h1
      cases e1
      exact .cons _ _ (ih h2)
theorem join_sgn (S : List Int) : (Txt.join (Str.ofString "") (S.map fun n => Str.mk #[sgn n])).cps.toList = S.map sgn := by
  have e : Str.ofString "" = Str.mk #[] := by decide +kernel
  rw [e]
  unfold Txt.join
  rw [StrLaws.glued_eq_join]
  induction S with
  | nil => rfl
  | cons n S ih =>
    cases S with
    | nil => rfl
    | cons k S =>
      show (Str.mk #[sgn n] ++ Str.mk #[] ++ Str.join (Str.mk #[]) ((k :: S).map fun n => Str.mk #[sgn n])).cps.toList = _
      have e9 : (n :: k :: S).map sgn = sgn n :: (k :: S).map sgn := rfl
      rw [e9, ← ih]
      show ((#[sgn n] ++ #[]) ++ (Str.join (Str.mk #[]) ((k :: S).map fun n => Str.mk #[sgn n])).cps).toList = _
      simp
end Mine
end
-- LawN
theorem Mine.calmLawN : True := by
  w_top off
  trivial
section
open PySem PySem.W PyProof.Rows
set_option maxRecDepth 100000
set_option maxHeartbeats 4000000
namespace Mine
section
variable {prog : Program} {w : World} {A : Around} {E : Value → Shared → Prop} {s : Shared}
/-- an entry that is a name space whatever else the heap holds -/
def NsAt (C : Addr) (oC : Obj) (m : Str → Option Value) : Prop := ∀ h : Heap, h.get? C = some oC → h.Ns C m
theorem nsAt_of {h : Heap} {C : Addr} {m : Str → Option Value} (x : h.Ns C m) : ∃ o, h.get? C = some o ∧ NsAt C o m := by
  obtain ⟨o, es, ep, e, hd, r⟩ := x
  exact ⟨o, e, fun h' e' => ⟨o, es, ep, e', hd, r⟩⟩
/-- [x for x in texts if test] where no test is true; a test may change the generators -/
theorem comp_none {env : Env} {elt iter test : PySem.Expr} {x : Str} {px : Pos} {scope : Scope} {pos : Pos} {h₀ : Heap} {m : Str → Option Value} {news : List (Addr × Obj)} {lv : Addr} {vs : List Value} {c : Nat} {Q : Value → Shared → Prop}
    (F : Fr h₀ env.locals s.heap m) (N : News h₀ env.locals s.heap news) (hlv : (lv, lst vs c) ∈ news) (hh : A.handled = none) (hb : AllBare s.gens)
    (hclos : closureFor scope env = pure []) (hcell : ∀ z ∈ scope.names, z.2 ≠ .cell) (hkind : scope.kind = .function)
    (hnames : ∀ z ∈ scope.names, z.2 = .local → scope.names.lookup z.1 = some .local) (hx : scope.names.lookup x = some .local)
    (hs : ∀ x, foldedSetIterable iter env x = pure x)
    (hit : ∀ {Q : Value → Shared → Prop}, Q (.ref lv) s → wpAny (model prog w) A (eval iter env) Q E s)
    (htest : ∀ (C : Addr) (oC : Obj) (v : Value) (s₃ : Shared) (m₃ : Str → Option Value) (news₃ : List (Addr × Obj)) (E' : Value → Shared → Prop), v ∈ vs → NsAt C oC m₃ → m₃ x = some v → Fr h₀ env.locals s₃.heap m → News h₀ env.locals s₃.heap ((C, oC) :: news₃) → AllBare s₃.gens →
      wpAny (model prog w) A (isTrue test (compEnvC scope [] C env) (eval test (compEnvC scope [] C env))) (fun ok s₄ => ok = false ∧ Fr h₀ env.locals s₄.heap m ∧ News h₀ env.locals s₄.heap ((C, oC) :: news₃) ∧ s₄.os = s₃.os ∧ AllBare s₄.gens) E' s₃)
    (h : ∀ D n (s' : Shared), Fr h₀ env.locals s'.heap m → News h₀ env.locals s'.heap ((D, lst [] n) :: news) → s'.os = s.os → AllBare s'.gens → Q (.ref D) s') :
    wpAny (model prog w) A (eval (.ListComp elt [⟨.Name x px, iter, [test], 0⟩] scope pos) env) Q E s := by
  have hL := News.isList N hlv
  rw [eval_ListComp]
  refine wpAny_comprehension_free (use := none) (cl := []) rfl hs hclos hkind hnames ?_
  refine hit (wpAny_pyIter_list hL ?_)
  generalize hH1 : s.heap.push { cls := .type "list_iterator", data := .fields #[.ref lv, .int 0 0] } = H1
  refine wpAny_newObj_type (wpAny_newFunctionEnv hcell (by intro y hy; simp at hy) (fun h₁ hns₁ hsb₁ => ?_) hkind)
  dsimp only at hns₁ hsb₁ ⊢
  generalize hH2 : H1.push { cls := .type "list", dict := none, data := .seq ([] : List Value).toArray } = H2 at hns₁ hsb₁ ⊢
  have hD : H1.objs.size = s.heap.objs.size + 1 := by rw [← hH1, Heap.size_push]
  have hC : H2.objs.size = s.heap.objs.size + 2 := by rw [← hH2, Heap.size_push, hD]
  have below : ∀ b, b < s.heap.objs.size → b ≠ s.heap.objs.size ∧ b ≠ H1.objs.size ∧ b ≠ H2.objs.size := fun b hb => by
    rw [hC, hD]; exact ⟨Nat.ne_of_lt hb, Nat.ne_of_lt (Nat.lt_succ_of_lt hb), Nat.ne_of_lt (Nat.lt_succ_of_lt (Nat.lt_succ_of_lt hb))⟩
  have hDI : H1.objs.size ≠ s.heap.objs.size := by rw [hD]; exact Nat.succ_ne_self _
  have hDC : H1.objs.size ≠ H2.objs.size := by rw [hD, hC]; exact Nat.ne_of_lt (Nat.lt_succ_self _)
  have hIC : s.heap.objs.size ≠ H2.objs.size := by rw [hC]; exact Nat.ne_of_lt (Nat.lt_succ_of_lt (Nat.lt_succ_self _))
  have old : ∀ b o, s.heap.get? b = some o → h₁.get? b = some o := fun b o e =>
    hsb₁.extBut b o (below b (Heap.lt_size e)).2.2 (Heap.get?_push_of_some _ (hH2 ▸ Heap.get?_push_of_some _ (hH1 ▸ Heap.get?_push_of_some _ e)))
  have hI₁ : h₁.IsListIter s.heap.objs.size lv 0 := ⟨_, hsb₁.extBut _ _ hIC (Heap.get?_push_of_some _ (hH2 ▸ Heap.get?_push_of_some _ (hH1 ▸ Heap.get?_push_size _ rfl))), rfl, rfl⟩
  have hD₁ : h₁.get? H1.objs.size = some (lst [] 0) := hsb₁.extBut _ _ hDC (Heap.get?_push_of_some _ (hH2 ▸ Heap.get?_push_size _ rfl))
  have fresh₀ : ∀ a, s.heap.objs.size ≤ a → h₀.get? a = none := fun a ha => by
    cases e : h₀.get? a with
    | none => rfl
    | some o' => exact absurd (Heap.lt_size (F.keep a o' e)) (Nat.not_lt.mpr ha)
  have hI0 : h₀.get? s.heap.objs.size = none := fresh₀ _ (Nat.le_refl _)
  have hD0 : h₀.get? H1.objs.size = none := fresh₀ _ (by rw [hD]; exact Nat.le_succ _)
  have hC0 : h₀.get? H2.objs.size = none := fresh₀ _ (by rw [hC]; exact Nat.le_succ_of_le (Nat.le_succ _))
  have hLL := below _ F.ns.lt
  have hlvne := below lv (Heap.lt_size (N _ hlv).1)
  have off : ∀ p ∈ (H1.objs.size, lst [] 0) :: news, p.1 ≠ s.heap.objs.size ∧ p.1 ≠ H2.objs.size := fun p hp => by
    rcases List.mem_cons.mp hp with z | hp
    · rw [z]; exact ⟨hDI, hDC⟩
    · have := below _ (Heap.lt_size (N p hp).1)
      exact ⟨this.1, this.2.2⟩
  have loop : ∀ s₂ : Shared, s₂ = { s with heap := h₁, toks := s.toks + ([] : List (Str × Value)).length } →
      codeAny (model prog w) A (.compLoop (.ListComp elt [⟨.Name x px, iter, [test], 0⟩] scope pos) 0 (.ref s.heap.objs.size) (.ref H1.objs.size) (compEnvC scope [] H2.objs.size env))
        (compPost (model prog w) A E none Q (.ref H1.objs.size) H2.objs.size) s₂ := by
    rintro s₂ rfl
    refine codeAny_compLoop_tests
      (fun k S => ∃ i m', i ≤ vs.length ∧ k = vs.length + 1 - i ∧ S.heap.IsListIter s.heap.objs.size lv i ∧ S.heap.Ns H2.objs.size m' ∧ Fr h₀ env.locals S.heap m ∧ News h₀ env.locals S.heap ((H1.objs.size, lst [] 0) :: news) ∧ S.os = s.os ∧ AllBare S.gens) ?_ (vs.length + 1)
      ⟨0, _, Nat.zero_le _, rfl, hI₁, hns₁, ⟨F.ns.keeps old, fun b o e => old b o (F.keep b o e), F.above⟩, fun p hp => ?_, rfl, hb⟩
    · rintro k S ⟨i, m', hi, rfl, hit', hn', F', N', hos, hb'⟩
      have hl' : S.heap.IsList lv vs.toArray := News.isList N' (List.mem_cons_of_mem _ hlv)
      cases hv : vs.toArray[i]? with
      | none =>
        refine wpAny_pyNext_list_end hh hit' hl' hv fun h₂ he₂ => ?_
        refine ⟨m', hn'.extBut he₂ (Ne.symm hIC), fun h₃ hs₃ => ?_⟩
        refine h _ 0 _ ?_ (fun p hp => ?_) hos hb'
        · refine ⟨(F'.ns.extBut he₂ hLL.1).sameBut hs₃ hLL.2.2, fun b o e => ?_, F'.above⟩
          have hlt := below b (Heap.lt_size (F.keep b o e))
          exact hs₃.extBut b o hlt.2.2 (he₂ b o hlt.1 (F'.keep b o e))
        · have z := N' p hp
          exact ⟨hs₃.extBut _ _ (off p hp).2 (he₂ _ _ (off p hp).1 z.1), z.2⟩
      | some v =>
        have hvl : vs[i]? = some v := by simpa using hv
        have hlt : i < vs.length := (List.getElem?_eq_some_iff.mp hvl).1
        refine wpAny_pyNext_list_item hit' hl' hv fun h₂ hit₂ hs₂ => ?_
        refine wpAny_assign_Name (wpAny_storeName_local (lookup_relabel_local hx) (hn'.sameBut hs₂ (Ne.symm hIC)) (fun h₃ hn₃ hs₃ => ?_) (by simp [compEnvC, relabel, hkind]))
        refine wpAny_tests_one ?_
        have hit₃ : h₃.IsListIter s.heap.objs.size lv (i + 1) := hit₂.extBut hs₃.extBut hIC
        obtain ⟨oI, heI, hoI⟩ := id hit₃
        obtain ⟨oC, heC, hoC⟩ := nsAt_of hn₃
        have F₃ : Fr h₀ env.locals h₃ m := by
          refine ⟨(F'.ns.sameBut hs₂ hLL.1).sameBut hs₃ hLL.2.2, fun b o e => ?_, F'.above⟩
          have hlt := below b (Heap.lt_size (F.keep b o e))
          exact hs₃.extBut b o hlt.2.2 (hs₂.extBut b o hlt.1 (F'.keep b o e))
        have N₃ : News h₀ env.locals h₃ ((H2.objs.size, oC) :: (s.heap.objs.size, oI) :: (H1.objs.size, lst [] 0) :: news) := fun p hp => by
          rcases List.mem_cons.mp hp with z | hp
          · rw [z]; exact ⟨heC, Ne.symm hLL.2.2, hC0⟩
          rcases List.mem_cons.mp hp with z | hp
          · rw [z]; exact ⟨heI, Ne.symm hLL.1, hI0⟩
          have z := N' p hp
          exact ⟨hs₃.extBut _ _ (off p hp).2 (hs₂.extBut _ _ (off p hp).1 z.1), z.2⟩
        refine wpAny_mono (htest _ oC v _ _ _ _ (List.mem_of_getElem? hvl) hoC (by simp) F₃ N₃ hb') (fun ok s₄ h₄ => ?_) fun _ _ e => e
        obtain ⟨rfl, F₄, N₄, hos₄, hb₄⟩ := h₄
        simp only [Bool.false_eq_true, if_false]
        refine ⟨vs.length + 1 - (i + 1), by omega, i + 1, _, hlt, rfl, ⟨oI, (N₄ _ (.tail _ (.head _))).1, hoI⟩, hoC _ (N₄ _ (.head _)).1, F₄, fun p hp => N₄ p (.tail _ (.tail _ hp)), hos₄.trans hos, hb₄⟩
    · rcases List.mem_cons.mp hp with z | hp
      · rw [z]; exact ⟨hD₁, Ne.symm hLL.2.1, hD0⟩
      · exact ⟨old _ _ (N p hp).1, (N p hp).2⟩
  exact codeAny_compStart_list (loop _ rfl) (wpAny_pyIter_listiter hI₁ (loop _ rfl))
end
end Mine
end
-- LawP
theorem Mine.calmLawP : True := by
  w_top off
  trivial
section
open PySem PySem.W PyProof.Rows
set_option maxRecDepth 100000
namespace Mine
theorem ints_len {vs : List Value} {S : List Int} (h : IntsAre vs S) : vs.length = S.length := by
  induction h with
  | nil => rfl
  | cons k t r ih => simp [ih]
def SgnT (x : Str) : Prop := ∀ c ∈ x.cps.toList, c = 92 ∨ (48 ≤ c ∧ c < 58)
abbrev joinS (S : List Int) : Str := Txt.join (Str.ofString "") (S.map fun n => Str.mk #[sgn n])
theorem join_len (S : List Int) : (joinS S).length = S.length := by
  have := congrArg List.length (join_sgn S)
  simpa [Str.length] using this
theorem join_sgnT (S : List Int) : SgnT (joinS S) := by
  intro c hc
  rw [join_sgn] at hc
  obtain ⟨n, _, rfl⟩ := List.mem_map.mp hc
  exact sgn_ok n
theorem join_weight {S : List Int} (h : S.length ≤ 21) : ((S.map fun n => Str.mk #[sgn n]).map (·.length)).sum + (S.map fun n => Str.mk #[sgn n]).length ≤ 1048576 := by
  have e : ∀ S : List Int, ((S.map fun n => Str.mk #[sgn n]).map (·.length)).sum = S.length := by
    intro S
    induction S with
    | nil => rfl
    | cons n S ih =>
      rw [List.map_cons, List.map_cons, List.sum_cons, ih]
      show 1 + S.length = S.length + 1
      omega
  rw [e, List.length_map]
  omega
theorem app_len (a b : Str) : (a ++ b).length = a.length + b.length := by
  show (a.cps ++ b.cps).size = _
  rw [Array.size_append]; rfl
theorem app_sgnT {a b : Str} (ha : SgnT a) (hb : SgnT b) : SgnT (a ++ b) := by
  intro c hc
  have hc' : c ∈ (a.cps ++ b.cps).toList := hc
  rw [Array.toList_append] at hc'
  rcases List.mem_append.mp hc' with h | h
  · exact ha c h
  · exact hb c h
theorem sgnT_tail : SgnT (Str.ofString "0\\31") := by unfold SgnT; decide +kernel
theorem sgnT_head : SgnT (Str.ofString "50\\3") := by unfold SgnT; decide +kernel
theorem len_tail : (Str.ofString "0\\31").length = 4 := by decide +kernel
theorem len_head : (Str.ofString "50\\3").length = 4 := by decide +kernel
theorem signs_a {X : Str} (hl : X.length ≤ 21) (hs : SgnT X) : Signs X := ⟨by omega, hs⟩
theorem signs_b {X : Str} (hl : X.length ≤ 21) (hs : SgnT X) : Signs (X ++ Str.ofString "0\\31") := ⟨by rw [app_len, len_tail]; omega, app_sgnT hs sgnT_tail⟩
theorem signs_c {X : Str} (hl : X.length ≤ 21) (hs : SgnT X) : Signs (Str.ofString "50\\3" ++ X) := ⟨by rw [app_len, len_head]; omega, app_sgnT sgnT_head hs⟩
end Mine
end
-- LawT
theorem Mine.calmLawT : True := by
  w_top off
  trivial
section
open PySem PySem.W PyProof.Rows
set_option maxRecDepth 100000
set_option maxHeartbeats 4000000
namespace Mine
/-- _law_run(one) != _law_due(one) is false -/
theorem test_one (w : World) (mean : ExcName → Option Value) (mg mb : Str → Option Value) {dp un : Nat} {gd : Option (List Code)} {cn : Str} {cs : Scope} {L a : Addr} {ccd : Value} {A₀ : Around} {h₀ : Heap} {m : Str → Option Value} {scope : Scope} {C : Addr} {oC : Obj} {m₃ : Str → Option Value} {news₃ : List (Addr × Obj)} {s₃ : Shared} {E' : Value → Shared → Prop} {x : Str} {u : Tok} {p1 p2 p3 p4 p5 p6 p7 : Pos} {whole : Sem Value}
    (B : Below A₀ h₀ [] h₀) (X : (hd.heap_39 w.params).In h₀) (T : Top hd.view_39 (looseW hd.view_39 []) mean mg mb h₀) (hk : cs.kind = .function) (hdd : dp + 110 < recursionLimit) (hu : un + 900 < cLine) (hS : Signs x)
    (k1 : nsIn (hd.heap_39 w.params) mainGlobals (Str.ofString "_law_run") = some (some (.ref 98))) (k2 : nsIn (hd.heap_39 w.params) mainGlobals (Str.ofString "_law_due") = some (some (.ref 124))) (f1 : keepIn (hd.heap_39 w.params) (.ref 98) = true) (f2 : keepIn (hd.heap_39 w.params) (.ref 124) = true)
    (e0 : (compEnvC scope [] C (envX cn cs L a ccd [])).scope.kind = .function) (e1 : (compEnvC scope [] C (envX cn cs L a ccd [])).kindOf (Str.ofString "_law_run") = some .globalImplicit) (e2 : (compEnvC scope [] C (envX cn cs L a ccd [])).kindOf (Str.ofString "_law_due") = some .globalImplicit) (e3 : (compEnvC scope [] C (envX cn cs L a ccd [])).kindOf (Str.ofString "one") = some .local)
    (hC : NsAt C oC m₃) (hm : m₃ (Str.ofString "one") = some (.str x u)) (F : Fr h₀ L s₃.heap m) (N : News h₀ L s₃.heap ((C, oC) :: news₃)) (hb : AllBare s₃.gens) :
    wpAny (model PySem.Challenge.rw_nb0036_01.row.prog w) (ktrTop dp un gd cn cs L a ccd [] []) (isTrue (.Compare (.Call (nm "_law_run" p1) [nm "one" p2] [] p3) [.NotEq] [.Call (nm "_law_due" p4) [nm "one" p5] [] p6] p7) (compEnvC scope [] C (envX cn cs L a ccd [])) whole)
      (fun ok s₄ => ok = false ∧ Fr h₀ L s₄.heap m ∧ News h₀ L s₄.heap ((C, oC) :: news₃) ∧ s₄.os = s₃.os ∧ AllBare s₄.gens) E' s₃ := by
  refine wpAny_isTrue_Compare1 ?_
  refine Call_ ?_
  refine comp_K F.keep X (topRead_of T) k1 rfl e0 e1 (by decide +kernel) ?_
  refine callWith_K X f1 ?_
  refine args_cons (wpAny_Name (wpAny_loadName_local e0 e3 (hC _ (N _ (.head _)).1) hm ?_) (by decide +kernel))
  refine args_nil ⟨X.keeps F.keep, ?_⟩
  refine run_all w mean mg mb x (good_of hS) (ascii_of hS) dp un gd cn cs a ccd A₀ h₀ L m ((C, oC) :: news₃) s₃ _ _ u B F X N T hk hS hdd hu hb ?_
  intro r vs c s' F' N' D1 hos hb'
  refine Call_ ?_
  refine comp_K F'.keep X (topRead_of T) k2 rfl e0 e2 (by decide +kernel) ?_
  refine callWith_K X f2 ?_
  refine args_cons (wpAny_Name (wpAny_loadName_local e0 e3 (hC _ (N' _ (.tail _ (.head _))).1) hm ?_) (by decide +kernel))
  refine args_nil ⟨X.keeps F'.keep, ?_⟩
  refine due_all w mean mg mb x (good_of hS) dp un gd cn cs a ccd [] [] A₀ h₀ h₀ L m ((r, lst vs c) :: (C, oC) :: news₃) s' _ _ u B F' X N' T hk hS (by omega) (by omega) ?_
  intro r2 vs2 c2 h2 tk2 F2 N2 D2
  rw [run_is_due] at D1
  refine kqd_ne (n₁ := []) (n₂ := []) N2 (.tail _ (.head _)) rfl rfl D1 (fun _ h => nomatch h) (.head _) rfl rfl D2 (fun _ h => nomatch h) (resDat_ok _) (resDat_ok _) (by show un + 64 < cLine; omega) ?_
  refine wpAny_truthy_bool ⟨by simp, F2, fun p hp => N2 p (.tail _ (.tail _ hp)), hos, hb'⟩
end Mine
end
-- Law0
theorem Mine.calmLaw0 : True := by
  w_top off
  trivial
section
open PySem PySem.W PyProof.Rows
set_option maxRecDepth 100000
set_option maxHeartbeats 8000000
namespace Mine
local macro_rules | `(tactic| walk_at "binaryOp Add str str") => `(tactic| (k_here; refine' PyProof.Rows.add_str ?_ ?zsz; (case zsz => assumption); intro t' tk'))
local macro_rules | `(tactic| walk_at "call builtin:str.join") => `(tactic| refine stop ?_)
local macro_rules | `(tactic| walk_at "eval ListComp") => `(tactic| refine stop ?_)
theorem take_len {xs rest : List Int} (h : rest.length = 13) : (List.take 8 xs ++ rest).length ≤ 21 := by
  rw [List.length_append, List.length_take, h]; omega
theorem law_holds : PySem.Challenge.rw_nb0036_01.Holds := by
  refine hd ?_
  k_fill
  intro w s₀ s₁ mg mb G Y fa o pm cd doc dV kV ho hd' hcd hD hmg hg args vals as hpre hlay hrd hwl hlo
  have KX := kIn_of Y
  have X := (Ground.X G).1
  have V := (Ground.X G).2
  refine Ground.open G ?_
  intro T B D TE TW
  obtain ⟨_, _, M⟩ := bmod_of_top T
  have TA := at_of_top T
  try (obtain ⟨_, _, he, B0⟩ := based_of_top T rfl hmg ho hd'; have he' : cd = _ := he; subst he'; clear he)
  clear hmg
  wrow_args hpre hlay hrd hwl hlo
  all_goals (
    first | refine callC_kw (enter_call ?_) | refine enter_call ?_ | refine callC_kw (enter_callW ?_) | refine enter_callW ?_ | w_how
    w_top on
    have K0 := below_caller (Top.heap T)
    w_call any ho hd' hcd hD T F
    clear hd' TA
    k_drop
    skip)
  all_goals try k_fold
  k_steps
  unfold Stop
  rename Fr _ _ _ _ => F1
  rename News _ _ _ _ => N1
  rename IntsAre _ (_ ++ _) => hI9
  have hS9 := take_len (xs := _) (rest := _) (h := rfl) |> fun h => (Nat.le_trans (Nat.le_of_eq (ints_len hI9)) h)
  with_unfolding_all refine' comp_sgn F1 N1 (List.Mem.head _) ?c1 ?c2 ?c3 ?c4 ?c5 ?c6 ?c7 ?c8 ?c9 ?c10 ?c11 ?_
  case c1 => rfl
  case c2 => exact Nat.lt_of_le_of_lt hS9 (by decide)
  case c3 => assumption
  case c4 => rfl
  case c5 => decide
  case c6 => rfl
  case c7 => decide +kernel
  case c8 => rfl
  case c9 => intro _; rfl
  case c10 => exact fun hq => ld F1 rfl hq
  case c11 =>
    intro C n t s₃ m₃ E' hns hm hk'
    k_steps
    all_goals first
      | exact sgn_bs (by assumption)
      | exact sgn_fig (by assumption)
      | exact ⟨_, _, rfl, fun _ _ e => e⟩
  intro D2 n2 h9 tk9 ys9 F9 N9 hP9 hne9
  k_with "call builtin:str.join" => refine stop ?_
  k_steps
  k_with_none
  unfold Stop
  refine join_listW (News.isList N9 (List.Mem.head _)) (sgn_strs hI9 hP9) ?j1 ?j2 ?_
  case j1 => decide +kernel
  case j2 => exact join_weight (take_len rfl)
  intro ut uk
  generalize hX : Txt.join _ _ = X
  have hXl : X.length ≤ 21 := by rw [← hX]; exact Nat.le_trans (Nat.le_of_eq (join_len _)) (take_len rfl)
  have hXs : SgnT X := by rw [← hX]; exact join_sgnT _
  have hz1 : X.length + (Str.ofString "0\\31").length ≤ sizeLine := by rw [sizeLine_eq]; exact Nat.le_trans (Nat.add_le_add_right hXl _) (by decide +kernel)
  have hz2 : (Str.ofString "50\\3").length + X.length ≤ sizeLine := by rw [sizeLine_eq]; exact Nat.le_trans (Nat.add_le_add_left hXl _) (by decide +kernel)
  k_with "eval ListComp" => refine stop ?_
  k_steps
  k_with_none
  unfold Stop
  rename Fr _ _ _ _ => F8
  rename News _ _ _ _ => N8
  with_unfolding_all refine' comp_none F8 N8 (List.Mem.head _) ?d1 ?d2 ?d3 ?d4 ?d5 ?d6 ?d7 ?d8 ?d9 ?d10 ?_
  case d1 => rfl
  case d2 => show AllBare s₁.gens; rw [hg]; intro g9 h9; simp at h9
  case d3 => rfl
  case d4 => decide
  case d5 => rfl
  case d6 => decide +kernel
  case d7 => rfl
  case d8 => intro _; rfl
  case d9 => exact fun hq => ld F8 rfl hq
  case d10 =>
    intro C oC v s₃ m₃ news₃ E' hv hC hm F₃ N₃ hb₃
    have hx9 : ∃ x u, v = .str x u ∧ Signs x := by
      simp only [List.mem_cons, List.not_mem_nil, or_false] at hv
      rcases hv with h | h | h
      · exact ⟨_, _, h, signs_a hXl hXs⟩
      · exact ⟨_, _, h, signs_b hXl hXs⟩
      · exact ⟨_, _, h, signs_c hXl hXs⟩
    obtain ⟨x9, u9, rfl, hS⟩ := hx9
    with_unfolding_all refine' test_one w _ mg mb K0 KX T ?t0 ?t1 ?t2 hS ?t3 ?t4 ?t5 ?t6 ?t7 ?t8 ?t9 ?t10 hC hm F₃ N₃ hb₃
    case t0 => rfl
    case t1 => decide
    case t2 => decide
    case t3 => k_is
    case t4 => k_is
    case t5 => k_is
    case t6 => k_is
    case t7 => rfl
    case t8 => rfl
    case t9 => rfl
    case t10 => rfl
  intro D7 n7 s7 F7 N7 hos7 hb7
  k_steps
  rename Fr _ _ _ _ => Fz
  refine' ⟨.inl ⟨_, _, _, rfl, raisesW_false ?hn, .bool true, ?hp, unshared_nil⟩, .of_keep Fz.keep, ?ho, hb7⟩
  case hn => wrow_none_raised
  case hp => exact postW_of (by wrow_shape) (by wtm_val) (by str_meet; first | done | w_fin)
  case ho => exact hos7
end Mine
end
theorem PySem.Challenge.cw_nb0036_01_holds : PySem.Challenge.rw_nb0036_01.Holds :=
  Mine.law_holds
