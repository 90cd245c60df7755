/-
  THE PLAIN LAWS OF SEAT b6605556a: no Go in sight: the escape automaton, escapeLen and the string automaton over lists of byte values (Int).
-/
namespace Go.Proofs.Qxb6605556a.Pl

/-- c is one of the bytes of l. -/
def inB (c : Int) (l : List UInt8) : Bool := l.any fun b => ((b.toNat : Int) == c)

def shortL : List UInt8 := [34, 92, 47, 98, 102, 110, 114, 116]
def hexL : List UInt8 := [48, 49, 50, 51, 52, 53, 54, 55, 56, 57, 97, 98, 99, 100, 101, 102, 65, 66, 67, 68, 69, 70]

/-- The characters that may follow a backslash alone. -/
def sh (c : Int) : Bool := decide (c = 34 ∨ c = 92 ∨ c = 47 ∨ c = 98 ∨ c = 102 ∨ c = 110 ∨ c = 114 ∨ c = 116)
/-- A hexadecimal digit. -/
def hx (c : Int) : Bool := decide ((48 ≤ c ∧ c ≤ 57) ∨ (97 ≤ c ∧ c ≤ 102) ∨ (65 ≤ c ∧ c ≤ 70))

theorem inB_short (c : Int) : inB c shortL = sh c := by
  rw [Bool.eq_iff_iff]; simp [inB, shortL, sh]; omega
theorem inB_hex (c : Int) : inB c hexL = hx c := by
  rw [Bool.eq_iff_iff]; simp [inB, hexL, hx]; omega

/-- The escape automaton's step. -/
def estep (st c : Int) : Int :=
  if st = 1 then (if sh c = true then 0 else if c = 117 then 2 else -1)
  else if hx c = true then (if st = 5 then 0 else st + 1) else -1

/-- The escape automaton fed with a list from state st on; i: the index of the list's head. -/
def emod (st : Int) (i : Int) : List Int → Int
  | [] => 0
  | c :: cs => if estep st c < 0 then 0 else if estep st c = 0 then i + 1 else emod (estep st c) (i + 1) cs

/-- escapeLen. -/
def elen (zs : List Int) : Int :=
  if zs.length < 2 then 0
  else if sh (zs.getD 1 0) = true then 2
  else if zs.getD 1 0 = 117 then
    (if zs.length < 6 then 0
     else if hx (zs.getD 2 0) = true ∧ hx (zs.getD 3 0) = true ∧ hx (zs.getD 4 0) = true ∧ hx (zs.getD 5 0) = true then 6 else 0)
  else 0

theorem sh_117 : sh 117 = false := by decide

theorem estep_one_sh {c : Int} (h : sh c = true) : estep 1 c = 0 := by simp [estep, h]
theorem estep_one_u : estep 1 117 = 2 := by simp [estep, sh_117]
theorem estep_one_no {c : Int} (h : sh c = false) (h' : c ≠ 117) : estep 1 c = -1 := by simp [estep, h, h']
theorem estep_hx {st c : Int} (h1 : st ≠ 1) (h5 : st ≠ 5) (h : hx c = true) : estep st c = st + 1 := by simp [estep, h1, h5, h]
theorem estep_5 {c : Int} (h : hx c = true) : estep 5 c = 0 := by simp [estep, h]
theorem estep_no {st c : Int} (h1 : st ≠ 1) (h : hx c = false) : estep st c = -1 := by simp [estep, h1, h]

/-- ████ escapeLen IS THE ESCAPE AUTOMATON, from the second byte on. ████ -/
theorem elen_emod (zs : List Int) : elen zs = emod 1 1 (zs.drop 1) := by
  match zs with
  | [] => simp [elen, emod]
  | [a] => simp [elen, emod]
  | a :: b :: t =>
    cases hs : sh b with
    | true => simp [elen, emod, hs, estep_one_sh hs]
    | false =>
      by_cases hu : b = 117
      · subst hu
        match t with
        | [] => simp [elen, emod, hs, estep_one_u]
        | [c] => cases h2 : hx c <;> simp [elen, emod, hs, estep, h2]
        | [c, d] => cases h2 : hx c <;> cases h3 : hx d <;> simp [elen, emod, hs, estep, h2, h3]
        | [c, d, e] => cases h2 : hx c <;> cases h3 : hx d <;> cases h4 : hx e <;> simp [elen, emod, hs, estep, h2, h3, h4]
        | c :: d :: e :: f :: t' =>
          have l2 : ¬ (t'.length + 1 + 1 + 1 + 1 + 1 + 1 < 2) := by omega
          have l6 : ¬ (t'.length + 1 + 1 + 1 + 1 + 1 + 1 < 6) := by omega
          cases h2 : hx c <;> cases h3 : hx d <;> cases h4 : hx e <;> cases h5 : hx f <;> simp [elen, emod, hs, estep, h2, h3, h4, h5]
          rw [if_neg l2, if_neg l6]
      · simp [elen, emod, hs, hu, estep_one_no hs hu]

theorem elen_short (zs : List Int) (h : zs.length < 2) : elen zs = 0 := by simp [elen, h]
theorem elen_sh (zs : List Int) (h : ¬ zs.length < 2) (h1 : sh (zs.getD 1 0) = true) : elen zs = 2 := by
  rw [elen, if_neg h, if_pos h1]
theorem elen_other (zs : List Int) (h : ¬ zs.length < 2) (h1 : sh (zs.getD 1 0) = false) (h2 : zs.getD 1 0 ≠ 117) : elen zs = 0 := by
  rw [elen, if_neg h, if_neg (by rw [h1]; decide), if_neg h2]
theorem elen_u_short (zs : List Int) (h : ¬ zs.length < 2) (h2 : zs.getD 1 0 = 117) (h6 : zs.length < 6) : elen zs = 0 := by
  rw [elen, if_neg h, if_neg (by rw [h2]; simp [sh_117]), if_pos h2, if_pos h6]
theorem elen_u_hex (zs : List Int) (h6 : ¬ zs.length < 6) (h2 : zs.getD 1 0 = 117) (hh : ∀ j, j < 4 → hx (zs.getD (2 + j) 0) = true) : elen zs = 6 := by
  rw [elen, if_neg (by omega), if_neg (by rw [h2]; simp [sh_117]), if_pos h2, if_neg h6, if_pos ⟨hh 0 (by omega), hh 1 (by omega), hh 2 (by omega), hh 3 (by omega)⟩]
theorem elen_u_no (zs : List Int) (h6 : ¬ zs.length < 6) (h2 : zs.getD 1 0 = 117) (j : Nat) (hj : j < 4) (hh : hx (zs.getD (2 + j) 0) = false) : elen zs = 0 := by
  rw [elen, if_neg (by omega), if_neg (by rw [h2]; simp [sh_117]), if_pos h2, if_neg h6, if_neg]
  rintro ⟨a, b, c, d⟩
  match j, hj, hh with
  | 0, _, hh => rw [a] at hh; cases hh
  | 1, _, hh => rw [b] at hh; cases hh
  | 2, _, hh => rw [c] at hh; cases hh
  | 3, _, hh => rw [d] at hh; cases hh

/-- The string automaton from state st on; i: the index of the list's head; esc: an escape was met. -/
def smod (st : Int) (esc : Bool) (i : Int) : List Int → Option (Int × Bool)
  | [] => none
  | c :: cs =>
    if st = 0 then
      (if c = 34 then some (i, esc) else if c = 92 then smod 1 true (i + 1) cs else if c < 32 then none else smod 0 esc (i + 1) cs)
    else if estep st c < 0 then none else smod (estep st c) esc (i + 1) cs

/-- Behind a backslash: where the string automaton comes to an end, escapeLen is 2 or 6, and the automaton stands in state 0 behind the escape. -/
theorem smod_escape (a : Int) (t : List Int) (i : Int) (r : Int × Bool) (h : smod 1 true (i + 1) t = some r) :
    ∃ n : Nat, elen (a :: t) = n ∧ 2 ≤ n ∧ n ≤ (a :: t).length ∧ smod 0 true (i + n) ((a :: t).drop n) = some r := by
  match t with
  | [] => simp [smod] at h
  | b :: t =>
    cases hs : sh b with
    | true =>
      refine ⟨2, ?_, by omega, by simp, ?_⟩
      · simp [elen, hs]
      · simp [smod, estep_one_sh hs] at h
        rw [← h]; simp; congr 1; omega
    | false =>
      by_cases hu : b = 117
      · subst hu
        match t with
        | [] => simp [smod, estep_one_u] at h
        | [c] => cases h2 : hx c <;> simp [smod, hs, estep, h2] at h
        | [c, d] => cases h2 : hx c <;> cases h3 : hx d <;> simp [smod, hs, estep, h2, h3] at h
        | [c, d, e] => cases h2 : hx c <;> cases h3 : hx d <;> cases h4 : hx e <;> simp [smod, hs, estep, h2, h3, h4] at h
        | c :: d :: e :: f :: t' =>
          cases h2 : hx c <;> cases h3 : hx d <;> cases h4 : hx e <;> cases h5 : hx f <;> simp [smod, hs, estep, h2, h3, h4, h5] at h
          refine ⟨6, ?_, by omega, by simp, ?_⟩
          · simp [elen, hs, h2, h3, h4, h5]
            rw [if_neg (by omega), if_neg (by omega)]
          · rw [← h]; simp; congr 1; omega
      · simp [smod, estep_one_no hs hu] at h

end Go.Proofs.Qxb6605556a.Pl
