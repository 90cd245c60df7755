/-
  THE PLAIN MODEL OF SEAT b6003712aD: an extended community as eight numbers; its kind; no Go in sight.
-/
namespace Go.Proofs.Qxb6003712aDoor.Pl

/-- An extended community: its eight octets. -/
structure Com where
  a0 : Int
  a1 : Int
  a2 : Int
  a3 : Int
  a4 : Int
  a5 : Int
  a6 : Int
  a7 : Int

/-- Each octet is one. -/
def Com.ok (c : Com) : Prop := (0 ≤ c.a0 ∧ c.a0 ≤ 255) ∧ (0 ≤ c.a1 ∧ c.a1 ≤ 255) ∧ (0 ≤ c.a2 ∧ c.a2 ≤ 255) ∧ (0 ≤ c.a3 ∧ c.a3 ≤ 255) ∧ (0 ≤ c.a4 ∧ c.a4 ≤ 255) ∧ (0 ≤ c.a5 ∧ c.a5 ≤ 255) ∧ (0 ≤ c.a6 ∧ c.a6 ≤ 255) ∧ (0 ≤ c.a7 ∧ c.a7 ≤ 255)

/-- The registries' table. -/
def kindI (a0 a1 : Int) : Int :=
  if a0 ≤ 2 ∧ a1 = 2 then 1 else if a0 = 3 ∧ a1 = 12 then 2 else if a0 = 3 ∧ a1 = 13 then 3 else if a0 = 6 ∧ a1 < 5 then a1 + 4 else 0

def Com.kind (c : Com) : Int := kindI c.a0 c.a1
/-- The tunnel type. -/
def Com.tt (c : Com) : Int := c.a6 * 256 + c.a7
def Com.enc (c : Com) : Bool := c.a0 == 3 && c.a1 == 12

/-- The ways through the table. -/
theorem kind_ways (a0 a1 : Int) :
    ((decide (a0 ≤ 2) = true ∧ (a0 == 3) = false ∧ (a0 == 6) = false) ∧ (a1 == 2) = true ∧ kindI a0 a1 = 1) ∨
    ((decide (a0 ≤ 2) = true ∧ (a0 == 3) = false ∧ (a0 == 6) = false) ∧ (a1 == 2) = false ∧ kindI a0 a1 = 0) ∨
    ((decide (a0 ≤ 2) = false ∧ (a0 == 3) = true ∧ (a0 == 6) = false) ∧ (a1 == 12) = true ∧ kindI a0 a1 = 2) ∨
    ((decide (a0 ≤ 2) = false ∧ (a0 == 3) = true ∧ (a0 == 6) = false) ∧ ((a1 == 12) = false ∧ (a1 == 13) = true) ∧ kindI a0 a1 = 3) ∨
    ((decide (a0 ≤ 2) = false ∧ (a0 == 3) = true ∧ (a0 == 6) = false) ∧ ((a1 == 12) = false ∧ (a1 == 13) = false) ∧ kindI a0 a1 = 0) ∨
    ((decide (a0 ≤ 2) = false ∧ (a0 == 3) = false ∧ (a0 == 6) = true) ∧ (a1 < 5 ∧ decide (a1 < 5) = true) ∧ kindI a0 a1 = a1 + 4) ∨
    ((decide (a0 ≤ 2) = false ∧ (a0 == 3) = false ∧ (a0 == 6) = true) ∧ (decide (a1 < 5) = false) ∧ kindI a0 a1 = 0) ∨
    ((decide (a0 ≤ 2) = false ∧ (a0 == 3) = false ∧ (a0 == 6) = false) ∧ kindI a0 a1 = 0) := by
  unfold kindI
  by_cases h2 : a0 ≤ 2
  · by_cases k2 : a1 = 2
    · simp [h2, k2]; omega
    · simp [h2, k2]; omega
  · by_cases h3 : a0 = 3
    · subst h3
      by_cases k12 : a1 = 12
      · simp [k12]
      · by_cases k13 : a1 = 13
        · simp [k13]
        · simp [k12, k13]
    · by_cases h6 : a0 = 6
      · subst h6
        by_cases k5 : a1 < 5
        · simp [k5]
        · simp [k5]
      · simp [h2, h3, h6]

end Go.Proofs.Qxb6003712aDoor.Pl
