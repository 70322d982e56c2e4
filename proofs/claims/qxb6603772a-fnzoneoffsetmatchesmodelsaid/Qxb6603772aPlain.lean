/- The plain mathematics of the radix laws: no Go in sight. Bytes are numbers (Int). -/
namespace Go.Proofs.Qxb6603772a.Pl

/-- The value of a byte as a hexadecimal digit, 16 where it is none. -/
def hexD (c : Int) : Int :=
  if 48 ≤ c ∧ c ≤ 57 then c - 48 else if 97 ≤ c ∧ c ≤ 102 then c - 87 else if 65 ≤ c ∧ c ≤ 70 then c - 55 else 16

theorem hexD_bd (c : Int) : 0 ≤ hexD c ∧ hexD c ≤ 16 := by unfold hexD; omega

/-- The automaton: base b, limit L, 'the byte before was a digit', the value so far. -/
def rx (b L : Int) : Bool → Int → List Int → Option Int
  | pd, v, [] => if pd = true then some v else none
  | pd, v, c :: r =>
    if c = 95 then (if pd = true then rx b L false v r else none)
    else if hexD c < b then (if v < L then rx b L true (v * b + hexD c) r else none) else none

section
variable {b L v c d : Int} {pd : Bool} {l : List Int}
theorem rx_end : rx b L true v [] = some v := by simp [rx]
theorem rx_dig (h : c ≠ 95) (h1 : hexD c < b) (h2 : v < L) : rx b L pd v (c :: l) = rx b L true (v * b + hexD c) l := by simp [rx, h, h1, h2]
theorem rx_big (h : c ≠ 95) (h2 : L ≤ v) : rx b L pd v (c :: l) = none := by simp [rx, h, Int.not_lt.2 h2]
theorem rx_bad (h : c ≠ 95) (h1 : b ≤ hexD c) : rx b L pd v (c :: l) = none := by simp [rx, h, Int.not_lt.2 h1]
theorem rx_us (h : c = 95) : rx b L true v (c :: l) = rx b L false v l := by simp [rx, h]
theorem rx_us_no (h : c = 95) : rx b L false v (c :: l) = none := by simp [rx, h]
theorem rx_us_end (h : c = 95) : rx b L pd v [c] = none := by simp [rx, h]
theorem rx_us_us (h : c = 95) (h' : d = 95) : rx b L pd v (c :: d :: l) = none := by simp [rx, h, h']
end

/-- The two limits, and the greatest of 64 bits. -/
def L16 : Int := 1152921504606846976
def L2 : Int := 9223372036854775808
def M64 : Int := 18446744073709551615

/-- What radix answers for a body. -/
def fin (o : Option Int) : Int × Bool × Bool :=
  match o with
  | some v => (v, true, true)
  | none => (0, true, false)

/-- What radix answers. -/
def radixP (l : List Int) : Int × Bool × Bool :=
  if l.length < 2 then (0, false, false)
  else if l.getD 0 0 ≠ 48 then (0, false, false)
  else if l.getD 1 0 = 120 ∨ l.getD 1 0 = 88 then fin (rx 16 L16 false 0 (l.drop 2))
  else if l.getD 1 0 = 98 ∨ l.getD 1 0 = 66 then fin (rx 2 L2 false 0 (l.drop 2))
  else (0, false, false)

/-- A digit's value as the model's b1DigitOf gives it. -/
def dvP (b c : Int) : Int := if hexD c < b then hexD c else 0

/-- The model's first loop: the length of the group, the number of significant digits; none: refused. -/
def m1 (b : Int) : Int → Int → List Int → Option (Int × Int)
  | g, sg, [] => some (g, sg)
  | g, sg, c :: r =>
    if c = 95 then (if g = 0 then none else m1 b 0 sg r)
    else if hexD c < b then m1 b (g + 1) (if 0 < sg ∨ hexD c ≠ 0 then sg + 1 else sg) r else none

/-- The model's second loop: the value, modulo 2^64. -/
def m2 (b : Int) : Int → List Int → Int
  | v, [] => v
  | v, c :: r => if c = 95 then m2 b v r else m2 b ((v * b + dvP b c) % 18446744073709551616) r

/-- What the model answers for a body, behind the first loop. -/
def fm (b most : Int) (l : List Int) (o : Option (Int × Int)) : Int × Bool × Bool :=
  match o with
  | none => (0, true, false)
  | some p => if p.1 = 0 then (0, true, false) else if most < p.2 then (0, true, false) else (m2 b 0 l, true, true)

/-- What the model answers. -/
def modelP (l : List Int) : Int × Bool × Bool :=
  if l.length < 2 then (0, false, false)
  else if l.getD 0 0 ≠ 48 then (0, false, false)
  else if l.getD 1 0 = 120 ∨ l.getD 1 0 = 88 then fm 16 16 (l.drop 2) (m1 16 0 0 (l.drop 2))
  else if l.getD 1 0 = 98 ∨ l.getD 1 0 = 66 then fm 2 64 (l.drop 2) (m1 2 0 0 (l.drop 2))
  else (0, false, false)

section
variable {b L v c g sg : Int} {l : List Int}
theorem m1_us (h : c = 95) (hg : 0 < g) : m1 b g sg (c :: l) = m1 b 0 sg l := by simp [m1, h]; omega
theorem m1_us_no (h : c = 95) : m1 b 0 sg (c :: l) = none := by simp [m1, h]
theorem m1_bad (h : c ≠ 95) (h1 : b ≤ hexD c) : m1 b g sg (c :: l) = none := by simp [m1, h, Int.not_lt.2 h1]
theorem m1_sig (h : c ≠ 95) (h1 : hexD c < b) (h2 : 0 < sg ∨ hexD c ≠ 0) : m1 b g sg (c :: l) = m1 b (g + 1) (sg + 1) l := by simp [m1, h, h1, h2]
theorem m1_zero (h : c ≠ 95) (h1 : hexD c < b) (h2 : ¬ (0 < sg ∨ hexD c ≠ 0)) : m1 b g sg (c :: l) = m1 b (g + 1) sg l := by
  rw [m1, if_neg h, if_pos h1, if_neg h2]
theorem m2_us (h : c = 95) : m2 b v (c :: l) = m2 b v l := by simp [m2, h]
theorem m2_dig (h : c ≠ 95) : m2 b v (c :: l) = m2 b ((v * b + dvP b c) % 18446744073709551616) l := by simp [m2, h]
theorem dvP_bd (b c : Int) : 0 ≤ dvP b c ∧ dvP b c ≤ 16 := by have := hexD_bd c; unfold dvP; split <;> omega
end

/-! ### The law: the model and radix agree. 'mx': how many digits make 64 bits. 'v' has 'sg' digits. -/
/-- v is 0 and sg is 0, or v's digits in base b number sg. -/
def Sig (b v : Int) : Nat → Prop
  | 0 => v = 0
  | n + 1 => b ^ n ≤ v ∧ v < b ^ (n + 1)

end Go.Proofs.Qxb6603772a.Pl
