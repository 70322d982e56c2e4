/- The plain law: zoneOffset's answer is that of the model. -/
import Derived.Test.Qxb6603772aAccept
namespace Go.Proofs.Qxb6603772a.Zn
open Go.PlainAid Go.Proofs.Qxb6603772a.Bs Go.Proofs.Qxb6603772a.Wk

theorem sp_dig {c : Int} (h : digB c = true) : spB c = false := by
  simp [digB] at h
  simp [spB]
  omega

theorem dig_sp {c : Int} (h : spB c = true) : digB c = false := by
  simp [spB] at h
  simp [digB]
  omega

theorem Wh_iff {B : Nat → Int} {n m : Nat} (ht : Trim B n m) (p : Nat) : Wh B n p ↔ m ≤ p := by
  constructor
  · intro h
    rcases Nat.lt_or_ge p m with e | e
    · have h1 := ht.2.2
      have h2 := ht.1
      rcases h1 with h1 | h1
      · omega
      · rw [h (m - 1) (by omega) (by omega)] at h1
        cases h1
    · exact e
  · intro h j h1 h2
    exact ht.2.1 j (by omega) h2

/-- A byte that is no white space lies ahead of the trimmed end. -/
theorem Trim_lt {B : Nat → Int} {n m : Nat} (ht : Trim B n m) (j : Nat) (hj : j < n) (h : spB (B j) = false) : j < m := by
  rcases Nat.lt_or_ge j m with e | e
  · exact e
  · rw [ht.2.1 j e hj] at h
    cases h

/-- Behind the trimmed end stands no digit, no colon. -/
theorem Trim_end {B : Nat → Int} {n m : Nat} (hz : ∀ k, n ≤ k → B k = 0) (ht : Trim B n m) (j : Nat) (hj : m ≤ j) : digB (B j) = false := by
  rcases Nat.lt_or_ge j n with e | e
  · exact dig_sp (ht.2.1 j hj e)
  · rw [hz j e]; rfl

theorem sign_law {B : Nat → Int} {n m d : Nat} {off : Int} {ok : Bool} (hz : ∀ k, n ≤ k → B k = 0) (ht : Trim B n m) (hc : B 0 = 43 ∨ B 0 = 45) (hr : IsRun B 1 d) (hn : 1 + d ≤ n) (h : ZSign B n d off ok) :
    ok = true ↔ Acc B m := by
  have lt : ∀ j, digB (B j) = true → j < m := by
    intro j hj
    refine Trim_lt ht j ?_ (sp_dig hj)
    rcases Nat.lt_or_ge j n with e | e
    · exact e
    · rw [hz j e] at hj; cases hj
  have dd : ∀ j, j < d → digB (B (1 + j)) = true := hr.1
  have de : digB (B (1 + d)) = false := hr.2
  have dno : ∀ j, digB (B j) = true → ¬ (B j = 58) := by
    intro j hj e
    rw [e] at hj
    cases hj
  rcases h with ⟨rfl, f3, _, hok⟩ | ⟨rfl, f3, f6, _, hok⟩ | ⟨rfl, f3, f6, _, hok⟩ | ⟨rfl, _, hok⟩ | ⟨h2, h4, _, rfl⟩
  · have g1 : digB (B 1) = true := dd 0 (by omega)
    have g2 : digB (B 2) = true := dd 1 (by omega)
    have l2 := lt 2 g2
    have g3 : digB (B 3) = false := de
    rw [hok, Wh_iff ht]
    constructor
    · intro h
      obtain rfl : 3 = m := by omega
      exact .inr (.inl ⟨rfl, hc, g1, g2⟩)
    · rintro (⟨h, _⟩ | ⟨h, _⟩ | ⟨_, h, _⟩ | ⟨_, _, _, _, h, _⟩ | ⟨_, _, _, _, h1, h2, h3⟩ | ⟨_, _, _, _, h1, h2, h3, _⟩)
      · omega
      · omega
      · omega
      · rw [g3] at h; cases h
      · exact (f3 ⟨h1, h2, h3⟩).elim
      · exact (f3 ⟨h1, h2, h3⟩).elim
  · have g1 : digB (B 1) = true := dd 0 (by omega)
    have g2 : digB (B 2) = true := dd 1 (by omega)
    have l5 := lt 5 f3.2.2
    rw [hok, Wh_iff ht]
    constructor
    · intro h
      obtain rfl : 6 = m := by omega
      exact .inr (.inr (.inr (.inr (.inl ⟨rfl, hc, g1, g2, f3.1, f3.2.1, f3.2.2⟩))))
    · rintro (⟨h, _⟩ | ⟨h, _⟩ | ⟨h, _⟩ | ⟨h, _⟩ | ⟨h, _⟩ | ⟨_, _, _, _, _, _, _, h1, h2, h3⟩)
      · omega
      · omega
      · omega
      · omega
      · omega
      · exact (f6 ⟨h1, h2, h3⟩).elim
  · have g1 : digB (B 1) = true := dd 0 (by omega)
    have g2 : digB (B 2) = true := dd 1 (by omega)
    have l8 := lt 8 f6.2.2
    rw [hok, Wh_iff ht]
    constructor
    · intro h
      obtain rfl : 9 = m := by omega
      exact .inr (.inr (.inr (.inr (.inr ⟨rfl, hc, g1, g2, f3.1, f3.2.1, f3.2.2, f6.1, f6.2.1, f6.2.2⟩))))
    · rintro (⟨h, _⟩ | ⟨h, _⟩ | ⟨h, _⟩ | ⟨h, _⟩ | ⟨h, _⟩ | ⟨h, _⟩) <;> omega
  · have g1 : digB (B 1) = true := dd 0 (by omega)
    have g2 : digB (B 2) = true := dd 1 (by omega)
    have g3 : digB (B 3) = true := dd 2 (by omega)
    have g4 : digB (B 4) = true := dd 3 (by omega)
    have l4 := lt 4 g4
    rw [hok, Wh_iff ht]
    constructor
    · intro h
      obtain rfl : 5 = m := by omega
      exact .inr (.inr (.inr (.inl ⟨rfl, hc, g1, g2, g3, g4⟩)))
    · rintro (⟨h, _⟩ | ⟨h, _⟩ | ⟨h, _⟩ | ⟨h, _⟩ | ⟨_, _, _, _, h, _⟩ | ⟨_, _, _, _, h, _⟩)
      · omega
      · omega
      · omega
      · omega
      · exact (dno 3 g3 h).elim
      · exact (dno 3 g3 h).elim
  · constructor
    · intro h; cases h
    · intro h
      exfalso
      have run2 : digB (B 1) = true → digB (B 2) = true → digB (B 3) = false → False := by
        intro a1 a2 a3
        exact h2 (run_unique hr ⟨fun j hj => by rcases (show j = 0 ∨ j = 1 by omega) with rfl | rfl; exact a1; exact a2, a3⟩)
      rcases h with ⟨_, h⟩ | ⟨rfl, _, a1, a2⟩ | ⟨_, h, _⟩ | ⟨rfl, _, a1, a2, a3, a4⟩ | ⟨rfl, _, a1, a2, a3, _⟩ | ⟨rfl, _, a1, a2, a3, _⟩
      · omega
      · exact run2 a1 a2 (Trim_end hz ht 3 (by omega))
      · omega
      · exact h4 (run_unique hr ⟨fun j hj => by rcases (show j = 0 ∨ j = 1 ∨ j = 2 ∨ j = 3 by omega) with rfl | rfl | rfl | rfl; exact a1; exact a2; exact a3; exact a4, Trim_end hz ht 5 (by omega)⟩)
      · exact run2 a1 a2 (by rw [a3]; rfl)
      · exact run2 a1 a2 (by rw [a3]; rfl)

theorem or_letter (c l u : Int) (h0 : 0 ≤ c) (h1 : c ≤ 255) (hl : u + 32 = l) (hu : 64 < u) (hu2 : u < 91) : bits .or .u8 c 32 = l ↔ c = l ∨ c = u := by
  rw [or32 c h0 h1]
  split <;> omega

theorem space_law {B : Nat → Int} {n m e : Nat} {ok : Bool} (hby : ∀ k, 0 ≤ B k ∧ B k ≤ 255) (ht : Trim B n m) (hn : 0 < n) (hc : B 0 = 32) (h1 : 1 ≤ e) (h2 : e ≤ n) (hall : ∀ j, 1 ≤ j → j < e → spB (B j) = false) (hend : e = n ∨ spB (B e) = true)
    (hok : ok = true ↔ (e = 1 ∨ (e = 4 ∧ bits .or .u8 (B 1) 32 = 117 ∧ bits .or .u8 (B 2) 32 = 116 ∧ bits .or .u8 (B 3) 32 = 99)) ∧ Wh B n e) :
    ok = true ↔ (m = 0 ∨ Acc B m) := by
  have w0 : spB (B 0) = true := by rw [hc]; rfl
  have b1 := hby 1
  have b2 := hby 2
  have b3 := hby 3
  rw [hok, Wh_iff ht, or_letter (B 1) 117 85 b1.1 b1.2 (by omega) (by omega) (by omega), or_letter (B 2) 116 84 b2.1 b2.2 (by omega) (by omega) (by omega), or_letter (B 3) 99 67 b3.1 b3.2 (by omega) (by omega) (by omega)]
  constructor
  · rintro ⟨rfl | ⟨rfl, l1, l2, l3⟩, hm⟩
    · left
      rcases (show m = 0 ∨ m = 1 by omega) with h | h
      · exact h
      · subst h
        rcases ht.2.2 with h | h
        · exact h
        · rw [show 1 - 1 = 0 from rfl, w0] at h; cases h
    · right
      have := Trim_lt ht 3 (by omega) (hall 3 (by omega) (by omega))
      obtain rfl : 4 = m := by omega
      exact .inr (.inr (.inl ⟨rfl, hc, l1, l2, l3⟩))
  · rintro (rfl | ha)
    · refine ⟨.inl ?_, by omega⟩
      rcases Nat.lt_or_ge 1 e with h | h
      · have := hall 1 (by omega) h
        rw [ht.2.1 1 (by omega) (by omega)] at this
        cases this
      · omega
    · rcases ha with ⟨_, h⟩ | ⟨_, h, _⟩ | ⟨rfl, _, l1, l2, l3⟩ | ⟨_, h, _⟩ | ⟨_, h, _⟩ | ⟨_, h, _⟩
      · omega
      · omega
      · have n1 : spB (B 1) = false := by simp [spB]; omega
        have n2 : spB (B 2) = false := by simp [spB]; omega
        have n3 : spB (B 3) = false := by simp [spB]; omega
        have hn4 := ht.1
        have e4 : e = 4 := by
          rcases Nat.lt_trichotomy e 4 with h | h | h
          · exfalso
            rcases hend with h' | h'
            · omega
            · rcases (show e = 1 ∨ e = 2 ∨ e = 3 by omega) with rfl | rfl | rfl
              · rw [n1] at h'; cases h'
              · rw [n2] at h'; cases h'
              · rw [n3] at h'; cases h'
          · exact h
          · have := hall 4 (by omega) h
            rw [ht.2.1 4 (by omega) (by omega)] at this
            cases this
        exact ⟨.inr ⟨e4, l1, l2, l3⟩, by omega⟩
      · omega
      · omega
      · omega

theorem Acc_pfx {s t : ByteArray} {m : Nat} (hp : Pfx s t m) : Acc (bt t) m ↔ Acc (bt s) m := by
  have e := hp.2.2
  clear hp
  unfold Acc
  constructor
  · rintro (⟨rfl, h⟩ | ⟨rfl, h⟩ | ⟨rfl, h⟩ | ⟨rfl, h⟩ | ⟨rfl, h⟩ | ⟨rfl, h⟩)
    · rw [e 0 (by omega)] at h; exact .inl ⟨rfl, h⟩
    · rw [e 0 (by omega), e 1 (by omega), e 2 (by omega)] at h; exact .inr (.inl ⟨rfl, h⟩)
    · rw [e 0 (by omega), e 1 (by omega), e 2 (by omega), e 3 (by omega)] at h; exact .inr (.inr (.inl ⟨rfl, h⟩))
    · rw [e 0 (by omega), e 1 (by omega), e 2 (by omega), e 3 (by omega), e 4 (by omega)] at h; exact .inr (.inr (.inr (.inl ⟨rfl, h⟩)))
    · rw [e 0 (by omega), e 1 (by omega), e 2 (by omega), e 3 (by omega), e 4 (by omega), e 5 (by omega)] at h; exact .inr (.inr (.inr (.inr (.inl ⟨rfl, h⟩))))
    · rw [e 0 (by omega), e 1 (by omega), e 2 (by omega), e 3 (by omega), e 4 (by omega), e 5 (by omega), e 6 (by omega), e 7 (by omega), e 8 (by omega)] at h; exact .inr (.inr (.inr (.inr (.inr ⟨rfl, h⟩))))
  · rintro (⟨rfl, h⟩ | ⟨rfl, h⟩ | ⟨rfl, h⟩ | ⟨rfl, h⟩ | ⟨rfl, h⟩ | ⟨rfl, h⟩)
    · rw [← e 0 (by omega)] at h; exact .inl ⟨rfl, h⟩
    · rw [← e 0 (by omega), ← e 1 (by omega), ← e 2 (by omega)] at h; exact .inr (.inl ⟨rfl, h⟩)
    · rw [← e 0 (by omega), ← e 1 (by omega), ← e 2 (by omega), ← e 3 (by omega)] at h; exact .inr (.inr (.inl ⟨rfl, h⟩))
    · rw [← e 0 (by omega), ← e 1 (by omega), ← e 2 (by omega), ← e 3 (by omega), ← e 4 (by omega)] at h; exact .inr (.inr (.inr (.inl ⟨rfl, h⟩)))
    · rw [← e 0 (by omega), ← e 1 (by omega), ← e 2 (by omega), ← e 3 (by omega), ← e 4 (by omega), ← e 5 (by omega)] at h; exact .inr (.inr (.inr (.inr (.inl ⟨rfl, h⟩))))
    · rw [← e 0 (by omega), ← e 1 (by omega), ← e 2 (by omega), ← e 3 (by omega), ← e 4 (by omega), ← e 5 (by omega), ← e 6 (by omega), ← e 7 (by omega), ← e 8 (by omega)] at h; exact .inr (.inr (.inr (.inr (.inr ⟨rfl, h⟩))))

/-- The number. -/
theorem same_off {B : Nat → Int} {n : Nat} {off v : Int} {ok : Bool} (hz : ZS B n off ok) (hh : HeadOf B n v) : off = v := by
  rcases hh with ⟨hc, rfl⟩ | ⟨hn, hc, d, hr, hv⟩
  · rcases hz with ⟨_, h, _⟩ | ⟨_, _, h, _⟩ | ⟨h1, h2, _⟩ | ⟨_, _, h, _⟩ | ⟨_, _, _, _, _, h, _⟩
    · exact h
    · exact h
    · omega
    · exact h
    · exact h
  · have hs := zs_sign hc hn hr hz
    rcases hs with ⟨rfl, f3, h, _⟩ | ⟨rfl, f3, f6, h, _⟩ | ⟨rfl, f3, f6, h, _⟩ | ⟨rfl, h, _⟩ | ⟨h2, h4, h, _⟩
    · rcases hv with ⟨_, _, h'⟩ | ⟨_, f, _, _⟩ | ⟨_, f, _, _⟩ | ⟨f, _⟩ | ⟨f, _⟩
      · rw [h, h']
      · exact (f3 f).elim
      · exact (f3 f).elim
      · omega
      · omega
    · rcases hv with ⟨_, f, _⟩ | ⟨_, _, _, h'⟩ | ⟨_, _, f, _⟩ | ⟨f, _⟩ | ⟨f, _⟩
      · exact (f f3).elim
      · rw [h, h']
      · exact (f6 f).elim
      · omega
      · omega
    · rcases hv with ⟨_, f, _⟩ | ⟨_, _, f, _⟩ | ⟨_, _, _, h'⟩ | ⟨f, _⟩ | ⟨f, _⟩
      · exact (f f3).elim
      · exact (f f6).elim
      · rw [h, h']
      · omega
      · omega
    · rcases hv with ⟨f, _⟩ | ⟨f, _⟩ | ⟨f, _⟩ | ⟨_, h'⟩ | ⟨_, f, _⟩
      · omega
      · omega
      · omega
      · rw [h, h']
      · omega
    · rcases hv with ⟨f, _⟩ | ⟨f, _⟩ | ⟨f, _⟩ | ⟨f, _⟩ | ⟨_, _, h'⟩
      · omega
      · omega
      · omega
      · omega
      · rw [h, h']

/-- The verdict. -/
theorem same_ok {s : ByteArray} {off : Int} {ok b : Bool} (hz : ZS (bt s) s.size off ok) (hb : AccAny s b) : ok = b := by
  rw [Bool.eq_iff_iff]
  rcases hb with ⟨h0, rfl⟩ | ⟨h0, m, t, ht, hp, hb⟩
  · rcases hz with ⟨_, _, rfl⟩ | ⟨h, _⟩ | ⟨h, _⟩ | ⟨h, _⟩ | ⟨h, _⟩
    · exact Iff.rfl
    · omega
    · omega
    · omega
    · omega
  · have hb' : b = true ↔ (m = 0 ∧ bt s 0 = 32) ∨ Acc (bt s) m := by
      rcases hb with ⟨rfl, hb⟩ | ⟨hm, hb⟩
      · rw [hb]
        constructor
        · intro h; exact .inl ⟨rfl, h⟩
        · rintro (⟨_, h⟩ | h)
          · exact h
          · unfold Acc at h; omega
      · rw [hb, Acc_pfx hp]
        constructor
        · intro h; exact .inr h
        · rintro (⟨h, _⟩ | h)
          · omega
          · exact h
    rw [hb']
    have hzero : ∀ k, s.size ≤ k → bt s k = 0 := fun k hk => bt_end s hk
    rcases hz with ⟨h, _⟩ | ⟨_, c, _, hok⟩ | ⟨_, c, d, hr, hd, hs⟩ | ⟨_, c, _, e, h1, h2, h3, h4, hok⟩ | ⟨_, c1, c2, c3, c4, _, rfl⟩
    · omega
    · rw [hok, Wh_iff ht]
      have := Trim_lt ht 0 h0 (by rw [c]; rfl)
      constructor
      · intro h
        obtain rfl : 1 = m := by omega
        exact .inr (.inl ⟨rfl, c⟩)
      · rintro (⟨h, _⟩ | ⟨h, _⟩ | ⟨_, h, _⟩ | ⟨_, h, _⟩ | ⟨_, h, _⟩ | ⟨_, h, _⟩ | ⟨_, h, _⟩) <;> omega
    · rw [sign_law hzero ht c hr hd hs]
      constructor
      · intro h; exact .inr h
      · rintro (⟨_, h⟩ | h)
        · omega
        · exact h
    · rw [space_law (fun k => ⟨bt_nonneg s k, bt_le s k⟩) ht h0 c h1 h2 h3 h4 hok]
      constructor
      · rintro (h | h)
        · exact .inl ⟨h, c⟩
        · exact .inr h
      · rintro (⟨h, _⟩ | h)
        · exact .inl h
        · exact .inr h
    · constructor
      · intro h; cases h
      · rintro (⟨_, h⟩ | ⟨_, h⟩ | ⟨_, h, _⟩ | ⟨_, h, _⟩ | ⟨_, h, _⟩ | ⟨_, h, _⟩ | ⟨_, h, _⟩) <;> omega

end Go.Proofs.Qxb6603772a.Zn
