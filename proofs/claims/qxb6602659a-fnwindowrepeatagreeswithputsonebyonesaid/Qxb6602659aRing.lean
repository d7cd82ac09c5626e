/-
  Plain mathematics of the ring: no Go in sight.
-/
namespace Go.Proofs.Qxb6602659a.Ring

/-- The buffer after the first k bytes of s have been put, from place e on. -/
def puts (l : List Int) (e : Nat) (s : List Int) : Nat → List Int
  | 0 => l
  | k + 1 => (puts l e s k).set ((e + k) % l.length) (s.getD k 0)
theorem puts_length (l : List Int) (e : Nat) (s : List Int) (k : Nat) : (puts l e s k).length = l.length := by
  induction k with
  | zero => rfl
  | succ k ih => simp [puts, ih]

/-- The ring's distance of place q from place e. -/
def off (m e q : Nat) : Nat := if q < e then q + m - e else q - e
theorem off_lt {m e q : Nat} (he : e < m) (hq : q < m) : off m e q < m := by unfold off; split <;> omega
theorem off_eq {m e q : Nat} (he : e < m) (hq : q < m) : (e + off m e q) % m = q := by
  unfold off
  split
  · rw [show e + (q + m - e) = q + m by omega, Nat.add_mod_right, Nat.mod_eq_of_lt hq]
  · rw [show e + (q - e) = q by omega, Nat.mod_eq_of_lt hq]
theorem off_iff {m e q n : Nat} (he : e < m) (hq : q < m) : (e + n) % m = q ↔ off m e q = n % m := by
  have h0 : 0 < m := by omega
  have hn := Nat.mod_lt n h0
  have hd := off_lt he hq
  have e1 : (e + n) % m = (e + n % m) % m := by simp [Nat.add_mod]
  rw [e1]
  constructor
  · intro h
    by_cases hc : e + n % m < m
    · rw [Nat.mod_eq_of_lt hc] at h
      unfold off
      rw [if_neg (by omega)]; omega
    · have : (e + n % m) % m = e + n % m - m := by
        rw [Nat.mod_eq_sub_mod (by omega), Nat.mod_eq_of_lt (by omega)]
      rw [this] at h
      unfold off
      rw [if_pos (by omega)]; omega
  · intro h
    rw [← h]
    exact off_eq he hq

theorem step_hit {m n d : Nat} (h0 : 0 < m) (h : d = n % m) : d < n + 1 ∧ d + m * ((n - d) / m) = n := by
  subst h
  have := Nat.mod_add_div n m
  have hle := Nat.mod_le n m
  refine ⟨by omega, ?_⟩
  have e : n - n % m = m * (n / m) := by omega
  rw [e, Nat.mul_div_cancel_left _ h0]
  exact this
theorem step_miss {m n d : Nat} (hd : d < m) (h : d ≠ n % m) (hn : d < n + 1) : d < n ∧ (n - d) / m = (n - 1 - d) / m := by
  have hdn : d ≠ n := by
    intro e
    subst e
    exact h (Nat.mod_eq_of_lt hd).symm
  have hlt : d < n := by omega
  refine ⟨hlt, ?_⟩
  obtain ⟨t, ht⟩ : ∃ t, n = d + 1 + t := ⟨n - d - 1, by omega⟩
  have e1 : n - d = t + 1 := by omega
  have e2 : n - 1 - d = t := by omega
  rw [e1, e2, Nat.succ_div]
  split
  · rename_i hdv
    exfalso
    obtain ⟨c, hc⟩ := hdv
    apply h
    have : n = d + m * c := by omega
    rw [this, Nat.add_mul_mod_self_left, Nat.mod_eq_of_lt hd]
  · rfl

/-- THE CLOSED FORM: each cell holds the last byte that fell on it. -/
theorem puts_at (l : List Int) (e : Nat) (s : List Int) (he : e < l.length) (n q : Nat) (hq : q < l.length) :
    (puts l e s n).getD q 0 = if off l.length e q < n then s.getD (off l.length e q + l.length * ((n - 1 - off l.length e q) / l.length)) 0 else l.getD q 0 := by
  induction n with
  | zero => simp [puts]
  | succ n ih =>
    have hd := off_lt he hq
    have hlen := puts_length l e s n
    have h0 : 0 < l.length := by omega
    show ((puts l e s n).set ((e + n) % l.length) (s.getD n 0)).getD q 0 = _
    by_cases hc : (e + n) % l.length = q
    · have h2 := (off_iff he hq).1 hc
      obtain ⟨h3, h4⟩ := step_hit h0 h2
      rw [if_pos h3, show n + 1 - 1 - off l.length e q = n - off l.length e q by omega, h4, hc]
      simp [List.getD, hlen, hq]
    · have h2 : off l.length e q ≠ n % l.length := fun h => hc ((off_iff he hq).2 h)
      have e1 : ((puts l e s n).set ((e + n) % l.length) (s.getD n 0)).getD q 0 = (puts l e s n).getD q 0 := by
        simp [List.getD, List.getElem?_set_ne hc]
      rw [e1, ih]
      by_cases h5 : off l.length e q < n + 1
      · obtain ⟨h6, h7⟩ := step_miss hd h2 h5
        rw [if_pos h6, if_pos h5, show n + 1 - 1 - off l.length e q = n - off l.length e q by omega, h7]
      · rw [if_neg h5, if_neg (by omega)]

theorem next_mod {m e k : Nat} (h0 : 0 < m) : (if (e + k) % m + 1 = m then 0 else (e + k) % m + 1) = (e + (k + 1)) % m := by
  have hlt := Nat.mod_lt (e + k) h0
  rw [← Nat.add_assoc, Nat.add_mod (e + k) 1 m]
  by_cases h1 : m = 1
  · subst h1; simp [Nat.mod_one]
  · rw [Nat.mod_eq_of_lt (a := 1) (by omega)]
    split
    · rename_i h; rw [h, Nat.mod_self]
    · exact (Nat.mod_eq_of_lt (a := (e + k) % m + 1) (by omega)).symm
theorem next_min {m f k : Nat} : (if min (f + k) m < m then min (f + k) m + 1 else min (f + k) m) = min (f + (k + 1)) m := by
  split <;> omega
end Go.Proofs.Qxb6602659a.Ring
