/-
  Plain mathematics of a match that repeats: no Go in sight.
-/
import Derived.Test.Qxb6602659aRing
namespace Go.Proofs.Qxb6602659a.Ring

/-- Where the byte stands that is 'dist' places back of place e. -/
def back (m dist e : Nat) : Nat := if dist ≤ e then e - dist else e + m - dist
theorem back_lt {m dist e : Nat} (he : e < m) (hd : 0 < dist) : back m dist e < m := by unfold back; split <;> omega
/-- The buffer after k bytes of the match. -/
def rep (l : List Int) (e dist : Nat) : Nat → List Int
  | 0 => l
  | k + 1 => (rep l e dist k).set ((e + k) % l.length) ((rep l e dist k).getD (back l.length dist ((e + k) % l.length)) 0)
theorem rep_length (l : List Int) (e dist k : Nat) : (rep l e dist k).length = l.length := by
  induction k with
  | zero => rfl
  | succ k ih => simp [rep, ih]

theorem add_mod_lt {m e j r : Nat} (h : (e + j) % m + r < m) : (e + (j + r)) % m = (e + j) % m + r := by
  rw [← Nat.add_assoc, Nat.add_mod, Nat.mod_eq_of_lt (a := r) (by omega), Nat.mod_eq_of_lt h]

/-- A run of r bytes that neither wraps nor reaches the bytes it adds is one copy. -/
theorem rep_run (l : List Int) (e dist j r : Nat) (hdm : dist ≤ l.length) (hm : 0 < l.length) (h1 : (e + j) % l.length + r ≤ l.length) (h2 : r ≤ dist) (h3 : back l.length dist ((e + j) % l.length) + r ≤ l.length) (q : Nat) (hq : q < l.length) :
    (rep l e dist (j + r)).getD q 0 = if (e + j) % l.length ≤ q ∧ q < (e + j) % l.length + r then (rep l e dist j).getD (back l.length dist ((e + j) % l.length) + (q - (e + j) % l.length)) 0 else (rep l e dist j).getD q 0 := by
  induction r generalizing q with
  | zero => rw [if_neg (by omega)]; rfl
  | succ r ih =>
    have ih' := ih (by omega) (by omega) (by omega)
    have hlt := Nat.mod_lt (e + j) hm
    generalize hE : (e + j) % l.length = E at *
    have e1 : (e + (j + r)) % l.length = E + r := by rw [← hE]; exact add_mod_lt (by omega)
    have e2 : back l.length dist (E + r) = back l.length dist E + r ∧ ¬ (E ≤ back l.length dist E + r ∧ back l.length dist E + r < E + r) := by
      by_cases hc : dist ≤ E
      · simp only [back, hc, if_true, show dist ≤ E + r by omega] at h3 ⊢
        omega
      · simp only [back, hc, if_false] at h3 ⊢
        rw [if_neg (by omega)]
        omega
    obtain ⟨e2, e2'⟩ := e2
    have hb : back l.length dist E + r < l.length := by omega
    have e3 : (rep l e dist (j + r)).getD (back l.length dist E + r) 0 = (rep l e dist j).getD (back l.length dist E + r) 0 := by
      rw [ih' _ hb, if_neg e2']
    show ((rep l e dist (j + r)).set ((e + (j + r)) % l.length) ((rep l e dist (j + r)).getD (back l.length dist ((e + (j + r)) % l.length)) 0)).getD q 0 = _
    rw [e1, e2, e3]
    have hlen := rep_length l e dist (j + r)
    by_cases hc : E + r = q
    · subst hc
      rw [if_pos (by omega), show E + r - E = r by omega]
      simp [List.getD, hlen, hq]
    · have e4 : ∀ v : Int, ((rep l e dist (j + r)).set (E + r) v).getD q 0 = (rep l e dist (j + r)).getD q 0 := by
        intro v; simp [List.getD, List.getElem?_set_ne hc]
      rw [e4, ih' q hq]
      by_cases h5 : E ≤ q ∧ q < E + r
      · rw [if_pos h5, if_pos (by omega)]
      · rw [if_neg h5, if_neg (by omega)]

/-- THE CLOSED FORM of a match of at most the ring's length. -/
theorem rep_at (l : List Int) (e dist : Nat) (he : e < l.length) (hd : 0 < dist) (hdm : dist ≤ l.length) (k q : Nat) (hk : k ≤ l.length) (hq : q < l.length) :
    (rep l e dist k).getD q 0 = if off l.length e q < k then l.getD ((e + l.length - dist + off l.length e q % dist) % l.length) 0 else l.getD q 0 := by
  induction k generalizing q with
  | zero => simp [rep]
  | succ k ih =>
    have hlen := rep_length l e dist k
    have ho := off_lt he hq
    show ((rep l e dist k).set ((e + k) % l.length) ((rep l e dist k).getD (back l.length dist ((e + k) % l.length)) 0)).getD q 0 = _
    have hE := Nat.mod_lt (e + k) (show 0 < l.length by omega)
    by_cases hc : (e + k) % l.length = q
    · have h2 := (off_iff he hq).1 hc
      rw [Nat.mod_eq_of_lt (show k < l.length by omega)] at h2
      rw [if_pos (by omega), h2, hc]
      have e0 : ((rep l e dist k).set q ((rep l e dist k).getD (back l.length dist q) 0)).getD q 0 = (rep l e dist k).getD (back l.length dist q) 0 := by
        simp [List.getD, hlen, hq]
      have hb : back l.length dist q < l.length := back_lt hq hd
      rw [e0, ih _ (by omega) hb]
      by_cases hkd : dist ≤ k
      · have e1 : off l.length e (back l.length dist q) = k - dist := by
          unfold off at h2 ⊢
          unfold back
          repeat' split
          all_goals (split at h2 <;> omega)
        rw [e1, if_pos (by omega), ← Nat.mod_eq_sub_mod hkd]
      · have e1 : off l.length e (back l.length dist q) = k + l.length - dist := by
          unfold off at h2 ⊢
          unfold back
          repeat' split
          all_goals (split at h2 <;> omega)
        rw [e1, if_neg (by omega), Nat.mod_eq_of_lt (show k < dist by omega)]
        congr 1
        have hk2 : (e + l.length - dist + k) = (e + k) + (l.length - dist) := by omega
        rw [hk2, Nat.add_mod, hc]
        by_cases hdl : dist = l.length
        · subst hdl
          unfold back
          rw [if_neg (by omega)]
          simp
          rw [Nat.mod_eq_of_lt hq]
        · rw [Nat.mod_eq_of_lt (a := l.length - dist) (by omega)]
          unfold back
          split
          · rw [Nat.mod_eq_sub_mod (by omega), Nat.mod_eq_of_lt (by omega)]; omega
          · rw [Nat.mod_eq_of_lt (by omega)]; omega
    · have h2 : off l.length e q ≠ k := by
        intro h
        apply hc
        rw [off_iff he hq, h, Nat.mod_eq_of_lt (by omega)]
      have e1 : ∀ v : Int, ((rep l e dist k).set ((e + k) % l.length) v).getD q 0 = (rep l e dist k).getD q 0 := by
        intro v; simp [List.getD, List.getElem?_set_ne hc]
      rw [e1, ih q (by omega) hq]
      by_cases h5 : off l.length e q < k
      · rw [if_pos h5, if_pos (by omega)]
      · rw [if_neg h5, if_neg (by omega)]

theorem mod_next {m e j r : Nat} (h : (e + j) % m + r ≤ m) : (e + (j + r)) % m = if (e + j) % m + r = m then 0 else (e + j) % m + r := by
  split
  · rename_i hc
    have : e + (j + r) = (e + j) % m + r + m * ((e + j) / m) := by have := Nat.mod_add_div (e + j) m; omega
    rw [this, hc, Nat.add_mul_mod_self_left, Nat.mod_self]
  · exact add_mod_lt (by omega)
theorem back_next {m dist E r : Nat} (hd : 0 < dist) (hdm : dist ≤ m) (h1 : E + r ≤ m) (h3 : back m dist E + r ≤ m) :
    back m dist (if E + r = m then 0 else E + r) = if back m dist E + r = m then 0 else back m dist E + r := by
  by_cases hc : dist ≤ E
  · simp only [back, hc, if_true] at h3 ⊢
    by_cases h5 : E + r = m
    · simp only [h5, if_true]
      rw [if_neg (by omega), if_neg (by omega)]; omega
    · simp only [h5, if_false]
      rw [if_pos (by omega), if_neg (by omega)]; omega
  · simp only [back, hc, if_false] at h3 ⊢
    by_cases h5 : E + r = m
    · simp only [h5, if_true]
      rw [if_neg (by omega), if_pos (by omega)]; omega
    · simp only [h5, if_false]
      by_cases h6 : dist ≤ E + r
      · rw [if_pos h6, if_pos (by omega)]; omega
      · rw [if_neg h6, if_neg (by omega)]; omega
end Go.Proofs.Qxb6602659a.Ring
