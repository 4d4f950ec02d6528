/- Points by three coordinates (x / z^2, y / z^3): twice, and one more; no program in sight. -/
import Derived.Test.YtccmmkgiamcgeaaGM1
set_option linter.all false
namespace P224
section
variable {n : Nat} [NeZero n]
theorem za1 {A C i : Fin n} (hi : C * i = 1) : C * (A * i) = A := by
  have : C * (A * i) = A * (C * i) := by grind
  rw [this, hi]; grind
theorem za2 (c z : Fin n) : 2 * (c * (z * (z * z)) * z) = (c + c) * (z * z * (z * z)) := by grind
theorem za3 {a c l : Fin n} (z : Fin n) (h : (c + c) * l = 3 * (a * a) - 3) : 3 * ((a * (z * z) - z * z) * (a * (z * z) + z * z)) = (c + c) * l * (z * z * (z * z)) := by rw [h]; grind
theorem za4 (a c z : Fin n) : 4 * (a * (z * z) * (c * (z * (z * z)) * (c * (z * (z * z))))) = 4 * (a * (c * c)) * (z * z * (z * z) * (z * z * (z * z))) := by grind
theorem za5 (a c l z : Fin n) : (c + c) * l * (z * z * (z * z)) * ((c + c) * l * (z * z * (z * z))) - (4 * (a * (c * c)) * (z * z * (z * z) * (z * z * (z * z))) + 4 * (a * (c * c)) * (z * z * (z * z) * (z * z * (z * z)))) = (l * l - a - a) * ((c + c) * (z * z * (z * z)) * ((c + c) * (z * z * (z * z)))) := by grind
theorem za6 (a c l z : Fin n) : (c + c) * l * (z * z * (z * z)) * (4 * (a * (c * c)) * (z * z * (z * z) * (z * z * (z * z))) - (l * l - a - a) * ((c + c) * (z * z * (z * z)) * ((c + c) * (z * z * (z * z))))) - 8 * (c * (z * (z * z)) * (c * (z * (z * z))) * (c * (z * (z * z)) * (c * (z * (z * z))))) =
    (l * (a - (l * l - a - a)) - c) * ((c + c) * (z * z * (z * z)) * ((c + c) * (z * z * (z * z)) * ((c + c) * (z * z * (z * z))))) := by grind
theorem za7 (a a' z : Fin n) : a * (z * z) - a' * (z * z) = (a - a') * (z * z) := by grind
theorem za8 (c c' z : Fin n) : c * (z * (z * z)) - c' * (z * (z * z)) = (c - c') * (z * (z * z)) := by grind
theorem za9 (a z : Fin n) : (a - a) * (z * z) = 0 := by grind
theorem zb1 (d z : Fin n) : z * (d * (z * z)) = d * (z * (z * z)) := by grind
theorem zb2 {a a' d : Fin n} (l z : Fin n) (h : d = a - a') : d * l * (z * (z * z)) * (d * l * (z * (z * z))) - d * (z * z) * (d * (z * z) * (d * (z * z))) - (a' * (z * z) * (d * (z * z) * (d * (z * z))) + a' * (z * z) * (d * (z * z) * (d * (z * z)))) = (l * l - a' - a) * (d * (z * (z * z)) * (d * (z * (z * z)))) := by
  have e : a = a' + d := by rw [h]; grind
  rw [e]; grind
theorem zb3 {a a' d : Fin n} (c' l z : Fin n) (h : d = a - a') : d * l * (z * (z * z)) * (a' * (z * z) * (d * (z * z) * (d * (z * z))) - (l * l - a' - a) * (d * (z * (z * z)) * (d * (z * (z * z))))) - c' * (z * (z * z)) * (d * (z * z) * (d * (z * z) * (d * (z * z)))) =
    (l * (a' - (l * l - a' - a)) - c') * (d * (z * (z * z)) * (d * (z * (z * z)) * (d * (z * (z * z))))) := by
  have e : a = a' + d := by rw [h]; grind
  rw [e]; grind
theorem zb4 (c : Fin n) : c + c = 0 + 0 → c + c = 0 := by grind
theorem zb5 (x y : Fin n) : x = x * (1 * 1) ∧ y = y * (1 * (1 * 1)) := ⟨by grind, by grind⟩
theorem zb6 {u a x : Fin n} (h : a * u - x = 0) : u * a = x := by grind
theorem zb7 {a a' : Fin n} (h : a - a' = 0) : a' = a := by grind
theorem zb8 (y : Fin n) : 2 * (y * 0) = 0 := by grind
theorem zb9 (x : Fin n) : (0 : Fin n) + 0 = 0 ∧ x * 0 = 0 := ⟨by grind, by grind⟩
theorem zc1 (a u : Fin n) : a * u = u * a := by grind
variable {b : Fin n}

def JRep (x y z : Fin n) : Pt n → Prop
  | .far => z = 0
  | .pt a c => z ≠ 0 ∧ x = a * (z * z) ∧ y = c * (z * (z * z))

theorem jtwice (h : Fine b) {x y z : Fin n} {p : Pt n} (hp : OnC b p) (hj : JRep x y z p) {d g be al f x3 y3 z3 : Fin n}
    (hd : d = z * z) (hg : g = y * y) (hbe : be = x * g) (hal : al = 3 * ((x - d) * (x + d))) (hf : f = 4 * be) (hx : x3 = al * al - (f + f)) (hy : y3 = al * (f - x3) - 8 * (g * g)) (hz : z3 = 2 * (y * z)) : JRep x3 y3 z3 (padd p p) := by
  cases p with
  | far =>
    have hz0 : z = 0 := hj
    show z3 = 0
    rw [hz, hz0]
    exact zb8 y
  | pt a c =>
    obtain ⟨z0, ex, ey⟩ := hj
    have c0 := h.y_ne hp
    have c2 : c + c ≠ 0 := fun e => c0 (h.half (by rw [e, (zb9 c).1]))
    have hi := mul_finv h.prime c2
    have h1 : ¬ (a ≠ a) := fun h => h rfl
    have h2 : ¬ (c ≠ c ∨ c = 0) := fun h => h.elim (fun h => h rfl) c0
    show JRep x3 y3 z3 (if a ≠ a then _ else if c ≠ c ∨ c = 0 then _ else _)
    rw [if_neg h1, if_neg h2]
    have hl2 := za1 (A := 3 * (a * a) - 3) hi
    generalize (3 * (a * a) - 3) * finv (c + c) = l at hl2 ⊢
    have ez : z3 = (c + c) * (z * z * (z * z)) := by rw [hz, ey]; exact za2 c z
    have e1 : al = (c + c) * l * (z * z * (z * z)) := by rw [hal, hd, ex]; exact za3 z hl2
    have e2 : f = 4 * (a * (c * c)) * (z * z * (z * z) * (z * z * (z * z))) := by rw [hf, hbe, hg, ex, ey]; exact za4 a c z
    have e5 : x3 = (l * l - a - a) * (z3 * z3) := by rw [hx, e1, e2, ez]; exact za5 a c l z
    refine ⟨?_, e5, ?_⟩
    · rw [ez]
      exact mul_ne_zero h.prime c2 (mul_ne_zero h.prime (mul_ne_zero h.prime z0 z0) (mul_ne_zero h.prime z0 z0))
    · show y3 = (l * (a - (l * l - a - a)) - c) * (z3 * (z3 * z3))
      rw [hy, e5, e1, e2, hg, ey, ez]
      exact za6 a c l z
theorem jone (x y : Fin n) (h1 : (1 : Fin n) ≠ 0) : JRep x y 1 (.pt x y) := ⟨h1, (zb5 x y).1, (zb5 x y).2⟩
theorem jsame (h : Fine b) {x y z a c : Fin n} {p : Pt n} (z0 : z ≠ 0) (hj : JRep x y z p) (hh : a * (z * z) - x = 0) (hr : c * (z * (z * z)) - y = 0) : p = .pt a c := by
  cases p with
  | far => exact absurd hj z0
  | pt a' c' =>
    obtain ⟨_, ex, ey⟩ := hj
    have e1 : (z * z) * a = (z * z) * a' := by rw [zb6 hh, ex]; exact zc1 _ _
    have e2 : (z * (z * z)) * c = (z * (z * z)) * c' := by rw [zb6 hr, ey]; exact zc1 _ _
    rw [mul_left_cancel0 h.prime (mul_ne_zero h.prime z0 z0) e1, mul_left_cancel0 h.prime (mul_ne_zero h.prime z0 (mul_ne_zero h.prime z0 z0)) e2]
theorem jmore (h : Fine b) {x y z a c : Fin n} {p : Pt n} (z0 : z ≠ 0) (hj : JRep x y z p) {zz hh r h2 h3 v x3 y3 z3 : Fin n} (ezz : zz = z * z) (eh : hh = a * zz - x) (er : r = c * (z * zz) - y) (hn : ¬ (hh = 0 ∧ r = 0))
    (e2 : h2 = hh * hh) (e3 : h3 = hh * h2) (ev : v = x * h2) (hx : x3 = r * r - h3 - (v + v)) (hy : y3 = r * (v - x3) - y * h3) (hz : z3 = z * hh) : JRep x3 y3 z3 (padd p (.pt a c)) := by
  cases p with
  | far => exact absurd hj z0
  | pt a' c' =>
    obtain ⟨_, ex, ey⟩ := hj
    have fh : hh = (a - a') * (z * z) := by rw [eh, ezz, ex]; exact za7 a a' z
    have fr : r = (c - c') * (z * (z * z)) := by rw [er, ezz, ey]; exact za8 c c' z
    by_cases ha : a' = a
    · subst ha
      have h0 : hh = 0 := by rw [fh]; exact za9 a' z
      have hc : c' ≠ c := fun e => hn ⟨h0, by rw [fr, e, Fin.sub_self, Fin.zero_mul]⟩
      have h1 : ¬ (a' ≠ a') := fun h => h rfl
      show JRep x3 y3 z3 (if a' ≠ a' then _ else if c' ≠ c ∨ c' = 0 then _ else _)
      rw [if_neg h1, if_pos (.inl hc)]
      show z3 = 0
      rw [hz, h0]
      exact (zb9 z).2
    · have d0 : a - a' ≠ 0 := fun e => ha (zb7 e)
      have hi := mul_finv h.prime d0
      show JRep x3 y3 z3 (if a' ≠ a then _ else _)
      rw [if_pos ha]
      have hl2 := za1 (A := c - c') hi
      generalize (c - c') * finv (a - a') = l at hl2 ⊢
      have fr2 : r = (a - a') * l * (z * (z * z)) := by rw [fr, hl2]
      generalize hd : a - a' = d at *
      have ez : z3 = d * (z * (z * z)) := by rw [hz, fh]; exact zb1 d z
      have e5 : x3 = (l * l - a' - a) * (z3 * z3) := by
        rw [hx, fr2, e3, ev, e2, fh, ez, ex]
        exact zb2 l z hd.symm
      refine ⟨?_, e5, ?_⟩
      · rw [ez]
        exact mul_ne_zero h.prime d0 (mul_ne_zero h.prime z0 (mul_ne_zero h.prime z0 z0))
      · show y3 = (l * (a' - (l * l - a' - a)) - c') * (z3 * (z3 * z3))
        rw [hy, e5, fr2, e3, ev, e2, fh, ez, ex, ey]
        exact zb3 c' l z hd.symm
end
end P224
