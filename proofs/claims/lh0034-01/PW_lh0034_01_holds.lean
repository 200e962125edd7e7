import PyProof.Rows.All
import Wide.All
import OpenK.AllK
import Wide.FinOn
import PySem.Challenge.RW_lh0034_01
set_option Elab.async false
set_option rowWalk.seconds 0
set_option linter.all false
namespace Mine
open Lean.Grind
section
variable {F : Type} [CommRing F]
theorem fa_x {x1 x2 y1 y2 m z1 z2 U V W A : F} (h : m * (x2 - x1) = y2 - y1) (hU : U = y2*z2*z1 - y1*z1*z2) (hV : V = x2*z2*z1 - x1*z1*z2) (hW : W = z1*z2) (hA : A = U*U*W - V*(V*V) - 2*(V*V*(x1*z1*z2))) :
    V * A = (m*m-x1-x2)*(V*(V*V)*W) := by
  have h1 : U = m * V := by grind
  subst h1; grind
theorem fa_y {x1 x2 y1 y2 m z1 z2 U V W A x3 : F} (h : m * (x2 - x1) = y2 - y1) (hU : U = y2*z2*z1 - y1*z1*z2) (hV : V = x2*z2*z1 - x1*z1*z2) (hW : W = z1*z2) (hA : A = U*U*W - V*(V*V) - 2*(V*V*(x1*z1*z2))) (hx : x3 = m*m-x1-x2) :
    U * (V*V*(x1*z1*z2) - A) - V*(V*V)*(y1*z1*z2) = (m*(x1-x3)-y1)*(V*(V*V)*W) := by
  have h1 : U = m * V := by grind
  have h2 : A = V*V*W*x3 := by subst h1; grind
  subst h1; subst h2; grind
theorem fd_x {x y m z W S B H : F} (h : m*(2*y) = 3*x*x) (hW : W = 3*(x*z)*(x*z)) (hS : S = y*z*z) (hB : B = x*z*(y*z)*S) (hH : H = W*W - 8*B) : 2*H*S = (m*m - x - x)*(8*S*(S*S)) := by
  have h1 : W = 2*(m*S) := by grind
  have h2 : H = 4*(S*S)*(m*m-x-x) := by subst h1; subst hB; grind
  subst h2; grind
theorem fd_y {x y m z W S B H x3 : F} (h : m*(2*y) = 3*x*x) (hW : W = 3*(x*z)*(x*z)) (hS : S = y*z*z) (hB : B = x*z*(y*z)*S) (hH : H = W*W - 8*B) (hx : x3 = m*m-x-x) : W*(4*B-H) - 8*(y*z)*(y*z)*(S*S) = (m*(x-x3)-y)*(8*S*(S*S)) := by
  have h1 : W = 2*(m*S) := by grind
  have h2 : H = 4*(S*S)*x3 := by subst h1; subst hB; subst hx; grind
  have h3 : B = S*S*x := by grind
  subst h2; subst h1; subst h3; grind
theorem fc_br {x1 x2 y1 m x3 : F} (hs : x1*x1+x1*x2+x2*x2 - m*m*(x1+x2)+2*m*(m*x1-y1) = 0) (hx : x3 = m*m-x1-x2) :
    m*m*(x1-x3) - 2*(y1*m) + (x3*x3+x3*x1+x1*x1) = 0 := by
  have e : m*m*(x1-x3) - 2*(y1*m) + (x3*x3+x3*x1+x1*x1) = (x1*x1+x1*x2+x2*x2 - m*m*(x1+x2)+2*m*(m*x1-y1)) + (x3-x2)*(x3+x1+x2-m*m) := by grind
  have e2 : x3+x1+x2-m*m = 0 := by subst hx; grind
  rw [e, hs, e2]; grind
theorem fc_end {x1 y1 m b x3 y3 : F} (h1 : y1*y1 = x1*x1*x1+b) (hb : m*m*(x1-x3) - 2*(y1*m) + (x3*x3+x3*x1+x1*x1) = 0) (hy : y3 = m*(x1-x3)-y1) : y3*y3 = x3*x3*x3+b := by
  have e : y3*y3 - x3*x3*x3 - b = (y1*y1 - x1*x1*x1 - b) + (x1-x3)*(m*m*(x1-x3) - 2*(y1*m) + (x3*x3+x3*x1+x1*x1)) := by subst hy; grind
  rw [hb] at e; clear hb hy; grind
theorem fc_add {x1 x2 y1 y2 m b x3 y3 : F} (nz : ∀ u v : F, u*v=0 → u=0 ∨ v=0) (h1 : y1*y1 = x1*x1*x1+b) (h2 : y2*y2 = x2*x2*x2+b) (h : m * (x2 - x1) = y2 - y1) (hne : x2 - x1 ≠ 0) (hx : x3 = m*m-x1-x2) (hy : y3 = m*(x1-x3)-y1) : y3*y3 = x3*x3*x3+b := by
  have s : (x2-x1)*(x1*x1+x1*x2+x2*x2 - m*m*(x1+x2)+2*m*(m*x1-y1)) = 0 := by
    have e : y2 = y1 + m*(x2-x1) := by rw [h]; clear h h1 h2 hx hy nz hne; grind
    have e3 : (x2-x1)*(x1*x1+x1*x2+x2*x2 - m*m*(x1+x2)+2*m*(m*x1-y1)) = (x2*x2*x2 + b - (y1 + m*(x2-x1))*(y1 + m*(x2-x1))) - (x1*x1*x1+b-y1*y1) := by clear h h1 h2 hx hy nz hne e; grind
    rw [e3, ← e, ← h1, ← h2]; clear e3 e h h1 h2 hx hy nz hne; grind
  exact fc_end h1 (fc_br ((nz _ _ s).resolve_left hne) hx) hy
theorem fc_dbl {x y m b x3 y3 : F} (h1 : y*y = x*x*x+b) (h : m * (2*y) = 3*x*x) (hx : x3 = m*m-x-x) (hy : y3 = m*(x-x3)-y) : y3*y3 = x3*x3*x3+b := by
  refine fc_end h1 (fc_br (x2 := x) ?_ hx) hy
  have e : x*x+x*x+x*x - m*m*(x+x)+2*m*(m*x-y) = 3*x*x - m*(2*y) := by clear h h1 hx hy; grind
  rw [e, h]; clear e h h1 hx hy; grind
end

noncomputable def pm (b e m : Int) : Int := ((PySem.Builtin.powMod (b % (m.natAbs : Int)).toNat e.natAbs m.natAbs : Nat) : Int)
noncomputable def prs : List Int := [7, 19, 31, 43, 67, 79, 103, 127]
noncomputable def invOk (p : Int) : Bool := (List.range p.toNat).all fun a => a == 0 || decide ((a : Int) * pm a (p - 2) p % p = 1)
noncomputable def cubeOk (p : Int) : Bool := (List.range p.toNat).all fun a => a == 0 || decide (pm ((a : Int) * a * a % p) ((p - 1) / 3) p = 1)
theorem inv_all : prs.all invOk = true := by decide +kernel
theorem cube_all : prs.all cubeOk = true := by decide +kernel
noncomputable def Pr (p : Int) : Prop := p ∈ prs
theorem Pr.cases {p : Int} (h : Pr p) : p = 7 ∨ p = 19 ∨ p = 31 ∨ p = 43 ∨ p = 67 ∨ p = 79 ∨ p = 103 ∨ p = 127 := by
  simpa [Pr, prs] using h
theorem Pr.lo {p : Int} (h : Pr p) : 7 ≤ p := by rcases h.cases with h | h | h | h | h | h | h | h <;> omega
theorem Pr.hi {p : Int} (h : Pr p) : p ≤ 127 := by rcases h.cases with h | h | h | h | h | h | h | h <;> omega
theorem Pr.pos {p : Int} (h : Pr p) : 0 < p := by have := h.lo; omega
theorem Pr.odd {p : Int} (h : Pr p) : p % 2 = 1 := by rcases h.cases with h | h | h | h | h | h | h | h <;> omega
theorem pm_mod (a e p : Int) (hp : 0 < p) : pm (a % p) e p = pm a e p := by
  unfold pm
  have : (p.natAbs : Int) = p := by omega
  rw [this, Int.emod_emod_of_dvd _ (Int.dvd_refl p)]
theorem Pr.inv {p a : Int} (h : Pr p) (ha : a % p ≠ 0) : a * pm a (p - 2) p % p = 1 := by
  have hp := h.pos
  have h1 := List.all_eq_true.mp inv_all p h
  have h2 := List.all_eq_true.mp h1 (a % p).toNat (List.mem_range.mpr (by have := Int.emod_lt_of_pos a hp; have := Int.emod_nonneg a (by omega : p ≠ 0); omega))
  have h0 := Int.emod_nonneg a (by omega : p ≠ 0)
  have h3 : (((a % p).toNat : Nat) : Int) = a % p := by omega
  rw [h3] at h2
  simp only [Bool.or_eq_true, beq_iff_eq, decide_eq_true_eq] at h2
  rcases h2 with h2 | h2
  · omega
  · rw [pm_mod _ _ _ hp] at h2
    rw [← h2]; simp [Int.mul_emod]
theorem pm_lo (a e p : Int) : 0 ≤ pm a e p := Int.natCast_nonneg _
theorem Pr.cube {p a : Int} (h : Pr p) (ha : a % p ≠ 0) : pm (a * a * a) ((p - 1) / 3) p = 1 := by
  have hp := h.pos
  have h1 := List.all_eq_true.mp cube_all p h
  have h2 := List.all_eq_true.mp h1 (a % p).toNat (List.mem_range.mpr (by have := Int.emod_lt_of_pos a hp; have := Int.emod_nonneg a (by omega : p ≠ 0); omega))
  have h0 := Int.emod_nonneg a (by omega : p ≠ 0)
  have h3 : (((a % p).toNat : Nat) : Int) = a % p := by omega
  rw [h3] at h2
  simp only [Bool.or_eq_true, beq_iff_eq, decide_eq_true_eq] at h2
  rcases h2 with h2 | h2
  · omega
  · have e : a * a * a % p = a % p * (a % p) * (a % p) % p := by simp [Int.mul_emod]
    rw [← pm_mod (a * a * a) _ _ hp, e]; exact h2

-- the ring of residues
noncomputable def cz (n : Nat) [NeZero n] (a : Int) : Fin n := (Ring.intCast (α := Fin n)).intCast a
section
variable {n : Nat} [NeZero n] (a b : Int)
theorem cz_add : cz n (a + b) = cz n a + cz n b := Ring.intCast_add a b
theorem cz_sub : cz n (a - b) = cz n a - cz n b := Ring.intCast_sub a b
theorem cz_mul : cz n (a * b) = cz n a * cz n b := Ring.intCast_mul a b
theorem cz_neg : cz n (-a) = - cz n a := Ring.intCast_neg a
theorem cz_mod : cz n (a % (n : Int)) = cz n a := IsCharP.intCast_emod n a
theorem cz_eq : cz n a = cz n b ↔ a % (n : Int) = b % (n : Int) := IsCharP.intCast_ext_iff n
theorem cz_z : cz n a = 0 ↔ a % (n : Int) = 0 := IsCharP.intCast_eq_zero_iff n a
theorem cz_0 : cz n 0 = 0 := Ring.intCast_ofNat 0
theorem cz_1 : cz n 1 = 1 := Ring.intCast_ofNat 1
theorem cz_2 : cz n 2 = 2 := Ring.intCast_ofNat 2
theorem cz_3 : cz n 3 = 3 := Ring.intCast_ofNat 3
theorem cz_4 : cz n 4 = 4 := Ring.intCast_ofNat 4
theorem cz_8 : cz n 8 = 8 := Ring.intCast_ofNat 8
end

abbrev Pt := Option (Int × Int)
abbrev Tr := Int × Int × Int
noncomputable def mF (p a b : Int) : Int := a * b % p
noncomputable def sF (p a b : Int) : Int := (a - b) % p
noncomputable def aF (p a b : Int) : Int := (a + b) % p
noncomputable def nF (p a : Int) : Int := (-a) % p
noncomputable def dF (p a b : Int) : Int := a * pm b (p - 2) p % p
/-- chord and tangent, as the law's own _law_sum reckons -/
noncomputable def sumA (p : Int) : Pt → Pt → Pt
  | none, q => q
  | some a, none => some a
  | some a, some b =>
    if a.1 = b.1 ∧ (a.2 + b.2) % p = 0 then none
    else
      let m := if a = b then 3 * a.1 * a.1 * pm (2 * a.2 % p) (p - 2) p else (b.2 - a.2) * pm ((b.1 - a.1) % p) (p - 2) p
      let x := (m * m - a.1 - b.1) % p
      some (x, (m * (a.1 - x) - a.2) % p)
noncomputable def minusA (p : Int) (P : Pt) : Pt := P.map fun a => (a.1, (p - a.2) % p)
noncomputable def dblT (p : Int) (t : Tr) : Tr :=
  let W := mF p (mF p t.1 3) t.1
  let S := mF p t.2.1 t.2.2
  let B := mF p (mF p t.1 t.2.1) S
  let H := sF p (mF p W W) (mF p B 8)
  let S2 := mF p S S
  (mF p (mF p H 2) S, sF p (mF p W (sF p (mF p B 4) H)) (mF p (mF p (mF p t.2.1 8) t.2.1) S2), mF p (mF p S 8) S2)
noncomputable def addT (p : Int) (t u : Tr) : Tr :=
  if t.2.2 = 0 ∨ u.2.2 = 0 then (if u.2.2 = 0 then t else u)
  else
    let U1 := mF p u.2.1 t.2.2
    let U2 := mF p t.2.1 u.2.2
    let V1 := mF p u.1 t.2.2
    let V2 := mF p t.1 u.2.2
    if V1 = V2 ∧ U1 = U2 then dblT p t
    else if V1 = V2 then (1, 1, 0)
    else
      let U := sF p U1 U2
      let V := sF p V1 V2
      let Vq := mF p V V
      let VV2 := mF p Vq V2
      let Vc := mF p V Vq
      let W := mF p t.2.2 u.2.2
      let A := sF p (sF p (mF p (mF p U U) W) Vc) (mF p VV2 2)
      (mF p V A, sF p (mF p U (sF p VV2 A)) (mF p Vc U2), mF p Vc W)
noncomputable def Good (p b : Int) : Prop := ∀ x, (x * x * x + b) % p ≠ 0
noncomputable def OnC (p b : Int) : Pt → Prop
  | none => True
  | some a => 0 ≤ a.1 ∧ a.1 < p ∧ 0 < a.2 ∧ a.2 < p ∧ a.2 * a.2 % p = (a.1 * a.1 * a.1 + b) % p
noncomputable def Rep (p : Int) (P : Pt) (t : Tr) : Prop := 0 ≤ t.2.2 ∧ t.2.2 < p ∧ match P with
  | none => t.2.2 = 0
  | some a => t.2.2 ≠ 0 ∧ t.1 % p = a.1 * t.2.2 % p ∧ t.2.1 % p = a.2 * t.2.2 % p

section
variable {p b : Int}
/-- the field: what the rest asks of p -/
structure Fld (n : Nat) [NeZero n] : Prop where
  nz : ∀ u v : Fin n, u * v = 0 → u = 0 ∨ v = 0
  inv : ∀ a : Int, cz n a ≠ 0 → cz n a * cz n (pm a ((n : Int) - 2) n) = 1
theorem exN (h : Pr p) : ∃ (n : Nat) (_ : NeZero n), p = n ∧ Fld n := by
  have := h.lo
  obtain ⟨n, rfl⟩ : ∃ n : Nat, p = n := ⟨p.toNat, by omega⟩
  have z : NeZero n := ⟨by omega⟩
  have inv : ∀ a : Int, cz n a ≠ 0 → cz n a * cz n (pm a ((n : Int) - 2) n) = 1 := fun a ha => by
    have h1 := h.inv (a := a) (fun q => ha ((cz_z a).mpr q))
    rw [← cz_mul, ← cz_1, cz_eq, h1]
    exact (Int.emod_eq_of_lt (by omega) (by omega)).symm
  refine ⟨n, z, rfl, fun u v e => ?_, inv⟩
  have su : ∀ u : Fin n, ∃ a : Int, u = cz n a := fun u => ⟨(u.val : Int), by
    show u = Fin.intCast ((u.val : Nat) : Int)
    unfold Fin.intCast
    rw [if_pos (by omega), Int.natAbs_natCast, Fin.ofNat_val_eq_self]⟩
  obtain ⟨a, rfl⟩ := su u
  by_cases ha : cz n a = 0
  · exact .inl ha
  · right
    have h1 := inv a ha
    have : v = (cz n a * cz n (pm a ((n : Int) - 2) n)) * v := by rw [h1]; grind
    rw [this]
    have : cz n a * cz n (pm a ((n : Int) - 2) n) * v = cz n (pm a ((n : Int) - 2) n) * (cz n a * v) := by grind
    rw [this, e]; grind
end
end Mine

namespace Mine
open Lean.Grind
section
variable {n : Nat} [NeZero n] {b : Int}
theorem npos : 0 < (n : Int) := by have := Nat.pos_of_ne_zero (NeZero.ne n); omega
theorem cz_m (a c : Int) : cz n (mF n a c) = cz n a * cz n c := by rw [mF, cz_mod, cz_mul]
theorem cz_s (a c : Int) : cz n (sF n a c) = cz n a - cz n c := by rw [sF, cz_mod, cz_sub]
theorem cz_a (a c : Int) : cz n (aF n a c) = cz n a + cz n c := by rw [aF, cz_mod, cz_add]
theorem cz_n (a : Int) : cz n (nF n a) = - cz n a := by rw [nF, cz_mod, cz_neg]
theorem mF_in (a c : Int) : 0 ≤ mF n a c ∧ mF n a c < n := ⟨Int.emod_nonneg _ (by have := @npos n _; omega), Int.emod_lt_of_pos _ npos⟩
theorem sF_in (a c : Int) : 0 ≤ sF n a c ∧ sF n a c < n := ⟨Int.emod_nonneg _ (by have := @npos n _; omega), Int.emod_lt_of_pos _ npos⟩
theorem in_eq {a c : Int} (ha : 0 ≤ a ∧ a < n) (hc : 0 ≤ c ∧ c < n) : a = c ↔ cz n a = cz n c := by
  rw [cz_eq, Int.emod_eq_of_lt ha.1 ha.2, Int.emod_eq_of_lt hc.1 hc.2]
theorem in_zero {a : Int} (ha : 0 ≤ a ∧ a < n) : a = 0 ↔ cz n a = 0 := by
  rw [cz_z, Int.emod_eq_of_lt ha.1 ha.2]

/-- a point in the ring -/
noncomputable def RepZ (P : Pt) (X Y Z : Fin n) : Prop := match P with
  | none => Z = 0
  | some a => Z ≠ 0 ∧ X = cz n a.1 * Z ∧ Y = cz n a.2 * Z
theorem rep_iff {P : Pt} {t : Tr} (hz : 0 ≤ t.2.2 ∧ t.2.2 < n) : Rep n P t ↔ RepZ P (cz n t.1) (cz n t.2.1) (cz n t.2.2) := by
  unfold Rep RepZ
  cases P with
  | none => exact ⟨fun h => (in_zero hz).mp h.2.2, fun h => ⟨hz.1, hz.2, (in_zero hz).mpr h⟩⟩
  | some a =>
    simp only [← cz_mul, cz_eq]
    exact ⟨fun h => ⟨fun q => h.2.2.1 ((in_zero hz).mpr q), h.2.2.2⟩, fun h => ⟨hz.1, hz.2, fun q => h.1 ((in_zero hz).mp q), h.2⟩⟩
noncomputable def OnZ (b : Int) (x y : Int) : Prop := cz n y * cz n y = cz n x * cz n x * cz n x + cz n b
theorem on_z {a : Int × Int} (h : OnC n b (some a)) : OnZ (n := n) b a.1 a.2 := by
  unfold OnZ
  rw [← cz_mul, ← cz_mul, ← cz_mul, ← cz_add, cz_eq]; exact h.2.2.2.2
theorem on_y {a : Int × Int} (h : OnC n b (some a)) : cz n a.2 ≠ 0 := by
  intro q
  have := (in_zero ⟨Int.le_of_lt h.2.2.1, h.2.2.2.1⟩).mpr q
  have := h.2.2.1; omega
theorem on_of {x y : Int} (hg : Good n b) (hx : 0 ≤ x ∧ x < n) (hy : 0 ≤ y ∧ y < n) (h : OnZ (n := n) b x y) : OnC n b (some (x, y)) := by
  have e : y * y % (n : Int) = (x * x * x + b) % n := by
    unfold OnZ at h
    rw [← cz_mul, ← cz_mul, ← cz_mul, ← cz_add, cz_eq] at h; exact h
  refine ⟨hx.1, hx.2, ?_, hy.2, e⟩
  show 0 < y
  have : y ≠ 0 := by
    intro q
    rw [q] at e
    exact hg x (by rw [← e]; simp)
  have := hy.1
  omega
/-- the slope -/
theorem slope_add (hf : Fld n) {x1 x2 y1 y2 : Int} (h : cz n x2 - cz n x1 ≠ 0) : cz n ((y2 - y1) * pm ((x2 - x1) % n) (n - 2) n) * (cz n x2 - cz n x1) = cz n y2 - cz n y1 := by
  have := hf.inv (x2 - x1) (by rw [cz_sub]; exact h)
  rw [pm_mod _ _ _ npos, cz_mul, cz_sub]
  rw [cz_sub] at this
  generalize cz n (pm (x2 - x1) (n - 2) n) = i at *
  grind
theorem slope_dbl (hf : Fld n) {x y : Int} (h : cz n y ≠ 0) (h2 : (2 : Fin n) ≠ 0) : cz n (3 * x * x * pm (2 * y % n) (n - 2) n) * (2 * cz n y) = 3 * cz n x * cz n x := by
  have := hf.inv (2 * y) (by rw [cz_mul, cz_2]; exact fun q => (hf.nz _ _ q).elim h2 h)
  rw [pm_mod _ _ _ npos, cz_mul, cz_mul, cz_mul, cz_3]
  rw [cz_mul, cz_2] at this
  generalize cz n (pm (2 * y) (n - 2) n) = i at *
  grind
theorem mod_in (a : Int) : 0 ≤ a % (n : Int) ∧ a % (n : Int) < n := ⟨Int.emod_nonneg _ (by have := @npos n _; omega), Int.emod_lt_of_pos _ npos⟩

theorem two_ne (h : Pr (n : Int)) : (2 : Fin n) ≠ 0 := by
  rw [← cz_2, Ne, cz_z]
  have := h.lo
  rw [Int.emod_eq_of_lt (by omega) (by omega)]; omega

/-- same x, on the curve: the ys are equal or opposite -/
theorem same_x (hf : Fld n) {a c : Int × Int} (ha : OnC n b (some a)) (hc : OnC n b (some c)) (h : a.1 = c.1) (hn : ¬ (a.2 + c.2) % (n : Int) = 0) : a = c := by
  have h1 := on_z ha
  have h2 := on_z hc
  unfold OnZ at h1 h2
  rw [h] at h1
  have h3 : (cz n a.2 - cz n c.2) * (cz n a.2 + cz n c.2) = 0 := by
    have : cz n a.2 * cz n a.2 - cz n c.2 * cz n c.2 = 0 := by rw [h1, h2]; grind
    rw [← this]; grind
  rcases hf.nz _ _ h3 with h4 | h4
  · have h5 : cz n a.2 = cz n c.2 := by grind
    have := (in_eq ⟨Int.le_of_lt ha.2.2.1, ha.2.2.2.1⟩ ⟨Int.le_of_lt hc.2.2.1, hc.2.2.2.1⟩).mpr h5
    exact Prod.ext h this
  · rw [← cz_add, cz_z] at h4
    exact absurd h4 hn

theorem dbl_z (hf : Fld n) (h2 : (2 : Fin n) ≠ 0) (hg : Good n b) {a : Int × Int} (ha : OnC n b (some a)) :
    ∃ x y, sumA n (some a) (some a) = some (x, y) ∧ OnC n b (some (x, y)) ∧ ∃ m : Fin n, m * (2 * cz n a.2) = 3 * cz n a.1 * cz n a.1 ∧ cz n x = m * m - cz n a.1 - cz n a.1 ∧ cz n y = m * (cz n a.1 - cz n x) - cz n a.2 := by
  have hy := on_y ha
  have hne : ¬ (a.1 = a.1 ∧ (a.2 + a.2) % (n : Int) = 0) := fun q => by
    have q2 := q.2
    rw [← cz_z, cz_add] at q2
    have : (2 : Fin n) * cz n a.2 = 0 := by rw [← q2]; grind
    exact (hf.nz _ _ this).elim h2 hy
  have hs := slope_dbl hf hy h2 (x := a.1)
  refine ⟨_, _, (if_neg hne).trans (congrArg (fun m : Int => let x := (m * m - a.1 - a.1) % (n : Int); some (x, (m * (a.1 - x) - a.2) % (n : Int))) (if_pos rfl)), ?_, _, hs, ?_, ?_⟩
  · refine on_of hg (mod_in _) (mod_in _) ?_
    unfold OnZ
    exact fc_dbl (on_z ha) hs (by simp only [cz_mod, cz_sub, cz_mul]) (by simp only [cz_mod, cz_sub, cz_mul])
  · simp only [cz_mod, cz_sub, cz_mul]
  · simp only [cz_mod, cz_sub, cz_mul]
theorem add_z (hf : Fld n) (hg : Good n b) {a c : Int × Int} (ha : OnC n b (some a)) (hc : OnC n b (some c)) (hx : a.1 ≠ c.1) :
    ∃ x y, sumA n (some a) (some c) = some (x, y) ∧ OnC n b (some (x, y)) ∧ ∃ m : Fin n, m * (cz n c.1 - cz n a.1) = cz n c.2 - cz n a.2 ∧ cz n x = m * m - cz n a.1 - cz n c.1 ∧ cz n y = m * (cz n a.1 - cz n x) - cz n a.2 := by
  have hxz : cz n c.1 - cz n a.1 ≠ 0 := fun q => hx ((in_eq ⟨ha.1, ha.2.1⟩ ⟨hc.1, hc.2.1⟩).mpr (by grind))
  have hne : ¬ (a.1 = c.1 ∧ (a.2 + c.2) % (n : Int) = 0) := fun q => hx q.1
  have hne2 : ¬ a = c := fun q => hx (congrArg Prod.fst q)
  have hs := slope_add hf hxz (y1 := a.2) (y2 := c.2)
  unfold sumA
  simp only [if_neg hne, if_neg hne2]
  refine ⟨_, _, rfl, ?_, _, hs, ?_, ?_⟩
  · refine on_of hg (mod_in _) (mod_in _) ?_
    unfold OnZ
    exact fc_add hf.nz (on_z ha) (on_z hc) hs hxz (by simp only [cz_mod, cz_sub, cz_mul]) (by simp only [cz_mod, cz_sub, cz_mul])
  · simp only [cz_mod, cz_sub, cz_mul]
  · simp only [cz_mod, cz_sub, cz_mul]
theorem sum_on' (hf : Fld n) (h2 : (2 : Fin n) ≠ 0) (hg : Good n b) {P Q : Pt} (hP : OnC n b P) (hQ : OnC n b Q) : OnC n b (sumA n P Q) := by
  cases P with
  | none => exact hQ
  | some a =>
    cases Q with
    | none => exact hP
    | some c =>
      by_cases hx : a.1 = c.1
      · by_cases hs : (a.2 + c.2) % (n : Int) = 0
        · unfold sumA; simp only [if_pos (And.intro hx hs)]; trivial
        · obtain rfl := same_x hf hP hQ hx hs
          obtain ⟨x, y, e, h, _⟩ := dbl_z hf h2 hg hP
          rw [e]; exact h
      · obtain ⟨x, y, e, h, _⟩ := add_z hf hg hP hQ hx
        rw [e]; exact h

theorem dbl_rep' (hf : Fld n) (h2 : (2 : Fin n) ≠ 0) (hg : Good n b) {P : Pt} {t : Tr} (hP : OnC n b P) (r : Rep n P t) : Rep n (sumA n P P) (dblT n t) := by
  have r' := (rep_iff ⟨r.1, r.2.1⟩).mp r
  rw [rep_iff (mF_in _ _)]
  simp only [dblT, cz_m, cz_s, cz_2, cz_3, cz_4, cz_8]
  generalize cz n t.1 = X at *
  generalize cz n t.2.1 = Y at *
  generalize cz n t.2.2 = Z at *
  cases P with
  | none =>
    have r'' : Z = 0 := r'
    subst r''
    show _ = _
    simp only [Semiring.mul_zero, Semiring.zero_mul]
  | some a =>
    obtain ⟨hZ, rfl, rfl⟩ := r'
    obtain ⟨x, y, e, h, m, hm, hx, hy⟩ := dbl_z hf h2 hg hP
    rw [e]
    have hz8 : (8 : Fin n) ≠ 0 := fun q => by
      have : (2 : Fin n) * (2 * 2) = 0 := by rw [← q]; grind
      rcases hf.nz _ _ this with h | h
      · exact h2 h
      · exact (hf.nz _ _ h).elim h2 h2
    have hy0 := on_y hP
    refine ⟨?_, ?_, ?_⟩
    · intro q
      have hS : cz n a.2 * Z * Z ≠ 0 := fun q => by
        rcases hf.nz _ _ q with q | q
        · exact (hf.nz _ _ q).elim hy0 hZ
        · exact hZ q
      rcases hf.nz _ _ q with q | q
      · exact (hf.nz _ _ q).elim hS hz8
      · exact (hf.nz _ _ q).elim hS hS
    · rw [hx]
      have := fd_x (z := Z) hm rfl rfl rfl rfl
      grind
    · rw [hy]
      have := fd_y (z := Z) hm rfl rfl rfl rfl hx
      grind
end
end Mine

namespace Mine
open Lean.Grind
section
variable {n : Nat} [NeZero n] {b : Int}
theorem add_rep' (hf : Fld n) (h2 : (2 : Fin n) ≠ 0) (hg : Good n b) {P Q : Pt} {t u : Tr} (hP : OnC n b P) (hQ : OnC n b Q) (r : Rep n P t) (q : Rep n Q u) : Rep n (sumA n P Q) (addT n t u) := by
  cases P with
  | none =>
    have hz : t.2.2 = 0 := r.2.2
    unfold addT
    rw [if_pos (.inl hz)]
    by_cases hu : u.2.2 = 0
    · rw [if_pos hu]
      cases Q with
      | none => exact r
      | some c => exact absurd hu q.2.2.1
    · rw [if_neg hu]; exact q
  | some a =>
    have hz : t.2.2 ≠ 0 := r.2.2.1
    cases Q with
    | none =>
      have hu : u.2.2 = 0 := q.2.2
      unfold addT
      rw [if_pos (.inr hu), if_pos hu]; exact r
    | some c =>
      have hu : u.2.2 ≠ 0 := q.2.2.1
      have r' := (rep_iff ⟨r.1, r.2.1⟩).mp r
      have q' := (rep_iff ⟨q.1, q.2.1⟩).mp q
      obtain ⟨hZ, eX, eY⟩ := r'
      obtain ⟨hZ', eX', eY'⟩ := q'
      have hV : mF n u.1 t.2.2 = mF n t.1 u.2.2 ↔ a.1 = c.1 := by
        rw [in_eq (mF_in _ _) (mF_in _ _), cz_m, cz_m, eX, eX', in_eq ⟨hP.1, hP.2.1⟩ ⟨hQ.1, hQ.2.1⟩]
        constructor
        · intro e
          have : (cz n a.1 - cz n c.1) * (cz n t.2.2 * cz n u.2.2) = 0 := by
            generalize cz n a.1 = x at *; generalize cz n c.1 = y at *; grind
          rcases hf.nz _ _ this with h | h
          · grind
          · exact absurd h fun h => (hf.nz _ _ h).elim hZ hZ'
        · intro e; rw [e]; grind
      have hU : mF n u.2.1 t.2.2 = mF n t.2.1 u.2.2 ↔ a.2 = c.2 := by
        rw [in_eq (mF_in _ _) (mF_in _ _), cz_m, cz_m, eY, eY', in_eq ⟨Int.le_of_lt hP.2.2.1, hP.2.2.2.1⟩ ⟨Int.le_of_lt hQ.2.2.1, hQ.2.2.2.1⟩]
        constructor
        · intro e
          have : (cz n a.2 - cz n c.2) * (cz n t.2.2 * cz n u.2.2) = 0 := by
            generalize cz n a.2 = x at *; generalize cz n c.2 = y at *; grind
          rcases hf.nz _ _ this with h | h
          · grind
          · exact absurd h fun h => (hf.nz _ _ h).elim hZ hZ'
        · intro e; rw [e]; grind
      unfold addT
      rw [if_neg (fun h => h.elim hz hu)]
      simp only [hV, hU]
      by_cases hx : a.1 = c.1
      · by_cases hy : a.2 = c.2
        · rw [if_pos ⟨hx, hy⟩]
          obtain rfl : a = c := Prod.ext hx hy
          exact dbl_rep' hf h2 hg hP r
        · rw [if_neg (fun h => hy h.2), if_pos hx]
          have hs : (a.2 + c.2) % (n : Int) = 0 := Classical.byContradiction fun h => hy (congrArg Prod.snd (same_x hf hP hQ hx h))
          have e : sumA n (some a) (some c) = none := if_pos ⟨hx, hs⟩
          rw [e]
          exact ⟨Int.le_refl _, npos, rfl⟩
      · rw [if_neg (fun h => hx h.1), if_neg hx]
        obtain ⟨x, y, e, _, m, hm, hx3, hy3⟩ := add_z hf hg hP hQ hx
        rw [e, rep_iff (mF_in _ _)]
        have hxz : cz n c.1 - cz n a.1 ≠ 0 := fun q => hx ((in_eq ⟨hP.1, hP.2.1⟩ ⟨hQ.1, hQ.2.1⟩).mpr (by generalize cz n a.1 = x at *; generalize cz n c.1 = y at *; grind))
        simp only [cz_m, cz_s, cz_2, eX, eY, eX', eY']
        clear hV hU e hx hz hu eX eY eX' eY' hP hQ r q hg
        generalize cz n a.1 = x1 at *; generalize cz n a.2 = y1 at *; generalize cz n c.1 = x2 at *; generalize cz n c.2 = y2 at *
        generalize cz n t.2.2 = z1 at *; generalize cz n u.2.2 = z2 at *
        have hVz : x2 * z2 * z1 - x1 * z1 * z2 ≠ 0 := fun q => by
          have : (x2 - x1) * (z1 * z2) = 0 := by rw [← q]; grind
          rcases hf.nz _ _ this with h | h
          · exact hxz h
          · exact (hf.nz _ _ h).elim hZ hZ'
        have hWz : z1 * z2 ≠ 0 := fun h => (hf.nz _ _ h).elim hZ hZ'
        refine ⟨?_, ?_, ?_⟩
        · intro h
          rcases hf.nz _ _ h with h | h
          · rcases hf.nz _ _ h with h | h
            · exact hVz h
            · exact (hf.nz _ _ h).elim hVz hVz
          · exact hWz h
        · show _ = cz n x * _
          rw [hx3]
          have := fa_x (z1 := z1) (z2 := z2) hm rfl rfl rfl rfl
          clear hm hx3 hy3 hxz hVz hWz
          grind
        · show _ = cz n y * _
          rw [hy3]
          have := fa_y (z1 := z1) (z2 := z2) hm rfl rfl rfl rfl hx3
          clear hm hx3 hy3 hxz hVz hWz
          grind
end
section
variable {p b : Int}
theorem add_rep (h : Pr p) (hg : Good p b) {P Q : Pt} {t u : Tr} (hP : OnC p b P) (hQ : OnC p b Q) (r : Rep p P t) (q : Rep p Q u) : Rep p (sumA p P Q) (addT p t u) := by
  obtain ⟨n, z, rfl, hf⟩ := exN h
  exact add_rep' hf (two_ne h) hg hP hQ r q
theorem dbl_rep (h : Pr p) (hg : Good p b) {P : Pt} {t : Tr} (hP : OnC p b P) (r : Rep p P t) : Rep p (sumA p P P) (dblT p t) := by
  obtain ⟨n, z, rfl, hf⟩ := exN h
  exact dbl_rep' hf (two_ne h) hg hP r
theorem sum_on (h : Pr p) (hg : Good p b) {P Q : Pt} (hP : OnC p b P) (hQ : OnC p b Q) : OnC p b (sumA p P Q) := by
  obtain ⟨n, z, rfl, hf⟩ := exN h
  exact sum_on' hf (two_ne h) hg hP hQ
end
end Mine

namespace Mine
open Lean.Grind
noncomputable def told (p : Int) (t : Tr) : Pt := if t.2.2 = 0 then none else some (t.1 * pm t.2.2 (p - 2) p % p, t.2.1 * pm t.2.2 (p - 2) p % p)
noncomputable def onT (p : Int) (t : Tr) (c : Int) : Bool := if t.2.2 = 0 then true else decide (sF p (mF p (mF p t.2.1 t.2.1) t.2.2) (mF p (mF p t.1 t.1) t.1) = mF p c (mF p (mF p t.2.2 t.2.2) t.2.2))
noncomputable def eqT (p : Int) (t u : Tr) : Bool := decide (mF p t.1 u.2.2 = mF p u.1 t.2.2) && decide (mF p t.2.1 u.2.2 = mF p u.2.1 t.2.2)
noncomputable def negT (p : Int) (t : Tr) : Tr := (t.1, nF p t.2.1, t.2.2)
noncomputable def nrm (p : Int) (t : Tr) : Int × Int := (dF p t.1 t.2.2, dF p t.2.1 t.2.2)
noncomputable def madeT (p : Int) (P : Pt) (s f : Int) : Tr := match P with
  | none => (f % p, s % p, 0)
  | some a => (a.1 * s % p, a.2 * s % p, s % p)
noncomputable def multT (p : Int) (t : Tr) (n : Int) : Tr := if n = 0 then (1, 1, 0) else if n = 1 then t else if n = 2 then dblT p t else addT p (dblT p t) t
noncomputable def plDbl (p : Int) (a : Int × Int) : Int × Int :=
  let m := dF p (mF p (mF p a.1 a.1) 3) (mF p a.2 2)
  let x := sF p (mF p m m) (mF p a.1 2)
  (x, sF p (aF p (mF p (nF p m) x) (mF p m a.1)) a.2)
noncomputable def plM (p : Int) (a c : Int × Int) : Int := dF p (sF p c.2 a.2) (sF p c.1 a.1)
noncomputable def plX (p : Int) (a c : Int × Int) : Int := sF p (sF p (mF p (plM p a c) (plM p a c)) a.1) c.1
noncomputable def plAdd (p : Int) : Pt → Pt → Pt
  | none, q => q
  | some a, none => some a
  | some a, some c => if c.1 = a.1 ∧ c.2 = a.2 then some (plDbl p a) else if c.1 = a.1 then none
    else some (plX p a c, sF p (aF p (mF p (nF p (plM p a c)) (plX p a c)) (mF p (plM p a c) a.1)) a.2)
noncomputable def plMul (p : Int) (P : Pt) (n : Int) : Pt := if n = 0 then none else if n = 1 then P else if n = 2 then P.map (plDbl p) else plAdd p (P.map (plDbl p)) P
noncomputable def manyA (p : Int) (P : Pt) : Nat → Pt
  | 0 => none
  | k + 1 => sumA p (manyA p P k) P
noncomputable def InP (p : Int) : Pt → Prop
  | none => True
  | some a => 0 ≤ a.1 ∧ a.1 < p ∧ 0 ≤ a.2 ∧ a.2 < p
theorem OnC.inP {p b : Int} {P : Pt} (h : OnC p b P) : InP p P := by
  cases P with
  | none => trivial
  | some a => exact ⟨h.1, h.2.1, Int.le_of_lt h.2.2.1, h.2.2.2.1⟩
section
variable {n : Nat} [NeZero n] {b : Int}
theorem cz_d (a c : Int) : cz n (dF n a c) = cz n a * cz n (pm c (n - 2) n) := by rw [dF, cz_mod, cz_mul]
theorem aF_in (a c : Int) : 0 ≤ aF n a c ∧ aF n a c < n := mod_in _
theorem dF_in (a c : Int) : 0 ≤ dF n a c ∧ dF n a c < n := mod_in _
theorem told_rep' (hf : Fld n) {P : Pt} {t : Tr} (hP : InP n P) (r : Rep n P t) : told n t = P := by
  unfold told
  cases P with
  | none => rw [if_pos r.2.2]
  | some a =>
    have r' := (rep_iff ⟨r.1, r.2.1⟩).mp r
    obtain ⟨hZ, eX, eY⟩ := r'
    rw [if_neg r.2.2.1]
    have hi := hf.inv t.2.2 hZ
    congr 1
    refine Prod.ext ?_ ?_
    · refine (in_eq (mod_in _) ⟨hP.1, hP.2.1⟩).mpr ?_
      rw [cz_mod, cz_mul, eX]
      generalize cz n a.1 = x at *; generalize cz n t.2.2 = z at *; generalize cz n (pm t.2.2 (n - 2) n) = i at *
      grind
    · refine (in_eq (mod_in _) ⟨hP.2.2.1, hP.2.2.2⟩).mpr ?_
      rw [cz_mod, cz_mul, eY]
      generalize cz n a.2 = x at *; generalize cz n t.2.2 = z at *; generalize cz n (pm t.2.2 (n - 2) n) = i at *
      grind
theorem nrm_rep' (hf : Fld n) {a : Int × Int} {t : Tr} (hP : InP n (some a)) (r : Rep n (some a) t) : nrm n t = a := by
  have e := told_rep' hf hP r
  unfold told at e
  rw [if_neg r.2.2.1] at e
  exact Option.some.inj e
theorem on_rep' (hf : Fld n) {P : Pt} {t : Tr} (c : Int) (hP : OnC n b P) (r : Rep n P t) : onT n t (c % n) = (decide (P = none) || decide (c % n = b % n)) := by
  unfold onT
  cases P with
  | none => rw [if_pos r.2.2]; rfl
  | some a =>
    have r' := (rep_iff ⟨r.1, r.2.1⟩).mp r
    obtain ⟨hZ, eX, eY⟩ := r'
    rw [if_neg r.2.2.1]
    have h1 := on_z hP
    unfold OnZ at h1
    have hd : decide (some a = none) = false := rfl
    rw [hd, Bool.false_or]
    refine decide_eq_decide.mpr ?_
    rw [in_eq (sF_in _ _) (mF_in _ _), ← cz_eq]
    simp only [cz_m, cz_s, cz_mod, eX, eY]
    clear hP r eX eY hd
    generalize cz n a.1 = x at *; generalize cz n a.2 = y at *; generalize cz n t.2.2 = z at *; generalize cz n b = b' at *; generalize cz n c = c' at *
    have e : y * z * (y * z) * z - x * z * (x * z) * (x * z) = b' * (z * z * z) := by
      have : y * z * (y * z) * z - x * z * (x * z) * (x * z) = (y * y - x * x * x) * (z * z * z) := by clear h1; grind
      rw [this, h1]; clear this h1; grind
    rw [e]
    constructor
    · intro h
      have : (b' - c') * (z * z * z) = 0 := by
        have : (b' - c') * (z * z * z) = b' * (z * z * z) - c' * (z * z * z) := by clear h e h1; grind
        rw [this, h]; clear this h e h1; grind
      rcases hf.nz _ _ this with h | h
      · clear h1 e this; grind
      · rcases hf.nz _ _ h with h | h
        · exact ((hf.nz _ _ h).elim hZ hZ).elim
        · exact (hZ h).elim
    · intro h; rw [h]
theorem neg_rep' {P : Pt} {t : Tr} (hP : InP n P) (r : Rep n P t) : Rep n (minusA n P) (negT n t) := by
  cases P with
  | none => exact r
  | some a =>
    have r' := (rep_iff ⟨r.1, r.2.1⟩).mp r
    refine (rep_iff (P := minusA n (some a)) (t := negT n t) ⟨r.1, r.2.1⟩).mpr ?_
    obtain ⟨hZ, eX, eY⟩ := r'
    refine ⟨hZ, eX, ?_⟩
    show cz n (nF n t.2.1) = cz n ((n - a.2) % n) * _
    rw [cz_n, eY, cz_mod, cz_sub]
    have : cz n (n : Int) = 0 := (cz_z _).mpr (Int.emod_self)
    show _ = _ * cz n t.2.2
    rw [this]
    grind
theorem made_rep' {P : Pt} {s f : Int} (hs : s % (n : Int) ≠ 0) : Rep n P (madeT n P s f) := by
  cases P with
  | none => exact ⟨Int.le_refl _, npos, rfl⟩
  | some a =>
    refine ⟨(mod_in s).1, (mod_in s).2, hs, ?_, ?_⟩
    · show a.1 * s % n % n = a.1 * (s % n) % n
      rw [← cz_eq, cz_mod, cz_mul, cz_mul, cz_mod]
    · show a.2 * s % n % n = a.2 * (s % n) % n
      rw [← cz_eq, cz_mod, cz_mul, cz_mul, cz_mod]
theorem eq_rep' (hf : Fld n) {P Q : Pt} {t u : Tr} (hP : InP n P) (hQ : InP n Q) (r : Rep n P t) (q : Rep n Q u) (ht : t.2.2 = 0 → t.2.1 % (n : Int) ≠ 0) (hu : u.2.2 = 0 → u.2.1 % (n : Int) ≠ 0) : eqT n t u = decide (P = Q) := by
  have r' := (rep_iff ⟨r.1, r.2.1⟩).mp r
  have q' := (rep_iff ⟨q.1, q.2.1⟩).mp q
  unfold eqT
  rw [← Bool.decide_and]
  refine decide_eq_decide.mpr ?_
  rw [in_eq (mF_in _ _) (mF_in _ _), in_eq (mF_in _ _) (mF_in _ _), cz_m, cz_m, cz_m, cz_m]
  cases P with
  | none =>
    have hz : cz n t.2.2 = 0 := r'
    rw [hz]
    cases Q with
    | none =>
      have hz' : cz n u.2.2 = 0 := q'
      rw [hz']
      refine ⟨fun _ => rfl, fun _ => ⟨?_, ?_⟩⟩ <;> simp only [Semiring.mul_zero]
    | some c =>
      refine ⟨fun h => absurd h.2 fun h => ?_, fun h => nomatch h⟩
      rw [Semiring.mul_zero] at h
      rcases hf.nz _ _ h with h | h
      · exact ht r.2.2 ((cz_z _).mp h)
      · exact q'.1 h
  | some a =>
    obtain ⟨hZ, eX, eY⟩ := r'
    cases Q with
    | none =>
      have hz' : cz n u.2.2 = 0 := q'
      rw [hz']
      refine ⟨fun h => absurd h.2 fun h => ?_, fun h => nomatch h⟩
      rw [Semiring.mul_zero] at h
      rcases hf.nz _ _ h.symm with h | h
      · exact hu q.2.2 ((cz_z _).mp h)
      · exact hZ h
    | some c =>
      obtain ⟨hZ', eX', eY'⟩ := q'
      rw [eX, eY, eX', eY']
      have key : ∀ x y z w : Fin n, z ≠ 0 → w ≠ 0 → x * z * w = y * w * z → x = y := fun x y z w hz hw e => by
        have : (x - y) * (z * w) = 0 := by
          have : (x - y) * (z * w) = x * z * w - y * w * z := by clear e; grind
          rw [this, e]; grind
        rcases hf.nz _ _ this with h | h
        · clear e this; grind
        · exact ((hf.nz _ _ h).elim hz hw).elim
      constructor
      · intro h
        refine congrArg some (Prod.ext ((in_eq ⟨hP.1, hP.2.1⟩ ⟨hQ.1, hQ.2.1⟩).mpr (key _ _ _ _ hZ hZ' h.1)) ((in_eq hP.2.2 hQ.2.2).mpr (key _ _ _ _ hZ hZ' h.2)))
      · intro h
        obtain rfl := Option.some.inj h
        exact ⟨by grind, by grind⟩

theorem plDbl_z (hf : Fld n) (h2 : (2 : Fin n) ≠ 0) (hg : Good n b) {a : Int × Int} (ha : OnC n b (some a)) : sumA n (some a) (some a) = some (plDbl n a) := by
  obtain ⟨x, y, e, ho, m, hm, hx, hy⟩ := dbl_z hf h2 hg ha
  have hd := on_y ha
  have h2y : (2 : Fin n) * cz n a.2 ≠ 0 := fun q => (hf.nz _ _ q).elim h2 hd
  have hi := hf.inv (mF n a.2 2) (by rw [cz_m, cz_2]; exact fun q => h2y (by rw [← q]; grind))
  have hmm : cz n (dF n (mF n (mF n a.1 a.1) 3) (mF n a.2 2)) = m := by
    rw [cz_d, cz_m, cz_m, cz_3]
    rw [cz_m, cz_2] at hi
    clear hx hy e ho
    generalize cz n a.1 = x at *; generalize cz n a.2 = y at *; generalize cz n (pm (mF n a.2 2) (n - 2) n) = i at *
    have : (2 * y) * (x * x * 3 * i - m) = 0 := by
      have : (2 * y) * (x * x * 3 * i - m) = x * x * 3 * (y * 2 * i) - m * (2 * y) := by clear hm hi; grind
      rw [this, hi, hm]; clear this hm hi; grind
    rcases hf.nz _ _ this with h | h
    · exact absurd h h2y
    · clear hm hi this; grind
  rw [e]
  have e1 : x = (plDbl n a).1 := (in_eq ⟨ho.1, ho.2.1⟩ (sF_in _ _)).mpr (by
    rw [hx, cz_s, cz_m, cz_m, hmm, cz_2]; grind)
  refine congrArg some (Prod.ext e1 ((in_eq ⟨Int.le_of_lt ho.2.2.1, ho.2.2.2.1⟩ (sF_in _ _)).mpr ?_))
  show cz n y = _
  rw [hy, e1, cz_s, cz_a, cz_m, cz_m, cz_n, hmm]
  show _ = - m * cz n (plDbl n a).1 + _ - _
  grind
theorem plAdd_z (hf : Fld n) (hg : Good n b) {a c : Int × Int} (ha : OnC n b (some a)) (hc : OnC n b (some c)) (hx : a.1 ≠ c.1) :
    sumA n (some a) (some c) = some (plX n a c, sF n (aF n (mF n (nF n (plM n a c)) (plX n a c)) (mF n (plM n a c) a.1)) a.2) ∧
    sF n (aF n (mF n (nF n (plM n a c)) (plX n a c)) (mF n (plM n a c) a.1)) a.2 = sF n (aF n (mF n (nF n (plM n a c)) (plX n a c)) (mF n (plM n a c) c.1)) c.2 := by
  obtain ⟨x, y, e, ho, m, hm, hx3, hy⟩ := add_z hf hg ha hc hx
  have hxz : cz n c.1 - cz n a.1 ≠ 0 := fun q => hx ((in_eq ⟨ha.1, ha.2.1⟩ ⟨hc.1, hc.2.1⟩).mpr (by generalize cz n a.1 = x at *; generalize cz n c.1 = y at *; grind))
  have hi := hf.inv (sF n c.1 a.1) (by rw [cz_s]; exact hxz)
  have hmm : cz n (plM n a c) = m := by
    rw [plM, cz_d, cz_s]
    rw [cz_s] at hi
    clear hx3 hy e ho
    generalize cz n a.1 = x1 at *; generalize cz n a.2 = y1 at *; generalize cz n c.1 = x2 at *; generalize cz n c.2 = y2 at *; generalize cz n (pm (sF n c.1 a.1) (n - 2) n) = i at *
    rw [← hm]
    have : m * (x2 - x1) * i = m * ((x2 - x1) * i) := by clear hm hi; grind
    rw [this, hi]; clear this hi hm; grind
  constructor
  · rw [e]
    have e1 : x = plX n a c := (in_eq ⟨ho.1, ho.2.1⟩ (sF_in _ _)).mpr (by
      rw [hx3]; show _ = cz n (sF n (sF n (mF n (plM n a c) (plM n a c)) a.1) c.1); rw [cz_s, cz_s, cz_m, hmm])
    refine congrArg some (Prod.ext e1 ((in_eq ⟨Int.le_of_lt ho.2.2.1, ho.2.2.2.1⟩ (sF_in _ _)).mpr ?_))
    show cz n y = _
    rw [hy, e1, cz_s, cz_a, cz_m, cz_m, cz_n, hmm]
    clear hm hx3 hy e ho e1 hi
    grind
  · refine (in_eq (sF_in _ _) (sF_in _ _)).mpr ?_
    simp only [cz_s, cz_a, cz_m, cz_n, hmm]
    clear hmm hi e ho hx3 hy
    generalize cz n a.1 = x1 at *; generalize cz n a.2 = y1 at *; generalize cz n c.1 = x2 at *; generalize cz n c.2 = y2 at *; generalize cz n (plX n a c) = z at *
    grind
theorem plAdd_sum' (hf : Fld n) (h2 : (2 : Fin n) ≠ 0) (hg : Good n b) {P Q : Pt} (hP : OnC n b P) (hQ : OnC n b Q) : plAdd n P Q = sumA n P Q := by
  cases P with
  | none => rfl
  | some a =>
    cases Q with
    | none => rfl
    | some c =>
      unfold plAdd
      by_cases hx : a.1 = c.1
      · by_cases hy : a.2 = c.2
        · obtain rfl : a = c := Prod.ext hx hy
          simp only [and_self, if_true]
          exact (plDbl_z hf h2 hg hP).symm
        · have hs : (a.2 + c.2) % (n : Int) = 0 := Classical.byContradiction fun h => hy (congrArg Prod.snd (same_x hf hP hQ hx h))
          have e : sumA n (some a) (some c) = none := if_pos ⟨hx, hs⟩
          simp only [if_neg (fun h : c.1 = a.1 ∧ c.2 = a.2 => hy h.2.symm), if_pos hx.symm, e]
      · simp only [if_neg (fun h : c.1 = a.1 ∧ c.2 = a.2 => hx h.1.symm), if_neg (fun h : c.1 = a.1 => hx h.symm)]
        exact (plAdd_z hf hg hP hQ hx).1.symm
end
end Mine

namespace Mine
theorem pm_lt (a e p : Int) (hp : 0 < p) : pm a e p < p := by
  unfold pm PySem.Builtin.powMod
  have key : ∀ (l : List Nat) (b : Nat) (f : Nat → Bool) (z : Nat), z < p.natAbs → (l.foldl (fun x i => if f i then x * x % p.natAbs * b % p.natAbs else x * x % p.natAbs) z) < p.natAbs := by
    intro l b f
    induction l with
    | nil => intro z hz; exact hz
    | cons i l ih =>
      intro z _
      refine ih _ ?_
      show (if f i = true then _ else _) < _
      split <;> exact Nat.mod_lt _ (by omega)
  have := key ((List.range (PySem.Builtin.Int.intBits e.natAbs)).reverse) (a % (p.natAbs : Int)).toNat e.natAbs.testBit (1 % p.natAbs) (Nat.mod_lt _ (by omega))
  omega
noncomputable def zeroOk (p : Int) : Bool := decide (pm 0 (p - 2) p = 0)
theorem zero_all : prs.all zeroOk = true := by decide +kernel
theorem Pr.pm0 {p a : Int} (h : Pr p) (ha : a % p = 0) : pm a (p - 2) p = 0 := by
  rw [← pm_mod _ _ _ h.pos, ha]
  simpa [zeroOk] using List.all_eq_true.mp zero_all p h
/-- the inverse is the only one -/
theorem inv_only {q v x : Int} (h : Pr q) (hx : (x * v - 1) % q = 0) : x % q = pm v (q - 2) q := by
  have hp := h.pos
  have hv : v % q ≠ 0 := by
    intro hv
    obtain ⟨k, hk⟩ := Int.dvd_of_emod_eq_zero hv
    obtain ⟨j, hj⟩ := Int.dvd_of_emod_eq_zero hx
    have : q * (x * k - j) = 1 := by
      rw [hk] at hj
      have : q * (x * k - j) = x * (q * k) - q * j := by rw [Int.mul_sub, Int.mul_left_comm]
      omega
    have h7 := h.lo
    have : q ∣ 1 := ⟨_, this.symm⟩
    have := Int.le_of_dvd (by omega) this
    omega
  have h1 := h.inv hv
  have h2 : (v * (x - pm v (q - 2) q)) % q = 0 := by
    have e : v * (x - pm v (q - 2) q) = (x * v - 1) - (v * pm v (q - 2) q - 1) := by rw [Int.mul_sub, Int.mul_comm v x]; omega
    rw [e, Int.sub_emod, hx]
    have : (v * pm v (q - 2) q - 1) % q = 0 := by
      rw [Int.sub_emod, h1, Int.emod_eq_of_lt (by omega : (0:Int) ≤ 1) (by have := h.lo; omega)]; simp
    rw [this]; simp
  have h3 : (x - pm v (q - 2) q) % q = 0 := by
    obtain ⟨n, z, rfl, hf⟩ := exN h
    have := hf.nz (cz n v) (cz n (x - pm v (n - 2) n)) (by rw [← cz_mul, cz_z]; exact h2)
    rcases this with t | t
    · exact absurd ((cz_z _).mp t) hv
    · exact (cz_z _).mp t
  have h4 : x % q = pm v (q - 2) q % q := Int.emod_eq_emod_iff_emod_sub_eq_zero.mpr h3
  rw [h4, Int.emod_eq_of_lt (pm_lo _ _ _) (pm_lt _ _ _ hp)]
noncomputable def EI (q v lm low hm high : Int) : Prop := Int.gcd low high = 1 ∧ (lm * v - low) % q = 0 ∧ (hm * v - high) % q = 0 ∧ ((0 ≤ lm ∧ hm ≤ 0 ∧ lm * high - hm * low = q) ∨ (lm ≤ 0 ∧ 0 ≤ hm ∧ hm * low - lm * high = q))
noncomputable def IW (q v lm low hm high : Int) : Prop := (-127 ≤ lm ∧ lm ≤ 127 ∧ -127 ≤ hm ∧ hm ≤ 127 ∧ 1 ≤ low ∧ low < high ∧ high ≤ 127) ∧ EI q v lm low hm high
theorem gcd_pr {q v : Int} (h : Pr q) (hv : v % q ≠ 0) : Int.gcd v q = 1 := by
  have h1 := h.inv hv
  have hd : (Int.gcd v q : Int) ∣ 1 := by
    have e : v * pm v (q - 2) q - q * (v * pm v (q - 2) q / q) = 1 := by rw [← h1, Int.emod_def]
    rw [← e]
    exact Int.dvd_sub (Int.dvd_mul_of_dvd_left (Int.gcd_dvd_left ..)) (Int.dvd_mul_of_dvd_left (Int.gcd_dvd_right ..))
  have := Int.le_of_dvd (by omega) hd
  have h0 : Int.gcd v q ≠ 0 := fun e => by
    have := (Int.gcd_eq_zero_iff.mp e).2
    have := h.pos; omega
  omega
theorem iw_start {q v : Int} (h : Pr q) (hv : v.fmod q ≠ 0) : IW q v 1 ((v.fmod q).fmod q) 0 q := by
  have hp := h.pos
  have e1 : v.fmod q = v % q := Int.fmod_eq_emod_of_nonneg v (by omega)
  have e2 : (v.fmod q).fmod q = v % q := by rw [e1, Int.fmod_eq_emod_of_nonneg _ (by omega)]; simp
  rw [e2]
  rw [e1] at hv
  have h0 := Int.emod_nonneg v (by omega : q ≠ 0)
  have h1 := Int.emod_lt_of_pos v hp
  have := h.hi
  refine ⟨⟨by omega, by omega, by omega, by omega, by omega, by omega, by omega⟩, ?_, ?_, ?_, .inl ⟨by omega, by omega, by simp⟩⟩
  · exact gcd_pr h (by simpa using hv)
  · rw [Int.one_mul]; exact Int.emod_eq_emod_iff_emod_sub_eq_zero.mp (by simp)
  · simp
theorem iw_turn {q v lm low hm high : Int} (hq : 0 < q ∧ q ≤ 127) (h : IW q v lm low hm high) (hl : 1 < low) : IW q v (hm - lm * high.fdiv low) (high - low * high.fdiv low) lm low := by
  obtain ⟨⟨a1, a2, a3, a4, a5, a6, a7⟩, g, e1, e2, s⟩ := h
  have er : high.fdiv low = high / low := Int.fdiv_eq_ediv_of_nonneg high (by omega)
  rw [er]
  have em : high - low * (high / low) = high % low := (Int.emod_def high low).symm
  rw [em]
  have m0 := Int.emod_nonneg high (by omega : low ≠ 0)
  have m1 := Int.emod_lt_of_pos high (by omega : 0 < low)
  have r0 : 0 ≤ high / low := Int.ediv_nonneg (by omega) (by omega)
  have hg : Int.gcd (high % low) low = 1 := by rw [Int.emod_def, Int.gcd_sub_mul_left_left, Int.gcd_comm]; exact g
  have mne : high % low ≠ 0 := fun e => by
    rw [e, Int.gcd_zero_left] at hg
    omega
  have hd := Int.emod_add_mul_ediv high low
  generalize high % low = nl at *
  generalize high / low = r at *
  have E : EI q v (hm - lm * r) nl lm low := by
    refine ⟨hg, ?_, e1, ?_⟩
    · have e : (hm - lm * r) * v - nl = (hm * v - high) - r * (lm * v - low) := by
        have : nl = high - low * r := by omega
        rw [this, Int.sub_mul, Int.mul_sub, Int.mul_right_comm lm r v, Int.mul_comm r (lm * v), Int.mul_comm r low]
        generalize lm * v * r = z1; generalize low * r = z2; generalize hm * v = z3
        omega
      rw [e, Int.sub_emod, e2, Int.mul_emod, e1]; simp
    · have hh : high = nl + low * r := hd.symm
      rcases s with ⟨s1, s2, s3⟩ | ⟨s1, s2, s3⟩
      · right
        have p0 : 0 ≤ lm * r := Int.mul_nonneg s1 r0
        refine ⟨by omega, s1, ?_⟩
        rw [hh, Int.mul_add] at s3
        rw [Int.sub_mul, Int.mul_right_comm, Int.mul_assoc]
        generalize lm * nl = z1 at *; generalize lm * (low * r) = z2 at *; generalize hm * low = z3 at *
        omega
      · left
        have p0 : 0 ≤ (-lm) * r := Int.mul_nonneg (by omega) r0
        rw [Int.neg_mul] at p0
        refine ⟨by omega, s1, ?_⟩
        rw [hh, Int.mul_add] at s3
        rw [Int.sub_mul, Int.mul_right_comm, Int.mul_assoc]
        generalize lm * nl = z1 at *; generalize lm * (low * r) = z2 at *; generalize hm * low = z3 at *
        omega
  refine ⟨?_, E⟩
  obtain ⟨_, _, _, s'⟩ := E
  generalize hm - lm * r = nm at *
  have b1 : -127 ≤ nm ∧ nm ≤ 127 := by
    rcases s' with ⟨t1, t2, t3⟩ | ⟨t1, t2, t3⟩
    · have p1 : nm * 1 ≤ nm * low := Int.mul_le_mul_of_nonneg_left (by omega) t1
      have p2 : 0 ≤ (-lm) * nl := Int.mul_nonneg (by omega) m0
      rw [Int.neg_mul] at p2
      omega
    · have p1 : (-nm) * 1 ≤ (-nm) * low := Int.mul_le_mul_of_nonneg_left (by omega) (by omega)
      have p2 : 0 ≤ lm * nl := Int.mul_nonneg (by omega) m0
      simp only [Int.neg_mul, Int.mul_one] at p1
      omega
  omega
theorem iw_end {q v lm low hm high : Int} (h : Pr q) (w : IW q v lm low hm high) (hl : ¬ 1 < low) : lm.fmod q = pm v (q - 2) q := by
  obtain ⟨⟨a1, a2, a3, a4, a5, a6, a7⟩, g, e1, e2, s⟩ := w
  have : low = 1 := by omega
  rw [this] at e1
  rw [Int.fmod_eq_emod_of_nonneg _ (by have := h.pos; omega)]
  exact inv_only h e1
theorem iw_less {high low : Int} (hl : 1 < low) : (high - low * high.fdiv low).toNat < low.toNat := by
  have er : high.fdiv low = high / low := Int.fdiv_eq_ediv_of_nonneg high (by omega)
  have em : high - low * (high / low) = high % low := (Int.emod_def high low).symm
  have m0 := Int.emod_nonneg high (by omega : low ≠ 0)
  have m1 := Int.emod_lt_of_pos high (by omega : 0 < low)
  rw [er, em]; omega
theorem iw_start2 {q v : Int} (h : Pr q) (hv : v.fmod q ≠ 0) : (-127 ≤ (1 : Int) ∧ (1 : Int) ≤ 127 ∧ -127 ≤ (0 : Int) ∧ (0 : Int) ≤ 127 ∧ 1 ≤ (v.fmod q).fmod q ∧ (v.fmod q).fmod q < q ∧ q ≤ 127) ∧ EI q v 1 ((v.fmod q).fmod q) 0 q := iw_start h hv
theorem iw_turn2 {q v lm low hm high : Int} (e : EI q v lm low hm high) (l : 0 < q ∧ q ≤ 127 ∧ -127 ≤ lm ∧ lm ≤ 127 ∧ -127 ≤ hm ∧ hm ≤ 127 ∧ 1 ≤ low ∧ low < high ∧ high ≤ 127) (hl : 1 < low) :
    (-127 ≤ hm - lm * high.fdiv low ∧ hm - lm * high.fdiv low ≤ 127 ∧ -127 ≤ lm ∧ lm ≤ 127 ∧ 1 ≤ high - low * high.fdiv low ∧ high - low * high.fdiv low < low ∧ low ≤ 127) ∧ EI q v (hm - lm * high.fdiv low) (high - low * high.fdiv low) lm low :=
  iw_turn ⟨l.1, l.2.1⟩ ⟨l.2.2, e⟩ hl
theorem iw_end2 {q v lm low hm high : Int} (h : Pr q) (e : EI q v lm low hm high) (l : -127 ≤ lm ∧ lm ≤ 127 ∧ -127 ≤ hm ∧ hm ≤ 127 ∧ 1 ≤ low ∧ low < high ∧ high ≤ 127) (hl : ¬ 1 < low) : lm.fmod q = pm v (q - 2) q := iw_end h ⟨l, e⟩ hl
theorem iw_zero {q v : Int} (h : Pr q) (e : v.fmod q = 0) : pm v (q - 2) q = 0 := h.pm0 (by rw [← Int.fmod_eq_emod_of_nonneg v (by have := h.pos; omega)]; exact e)
end Mine

namespace Mine
noncomputable def badB (p b : Int) : Bool := b == 0 || pm (p - b) ((p - 1).fdiv 3) p == 1
noncomputable def stepsB (p b : Int) : Nat := ((List.range p.toNat).find? fun (k : Nat) => !badB p ((b + (k : Int)) % p)).getD p.toNat
noncomputable def turnsOk (p : Int) : Bool := (List.range p.toNat).all fun b => !badB p b || decide (stepsB p (((b : Int) + 1).fmod p) < stepsB p b)
theorem turns_all : prs.all turnsOk = true := by decide +kernel
theorem Pr.turn {p b : Int} (h : Pr p) (hb : 0 ≤ b ∧ b < p) (bad : badB p b = true) : stepsB p ((b + 1).fmod p) < stepsB p b := by
  have h1 := List.all_eq_true.mp turns_all p h
  have h2 := List.all_eq_true.mp h1 b.toNat (List.mem_range.mpr (by omega))
  have h3 : ((b.toNat : Nat) : Int) = b := by omega
  rw [h3, bad] at h2
  simpa using h2
theorem lc_m1 {p b : Int} (h : Pr p) (hb : 0 ≤ b ∧ b < p) (e : b = 0) : stepsB p ((b + 1).fmod p) < stepsB p b := h.turn hb (by unfold badB; rw [e]; rfl)
theorem lc_m2 {p b : Int} (h : Pr p) (hb : 0 ≤ b ∧ b < p) (e : pm (p - b) ((p - 1).fdiv 3) p = 1) : stepsB p ((b + 1).fmod p) < stepsB p b := h.turn hb (by unfold badB; rw [e]; simp)
theorem lc_in {p a : Int} (h : 7 ≤ p ∧ p ≤ 127) : 0 ≤ a.fmod p ∧ a.fmod p < p := by
  rw [Int.fmod_eq_emod_of_nonneg _ (by omega)]
  exact ⟨Int.emod_nonneg _ (by omega), Int.emod_lt_of_pos _ (by omega)⟩
theorem lc_end {p b : Int} (h : Pr p) (hb : 0 ≤ b ∧ b < p) (h0 : ¬ b = 0) (hn : ¬ pm (p - b) ((p - 1).fdiv 3) p = 1) : 0 < b ∧ b < p ∧ Good p b := by
  refine ⟨by omega, hb.2, fun x e => ?_⟩
  have hp := h.pos
  rw [Int.fdiv_eq_ediv_of_nonneg _ (by omega)] at hn
  by_cases hx : x % p = 0
  · have : (x * x * x + b) % p = b := by
      rw [Int.add_emod, Int.mul_emod, hx]; simp; exact Int.emod_eq_of_lt hb.1 hb.2
    omega
  · have h1 := h.cube hx
    refine hn (Eq.trans ?_ h1)
    rw [← pm_mod (p - b) _ _ hp, ← pm_mod (x * x * x) _ _ hp]
    refine congrArg (fun t => pm t ((p - 1) / 3) p) ?_
    refine Int.emod_eq_emod_iff_emod_sub_eq_zero.mpr ?_
    have : p - b - x * x * x = p - (x * x * x + b) := by generalize x * x * x = z; omega
    rw [this, Int.sub_emod, e]; simp
theorem lc_fd {p : Int} (h : 7 ≤ p) : 0 ≤ (p - 1).fdiv 3 := by rw [Int.fdiv_eq_ediv_of_nonneg _ (by omega)]; omega
theorem lc_fd4 {p : Int} (h : 7 ≤ p) : 0 ≤ (p + 1).fdiv 4 := by rw [Int.fdiv_eq_ediv_of_nonneg _ (by omega)]; omega
theorem lat_f (a : Int) : -1000000000 < a.fmod 1000003 ∧ a.fmod 1000003 < 1000000000 := by rw [Int.fmod_eq_emod_of_nonneg _ (by omega)]; omega
theorem mul_b {a b A B : Int} (hA : 0 ≤ A) (ha : -A ≤ a ∧ a ≤ A) (hb : 0 ≤ b ∧ b ≤ B) : -(A * B) ≤ a * b ∧ a * b ≤ A * B := by
  have h1 : a * b ≤ A * b := Int.mul_le_mul_of_nonneg_right ha.2 hb.1
  have h2 : A * b ≤ A * B := Int.mul_le_mul_of_nonneg_left hb.2 hA
  have h3 : (-A) * b ≤ a * b := Int.mul_le_mul_of_nonneg_right ha.1 hb.1
  rw [Int.neg_mul] at h3
  omega
section
variable {q X1 Y1 X2 Y2 : Int}
theorem fm (hq : 0 < q) (a : Int) : a.fmod q = a % q := Int.fmod_eq_emod_of_nonneg _ (by omega)
theorem sumA_none (h1 : X1 = X2) (h2 : (Y1 + Y2).fmod q = 0) : sumA q (some (X1, Y1)) (some (X2, Y2)) = none := by
  refine if_pos ⟨h1, ?_⟩
  have h3 := (Int.dvd_of_fmod_eq_zero h2)
  exact Int.emod_eq_zero_of_dvd h3
theorem sumA_dbl (hq : 0 < q) (h : ¬ (X1 = X2 ∧ (Y1 + Y2).fmod q = 0)) (e : (X1 == X2 && Y1 == Y2) = true) : sumA q (some (X1, Y1)) (some (X2, Y2)) =
    some ((3 * X1 * X1 * pm ((2 * Y1).fmod q) (q - 2) q * (3 * X1 * X1 * pm ((2 * Y1).fmod q) (q - 2) q) - X1 - X2).fmod q, (3 * X1 * X1 * pm ((2 * Y1).fmod q) (q - 2) q * (X1 - (3 * X1 * X1 * pm ((2 * Y1).fmod q) (q - 2) q * (3 * X1 * X1 * pm ((2 * Y1).fmod q) (q - 2) q) - X1 - X2).fmod q) - Y1).fmod q) := by
  simp only [Bool.and_eq_true, beq_iff_eq] at e
  have e' : ((X1, Y1) : Int × Int) = (X2, Y2) := Prod.ext e.1 e.2
  simp only [fm hq] at *
  exact (if_neg h).trans (congrArg (fun m : Int => let x := (m * m - X1 - X2) % q; (some (x, (m * (X1 - x) - Y1) % q) : Pt)) (if_pos e'))
theorem sumA_add (hq : 0 < q) (h : ¬ (X1 = X2 ∧ (Y1 + Y2).fmod q = 0)) (e : (X1 == X2 && Y1 == Y2) = false) : sumA q (some (X1, Y1)) (some (X2, Y2)) =
    some (((Y2 - Y1) * pm ((X2 - X1).fmod q) (q - 2) q * ((Y2 - Y1) * pm ((X2 - X1).fmod q) (q - 2) q) - X1 - X2).fmod q, ((Y2 - Y1) * pm ((X2 - X1).fmod q) (q - 2) q * (X1 - ((Y2 - Y1) * pm ((X2 - X1).fmod q) (q - 2) q * ((Y2 - Y1) * pm ((X2 - X1).fmod q) (q - 2) q) - X1 - X2).fmod q) - Y1).fmod q) := by
  have e' : ¬ ((X1, Y1) : Int × Int) = (X2, Y2) := fun h => by
    obtain ⟨a, b⟩ := Prod.mk.inj h
    rw [a, b] at e; simp at e
  simp only [fm hq] at *
  exact (if_neg h).trans (congrArg (fun m : Int => let x := (m * m - X1 - X2) % q; (some (x, (m * (X1 - x) - Y1) % q) : Pt)) (if_neg e'))
noncomputable def mS (q X1 Y1 X2 Y2 : Int) : Int := if (X1 == X2 && Y1 == Y2) = true then 3 * X1 * X1 * pm ((2 * Y1).fmod q) (q - 2) q else (Y2 - Y1) * pm ((X2 - X1).fmod q) (q - 2) q
theorem sumA_m (hq : 0 < q) (h : ¬ (X1 = X2 ∧ (Y1 + Y2).fmod q = 0)) : sumA q (some (X1, Y1)) (some (X2, Y2)) = some ((mS q X1 Y1 X2 Y2 * mS q X1 Y1 X2 Y2 - X1 - X2).fmod q, (mS q X1 Y1 X2 Y2 * (X1 - (mS q X1 Y1 X2 Y2 * mS q X1 Y1 X2 Y2 - X1 - X2).fmod q) - Y1).fmod q) := by
  by_cases e : (X1 == X2 && Y1 == Y2) = true
  · rw [show mS q X1 Y1 X2 Y2 = _ from if_pos e]; exact sumA_dbl hq h e
  · rw [show mS q X1 Y1 X2 Y2 = _ from if_neg e]; exact sumA_add hq h (Bool.eq_false_iff.mpr e)
theorem mS_b (h : 7 ≤ q ∧ q ≤ 127) (h1 : 0 ≤ X1 ∧ X1 < q ∧ 0 ≤ Y1 ∧ Y1 < q) (h2 : 0 ≤ X2 ∧ X2 < q ∧ 0 ≤ Y2 ∧ Y2 < q) : -6145149 ≤ mS q X1 Y1 X2 Y2 ∧ mS q X1 Y1 X2 Y2 ≤ 6145149 := by
  have hpa := And.intro (pm_lo ((2 * Y1).fmod q) (q - 2) q) (pm_lt ((2 * Y1).fmod q) (q - 2) q (by omega))
  have hpb := And.intro (pm_lo ((X2 - X1).fmod q) (q - 2) q) (pm_lt ((X2 - X1).fmod q) (q - 2) q (by omega))
  have hsq := mul_b (A := 127) (B := 127) (a := X1) (b := X1) (by omega) (by omega) (by omega)
  have hma := mul_b (A := 48387) (B := 127) (a := 3 * X1 * X1) (b := pm ((2 * Y1).fmod q) (q - 2) q) (by omega) (by rw [Int.mul_assoc]; omega) (by omega)
  have hmb := mul_b (A := 127) (B := 127) (a := Y2 - Y1) (b := pm ((X2 - X1).fmod q) (q - 2) q) (by omega) (by omega) (by omega)
  unfold mS
  split <;> omega
theorem told_a {t : Tr} (h : t.2.2 = 0) : told q t = none := if_pos h
theorem told_ne {t : Tr} {a : Int × Int} (h : told q t = some a) : ¬ t.2.2 = 0 := fun z => by rw [told_a z] at h; cases h
theorem told_b {t : Tr} (hq : 0 < q) (h : ¬ t.2.2 = 0) : told q t = some ((t.1 * pm t.2.2 (q - 2) q).fmod q, (t.2.1 * pm t.2.2 (q - 2) q).fmod q) := by rw [fm hq, fm hq]; exact if_neg h
theorem fin_r (h : 0 < q ∧ q ≤ 127) (a : Int) : 0 ≤ a % q ∧ a % q < q := ⟨Int.emod_nonneg _ (by omega), Int.emod_lt_of_pos _ h.1⟩
end
theorem pt_on {q b x y : Int} (hp : Pr q) (hg : Good q b) (hx : 0 ≤ x ∧ x < q) (hy : 0 ≤ y ∧ y < q) (e : (y * y).fmod q = (x * x * x + b).fmod q) : OnC q b (some (x, y)) ∧ OnC q b (some (x, q - y)) := by
  rw [fm hp.pos, fm hp.pos] at e
  have h0 : y ≠ 0 := fun z => by rw [z] at e; exact hg x (by rw [← e]; simp)
  refine ⟨⟨hx.1, hx.2, by show 0 < y; omega, hy.2, e⟩, ⟨hx.1, hx.2, by show 0 < q - y; omega, by show q - y < q; omega, ?_⟩⟩
  show (q - y) * (q - y) % q = _
  rw [← e]
  refine Int.emod_eq_emod_iff_emod_sub_eq_zero.mpr ?_
  have : (q - y) * (q - y) - y * y = q * (q - 2 * y) := by
    rw [Int.sub_mul, Int.mul_sub, Int.mul_sub, Int.mul_sub, Int.mul_comm y q, Int.mul_left_comm q 2 y]
    generalize q * q = u; generalize q * y = v; generalize y * y = z; omega
  rw [this]; simp
end Mine

namespace Mine
open Lean.Grind
section
variable {p b : Int}
theorem told_rep (h : Pr p) {P : Pt} {t : Tr} (hP : InP p P) (r : Rep p P t) : told p t = P := by
  obtain ⟨n, z, rfl, hf⟩ := exN h
  exact told_rep' hf hP r
theorem nrm_rep (h : Pr p) {a : Int × Int} {t : Tr} (hP : InP p (some a)) (r : Rep p (some a) t) : nrm p t = a := by
  obtain ⟨n, z, rfl, hf⟩ := exN h
  exact nrm_rep' hf hP r
theorem on_rep (h : Pr p) {P : Pt} {t : Tr} (c : Int) (hP : OnC p b P) (r : Rep p P t) : onT p t (c % p) = (decide (P = none) || decide (c % p = b % p)) := by
  obtain ⟨n, z, rfl, hf⟩ := exN h
  exact on_rep' hf c hP r
theorem on_same (h : Pr p) {P : Pt} {t : Tr} (hP : OnC p b P) (r : Rep p P t) : onT p t (b % p) = true := by
  rw [on_rep h b hP r]; simp
theorem on_next (h : Pr p) {P : Pt} {t : Tr} (hP : OnC p b P) (r : Rep p P t) : onT p t ((b + 1) % p) = decide (P = none) := by
  rw [on_rep h (b + 1) hP r]
  have h7 := h.lo
  have : decide ((b + 1) % p = b % p) = false := decide_eq_false fun e => by
    have := Int.emod_eq_emod_iff_emod_sub_eq_zero.mp e
    have e2 : b + 1 - b = 1 := by omega
    rw [e2, Int.emod_eq_of_lt (by omega) (by omega)] at this
    omega
  rw [this, Bool.or_false]
theorem rep_zero {P : Pt} {t : Tr} (r : Rep p P t) : decide (t.2.2 = 0) = decide (P = none) := by
  cases P with
  | none => rw [decide_eq_true r.2.2]; rfl
  | some a => rw [decide_eq_false r.2.2.1]; rfl
theorem neg_rep (h : Pr p) {P : Pt} {t : Tr} (hP : InP p P) (r : Rep p P t) : Rep p (minusA p P) (negT p t) := by
  obtain ⟨n, z, rfl, hf⟩ := exN h
  exact neg_rep' hP r
theorem made_rep (h : Pr p) {P : Pt} {s f : Int} (hs : 0 < s ∧ s < p) : Rep p P (madeT p P s f) := by
  obtain ⟨n, z, rfl, hf⟩ := exN h
  exact made_rep' (by rw [Int.emod_eq_of_lt (by omega) hs.2]; omega)
theorem made_side {P : Pt} {s f : Int} (hs : 0 < s ∧ s < p) (e : (madeT p P s f).2.2 = 0) : (madeT p P s f).2.1 % p ≠ 0 := by
  have hm : s % p = s := Int.emod_eq_of_lt (by omega) hs.2
  cases P with
  | none =>
    show s % p % p ≠ 0
    rw [hm, hm]; omega
  | some a =>
    have : s % p = 0 := e
    omega
theorem eq_rep (h : Pr p) {P Q : Pt} {t u : Tr} (hP : InP p P) (hQ : InP p Q) (r : Rep p P t) (q : Rep p Q u) (ht : t.2.2 = 0 → t.2.1 % p ≠ 0) (hu : u.2.2 = 0 → u.2.1 % p ≠ 0) : eqT p t u = decide (P = Q) := by
  obtain ⟨n, z, rfl, hf⟩ := exN h
  exact eq_rep' hf hP hQ r q ht hu
theorem plAdd_sum (h : Pr p) (hg : Good p b) {P Q : Pt} (hP : OnC p b P) (hQ : OnC p b Q) : plAdd p P Q = sumA p P Q := by
  obtain ⟨n, z, rfl, hf⟩ := exN h
  exact plAdd_sum' hf (two_ne h) hg hP hQ
theorem plDbl_sum (h : Pr p) (hg : Good p b) {P : Pt} (hP : OnC p b P) : P.map (plDbl p) = sumA p P P := by
  obtain ⟨n, z, rfl, hf⟩ := exN h
  cases P with
  | none => rfl
  | some a => exact (plDbl_z hf (two_ne h) hg hP).symm
theorem plCk (h : Pr p) (hg : Good p b) {P Q : Pt} (hP : OnC p b P) (hQ : OnC p b Q) : ∀ a c, P = some a → Q = some c → ¬ c.1 = a.1 →
    sF p (aF p (mF p (nF p (plM p a c)) (plX p a c)) (mF p (plM p a c) a.1)) a.2 = sF p (aF p (mF p (nF p (plM p a c)) (plX p a c)) (mF p (plM p a c) c.1)) c.2 := by
  rintro a c rfl rfl hne
  obtain ⟨n, z, rfl, hf⟩ := exN h
  exact (plAdd_z hf hg hP hQ (fun e => hne e.symm)).2
theorem sum_comm (h : Pr p) (hg : Good p b) {P Q : Pt} (hP : OnC p b P) (hQ : OnC p b Q) : sumA p Q P = sumA p P Q := by
  cases P with
  | none => cases Q <;> rfl
  | some a =>
    cases Q with
    | none => rfl
    | some c =>
      by_cases hx : a.1 = c.1
      · by_cases hs : (a.2 + c.2) % p = 0
        · have e1 : sumA p (some a) (some c) = none := if_pos ⟨hx, hs⟩
          have e2 : sumA p (some c) (some a) = none := if_pos ⟨hx.symm, by rw [Int.add_comm]; exact hs⟩
          rw [e1, e2]
        · obtain ⟨n, z, rfl, hf⟩ := exN h
          obtain rfl := same_x hf hP hQ hx hs
          rfl
      · obtain ⟨n, z, rfl, hf⟩ := exN h
        obtain ⟨x, y, e, o, m, hm, hx3, hy3⟩ := add_z hf hg hP hQ hx
        obtain ⟨x', y', e', o', m', hm', hx3', hy3'⟩ := add_z hf hg hQ hP (Ne.symm hx)
        have hxz : cz n c.1 - cz n a.1 ≠ 0 := fun q => hx ((in_eq ⟨hP.1, hP.2.1⟩ ⟨hQ.1, hQ.2.1⟩).mpr (by generalize cz n a.1 = x at *; generalize cz n c.1 = y at *; clear hm hm' hx3 hx3' hy3 hy3'; grind))
        have hmm : m = m' := by
          have : (cz n c.1 - cz n a.1) * (m - m') = 0 := by
            generalize cz n a.1 = u at *; generalize cz n c.1 = v at *; generalize cz n a.2 = s at *; generalize cz n c.2 = t at *
            clear hx3 hx3' hy3 hy3'
            grind
          rcases hf.nz _ _ this with t | t
          · exact absurd t hxz
          · clear hm hm' hx3 hx3' hy3 hy3' this; grind
        subst hmm
        have ex : x = x' := (in_eq ⟨o.1, o.2.1⟩ ⟨o'.1, o'.2.1⟩).mpr (by rw [hx3, hx3']; clear hm hm' hx3 hx3' hy3 hy3'; grind)
        subst ex
        have ey : y = y' := (in_eq ⟨Int.le_of_lt o.2.2.1, o.2.2.2.1⟩ ⟨Int.le_of_lt o'.2.2.1, o'.2.2.2.1⟩).mpr (by
          rw [hy3, hy3']
          generalize cz n a.1 = u at *; generalize cz n c.1 = v at *; generalize cz n a.2 = s at *; generalize cz n c.2 = t at *; generalize cz n x = w at *
          clear hm' hx3 hx3' hy3 hy3'
          grind)
        rw [e, e', ey]
theorem minus_on {P : Pt} (hP : OnC p b P) : OnC p b (minusA p P) := by
  cases P with
  | none => trivial
  | some a =>
    obtain ⟨x, y⟩ := a
    obtain ⟨h1, h2, h3, h4, h5⟩ := hP
    dsimp only at h1 h2 h3 h4 h5
    have hm : (p - y) % p = p - y := Int.emod_eq_of_lt (by omega) (by omega)
    show OnC p b (some (x, (p - y) % p))
    rw [hm]
    refine ⟨h1, h2, by show 0 < p - y; omega, by show p - y < p; omega, ?_⟩
    show (p - y) * (p - y) % p = _
    rw [← h5]
    refine Int.emod_eq_emod_iff_emod_sub_eq_zero.mpr ?_
    have : (p - y) * (p - y) - y * y = p * (p - 2 * y) := by
      rw [Int.sub_mul, Int.mul_sub, Int.mul_sub, Int.mul_sub, Int.mul_comm y p, Int.mul_left_comm p 2 y]
      generalize p * p = u; generalize p * y = v; generalize y * y = z; omega
    rw [this]; simp
end
end Mine

open PySem PySem.W PyProof.Rows
set_option Elab.async false
namespace Mine
theorem two3 {P T U V : Prop} (main : P) (hl : T) (hw : U) (hc : V) : P := (fun _ _ _ => main) hl hw hc
set_option maxRecDepth 100000 in
set_option maxHeartbeats 0 in
theorem kk (no : False) : True := by
  have said : PySem.Challenge.rw_lh0034_01.row.wellSaid = true := no.elim
  have : PySem.Challenge.rw_lh0034_01.row.Holds := by
    apply two3
    rotate_left 1
    contradiction
    contradiction
    contradiction
    rotate_right 1
    k_head
  trivial
end Mine

open PySem PySem.W PyProof.Rows PySem.Calls
set_option Elab.async false
set_option maxRecDepth 100000
namespace Mine
open PySem.Builtin in
theorem int_mul_inst (a : Int) (t : Tok) (x : Addr) (c : Value) (d : Option Addr) (sl : Array (Option Value)) :
    Meets (Builtin.«int.__mul__» ⟨[.int a t, .ref x], []⟩) (fun _ R s => s.heap.get? x = some { cls := c, dict := d, data := .plain, slots := sl } ∧ R (.ok (.ret Value.notImplemented)) s) :=
  .of_wp fun prog w A R s h => by obtain ⟨hp, g, d, tk, os⟩ := s; obtain ⟨hl, h⟩ := h; wp_walk; exact ⟨_, rfl, h⟩
section
variable {prog : Program} {w : World} {A : Around} {E : Value → Shared → Prop} {s : Shared} {K : Frag} {x C L f g : Addr} {h₀ : Heap} {m : Str → Option Value} {ox : Obj} {od : Option Obj} {nm T : String}
theorem notPy : numberSlotInPython (.type T) nm = pure false := rfl
theorem ksp_reflT {a : Value} {Q : Option Value → Shared → Prop} (F : Fr h₀ L s.heap m) (X₀ : K.In h₀) (I : InstAt s.heap x ox C od) (ha : typeOf a = pure (.type T)) (hc : selfFirst K C = true)
    (hs : findIn K (.ref C) (PySem.dunder nm) = some (some (.ref g))) (hr : findIn K (.ref C) (dunderR nm) = some (some (.ref f))) (hf : isFn K (.ref f) = true)
    (hfT : fillsNumberSlot (.type T) nm = pure true) (hsub : subIn K (.ref C) (.type T) = some false)
    (two : wpAny (model prog w) A (tryMethod a (PySem.dunder nm) (.ref x)) (fun r s' => r = none ∧ s' = s) E s)
    (h : wpAny (model prog w) A (call (.ref f) [.ref x, a]) (W.CmpBack fun v => Q (some v)) E s) : wpAny (model prog w) A (binaryOp1 nm a (.ref x)) Q E s := by
  have X := X₀.keeps F.keep
  obtain ⟨cd, rest, hcd, hm⟩ := ksp_first hc
  have one := ksp_try X I hr hf h
  obtain ⟨hh, g', d, tt, os⟩ := s
  have L1 : Looks (model prog w) hh (typeOf (.ref x)) (.ref C) := I.type
  have L2 : Looks (model prog w) hh (typeOf a) (.type T) := Looks.of_pure ha
  have L3 : Looks (model prog w) hh (fillsNumberSlot (.ref C) nm) true := fills_K X hcd hm hs
  have L4 : Looks (model prog w) hh (fillsNumberSlot (.type T) nm) true := Looks.of_pure hfT
  have L5 : Looks (model prog w) hh (isSubtype (.ref C) (.type T)) false := looks_subIn X hsub
  have L6 : Looks (model prog w) hh (numberSlotInPython (.type T) nm) false := Looks.of_pure notPy
  have hne : (Value.type T == Value.ref C) = false := Bool.eq_false_iff.mpr fun q => by cases beq_iff_eq.mp q
  unfold binaryOp1
  refine wpAny_bind (L2.at (wpAny_bind (L1.at (wpAny_bind (L4.at ?_)))))
  simp only [hne, Bool.false_eq_true, if_false]
  ksp_lk
  refine wpAny_mono two (fun r s' hr' => ?_) fun _ _ e => e
  obtain ⟨rfl, rfl⟩ := hr'
  ksp_lk
  refine wpAny_mono one (fun r s' hr' => ?_) fun _ _ e => e
  obtain ⟨v, rfl, hq⟩ := hr'
  ksp_lk
  exact hq
theorem op_of1 {op : Operator} {a b : Value} {Q : Value → Shared → Prop} (h : wpAny (model prog w) A (binaryOp1 op.info.2 a b) (fun r s' => ∃ v, r = some v ∧ Q v s') E s) : wpAny (model prog w) A (binaryOp op a b) Q E s := by
  rcases hi : op.info with ⟨sym, nm'⟩
  rw [hi] at h
  simp only [binaryOp, hi]
  refine wpAny_holding (wpAny_bind (wpAny_mono h (fun r s' q => ?_) fun _ _ e => e))
  obtain ⟨v, rfl, q⟩ := q
  exact wpAny_pure q
theorem mul_no {name : Str} {id : String} {x : Addr} {a : Int} {t : Tok} {c : Value} {dx : Option Addr} {sl : Array (Option Value)} (S : Slot "int" name id) (en : entryFor table id = some Builtin.«int.__mul__») (ar : argsOk id ⟨[.int a t, .ref x], []⟩)
    (e : s.heap.get? x = some { cls := c, dict := dx, data := .plain, slots := sl }) :
    wpAny (model prog w) A (tryMethod (.int a t) name (.ref x)) (fun r s' => r = none ∧ s' = s) E s :=
  wpAny_tryMethod_declines (typeIs_int s a t) S (call_meets S (typeIs_int s a t) en ar (int_mul_inst a t x _ _ _) ⟨e, rfl, rfl, rfl⟩)
theorem mul_no_mul {x : Addr} {a : Int} {t : Tok} {c : Value} {dx : Option Addr} {sl : Array (Option Value)} (e : s.heap.get? x = some { cls := c, dict := dx, data := .plain, slots := sl }) :
    wpAny (model prog w) A (tryMethod (.int a t) (PySem.dunder "mul") (.ref x)) (fun r s' => r = none ∧ s' = s) E s :=
  @mul_no prog w A E s (PySem.dunder "mul") "int.__mul__" x a t c dx sl PySem.F.slot_int_mul PySem.F.entry_int_mul (PySem.F.args_int_mul_2 _ _) e
theorem rmul_K {a : Int} {t : Tok} {dx : Option Addr} {sl : Array (Option Value)} {Q : Value → Shared → Prop} (F : Fr h₀ L s.heap m) (X₀ : K.In h₀) (I : InstAt s.heap x ⟨.ref C, dx, .plain, sl⟩ C od) (hc : selfFirst K C = true)
    (hs : findIn K (.ref C) (PySem.dunder "mul") = some (some (.ref g))) (hr : findIn K (.ref C) (dunderR "mul") = some (some (.ref f))) (hf : isFn K (.ref f) = true)
    (hsub : subIn K (.ref C) (.type "int") = some false)
    (h : wpAny (model prog w) A (call (.ref f) [.ref x, .int a t]) (W.CmpBack Q) E s) : wpAny (model prog w) A (binaryOp .Mult (.int a t) (.ref x)) Q E s :=
  op_of1 (ksp_reflT F X₀ I rfl hc hs hr hf PySem.F.fills_int_mul hsub (@mul_no_mul _ _ _ _ _ _ _ _ _ _ _ I.at_) (wpAny_mono h (fun v s' q => by cases v <;> first | exact q.elim | exact ⟨_, rfl, q⟩) fun _ _ e => e))
end
theorem pow3_ints (b e m : Int) (t u v : Tok) (he : 0 ≤ e) (hm : 1 < m) :
    Meets (Builtin.«int.__pow__» ⟨[.int b t, .int e u, .int m v], []⟩) (fun _ R s => R (.ok (.ret (.int (pm b e m) s.toks))) { s with toks := s.toks + 1 }) :=
  .of_wp fun prog w A R s h => by
    obtain ⟨hp, g, d, tk, os⟩ := s
    wp_walk
    rw [if_neg (by simp; omega)]
    simp only []
    rw [if_neg (by simp; omega), if_neg (by omega)]
    have e1 : (decide (m < 0) && ((Builtin.powMod (b % (m.natAbs : Int)).toNat e.natAbs m.natAbs : Nat) : Int) != 0) = false := by rw [decide_eq_false (by omega)]; rfl
    simp only [e1, Bool.false_eq_true, if_false]
    wp_walk
    exact ⟨_, rfl, h⟩

section
variable {prog : Program} {w : World} {A : Around} {E : Value → Shared → Prop} {s : Shared} {Q : Value → Shared → Prop}
theorem pow_args (a b c : Value) : argsOk "pow" ⟨[a, b, c], []⟩ := by unfold argsOk; kernel_rfl
theorem pow_argsI (a b c : Value) : argsOk "int.__pow__" ⟨[a, b, c], []⟩ := by unfold argsOk; kernel_rfl
theorem pow_spec {name : Str} {id : String} {b e m : Int} {t u v : Tok} (S : Slot "int" name id) (en : entryFor table id = some Builtin.«int.__pow__») (ar : argsOk id ⟨[.int b t, .int e u, .int m v], []⟩) (he : 0 ≤ e) (hm : 1 < m) :
    wpAny (model prog w) A (callSpecial? (.int b t) name [.int e u, .int m v]) (fun r s' => r = some (.int (pm b e m) s.toks) ∧ s' = { s with toks := s.toks + 1 }) E s :=
  wpAny_callSpecial?_slot (typeIs_int s b t) S (call_meets S (typeIs_int s b t) en ar (pow3_ints b e m t u v he hm) ⟨rfl, rfl⟩)
theorem pow_bind (a b c : Value) : Builtin.Builtins.bindParams "pow" ["base", "exp", "mod"] 2 ⟨[a, b, c], []⟩ = pure [some a, some b, some c] := by kernel_rfl
theorem pow_look : typeLookup (.type "int") (Str.ofString "__pow__") = pure (some (.builtin "int.__pow__")) := by rw [typeLookup_type, builtinLookup_eq_fast]; kernel_rfl
theorem tof_int (b : Int) (t : Tok) : typeOf (.int b t) = pure (.type "int") := rfl
theorem ret_ok {v : Value} {R : Value → Shared → Prop} (h : R v s) : wpAny (model prog w) A (ret v) (fun fin s' => ∃ v, fin = PySem.Fin.done (.ret v) ∧ R v s') E s := wpAny_pure ⟨v, rfl, h⟩
theorem int_ne (i : Int) (t : Tok) : (Value.int i t != Value.notImplemented) = true := by
  simp [bne]
theorem pow_body {b e m : Int} {t u v : Tok} (hs : ∀ A : Around, wpAny (model prog w) A (callSpecial? (.int b t) "__pow__" [.int e u, .int m v]) (fun r s' => r = some (.int (pm b e m) s.toks) ∧ s' = { s with toks := s.toks + 1 }) E s)
    (h : Q (.int (pm b e m) s.toks) { s with toks := s.toks + 1 }) : wpAny (model prog w) A (Builtin.«pow» ⟨[.int b t, .int e u, .int m v], []⟩) (fun fin s' => ∃ v, fin = .done (.ret v) ∧ Q v s') E s := by
  unfold Builtin.«pow»
  rw [pow_bind]
  simp only [pure_bind, tof_int, pow_look, Option.getD_some]
  with_reducible refine wpAny_bind (wpAny_rule ?_)
  with_reducible refine wpAny_bind ?_
  with_reducible refine wpAny_mono (hs _) (fun r s' q => ?_) (fun _ _ e => e)
  obtain ⟨rfl, rfl⟩ := q
  simp only [int_ne, if_true]
  with_reducible exact ret_ok h
theorem pow_call {b e m : Int} {t u v : Tok} (he : 0 ≤ e) (hm : 1 < m) (h : Q (.int (pm b e m) s.toks) { s with toks := s.toks + 1 }) :
    wpAny (model prog w) A (call (.builtin "pow") [.int b t, .int e u, .int m v]) Q E s := by
  with_reducible refine Calls.call_function_entry (b := Builtin.«pow») (by decide +kernel) (by decide +kernel) (entryFor_of_fast (by kernel_rfl)) (pow_args _ _ _) ?_
  exact @pow_body prog w _ E s Q b e m t u v (fun A => @pow_spec prog w A E s _ _ b e m t u v PySem.F.slot_int_pow PySem.F.entry_int_pow (pow_argsI _ _ _) he hm) h
end
end Mine

namespace Mine
theorem fillK : (fun (_ : OpenLaw) (_ : Params → Frag) => True) PySem.Challenge.rw_lh0034_01 kk.heap_1 := by k_fill; trivial
local macro_rules | `(tactic| k_room) => `(tactic| ktr_room)
local macro_rules | `(tactic| k_units) => `(tactic| ktr_units)
abbrev fqD (P : Params) (p n : Int) (t1 t2 t3 t4 : Tok) : Obj := dictOf [⟨PyData.keyHash P "field_modulus", .str "field_modulus" t1, .int p t2⟩, ⟨PyData.keyHash P "n", .str "n" t3, .int n t4⟩] 2
section
variable {h₀ h : Heap} {L : Addr} {e : Addr × Obj} {news : List (Addr × Obj)}
theorem addE (N : News h₀ L h news) (hm : e ∈ news) : News h₀ L h (e :: news) := fun p hp => (List.mem_cons.mp hp).elim (fun q => q ▸ N _ hm) (N p)
theorem add2 {e1 e2 : Addr × Obj} (N : News h₀ L h news) (h1 : e1 ∈ news) (h2 : e2 ∈ news) : News h₀ L h (e1 :: e2 :: news) := addE (addE N h2) (List.mem_cons.mpr (.inr h1))
theorem add4 {e1 e2 e3 e4 : Addr × Obj} (N : News h₀ L h news) (h1 : e1 ∈ news) (h2 : e2 ∈ news) (h3 : e3 ∈ news) (h4 : e4 ∈ news) : News h₀ L h (e1 :: e2 :: e3 :: e4 :: news) := add2 (add2 N h3 h4) (List.mem_cons.mpr (.inr (List.mem_cons.mpr (.inr h1)))) (List.mem_cons.mpr (.inr (List.mem_cons.mpr (.inr h2))))
theorem subR {l : List (Addr × Obj)} : ∀ p ∈ l, p ∈ l := fun _ h => h
theorem subC {l l' : List (Addr × Obj)} (h : ∀ p ∈ l, p ∈ l') : ∀ p ∈ e :: l, p ∈ e :: l' := fun p hp => (List.mem_cons.mp hp).elim (fun q => List.mem_cons.mpr (.inl q)) fun q => List.mem_cons.mpr (.inr (h p q))
theorem subS {l l' : List (Addr × Obj)} (h : ∀ p ∈ l, p ∈ l') : ∀ p ∈ l, p ∈ e :: l' := fun p hp => List.mem_cons.mpr (.inr (h p hp))
end
noncomputable def JacIn (C : Addr) (P : Params) (news : List (Addr × Obj)) (q : Int) (v : Addr) (t : Tr) : Prop := ∃ (n : Nat) (x dx : Addr) (x1 x2 x3 x4 : Tok) (y dy : Addr) (y1 y2 y3 y4 : Tok) (z dz : Addr) (z1 z2 z3 z4 : Tok),
  (v, ({ cls := .type "tuple", data := .seq #[.ref x, .ref y, .ref z] n } : Obj)) ∈ news ∧ (x, instObj C dx) ∈ news ∧ (dx, fqD P q t.1 x1 x2 x3 x4) ∈ news ∧ (y, instObj C dy) ∈ news ∧ (dy, fqD P q t.2.1 y1 y2 y3 y4) ∈ news ∧ (z, instObj C dz) ∈ news ∧ (dz, fqD P q t.2.2 z1 z2 z3 z4) ∈ news
noncomputable def InT (q : Int) (t : Tr) : Prop := (0 ≤ t.1 ∧ t.1 < q) ∧ (0 ≤ t.2.1 ∧ t.2.1 < q) ∧ (0 ≤ t.2.2 ∧ t.2.2 < q)
theorem JacIn.mono {C : Addr} {P : Params} {news news' : List (Addr × Obj)} {q : Int} {v : Addr} {t : Tr} (h : JacIn C P news q v t) (s : ∀ e ∈ news, e ∈ news') : JacIn C P news' q v t := by
  obtain ⟨n, x, dx, x1, x2, x3, x4, y, dy, y1, y2, y3, y4, z, dz, z1, z2, z3, z4, h0, h1, h2, h3, h4, h5, h6⟩ := h
  exact ⟨n, x, dx, x1, x2, x3, x4, y, dy, y1, y2, y3, y4, z, dz, z1, z2, z3, z4, s _ h0, s _ h1, s _ h2, s _ h3, s _ h4, s _ h5, s _ h6⟩
theorem fin_m {q : Int} (h : 0 < q ∧ q ≤ 127) (a b : Int) : 0 ≤ a * b % q ∧ a * b % q < q := ⟨Int.emod_nonneg _ (by omega), Int.emod_lt_of_pos _ h.1⟩
theorem fin_s {q : Int} (h : 0 < q ∧ q ≤ 127) (a b : Int) : 0 ≤ (a - b) % q ∧ (a - b) % q < q := ⟨Int.emod_nonneg _ (by omega), Int.emod_lt_of_pos _ h.1⟩
section
variable {w : World} {p : Program} {loose : List Str} {mean : ExcName → Option Value} {mg mb : Str → Option Value} {dp un : Nat} {gd : Option (List Code)} {cn : Str} {cs : Scope} {a : Addr} {ccd : Value} {cl : List (Str × Addr)} {outer : List Env} {A₀ : Around} {base h₀ : Heap} {L : Addr} {m : Str → Option Value} {news : List (Addr × Obj)} {s : Shared} {Q E : Value → Shared → Prop}

set_option maxRecDepth 100000 in
set_option maxHeartbeats 0 in
theorem new2 {v q : Int} {tv tq : Tok}
    (B : Below A₀ base outer h₀) (F : Fr h₀ L s.heap m) (X : (kk.heap_1 w.params).In h₀) (N : News h₀ L s.heap news) (T : Top p loose mean mg mb h₀) (hk : cs.kind = .function)
    (hd : dp + 4 < recursionLimit) (hu : un + 32 < cLine) (hq : 0 < q ∧ q ≤ 127) (hret : ∀ (z dz : Addr) (t1 t2 t3 t4 : Tok) (h' : Heap) (tk' : Nat), Fr h₀ L h' m → News h₀ L h' ((z, instObj 417 dz) :: (dz, fqD w.params q (v % q) t1 t2 t3 t4) :: news) → Q (.ref z) { s with heap := h', toks := tk' }) :
    wpAny (model PySem.Challenge.pw_lh0034_01 w) (ktrTop dp un gd cn cs L a ccd cl outer) (call (.ref 417) [.int v tv, .int q tq]) Q E s := by
  rw [show v % q = v.fmod q from (Int.fmod_eq_emod_of_nonneg v (by omega)).symm] at hret
  k_dflt (refine' call_cls ?k1 ?k2 ?k3 ?k4 ?k5 ?k6 ?_; (case k1 => k_asm); (case k2 => k_asm); (case k3 => k_asm); (case k4 => k_is); (case k5 => k_is); (case k6 => k_is); k_whole; intro x' d' h' F' N' l1 l2; (try k_lt l1); (try k_lt2 l2); (try k_sweep); ktr_enter)
  k_steps
  exact hret _ _ _ _ _ _ _ _ (by k_asm) (cb_drop (by k_asm) (by repeat (first | exact subR | refine subC ?_ | refine subS ?_)))

local macro_rules | `(tactic| walk_at "call ref") => `(tactic| (k_here; (with_reducible show wpAny _ _ (call (Value.ref 417) [Value.int _ _, Value.int _ _]) _ _ _); k_dflt (refine' new2 ?B ?F ?X ?N ?T ?K ?hd ?hu ?hq ?_; (case B => k_asm); (case F => k_asm); (case X => k_asm); (case N => k_asm); (case T => k_asm); (case K => first | exact rfl | assumption); (case hd => ktr_room); (case hu => ktr_units); (case hq => omega)); intro z' d' t1' t2' t3' t4' h' tk' F' N'; (try k_sweep); (try dsimp only [W.CmpBack]); (try k_fold)))

set_option maxRecDepth 100000 in
set_option maxHeartbeats 0 in
theorem made2 {v q n1 : Int} {tv : Tok} {x dx : Addr} {x1 x2 x3 x4 : Tok}
    (B : Below A₀ base outer h₀) (F : Fr h₀ L s.heap m) (X : (kk.heap_1 w.params).In h₀) (N : News h₀ L s.heap news) (T : Top p loose mean mg mb h₀) (hk : cs.kind = .function)
    (hd : dp + 6 < recursionLimit) (hu : un + 48 < cLine) (hq : 0 < q ∧ q ≤ 127) (mx : (x, instObj 417 dx) ∈ news) (mdx : (dx, fqD w.params q n1 x1 x2 x3 x4) ∈ news) (hret : ∀ (z dz : Addr) (t1 t2 t3 t4 : Tok) (h' : Heap) (tk' : Nat), Fr h₀ L h' m → News h₀ L h' ((z, instObj 417 dz) :: (dz, fqD w.params q (v % q) t1 t2 t3 t4) :: news) → Q (.ref z) { s with heap := h', toks := tk' }) :
    wpAny (model PySem.Challenge.pw_lh0034_01 w) (ktrTop dp un gd cn cs L a ccd cl outer) (call (.ref 400) [.ref x, .int v tv]) Q E s := by
  have N := add2 N mx mdx
  refine wpAny_call ?_
  k_dflt ktr_enter
  k_steps
  exact hret _ _ _ _ _ _ _ _ (by k_asm) (cb_drop (by k_asm) (by repeat (first | exact subR | refine subC ?_ | refine subS ?_)))

local macro_rules | `(tactic| walk_at "call ref") => `(tactic| (k_here; (with_reducible show wpAny _ _ (call (Value.ref 400) [Value.ref _, Value.int _ _]) _ _ _); k_dflt (refine' made2 ?B ?F ?X ?N ?T ?K ?hd ?hu ?hq ?m0 ?m1 ?_; (case B => k_asm); (case F => k_asm); (case X => k_asm); (case N => k_asm); (case T => k_asm); (case K => first | exact rfl | assumption); (case hd => ktr_room); (case hu => ktr_units); (case m0 => k_mem); (case m1 => k_mem); (case hq => omega)); intro z' d' t1' t2' t3' t4' h' tk' F' N'; (try k_sweep); (try dsimp only [W.CmpBack]); (try k_fold)))

set_option maxRecDepth 100000 in
set_option maxHeartbeats 0 in
theorem mul2 {q n1 n2 : Int} {x dx : Addr} {x1 x2 x3 x4 : Tok} {y dy : Addr} {y1 y2 y3 y4 : Tok}
    (B : Below A₀ base outer h₀) (F : Fr h₀ L s.heap m) (X : (kk.heap_1 w.params).In h₀) (N : News h₀ L s.heap news) (T : Top p loose mean mg mb h₀) (hk : cs.kind = .function)
    (hd : dp + 9 < recursionLimit) (hu : un + 72 < cLine) (hq : (0 < q ∧ q ≤ 127) ∧ (0 ≤ n1 ∧ n1 < q) ∧ 0 ≤ n2 ∧ n2 < q) (mx : (x, instObj 417 dx) ∈ news) (mdx : (dx, fqD w.params q n1 x1 x2 x3 x4) ∈ news) (my : (y, instObj 417 dy) ∈ news) (mdy : (dy, fqD w.params q n2 y1 y2 y3 y4) ∈ news) (hret : ∀ (z dz : Addr) (t1 t2 t3 t4 : Tok) (h' : Heap) (tk' : Nat), Fr h₀ L h' m → News h₀ L h' ((z, instObj 417 dz) :: (dz, fqD w.params q (n1 * n2 % q) t1 t2 t3 t4) :: news) → Q (.ref z) { s with heap := h', toks := tk' }) :
    wpAny (model PySem.Challenge.pw_lh0034_01 w) (ktrTop dp un gd cn cs L a ccd cl outer) (call (.ref 287) [.ref x, .ref y]) Q E s := by
  rw [show n1 * n2 % q = ((n1 * n2).fmod q) % q from by rw [Int.fmod_eq_emod_of_nonneg _ (by omega : 0 ≤ q), Int.emod_emod_of_dvd _ (Int.dvd_refl q)]] at hret
  have N := add4 N mx mdx my mdy
  refine wpAny_call ?_
  k_dflt ktr_enter
  k_steps
  exact hret _ _ _ _ _ _ _ _ (by k_asm) (cb_drop (by k_asm) (by repeat (first | exact subR | refine subC ?_ | refine subS ?_)))

local macro_rules | `(tactic| walk_at "call ref") => `(tactic| (k_here; (with_reducible show wpAny _ _ (call (Value.ref 287) [Value.ref _, Value.ref _]) _ _ _); k_dflt (refine' mul2 ?B ?F ?X ?N ?T ?K ?hd ?hu ?hq ?m0 ?m1 ?m2 ?m3 ?_; (case B => k_asm); (case F => k_asm); (case X => k_asm); (case N => k_asm); (case T => k_asm); (case K => first | exact rfl | assumption); (case hd => ktr_room); (case hu => ktr_units); (case m0 => k_mem); (case m1 => k_mem); (case m2 => k_mem); (case m3 => k_mem); (case hq => omega)); intro z' d' t1' t2' t3' t4' h' tk' F' N'; (try k_sweep); (try dsimp only [W.CmpBack]); (try k_fold)))

set_option maxRecDepth 100000 in
set_option maxHeartbeats 0 in
theorem sub2 {q n1 n2 : Int} {x dx : Addr} {x1 x2 x3 x4 : Tok} {y dy : Addr} {y1 y2 y3 y4 : Tok}
    (B : Below A₀ base outer h₀) (F : Fr h₀ L s.heap m) (X : (kk.heap_1 w.params).In h₀) (N : News h₀ L s.heap news) (T : Top p loose mean mg mb h₀) (hk : cs.kind = .function)
    (hd : dp + 9 < recursionLimit) (hu : un + 72 < cLine) (hq : (0 < q ∧ q ≤ 127) ∧ (0 ≤ n1 ∧ n1 < q) ∧ 0 ≤ n2 ∧ n2 < q) (mx : (x, instObj 417 dx) ∈ news) (mdx : (dx, fqD w.params q n1 x1 x2 x3 x4) ∈ news) (my : (y, instObj 417 dy) ∈ news) (mdy : (dy, fqD w.params q n2 y1 y2 y3 y4) ∈ news) (hret : ∀ (z dz : Addr) (t1 t2 t3 t4 : Tok) (h' : Heap) (tk' : Nat), Fr h₀ L h' m → News h₀ L h' ((z, instObj 417 dz) :: (dz, fqD w.params q ((n1 - n2) % q) t1 t2 t3 t4) :: news) → Q (.ref z) { s with heap := h', toks := tk' }) :
    wpAny (model PySem.Challenge.pw_lh0034_01 w) (ktrTop dp un gd cn cs L a ccd cl outer) (call (.ref 315) [.ref x, .ref y]) Q E s := by
  rw [show (n1 - n2) % q = ((n1 - n2).fmod q) % q from by rw [Int.fmod_eq_emod_of_nonneg _ (by omega : 0 ≤ q), Int.emod_emod_of_dvd _ (Int.dvd_refl q)]] at hret
  have N := add4 N mx mdx my mdy
  refine wpAny_call ?_
  k_dflt ktr_enter
  k_steps
  exact hret _ _ _ _ _ _ _ _ (by k_asm) (cb_drop (by k_asm) (by repeat (first | exact subR | refine subC ?_ | refine subS ?_)))


set_option maxRecDepth 100000 in
set_option maxHeartbeats 0 in
theorem new1 {v q : Int} {tv tq : Tok}
    (B : Below A₀ base outer h₀) (F : Fr h₀ L s.heap m) (X : (kk.heap_1 w.params).In h₀) (N : News h₀ L s.heap news) (T : Top p loose mean mg mb h₀) (hk : cs.kind = .function)
    (hd : dp + 4 < recursionLimit) (hu : un + 32 < cLine) (hq : 0 < q ∧ q ≤ 127) (hret : ∀ (z dz : Addr) (t1 t2 t3 t4 : Tok) (h' : Heap) (tk' : Nat), Fr h₀ L h' m → News h₀ L h' ((z, instObj 255 dz) :: (dz, fqD w.params q (v % q) t1 t2 t3 t4) :: news) → Q (.ref z) { s with heap := h', toks := tk' }) :
    wpAny (model PySem.Challenge.pw_lh0034_01 w) (ktrTop dp un gd cn cs L a ccd cl outer) (call (.ref 255) [.int v tv, .int q tq]) Q E s := by
  rw [show v % q = v.fmod q from (Int.fmod_eq_emod_of_nonneg v (by omega)).symm] at hret
  k_dflt (refine' call_cls ?k1 ?k2 ?k3 ?k4 ?k5 ?k6 ?_; (case k1 => k_asm); (case k2 => k_asm); (case k3 => k_asm); (case k4 => k_is); (case k5 => k_is); (case k6 => k_is); k_whole; intro x' d' h' F' N' l1 l2; (try k_lt l1); (try k_lt2 l2); (try k_sweep); ktr_enter)
  k_steps
  exact hret _ _ _ _ _ _ _ _ (by k_asm) (cb_drop (by k_asm) (by repeat (first | exact subR | refine subC ?_ | refine subS ?_)))

local macro_rules | `(tactic| walk_at "call ref") => `(tactic| (k_here; (with_reducible show wpAny _ _ (call (Value.ref 255) [Value.int _ _, Value.int _ _]) _ _ _); k_dflt (refine' new1 ?B ?F ?X ?N ?T ?K ?hd ?hu ?hq ?_; (case B => k_asm); (case F => k_asm); (case X => k_asm); (case N => k_asm); (case T => k_asm); (case K => first | exact rfl | assumption); (case hd => ktr_room); (case hu => ktr_units); (case hq => omega)); intro z' d' t1' t2' t3' t4' h' tk' F' N'; (try k_sweep); (try dsimp only [W.CmpBack]); (try k_fold)))

set_option maxRecDepth 100000 in
set_option maxHeartbeats 0 in
theorem made1 {v q n1 : Int} {tv : Tok} {x dx : Addr} {x1 x2 x3 x4 : Tok}
    (B : Below A₀ base outer h₀) (F : Fr h₀ L s.heap m) (X : (kk.heap_1 w.params).In h₀) (N : News h₀ L s.heap news) (T : Top p loose mean mg mb h₀) (hk : cs.kind = .function)
    (hd : dp + 6 < recursionLimit) (hu : un + 48 < cLine) (hq : 0 < q ∧ q ≤ 127) (mx : (x, instObj 255 dx) ∈ news) (mdx : (dx, fqD w.params q n1 x1 x2 x3 x4) ∈ news) (hret : ∀ (z dz : Addr) (t1 t2 t3 t4 : Tok) (h' : Heap) (tk' : Nat), Fr h₀ L h' m → News h₀ L h' ((z, instObj 255 dz) :: (dz, fqD w.params q (v % q) t1 t2 t3 t4) :: news) → Q (.ref z) { s with heap := h', toks := tk' }) :
    wpAny (model PySem.Challenge.pw_lh0034_01 w) (ktrTop dp un gd cn cs L a ccd cl outer) (call (.ref 238) [.ref x, .int v tv]) Q E s := by
  have N := add2 N mx mdx
  refine wpAny_call ?_
  k_dflt ktr_enter
  k_steps
  exact hret _ _ _ _ _ _ _ _ (by k_asm) (cb_drop (by k_asm) (by repeat (first | exact subR | refine subC ?_ | refine subS ?_)))

local macro_rules | `(tactic| walk_at "call ref") => `(tactic| (k_here; (with_reducible show wpAny _ _ (call (Value.ref 238) [Value.ref _, Value.int _ _]) _ _ _); k_dflt (refine' made1 ?B ?F ?X ?N ?T ?K ?hd ?hu ?hq ?m0 ?m1 ?_; (case B => k_asm); (case F => k_asm); (case X => k_asm); (case N => k_asm); (case T => k_asm); (case K => first | exact rfl | assumption); (case hd => ktr_room); (case hu => ktr_units); (case m0 => k_mem); (case m1 => k_mem); (case hq => omega)); intro z' d' t1' t2' t3' t4' h' tk' F' N'; (try k_sweep); (try dsimp only [W.CmpBack]); (try k_fold)))

set_option maxRecDepth 100000 in
set_option maxHeartbeats 0 in
theorem mul1 {q n1 n2 : Int} {x dx : Addr} {x1 x2 x3 x4 : Tok} {y dy : Addr} {y1 y2 y3 y4 : Tok}
    (B : Below A₀ base outer h₀) (F : Fr h₀ L s.heap m) (X : (kk.heap_1 w.params).In h₀) (N : News h₀ L s.heap news) (T : Top p loose mean mg mb h₀) (hk : cs.kind = .function)
    (hd : dp + 9 < recursionLimit) (hu : un + 72 < cLine) (hq : (0 < q ∧ q ≤ 127) ∧ (0 ≤ n1 ∧ n1 < q) ∧ 0 ≤ n2 ∧ n2 < q) (mx : (x, instObj 255 dx) ∈ news) (mdx : (dx, fqD w.params q n1 x1 x2 x3 x4) ∈ news) (my : (y, instObj 255 dy) ∈ news) (mdy : (dy, fqD w.params q n2 y1 y2 y3 y4) ∈ news) (hret : ∀ (z dz : Addr) (t1 t2 t3 t4 : Tok) (h' : Heap) (tk' : Nat), Fr h₀ L h' m → News h₀ L h' ((z, instObj 255 dz) :: (dz, fqD w.params q (n1 * n2 % q) t1 t2 t3 t4) :: news) → Q (.ref z) { s with heap := h', toks := tk' }) :
    wpAny (model PySem.Challenge.pw_lh0034_01 w) (ktrTop dp un gd cn cs L a ccd cl outer) (call (.ref 140) [.ref x, .ref y]) Q E s := by
  rw [show n1 * n2 % q = ((n1 * n2).fmod q) % q from by rw [Int.fmod_eq_emod_of_nonneg _ (by omega : 0 ≤ q), Int.emod_emod_of_dvd _ (Int.dvd_refl q)]] at hret
  have N := add4 N mx mdx my mdy
  refine wpAny_call ?_
  k_dflt ktr_enter
  k_steps
  exact hret _ _ _ _ _ _ _ _ (by k_asm) (cb_drop (by k_asm) (by repeat (first | exact subR | refine subC ?_ | refine subS ?_)))

local macro_rules | `(tactic| walk_at "call ref") => `(tactic| (k_here; (with_reducible show wpAny _ _ (call (Value.ref 140) [Value.ref _, Value.ref _]) _ _ _); k_dflt (refine' mul1 ?B ?F ?X ?N ?T ?K ?hd ?hu ?hq ?m0 ?m1 ?m2 ?m3 ?_; (case B => k_asm); (case F => k_asm); (case X => k_asm); (case N => k_asm); (case T => k_asm); (case K => first | exact rfl | assumption); (case hd => ktr_room); (case hu => ktr_units); (case m0 => k_mem); (case m1 => k_mem); (case m2 => k_mem); (case m3 => k_mem); (case hq => omega)); intro z' d' t1' t2' t3' t4' h' tk' F' N'; (try k_sweep); (try dsimp only [W.CmpBack]); (try k_fold)))

set_option maxRecDepth 100000 in
set_option maxHeartbeats 0 in
theorem sub1 {q n1 n2 : Int} {x dx : Addr} {x1 x2 x3 x4 : Tok} {y dy : Addr} {y1 y2 y3 y4 : Tok}
    (B : Below A₀ base outer h₀) (F : Fr h₀ L s.heap m) (X : (kk.heap_1 w.params).In h₀) (N : News h₀ L s.heap news) (T : Top p loose mean mg mb h₀) (hk : cs.kind = .function)
    (hd : dp + 9 < recursionLimit) (hu : un + 72 < cLine) (hq : (0 < q ∧ q ≤ 127) ∧ (0 ≤ n1 ∧ n1 < q) ∧ 0 ≤ n2 ∧ n2 < q) (mx : (x, instObj 255 dx) ∈ news) (mdx : (dx, fqD w.params q n1 x1 x2 x3 x4) ∈ news) (my : (y, instObj 255 dy) ∈ news) (mdy : (dy, fqD w.params q n2 y1 y2 y3 y4) ∈ news) (hret : ∀ (z dz : Addr) (t1 t2 t3 t4 : Tok) (h' : Heap) (tk' : Nat), Fr h₀ L h' m → News h₀ L h' ((z, instObj 255 dz) :: (dz, fqD w.params q ((n1 - n2) % q) t1 t2 t3 t4) :: news) → Q (.ref z) { s with heap := h', toks := tk' }) :
    wpAny (model PySem.Challenge.pw_lh0034_01 w) (ktrTop dp un gd cn cs L a ccd cl outer) (call (.ref 168) [.ref x, .ref y]) Q E s := by
  rw [show (n1 - n2) % q = ((n1 - n2).fmod q) % q from by rw [Int.fmod_eq_emod_of_nonneg _ (by omega : 0 ≤ q), Int.emod_emod_of_dvd _ (Int.dvd_refl q)]] at hret
  have N := add4 N mx mdx my mdy
  refine wpAny_call ?_
  k_dflt ktr_enter
  k_steps
  exact hret _ _ _ _ _ _ _ _ (by k_asm) (cb_drop (by k_asm) (by repeat (first | exact subR | refine subC ?_ | refine subS ?_)))


set_option maxRecDepth 100000 in
set_option maxHeartbeats 0 in
theorem add1 {q n1 n2 : Int} {x dx : Addr} {x1 x2 x3 x4 : Tok} {y dy : Addr} {y1 y2 y3 y4 : Tok}
    (B : Below A₀ base outer h₀) (F : Fr h₀ L s.heap m) (X : (kk.heap_1 w.params).In h₀) (N : News h₀ L s.heap news) (T : Top p loose mean mg mb h₀) (hk : cs.kind = .function)
    (hd : dp + 9 < recursionLimit) (hu : un + 72 < cLine) (hq : (0 < q ∧ q ≤ 127) ∧ (0 ≤ n1 ∧ n1 < q) ∧ 0 ≤ n2 ∧ n2 < q) (mx : (x, instObj 255 dx) ∈ news) (mdx : (dx, fqD w.params q n1 x1 x2 x3 x4) ∈ news) (my : (y, instObj 255 dy) ∈ news) (mdy : (dy, fqD w.params q n2 y1 y2 y3 y4) ∈ news) (hret : ∀ (z dz : Addr) (t1 t2 t3 t4 : Tok) (h' : Heap) (tk' : Nat), Fr h₀ L h' m → News h₀ L h' ((z, instObj 255 dz) :: (dz, fqD w.params q ((n1 + n2) % q) t1 t2 t3 t4) :: news) → Q (.ref z) { s with heap := h', toks := tk' }) :
    wpAny (model PySem.Challenge.pw_lh0034_01 w) (ktrTop dp un gd cn cs L a ccd cl outer) (call (.ref 133) [.ref x, .ref y]) Q E s := by
  rw [show (n1 + n2) % q = ((n1 + n2).fmod q) % q from by rw [Int.fmod_eq_emod_of_nonneg _ (by omega : 0 ≤ q), Int.emod_emod_of_dvd _ (Int.dvd_refl q)]] at hret
  have N := add4 N mx mdx my mdy
  refine wpAny_call ?_
  k_dflt ktr_enter
  k_steps
  exact hret _ _ _ _ _ _ _ _ (by k_asm) (cb_drop (by k_asm) (by repeat (first | exact subR | refine subC ?_ | refine subS ?_)))


set_option maxRecDepth 100000 in
set_option maxHeartbeats 0 in
theorem rmul2 {q n1 v : Int} {tv : Tok} {x dx : Addr} {x1 x2 x3 x4 : Tok}
    (B : Below A₀ base outer h₀) (F : Fr h₀ L s.heap m) (X : (kk.heap_1 w.params).In h₀) (N : News h₀ L s.heap news) (T : Top p loose mean mg mb h₀) (hk : cs.kind = .function)
    (hd : dp + 12 < recursionLimit) (hu : un + 96 < cLine) (hq : (0 < q ∧ q ≤ 127) ∧ (0 ≤ n1 ∧ n1 < q) ∧ 0 ≤ v ∧ v ≤ 8) (mx : (x, instObj 417 dx) ∈ news) (mdx : (dx, fqD w.params q n1 x1 x2 x3 x4) ∈ news) (hret : ∀ (z dz : Addr) (t1 t2 t3 t4 : Tok) (h' : Heap) (tk' : Nat), Fr h₀ L h' m → News h₀ L h' ((z, instObj 417 dz) :: (dz, fqD w.params q (n1 * v % q) t1 t2 t3 t4) :: news) → Q (.ref z) { s with heap := h', toks := tk' }) :
    wpAny (model PySem.Challenge.pw_lh0034_01 w) (ktrTop dp un gd cn cs L a ccd cl outer) (call (.ref 294) [.ref x, .int v tv]) Q E s := by
  rw [show n1 * v % q = ((n1 * v).fmod q) % q from by rw [Int.fmod_eq_emod_of_nonneg _ (by omega : 0 ≤ q), Int.emod_emod_of_dvd _ (Int.dvd_refl q)]] at hret
  have N := add2 N mx mdx
  refine wpAny_call ?_
  k_dflt ktr_enter
  k_steps
  exact hret _ _ _ _ _ _ _ _ (by k_asm) (cb_drop (by k_asm) (by repeat (first | exact subR | refine subC ?_ | refine subS ?_)))


set_option maxRecDepth 100000 in
set_option maxHeartbeats 0 in
theorem neg2 {q n1 : Int} {x dx : Addr} {x1 x2 x3 x4 : Tok}
    (B : Below A₀ base outer h₀) (F : Fr h₀ L s.heap m) (X : (kk.heap_1 w.params).In h₀) (N : News h₀ L s.heap news) (T : Top p loose mean mg mb h₀) (hk : cs.kind = .function)
    (hd : dp + 9 < recursionLimit) (hu : un + 72 < cLine) (hq : (0 < q ∧ q ≤ 127) ∧ (0 ≤ n1 ∧ n1 < q)) (mx : (x, instObj 417 dx) ∈ news) (mdx : (dx, fqD w.params q n1 x1 x2 x3 x4) ∈ news) (hret : ∀ (z dz : Addr) (t1 t2 t3 t4 : Tok) (h' : Heap) (tk' : Nat), Fr h₀ L h' m → News h₀ L h' ((z, instObj 417 dz) :: (dz, fqD w.params q ((-n1) % q) t1 t2 t3 t4) :: news) → Q (.ref z) { s with heap := h', toks := tk' }) :
    wpAny (model PySem.Challenge.pw_lh0034_01 w) (ktrTop dp un gd cn cs L a ccd cl outer) (call (.ref 364) [.ref x]) Q E s := by
  have N := add2 N mx mdx
  refine wpAny_call ?_
  k_dflt ktr_enter
  k_steps
  exact hret _ _ _ _ _ _ _ _ (by k_asm) (cb_drop (by k_asm) (by repeat (first | exact subR | refine subC ?_ | refine subS ?_)))


set_option maxRecDepth 100000 in
set_option maxHeartbeats 0 in
theorem eq2 {q q2 n1 n2 : Int} {x dx : Addr} {x1 x2 x3 x4 : Tok} {y dy : Addr} {y1 y2 y3 y4 : Tok}
    (B : Below A₀ base outer h₀) (F : Fr h₀ L s.heap m) (X : (kk.heap_1 w.params).In h₀) (N : News h₀ L s.heap news) (T : Top p loose mean mg mb h₀) (hk : cs.kind = .function)
    (hd : dp + 5 < recursionLimit) (hu : un + 40 < cLine) (hq : True) (mx : (x, instObj 417 dx) ∈ news) (mdx : (dx, fqD w.params q n1 x1 x2 x3 x4) ∈ news) (my : (y, instObj 417 dy) ∈ news) (mdy : (dy, fqD w.params q2 n2 y1 y2 y3 y4) ∈ news) (hret : ∀ (h' : Heap) (tk' : Nat), Fr h₀ L h' m → News h₀ L h' news → Q (.bool (decide (n1 = n2))) { s with heap := h', toks := tk' }) :
    wpAny (model PySem.Challenge.pw_lh0034_01 w) (ktrTop dp un gd cn cs L a ccd cl outer) (call (.ref 350) [.ref x, .ref y]) Q E s := by
  have N := add4 N mx mdx my mdy
  refine wpAny_call ?_
  k_dflt ktr_enter
  k_steps
  exact hret _ _ (by k_asm) (cb_drop (by k_asm) (by repeat (first | exact subR | refine subC ?_ | refine subS ?_)))


set_option maxRecDepth 100000 in
set_option maxHeartbeats 0 in
theorem pow1_2 {q n1 : Int} {tv : Tok} {x dx : Addr} {x1 x2 x3 x4 : Tok}
    (B : Below A₀ base outer h₀) (F : Fr h₀ L s.heap m) (X : (kk.heap_1 w.params).In h₀) (N : News h₀ L s.heap news) (T : Top p loose mean mg mb h₀) (hk : cs.kind = .function)
    (hd : dp + 9 < recursionLimit) (hu : un + 72 < cLine) (hq : (0 < q ∧ q ≤ 127) ∧ (0 ≤ n1 ∧ n1 < q)) (mx : (x, instObj 417 dx) ∈ news) (mdx : (dx, fqD w.params q n1 x1 x2 x3 x4) ∈ news) (hret : ∀ (z dz : Addr) (t1 t2 t3 t4 : Tok) (h' : Heap) (tk' : Nat), Fr h₀ L h' m → News h₀ L h' ((z, instObj 417 dz) :: (dz, fqD w.params q (n1) t1 t2 t3 t4) :: news) → Q (.ref z) { s with heap := h', toks := tk' }) :
    wpAny (model PySem.Challenge.pw_lh0034_01 w) (ktrTop dp un gd cn cs L a ccd cl outer) (call (.ref 343) [.ref x, .int 1 tv]) Q E s := by
  rw [show n1 = n1 % q from (Int.emod_eq_of_lt (by omega) (by omega)).symm] at hret
  have N := add2 N mx mdx
  refine wpAny_call ?_
  k_dflt ktr_enter
  k_steps
  exact hret _ _ _ _ _ _ _ _ (by k_asm) (cb_drop (by k_asm) (by repeat (first | exact subR | refine subC ?_ | refine subS ?_)))

set_option maxRecDepth 100000 in
set_option maxHeartbeats 0 in
theorem rmul1 {q n1 v : Int} {tv : Tok} {x dx : Addr} {x1 x2 x3 x4 : Tok}
    (B : Below A₀ base outer h₀) (F : Fr h₀ L s.heap m) (X : (kk.heap_1 w.params).In h₀) (N : News h₀ L s.heap news) (T : Top p loose mean mg mb h₀) (hk : cs.kind = .function)
    (hd : dp + 12 < recursionLimit) (hu : un + 96 < cLine) (hq : (0 < q ∧ q ≤ 127) ∧ (0 ≤ n1 ∧ n1 < q) ∧ 0 ≤ v ∧ v ≤ 8) (mx : (x, instObj 255 dx) ∈ news) (mdx : (dx, fqD w.params q n1 x1 x2 x3 x4) ∈ news) (hret : ∀ (z dz : Addr) (t1 t2 t3 t4 : Tok) (h' : Heap) (tk' : Nat), Fr h₀ L h' m → News h₀ L h' ((z, instObj 255 dz) :: (dz, fqD w.params q (n1 * v % q) t1 t2 t3 t4) :: news) → Q (.ref z) { s with heap := h', toks := tk' }) :
    wpAny (model PySem.Challenge.pw_lh0034_01 w) (ktrTop dp un gd cn cs L a ccd cl outer) (call (.ref 147) [.ref x, .int v tv]) Q E s := by
  rw [show n1 * v % q = ((n1 * v).fmod q) % q from by rw [Int.fmod_eq_emod_of_nonneg _ (by omega : 0 ≤ q), Int.emod_emod_of_dvd _ (Int.dvd_refl q)]] at hret
  have N := add2 N mx mdx
  refine wpAny_call ?_
  k_dflt ktr_enter
  k_steps
  exact hret _ _ _ _ _ _ _ _ (by k_asm) (cb_drop (by k_asm) (by repeat (first | exact subR | refine subC ?_ | refine subS ?_)))


set_option maxRecDepth 100000 in
set_option maxHeartbeats 0 in
theorem neg1 {q n1 : Int} {x dx : Addr} {x1 x2 x3 x4 : Tok}
    (B : Below A₀ base outer h₀) (F : Fr h₀ L s.heap m) (X : (kk.heap_1 w.params).In h₀) (N : News h₀ L s.heap news) (T : Top p loose mean mg mb h₀) (hk : cs.kind = .function)
    (hd : dp + 9 < recursionLimit) (hu : un + 72 < cLine) (hq : (0 < q ∧ q ≤ 127) ∧ (0 ≤ n1 ∧ n1 < q)) (mx : (x, instObj 255 dx) ∈ news) (mdx : (dx, fqD w.params q n1 x1 x2 x3 x4) ∈ news) (hret : ∀ (z dz : Addr) (t1 t2 t3 t4 : Tok) (h' : Heap) (tk' : Nat), Fr h₀ L h' m → News h₀ L h' ((z, instObj 255 dz) :: (dz, fqD w.params q ((-n1) % q) t1 t2 t3 t4) :: news) → Q (.ref z) { s with heap := h', toks := tk' }) :
    wpAny (model PySem.Challenge.pw_lh0034_01 w) (ktrTop dp un gd cn cs L a ccd cl outer) (call (.ref 210) [.ref x]) Q E s := by
  have N := add2 N mx mdx
  refine wpAny_call ?_
  k_dflt ktr_enter
  k_steps
  exact hret _ _ _ _ _ _ _ _ (by k_asm) (cb_drop (by k_asm) (by repeat (first | exact subR | refine subC ?_ | refine subS ?_)))


set_option maxRecDepth 100000 in
set_option maxHeartbeats 0 in
theorem eq1 {q q2 n1 n2 : Int} {x dx : Addr} {x1 x2 x3 x4 : Tok} {y dy : Addr} {y1 y2 y3 y4 : Tok}
    (B : Below A₀ base outer h₀) (F : Fr h₀ L s.heap m) (X : (kk.heap_1 w.params).In h₀) (N : News h₀ L s.heap news) (T : Top p loose mean mg mb h₀) (hk : cs.kind = .function)
    (hd : dp + 5 < recursionLimit) (hu : un + 40 < cLine) (hq : True) (mx : (x, instObj 255 dx) ∈ news) (mdx : (dx, fqD w.params q n1 x1 x2 x3 x4) ∈ news) (my : (y, instObj 255 dy) ∈ news) (mdy : (dy, fqD w.params q2 n2 y1 y2 y3 y4) ∈ news) (hret : ∀ (h' : Heap) (tk' : Nat), Fr h₀ L h' m → News h₀ L h' news → Q (.bool (decide (n1 = n2))) { s with heap := h', toks := tk' }) :
    wpAny (model PySem.Challenge.pw_lh0034_01 w) (ktrTop dp un gd cn cs L a ccd cl outer) (call (.ref 196) [.ref x, .ref y]) Q E s := by
  have N := add4 N mx mdx my mdy
  refine wpAny_call ?_
  k_dflt ktr_enter
  k_steps
  exact hret _ _ (by k_asm) (cb_drop (by k_asm) (by repeat (first | exact subR | refine subC ?_ | refine subS ?_)))


set_option maxRecDepth 100000 in
set_option maxHeartbeats 0 in
theorem pow1_1 {q n1 : Int} {tv : Tok} {x dx : Addr} {x1 x2 x3 x4 : Tok}
    (B : Below A₀ base outer h₀) (F : Fr h₀ L s.heap m) (X : (kk.heap_1 w.params).In h₀) (N : News h₀ L s.heap news) (T : Top p loose mean mg mb h₀) (hk : cs.kind = .function)
    (hd : dp + 9 < recursionLimit) (hu : un + 72 < cLine) (hq : (0 < q ∧ q ≤ 127) ∧ (0 ≤ n1 ∧ n1 < q)) (mx : (x, instObj 255 dx) ∈ news) (mdx : (dx, fqD w.params q n1 x1 x2 x3 x4) ∈ news) (hret : ∀ (z dz : Addr) (t1 t2 t3 t4 : Tok) (h' : Heap) (tk' : Nat), Fr h₀ L h' m → News h₀ L h' ((z, instObj 255 dz) :: (dz, fqD w.params q (n1) t1 t2 t3 t4) :: news) → Q (.ref z) { s with heap := h', toks := tk' }) :
    wpAny (model PySem.Challenge.pw_lh0034_01 w) (ktrTop dp un gd cn cs L a ccd cl outer) (call (.ref 189) [.ref x, .int 1 tv]) Q E s := by
  rw [show n1 = n1 % q from (Int.emod_eq_of_lt (by omega) (by omega)).symm] at hret
  have N := add2 N mx mdx
  refine wpAny_call ?_
  k_dflt ktr_enter
  k_steps
  exact hret _ _ _ _ _ _ _ _ (by k_asm) (cb_drop (by k_asm) (by repeat (first | exact subR | refine subC ?_ | refine subS ?_)))

local macro_rules | `(tactic| walk_at "call ref") => `(tactic| (k_here; (with_reducible show wpAny _ _ (call (Value.ref 343) [Value.ref _, Value.int _ _]) _ _ _); k_dflt (refine' pow1_2 ?B ?F ?X ?N ?T ?K ?hd ?hu ?hq ?m0 ?m1 ?_; (case B => k_asm); (case F => k_asm); (case X => k_asm); (case N => k_asm); (case T => k_asm); (case K => first | exact rfl | assumption); (case hd => ktr_room); (case hu => ktr_units); (case m0 => k_mem); (case m1 => k_mem); (case hq => omega)); intro z' d' t1' t2' t3' t4' h' tk' F' N'; (try k_sweep); (try dsimp only [W.CmpBack]); (try k_fold)))

set_option maxRecDepth 100000 in
set_option maxHeartbeats 0 in
theorem pow2_2 {q n1 : Int} {tv : Tok} {x dx : Addr} {x1 x2 x3 x4 : Tok}
    (B : Below A₀ base outer h₀) (F : Fr h₀ L s.heap m) (X : (kk.heap_1 w.params).In h₀) (N : News h₀ L s.heap news) (T : Top p loose mean mg mb h₀) (hk : cs.kind = .function)
    (hd : dp + 12 < recursionLimit) (hu : un + 96 < cLine) (hq : (0 < q ∧ q ≤ 127) ∧ (0 ≤ n1 ∧ n1 < q)) (mx : (x, instObj 417 dx) ∈ news) (mdx : (dx, fqD w.params q n1 x1 x2 x3 x4) ∈ news) (hret : ∀ (z dz : Addr) (t1 t2 t3 t4 : Tok) (h' : Heap) (tk' : Nat), Fr h₀ L h' m → News h₀ L h' ((z, instObj 417 dz) :: (dz, fqD w.params q (n1 * n1 % q) t1 t2 t3 t4) :: news) → Q (.ref z) { s with heap := h', toks := tk' }) :
    wpAny (model PySem.Challenge.pw_lh0034_01 w) (ktrTop dp un gd cn cs L a ccd cl outer) (call (.ref 343) [.ref x, .int 2 tv]) Q E s := by
  have hlt := And.intro (Int.emod_nonneg (n1 * n1) (by omega : q ≠ 0)) (Int.emod_lt_of_pos (n1 * n1) (by omega : 0 < q))
  have N := add2 N mx mdx
  refine wpAny_call ?_
  k_dflt ktr_enter
  k_steps
  exact hret _ _ _ _ _ _ _ _ (by k_asm) (cb_drop (by k_asm) (by repeat (first | exact subR | refine subC ?_ | refine subS ?_)))

set_option maxRecDepth 100000 in
set_option maxHeartbeats 0 in
theorem pow3_2 {q n1 : Int} {tv : Tok} {x dx : Addr} {x1 x2 x3 x4 : Tok}
    (B : Below A₀ base outer h₀) (F : Fr h₀ L s.heap m) (X : (kk.heap_1 w.params).In h₀) (N : News h₀ L s.heap news) (T : Top p loose mean mg mb h₀) (hk : cs.kind = .function)
    (hd : dp + 12 < recursionLimit) (hu : un + 96 < cLine) (hq : (0 < q ∧ q ≤ 127) ∧ (0 ≤ n1 ∧ n1 < q)) (mx : (x, instObj 417 dx) ∈ news) (mdx : (dx, fqD w.params q n1 x1 x2 x3 x4) ∈ news) (hret : ∀ (z dz : Addr) (t1 t2 t3 t4 : Tok) (h' : Heap) (tk' : Nat), Fr h₀ L h' m → News h₀ L h' ((z, instObj 417 dz) :: (dz, fqD w.params q (n1 * n1 % q * n1 % q) t1 t2 t3 t4) :: news) → Q (.ref z) { s with heap := h', toks := tk' }) :
    wpAny (model PySem.Challenge.pw_lh0034_01 w) (ktrTop dp un gd cn cs L a ccd cl outer) (call (.ref 343) [.ref x, .int 3 tv]) Q E s := by
  have hlt := And.intro (Int.emod_nonneg (n1 * n1) (by omega : q ≠ 0)) (Int.emod_lt_of_pos (n1 * n1) (by omega : 0 < q))
  have N := add2 N mx mdx
  refine wpAny_call ?_
  k_dflt ktr_enter
  k_steps
  exact hret _ _ _ _ _ _ _ _ (by k_asm) (cb_drop (by k_asm) (by repeat (first | exact subR | refine subC ?_ | refine subS ?_)))



set_option maxRecDepth 100000 in
set_option maxHeartbeats 0 in
theorem one2 {q n1 : Int} {x dx : Addr} {x1 x2 x3 x4 : Tok}
    (B : Below A₀ base outer h₀) (F : Fr h₀ L s.heap m) (X : (kk.heap_1 w.params).In h₀) (N : News h₀ L s.heap news) (T : Top p loose mean mg mb h₀) (hk : cs.kind = .function)
    (hd : dp + 9 < recursionLimit) (hu : un + 72 < cLine) (hq : 1 < q ∧ q ≤ 127) (mx : (x, instObj 417 dx) ∈ news) (mdx : (dx, fqD w.params q n1 x1 x2 x3 x4) ∈ news) (hret : ∀ (z dz : Addr) (t1 t2 t3 t4 : Tok) (h' : Heap) (tk' : Nat), Fr h₀ L h' m → News h₀ L h' ((z, instObj 417 dz) :: (dz, fqD w.params q (1) t1 t2 t3 t4) :: news) → Q (.ref z) { s with heap := h', toks := tk' }) :
    wpAny (model PySem.Challenge.pw_lh0034_01 w) (ktrTop dp un gd cn cs L a ccd cl outer) (call (.ref 407) [.ref x]) Q E s := by
  rw [show (1 : Int) = 1 % q from (Int.emod_eq_of_lt (by omega) (by omega)).symm] at hret
  have N := add2 N mx mdx
  refine wpAny_call ?_
  k_dflt ktr_enter
  k_steps
  exact hret _ _ _ _ _ _ _ _ (by k_asm) (cb_drop (by k_asm) (by repeat (first | exact subR | refine subC ?_ | refine subS ?_)))

local macro_rules | `(tactic| walk_at "call ref") => `(tactic| (k_here; (with_reducible show wpAny _ _ (call (Value.ref 407) _) _ _ _); k_dflt (refine' one2 ?B ?F ?X ?N ?T ?K ?hd ?hu ?hq ?m0 ?m1 ?_; (case B => k_asm); (case F => k_asm); (case X => k_asm); (case N => k_asm); (case T => k_asm); (case K => first | exact rfl | assumption); (case hd => ktr_room); (case hu => ktr_units); (case m0 => k_mem); (case m1 => k_mem); (case hq => omega)); intro z' d' t1' t2' t3' t4' h' tk' F' N'; (try k_sweep); (try dsimp only [W.CmpBack]); (try k_fold)))

set_option maxRecDepth 100000 in
set_option maxHeartbeats 0 in
theorem zero2 {q n1 : Int} {x dx : Addr} {x1 x2 x3 x4 : Tok}
    (B : Below A₀ base outer h₀) (F : Fr h₀ L s.heap m) (X : (kk.heap_1 w.params).In h₀) (N : News h₀ L s.heap news) (T : Top p loose mean mg mb h₀) (hk : cs.kind = .function)
    (hd : dp + 9 < recursionLimit) (hu : un + 72 < cLine) (hq : 1 < q ∧ q ≤ 127) (mx : (x, instObj 417 dx) ∈ news) (mdx : (dx, fqD w.params q n1 x1 x2 x3 x4) ∈ news) (hret : ∀ (z dz : Addr) (t1 t2 t3 t4 : Tok) (h' : Heap) (tk' : Nat), Fr h₀ L h' m → News h₀ L h' ((z, instObj 417 dz) :: (dz, fqD w.params q (0) t1 t2 t3 t4) :: news) → Q (.ref z) { s with heap := h', toks := tk' }) :
    wpAny (model PySem.Challenge.pw_lh0034_01 w) (ktrTop dp un gd cn cs L a ccd cl outer) (call (.ref 414) [.ref x]) Q E s := by
  rw [show (0 : Int) = 0 % q from (Int.emod_eq_of_lt (by omega) (by omega)).symm] at hret
  have N := add2 N mx mdx
  refine wpAny_call ?_
  k_dflt ktr_enter
  k_steps
  exact hret _ _ _ _ _ _ _ _ (by k_asm) (cb_drop (by k_asm) (by repeat (first | exact subR | refine subC ?_ | refine subS ?_)))

local macro_rules | `(tactic| walk_at "call ref") => `(tactic| (k_here; (with_reducible show wpAny _ _ (call (Value.ref 414) _) _ _ _); k_dflt (refine' zero2 ?B ?F ?X ?N ?T ?K ?hd ?hu ?hq ?m0 ?m1 ?_; (case B => k_asm); (case F => k_asm); (case X => k_asm); (case N => k_asm); (case T => k_asm); (case K => first | exact rfl | assumption); (case hd => ktr_room); (case hu => ktr_units); (case m0 => k_mem); (case m1 => k_mem); (case hq => omega)); intro z' d' t1' t2' t3' t4' h' tk' F' N'; (try k_sweep); (try dsimp only [W.CmpBack]); (try k_fold)))

local macro_rules | `(tactic| walk_at "call ref") => `(tactic| (k_here; (with_reducible show wpAny _ _ (call (Value.ref 189) [Value.ref _, Value.int _ _]) _ _ _); k_dflt (refine' pow1_1 ?B ?F ?X ?N ?T ?K ?hd ?hu ?hq ?m0 ?m1 ?_; (case B => k_asm); (case F => k_asm); (case X => k_asm); (case N => k_asm); (case T => k_asm); (case K => first | exact rfl | assumption); (case hd => ktr_room); (case hu => ktr_units); (case m0 => k_mem); (case m1 => k_mem); (case hq => omega)); intro z' d' t1' t2' t3' t4' h' tk' F' N'; (try k_sweep); (try dsimp only [W.CmpBack]); (try k_fold)))

set_option maxRecDepth 100000 in
set_option maxHeartbeats 0 in
theorem pow2_1 {q n1 : Int} {tv : Tok} {x dx : Addr} {x1 x2 x3 x4 : Tok}
    (B : Below A₀ base outer h₀) (F : Fr h₀ L s.heap m) (X : (kk.heap_1 w.params).In h₀) (N : News h₀ L s.heap news) (T : Top p loose mean mg mb h₀) (hk : cs.kind = .function)
    (hd : dp + 12 < recursionLimit) (hu : un + 96 < cLine) (hq : (0 < q ∧ q ≤ 127) ∧ (0 ≤ n1 ∧ n1 < q)) (mx : (x, instObj 255 dx) ∈ news) (mdx : (dx, fqD w.params q n1 x1 x2 x3 x4) ∈ news) (hret : ∀ (z dz : Addr) (t1 t2 t3 t4 : Tok) (h' : Heap) (tk' : Nat), Fr h₀ L h' m → News h₀ L h' ((z, instObj 255 dz) :: (dz, fqD w.params q (n1 * n1 % q) t1 t2 t3 t4) :: news) → Q (.ref z) { s with heap := h', toks := tk' }) :
    wpAny (model PySem.Challenge.pw_lh0034_01 w) (ktrTop dp un gd cn cs L a ccd cl outer) (call (.ref 189) [.ref x, .int 2 tv]) Q E s := by
  have hlt := And.intro (Int.emod_nonneg (n1 * n1) (by omega : q ≠ 0)) (Int.emod_lt_of_pos (n1 * n1) (by omega : 0 < q))
  have N := add2 N mx mdx
  refine wpAny_call ?_
  k_dflt ktr_enter
  k_steps
  exact hret _ _ _ _ _ _ _ _ (by k_asm) (cb_drop (by k_asm) (by repeat (first | exact subR | refine subC ?_ | refine subS ?_)))


set_option maxRecDepth 100000 in
set_option maxHeartbeats 0 in
theorem inv {v q : Int} {tv tq : Tok}
    (B : Below A₀ base outer h₀) (F : Fr h₀ L s.heap m) (X : (kk.heap_1 w.params).In h₀) (N : News h₀ L s.heap news) (T : Top p loose mean mg mb h₀) (hk : cs.kind = .function)
    (hd : dp + 4 < recursionLimit) (hu : un + 32 < cLine) (hq : Pr q) (hret : ∀ (t' : Tok) (h' : Heap) (tk' : Nat), Fr h₀ L h' m → News h₀ L h' news → Q (.int (pm v (q - 2) q) t') { s with heap := h', toks := tk' }) :
    wpAny (model PySem.Challenge.pw_lh0034_01 w) (ktrTop dp un gd cn cs L a ccd cl outer) (call (.ref 112) [.int v tv, .int q tq]) Q E s := by
  have hp := hq.pos
  have hq7 := And.intro hq.lo hq.hi
  k_with "exec While Compare cons nil" => k_while (fun _ lm low hm high => (-127 ≤ lm ∧ lm ≤ 127 ∧ -127 ≤ hm ∧ hm ≤ 127 ∧ 1 ≤ low ∧ low < high ∧ high ≤ 127) ∧ EI q v lm low hm high) (fun _ _ low _ _ => low.toNat) "lm" "low" "hm" "high"
  k_with "state" => first | exact iw_start2 (by assumption) (by assumption) | exact iw_turn2 (by assumption) (by omega) (by omega)
  k_with "measure" => exact iw_less (by assumption)
  refine wpAny_call ?_
  k_dflt ktr_enter
  k_steps
  · rw [iw_zero hq (by assumption)] at hret
    exact hret _ _ _ (by k_asm) (cb_drop (by k_asm) (by repeat (first | exact subR | refine subC ?_ | refine subS ?_)))
  · have e := iw_end2 hq (by assumption) (by omega) (by omega)
    rw [← e] at hret
    exact hret _ _ _ (by k_asm) (cb_drop (by k_asm) (by repeat (first | exact subR | refine subC ?_ | refine subS ?_)))

local macro_rules | `(tactic| walk_at "call ref") => `(tactic| (k_here; (with_reducible show wpAny _ _ (call (Value.ref 112) [Value.int _ _, Value.int _ _]) _ _ _); k_dflt (refine' inv ?B ?F ?X ?N ?T ?K ?hd ?hu ?hq ?_; (case B => k_asm); (case F => k_asm); (case X => k_asm); (case N => k_asm); (case T => k_asm); (case K => first | exact rfl | assumption); (case hd => ktr_room); (case hu => ktr_units); (case hq => assumption)); intro t' h' tk' F' N'; (try k_sweep); (try dsimp only [W.CmpBack]); (try k_fold)))

set_option maxRecDepth 100000 in
set_option maxHeartbeats 0 in
theorem div2 {q n1 n2 : Int} {x dx : Addr} {x1 x2 x3 x4 : Tok} {y dy : Addr} {y1 y2 y3 y4 : Tok}
    (B : Below A₀ base outer h₀) (F : Fr h₀ L s.heap m) (X : (kk.heap_1 w.params).In h₀) (N : News h₀ L s.heap news) (T : Top p loose mean mg mb h₀) (hk : cs.kind = .function)
    (hd : dp + 9 < recursionLimit) (hu : un + 72 < cLine) (hq : Pr q) (hb : (0 ≤ n1 ∧ n1 < q) ∧ 0 ≤ n2 ∧ n2 < q) (mx : (x, instObj 417 dx) ∈ news) (mdx : (dx, fqD w.params q n1 x1 x2 x3 x4) ∈ news) (my : (y, instObj 417 dy) ∈ news) (mdy : (dy, fqD w.params q n2 y1 y2 y3 y4) ∈ news) (hret : ∀ (z dz : Addr) (t1 t2 t3 t4 : Tok) (h' : Heap) (tk' : Nat), Fr h₀ L h' m → News h₀ L h' ((z, instObj 417 dz) :: (dz, fqD w.params q (dF q n1 n2) t1 t2 t3 t4) :: news) → Q (.ref z) { s with heap := h', toks := tk' }) :
    wpAny (model PySem.Challenge.pw_lh0034_01 w) (ktrTop dp un gd cn cs L a ccd cl outer) (call (.ref 329) [.ref x, .ref y]) Q E s := by
  have hq7 := And.intro hq.lo hq.hi
  have hpl := And.intro (pm_lo n2 (q - 2) q) (pm_lt n2 (q - 2) q hq.pos)
  rw [show dF q n1 n2 = ((n1 * pm n2 (q - 2) q).fmod q) % q from by rw [Int.fmod_eq_emod_of_nonneg _ (by omega : 0 ≤ q), Int.emod_emod_of_dvd _ (Int.dvd_refl q)]; rfl] at hret
  have N := add4 N mx mdx my mdy
  refine wpAny_call ?_
  k_dflt ktr_enter
  k_steps
  exact hret _ _ _ _ _ _ _ _ (by k_asm) (cb_drop (by k_asm) (by repeat (first | exact subR | refine subC ?_ | refine subS ?_)))


set_option maxRecDepth 100000 in
set_option maxHeartbeats 0 in
theorem div1 {q n1 n2 : Int} {x dx : Addr} {x1 x2 x3 x4 : Tok} {y dy : Addr} {y1 y2 y3 y4 : Tok}
    (B : Below A₀ base outer h₀) (F : Fr h₀ L s.heap m) (X : (kk.heap_1 w.params).In h₀) (N : News h₀ L s.heap news) (T : Top p loose mean mg mb h₀) (hk : cs.kind = .function)
    (hd : dp + 9 < recursionLimit) (hu : un + 72 < cLine) (hq : Pr q) (hb : (0 ≤ n1 ∧ n1 < q) ∧ 0 ≤ n2 ∧ n2 < q) (mx : (x, instObj 255 dx) ∈ news) (mdx : (dx, fqD w.params q n1 x1 x2 x3 x4) ∈ news) (my : (y, instObj 255 dy) ∈ news) (mdy : (dy, fqD w.params q n2 y1 y2 y3 y4) ∈ news) (hret : ∀ (z dz : Addr) (t1 t2 t3 t4 : Tok) (h' : Heap) (tk' : Nat), Fr h₀ L h' m → News h₀ L h' ((z, instObj 255 dz) :: (dz, fqD w.params q (dF q n1 n2) t1 t2 t3 t4) :: news) → Q (.ref z) { s with heap := h', toks := tk' }) :
    wpAny (model PySem.Challenge.pw_lh0034_01 w) (ktrTop dp un gd cn cs L a ccd cl outer) (call (.ref 175) [.ref x, .ref y]) Q E s := by
  have hq7 := And.intro hq.lo hq.hi
  have hpl := And.intro (pm_lo n2 (q - 2) q) (pm_lt n2 (q - 2) q hq.pos)
  rw [show dF q n1 n2 = ((n1 * pm n2 (q - 2) q).fmod q) % q from by rw [Int.fmod_eq_emod_of_nonneg _ (by omega : 0 ≤ q), Int.emod_emod_of_dvd _ (Int.dvd_refl q)]; rfl] at hret
  have N := add4 N mx mdx my mdy
  refine wpAny_call ?_
  k_dflt ktr_enter
  k_steps
  exact hret _ _ _ _ _ _ _ _ (by k_asm) (cb_drop (by k_asm) (by repeat (first | exact subR | refine subC ?_ | refine subS ?_)))


set_option maxRecDepth 100000 in
set_option maxHeartbeats 0 in
theorem bmul2 {q n1 n2 : Int} {x dx : Addr} {x1 x2 x3 x4 : Tok} {y dy : Addr} {y1 y2 y3 y4 : Tok}
    (B : Below A₀ base outer h₀) (F : Fr h₀ L s.heap m) (X : (kk.heap_1 w.params).In h₀) (N : News h₀ L s.heap news) (T : Top p loose mean mg mb h₀) (hk : cs.kind = .function)
    (hd : dp + 9 < recursionLimit) (hu : un + 72 < cLine) (mx : (x, instObj 417 dx) ∈ news) (mdx : (dx, fqD w.params q n1 x1 x2 x3 x4) ∈ news) (my : (y, instObj 417 dy) ∈ news) (mdy : (dy, fqD w.params q n2 y1 y2 y3 y4) ∈ news) (hq : 0 < q ∧ q ≤ 127) (r1 : 0 ≤ n1 ∧ n1 < q) (r2 : 0 ≤ n2 ∧ n2 < q) (hret : ∀ (z dz : Addr) (t1 t2 t3 t4 : Tok) (h' : Heap) (tk' : Nat) (n' : Int), n' = mF q n1 n2 → (0 ≤ n' ∧ n' < q) → Fr h₀ L h' m → News h₀ L h' ((z, instObj 417 dz) :: (dz, fqD w.params q n' t1 t2 t3 t4) :: news) → Q (.ref z) { s with heap := h', toks := tk' }) :
    wpAny (model PySem.Challenge.pw_lh0034_01 w) (ktrTop dp un gd cn cs L a ccd cl outer) (binaryOp .Mult (.ref x) (.ref y)) Q E s := by
  k_dflt (refine' binop_K ?k1 ?k2 ?k3 ?k4 ?k5 ?k6 ?k7 ?_; (case k1 => exact F); (case k2 => exact X); (case k3 => exact InstAt.of_news N mx mdx); (case k4 => exact InstAt.type (InstAt.of_news N my mdy)); (case k5 => k_is); (case k6 => k_is); (case k7 => k_is))
  exact mul2 B F X N T hk hd hu ⟨hq, r1, r2⟩ mx mdx my mdy (fun z dz t1 t2 t3 t4 h' tk' F' N' => hret z dz t1 t2 t3 t4 h' tk' _ rfl ⟨Int.emod_nonneg _ (by omega), Int.emod_lt_of_pos _ hq.1⟩ F' N')


set_option maxRecDepth 100000 in
set_option maxHeartbeats 0 in
theorem bsub2 {q n1 n2 : Int} {x dx : Addr} {x1 x2 x3 x4 : Tok} {y dy : Addr} {y1 y2 y3 y4 : Tok}
    (B : Below A₀ base outer h₀) (F : Fr h₀ L s.heap m) (X : (kk.heap_1 w.params).In h₀) (N : News h₀ L s.heap news) (T : Top p loose mean mg mb h₀) (hk : cs.kind = .function)
    (hd : dp + 9 < recursionLimit) (hu : un + 72 < cLine) (mx : (x, instObj 417 dx) ∈ news) (mdx : (dx, fqD w.params q n1 x1 x2 x3 x4) ∈ news) (my : (y, instObj 417 dy) ∈ news) (mdy : (dy, fqD w.params q n2 y1 y2 y3 y4) ∈ news) (hq : 0 < q ∧ q ≤ 127) (r1 : 0 ≤ n1 ∧ n1 < q) (r2 : 0 ≤ n2 ∧ n2 < q) (hret : ∀ (z dz : Addr) (t1 t2 t3 t4 : Tok) (h' : Heap) (tk' : Nat) (n' : Int), n' = sF q n1 n2 → (0 ≤ n' ∧ n' < q) → Fr h₀ L h' m → News h₀ L h' ((z, instObj 417 dz) :: (dz, fqD w.params q n' t1 t2 t3 t4) :: news) → Q (.ref z) { s with heap := h', toks := tk' }) :
    wpAny (model PySem.Challenge.pw_lh0034_01 w) (ktrTop dp un gd cn cs L a ccd cl outer) (binaryOp .Sub (.ref x) (.ref y)) Q E s := by
  k_dflt (refine' binop_K ?k1 ?k2 ?k3 ?k4 ?k5 ?k6 ?k7 ?_; (case k1 => exact F); (case k2 => exact X); (case k3 => exact InstAt.of_news N mx mdx); (case k4 => exact InstAt.type (InstAt.of_news N my mdy)); (case k5 => k_is); (case k6 => k_is); (case k7 => k_is))
  exact sub2 B F X N T hk hd hu ⟨hq, r1, r2⟩ mx mdx my mdy (fun z dz t1 t2 t3 t4 h' tk' F' N' => hret z dz t1 t2 t3 t4 h' tk' _ rfl ⟨Int.emod_nonneg _ (by omega), Int.emod_lt_of_pos _ hq.1⟩ F' N')


set_option maxRecDepth 100000 in
set_option maxHeartbeats 0 in
theorem brmul2 {q n1 v : Int} {tv : Tok} {x dx : Addr} {x1 x2 x3 x4 : Tok}
    (B : Below A₀ base outer h₀) (F : Fr h₀ L s.heap m) (X : (kk.heap_1 w.params).In h₀) (N : News h₀ L s.heap news) (T : Top p loose mean mg mb h₀) (hk : cs.kind = .function)
    (hd : dp + 12 < recursionLimit) (hu : un + 96 < cLine) (mx : (x, instObj 417 dx) ∈ news) (mdx : (dx, fqD w.params q n1 x1 x2 x3 x4) ∈ news) (hq : 0 < q ∧ q ≤ 127) (r1 : 0 ≤ n1 ∧ n1 < q) (r2 : 0 ≤ v ∧ v ≤ 8) (hret : ∀ (z dz : Addr) (t1 t2 t3 t4 : Tok) (h' : Heap) (tk' : Nat) (n' : Int), n' = mF q n1 v → (0 ≤ n' ∧ n' < q) → Fr h₀ L h' m → News h₀ L h' ((z, instObj 417 dz) :: (dz, fqD w.params q n' t1 t2 t3 t4) :: news) → Q (.ref z) { s with heap := h', toks := tk' }) :
    wpAny (model PySem.Challenge.pw_lh0034_01 w) (ktrTop dp un gd cn cs L a ccd cl outer) (binaryOp .Mult (.int v tv) (.ref x)) Q E s := by
  k_dflt (refine' rmul_K ?F ?X ?I ?hC ?hS ?hR ?hF ?hU ?_; (case F => exact F); (case X => exact X); (case I => exact InstAt.of_news N mx mdx); (case hC => k_is); (case hS => k_is); (case hR => k_is); (case hF => k_is); (case hU => k_is))
  exact rmul2 B F X N T hk hd hu ⟨hq, r1, r2⟩ mx mdx (fun z dz t1 t2 t3 t4 h' tk' F' N' => hret z dz t1 t2 t3 t4 h' tk' _ rfl ⟨Int.emod_nonneg _ (by omega), Int.emod_lt_of_pos _ hq.1⟩ F' N')


set_option maxRecDepth 100000 in
set_option maxHeartbeats 0 in
theorem bneg2 {q n1 : Int} {x dx : Addr} {x1 x2 x3 x4 : Tok}
    (B : Below A₀ base outer h₀) (F : Fr h₀ L s.heap m) (X : (kk.heap_1 w.params).In h₀) (N : News h₀ L s.heap news) (T : Top p loose mean mg mb h₀) (hk : cs.kind = .function)
    (hd : dp + 9 < recursionLimit) (hu : un + 72 < cLine) (mx : (x, instObj 417 dx) ∈ news) (mdx : (dx, fqD w.params q n1 x1 x2 x3 x4) ∈ news) (hq : 0 < q ∧ q ≤ 127) (r1 : 0 ≤ n1 ∧ n1 < q) (hret : ∀ (z dz : Addr) (t1 t2 t3 t4 : Tok) (h' : Heap) (tk' : Nat) (n' : Int), n' = nF q n1 → (0 ≤ n' ∧ n' < q) → Fr h₀ L h' m → News h₀ L h' ((z, instObj 417 dz) :: (dz, fqD w.params q n' t1 t2 t3 t4) :: news) → Q (.ref z) { s with heap := h', toks := tk' }) :
    wpAny (model PySem.Challenge.pw_lh0034_01 w) (ktrTop dp un gd cn cs L a ccd cl outer) (unaryOp .USub (.ref x)) Q E s := by
  k_dflt (refine' ksp_neg ?F ?X ?I ?hS ?hF ?_; (case F => exact F); (case X => exact X); (case I => exact InstAt.of_news N mx mdx); (case hS => k_is); (case hF => k_is))
  exact neg2 B F X N T hk hd hu ⟨hq, r1⟩ mx mdx (fun z dz t1 t2 t3 t4 h' tk' F' N' => hret z dz t1 t2 t3 t4 h' tk' _ rfl ⟨Int.emod_nonneg _ (by omega), Int.emod_lt_of_pos _ hq.1⟩ F' N')


set_option maxRecDepth 100000 in
set_option maxHeartbeats 0 in
theorem beq2 {q q2 n1 n2 : Int} {x dx : Addr} {x1 x2 x3 x4 : Tok} {y dy : Addr} {y1 y2 y3 y4 : Tok}
    (B : Below A₀ base outer h₀) (F : Fr h₀ L s.heap m) (X : (kk.heap_1 w.params).In h₀) (N : News h₀ L s.heap news) (T : Top p loose mean mg mb h₀) (hk : cs.kind = .function)
    (hd : dp + 5 < recursionLimit) (hu : un + 40 < cLine) (mx : (x, instObj 417 dx) ∈ news) (mdx : (dx, fqD w.params q n1 x1 x2 x3 x4) ∈ news) (my : (y, instObj 417 dy) ∈ news) (mdy : (dy, fqD w.params q2 n2 y1 y2 y3 y4) ∈ news) (hret : ∀ (h' : Heap) (tk' : Nat), Fr h₀ L h' m → News h₀ L h' news → Q (.bool (decide (n1 = n2))) { s with heap := h', toks := tk' }) :
    wpAny (model PySem.Challenge.pw_lh0034_01 w) (ktrTop dp un gd cn cs L a ccd cl outer) (compareOp .Eq (.ref x) (.ref y)) Q E s := by
  refine cmp_ofEq ?_
  k_dflt (refine' cmp_K ?k1 ?k2 ?k3 ?k4 ?k5 ?k6 ?k7 ?k8 ?_; (case k1 => show un < cLine; omega); (case k2 => exact F); (case k3 => exact X); (case k4 => exact InstAt.of_news N mx mdx); (case k5 => exact InstAt.type (InstAt.of_news N my mdy)); (case k6 => k_is); (case k7 => k_is); (case k8 => k_is))
  exact eq2 B F X N T hk hd hu trivial mx mdx my mdy (fun h' tk' F' N' => hret h' tk' F' N')

local macro_rules | `(tactic| walk_at "compareOp Eq ref ref") => `(tactic| (k_here; (with_reducible show wpAny _ _ (compareOp CmpOp.Eq (Value.ref _) (Value.ref _)) _ _ _); k_dflt (refine' beq2 ?B ?F ?X ?N ?T ?K ?hd ?hu ?m0 ?m1 ?m2 ?m3 ?_; (case B => k_asm); (case F => k_asm); (case X => k_asm); (case N => k_asm); (case T => k_asm); (case K => first | exact rfl | assumption); (case hd => ktr_room); (case hu => ktr_units); (case m0 => first | (repeat (first | exact List.Mem.head _ | refine List.Mem.tail _ ?_)) | k_mem); (case m1 => first | (repeat (first | exact List.Mem.head _ | refine List.Mem.tail _ ?_)) | k_mem); (case m2 => first | (repeat (first | exact List.Mem.head _ | refine List.Mem.tail _ ?_)) | k_mem); (case m3 => first | (repeat (first | exact List.Mem.head _ | refine List.Mem.tail _ ?_)) | k_mem)); intro h' tk' F' N'; (try k_sweep); (try k_fold)))

set_option maxRecDepth 100000 in
set_option maxHeartbeats 0 in
theorem bpow2_2 {q n1 : Int} {tv : Tok} {x dx : Addr} {x1 x2 x3 x4 : Tok}
    (B : Below A₀ base outer h₀) (F : Fr h₀ L s.heap m) (X : (kk.heap_1 w.params).In h₀) (N : News h₀ L s.heap news) (T : Top p loose mean mg mb h₀) (hk : cs.kind = .function)
    (hd : dp + 12 < recursionLimit) (hu : un + 96 < cLine) (mx : (x, instObj 417 dx) ∈ news) (mdx : (dx, fqD w.params q n1 x1 x2 x3 x4) ∈ news) (hq : 0 < q ∧ q ≤ 127) (r1 : 0 ≤ n1 ∧ n1 < q) (hret : ∀ (z dz : Addr) (t1 t2 t3 t4 : Tok) (h' : Heap) (tk' : Nat) (n' : Int), n' = mF q n1 n1 → (0 ≤ n' ∧ n' < q) → Fr h₀ L h' m → News h₀ L h' ((z, instObj 417 dz) :: (dz, fqD w.params q n' t1 t2 t3 t4) :: news) → Q (.ref z) { s with heap := h', toks := tk' }) :
    wpAny (model PySem.Challenge.pw_lh0034_01 w) (ktrTop dp un gd cn cs L a ccd cl outer) (binaryOp .Pow (.ref x) (.int 2 tv)) Q E s := by
  k_dflt (refine' ksp_binT ?F ?X ?I ?hB ?hC ?hS ?hF ?hR ?hP ?h1 ?h2 ?hU ?_; (case hB => exact rfl); (case F => exact F); (case X => exact X); (case I => exact InstAt.of_news N mx mdx); (case hS => k_is); (case hF => k_is); (case hC => k_is); (case hR => k_is); (case hP => first | exact .inl rfl | exact .inr ⟨_, rfl⟩); (case h1 => k_is); (case h2 => k_is); (case hU => k_is))
  exact pow2_2 B F X N T hk hd hu ⟨hq, r1⟩ mx mdx (fun z dz t1 t2 t3 t4 h' tk' F' N' => hret z dz t1 t2 t3 t4 h' tk' _ rfl ⟨Int.emod_nonneg _ (by omega), Int.emod_lt_of_pos _ hq.1⟩ F' N')


set_option maxRecDepth 100000 in
set_option maxHeartbeats 0 in
theorem bpow3_2 {q n1 : Int} {tv : Tok} {x dx : Addr} {x1 x2 x3 x4 : Tok}
    (B : Below A₀ base outer h₀) (F : Fr h₀ L s.heap m) (X : (kk.heap_1 w.params).In h₀) (N : News h₀ L s.heap news) (T : Top p loose mean mg mb h₀) (hk : cs.kind = .function)
    (hd : dp + 12 < recursionLimit) (hu : un + 96 < cLine) (mx : (x, instObj 417 dx) ∈ news) (mdx : (dx, fqD w.params q n1 x1 x2 x3 x4) ∈ news) (hq : 0 < q ∧ q ≤ 127) (r1 : 0 ≤ n1 ∧ n1 < q) (hret : ∀ (z dz : Addr) (t1 t2 t3 t4 : Tok) (h' : Heap) (tk' : Nat) (n' : Int), n' = mF q (mF q n1 n1) n1 → (0 ≤ n' ∧ n' < q) → Fr h₀ L h' m → News h₀ L h' ((z, instObj 417 dz) :: (dz, fqD w.params q n' t1 t2 t3 t4) :: news) → Q (.ref z) { s with heap := h', toks := tk' }) :
    wpAny (model PySem.Challenge.pw_lh0034_01 w) (ktrTop dp un gd cn cs L a ccd cl outer) (binaryOp .Pow (.ref x) (.int 3 tv)) Q E s := by
  k_dflt (refine' ksp_binT ?F ?X ?I ?hB ?hC ?hS ?hF ?hR ?hP ?h1 ?h2 ?hU ?_; (case hB => exact rfl); (case F => exact F); (case X => exact X); (case I => exact InstAt.of_news N mx mdx); (case hS => k_is); (case hF => k_is); (case hC => k_is); (case hR => k_is); (case hP => first | exact .inl rfl | exact .inr ⟨_, rfl⟩); (case h1 => k_is); (case h2 => k_is); (case hU => k_is))
  exact pow3_2 B F X N T hk hd hu ⟨hq, r1⟩ mx mdx (fun z dz t1 t2 t3 t4 h' tk' F' N' => hret z dz t1 t2 t3 t4 h' tk' _ rfl ⟨Int.emod_nonneg _ (by omega), Int.emod_lt_of_pos _ hq.1⟩ F' N')


set_option maxRecDepth 100000 in
set_option maxHeartbeats 0 in
theorem bdiv2 {q n1 n2 : Int} {x dx : Addr} {x1 x2 x3 x4 : Tok} {y dy : Addr} {y1 y2 y3 y4 : Tok}
    (B : Below A₀ base outer h₀) (F : Fr h₀ L s.heap m) (X : (kk.heap_1 w.params).In h₀) (N : News h₀ L s.heap news) (T : Top p loose mean mg mb h₀) (hk : cs.kind = .function)
    (hd : dp + 9 < recursionLimit) (hu : un + 72 < cLine) (mx : (x, instObj 417 dx) ∈ news) (mdx : (dx, fqD w.params q n1 x1 x2 x3 x4) ∈ news) (my : (y, instObj 417 dy) ∈ news) (mdy : (dy, fqD w.params q n2 y1 y2 y3 y4) ∈ news) (hp : Pr q) (hq : 0 < q ∧ q ≤ 127) (r1 : 0 ≤ n1 ∧ n1 < q) (r2 : 0 ≤ n2 ∧ n2 < q) (hret : ∀ (z dz : Addr) (t1 t2 t3 t4 : Tok) (h' : Heap) (tk' : Nat) (n' : Int), n' = dF q n1 n2 → (0 ≤ n' ∧ n' < q) → Fr h₀ L h' m → News h₀ L h' ((z, instObj 417 dz) :: (dz, fqD w.params q n' t1 t2 t3 t4) :: news) → Q (.ref z) { s with heap := h', toks := tk' }) :
    wpAny (model PySem.Challenge.pw_lh0034_01 w) (ktrTop dp un gd cn cs L a ccd cl outer) (binaryOp .Div (.ref x) (.ref y)) Q E s := by
  k_dflt (refine' binop_K ?k1 ?k2 ?k3 ?k4 ?k5 ?k6 ?k7 ?_; (case k1 => exact F); (case k2 => exact X); (case k3 => exact InstAt.of_news N mx mdx); (case k4 => exact InstAt.type (InstAt.of_news N my mdy)); (case k5 => k_is); (case k6 => k_is); (case k7 => k_is))
  exact div2 B F X N T hk hd hu hp ⟨r1, r2⟩ mx mdx my mdy (fun z dz t1 t2 t3 t4 h' tk' F' N' => hret z dz t1 t2 t3 t4 h' tk' _ rfl ⟨Int.emod_nonneg _ (by omega), Int.emod_lt_of_pos _ hq.1⟩ F' N')


set_option maxRecDepth 100000 in
set_option maxHeartbeats 0 in
theorem bmul1 {q n1 n2 : Int} {x dx : Addr} {x1 x2 x3 x4 : Tok} {y dy : Addr} {y1 y2 y3 y4 : Tok}
    (B : Below A₀ base outer h₀) (F : Fr h₀ L s.heap m) (X : (kk.heap_1 w.params).In h₀) (N : News h₀ L s.heap news) (T : Top p loose mean mg mb h₀) (hk : cs.kind = .function)
    (hd : dp + 9 < recursionLimit) (hu : un + 72 < cLine) (mx : (x, instObj 255 dx) ∈ news) (mdx : (dx, fqD w.params q n1 x1 x2 x3 x4) ∈ news) (my : (y, instObj 255 dy) ∈ news) (mdy : (dy, fqD w.params q n2 y1 y2 y3 y4) ∈ news) (hq : 0 < q ∧ q ≤ 127) (r1 : 0 ≤ n1 ∧ n1 < q) (r2 : 0 ≤ n2 ∧ n2 < q) (hret : ∀ (z dz : Addr) (t1 t2 t3 t4 : Tok) (h' : Heap) (tk' : Nat) (n' : Int), n' = mF q n1 n2 → (0 ≤ n' ∧ n' < q) → Fr h₀ L h' m → News h₀ L h' ((z, instObj 255 dz) :: (dz, fqD w.params q n' t1 t2 t3 t4) :: news) → Q (.ref z) { s with heap := h', toks := tk' }) :
    wpAny (model PySem.Challenge.pw_lh0034_01 w) (ktrTop dp un gd cn cs L a ccd cl outer) (binaryOp .Mult (.ref x) (.ref y)) Q E s := by
  k_dflt (refine' binop_K ?k1 ?k2 ?k3 ?k4 ?k5 ?k6 ?k7 ?_; (case k1 => exact F); (case k2 => exact X); (case k3 => exact InstAt.of_news N mx mdx); (case k4 => exact InstAt.type (InstAt.of_news N my mdy)); (case k5 => k_is); (case k6 => k_is); (case k7 => k_is))
  exact mul1 B F X N T hk hd hu ⟨hq, r1, r2⟩ mx mdx my mdy (fun z dz t1 t2 t3 t4 h' tk' F' N' => hret z dz t1 t2 t3 t4 h' tk' _ rfl ⟨Int.emod_nonneg _ (by omega), Int.emod_lt_of_pos _ hq.1⟩ F' N')


set_option maxRecDepth 100000 in
set_option maxHeartbeats 0 in
theorem bsub1 {q n1 n2 : Int} {x dx : Addr} {x1 x2 x3 x4 : Tok} {y dy : Addr} {y1 y2 y3 y4 : Tok}
    (B : Below A₀ base outer h₀) (F : Fr h₀ L s.heap m) (X : (kk.heap_1 w.params).In h₀) (N : News h₀ L s.heap news) (T : Top p loose mean mg mb h₀) (hk : cs.kind = .function)
    (hd : dp + 9 < recursionLimit) (hu : un + 72 < cLine) (mx : (x, instObj 255 dx) ∈ news) (mdx : (dx, fqD w.params q n1 x1 x2 x3 x4) ∈ news) (my : (y, instObj 255 dy) ∈ news) (mdy : (dy, fqD w.params q n2 y1 y2 y3 y4) ∈ news) (hq : 0 < q ∧ q ≤ 127) (r1 : 0 ≤ n1 ∧ n1 < q) (r2 : 0 ≤ n2 ∧ n2 < q) (hret : ∀ (z dz : Addr) (t1 t2 t3 t4 : Tok) (h' : Heap) (tk' : Nat) (n' : Int), n' = sF q n1 n2 → (0 ≤ n' ∧ n' < q) → Fr h₀ L h' m → News h₀ L h' ((z, instObj 255 dz) :: (dz, fqD w.params q n' t1 t2 t3 t4) :: news) → Q (.ref z) { s with heap := h', toks := tk' }) :
    wpAny (model PySem.Challenge.pw_lh0034_01 w) (ktrTop dp un gd cn cs L a ccd cl outer) (binaryOp .Sub (.ref x) (.ref y)) Q E s := by
  k_dflt (refine' binop_K ?k1 ?k2 ?k3 ?k4 ?k5 ?k6 ?k7 ?_; (case k1 => exact F); (case k2 => exact X); (case k3 => exact InstAt.of_news N mx mdx); (case k4 => exact InstAt.type (InstAt.of_news N my mdy)); (case k5 => k_is); (case k6 => k_is); (case k7 => k_is))
  exact sub1 B F X N T hk hd hu ⟨hq, r1, r2⟩ mx mdx my mdy (fun z dz t1 t2 t3 t4 h' tk' F' N' => hret z dz t1 t2 t3 t4 h' tk' _ rfl ⟨Int.emod_nonneg _ (by omega), Int.emod_lt_of_pos _ hq.1⟩ F' N')


set_option maxRecDepth 100000 in
set_option maxHeartbeats 0 in
theorem badd1 {q n1 n2 : Int} {x dx : Addr} {x1 x2 x3 x4 : Tok} {y dy : Addr} {y1 y2 y3 y4 : Tok}
    (B : Below A₀ base outer h₀) (F : Fr h₀ L s.heap m) (X : (kk.heap_1 w.params).In h₀) (N : News h₀ L s.heap news) (T : Top p loose mean mg mb h₀) (hk : cs.kind = .function)
    (hd : dp + 9 < recursionLimit) (hu : un + 72 < cLine) (mx : (x, instObj 255 dx) ∈ news) (mdx : (dx, fqD w.params q n1 x1 x2 x3 x4) ∈ news) (my : (y, instObj 255 dy) ∈ news) (mdy : (dy, fqD w.params q n2 y1 y2 y3 y4) ∈ news) (hq : 0 < q ∧ q ≤ 127) (r1 : 0 ≤ n1 ∧ n1 < q) (r2 : 0 ≤ n2 ∧ n2 < q) (hret : ∀ (z dz : Addr) (t1 t2 t3 t4 : Tok) (h' : Heap) (tk' : Nat) (n' : Int), n' = aF q n1 n2 → (0 ≤ n' ∧ n' < q) → Fr h₀ L h' m → News h₀ L h' ((z, instObj 255 dz) :: (dz, fqD w.params q n' t1 t2 t3 t4) :: news) → Q (.ref z) { s with heap := h', toks := tk' }) :
    wpAny (model PySem.Challenge.pw_lh0034_01 w) (ktrTop dp un gd cn cs L a ccd cl outer) (binaryOp .Add (.ref x) (.ref y)) Q E s := by
  k_dflt (refine' binop_K ?k1 ?k2 ?k3 ?k4 ?k5 ?k6 ?k7 ?_; (case k1 => exact F); (case k2 => exact X); (case k3 => exact InstAt.of_news N mx mdx); (case k4 => exact InstAt.type (InstAt.of_news N my mdy)); (case k5 => k_is); (case k6 => k_is); (case k7 => k_is))
  exact add1 B F X N T hk hd hu ⟨hq, r1, r2⟩ mx mdx my mdy (fun z dz t1 t2 t3 t4 h' tk' F' N' => hret z dz t1 t2 t3 t4 h' tk' _ rfl ⟨Int.emod_nonneg _ (by omega), Int.emod_lt_of_pos _ hq.1⟩ F' N')


set_option maxRecDepth 100000 in
set_option maxHeartbeats 0 in
theorem brmul1 {q n1 v : Int} {tv : Tok} {x dx : Addr} {x1 x2 x3 x4 : Tok}
    (B : Below A₀ base outer h₀) (F : Fr h₀ L s.heap m) (X : (kk.heap_1 w.params).In h₀) (N : News h₀ L s.heap news) (T : Top p loose mean mg mb h₀) (hk : cs.kind = .function)
    (hd : dp + 12 < recursionLimit) (hu : un + 96 < cLine) (mx : (x, instObj 255 dx) ∈ news) (mdx : (dx, fqD w.params q n1 x1 x2 x3 x4) ∈ news) (hq : 0 < q ∧ q ≤ 127) (r1 : 0 ≤ n1 ∧ n1 < q) (r2 : 0 ≤ v ∧ v ≤ 8) (hret : ∀ (z dz : Addr) (t1 t2 t3 t4 : Tok) (h' : Heap) (tk' : Nat) (n' : Int), n' = mF q n1 v → (0 ≤ n' ∧ n' < q) → Fr h₀ L h' m → News h₀ L h' ((z, instObj 255 dz) :: (dz, fqD w.params q n' t1 t2 t3 t4) :: news) → Q (.ref z) { s with heap := h', toks := tk' }) :
    wpAny (model PySem.Challenge.pw_lh0034_01 w) (ktrTop dp un gd cn cs L a ccd cl outer) (binaryOp .Mult (.int v tv) (.ref x)) Q E s := by
  k_dflt (refine' rmul_K ?F ?X ?I ?hC ?hS ?hR ?hF ?hU ?_; (case F => exact F); (case X => exact X); (case I => exact InstAt.of_news N mx mdx); (case hC => k_is); (case hS => k_is); (case hR => k_is); (case hF => k_is); (case hU => k_is))
  exact rmul1 B F X N T hk hd hu ⟨hq, r1, r2⟩ mx mdx (fun z dz t1 t2 t3 t4 h' tk' F' N' => hret z dz t1 t2 t3 t4 h' tk' _ rfl ⟨Int.emod_nonneg _ (by omega), Int.emod_lt_of_pos _ hq.1⟩ F' N')


set_option maxRecDepth 100000 in
set_option maxHeartbeats 0 in
theorem bneg1 {q n1 : Int} {x dx : Addr} {x1 x2 x3 x4 : Tok}
    (B : Below A₀ base outer h₀) (F : Fr h₀ L s.heap m) (X : (kk.heap_1 w.params).In h₀) (N : News h₀ L s.heap news) (T : Top p loose mean mg mb h₀) (hk : cs.kind = .function)
    (hd : dp + 9 < recursionLimit) (hu : un + 72 < cLine) (mx : (x, instObj 255 dx) ∈ news) (mdx : (dx, fqD w.params q n1 x1 x2 x3 x4) ∈ news) (hq : 0 < q ∧ q ≤ 127) (r1 : 0 ≤ n1 ∧ n1 < q) (hret : ∀ (z dz : Addr) (t1 t2 t3 t4 : Tok) (h' : Heap) (tk' : Nat) (n' : Int), n' = nF q n1 → (0 ≤ n' ∧ n' < q) → Fr h₀ L h' m → News h₀ L h' ((z, instObj 255 dz) :: (dz, fqD w.params q n' t1 t2 t3 t4) :: news) → Q (.ref z) { s with heap := h', toks := tk' }) :
    wpAny (model PySem.Challenge.pw_lh0034_01 w) (ktrTop dp un gd cn cs L a ccd cl outer) (unaryOp .USub (.ref x)) Q E s := by
  k_dflt (refine' ksp_neg ?F ?X ?I ?hS ?hF ?_; (case F => exact F); (case X => exact X); (case I => exact InstAt.of_news N mx mdx); (case hS => k_is); (case hF => k_is))
  exact neg1 B F X N T hk hd hu ⟨hq, r1⟩ mx mdx (fun z dz t1 t2 t3 t4 h' tk' F' N' => hret z dz t1 t2 t3 t4 h' tk' _ rfl ⟨Int.emod_nonneg _ (by omega), Int.emod_lt_of_pos _ hq.1⟩ F' N')


set_option maxRecDepth 100000 in
set_option maxHeartbeats 0 in
theorem beq1 {q q2 n1 n2 : Int} {x dx : Addr} {x1 x2 x3 x4 : Tok} {y dy : Addr} {y1 y2 y3 y4 : Tok}
    (B : Below A₀ base outer h₀) (F : Fr h₀ L s.heap m) (X : (kk.heap_1 w.params).In h₀) (N : News h₀ L s.heap news) (T : Top p loose mean mg mb h₀) (hk : cs.kind = .function)
    (hd : dp + 5 < recursionLimit) (hu : un + 40 < cLine) (mx : (x, instObj 255 dx) ∈ news) (mdx : (dx, fqD w.params q n1 x1 x2 x3 x4) ∈ news) (my : (y, instObj 255 dy) ∈ news) (mdy : (dy, fqD w.params q2 n2 y1 y2 y3 y4) ∈ news) (hret : ∀ (h' : Heap) (tk' : Nat), Fr h₀ L h' m → News h₀ L h' news → Q (.bool (decide (n1 = n2))) { s with heap := h', toks := tk' }) :
    wpAny (model PySem.Challenge.pw_lh0034_01 w) (ktrTop dp un gd cn cs L a ccd cl outer) (compareOp .Eq (.ref x) (.ref y)) Q E s := by
  refine cmp_ofEq ?_
  k_dflt (refine' cmp_K ?k1 ?k2 ?k3 ?k4 ?k5 ?k6 ?k7 ?k8 ?_; (case k1 => show un < cLine; omega); (case k2 => exact F); (case k3 => exact X); (case k4 => exact InstAt.of_news N mx mdx); (case k5 => exact InstAt.type (InstAt.of_news N my mdy)); (case k6 => k_is); (case k7 => k_is); (case k8 => k_is))
  exact eq1 B F X N T hk hd hu trivial mx mdx my mdy (fun h' tk' F' N' => hret h' tk' F' N')


set_option maxRecDepth 100000 in
set_option maxHeartbeats 0 in
theorem bpow2_1 {q n1 : Int} {tv : Tok} {x dx : Addr} {x1 x2 x3 x4 : Tok}
    (B : Below A₀ base outer h₀) (F : Fr h₀ L s.heap m) (X : (kk.heap_1 w.params).In h₀) (N : News h₀ L s.heap news) (T : Top p loose mean mg mb h₀) (hk : cs.kind = .function)
    (hd : dp + 12 < recursionLimit) (hu : un + 96 < cLine) (mx : (x, instObj 255 dx) ∈ news) (mdx : (dx, fqD w.params q n1 x1 x2 x3 x4) ∈ news) (hq : 0 < q ∧ q ≤ 127) (r1 : 0 ≤ n1 ∧ n1 < q) (hret : ∀ (z dz : Addr) (t1 t2 t3 t4 : Tok) (h' : Heap) (tk' : Nat) (n' : Int), n' = mF q n1 n1 → (0 ≤ n' ∧ n' < q) → Fr h₀ L h' m → News h₀ L h' ((z, instObj 255 dz) :: (dz, fqD w.params q n' t1 t2 t3 t4) :: news) → Q (.ref z) { s with heap := h', toks := tk' }) :
    wpAny (model PySem.Challenge.pw_lh0034_01 w) (ktrTop dp un gd cn cs L a ccd cl outer) (binaryOp .Pow (.ref x) (.int 2 tv)) Q E s := by
  k_dflt (refine' ksp_binT ?F ?X ?I ?hB ?hC ?hS ?hF ?hR ?hP ?h1 ?h2 ?hU ?_; (case hB => exact rfl); (case F => exact F); (case X => exact X); (case I => exact InstAt.of_news N mx mdx); (case hS => k_is); (case hF => k_is); (case hC => k_is); (case hR => k_is); (case hP => first | exact .inl rfl | exact .inr ⟨_, rfl⟩); (case h1 => k_is); (case h2 => k_is); (case hU => k_is))
  exact pow2_1 B F X N T hk hd hu ⟨hq, r1⟩ mx mdx (fun z dz t1 t2 t3 t4 h' tk' F' N' => hret z dz t1 t2 t3 t4 h' tk' _ rfl ⟨Int.emod_nonneg _ (by omega), Int.emod_lt_of_pos _ hq.1⟩ F' N')


set_option maxRecDepth 100000 in
set_option maxHeartbeats 0 in
theorem bdiv1 {q n1 n2 : Int} {x dx : Addr} {x1 x2 x3 x4 : Tok} {y dy : Addr} {y1 y2 y3 y4 : Tok}
    (B : Below A₀ base outer h₀) (F : Fr h₀ L s.heap m) (X : (kk.heap_1 w.params).In h₀) (N : News h₀ L s.heap news) (T : Top p loose mean mg mb h₀) (hk : cs.kind = .function)
    (hd : dp + 9 < recursionLimit) (hu : un + 72 < cLine) (mx : (x, instObj 255 dx) ∈ news) (mdx : (dx, fqD w.params q n1 x1 x2 x3 x4) ∈ news) (my : (y, instObj 255 dy) ∈ news) (mdy : (dy, fqD w.params q n2 y1 y2 y3 y4) ∈ news) (hp : Pr q) (hq : 0 < q ∧ q ≤ 127) (r1 : 0 ≤ n1 ∧ n1 < q) (r2 : 0 ≤ n2 ∧ n2 < q) (hret : ∀ (z dz : Addr) (t1 t2 t3 t4 : Tok) (h' : Heap) (tk' : Nat) (n' : Int), n' = dF q n1 n2 → (0 ≤ n' ∧ n' < q) → Fr h₀ L h' m → News h₀ L h' ((z, instObj 255 dz) :: (dz, fqD w.params q n' t1 t2 t3 t4) :: news) → Q (.ref z) { s with heap := h', toks := tk' }) :
    wpAny (model PySem.Challenge.pw_lh0034_01 w) (ktrTop dp un gd cn cs L a ccd cl outer) (binaryOp .Div (.ref x) (.ref y)) Q E s := by
  k_dflt (refine' binop_K ?k1 ?k2 ?k3 ?k4 ?k5 ?k6 ?k7 ?_; (case k1 => exact F); (case k2 => exact X); (case k3 => exact InstAt.of_news N mx mdx); (case k4 => exact InstAt.type (InstAt.of_news N my mdy)); (case k5 => k_is); (case k6 => k_is); (case k7 => k_is))
  exact div1 B F X N T hk hd hu hp ⟨r1, r2⟩ mx mdx my mdy (fun z dz t1 t2 t3 t4 h' tk' F' N' => hret z dz t1 t2 t3 t4 h' tk' _ rfl ⟨Int.emod_nonneg _ (by omega), Int.emod_lt_of_pos _ hq.1⟩ F' N')



noncomputable def FqM (C : Addr) (P : Params) (news : List (Addr × Obj)) (q : Int) (x : Addr) (n : Int) : Prop :=
  ∃ (dx : Addr) (t1 t2 t3 t4 : Tok), (x, instObj C dx) ∈ news ∧ (dx, fqD P q n t1 t2 t3 t4) ∈ news
theorem FqM.mono {C : Addr} {P : Params} {news news' : List (Addr × Obj)} {q : Int} {x : Addr} {n : Int} (h : FqM C P news q x n) (s : ∀ e ∈ news, e ∈ news') : FqM C P news' q x n := by
  obtain ⟨dx, t1, t2, t3, t4, h1, h2⟩ := h
  exact ⟨dx, t1, t2, t3, t4, s _ h1, s _ h2⟩
noncomputable def Rg (q n : Int) : Prop := 0 ≤ n ∧ n < q
noncomputable def Makes (w : World) (C : Addr) (q : Int) (news : List (Addr × Obj)) (t : Sem Value) (n : Int) : Prop :=
  ∀ (p : Program) (loose : List Str) (mean : ExcName → Option Value) (mg mb : Str → Option Value) (dp un : Nat) (gd : Option (List Code)) (cn : Str) (cs : Scope) (a : Addr) (ccd : Value) (cl : List (Str × Addr)) (outer : List Env) (A₀ : Around) (base h₀ : Heap) (L : Addr) (m : Str → Option Value) (s : Shared) (Q E : Value → Shared → Prop),
    Below A₀ base outer h₀ → Fr h₀ L s.heap m → (kk.heap_1 w.params).In h₀ → News h₀ L s.heap news → Top p loose mean mg mb h₀ → cs.kind = .function → dp + 12 < recursionLimit → un + 96 < cLine →
    (∀ (x : Addr) (news' : List (Addr × Obj)) (h' : Heap) (tk' : Nat), Fr h₀ L h' m → News h₀ L h' news' → (∀ e ∈ news, e ∈ news') → FqM C w.params news' q x n → Rg q n → Q (.ref x) { s with heap := h', toks := tk' }) →
    wpAny (model PySem.Challenge.pw_lh0034_01 w) (ktrTop dp un gd cn cs L a ccd cl outer) t Q E s
/-- a tree that compares -/
noncomputable def Says (w : World) (news : List (Addr × Obj)) (t : Sem Value) (b : Bool) : Prop :=
  ∀ (p : Program) (loose : List Str) (mean : ExcName → Option Value) (mg mb : Str → Option Value) (dp un : Nat) (gd : Option (List Code)) (cn : Str) (cs : Scope) (a : Addr) (ccd : Value) (cl : List (Str × Addr)) (outer : List Env) (A₀ : Around) (base h₀ : Heap) (L : Addr) (m : Str → Option Value) (s : Shared) (Q E : Value → Shared → Prop),
    Below A₀ base outer h₀ → Fr h₀ L s.heap m → (kk.heap_1 w.params).In h₀ → News h₀ L s.heap news → Top p loose mean mg mb h₀ → cs.kind = .function → dp + 12 < recursionLimit → un + 96 < cLine →
    (∀ (h' : Heap) (tk' : Nat), Fr h₀ L h' m → News h₀ L h' news → Q (.bool b) { s with heap := h', toks := tk' }) →
    wpAny (model PySem.Challenge.pw_lh0034_01 w) (ktrTop dp un gd cn cs L a ccd cl outer) t Q E s
structure FOps (w : World) (C : Addr) (q : Int) (ad : Bool) : Prop where
  mul : ∀ {news : List (Addr × Obj)} {x y : Addr} {n1 n2 : Int}, FqM C w.params news q x n1 → FqM C w.params news q y n2 → Rg q n1 → Rg q n2 → Makes w C q news (binaryOp .Mult (.ref x) (.ref y)) (mF q n1 n2)
  sub : ∀ {news : List (Addr × Obj)} {x y : Addr} {n1 n2 : Int}, FqM C w.params news q x n1 → FqM C w.params news q y n2 → Rg q n1 → Rg q n2 → Makes w C q news (binaryOp .Sub (.ref x) (.ref y)) (sF q n1 n2)
  add : ad = true → ∀ {news : List (Addr × Obj)} {x y : Addr} {n1 n2 : Int}, FqM C w.params news q x n1 → FqM C w.params news q y n2 → Rg q n1 → Rg q n2 → Makes w C q news (binaryOp .Add (.ref x) (.ref y)) (aF q n1 n2)
  div : ∀ {news : List (Addr × Obj)} {x y : Addr} {n1 n2 : Int}, FqM C w.params news q x n1 → FqM C w.params news q y n2 → Rg q n1 → Rg q n2 → Makes w C q news (binaryOp .Div (.ref x) (.ref y)) (dF q n1 n2)
  kmul : ∀ {news : List (Addr × Obj)} {x : Addr} {n1 v : Int} {tv : Tok}, FqM C w.params news q x n1 → Rg q n1 → (0 ≤ v ∧ v ≤ 8) → Makes w C q news (binaryOp .Mult (.int v tv) (.ref x)) (mF q n1 v)
  neg : ∀ {news : List (Addr × Obj)} {x : Addr} {n1 : Int}, FqM C w.params news q x n1 → Rg q n1 → Makes w C q news (unaryOp .USub (.ref x)) (nF q n1)
  pow2 : ∀ {news : List (Addr × Obj)} {x : Addr} {n1 : Int} {tv : Tok}, FqM C w.params news q x n1 → Rg q n1 → Makes w C q news (binaryOp .Pow (.ref x) (.int 2 tv)) (mF q n1 n1)
  pow3 : ad = false → ∀ {news : List (Addr × Obj)} {x : Addr} {n1 : Int} {tv : Tok}, FqM C w.params news q x n1 → Rg q n1 → Makes w C q news (binaryOp .Pow (.ref x) (.int 3 tv)) (mF q (mF q n1 n1) n1)
  eqv : ∀ {news : List (Addr × Obj)} {x y : Addr} {n1 n2 : Int}, FqM C w.params news q x n1 → FqM C w.params news q y n2 → Says w news (compareOp .Eq (.ref x) (.ref y)) (decide (n1 = n2))
theorem mk_ret {w : World} {C : Addr} {q : Int} {news : List (Addr × Obj)} {n : Int} {h₀ : Heap} {L : Addr} {m : Str → Option Value} {s : Shared} {Q : Value → Shared → Prop}
    (ret : ∀ (x : Addr) (news' : List (Addr × Obj)) (h' : Heap) (tk' : Nat), Fr h₀ L h' m → News h₀ L h' news' → (∀ e ∈ news, e ∈ news') → FqM C w.params news' q x n → Rg q n → Q (.ref x) { s with heap := h', toks := tk' })
    (z dz : Addr) (t1 t2 t3 t4 : Tok) (h' : Heap) (tk' : Nat) (n' : Int) (e : n' = n) (r : 0 ≤ n' ∧ n' < q) (F : Fr h₀ L h' m) (N : News h₀ L h' ((z, instObj C dz) :: (dz, fqD w.params q n' t1 t2 t3 t4) :: news)) : Q (.ref z) { s with heap := h', toks := tk' } := by
  subst e
  exact ret z _ h' tk' F N (fun _ h => List.mem_cons.mpr (.inr (List.mem_cons.mpr (.inr h)))) ⟨dz, t1, t2, t3, t4, .head _, .tail _ (.head _)⟩ r
theorem fops2 {w : World} {q : Int} (hp : Pr q) : FOps w 417 q false := by
  have hq : 0 < q ∧ q ≤ 127 := ⟨hp.pos, hp.hi⟩
  exact {
  mul := fun f1 f2 r1 r2 => by
    obtain ⟨dx, t1, t2, t3, t4, a1, a2⟩ := f1
    obtain ⟨dy, u1, u2, u3, u4, b1, b2⟩ := f2
    intro p loose mean mg mb dp un gd cn cs a ccd cl outer A₀ base h₀ L m s Q E B F X N T hk hd hu ret
    exact bmul2 B F X N T hk (by omega) (by omega) a1 a2 b1 b2 hq r1 r2 (mk_ret ret)
  sub := fun f1 f2 r1 r2 => by
    obtain ⟨dx, t1, t2, t3, t4, a1, a2⟩ := f1
    obtain ⟨dy, u1, u2, u3, u4, b1, b2⟩ := f2
    intro p loose mean mg mb dp un gd cn cs a ccd cl outer A₀ base h₀ L m s Q E B F X N T hk hd hu ret
    exact bsub2 B F X N T hk (by omega) (by omega) a1 a2 b1 b2 hq r1 r2 (mk_ret ret)
  add := fun h => nomatch h
  div := fun f1 f2 r1 r2 => by
    obtain ⟨dx, t1, t2, t3, t4, a1, a2⟩ := f1
    obtain ⟨dy, u1, u2, u3, u4, b1, b2⟩ := f2
    intro p loose mean mg mb dp un gd cn cs a ccd cl outer A₀ base h₀ L m s Q E B F X N T hk hd hu ret
    exact bdiv2 B F X N T hk (by omega) (by omega) a1 a2 b1 b2 hp hq r1 r2 (mk_ret ret)
  kmul := fun f1 r1 r2 => by
    obtain ⟨dx, t1, t2, t3, t4, a1, a2⟩ := f1
    intro p loose mean mg mb dp un gd cn cs a ccd cl outer A₀ base h₀ L m s Q E B F X N T hk hd hu ret
    exact brmul2 B F X N T hk (by omega) (by omega) a1 a2 hq r1 r2 (mk_ret ret)
  neg := fun f1 r1 => by
    obtain ⟨dx, t1, t2, t3, t4, a1, a2⟩ := f1
    intro p loose mean mg mb dp un gd cn cs a ccd cl outer A₀ base h₀ L m s Q E B F X N T hk hd hu ret
    exact bneg2 B F X N T hk (by omega) (by omega) a1 a2 hq r1 (mk_ret ret)
  pow2 := fun f1 r1 => by
    obtain ⟨dx, t1, t2, t3, t4, a1, a2⟩ := f1
    intro p loose mean mg mb dp un gd cn cs a ccd cl outer A₀ base h₀ L m s Q E B F X N T hk hd hu ret
    exact bpow2_2 B F X N T hk (by omega) (by omega) a1 a2 hq r1 (mk_ret ret)
  pow3 := fun _ => fun f1 r1 => by
    obtain ⟨dx, t1, t2, t3, t4, a1, a2⟩ := f1
    intro p loose mean mg mb dp un gd cn cs a ccd cl outer A₀ base h₀ L m s Q E B F X N T hk hd hu ret
    exact bpow3_2 B F X N T hk (by omega) (by omega) a1 a2 hq r1 (mk_ret ret)
  eqv := fun f1 f2 => by
    obtain ⟨dx, t1, t2, t3, t4, a1, a2⟩ := f1
    obtain ⟨dy, u1, u2, u3, u4, b1, b2⟩ := f2
    intro p loose mean mg mb dp un gd cn cs a ccd cl outer A₀ base h₀ L m s Q E B F X N T hk hd hu ret
    exact beq2 B F X N T hk (by omega) (by omega) a1 a2 b1 b2 ret
  }
theorem fops1 {w : World} {q : Int} (hp : Pr q) : FOps w 255 q true := by
  have hq : 0 < q ∧ q ≤ 127 := ⟨hp.pos, hp.hi⟩
  exact {
  mul := fun f1 f2 r1 r2 => by
    obtain ⟨dx, t1, t2, t3, t4, a1, a2⟩ := f1
    obtain ⟨dy, u1, u2, u3, u4, b1, b2⟩ := f2
    intro p loose mean mg mb dp un gd cn cs a ccd cl outer A₀ base h₀ L m s Q E B F X N T hk hd hu ret
    exact bmul1 B F X N T hk (by omega) (by omega) a1 a2 b1 b2 hq r1 r2 (mk_ret ret)
  sub := fun f1 f2 r1 r2 => by
    obtain ⟨dx, t1, t2, t3, t4, a1, a2⟩ := f1
    obtain ⟨dy, u1, u2, u3, u4, b1, b2⟩ := f2
    intro p loose mean mg mb dp un gd cn cs a ccd cl outer A₀ base h₀ L m s Q E B F X N T hk hd hu ret
    exact bsub1 B F X N T hk (by omega) (by omega) a1 a2 b1 b2 hq r1 r2 (mk_ret ret)
  add := fun _ => fun f1 f2 r1 r2 => by
    obtain ⟨dx, t1, t2, t3, t4, a1, a2⟩ := f1
    obtain ⟨dy, u1, u2, u3, u4, b1, b2⟩ := f2
    intro p loose mean mg mb dp un gd cn cs a ccd cl outer A₀ base h₀ L m s Q E B F X N T hk hd hu ret
    exact badd1 B F X N T hk (by omega) (by omega) a1 a2 b1 b2 hq r1 r2 (mk_ret ret)
  div := fun f1 f2 r1 r2 => by
    obtain ⟨dx, t1, t2, t3, t4, a1, a2⟩ := f1
    obtain ⟨dy, u1, u2, u3, u4, b1, b2⟩ := f2
    intro p loose mean mg mb dp un gd cn cs a ccd cl outer A₀ base h₀ L m s Q E B F X N T hk hd hu ret
    exact bdiv1 B F X N T hk (by omega) (by omega) a1 a2 b1 b2 hp hq r1 r2 (mk_ret ret)
  kmul := fun f1 r1 r2 => by
    obtain ⟨dx, t1, t2, t3, t4, a1, a2⟩ := f1
    intro p loose mean mg mb dp un gd cn cs a ccd cl outer A₀ base h₀ L m s Q E B F X N T hk hd hu ret
    exact brmul1 B F X N T hk (by omega) (by omega) a1 a2 hq r1 r2 (mk_ret ret)
  neg := fun f1 r1 => by
    obtain ⟨dx, t1, t2, t3, t4, a1, a2⟩ := f1
    intro p loose mean mg mb dp un gd cn cs a ccd cl outer A₀ base h₀ L m s Q E B F X N T hk hd hu ret
    exact bneg1 B F X N T hk (by omega) (by omega) a1 a2 hq r1 (mk_ret ret)
  pow2 := fun f1 r1 => by
    obtain ⟨dx, t1, t2, t3, t4, a1, a2⟩ := f1
    intro p loose mean mg mb dp un gd cn cs a ccd cl outer A₀ base h₀ L m s Q E B F X N T hk hd hu ret
    exact bpow2_1 B F X N T hk (by omega) (by omega) a1 a2 hq r1 (mk_ret ret)
  pow3 := fun h => nomatch h
  eqv := fun f1 f2 => by
    obtain ⟨dx, t1, t2, t3, t4, a1, a2⟩ := f1
    obtain ⟨dy, u1, u2, u3, u4, b1, b2⟩ := f2
    intro p loose mean mg mb dp un gd cn cs a ccd cl outer A₀ base h₀ L m s Q E B F X N T hk hd hu ret
    exact beq1 B F X N T hk (by omega) (by omega) a1 a2 b1 b2 ret
  }
section
variable (ad : Bool) (q : Int) (S : List (Str × Int))
noncomputable def konst : Expr → Option Int
  | .Constant c _ _ => match c with
    | .int k => some k
    | _ => none
  | _ => none
noncomputable def fval : Nat → Expr → Option Int
  | 0, _ => none
  | f + 1, e => match e with
    | .Name x _ => S.lookup x
    | .BinOp l op r _ => match op with
      | .Mult => match konst l with
        | some k => if 0 ≤ k ∧ k ≤ 8 then (fval f r).map (fun v => mF q v k) else none
        | none => (fval f l).bind fun v => (fval f r).map fun u => mF q v u
      | .Pow => match konst r with
        | some k => if k = 2 then (fval f l).map fun v => mF q v v else if k = 3 ∧ ad = false then (fval f l).map fun v => mF q (mF q v v) v else none
        | none => none
      | .Sub => (fval f l).bind fun v => (fval f r).map fun u => sF q v u
      | .Add => if ad = true then (fval f l).bind fun v => (fval f r).map fun u => aF q v u else none
      | .Div => (fval f l).bind fun v => (fval f r).map fun u => dF q v u
      | _ => none
    | .UnaryOp op r _ => match op with
      | .USub => (fval f r).map (fun v => nF q v)
      | _ => none
    | _ => none
theorem konst_of {e : Expr} {k : Int} (h : konst e = some k) : ∃ kn kp, e = .Constant (.int k) kn kp := by
  unfold konst at h
  split at h
  · split at h
    · cases h; exact ⟨_, _, rfl⟩
    · cases h
  · cases h
end
noncomputable def SOk (C : Addr) (P : Params) (news : List (Addr × Obj)) (q : Int) (m : Str → Option Value) (S : List (Str × Int)) : Prop :=
  ∀ nm v, S.lookup nm = some v → Rg q v ∧ ∃ x, m nm = some (.ref x) ∧ FqM C P news q x v
theorem SOk.mono {C : Addr} {P : Params} {news news' : List (Addr × Obj)} {q : Int} {m : Str → Option Value} {S : List (Str × Int)} (h : SOk C P news q m S) (s : ∀ e ∈ news, e ∈ news') : SOk C P news' q m S := fun nm v e =>
  let ⟨r, x, hx, f⟩ := h nm v e
  ⟨r, x, hx, f.mono s⟩
noncomputable def Loc (cs : Scope) (S : List (Str × Int)) : Prop := ∀ nm v, S.lookup nm = some v → cs.names.lookup nm = some .local ∧ (nm == ("__debug__" : Str)) = false
section
variable {w : World} {p : Program} {loose : List Str} {mean : ExcName → Option Value} {mg mb : Str → Option Value} {dp un : Nat} {gd : Option (List Code)} {cn : Str} {cs : Scope} {a : Addr} {ccd : Value} {cl : List (Str × Addr)} {outer : List Env} {A₀ : Around} {base h₀ : Heap} {L : Addr} {E : Value → Shared → Prop}
  {C : Addr} {q : Int} {ad : Bool} {S : List (Str × Int)}
theorem fval_ok (O : FOps w C q ad) (B : Below A₀ base outer h₀) (X : (kk.heap_1 w.params).In h₀) (T : Top p loose mean mg mb h₀) (hk : cs.kind = .function) (hd : dp + 12 < recursionLimit) (hu : un + 96 < cLine) (hl : Loc cs S) {m : Str → Option Value} :
    ∀ (f : Nat) (e : Expr) (n : Int) (news : List (Addr × Obj)) (s : Shared) (Q : Value → Shared → Prop), fval ad q S f e = some n → Fr h₀ L s.heap m → News h₀ L s.heap news → SOk C w.params news q m S →
      (∀ (x : Addr) (news' : List (Addr × Obj)) (h' : Heap) (tk' : Nat), Fr h₀ L h' m → News h₀ L h' news' → (∀ e ∈ news, e ∈ news') → FqM C w.params news' q x n → Rg q n → Q (.ref x) { s with heap := h', toks := tk' }) →
      wpAny (model PySem.Challenge.pw_lh0034_01 w) (ktrTop dp un gd cn cs L a ccd cl outer) (eval e (envX cn cs L a ccd cl)) Q E s := by
  intro f
  induction f with
  | zero => intro e n news s Q h; unfold fval at h; cases h
  | succ f ih =>
    intro e n news s Q h F N hS ret
    have two : ∀ (l r : Expr) (op : Operator) (ps : Pos) (g : Int → Int → Int), ((fval ad q S f l).bind fun v => (fval ad q S f r).map fun u => g v u) = some n →
        (∀ {news : List (Addr × Obj)} {x y : Addr} {n1 n2 : Int}, FqM C w.params news q x n1 → FqM C w.params news q y n2 → Rg q n1 → Rg q n2 → Makes w C q news (binaryOp op (.ref x) (.ref y)) (g n1 n2)) →
        wpAny (model PySem.Challenge.pw_lh0034_01 w) (ktrTop dp un gd cn cs L a ccd cl outer) (eval (.BinOp l op r ps) (envX cn cs L a ccd cl)) Q E s := by
      intro l r op ps g h K
      cases hl1 : fval ad q S f l with
      | none => rw [hl1] at h; cases h
      | some v =>
        cases hr1 : fval ad q S f r with
        | none => rw [hl1, hr1] at h; cases h
        | some u =>
          rw [hl1, hr1] at h
          obtain rfl : g v u = n := Option.some.inj h
          refine wpAny_BinOp (ih l v news s _ hl1 F N hS fun x news1 h1 tk1 F1 N1 s1 f1 r1 => ?_)
          refine ih r u news1 _ _ hr1 F1 N1 (hS.mono s1) fun y news2 h2 tk2 F2 N2 s2 f2 r2 => ?_
          exact K (f1.mono s2) f2 r1 r2 _ _ _ _ _ _ _ _ _ _ _ _ _ _ _ _ _ _ _ _ _ _ B F2 X N2 T hk hd hu fun z news3 h3 tk3 F3 N3 s3 f3 r3 => ret z news3 h3 tk3 F3 N3 (fun e he => s3 e (s2 e (s1 e he))) f3 r3
    have pow : ∀ (l : Expr) (k : Int) (kn : Nat) (kp ps : Pos) (g : Int → Int), (fval ad q S f l).map g = some n →
        (∀ {news : List (Addr × Obj)} {x : Addr} {n1 : Int} {tv : Tok}, FqM C w.params news q x n1 → Rg q n1 → Makes w C q news (binaryOp .Pow (.ref x) (.int k tv)) (g n1)) →
        wpAny (model PySem.Challenge.pw_lh0034_01 w) (ktrTop dp un gd cn cs L a ccd cl outer) (eval (.BinOp l .Pow (.Constant (.int k) kn kp) ps) (envX cn cs L a ccd cl)) Q E s := by
      intro l k kn kp ps g h K
      cases hl1 : fval ad q S f l with
      | none => rw [hl1] at h; cases h
      | some v =>
        rw [hl1] at h
        obtain rfl : g v = n := Option.some.inj h
        refine wpAny_BinOp (ih l v news s _ hl1 F N hS fun x news1 h1 tk1 F1 N1 s1 f1 r1 => ?_)
        refine wpAny_Constant_int ?_
        exact K f1 r1 _ _ _ _ _ _ _ _ _ _ _ _ _ _ _ _ _ _ _ _ _ _ B F1 X N1 T hk hd hu fun z news3 h3 tk3 F3 N3 s3 f3 r3 => ret z news3 h3 tk3 F3 N3 (fun e he => s3 e (s1 e he)) f3 r3
    unfold fval at h
    split at h
    · obtain ⟨r, x, hx, fx⟩ := hS _ _ h
      obtain ⟨h1, h2⟩ := hl _ _ h
      exact nameX_L F hx (ret x news s.heap s.toks F N (fun _ h => h) fx r) hk h1 h2
    · rename_i l op r ps
      split at h
      · split at h
        · rename_i k hk9
          obtain ⟨kn, kp, rfl⟩ := konst_of hk9
          split at h
          · rename_i hkk
            cases hr1 : fval ad q S f r with
            | none => rw [hr1] at h; cases h
            | some u =>
              rw [hr1] at h
              obtain rfl : mF q u k = n := Option.some.inj h
              refine wpAny_BinOp (wpAny_Constant_int ?_)
              refine ih r u news _ _ hr1 F N hS fun y news2 h2 tk2 F2 N2 s2 f2 r2 => ?_
              exact O.kmul f2 r2 hkk _ _ _ _ _ _ _ _ _ _ _ _ _ _ _ _ _ _ _ _ _ _ B F2 X N2 T hk hd hu fun z news3 h3 tk3 F3 N3 s3 f3 r3 => ret z news3 h3 tk3 F3 N3 (fun e he => s3 e (s2 e he)) f3 r3
          · cases h
        · exact two _ _ _ _ (fun v u => mF q v u) h (fun f g r t => O.mul f g r t)
      · split at h
        · rename_i k hk9
          obtain ⟨kn, kp, rfl⟩ := konst_of hk9
          split at h
          · rename_i hkk; subst hkk
            exact pow _ 2 _ _ _ (fun v => mF q v v) h (fun f r => O.pow2 f r)
          · split at h
            · rename_i hkk
              obtain ⟨rfl, had⟩ := hkk
              exact pow _ 3 _ _ _ (fun v => mF q (mF q v v) v) h (fun f r => O.pow3 had f r)
            · cases h
        · cases h
      · exact two _ _ _ _ (fun v u => sF q v u) h (fun f g r t => O.sub f g r t)
      · split at h
        · rename_i had
          exact two _ _ _ _ (fun v u => aF q v u) h (fun f g r t => O.add had f g r t)
        · cases h
      · exact two _ _ _ _ (fun v u => dF q v u) h (fun f g r t => O.div f g r t)
      · cases h
    · rename_i op r ps
      split at h
      · cases hr1 : fval ad q S f r with
        | none => rw [hr1] at h; cases h
        | some u =>
          rw [hr1] at h
          obtain rfl : nF q u = n := Option.some.inj h
          refine wpAny_UnaryOp ?_
          refine ih r u news _ _ hr1 F N hS fun y news2 h2 tk2 F2 N2 s2 f2 r2 => ?_
          exact O.neg f2 r2 _ _ _ _ _ _ _ _ _ _ _ _ _ _ _ _ _ _ _ _ _ _ B F2 X N2 T hk hd hu fun z news3 h3 tk3 F3 N3 s3 f3 r3 => ret z news3 h3 tk3 F3 N3 (fun e he => s3 e (s2 e he)) f3 r3
      · cases h
    · cases h

theorem fval_star {f : Nat} {e : Expr} {n : Int} {env : Env} {rest : List Expr} (h : fval ad q S f e = some n) : starEach (e :: rest) env = (false, eval e env) :: starEach rest env := by
  cases f with
  | zero => unfold fval at h; cases h
  | succ f =>
    cases e with
    | Starred => unfold fval at h; cases h
    | _ => rfl
noncomputable def fvals (ad : Bool) (q : Int) (S : List (Str × Int)) : List Expr → Option (List Int)
  | [] => some []
  | e :: r => (fval ad q S 30 e).bind fun v => (fvals ad q S r).map fun vs => v :: vs
noncomputable def AllFq (C : Addr) (P : Params) (news : List (Addr × Obj)) (q : Int) : List Addr → List Int → Prop
  | [], [] => True
  | x :: xs, v :: vs => (FqM C P news q x v ∧ Rg q v) ∧ AllFq C P news q xs vs
  | _, _ => False
theorem fall_ok (O : FOps w C q ad) (B : Below A₀ base outer h₀) (X : (kk.heap_1 w.params).In h₀) (T : Top p loose mean mg mb h₀) (hk : cs.kind = .function) (hd : dp + 12 < recursionLimit) (hu : un + 96 < cLine) (hl : Loc cs S) {m : Str → Option Value} {pos : Pos} :
    ∀ (es : List Expr) (vs : List Int) (news : List (Addr × Obj)) (s : Shared) (Q : List Value → Shared → Prop), fvals ad q S es = some vs → Fr h₀ L s.heap m → News h₀ L s.heap news → SOk C w.params news q m S →
      (∀ (xs : List Addr) (news' : List (Addr × Obj)) (h' : Heap) (tk' : Nat), Fr h₀ L h' m → News h₀ L h' news' → (∀ e ∈ news, e ∈ news') → AllFq C w.params news' q xs vs → Q (xs.map Value.ref) { s with heap := h', toks := tk' }) →
      wpAny (model PySem.Challenge.pw_lh0034_01 w) (ktrTop dp un gd cn cs L a ccd cl outer) (spliced (backTo pos (starEach es (envX cn cs L a ccd cl)))) Q E s := by
  intro es
  induction es with
  | nil =>
    intro vs news s Q h F N hS ret
    obtain rfl : [] = vs := Option.some.inj h
    exact args_nil (ret [] news s.heap s.toks F N (fun _ h => h) trivial)
  | cons e es ih =>
    intro vs news s Q h F N hS ret
    unfold fvals at h
    cases h1 : fval ad q S 30 e with
    | none => rw [h1] at h; cases h
    | some v =>
      cases h2 : fvals ad q S es with
      | none => rw [h1, h2] at h; cases h
      | some us =>
        rw [h1, h2] at h
        obtain rfl : v :: us = vs := Option.some.inj h
        refine args_cons (fval_ok O B X T hk hd hu hl 30 e v news s _ h1 F N hS fun x news1 h1' tk1 F1 N1 s1 f1 r1 => ?_) (fval_star h1)
        refine ih us news1 _ _ h2 F1 N1 (hS.mono s1) fun xs news2 h2' tk2 F2 N2 s2 a2 => ?_
        exact ret (x :: xs) news2 h2' tk2 F2 N2 (fun e he => s2 e (s1 e he)) ⟨⟨f1.mono s2, r1⟩, a2⟩
theorem ftuple_ok (O : FOps w C q ad) (B : Below A₀ base outer h₀) {s : Shared} {m : Str → Option Value} (F : Fr h₀ L s.heap m) (X : (kk.heap_1 w.params).In h₀) {news : List (Addr × Obj)} (N : News h₀ L s.heap news) (T : Top p loose mean mg mb h₀) (hk : cs.kind = .function) (hd : dp + 12 < recursionLimit) (hu : un + 96 < cLine) (hl : Loc cs S) {pos : Pos} {k : Nat}
    {es : List Expr} {vs : List Int} {Q : Value → Shared → Prop} (hS : SOk C w.params news q m S) (h : fvals ad q S es = some vs) (hz : es.length ≤ 16)
      (ret : ∀ (r : Addr) (xs : List Addr) (news' : List (Addr × Obj)) (h' : Heap) (tk' : Nat), Fr h₀ L h' m → News h₀ L h' ((r, { cls := .type "tuple", data := .seq (xs.map Value.ref).toArray }) :: news') → (∀ e ∈ news, e ∈ news') → AllFq C w.params news' q xs vs → Q (.ref r) { s with heap := h', toks := tk' }) :
      wpAny (model PySem.Challenge.pw_lh0034_01 w) (ktrTop dp un gd cn cs L a ccd cl outer) (eval (.Tuple es k pos) (envX cn cs L a ccd cl)) Q E s := by
  refine Tuple_ (fall_ok O B X T hk hd hu hl es vs news s _ h F N hS fun xs news1 h1 tk1 F1 N1 s1 a1 => ?_)
  have len : ∀ (es : List Expr) (vs : List Int), fvals ad q S es = some vs → vs.length = es.length := by
    intro es
    induction es with
    | nil => intro vs h; cases h; rfl
    | cons e es ih =>
      intro vs h
      unfold fvals at h
      cases h1 : fval ad q S 30 e with
      | none => rw [h1] at h; cases h
      | some v =>
        cases h2 : fvals ad q S es with
        | none => rw [h1, h2] at h; cases h
        | some us =>
          rw [h1, h2] at h
          obtain rfl : v :: us = vs := Option.some.inj h
          simp [ih us h2]
  have len2 : ∀ (xs : List Addr) (vs : List Int), AllFq C w.params news1 q xs vs → xs.length = vs.length := by
    intro xs
    induction xs with
    | nil => intro vs h; cases vs <;> first | rfl | exact h.elim
    | cons x xs ih =>
      intro vs h
      cases vs with
      | nil => exact h.elim
      | cons v vs => simp [ih vs h.2]
  refine newTuple_N F1 N1 (fun h2 F2 N2 => ret _ xs news1 h2 tk1 F2 N2 s1 a1) ?_
  rw [List.length_map, len2 xs vs a1, len es vs h]
  exact Nat.le_trans hz (by decide)
theorem fcmp_ok (O : FOps w C q ad) (B : Below A₀ base outer h₀) {s : Shared} {m : Str → Option Value} (F : Fr h₀ L s.heap m) (X : (kk.heap_1 w.params).In h₀) {news : List (Addr × Obj)} (N : News h₀ L s.heap news) (T : Top p loose mean mg mb h₀) (hk : cs.kind = .function) (hd : dp + 12 < recursionLimit) (hu : un + 96 < cLine) (hl : Loc cs S)
    {l r : Expr} {v u : Int} {Q : Value → Shared → Prop} (hS : SOk C w.params news q m S) (h1 : fval ad q S 30 l = some v) (h2 : fval ad q S 30 r = some u)
      (ret : ∀ (news' : List (Addr × Obj)) (h' : Heap) (tk' : Nat), Fr h₀ L h' m → News h₀ L h' news' → (∀ e ∈ news, e ∈ news') → SOk C w.params news' q m S → Q (.bool (decide (v = u))) { s with heap := h', toks := tk' }) :
      wpAny (model PySem.Challenge.pw_lh0034_01 w) (ktrTop dp un gd cn cs L a ccd cl outer) (eval l (envX cn cs L a ccd cl)) (fun x s₁ => wpAny (model PySem.Challenge.pw_lh0034_01 w) (ktrTop dp un gd cn cs L a ccd cl outer) (eval r (envX cn cs L a ccd cl)) (fun y s₂ => wpAny (model PySem.Challenge.pw_lh0034_01 w) (ktrTop dp un gd cn cs L a ccd cl outer) (compareOp .Eq x y) Q E s₂) E s₁) E s := by
  refine fval_ok O B X T hk hd hu hl 30 l v news s _ h1 F N hS fun x news1 h1' tk1 F1 N1 s1 f1 r1 => ?_
  refine fval_ok O B X T hk hd hu hl 30 r u news1 _ _ h2 F1 N1 (hS.mono s1) fun y news2 h2' tk2 F2 N2 s2 f2 r2 => ?_
  exact O.eqv (f1.mono s2) f2 _ _ _ _ _ _ _ _ _ _ _ _ _ _ _ _ _ _ _ _ _ _ B F2 X N2 T hk hd hu fun h3 tk3 F3 N3 => ret news2 h3 tk3 F3 N3 (fun e he => s2 e (s1 e he)) (hS.mono fun e he => s2 e (s1 e he))
noncomputable def isB : Expr → Bool
  | .BinOp .. => true
  | _ => false
theorem noSwap {e : Expr} {t : Option Expr} {n : Nat} {env : Env} (h : isB e = true) : swapsWith e t n env = pure false := by
  cases e with
  | BinOp => rfl
  | _ => cases h
noncomputable def frun (ad : Bool) (q : Int) (nms : List (Str × NameKind)) : Nat → List Stmt → List (Str × Int) → List (Str × Int) × List Stmt
  | 0, b, S => (S, b)
  | f + 1, b, S => match b with
    | .Assign [.Name x _] e _ :: rest => match isB e && (nms.lookup x == some .local && !(x == ("__debug__" : Str))), fval ad q S 30 e with
      | true, some v => frun ad q nms f rest ((x, v) :: S)
      | _, _ => (S, b)
    | _ => (S, b)
theorem lk_none {x nm : Str} {v : Int} {S : List (Str × Int)} (h : ((x, v) :: S).lookup nm = none) : nm ≠ x ∧ S.lookup nm = none := by
  rw [List.lookup_cons] at h
  cases hb : nm == x with
  | true => rw [hb] at h; cases h
  | false => rw [hb] at h; exact ⟨fun e => by rw [e] at hb; simp at hb, h⟩
theorem frun_ok (O : FOps w C q ad) (B : Below A₀ base outer h₀) (X : (kk.heap_1 w.params).In h₀) (T : Top p loose mean mg mb h₀) (hk : cs.kind = .function) (hd : dp + 12 < recursionLimit) (hu : un + 96 < cLine) {E : Value → Shared → Prop} {Q : Flow → Shared → Prop} :
    ∀ (f : Nat) (b : List Stmt) (S : List (Str × Int)) (m : Str → Option Value) (news : List (Addr × Obj)) (s : Shared), Loc cs S → Fr h₀ L s.heap m → News h₀ L s.heap news → SOk C w.params news q m S →
      (∀ (m' : Str → Option Value) (news' : List (Addr × Obj)) (h' : Heap) (tk' : Nat), Fr h₀ L h' m' → News h₀ L h' news' → (∀ e ∈ news, e ∈ news') → SOk C w.params news' q m' (frun ad q cs.names f b S).1 → Loc cs (frun ad q cs.names f b S).1 → (∀ nm, (frun ad q cs.names f b S).1.lookup nm = none → m' nm = m nm) →
        wpAny (model PySem.Challenge.pw_lh0034_01 w) (ktrTop dp un gd cn cs L a ccd cl outer) (execs (frun ad q cs.names f b S).2 (envX cn cs L a ccd cl)) Q E { s with heap := h', toks := tk' }) →
      wpAny (model PySem.Challenge.pw_lh0034_01 w) (ktrTop dp un gd cn cs L a ccd cl outer) (execs b (envX cn cs L a ccd cl)) Q E s := by
  intro f
  induction f with
  | zero => intro b S m news s hl F N hS ret; exact ret m news s.heap s.toks F N (fun _ h => h) hS hl fun _ _ => rfl
  | succ f ih =>
    intro b S m news s hl F N hS ret
    have stop : (frun ad q cs.names (f + 1) b S) = (S, b) → wpAny (model PySem.Challenge.pw_lh0034_01 w) (ktrTop dp un gd cn cs L a ccd cl outer) (execs b (envX cn cs L a ccd cl)) Q E s := fun e => by
      rw [e] at ret
      exact ret m news s.heap s.toks F N (fun _ h => h) hS hl fun _ _ => rfl
    unfold frun at stop ret
    split at ret
    · rename_i x xp e ps rest
      cases hc : isB e && (cs.names.lookup x == some .local && !(x == ("__debug__" : Str))) with
      | false => simp only [hc] at stop; exact stop trivial
      | true =>
        cases hv : fval ad q S 30 e with
        | none => simp only [hc, hv] at stop; exact stop trivial
        | some v =>
          simp only [hc, hv] at ret
          simp only [Bool.and_eq_true, Bool.not_eq_true'] at hc
          obtain ⟨hb, h1, h2⟩ := hc
          have h1' : cs.names.lookup x = some .local := by simpa using h1
          refine wpAny_execs_cons (wpAny_Assign_Name (fval_ok O B X T hk hd hu hl 30 e v news s _ hv F N hS fun z news1 h1 tk1 F1 N1 s1 f1 r1 => ?_) (noSwap hb))
          refine storeX_L F1 N1 (fun h2' F2 N2 => ?_) hk h1'
          refine ih rest ((x, v) :: S) _ news1 _ ?_ F2 N2 ?_ ?_
          · intro nm u hn
            rw [List.lookup_cons] at hn
            cases hb : nm == x with
            | true => have e : nm = x := by simpa using hb
                      rw [e]; exact ⟨h1', h2⟩
            | false => rw [hb] at hn; exact hl _ _ hn
          · intro nm u hn
            rw [List.lookup_cons] at hn
            cases hb : nm == x with
            | true =>
              rw [hb] at hn
              obtain rfl := Option.some.inj hn
              exact ⟨r1, z, if_pos (by simpa using hb), f1⟩
            | false =>
              rw [hb] at hn
              obtain ⟨r, y, hy, fy⟩ := hS _ _ hn
              refine ⟨r, y, ?_, fy.mono s1⟩
              show (if nm = x then _ else _) = _
              rw [if_neg (fun e => by rw [e] at hb; simp at hb)]; exact hy
          · intro m' news' h' tk' F' N' s' hS' hl' hm'
            refine ret m' news' h' tk' F' N' (fun e he => s' e (s1 e he)) hS' hl' fun nm hn => ?_
            rw [hm' nm hn]
            have sup : ∀ (f : Nat) (b : List Stmt) (S : List (Str × Int)), (frun ad q cs.names f b S).1.lookup nm = none → S.lookup nm = none := by
              intro f
              induction f with
              | zero => intro b S h; exact h
              | succ f ih2 =>
                intro b S h
                unfold frun at h
                split at h
                · split at h
                  · exact (lk_none (ih2 _ _ h)).2
                  · exact h
                · exact h
            exact if_neg (lk_none (sup _ _ _ hn)).1
    · rename_i hne
      refine stop ?_
      split
      · rename_i x xp e ps rest
        exact absurd rfl (hne _ _ _ _ _)
      · rfl
theorem frun_go (k : Nat) (S' : List (Str × Int)) (O : FOps w C q ad) (B : Below A₀ base outer h₀) {s : Shared} {m : Str → Option Value} (F : Fr h₀ L s.heap m) (X : (kk.heap_1 w.params).In h₀) {news : List (Addr × Obj)} (N : News h₀ L s.heap news) (T : Top p loose mean mg mb h₀) (hk : cs.kind = .function) (hd : dp + 12 < recursionLimit) (hu : un + 96 < cLine) {E : Value → Shared → Prop} {Q : Flow → Shared → Prop}
    {b : List Stmt} (hl : Loc cs S) (hS : SOk C w.params news q m S) (e : frun ad q cs.names 30 b S = (S', b.drop k))
      (ret : ∀ (m' : Str → Option Value) (news' : List (Addr × Obj)) (h' : Heap) (tk' : Nat), Fr h₀ L h' m' → News h₀ L h' news' → (∀ e ∈ news, e ∈ news') → SOk C w.params news' q m' S' → Loc cs S' → (∀ nm, S'.lookup nm = none → m' nm = m nm) →
        wpAny (model PySem.Challenge.pw_lh0034_01 w) (ktrTop dp un gd cn cs L a ccd cl outer) (execs (b.drop k) (envX cn cs L a ccd cl)) Q E { s with heap := h', toks := tk' }) :
      wpAny (model PySem.Challenge.pw_lh0034_01 w) (ktrTop dp un gd cn cs L a ccd cl outer) (execs b (envX cn cs L a ccd cl)) Q E s :=
  frun_ok O B X T hk hd hu 30 b S m news s hl F N hS (by rw [e]; exact ret)
end
theorem Loc.of {cs : Scope} {S : List (Str × Int)} (ns : List Str) (e : S.map (·.1) = ns) (h : (ns.all fun nm => cs.names.lookup nm == some .local && !(nm == ("__debug__" : Str))) = true) : Loc cs S := by
  intro nm v hn
  have hm : nm ∈ ns := by
    rw [← e]
    clear h e
    induction S with
    | nil => cases hn
    | cons x r ih =>
      rw [List.lookup_cons] at hn
      cases hb : nm == x.1 with
      | true => exact List.mem_map.mpr ⟨x, .head _, (by simpa using hb : nm = x.1).symm⟩
      | false => rw [hb] at hn; exact List.mem_cons.mpr (.inr (ih hn))
  have := List.all_eq_true.mp h nm hm
  simp only [Bool.and_eq_true, Bool.not_eq_true'] at this
  exact ⟨by simpa using this.1, this.2⟩
theorem SOk.nil {C : Addr} {P : Params} {news : List (Addr × Obj)} {q : Int} {m : Str → Option Value} : SOk C P news q m [] := fun _ _ h => nomatch h
theorem SOk.cons {C : Addr} {P : Params} {news : List (Addr × Obj)} {q : Int} {m : Str → Option Value} {S : List (Str × Int)} {nm : Str} {v : Int} {x : Addr} (hm : m nm = some (.ref x)) (f : FqM C P news q x v) (r : Rg q v) (h : SOk C P news q m S) : SOk C P news q m ((nm, v) :: S) := by
  intro n u hn
  rw [List.lookup_cons] at hn
  cases hb : n == nm with
  | true => rw [hb] at hn; obtain rfl := Option.some.inj hn; exact ⟨r, x, by rw [(by simpa using hb : n = nm)]; exact hm, f⟩
  | false => rw [hb] at hn; exact h _ _ hn
noncomputable def JacM (C : Addr) (P : Params) (news : List (Addr × Obj)) (q : Int) (v : Addr) (t : Tr) : Prop := ∃ (n : Nat) (x y z : Addr), (v, ({ cls := .type "tuple", data := .seq #[.ref x, .ref y, .ref z] n } : Obj)) ∈ news ∧ FqM C P news q x t.1 ∧ FqM C P news q y t.2.1 ∧ FqM C P news q z t.2.2
theorem JacM.mono {C : Addr} {P : Params} {news news' : List (Addr × Obj)} {q : Int} {v : Addr} {t : Tr} (h : JacM C P news q v t) (s : ∀ e ∈ news, e ∈ news') : JacM C P news' q v t := by
  obtain ⟨n, x, y, z, h0, h1, h2, h3⟩ := h
  exact ⟨n, x, y, z, s _ h0, h1.mono s, h2.mono s, h3.mono s⟩
noncomputable def RgT (q : Int) (t : Tr) : Prop := Rg q t.1 ∧ Rg q t.2.1 ∧ Rg q t.2.2
theorem jac_all {C : Addr} {P : Params} {news : List (Addr × Obj)} {q : Int} {r : Addr} {xs : List Addr} {a b c : Int} (h : AllFq C P news q xs [a, b, c]) :
    JacM C P ((r, { cls := .type "tuple", data := .seq (xs.map Value.ref).toArray }) :: news) q r (a, b, c) ∧ RgT q (a, b, c) := by
  match xs, h with
  | [x, y, z], h =>
    obtain ⟨⟨h1, r1⟩, ⟨h2, r2⟩, ⟨h3, r3⟩, _⟩ := h
    exact ⟨⟨_, x, y, z, .head _, h1.mono (fun _ h => .tail _ h), h2.mono (fun _ h => .tail _ h), h3.mono (fun _ h => .tail _ h)⟩, r1, r2, r3⟩
theorem add7 {h₀ h : Heap} {L : Addr} {news : List (Addr × Obj)} {e1 e2 e3 e4 e5 e6 e7 : Addr × Obj} (N : News h₀ L h news) (m1 : e1 ∈ news) (m2 : e2 ∈ news) (m3 : e3 ∈ news) (m4 : e4 ∈ news) (m5 : e5 ∈ news) (m6 : e6 ∈ news) (m7 : e7 ∈ news) : News h₀ L h (e1 :: e2 :: e3 :: e4 :: e5 :: e6 :: e7 :: news) := by
  intro p hp
  simp only [List.mem_cons] at hp
  rcases hp with h | h | h | h | h | h | h | h
  · exact h ▸ N _ m1
  · exact h ▸ N _ m2
  · exact h ▸ N _ m3
  · exact h ▸ N _ m4
  · exact h ▸ N _ m5
  · exact h ▸ N _ m6
  · exact h ▸ N _ m7
  · exact N _ h
theorem sub7 {news : List (Addr × Obj)} {e1 e2 e3 e4 e5 e6 e7 : Addr × Obj} : ∀ e ∈ news, e ∈ e1 :: e2 :: e3 :: e4 :: e5 :: e6 :: e7 :: news := fun _ h => .tail _ (.tail _ (.tail _ (.tail _ (.tail _ (.tail _ (.tail _ h))))))
theorem addT_a {q : Int} {t u : Tr} (h : t.2.2 = 0) (h' : u.2.2 = 0) : addT q t u = t := by unfold addT; rw [if_pos (.inl h), if_pos h']
theorem addT_b {q : Int} {t u : Tr} (h : t.2.2 = 0) (h' : ¬ u.2.2 = 0) : addT q t u = u := by unfold addT; rw [if_pos (.inl h), if_neg h']
theorem addT_c {q : Int} {t u : Tr} (h' : u.2.2 = 0) : addT q t u = t := by unfold addT; rw [if_pos (.inr h'), if_pos h']
theorem addT_d {q : Int} {t u : Tr} (h : ¬ t.2.2 = 0) (h' : ¬ u.2.2 = 0) (hv : mF q u.1 t.2.2 = mF q t.1 u.2.2) (hu : mF q u.2.1 t.2.2 = mF q t.2.1 u.2.2) : addT q t u = dblT q t := by
  unfold addT; rw [if_neg (fun x => x.elim h h')]; simp only [hv, hu, and_self, if_true]
theorem addT_e {q : Int} {t u : Tr} (h : ¬ t.2.2 = 0) (h' : ¬ u.2.2 = 0) (hv : mF q u.1 t.2.2 = mF q t.1 u.2.2) (hu : ¬ mF q u.2.1 t.2.2 = mF q t.2.1 u.2.2) : addT q t u = (1, 1, 0) := by
  unfold addT; rw [if_neg (fun x => x.elim h h')]; simp only [hv, hu, and_false, if_false, if_true]
noncomputable def addF (q : Int) (t u : Tr) : Tr :=
  let U1 := mF q u.2.1 t.2.2
  let U2 := mF q t.2.1 u.2.2
  let V1 := mF q u.1 t.2.2
  let V2 := mF q t.1 u.2.2
  let U := sF q U1 U2
  let V := sF q V1 V2
  let Vq := mF q V V
  let VV2 := mF q Vq V2
  let Vc := mF q V Vq
  let W := mF q t.2.2 u.2.2
  let A := sF q (sF q (mF q (mF q U U) W) Vc) (mF q VV2 2)
  (mF q V A, sF q (mF q U (sF q VV2 A)) (mF q Vc U2), mF q Vc W)
theorem addT_f {q : Int} {t u : Tr} (h : ¬ t.2.2 = 0) (h' : ¬ u.2.2 = 0) (hv : ¬ mF q u.1 t.2.2 = mF q t.1 u.2.2) : addT q t u = addF q t u := by
  unfold addT addF; rw [if_neg (fun x => x.elim h h')]; simp only [hv, false_and, if_false]
noncomputable def PairM (C : Addr) (P : Params) (news : List (Addr × Obj)) (q : Int) (v : Addr) (a : Int × Int) : Prop := ∃ (n : Nat) (x y : Addr), (v, ({ cls := .type "tuple", data := .seq #[.ref x, .ref y] n } : Obj)) ∈ news ∧ FqM C P news q x a.1 ∧ FqM C P news q y a.2
theorem PairM.mono {C : Addr} {P : Params} {news news' : List (Addr × Obj)} {q : Int} {v : Addr} {t : Int × Int} (h : PairM C P news q v t) (s : ∀ e ∈ news, e ∈ news') : PairM C P news' q v t := by
  obtain ⟨n, x, y, h0, h1, h2⟩ := h
  exact ⟨n, x, y, s _ h0, h1.mono s, h2.mono s⟩
theorem pair_all {C : Addr} {P : Params} {news : List (Addr × Obj)} {q : Int} {r : Addr} {xs : List Addr} {a b : Int} (h : AllFq C P news q xs [a, b]) :
    PairM C P ((r, { cls := .type "tuple", data := .seq (xs.map Value.ref).toArray }) :: news) q r (a, b) ∧ Rg q a ∧ Rg q b := by
  match xs, h with
  | [x, y], h =>
    obtain ⟨⟨h1, r1⟩, ⟨h2, r2⟩, _⟩ := h
    exact ⟨⟨_, x, y, .head _, h1.mono (fun _ h => .tail _ h), h2.mono (fun _ h => .tail _ h)⟩, r1, r2⟩
theorem eqT_a {q : Int} {t u : Tr} (h : ¬ mF q t.1 u.2.2 = mF q u.1 t.2.2) : eqT q t u = false := by unfold eqT; rw [decide_eq_false h]; rfl
theorem eqT_b {q : Int} {t u : Tr} (h : mF q t.1 u.2.2 = mF q u.1 t.2.2) : eqT q t u = decide (mF q t.2.1 u.2.2 = mF q u.2.1 t.2.2) := by unfold eqT; rw [decide_eq_true h]; rfl
theorem onT_a {q : Int} {t : Tr} {c : Int} (h : t.2.2 = 0) : onT q t c = true := if_pos h
theorem onT_b {q : Int} {t : Tr} {c : Int} (h : ¬ t.2.2 = 0) : onT q t c = decide (sF q (mF q (mF q t.2.1 t.2.1) t.2.2) (mF q (mF q t.1 t.1) t.1) = mF q c (mF q (mF q t.2.2 t.2.2) t.2.2)) := if_neg h
noncomputable def RgP (q : Int) : Pt → Prop
  | none => True
  | some a => Rg q a.1 ∧ Rg q a.2
noncomputable def PlM (P : Params) (news : List (Addr × Obj)) (q : Int) (pv : Value) : Pt → Prop
  | none => pv = .none
  | some a => ∃ v, pv = .ref v ∧ PairM 255 P news q v a
theorem PlM.mono {P : Params} {news news' : List (Addr × Obj)} {q : Int} {pv : Value} {t : Pt} (h : PlM P news q pv t) (s : ∀ e ∈ news, e ∈ news') : PlM P news' q pv t := by
  cases t with
  | none => exact h
  | some a =>
    obtain ⟨v, e, p⟩ := h
    exact ⟨v, e, p.mono s⟩
noncomputable def PlCk (q : Int) (P1 P2 : Pt) : Prop := ∀ a c, P1 = some a → P2 = some c → ¬ c.1 = a.1 →
  sF q (aF q (mF q (nF q (plM q a c)) (plX q a c)) (mF q (plM q a c) a.1)) a.2 = sF q (aF q (mF q (nF q (plM q a c)) (plX q a c)) (mF q (plM q a c) c.1)) c.2
theorem add5 {h₀ h : Heap} {L : Addr} {news : List (Addr × Obj)} {e1 e2 e3 e4 e5 : Addr × Obj} (N : News h₀ L h news) (m1 : e1 ∈ news) (m2 : e2 ∈ news) (m3 : e3 ∈ news) (m4 : e4 ∈ news) (m5 : e5 ∈ news) : News h₀ L h (e1 :: e2 :: e3 :: e4 :: e5 :: news) := by
  intro p hp
  simp only [List.mem_cons] at hp
  rcases hp with h | h | h | h | h | h
  · exact h ▸ N _ m1
  · exact h ▸ N _ m2
  · exact h ▸ N _ m3
  · exact h ▸ N _ m4
  · exact h ▸ N _ m5
  · exact N _ h
theorem sub5 {news : List (Addr × Obj)} {e1 e2 e3 e4 e5 : Addr × Obj} : ∀ e ∈ news, e ∈ e1 :: e2 :: e3 :: e4 :: e5 :: news := fun _ h => .tail _ (.tail _ (.tail _ (.tail _ (.tail _ h))))
theorem plAdd_a {q : Int} {a c : Int × Int} (h : c.1 = a.1) (h' : c.2 = a.2) : plAdd q (some a) (some c) = some (plDbl q a) := if_pos ⟨h, h'⟩
theorem plAdd_b {q : Int} {a c : Int × Int} (h : c.1 = a.1) (h' : ¬ c.2 = a.2) : plAdd q (some a) (some c) = none := (if_neg (fun x => h' x.2)).trans (if_pos h)
theorem plAdd_c {q : Int} {a c : Int × Int} (h : ¬ c.1 = a.1) : plAdd q (some a) (some c) = some (plX q a c, sF q (aF q (mF q (nF q (plM q a c)) (plX q a c)) (mF q (plM q a c) a.1)) a.2) := (if_neg (fun x => h x.1)).trans (if_neg h)

section
local macro_rules | `(tactic| walk_at "eval Name") => `(tactic| (k_here; k_dflt (refine' ld ?k1 ?k2 ?_; (case k1 => k_asm); (case k2 => assumption); k_whole)))

set_option maxRecDepth 100000 in
set_option maxHeartbeats 0 in
theorem dbl2 {q : Int} {v : Addr} {t : Tr}
    (B : Below A₀ base outer h₀) (F : Fr h₀ L s.heap m) (X : (kk.heap_1 w.params).In h₀) (N : News h₀ L s.heap news) (T : Top p loose mean mg mb h₀) (hk : cs.kind = .function)
    (hd : dp + 14 < recursionLimit) (hu : un + 112 < cLine) (hp : Pr q) (J : JacM 417 w.params news q v t) (I : RgT q t) (hret : ∀ (r : Addr) (news' : List (Addr × Obj)) (h' : Heap) (tk' : Nat), Fr h₀ L h' m → News h₀ L h' news' → (∀ e ∈ news, e ∈ news') → JacM 417 w.params news' q r (dblT q t) → RgT q (dblT q t) → Q (.ref r) { s with heap := h', toks := tk' }) :
    wpAny (model PySem.Challenge.pw_lh0034_01 w) (ktrTop dp un gd cn cs L a ccd cl outer) (call (.ref 442) [.ref v]) Q E s := by
  have hq : 0 < q ∧ q ≤ 127 := ⟨hp.pos, hp.hi⟩
  obtain ⟨n, x, y, z, j0, f1, f2, f3⟩ := J
  obtain ⟨X0, Y0, Z0⟩ := t
  obtain ⟨b1, b2, b3⟩ := I
  dsimp only at b1 b2 b3 f1 f2 f3
  have N := addE N j0
  refine wpAny_call ?_
  k_dflt ktr_enter
  repeat' ((fail_if_success (with_reducible show wpAny _ _ (execs (Stmt.Assign [Expr.Name _ _] (Expr.BinOp _ _ _ _) _ :: _) _) _ _ _)); first | (k_unfold; (try dsimp only)) | (k_end; wrow_close) | walk1 | (dsimp only; walk1) | fail "no step")
  dsimp only
  refine frun_go (S := [("x", X0), ("y", Y0), ("z", Z0)]) 8 [("newz", (mF q (mF q (mF q Y0 Z0) 8) (mF q (mF q Y0 Z0) (mF q Y0 Z0)))), ("newy", (sF q (mF q (mF q (mF q X0 3) X0) (sF q (mF q (mF q (mF q X0 Y0) (mF q Y0 Z0)) 4) (sF q (mF q (mF q (mF q X0 3) X0) (mF q (mF q X0 3) X0)) (mF q (mF q (mF q X0 Y0) (mF q Y0 Z0)) 8)))) (mF q (mF q (mF q Y0 8) Y0) (mF q (mF q Y0 Z0) (mF q Y0 Z0))))), ("newx", (mF q (mF q (sF q (mF q (mF q (mF q X0 3) X0) (mF q (mF q X0 3) X0)) (mF q (mF q (mF q X0 Y0) (mF q Y0 Z0)) 8)) 2) (mF q Y0 Z0))), ("S_squared", (mF q (mF q Y0 Z0) (mF q Y0 Z0))), ("H", (sF q (mF q (mF q (mF q X0 3) X0) (mF q (mF q X0 3) X0)) (mF q (mF q (mF q X0 Y0) (mF q Y0 Z0)) 8))), ("B", (mF q (mF q X0 Y0) (mF q Y0 Z0))), ("S", (mF q Y0 Z0)), ("W", (mF q (mF q X0 3) X0)), ("x", X0), ("y", Y0), ("z", Z0)] (fops2 hp) (by k_asm) (by k_asm) (by k_asm) (by k_asm) (by k_asm) (by first | exact rfl | assumption) (by ktr_room) (by ktr_units) (Loc.of ["x", "y", "z"] rfl (by decide +kernel)) (SOk.cons (by exact rfl) (f1.mono (fun _ h => .tail _ h)) b1 (SOk.cons (by exact rfl) (f2.mono (fun _ h => .tail _ h)) b2 (SOk.cons (by exact rfl) (f3.mono (fun _ h => .tail _ h)) b3 SOk.nil))) (by kernel_rfl) ?_
  intro m1 news1 h1 tk1 F1 N1 s1 S1 l1 e1
  simp only [List.drop_succ_cons, List.drop_zero]
  refine wpAny_execs_cons (wpAny_Return_some ?_)
  refine ftuple_ok (fops2 hp) (vs := [(dblT q (X0, Y0, Z0)).1, (dblT q (X0, Y0, Z0)).2.1, (dblT q (X0, Y0, Z0)).2.2]) (by k_asm) (by k_asm) (by k_asm) (by k_asm) (by k_asm) (by first | exact rfl | assumption) (by ktr_room) (by ktr_units) l1 S1 (by kernel_rfl) (by decide) ?_
  intro r xs news2 h2 tk2 F2 N2 s2 a2
  k_steps

  exact hret r _ _ _ (by k_asm) (by k_asm) (fun e he => .tail _ (s2 e (s1 e (.tail _ he)))) (jac_all (r := r) a2).1 (jac_all (r := r) a2).2

set_option maxRecDepth 100000 in
set_option maxHeartbeats 0 in
theorem dbl1 {q : Int} {v : Addr} {t : Tr}
    (B : Below A₀ base outer h₀) (F : Fr h₀ L s.heap m) (X : (kk.heap_1 w.params).In h₀) (N : News h₀ L s.heap news) (T : Top p loose mean mg mb h₀) (hk : cs.kind = .function)
    (hd : dp + 14 < recursionLimit) (hu : un + 112 < cLine) (hp : Pr q) (J : JacM 417 w.params news q v t) (I : RgT q t) (hret : ∀ (r : Addr) (news' : List (Addr × Obj)) (h' : Heap) (tk' : Nat), Fr h₀ L h' m → News h₀ L h' news' → (∀ e ∈ news, e ∈ news') → JacM 417 w.params news' q r (dblT q t) → RgT q (dblT q t) → Q (.ref r) { s with heap := h', toks := tk' }) :
    wpAny (model PySem.Challenge.pw_lh0034_01 w) (ktrTop dp un gd cn cs L a ccd cl outer) (call (.ref 42) [.ref v]) Q E s := by
  have hq : 0 < q ∧ q ≤ 127 := ⟨hp.pos, hp.hi⟩
  obtain ⟨n, x, y, z, j0, f1, f2, f3⟩ := J
  obtain ⟨X0, Y0, Z0⟩ := t
  obtain ⟨b1, b2, b3⟩ := I
  dsimp only at b1 b2 b3 f1 f2 f3
  have N := addE N j0
  refine wpAny_call ?_
  k_dflt ktr_enter
  repeat' ((fail_if_success (with_reducible show wpAny _ _ (execs (Stmt.Assign [Expr.Name _ _] (Expr.BinOp _ _ _ _) _ :: _) _) _ _ _)); first | (k_unfold; (try dsimp only)) | (k_end; wrow_close) | walk1 | (dsimp only; walk1) | fail "no step")
  dsimp only
  refine frun_go (S := [("x", X0), ("y", Y0), ("z", Z0)]) 8 [("newz", (mF q (mF q (mF q Y0 Z0) 8) (mF q (mF q Y0 Z0) (mF q Y0 Z0)))), ("newy", (sF q (mF q (mF q (mF q X0 3) X0) (sF q (mF q (mF q (mF q X0 Y0) (mF q Y0 Z0)) 4) (sF q (mF q (mF q (mF q X0 3) X0) (mF q (mF q X0 3) X0)) (mF q (mF q (mF q X0 Y0) (mF q Y0 Z0)) 8)))) (mF q (mF q (mF q Y0 8) Y0) (mF q (mF q Y0 Z0) (mF q Y0 Z0))))), ("newx", (mF q (mF q (sF q (mF q (mF q (mF q X0 3) X0) (mF q (mF q X0 3) X0)) (mF q (mF q (mF q X0 Y0) (mF q Y0 Z0)) 8)) 2) (mF q Y0 Z0))), ("S_squared", (mF q (mF q Y0 Z0) (mF q Y0 Z0))), ("H", (sF q (mF q (mF q (mF q X0 3) X0) (mF q (mF q X0 3) X0)) (mF q (mF q (mF q X0 Y0) (mF q Y0 Z0)) 8))), ("B", (mF q (mF q X0 Y0) (mF q Y0 Z0))), ("S", (mF q Y0 Z0)), ("W", (mF q (mF q X0 3) X0)), ("x", X0), ("y", Y0), ("z", Z0)] (fops2 hp) (by k_asm) (by k_asm) (by k_asm) (by k_asm) (by k_asm) (by first | exact rfl | assumption) (by ktr_room) (by ktr_units) (Loc.of ["x", "y", "z"] rfl (by decide +kernel)) (SOk.cons (by exact rfl) (f1.mono (fun _ h => .tail _ h)) b1 (SOk.cons (by exact rfl) (f2.mono (fun _ h => .tail _ h)) b2 (SOk.cons (by exact rfl) (f3.mono (fun _ h => .tail _ h)) b3 SOk.nil))) (by kernel_rfl) ?_
  intro m1 news1 h1 tk1 F1 N1 s1 S1 l1 e1
  simp only [List.drop_succ_cons, List.drop_zero]
  refine wpAny_execs_cons (wpAny_Return_some ?_)
  refine ftuple_ok (fops2 hp) (vs := [(dblT q (X0, Y0, Z0)).1, (dblT q (X0, Y0, Z0)).2.1, (dblT q (X0, Y0, Z0)).2.2]) (by k_asm) (by k_asm) (by k_asm) (by k_asm) (by k_asm) (by first | exact rfl | assumption) (by ktr_room) (by ktr_units) l1 S1 (by kernel_rfl) (by decide) ?_
  intro r xs news2 h2 tk2 F2 N2 s2 a2
  k_steps

  exact hret r _ _ _ (by k_asm) (by k_asm) (fun e he => .tail _ (s2 e (s1 e (.tail _ he)))) (jac_all (r := r) a2).1 (jac_all (r := r) a2).2

set_option maxRecDepth 100000 in
set_option maxHeartbeats 0 in
theorem cadd2 {q : Int} {v1 v2 : Addr} {t u : Tr}
    (B : Below A₀ base outer h₀) (F : Fr h₀ L s.heap m) (X : (kk.heap_1 w.params).In h₀) (N : News h₀ L s.heap news) (T : Top p loose mean mg mb h₀) (hk : cs.kind = .function)
    (hd : dp + 30 < recursionLimit) (hu : un + 240 < cLine) (hp : Pr q) (J1 : JacM 417 w.params news q v1 t) (I1 : RgT q t) (J2 : JacM 417 w.params news q v2 u) (I2 : RgT q u) (hret : ∀ (r : Addr) (news' : List (Addr × Obj)) (h' : Heap) (tk' : Nat), Fr h₀ L h' m → News h₀ L h' news' → (∀ e ∈ news, e ∈ news') → JacM 417 w.params news' q r (addT q t u) → RgT q (addT q t u) → Q (.ref r) { s with heap := h', toks := tk' }) :
    wpAny (model PySem.Challenge.pw_lh0034_01 w) (ktrTop dp un gd cn cs L a ccd cl outer) (call (.ref 449) [.ref v1, .ref v2]) Q E s := by
  have hq : 0 < q ∧ q ≤ 127 := ⟨hp.pos, hp.hi⟩
  have hq1 : 1 < q ∧ q ≤ 127 := ⟨by have := hp.lo; omega, hp.hi⟩
  have J1' := J1
  obtain ⟨n1, x1, y1, z1, j1, ⟨dx1, x11, x12, x13, x14, jx1, jdx1⟩, ⟨dy1, y11, y12, y13, y14, jy1, jdy1⟩, ⟨dz1, z11, z12, z13, z14, jz1, jdz1⟩⟩ := J1
  obtain ⟨X1, Y1, Z1⟩ := t
  have I1' := I1
  obtain ⟨bx1, by1, bz1⟩ := I1
  dsimp only at bx1 by1 bz1 jdx1 jdy1 jdz1 I1'
  have J2' := J2
  obtain ⟨n2, x2, y2, z2, j2, ⟨dx2, x21, x22, x23, x24, jx2, jdx2⟩, ⟨dy2, y21, y22, y23, y24, jy2, jdy2⟩, ⟨dz2, z21, z22, z23, z24, jz2, jdz2⟩⟩ := J2
  obtain ⟨X2, Y2, Z2⟩ := u
  have I2' := I2
  obtain ⟨bx2, by2, bz2⟩ := I2
  dsimp only at bx2 by2 bz2 jdx2 jdy2 jdz2 I2'
  have N := add7 N j2 jx2 jdx2 jy2 jdy2 jz2 jdz2
  have N := add7 N (sub7 _ j1) (sub7 _ jx1) (sub7 _ jdx1) (sub7 _ jy1) (sub7 _ jdy1) (sub7 _ jz1) (sub7 _ jdz1)
  refine wpAny_call ?_
  k_dflt ktr_enter
  repeat' ((fail_if_success (with_reducible show wpAny _ _ (execs (Stmt.Assign [Expr.Name _ _] (Expr.BinOp _ _ _ _) _ :: _) _) _ _ _)); first | (k_unfold; (try dsimp only)) | (k_end; wrow_close) | walk1 | (dsimp only; walk1) | fail "no step")
  · rw [addT_a (t := (X1, Y1, Z1)) (u := (X2, Y2, Z2)) (by assumption) (by assumption)] at hret
    exact hret v1 _ _ _ (by k_asm) (by k_asm) (fun e he => (by repeat (first | exact he | refine List.Mem.tail _ ?_))) (JacM.mono J1' (fun e he => (by repeat (first | exact he | refine List.Mem.tail _ ?_)))) I1'
  · rw [addT_b (t := (X1, Y1, Z1)) (u := (X2, Y2, Z2)) (by assumption) (by assumption)] at hret
    exact hret v2 _ _ _ (by k_asm) (by k_asm) (fun e he => (by repeat (first | exact he | refine List.Mem.tail _ ?_))) (JacM.mono J2' (fun e he => (by repeat (first | exact he | refine List.Mem.tail _ ?_)))) I2'
  · rw [addT_c (t := (X1, Y1, Z1)) (u := (X2, Y2, Z2)) (by assumption)] at hret
    exact hret v1 _ _ _ (by k_asm) (by k_asm) (fun e he => (by repeat (first | exact he | refine List.Mem.tail _ ?_))) (JacM.mono J1' (fun e he => (by repeat (first | exact he | refine List.Mem.tail _ ?_)))) I1'
  dsimp only
  refine frun_go (S := [("one", 1), ("zero", 0), ("x1", X1), ("y1", Y1), ("z1", Z1), ("x2", X2), ("y2", Y2), ("z2", Z2)]) 4 [("V2", (mF q X1 Z2)), ("V1", (mF q X2 Z1)), ("U2", (mF q Y1 Z2)), ("U1", (mF q Y2 Z1)), ("one", 1), ("zero", 0), ("x1", X1), ("y1", Y1), ("z1", Z1), ("x2", X2), ("y2", Y2), ("z2", Z2)] (fops2 hp) (by k_asm) (by k_asm) (by k_asm) (by k_asm) (by k_asm) (by first | exact rfl | assumption) (by ktr_room) (by ktr_units) (Loc.of ["one", "zero", "x1", "y1", "z1", "x2", "y2", "z2"] rfl (by decide +kernel)) (SOk.cons (by exact rfl) (⟨_, _, _, _, _, by repeat (first | exact List.Mem.head _ | refine List.Mem.tail _ ?_), by repeat (first | exact List.Mem.head _ | refine List.Mem.tail _ ?_)⟩) ⟨by omega, by omega⟩ (SOk.cons (by exact rfl) (⟨_, _, _, _, _, by repeat (first | exact List.Mem.head _ | refine List.Mem.tail _ ?_), by repeat (first | exact List.Mem.head _ | refine List.Mem.tail _ ?_)⟩) ⟨by omega, by omega⟩ (SOk.cons (by exact rfl) (⟨_, _, _, _, _, by repeat (first | exact List.Mem.head _ | refine List.Mem.tail _ ?_), by repeat (first | exact List.Mem.head _ | refine List.Mem.tail _ ?_)⟩) bx1 (SOk.cons (by exact rfl) (⟨_, _, _, _, _, by repeat (first | exact List.Mem.head _ | refine List.Mem.tail _ ?_), by repeat (first | exact List.Mem.head _ | refine List.Mem.tail _ ?_)⟩) by1 (SOk.cons (by exact rfl) (⟨_, _, _, _, _, by repeat (first | exact List.Mem.head _ | refine List.Mem.tail _ ?_), by repeat (first | exact List.Mem.head _ | refine List.Mem.tail _ ?_)⟩) bz1 (SOk.cons (by exact rfl) (⟨_, _, _, _, _, by repeat (first | exact List.Mem.head _ | refine List.Mem.tail _ ?_), by repeat (first | exact List.Mem.head _ | refine List.Mem.tail _ ?_)⟩) bx2 (SOk.cons (by exact rfl) (⟨_, _, _, _, _, by repeat (first | exact List.Mem.head _ | refine List.Mem.tail _ ?_), by repeat (first | exact List.Mem.head _ | refine List.Mem.tail _ ?_)⟩) by2 (SOk.cons (by exact rfl) (⟨_, _, _, _, _, by repeat (first | exact List.Mem.head _ | refine List.Mem.tail _ ?_), by repeat (first | exact List.Mem.head _ | refine List.Mem.tail _ ?_)⟩) bz2 SOk.nil)))))))) (by kernel_rfl) ?_
  intro m1 news1 h1 tk1 F1 N1 s1 S1 l1 e1
  simp only [List.drop_succ_cons, List.drop_zero]
  repeat' ((fail_if_success (with_reducible show wpAny _ _ (PySem.isTrue (Expr.Compare _ _ _ _) _ _) _ _ _)); first | (k_unfold; (try dsimp only)) | (k_end; wrow_close) | walk1 | (dsimp only; walk1) | fail "no step")
  refine wpAny_isTrue_Compare1 (fcmp_ok (S := [("V2", (mF q X1 Z2)), ("V1", (mF q X2 Z1)), ("U2", (mF q Y1 Z2)), ("U1", (mF q Y2 Z1)), ("one", 1), ("zero", 0), ("x1", X1), ("y1", Y1), ("z1", Z1), ("x2", X2), ("y2", Y2), ("z2", Z2)]) (v := mF q X2 Z1) (u := mF q X1 Z2) (fops2 hp) (by k_asm) (by k_asm) (by k_asm) (by k_asm) (by k_asm) (by first | exact rfl | assumption) (by ktr_room) (by ktr_units) l1 S1 (by kernel_rfl) (by kernel_rfl) ?_) rfl
  intro news2 h2 tk2 F2 N2 s2 S2
  repeat' ((fail_if_success (with_reducible show wpAny _ _ (PySem.isTrue (Expr.Compare _ _ _ _) _ _) _ _ _)); first | (k_unfold; (try dsimp only)) | (k_end; wrow_close) | walk1 | (dsimp only; walk1) | fail "no step")
  · refine wpAny_isTrue_Compare1 (fcmp_ok (S := [("V2", (mF q X1 Z2)), ("V1", (mF q X2 Z1)), ("U2", (mF q Y1 Z2)), ("U1", (mF q Y2 Z1)), ("one", 1), ("zero", 0), ("x1", X1), ("y1", Y1), ("z1", Z1), ("x2", X2), ("y2", Y2), ("z2", Z2)]) (v := mF q Y2 Z1) (u := mF q Y1 Z2) (fops2 hp) (by k_asm) (by k_asm) (by k_asm) (by k_asm) (by k_asm) (by first | exact rfl | assumption) (by ktr_room) (by ktr_units) l1 S2 (by kernel_rfl) (by kernel_rfl) ?_) rfl
    intro news3 h3 tk3 F3 N3 s3 S3
    have hp1 : m1 "p1" = some (.ref v1) := (e1 "p1" (by kernel_rfl)).trans rfl
    repeat' ((fail_if_success (with_reducible show wpAny _ _ (PySem.isTrue (Expr.Compare _ _ _ _) _ _) _ _ _)); (fail_if_success (with_reducible show wpAny _ _ (call (Value.ref 442) _) _ _ _)); first | (k_unfold; (try dsimp only)) | (k_end; wrow_close) | walk1 | (dsimp only; walk1) | fail "no step")
    · k_dflt (refine' dbl2 ?B ?F ?X ?N ?T ?K ?hd ?hu hp (JacM.mono J1' ?sub) I1' ?_; (case B => k_asm); (case F => k_asm); (case X => k_asm); (case N => k_asm); (case T => k_asm); (case K => first | exact rfl | assumption); (case hd => ktr_room); (case hu => ktr_units); (case sub => exact (fun e he => (s3 e (s2 e (s1 e (by repeat (first | exact he | refine List.Mem.tail _ ?_))))))))
      intro r news4 h4 tk4 F4 N4 s4 J4 I4
      (try dsimp only)
      k_steps
      rw [addT_d (t := (X1, Y1, Z1)) (u := (X2, Y2, Z2)) (by assumption) (by assumption) (by assumption) (by assumption)] at hret
      exact hret r _ _ _ (by k_asm) (by k_asm) (fun e he => (s4 e (s3 e (s2 e (s1 e (by repeat (first | exact he | refine List.Mem.tail _ ?_))))))) J4 I4
    · refine wpAny_isTrue_Compare1 (fcmp_ok (S := [("V2", (mF q X1 Z2)), ("V1", (mF q X2 Z1)), ("U2", (mF q Y1 Z2)), ("U1", (mF q Y2 Z1)), ("one", 1), ("zero", 0), ("x1", X1), ("y1", Y1), ("z1", Z1), ("x2", X2), ("y2", Y2), ("z2", Z2)]) (v := mF q X2 Z1) (u := mF q X1 Z2) (fops2 hp) (by k_asm) (by k_asm) (by k_asm) (by k_asm) (by k_asm) (by first | exact rfl | assumption) (by ktr_room) (by ktr_units) l1 S3 (by kernel_rfl) (by kernel_rfl) ?_) rfl
      intro news4 h4 tk4 F4 N4 s4 S4
      repeat' ((fail_if_success (with_reducible show wpAny _ _ (eval (Expr.Tuple _ _ _) _) _ _ _)); first | (k_unfold; (try dsimp only)) | (k_end; wrow_close) | walk1 | (dsimp only; walk1) | fail "no step")
      refine ftuple_ok (fops2 hp) (vs := [1, 1, 0]) (by k_asm) (by k_asm) (by k_asm) (by k_asm) (by k_asm) (by first | exact rfl | assumption) (by ktr_room) (by ktr_units) l1 S4 (by kernel_rfl) (by decide) ?_
      intro r xs news5 h5 tk5 F5 N5 s5 a5
      k_steps
      rw [addT_e (t := (X1, Y1, Z1)) (u := (X2, Y2, Z2)) (by assumption) (by assumption) (by assumption) (by assumption)] at hret
      exact hret r _ _ _ (by k_asm) (by k_asm) (fun e he => .tail _ (s5 e ((fun e he => (s4 e (s3 e (s2 e (s1 e (by repeat (first | exact he | refine List.Mem.tail _ ?_))))))) e he))) (jac_all (r := r) a5).1 (jac_all (r := r) a5).2
  · refine wpAny_isTrue_Compare1 (fcmp_ok (S := [("V2", (mF q X1 Z2)), ("V1", (mF q X2 Z1)), ("U2", (mF q Y1 Z2)), ("U1", (mF q Y2 Z1)), ("one", 1), ("zero", 0), ("x1", X1), ("y1", Y1), ("z1", Z1), ("x2", X2), ("y2", Y2), ("z2", Z2)]) (v := mF q X2 Z1) (u := mF q X1 Z2) (fops2 hp) (by k_asm) (by k_asm) (by k_asm) (by k_asm) (by k_asm) (by first | exact rfl | assumption) (by ktr_room) (by ktr_units) l1 S2 (by kernel_rfl) (by kernel_rfl) ?_) rfl
    intro news3 h3 tk3 F3 N3 s3 S3
    repeat' ((fail_if_success (with_reducible show wpAny _ _ (execs (Stmt.Assign [Expr.Name _ _] (Expr.BinOp _ _ _ _) _ :: _) _) _ _ _)); first | (k_unfold; (try dsimp only)) | (k_end; wrow_close) | walk1 | (dsimp only; walk1) | fail "no step")
    dsimp only
    refine frun_go (S := [("V2", (mF q X1 Z2)), ("V1", (mF q X2 Z1)), ("U2", (mF q Y1 Z2)), ("U1", (mF q Y2 Z1)), ("one", 1), ("zero", 0), ("x1", X1), ("y1", Y1), ("z1", Z1), ("x2", X2), ("y2", Y2), ("z2", Z2)]) 10 [("newz", (mF q (mF q (sF q (mF q X2 Z1) (mF q X1 Z2)) (mF q (sF q (mF q X2 Z1) (mF q X1 Z2)) (sF q (mF q X2 Z1) (mF q X1 Z2)))) (mF q Z1 Z2))), ("newy", (sF q (mF q (sF q (mF q Y2 Z1) (mF q Y1 Z2)) (sF q (mF q (mF q (sF q (mF q X2 Z1) (mF q X1 Z2)) (sF q (mF q X2 Z1) (mF q X1 Z2))) (mF q X1 Z2)) (sF q (sF q (mF q (mF q (sF q (mF q Y2 Z1) (mF q Y1 Z2)) (sF q (mF q Y2 Z1) (mF q Y1 Z2))) (mF q Z1 Z2)) (mF q (sF q (mF q X2 Z1) (mF q X1 Z2)) (mF q (sF q (mF q X2 Z1) (mF q X1 Z2)) (sF q (mF q X2 Z1) (mF q X1 Z2))))) (mF q (mF q (mF q (sF q (mF q X2 Z1) (mF q X1 Z2)) (sF q (mF q X2 Z1) (mF q X1 Z2))) (mF q X1 Z2)) 2)))) (mF q (mF q (sF q (mF q X2 Z1) (mF q X1 Z2)) (mF q (sF q (mF q X2 Z1) (mF q X1 Z2)) (sF q (mF q X2 Z1) (mF q X1 Z2)))) (mF q Y1 Z2)))), ("newx", (mF q (sF q (mF q X2 Z1) (mF q X1 Z2)) (sF q (sF q (mF q (mF q (sF q (mF q Y2 Z1) (mF q Y1 Z2)) (sF q (mF q Y2 Z1) (mF q Y1 Z2))) (mF q Z1 Z2)) (mF q (sF q (mF q X2 Z1) (mF q X1 Z2)) (mF q (sF q (mF q X2 Z1) (mF q X1 Z2)) (sF q (mF q X2 Z1) (mF q X1 Z2))))) (mF q (mF q (mF q (sF q (mF q X2 Z1) (mF q X1 Z2)) (sF q (mF q X2 Z1) (mF q X1 Z2))) (mF q X1 Z2)) 2)))), ("A", (sF q (sF q (mF q (mF q (sF q (mF q Y2 Z1) (mF q Y1 Z2)) (sF q (mF q Y2 Z1) (mF q Y1 Z2))) (mF q Z1 Z2)) (mF q (sF q (mF q X2 Z1) (mF q X1 Z2)) (mF q (sF q (mF q X2 Z1) (mF q X1 Z2)) (sF q (mF q X2 Z1) (mF q X1 Z2))))) (mF q (mF q (mF q (sF q (mF q X2 Z1) (mF q X1 Z2)) (sF q (mF q X2 Z1) (mF q X1 Z2))) (mF q X1 Z2)) 2))), ("W", (mF q Z1 Z2)), ("V_cubed", (mF q (sF q (mF q X2 Z1) (mF q X1 Z2)) (mF q (sF q (mF q X2 Z1) (mF q X1 Z2)) (sF q (mF q X2 Z1) (mF q X1 Z2))))), ("V_squared_times_V2", (mF q (mF q (sF q (mF q X2 Z1) (mF q X1 Z2)) (sF q (mF q X2 Z1) (mF q X1 Z2))) (mF q X1 Z2))), ("V_squared", (mF q (sF q (mF q X2 Z1) (mF q X1 Z2)) (sF q (mF q X2 Z1) (mF q X1 Z2)))), ("V", (sF q (mF q X2 Z1) (mF q X1 Z2))), ("U", (sF q (mF q Y2 Z1) (mF q Y1 Z2))), ("V2", (mF q X1 Z2)), ("V1", (mF q X2 Z1)), ("U2", (mF q Y1 Z2)), ("U1", (mF q Y2 Z1)), ("one", 1), ("zero", 0), ("x1", X1), ("y1", Y1), ("z1", Z1), ("x2", X2), ("y2", Y2), ("z2", Z2)] (fops2 hp) (by k_asm) (by k_asm) (by k_asm) (by k_asm) (by k_asm) (by first | exact rfl | assumption) (by ktr_room) (by ktr_units) l1 S3 (by kernel_rfl) ?_
    intro m4 news4 h4 tk4 F4 N4 s4 S4 l4 e4
    simp only [List.drop_succ_cons, List.drop_zero]
    repeat' ((fail_if_success (with_reducible show wpAny _ _ (eval (Expr.Tuple _ _ _) _) _ _ _)); first | (k_unfold; (try dsimp only)) | (k_end; wrow_close) | walk1 | (dsimp only; walk1) | fail "no step")
    refine ftuple_ok (fops2 hp) (vs := [(addF q (X1, Y1, Z1) (X2, Y2, Z2)).1, (addF q (X1, Y1, Z1) (X2, Y2, Z2)).2.1, (addF q (X1, Y1, Z1) (X2, Y2, Z2)).2.2]) (by k_asm) (by k_asm) (by k_asm) (by k_asm) (by k_asm) (by first | exact rfl | assumption) (by ktr_room) (by ktr_units) l4 S4 (by kernel_rfl) (by decide) ?_
    intro r xs news5 h5 tk5 F5 N5 s5 a5
    k_steps
    rw [addT_f (t := (X1, Y1, Z1)) (u := (X2, Y2, Z2)) (by assumption) (by assumption) (by assumption)] at hret
    exact hret r _ _ _ (by k_asm) (by k_asm) (fun e he => .tail _ (s5 e ((fun e he => (s4 e (s3 e (s2 e (s1 e (by repeat (first | exact he | refine List.Mem.tail _ ?_))))))) e he))) (jac_all (r := r) a5).1 (jac_all (r := r) a5).2
 

set_option maxRecDepth 100000 in
set_option maxHeartbeats 0 in
theorem cadd1 {q : Int} {v1 v2 : Addr} {t u : Tr}
    (B : Below A₀ base outer h₀) (F : Fr h₀ L s.heap m) (X : (kk.heap_1 w.params).In h₀) (N : News h₀ L s.heap news) (T : Top p loose mean mg mb h₀) (hk : cs.kind = .function)
    (hd : dp + 30 < recursionLimit) (hu : un + 240 < cLine) (hp : Pr q) (J1 : JacM 417 w.params news q v1 t) (I1 : RgT q t) (J2 : JacM 417 w.params news q v2 u) (I2 : RgT q u) (hret : ∀ (r : Addr) (news' : List (Addr × Obj)) (h' : Heap) (tk' : Nat), Fr h₀ L h' m → News h₀ L h' news' → (∀ e ∈ news, e ∈ news') → JacM 417 w.params news' q r (addT q t u) → RgT q (addT q t u) → Q (.ref r) { s with heap := h', toks := tk' }) :
    wpAny (model PySem.Challenge.pw_lh0034_01 w) (ktrTop dp un gd cn cs L a ccd cl outer) (call (.ref 49) [.ref v1, .ref v2]) Q E s := by
  have hq : 0 < q ∧ q ≤ 127 := ⟨hp.pos, hp.hi⟩
  have hq1 : 1 < q ∧ q ≤ 127 := ⟨by have := hp.lo; omega, hp.hi⟩
  have J1' := J1
  obtain ⟨n1, x1, y1, z1, j1, ⟨dx1, x11, x12, x13, x14, jx1, jdx1⟩, ⟨dy1, y11, y12, y13, y14, jy1, jdy1⟩, ⟨dz1, z11, z12, z13, z14, jz1, jdz1⟩⟩ := J1
  obtain ⟨X1, Y1, Z1⟩ := t
  have I1' := I1
  obtain ⟨bx1, by1, bz1⟩ := I1
  dsimp only at bx1 by1 bz1 jdx1 jdy1 jdz1 I1'
  have J2' := J2
  obtain ⟨n2, x2, y2, z2, j2, ⟨dx2, x21, x22, x23, x24, jx2, jdx2⟩, ⟨dy2, y21, y22, y23, y24, jy2, jdy2⟩, ⟨dz2, z21, z22, z23, z24, jz2, jdz2⟩⟩ := J2
  obtain ⟨X2, Y2, Z2⟩ := u
  have I2' := I2
  obtain ⟨bx2, by2, bz2⟩ := I2
  dsimp only at bx2 by2 bz2 jdx2 jdy2 jdz2 I2'
  have N := add7 N j2 jx2 jdx2 jy2 jdy2 jz2 jdz2
  have N := add7 N (sub7 _ j1) (sub7 _ jx1) (sub7 _ jdx1) (sub7 _ jy1) (sub7 _ jdy1) (sub7 _ jz1) (sub7 _ jdz1)
  refine wpAny_call ?_
  k_dflt ktr_enter
  repeat' ((fail_if_success (with_reducible show wpAny _ _ (execs (Stmt.Assign [Expr.Name _ _] (Expr.BinOp _ _ _ _) _ :: _) _) _ _ _)); first | (k_unfold; (try dsimp only)) | (k_end; wrow_close) | walk1 | (dsimp only; walk1) | fail "no step")
  · rw [addT_a (t := (X1, Y1, Z1)) (u := (X2, Y2, Z2)) (by assumption) (by assumption)] at hret
    exact hret v1 _ _ _ (by k_asm) (by k_asm) (fun e he => (by repeat (first | exact he | refine List.Mem.tail _ ?_))) (JacM.mono J1' (fun e he => (by repeat (first | exact he | refine List.Mem.tail _ ?_)))) I1'
  · rw [addT_b (t := (X1, Y1, Z1)) (u := (X2, Y2, Z2)) (by assumption) (by assumption)] at hret
    exact hret v2 _ _ _ (by k_asm) (by k_asm) (fun e he => (by repeat (first | exact he | refine List.Mem.tail _ ?_))) (JacM.mono J2' (fun e he => (by repeat (first | exact he | refine List.Mem.tail _ ?_)))) I2'
  · rw [addT_c (t := (X1, Y1, Z1)) (u := (X2, Y2, Z2)) (by assumption)] at hret
    exact hret v1 _ _ _ (by k_asm) (by k_asm) (fun e he => (by repeat (first | exact he | refine List.Mem.tail _ ?_))) (JacM.mono J1' (fun e he => (by repeat (first | exact he | refine List.Mem.tail _ ?_)))) I1'
  dsimp only
  refine frun_go (S := [("one", 1), ("zero", 0), ("x1", X1), ("y1", Y1), ("z1", Z1), ("x2", X2), ("y2", Y2), ("z2", Z2)]) 4 [("V2", (mF q X1 Z2)), ("V1", (mF q X2 Z1)), ("U2", (mF q Y1 Z2)), ("U1", (mF q Y2 Z1)), ("one", 1), ("zero", 0), ("x1", X1), ("y1", Y1), ("z1", Z1), ("x2", X2), ("y2", Y2), ("z2", Z2)] (fops2 hp) (by k_asm) (by k_asm) (by k_asm) (by k_asm) (by k_asm) (by first | exact rfl | assumption) (by ktr_room) (by ktr_units) (Loc.of ["one", "zero", "x1", "y1", "z1", "x2", "y2", "z2"] rfl (by decide +kernel)) (SOk.cons (by exact rfl) (⟨_, _, _, _, _, by repeat (first | exact List.Mem.head _ | refine List.Mem.tail _ ?_), by repeat (first | exact List.Mem.head _ | refine List.Mem.tail _ ?_)⟩) ⟨by omega, by omega⟩ (SOk.cons (by exact rfl) (⟨_, _, _, _, _, by repeat (first | exact List.Mem.head _ | refine List.Mem.tail _ ?_), by repeat (first | exact List.Mem.head _ | refine List.Mem.tail _ ?_)⟩) ⟨by omega, by omega⟩ (SOk.cons (by exact rfl) (⟨_, _, _, _, _, by repeat (first | exact List.Mem.head _ | refine List.Mem.tail _ ?_), by repeat (first | exact List.Mem.head _ | refine List.Mem.tail _ ?_)⟩) bx1 (SOk.cons (by exact rfl) (⟨_, _, _, _, _, by repeat (first | exact List.Mem.head _ | refine List.Mem.tail _ ?_), by repeat (first | exact List.Mem.head _ | refine List.Mem.tail _ ?_)⟩) by1 (SOk.cons (by exact rfl) (⟨_, _, _, _, _, by repeat (first | exact List.Mem.head _ | refine List.Mem.tail _ ?_), by repeat (first | exact List.Mem.head _ | refine List.Mem.tail _ ?_)⟩) bz1 (SOk.cons (by exact rfl) (⟨_, _, _, _, _, by repeat (first | exact List.Mem.head _ | refine List.Mem.tail _ ?_), by repeat (first | exact List.Mem.head _ | refine List.Mem.tail _ ?_)⟩) bx2 (SOk.cons (by exact rfl) (⟨_, _, _, _, _, by repeat (first | exact List.Mem.head _ | refine List.Mem.tail _ ?_), by repeat (first | exact List.Mem.head _ | refine List.Mem.tail _ ?_)⟩) by2 (SOk.cons (by exact rfl) (⟨_, _, _, _, _, by repeat (first | exact List.Mem.head _ | refine List.Mem.tail _ ?_), by repeat (first | exact List.Mem.head _ | refine List.Mem.tail _ ?_)⟩) bz2 SOk.nil)))))))) (by kernel_rfl) ?_
  intro m1 news1 h1 tk1 F1 N1 s1 S1 l1 e1
  simp only [List.drop_succ_cons, List.drop_zero]
  repeat' ((fail_if_success (with_reducible show wpAny _ _ (PySem.isTrue (Expr.Compare _ _ _ _) _ _) _ _ _)); first | (k_unfold; (try dsimp only)) | (k_end; wrow_close) | walk1 | (dsimp only; walk1) | fail "no step")
  refine wpAny_isTrue_Compare1 (fcmp_ok (S := [("V2", (mF q X1 Z2)), ("V1", (mF q X2 Z1)), ("U2", (mF q Y1 Z2)), ("U1", (mF q Y2 Z1)), ("one", 1), ("zero", 0), ("x1", X1), ("y1", Y1), ("z1", Z1), ("x2", X2), ("y2", Y2), ("z2", Z2)]) (v := mF q X2 Z1) (u := mF q X1 Z2) (fops2 hp) (by k_asm) (by k_asm) (by k_asm) (by k_asm) (by k_asm) (by first | exact rfl | assumption) (by ktr_room) (by ktr_units) l1 S1 (by kernel_rfl) (by kernel_rfl) ?_) rfl
  intro news2 h2 tk2 F2 N2 s2 S2
  repeat' ((fail_if_success (with_reducible show wpAny _ _ (PySem.isTrue (Expr.Compare _ _ _ _) _ _) _ _ _)); first | (k_unfold; (try dsimp only)) | (k_end; wrow_close) | walk1 | (dsimp only; walk1) | fail "no step")
  · refine wpAny_isTrue_Compare1 (fcmp_ok (S := [("V2", (mF q X1 Z2)), ("V1", (mF q X2 Z1)), ("U2", (mF q Y1 Z2)), ("U1", (mF q Y2 Z1)), ("one", 1), ("zero", 0), ("x1", X1), ("y1", Y1), ("z1", Z1), ("x2", X2), ("y2", Y2), ("z2", Z2)]) (v := mF q Y2 Z1) (u := mF q Y1 Z2) (fops2 hp) (by k_asm) (by k_asm) (by k_asm) (by k_asm) (by k_asm) (by first | exact rfl | assumption) (by ktr_room) (by ktr_units) l1 S2 (by kernel_rfl) (by kernel_rfl) ?_) rfl
    intro news3 h3 tk3 F3 N3 s3 S3
    have hp1 : m1 "p1" = some (.ref v1) := (e1 "p1" (by kernel_rfl)).trans rfl
    repeat' ((fail_if_success (with_reducible show wpAny _ _ (PySem.isTrue (Expr.Compare _ _ _ _) _ _) _ _ _)); (fail_if_success (with_reducible show wpAny _ _ (call (Value.ref 42) _) _ _ _)); first | (k_unfold; (try dsimp only)) | (k_end; wrow_close) | walk1 | (dsimp only; walk1) | fail "no step")
    · k_dflt (refine' dbl1 ?B ?F ?X ?N ?T ?K ?hd ?hu hp (JacM.mono J1' ?sub) I1' ?_; (case B => k_asm); (case F => k_asm); (case X => k_asm); (case N => k_asm); (case T => k_asm); (case K => first | exact rfl | assumption); (case hd => ktr_room); (case hu => ktr_units); (case sub => exact (fun e he => (s3 e (s2 e (s1 e (by repeat (first | exact he | refine List.Mem.tail _ ?_))))))))
      intro r news4 h4 tk4 F4 N4 s4 J4 I4
      (try dsimp only)
      k_steps
      rw [addT_d (t := (X1, Y1, Z1)) (u := (X2, Y2, Z2)) (by assumption) (by assumption) (by assumption) (by assumption)] at hret
      exact hret r _ _ _ (by k_asm) (by k_asm) (fun e he => (s4 e (s3 e (s2 e (s1 e (by repeat (first | exact he | refine List.Mem.tail _ ?_))))))) J4 I4
    · refine wpAny_isTrue_Compare1 (fcmp_ok (S := [("V2", (mF q X1 Z2)), ("V1", (mF q X2 Z1)), ("U2", (mF q Y1 Z2)), ("U1", (mF q Y2 Z1)), ("one", 1), ("zero", 0), ("x1", X1), ("y1", Y1), ("z1", Z1), ("x2", X2), ("y2", Y2), ("z2", Z2)]) (v := mF q X2 Z1) (u := mF q X1 Z2) (fops2 hp) (by k_asm) (by k_asm) (by k_asm) (by k_asm) (by k_asm) (by first | exact rfl | assumption) (by ktr_room) (by ktr_units) l1 S3 (by kernel_rfl) (by kernel_rfl) ?_) rfl
      intro news4 h4 tk4 F4 N4 s4 S4
      repeat' ((fail_if_success (with_reducible show wpAny _ _ (eval (Expr.Tuple _ _ _) _) _ _ _)); first | (k_unfold; (try dsimp only)) | (k_end; wrow_close) | walk1 | (dsimp only; walk1) | fail "no step")
      refine ftuple_ok (fops2 hp) (vs := [1, 1, 0]) (by k_asm) (by k_asm) (by k_asm) (by k_asm) (by k_asm) (by first | exact rfl | assumption) (by ktr_room) (by ktr_units) l1 S4 (by kernel_rfl) (by decide) ?_
      intro r xs news5 h5 tk5 F5 N5 s5 a5
      k_steps
      rw [addT_e (t := (X1, Y1, Z1)) (u := (X2, Y2, Z2)) (by assumption) (by assumption) (by assumption) (by assumption)] at hret
      exact hret r _ _ _ (by k_asm) (by k_asm) (fun e he => .tail _ (s5 e ((fun e he => (s4 e (s3 e (s2 e (s1 e (by repeat (first | exact he | refine List.Mem.tail _ ?_))))))) e he))) (jac_all (r := r) a5).1 (jac_all (r := r) a5).2
  · refine wpAny_isTrue_Compare1 (fcmp_ok (S := [("V2", (mF q X1 Z2)), ("V1", (mF q X2 Z1)), ("U2", (mF q Y1 Z2)), ("U1", (mF q Y2 Z1)), ("one", 1), ("zero", 0), ("x1", X1), ("y1", Y1), ("z1", Z1), ("x2", X2), ("y2", Y2), ("z2", Z2)]) (v := mF q X2 Z1) (u := mF q X1 Z2) (fops2 hp) (by k_asm) (by k_asm) (by k_asm) (by k_asm) (by k_asm) (by first | exact rfl | assumption) (by ktr_room) (by ktr_units) l1 S2 (by kernel_rfl) (by kernel_rfl) ?_) rfl
    intro news3 h3 tk3 F3 N3 s3 S3
    repeat' ((fail_if_success (with_reducible show wpAny _ _ (execs (Stmt.Assign [Expr.Name _ _] (Expr.BinOp _ _ _ _) _ :: _) _) _ _ _)); first | (k_unfold; (try dsimp only)) | (k_end; wrow_close) | walk1 | (dsimp only; walk1) | fail "no step")
    dsimp only
    refine frun_go (S := [("V2", (mF q X1 Z2)), ("V1", (mF q X2 Z1)), ("U2", (mF q Y1 Z2)), ("U1", (mF q Y2 Z1)), ("one", 1), ("zero", 0), ("x1", X1), ("y1", Y1), ("z1", Z1), ("x2", X2), ("y2", Y2), ("z2", Z2)]) 10 [("newz", (mF q (mF q (sF q (mF q X2 Z1) (mF q X1 Z2)) (mF q (sF q (mF q X2 Z1) (mF q X1 Z2)) (sF q (mF q X2 Z1) (mF q X1 Z2)))) (mF q Z1 Z2))), ("newy", (sF q (mF q (sF q (mF q Y2 Z1) (mF q Y1 Z2)) (sF q (mF q (mF q (sF q (mF q X2 Z1) (mF q X1 Z2)) (sF q (mF q X2 Z1) (mF q X1 Z2))) (mF q X1 Z2)) (sF q (sF q (mF q (mF q (sF q (mF q Y2 Z1) (mF q Y1 Z2)) (sF q (mF q Y2 Z1) (mF q Y1 Z2))) (mF q Z1 Z2)) (mF q (sF q (mF q X2 Z1) (mF q X1 Z2)) (mF q (sF q (mF q X2 Z1) (mF q X1 Z2)) (sF q (mF q X2 Z1) (mF q X1 Z2))))) (mF q (mF q (mF q (sF q (mF q X2 Z1) (mF q X1 Z2)) (sF q (mF q X2 Z1) (mF q X1 Z2))) (mF q X1 Z2)) 2)))) (mF q (mF q (sF q (mF q X2 Z1) (mF q X1 Z2)) (mF q (sF q (mF q X2 Z1) (mF q X1 Z2)) (sF q (mF q X2 Z1) (mF q X1 Z2)))) (mF q Y1 Z2)))), ("newx", (mF q (sF q (mF q X2 Z1) (mF q X1 Z2)) (sF q (sF q (mF q (mF q (sF q (mF q Y2 Z1) (mF q Y1 Z2)) (sF q (mF q Y2 Z1) (mF q Y1 Z2))) (mF q Z1 Z2)) (mF q (sF q (mF q X2 Z1) (mF q X1 Z2)) (mF q (sF q (mF q X2 Z1) (mF q X1 Z2)) (sF q (mF q X2 Z1) (mF q X1 Z2))))) (mF q (mF q (mF q (sF q (mF q X2 Z1) (mF q X1 Z2)) (sF q (mF q X2 Z1) (mF q X1 Z2))) (mF q X1 Z2)) 2)))), ("A", (sF q (sF q (mF q (mF q (sF q (mF q Y2 Z1) (mF q Y1 Z2)) (sF q (mF q Y2 Z1) (mF q Y1 Z2))) (mF q Z1 Z2)) (mF q (sF q (mF q X2 Z1) (mF q X1 Z2)) (mF q (sF q (mF q X2 Z1) (mF q X1 Z2)) (sF q (mF q X2 Z1) (mF q X1 Z2))))) (mF q (mF q (mF q (sF q (mF q X2 Z1) (mF q X1 Z2)) (sF q (mF q X2 Z1) (mF q X1 Z2))) (mF q X1 Z2)) 2))), ("W", (mF q Z1 Z2)), ("V_cubed", (mF q (sF q (mF q X2 Z1) (mF q X1 Z2)) (mF q (sF q (mF q X2 Z1) (mF q X1 Z2)) (sF q (mF q X2 Z1) (mF q X1 Z2))))), ("V_squared_times_V2", (mF q (mF q (sF q (mF q X2 Z1) (mF q X1 Z2)) (sF q (mF q X2 Z1) (mF q X1 Z2))) (mF q X1 Z2))), ("V_squared", (mF q (sF q (mF q X2 Z1) (mF q X1 Z2)) (sF q (mF q X2 Z1) (mF q X1 Z2)))), ("V", (sF q (mF q X2 Z1) (mF q X1 Z2))), ("U", (sF q (mF q Y2 Z1) (mF q Y1 Z2))), ("V2", (mF q X1 Z2)), ("V1", (mF q X2 Z1)), ("U2", (mF q Y1 Z2)), ("U1", (mF q Y2 Z1)), ("one", 1), ("zero", 0), ("x1", X1), ("y1", Y1), ("z1", Z1), ("x2", X2), ("y2", Y2), ("z2", Z2)] (fops2 hp) (by k_asm) (by k_asm) (by k_asm) (by k_asm) (by k_asm) (by first | exact rfl | assumption) (by ktr_room) (by ktr_units) l1 S3 (by kernel_rfl) ?_
    intro m4 news4 h4 tk4 F4 N4 s4 S4 l4 e4
    simp only [List.drop_succ_cons, List.drop_zero]
    repeat' ((fail_if_success (with_reducible show wpAny _ _ (eval (Expr.Tuple _ _ _) _) _ _ _)); first | (k_unfold; (try dsimp only)) | (k_end; wrow_close) | walk1 | (dsimp only; walk1) | fail "no step")
    refine ftuple_ok (fops2 hp) (vs := [(addF q (X1, Y1, Z1) (X2, Y2, Z2)).1, (addF q (X1, Y1, Z1) (X2, Y2, Z2)).2.1, (addF q (X1, Y1, Z1) (X2, Y2, Z2)).2.2]) (by k_asm) (by k_asm) (by k_asm) (by k_asm) (by k_asm) (by first | exact rfl | assumption) (by ktr_room) (by ktr_units) l4 S4 (by kernel_rfl) (by decide) ?_
    intro r xs news5 h5 tk5 F5 N5 s5 a5
    k_steps
    rw [addT_f (t := (X1, Y1, Z1)) (u := (X2, Y2, Z2)) (by assumption) (by assumption) (by assumption)] at hret
    exact hret r _ _ _ (by k_asm) (by k_asm) (fun e he => .tail _ (s5 e ((fun e he => (s4 e (s3 e (s2 e (s1 e (by repeat (first | exact he | refine List.Mem.tail _ ?_))))))) e he))) (jac_all (r := r) a5).1 (jac_all (r := r) a5).2
 

set_option maxRecDepth 100000 in
set_option maxHeartbeats 0 in
theorem cneg2 {q : Int} {v : Addr} {t : Tr}
    (B : Below A₀ base outer h₀) (F : Fr h₀ L s.heap m) (X : (kk.heap_1 w.params).In h₀) (N : News h₀ L s.heap news) (T : Top p loose mean mg mb h₀) (hk : cs.kind = .function)
    (hd : dp + 16 < recursionLimit) (hu : un + 128 < cLine) (hp : Pr q) (J : JacM 417 w.params news q v t) (I : RgT q t) (hret : ∀ (r : Addr) (news' : List (Addr × Obj)) (h' : Heap) (tk' : Nat), Fr h₀ L h' m → News h₀ L h' news' → (∀ e ∈ news, e ∈ news') → JacM 417 w.params news' q r (negT q t) → RgT q (negT q t) → Q (.ref r) { s with heap := h', toks := tk' }) :
    wpAny (model PySem.Challenge.pw_lh0034_01 w) (ktrTop dp un gd cn cs L a ccd cl outer) (call (.ref 477) [.ref v]) Q E s := by
  have hq : 0 < q ∧ q ≤ 127 := ⟨hp.pos, hp.hi⟩
  have hq1 : 1 < q ∧ q ≤ 127 := ⟨by have := hp.lo; omega, hp.hi⟩
  have J1' := J
  obtain ⟨n1, x1, y1, z1, j1, ⟨dx1, x11, x12, x13, x14, jx1, jdx1⟩, ⟨dy1, y11, y12, y13, y14, jy1, jdy1⟩, ⟨dz1, z11, z12, z13, z14, jz1, jdz1⟩⟩ := J
  obtain ⟨X1, Y1, Z1⟩ := t
  have I1' := I
  obtain ⟨bx1, by1, bz1⟩ := I
  dsimp only at bx1 by1 bz1 jdx1 jdy1 jdz1 I1'
  have N := add7 N j1 jx1 jdx1 jy1 jdy1 jz1 jdz1
  refine wpAny_call ?_
  k_dflt ktr_enter
  repeat' ((fail_if_success (with_reducible show wpAny _ _ (eval (Expr.Tuple _ _ _) _) _ _ _)); first | (k_unfold; (try dsimp only)) | (k_end; wrow_close) | walk1 | (dsimp only; walk1) | fail "no step")
  refine ftuple_ok (S := [("x", X1), ("y", Y1), ("z", Z1)]) (fops2 hp) (vs := [X1, nF q Y1, Z1]) (by k_asm) (by k_asm) (by k_asm) (by k_asm) (by k_asm) (by first | exact rfl | assumption) (by ktr_room) (by ktr_units) (Loc.of ["x", "y", "z"] rfl (by decide +kernel)) (SOk.cons (by exact rfl) (⟨_, _, _, _, _, by repeat (first | exact List.Mem.head _ | refine List.Mem.tail _ ?_), by repeat (first | exact List.Mem.head _ | refine List.Mem.tail _ ?_)⟩) bx1 (SOk.cons (by exact rfl) (⟨_, _, _, _, _, by repeat (first | exact List.Mem.head _ | refine List.Mem.tail _ ?_), by repeat (first | exact List.Mem.head _ | refine List.Mem.tail _ ?_)⟩) by1 (SOk.cons (by exact rfl) (⟨_, _, _, _, _, by repeat (first | exact List.Mem.head _ | refine List.Mem.tail _ ?_), by repeat (first | exact List.Mem.head _ | refine List.Mem.tail _ ?_)⟩) bz1 SOk.nil))) (by kernel_rfl) (by decide) ?_
  intro r xs news2 h2 tk2 F2 N2 s2 a2
  k_steps

  exact hret r _ _ _ (by k_asm) (by k_asm) (fun e he => .tail _ (s2 e (by repeat (first | exact he | refine List.Mem.tail _ ?_)))) (jac_all (r := r) a2).1 (jac_all (r := r) a2).2

set_option maxRecDepth 100000 in
set_option maxHeartbeats 0 in
theorem cnorm2 {q : Int} {v : Addr} {t : Tr}
    (B : Below A₀ base outer h₀) (F : Fr h₀ L s.heap m) (X : (kk.heap_1 w.params).In h₀) (N : News h₀ L s.heap news) (T : Top p loose mean mg mb h₀) (hk : cs.kind = .function)
    (hd : dp + 16 < recursionLimit) (hu : un + 128 < cLine) (hp : Pr q) (J : JacM 417 w.params news q v t) (I : RgT q t) (hret : ∀ (r : Addr) (news' : List (Addr × Obj)) (h' : Heap) (tk' : Nat), Fr h₀ L h' m → News h₀ L h' news' → (∀ e ∈ news, e ∈ news') → PairM 417 w.params news' q r (nrm q t) → Rg q (nrm q t).1 → Rg q (nrm q t).2 → Q (.ref r) { s with heap := h', toks := tk' }) :
    wpAny (model PySem.Challenge.pw_lh0034_01 w) (ktrTop dp un gd cn cs L a ccd cl outer) (call (.ref 470) [.ref v]) Q E s := by
  have hq : 0 < q ∧ q ≤ 127 := ⟨hp.pos, hp.hi⟩
  have hq1 : 1 < q ∧ q ≤ 127 := ⟨by have := hp.lo; omega, hp.hi⟩
  have J1' := J
  obtain ⟨n1, x1, y1, z1, j1, ⟨dx1, x11, x12, x13, x14, jx1, jdx1⟩, ⟨dy1, y11, y12, y13, y14, jy1, jdy1⟩, ⟨dz1, z11, z12, z13, z14, jz1, jdz1⟩⟩ := J
  obtain ⟨X1, Y1, Z1⟩ := t
  have I1' := I
  obtain ⟨bx1, by1, bz1⟩ := I
  dsimp only at bx1 by1 bz1 jdx1 jdy1 jdz1 I1'
  have N := add7 N j1 jx1 jdx1 jy1 jdy1 jz1 jdz1
  refine wpAny_call ?_
  k_dflt ktr_enter
  repeat' ((fail_if_success (with_reducible show wpAny _ _ (eval (Expr.Tuple _ _ _) _) _ _ _)); first | (k_unfold; (try dsimp only)) | (k_end; wrow_close) | walk1 | (dsimp only; walk1) | fail "no step")
  refine ftuple_ok (S := [("x", X1), ("y", Y1), ("z", Z1)]) (fops2 hp) (vs := [dF q X1 Z1, dF q Y1 Z1]) (by k_asm) (by k_asm) (by k_asm) (by k_asm) (by k_asm) (by first | exact rfl | assumption) (by ktr_room) (by ktr_units) (Loc.of ["x", "y", "z"] rfl (by decide +kernel)) (SOk.cons (by exact rfl) (⟨_, _, _, _, _, by repeat (first | exact List.Mem.head _ | refine List.Mem.tail _ ?_), by repeat (first | exact List.Mem.head _ | refine List.Mem.tail _ ?_)⟩) bx1 (SOk.cons (by exact rfl) (⟨_, _, _, _, _, by repeat (first | exact List.Mem.head _ | refine List.Mem.tail _ ?_), by repeat (first | exact List.Mem.head _ | refine List.Mem.tail _ ?_)⟩) by1 (SOk.cons (by exact rfl) (⟨_, _, _, _, _, by repeat (first | exact List.Mem.head _ | refine List.Mem.tail _ ?_), by repeat (first | exact List.Mem.head _ | refine List.Mem.tail _ ?_)⟩) bz1 SOk.nil))) (by kernel_rfl) (by decide) ?_
  intro r xs news2 h2 tk2 F2 N2 s2 a2
  k_steps

  exact hret r _ _ _ (by k_asm) (by k_asm) (fun e he => .tail _ (s2 e (by repeat (first | exact he | refine List.Mem.tail _ ?_)))) (pair_all (r := r) a2).1 (pair_all (r := r) a2).2.1 (pair_all (r := r) a2).2.2

set_option maxRecDepth 100000 in
set_option maxHeartbeats 0 in
theorem cinf2 {q : Int} {v : Addr} {t : Tr}
    (B : Below A₀ base outer h₀) (F : Fr h₀ L s.heap m) (X : (kk.heap_1 w.params).In h₀) (N : News h₀ L s.heap news) (T : Top p loose mean mg mb h₀) (hk : cs.kind = .function)
    (hd : dp + 16 < recursionLimit) (hu : un + 128 < cLine) (hp : Pr q) (J : JacM 417 w.params news q v t) (I : RgT q t) (hret : ∀ (news' : List (Addr × Obj)) (h' : Heap) (tk' : Nat), Fr h₀ L h' m → News h₀ L h' news' → (∀ e ∈ news, e ∈ news') → Q (.bool (decide (t.2.2 = 0))) { s with heap := h', toks := tk' }) :
    wpAny (model PySem.Challenge.pw_lh0034_01 w) (ktrTop dp un gd cn cs L a ccd cl outer) (call (.ref 428) [.ref v]) Q E s := by
  have hq : 0 < q ∧ q ≤ 127 := ⟨hp.pos, hp.hi⟩
  have hq1 : 1 < q ∧ q ≤ 127 := ⟨by have := hp.lo; omega, hp.hi⟩
  have J1' := J
  obtain ⟨n1, x1, y1, z1, j1, ⟨dx1, x11, x12, x13, x14, jx1, jdx1⟩, ⟨dy1, y11, y12, y13, y14, jy1, jdy1⟩, ⟨dz1, z11, z12, z13, z14, jz1, jdz1⟩⟩ := J
  obtain ⟨X1, Y1, Z1⟩ := t
  have I1' := I
  obtain ⟨bx1, by1, bz1⟩ := I
  dsimp only at bx1 by1 bz1 jdx1 jdy1 jdz1 I1'
  have N := add7 N j1 jx1 jdx1 jy1 jdy1 jz1 jdz1
  refine wpAny_call ?_
  k_dflt ktr_enter
  k_steps
  exact hret _ _ _ (by k_asm) (by k_asm) (fun e he => (by repeat (first | exact he | refine List.Mem.tail _ ?_)))

set_option maxRecDepth 100000 in
set_option maxHeartbeats 0 in
theorem con2 {q c : Int} {v vb : Addr} {t : Tr}
    (B : Below A₀ base outer h₀) (F : Fr h₀ L s.heap m) (X : (kk.heap_1 w.params).In h₀) (N : News h₀ L s.heap news) (T : Top p loose mean mg mb h₀) (hk : cs.kind = .function)
    (hd : dp + 34 < recursionLimit) (hu : un + 272 < cLine) (hp : Pr q) (J : JacM 417 w.params news q v t) (I : RgT q t) (Jb : FqM 417 w.params news q vb c) (Ib : Rg q c) (hret : ∀ (news' : List (Addr × Obj)) (h' : Heap) (tk' : Nat), Fr h₀ L h' m → News h₀ L h' news' → (∀ e ∈ news, e ∈ news') → Q (.bool (onT q t c)) { s with heap := h', toks := tk' }) :
    wpAny (model PySem.Challenge.pw_lh0034_01 w) (ktrTop dp un gd cn cs L a ccd cl outer) (call (.ref 435) [.ref v, .ref vb]) Q E s := by
  have hq : 0 < q ∧ q ≤ 127 := ⟨hp.pos, hp.hi⟩
  have hq1 : 1 < q ∧ q ≤ 127 := ⟨by have := hp.lo; omega, hp.hi⟩
  have J1' := J
  obtain ⟨n1, x1, y1, z1, j1, ⟨dx1, x11, x12, x13, x14, jx1, jdx1⟩, ⟨dy1, y11, y12, y13, y14, jy1, jdy1⟩, ⟨dz1, z11, z12, z13, z14, jz1, jdz1⟩⟩ := J
  obtain ⟨X1, Y1, Z1⟩ := t
  have I1' := I
  obtain ⟨bx1, by1, bz1⟩ := I
  dsimp only at bx1 by1 bz1 jdx1 jdy1 jdz1 I1'
  have N := add7 N j1 jx1 jdx1 jy1 jdy1 jz1 jdz1
  refine wpAny_call ?_
  k_dflt ktr_enter
  repeat' ((fail_if_success (with_reducible show wpAny _ _ (call (Value.ref 428) _) _ _ _)); first | (k_unfold; (try dsimp only)) | (k_end; wrow_close) | walk1 | (dsimp only; walk1) | fail "no step")
  k_dflt (refine' cinf2 ?B ?F ?X ?N ?T ?K ?hd ?hu hp (JacM.mono J1' ?sub) I1' ?_; (case B => k_asm); (case F => k_asm); (case X => k_asm); (case N => k_asm); (case T => k_asm); (case K => first | exact rfl | assumption); (case hd => ktr_room); (case hu => ktr_units); (case sub => exact (fun e he => (by repeat (first | exact he | refine List.Mem.tail _ ?_)))))
  intro news2 h2 tk2 F2 N2 s2
  have N2 := addE N2 (s2 _ (.head _))
  (try dsimp only)
  repeat' ((fail_if_success (with_reducible show wpAny _ _ (eval (Expr.Compare _ _ _ _) _) _ _ _)); first | (k_unfold; (try dsimp only)) | (k_end; wrow_close) | walk1 | (dsimp only; walk1) | fail "no step")
  · rw [onT_a (t := (X1, Y1, Z1)) (by assumption)] at hret
    exact hret _ _ _ (by k_asm) (by k_asm) (fun e he => .tail _ (s2 e (by repeat (first | exact he | refine List.Mem.tail _ ?_))))
  refine wpAny_Compare1 (fcmp_ok (S := [("b", c), ("x", X1), ("y", Y1), ("z", Z1)]) (v := sF q (mF q (mF q Y1 Y1) Z1) (mF q (mF q X1 X1) X1)) (u := mF q c (mF q (mF q Z1 Z1) Z1)) (fops2 hp) (by k_asm) (by k_asm) (by k_asm) (by k_asm) (by k_asm) (by first | exact rfl | assumption) (by ktr_room) (by ktr_units) (Loc.of ["b", "x", "y", "z"] rfl (by decide +kernel)) (SOk.cons (by exact rfl) (FqM.mono Jb (fun e he => .tail _ (s2 e (by repeat (first | exact he | refine List.Mem.tail _ ?_))))) Ib (SOk.cons (by exact rfl) ((FqM.mono ⟨dx1, x11, x12, x13, x14, jx1, jdx1⟩ (fun e he => .tail _ (s2 e (by repeat (first | exact he | refine List.Mem.tail _ ?_)))))) bx1 (SOk.cons (by exact rfl) ((FqM.mono ⟨dy1, y11, y12, y13, y14, jy1, jdy1⟩ (fun e he => .tail _ (s2 e (by repeat (first | exact he | refine List.Mem.tail _ ?_)))))) by1 (SOk.cons (by exact rfl) ((FqM.mono ⟨dz1, z11, z12, z13, z14, jz1, jdz1⟩ (fun e he => .tail _ (s2 e (by repeat (first | exact he | refine List.Mem.tail _ ?_)))))) bz1 SOk.nil)))) (by kernel_rfl) (by kernel_rfl) ?_) rfl
  intro news3 h3 tk3 F3 N3 s3 S3
  k_steps

  rw [onT_b (t := (X1, Y1, Z1)) (by assumption)] at hret
  exact hret _ _ _ (by k_asm) (by k_asm) (fun e he => s3 e (.tail _ (s2 e (by repeat (first | exact he | refine List.Mem.tail _ ?_)))))

set_option maxRecDepth 100000 in
set_option maxHeartbeats 0 in
theorem ceq2 {q : Int} {v1 v2 : Addr} {t u : Tr}
    (B : Below A₀ base outer h₀) (F : Fr h₀ L s.heap m) (X : (kk.heap_1 w.params).In h₀) (N : News h₀ L s.heap news) (T : Top p loose mean mg mb h₀) (hk : cs.kind = .function)
    (hd : dp + 34 < recursionLimit) (hu : un + 272 < cLine) (hp : Pr q) (J1 : JacM 417 w.params news q v1 t) (I1 : RgT q t) (J2 : JacM 417 w.params news q v2 u) (I2 : RgT q u) (hret : ∀ (news' : List (Addr × Obj)) (h' : Heap) (tk' : Nat), Fr h₀ L h' m → News h₀ L h' news' → (∀ e ∈ news, e ∈ news') → Q (.bool (eqT q t u)) { s with heap := h', toks := tk' }) :
    wpAny (model PySem.Challenge.pw_lh0034_01 w) (ktrTop dp un gd cn cs L a ccd cl outer) (call (.ref 463) [.ref v1, .ref v2]) Q E s := by
  have hq : 0 < q ∧ q ≤ 127 := ⟨hp.pos, hp.hi⟩
  have J1' := J1
  obtain ⟨n1, x1, y1, z1, j1, ⟨dx1, x11, x12, x13, x14, jx1, jdx1⟩, ⟨dy1, y11, y12, y13, y14, jy1, jdy1⟩, ⟨dz1, z11, z12, z13, z14, jz1, jdz1⟩⟩ := J1
  obtain ⟨X1, Y1, Z1⟩ := t
  have I1' := I1
  obtain ⟨bx1, by1, bz1⟩ := I1
  dsimp only at bx1 by1 bz1 jdx1 jdy1 jdz1 I1'
  have J2' := J2
  obtain ⟨n2, x2, y2, z2, j2, ⟨dx2, x21, x22, x23, x24, jx2, jdx2⟩, ⟨dy2, y21, y22, y23, y24, jy2, jdy2⟩, ⟨dz2, z21, z22, z23, z24, jz2, jdz2⟩⟩ := J2
  obtain ⟨X2, Y2, Z2⟩ := u
  have I2' := I2
  obtain ⟨bx2, by2, bz2⟩ := I2
  dsimp only at bx2 by2 bz2 jdx2 jdy2 jdz2 I2'
  have N := add7 N j2 jx2 jdx2 jy2 jdy2 jz2 jdz2
  have N := add7 N (sub7 _ j1) (sub7 _ jx1) (sub7 _ jdx1) (sub7 _ jy1) (sub7 _ jdy1) (sub7 _ jz1) (sub7 _ jdz1)
  refine wpAny_call ?_
  k_dflt ktr_enter
  repeat' ((fail_if_success (with_reducible show wpAny _ _ (eval (Expr.Compare _ _ _ _) _) _ _ _)); first | (k_unfold; (try dsimp only)) | (k_end; wrow_close) | walk1 | (dsimp only; walk1) | fail "no step")
  refine wpAny_Compare1 (fcmp_ok (S := [("x1", X1), ("y1", Y1), ("z1", Z1), ("x2", X2), ("y2", Y2), ("z2", Z2)]) (v := mF q X1 Z2) (u := mF q X2 Z1) (fops2 hp) (by k_asm) (by k_asm) (by k_asm) (by k_asm) (by k_asm) (by first | exact rfl | assumption) (by ktr_room) (by ktr_units) (Loc.of ["x1", "y1", "z1", "x2", "y2", "z2"] rfl (by decide +kernel)) (SOk.cons (by exact rfl) (⟨_, _, _, _, _, by repeat (first | exact List.Mem.head _ | refine List.Mem.tail _ ?_), by repeat (first | exact List.Mem.head _ | refine List.Mem.tail _ ?_)⟩) bx1 (SOk.cons (by exact rfl) (⟨_, _, _, _, _, by repeat (first | exact List.Mem.head _ | refine List.Mem.tail _ ?_), by repeat (first | exact List.Mem.head _ | refine List.Mem.tail _ ?_)⟩) by1 (SOk.cons (by exact rfl) (⟨_, _, _, _, _, by repeat (first | exact List.Mem.head _ | refine List.Mem.tail _ ?_), by repeat (first | exact List.Mem.head _ | refine List.Mem.tail _ ?_)⟩) bz1 (SOk.cons (by exact rfl) (⟨_, _, _, _, _, by repeat (first | exact List.Mem.head _ | refine List.Mem.tail _ ?_), by repeat (first | exact List.Mem.head _ | refine List.Mem.tail _ ?_)⟩) bx2 (SOk.cons (by exact rfl) (⟨_, _, _, _, _, by repeat (first | exact List.Mem.head _ | refine List.Mem.tail _ ?_), by repeat (first | exact List.Mem.head _ | refine List.Mem.tail _ ?_)⟩) by2 (SOk.cons (by exact rfl) (⟨_, _, _, _, _, by repeat (first | exact List.Mem.head _ | refine List.Mem.tail _ ?_), by repeat (first | exact List.Mem.head _ | refine List.Mem.tail _ ?_)⟩) bz2 SOk.nil)))))) (by kernel_rfl) (by kernel_rfl) ?_) rfl
  intro news2 h2 tk2 F2 N2 s2 S2
  repeat' ((fail_if_success (with_reducible show wpAny _ _ (eval (Expr.Compare _ _ _ _) _) _ _ _)); first | (k_unfold; (try dsimp only)) | (k_end; wrow_close) | walk1 | (dsimp only; walk1) | fail "no step")
  · refine wpAny_Compare1 (fcmp_ok (S := [("x1", X1), ("y1", Y1), ("z1", Z1), ("x2", X2), ("y2", Y2), ("z2", Z2)]) (v := mF q Y1 Z2) (u := mF q Y2 Z1) (fops2 hp) (by k_asm) (by k_asm) (by k_asm) (by k_asm) (by k_asm) (by first | exact rfl | assumption) (by ktr_room) (by ktr_units) (Loc.of ["x1", "y1", "z1", "x2", "y2", "z2"] rfl (by decide +kernel)) S2 (by kernel_rfl) (by kernel_rfl) ?_) rfl
    intro news3 h3 tk3 F3 N3 s3 S3
    k_steps
    rw [eqT_b (t := (X1, Y1, Z1)) (u := (X2, Y2, Z2)) (by assumption)] at hret
    exact hret _ _ _ (by k_asm) (by k_asm) (fun e he => (s3 e (s2 e (by repeat (first | exact he | refine List.Mem.tail _ ?_)))))
  · have hne : ¬ mF q X1 Z2 = mF q X2 Z1 := by assumption
    rw [(eqT_a (t := (X1, Y1, Z1)) (u := (X2, Y2, Z2)) hne).trans (decide_eq_false hne).symm] at hret
    exact hret _ _ _ (by k_asm) (by k_asm) (fun e he => (s2 e (by repeat (first | exact he | refine List.Mem.tail _ ?_))))

 

set_option maxRecDepth 100000 in
set_option maxHeartbeats 0 in
theorem cneg1 {q : Int} {v : Addr} {t : Tr}
    (B : Below A₀ base outer h₀) (F : Fr h₀ L s.heap m) (X : (kk.heap_1 w.params).In h₀) (N : News h₀ L s.heap news) (T : Top p loose mean mg mb h₀) (hk : cs.kind = .function)
    (hd : dp + 16 < recursionLimit) (hu : un + 128 < cLine) (hp : Pr q) (J : JacM 417 w.params news q v t) (I : RgT q t) (hret : ∀ (r : Addr) (news' : List (Addr × Obj)) (h' : Heap) (tk' : Nat), Fr h₀ L h' m → News h₀ L h' news' → (∀ e ∈ news, e ∈ news') → JacM 417 w.params news' q r (negT q t) → RgT q (negT q t) → Q (.ref r) { s with heap := h', toks := tk' }) :
    wpAny (model PySem.Challenge.pw_lh0034_01 w) (ktrTop dp un gd cn cs L a ccd cl outer) (call (.ref 77) [.ref v]) Q E s := by
  have hq : 0 < q ∧ q ≤ 127 := ⟨hp.pos, hp.hi⟩
  have hq1 : 1 < q ∧ q ≤ 127 := ⟨by have := hp.lo; omega, hp.hi⟩
  have J1' := J
  obtain ⟨n1, x1, y1, z1, j1, ⟨dx1, x11, x12, x13, x14, jx1, jdx1⟩, ⟨dy1, y11, y12, y13, y14, jy1, jdy1⟩, ⟨dz1, z11, z12, z13, z14, jz1, jdz1⟩⟩ := J
  obtain ⟨X1, Y1, Z1⟩ := t
  have I1' := I
  obtain ⟨bx1, by1, bz1⟩ := I
  dsimp only at bx1 by1 bz1 jdx1 jdy1 jdz1 I1'
  have N := add7 N j1 jx1 jdx1 jy1 jdy1 jz1 jdz1
  refine wpAny_call ?_
  k_dflt ktr_enter
  repeat' ((fail_if_success (with_reducible show wpAny _ _ (eval (Expr.Tuple _ _ _) _) _ _ _)); first | (k_unfold; (try dsimp only)) | (k_end; wrow_close) | walk1 | (dsimp only; walk1) | fail "no step")
  refine ftuple_ok (S := [("x", X1), ("y", Y1), ("z", Z1)]) (fops2 hp) (vs := [X1, nF q Y1, Z1]) (by k_asm) (by k_asm) (by k_asm) (by k_asm) (by k_asm) (by first | exact rfl | assumption) (by ktr_room) (by ktr_units) (Loc.of ["x", "y", "z"] rfl (by decide +kernel)) (SOk.cons (by exact rfl) (⟨_, _, _, _, _, by repeat (first | exact List.Mem.head _ | refine List.Mem.tail _ ?_), by repeat (first | exact List.Mem.head _ | refine List.Mem.tail _ ?_)⟩) bx1 (SOk.cons (by exact rfl) (⟨_, _, _, _, _, by repeat (first | exact List.Mem.head _ | refine List.Mem.tail _ ?_), by repeat (first | exact List.Mem.head _ | refine List.Mem.tail _ ?_)⟩) by1 (SOk.cons (by exact rfl) (⟨_, _, _, _, _, by repeat (first | exact List.Mem.head _ | refine List.Mem.tail _ ?_), by repeat (first | exact List.Mem.head _ | refine List.Mem.tail _ ?_)⟩) bz1 SOk.nil))) (by kernel_rfl) (by decide) ?_
  intro r xs news2 h2 tk2 F2 N2 s2 a2
  k_steps

  exact hret r _ _ _ (by k_asm) (by k_asm) (fun e he => .tail _ (s2 e (by repeat (first | exact he | refine List.Mem.tail _ ?_)))) (jac_all (r := r) a2).1 (jac_all (r := r) a2).2

set_option maxRecDepth 100000 in
set_option maxHeartbeats 0 in
theorem cnorm1 {q : Int} {v : Addr} {t : Tr}
    (B : Below A₀ base outer h₀) (F : Fr h₀ L s.heap m) (X : (kk.heap_1 w.params).In h₀) (N : News h₀ L s.heap news) (T : Top p loose mean mg mb h₀) (hk : cs.kind = .function)
    (hd : dp + 16 < recursionLimit) (hu : un + 128 < cLine) (hp : Pr q) (J : JacM 417 w.params news q v t) (I : RgT q t) (hret : ∀ (r : Addr) (news' : List (Addr × Obj)) (h' : Heap) (tk' : Nat), Fr h₀ L h' m → News h₀ L h' news' → (∀ e ∈ news, e ∈ news') → PairM 417 w.params news' q r (nrm q t) → Rg q (nrm q t).1 → Rg q (nrm q t).2 → Q (.ref r) { s with heap := h', toks := tk' }) :
    wpAny (model PySem.Challenge.pw_lh0034_01 w) (ktrTop dp un gd cn cs L a ccd cl outer) (call (.ref 70) [.ref v]) Q E s := by
  have hq : 0 < q ∧ q ≤ 127 := ⟨hp.pos, hp.hi⟩
  have hq1 : 1 < q ∧ q ≤ 127 := ⟨by have := hp.lo; omega, hp.hi⟩
  have J1' := J
  obtain ⟨n1, x1, y1, z1, j1, ⟨dx1, x11, x12, x13, x14, jx1, jdx1⟩, ⟨dy1, y11, y12, y13, y14, jy1, jdy1⟩, ⟨dz1, z11, z12, z13, z14, jz1, jdz1⟩⟩ := J
  obtain ⟨X1, Y1, Z1⟩ := t
  have I1' := I
  obtain ⟨bx1, by1, bz1⟩ := I
  dsimp only at bx1 by1 bz1 jdx1 jdy1 jdz1 I1'
  have N := add7 N j1 jx1 jdx1 jy1 jdy1 jz1 jdz1
  refine wpAny_call ?_
  k_dflt ktr_enter
  repeat' ((fail_if_success (with_reducible show wpAny _ _ (eval (Expr.Tuple _ _ _) _) _ _ _)); first | (k_unfold; (try dsimp only)) | (k_end; wrow_close) | walk1 | (dsimp only; walk1) | fail "no step")
  refine ftuple_ok (S := [("x", X1), ("y", Y1), ("z", Z1)]) (fops2 hp) (vs := [dF q X1 Z1, dF q Y1 Z1]) (by k_asm) (by k_asm) (by k_asm) (by k_asm) (by k_asm) (by first | exact rfl | assumption) (by ktr_room) (by ktr_units) (Loc.of ["x", "y", "z"] rfl (by decide +kernel)) (SOk.cons (by exact rfl) (⟨_, _, _, _, _, by repeat (first | exact List.Mem.head _ | refine List.Mem.tail _ ?_), by repeat (first | exact List.Mem.head _ | refine List.Mem.tail _ ?_)⟩) bx1 (SOk.cons (by exact rfl) (⟨_, _, _, _, _, by repeat (first | exact List.Mem.head _ | refine List.Mem.tail _ ?_), by repeat (first | exact List.Mem.head _ | refine List.Mem.tail _ ?_)⟩) by1 (SOk.cons (by exact rfl) (⟨_, _, _, _, _, by repeat (first | exact List.Mem.head _ | refine List.Mem.tail _ ?_), by repeat (first | exact List.Mem.head _ | refine List.Mem.tail _ ?_)⟩) bz1 SOk.nil))) (by kernel_rfl) (by decide) ?_
  intro r xs news2 h2 tk2 F2 N2 s2 a2
  k_steps

  exact hret r _ _ _ (by k_asm) (by k_asm) (fun e he => .tail _ (s2 e (by repeat (first | exact he | refine List.Mem.tail _ ?_)))) (pair_all (r := r) a2).1 (pair_all (r := r) a2).2.1 (pair_all (r := r) a2).2.2

set_option maxRecDepth 100000 in
set_option maxHeartbeats 0 in
theorem cinf1 {q : Int} {v : Addr} {t : Tr}
    (B : Below A₀ base outer h₀) (F : Fr h₀ L s.heap m) (X : (kk.heap_1 w.params).In h₀) (N : News h₀ L s.heap news) (T : Top p loose mean mg mb h₀) (hk : cs.kind = .function)
    (hd : dp + 16 < recursionLimit) (hu : un + 128 < cLine) (hp : Pr q) (J : JacM 417 w.params news q v t) (I : RgT q t) (hret : ∀ (news' : List (Addr × Obj)) (h' : Heap) (tk' : Nat), Fr h₀ L h' m → News h₀ L h' news' → (∀ e ∈ news, e ∈ news') → Q (.bool (decide (t.2.2 = 0))) { s with heap := h', toks := tk' }) :
    wpAny (model PySem.Challenge.pw_lh0034_01 w) (ktrTop dp un gd cn cs L a ccd cl outer) (call (.ref 28) [.ref v]) Q E s := by
  have hq : 0 < q ∧ q ≤ 127 := ⟨hp.pos, hp.hi⟩
  have hq1 : 1 < q ∧ q ≤ 127 := ⟨by have := hp.lo; omega, hp.hi⟩
  have J1' := J
  obtain ⟨n1, x1, y1, z1, j1, ⟨dx1, x11, x12, x13, x14, jx1, jdx1⟩, ⟨dy1, y11, y12, y13, y14, jy1, jdy1⟩, ⟨dz1, z11, z12, z13, z14, jz1, jdz1⟩⟩ := J
  obtain ⟨X1, Y1, Z1⟩ := t
  have I1' := I
  obtain ⟨bx1, by1, bz1⟩ := I
  dsimp only at bx1 by1 bz1 jdx1 jdy1 jdz1 I1'
  have N := add7 N j1 jx1 jdx1 jy1 jdy1 jz1 jdz1
  refine wpAny_call ?_
  k_dflt ktr_enter
  k_steps
  exact hret _ _ _ (by k_asm) (by k_asm) (fun e he => (by repeat (first | exact he | refine List.Mem.tail _ ?_)))

set_option maxRecDepth 100000 in
set_option maxHeartbeats 0 in
theorem con1 {q c : Int} {v vb : Addr} {t : Tr}
    (B : Below A₀ base outer h₀) (F : Fr h₀ L s.heap m) (X : (kk.heap_1 w.params).In h₀) (N : News h₀ L s.heap news) (T : Top p loose mean mg mb h₀) (hk : cs.kind = .function)
    (hd : dp + 34 < recursionLimit) (hu : un + 272 < cLine) (hp : Pr q) (J : JacM 417 w.params news q v t) (I : RgT q t) (Jb : FqM 417 w.params news q vb c) (Ib : Rg q c) (hret : ∀ (news' : List (Addr × Obj)) (h' : Heap) (tk' : Nat), Fr h₀ L h' m → News h₀ L h' news' → (∀ e ∈ news, e ∈ news') → Q (.bool (onT q t c)) { s with heap := h', toks := tk' }) :
    wpAny (model PySem.Challenge.pw_lh0034_01 w) (ktrTop dp un gd cn cs L a ccd cl outer) (call (.ref 35) [.ref v, .ref vb]) Q E s := by
  have hq : 0 < q ∧ q ≤ 127 := ⟨hp.pos, hp.hi⟩
  have hq1 : 1 < q ∧ q ≤ 127 := ⟨by have := hp.lo; omega, hp.hi⟩
  have J1' := J
  obtain ⟨n1, x1, y1, z1, j1, ⟨dx1, x11, x12, x13, x14, jx1, jdx1⟩, ⟨dy1, y11, y12, y13, y14, jy1, jdy1⟩, ⟨dz1, z11, z12, z13, z14, jz1, jdz1⟩⟩ := J
  obtain ⟨X1, Y1, Z1⟩ := t
  have I1' := I
  obtain ⟨bx1, by1, bz1⟩ := I
  dsimp only at bx1 by1 bz1 jdx1 jdy1 jdz1 I1'
  have N := add7 N j1 jx1 jdx1 jy1 jdy1 jz1 jdz1
  refine wpAny_call ?_
  k_dflt ktr_enter
  repeat' ((fail_if_success (with_reducible show wpAny _ _ (call (Value.ref 28) _) _ _ _)); first | (k_unfold; (try dsimp only)) | (k_end; wrow_close) | walk1 | (dsimp only; walk1) | fail "no step")
  k_dflt (refine' cinf1 ?B ?F ?X ?N ?T ?K ?hd ?hu hp (JacM.mono J1' ?sub) I1' ?_; (case B => k_asm); (case F => k_asm); (case X => k_asm); (case N => k_asm); (case T => k_asm); (case K => first | exact rfl | assumption); (case hd => ktr_room); (case hu => ktr_units); (case sub => exact (fun e he => (by repeat (first | exact he | refine List.Mem.tail _ ?_)))))
  intro news2 h2 tk2 F2 N2 s2
  have N2 := addE N2 (s2 _ (.head _))
  (try dsimp only)
  repeat' ((fail_if_success (with_reducible show wpAny _ _ (eval (Expr.Compare _ _ _ _) _) _ _ _)); first | (k_unfold; (try dsimp only)) | (k_end; wrow_close) | walk1 | (dsimp only; walk1) | fail "no step")
  · rw [onT_a (t := (X1, Y1, Z1)) (by assumption)] at hret
    exact hret _ _ _ (by k_asm) (by k_asm) (fun e he => .tail _ (s2 e (by repeat (first | exact he | refine List.Mem.tail _ ?_))))
  refine wpAny_Compare1 (fcmp_ok (S := [("b", c), ("x", X1), ("y", Y1), ("z", Z1)]) (v := sF q (mF q (mF q Y1 Y1) Z1) (mF q (mF q X1 X1) X1)) (u := mF q c (mF q (mF q Z1 Z1) Z1)) (fops2 hp) (by k_asm) (by k_asm) (by k_asm) (by k_asm) (by k_asm) (by first | exact rfl | assumption) (by ktr_room) (by ktr_units) (Loc.of ["b", "x", "y", "z"] rfl (by decide +kernel)) (SOk.cons (by exact rfl) (FqM.mono Jb (fun e he => .tail _ (s2 e (by repeat (first | exact he | refine List.Mem.tail _ ?_))))) Ib (SOk.cons (by exact rfl) ((FqM.mono ⟨dx1, x11, x12, x13, x14, jx1, jdx1⟩ (fun e he => .tail _ (s2 e (by repeat (first | exact he | refine List.Mem.tail _ ?_)))))) bx1 (SOk.cons (by exact rfl) ((FqM.mono ⟨dy1, y11, y12, y13, y14, jy1, jdy1⟩ (fun e he => .tail _ (s2 e (by repeat (first | exact he | refine List.Mem.tail _ ?_)))))) by1 (SOk.cons (by exact rfl) ((FqM.mono ⟨dz1, z11, z12, z13, z14, jz1, jdz1⟩ (fun e he => .tail _ (s2 e (by repeat (first | exact he | refine List.Mem.tail _ ?_)))))) bz1 SOk.nil)))) (by kernel_rfl) (by kernel_rfl) ?_) rfl
  intro news3 h3 tk3 F3 N3 s3 S3
  k_steps

  rw [onT_b (t := (X1, Y1, Z1)) (by assumption)] at hret
  exact hret _ _ _ (by k_asm) (by k_asm) (fun e he => s3 e (.tail _ (s2 e (by repeat (first | exact he | refine List.Mem.tail _ ?_)))))

set_option maxRecDepth 100000 in
set_option maxHeartbeats 0 in
theorem ceq1 {q : Int} {v1 v2 : Addr} {t u : Tr}
    (B : Below A₀ base outer h₀) (F : Fr h₀ L s.heap m) (X : (kk.heap_1 w.params).In h₀) (N : News h₀ L s.heap news) (T : Top p loose mean mg mb h₀) (hk : cs.kind = .function)
    (hd : dp + 34 < recursionLimit) (hu : un + 272 < cLine) (hp : Pr q) (J1 : JacM 417 w.params news q v1 t) (I1 : RgT q t) (J2 : JacM 417 w.params news q v2 u) (I2 : RgT q u) (hret : ∀ (news' : List (Addr × Obj)) (h' : Heap) (tk' : Nat), Fr h₀ L h' m → News h₀ L h' news' → (∀ e ∈ news, e ∈ news') → Q (.bool (eqT q t u)) { s with heap := h', toks := tk' }) :
    wpAny (model PySem.Challenge.pw_lh0034_01 w) (ktrTop dp un gd cn cs L a ccd cl outer) (call (.ref 63) [.ref v1, .ref v2]) Q E s := by
  have hq : 0 < q ∧ q ≤ 127 := ⟨hp.pos, hp.hi⟩
  have J1' := J1
  obtain ⟨n1, x1, y1, z1, j1, ⟨dx1, x11, x12, x13, x14, jx1, jdx1⟩, ⟨dy1, y11, y12, y13, y14, jy1, jdy1⟩, ⟨dz1, z11, z12, z13, z14, jz1, jdz1⟩⟩ := J1
  obtain ⟨X1, Y1, Z1⟩ := t
  have I1' := I1
  obtain ⟨bx1, by1, bz1⟩ := I1
  dsimp only at bx1 by1 bz1 jdx1 jdy1 jdz1 I1'
  have J2' := J2
  obtain ⟨n2, x2, y2, z2, j2, ⟨dx2, x21, x22, x23, x24, jx2, jdx2⟩, ⟨dy2, y21, y22, y23, y24, jy2, jdy2⟩, ⟨dz2, z21, z22, z23, z24, jz2, jdz2⟩⟩ := J2
  obtain ⟨X2, Y2, Z2⟩ := u
  have I2' := I2
  obtain ⟨bx2, by2, bz2⟩ := I2
  dsimp only at bx2 by2 bz2 jdx2 jdy2 jdz2 I2'
  have N := add7 N j2 jx2 jdx2 jy2 jdy2 jz2 jdz2
  have N := add7 N (sub7 _ j1) (sub7 _ jx1) (sub7 _ jdx1) (sub7 _ jy1) (sub7 _ jdy1) (sub7 _ jz1) (sub7 _ jdz1)
  refine wpAny_call ?_
  k_dflt ktr_enter
  repeat' ((fail_if_success (with_reducible show wpAny _ _ (eval (Expr.Compare _ _ _ _) _) _ _ _)); first | (k_unfold; (try dsimp only)) | (k_end; wrow_close) | walk1 | (dsimp only; walk1) | fail "no step")
  refine wpAny_Compare1 (fcmp_ok (S := [("x1", X1), ("y1", Y1), ("z1", Z1), ("x2", X2), ("y2", Y2), ("z2", Z2)]) (v := mF q X1 Z2) (u := mF q X2 Z1) (fops2 hp) (by k_asm) (by k_asm) (by k_asm) (by k_asm) (by k_asm) (by first | exact rfl | assumption) (by ktr_room) (by ktr_units) (Loc.of ["x1", "y1", "z1", "x2", "y2", "z2"] rfl (by decide +kernel)) (SOk.cons (by exact rfl) (⟨_, _, _, _, _, by repeat (first | exact List.Mem.head _ | refine List.Mem.tail _ ?_), by repeat (first | exact List.Mem.head _ | refine List.Mem.tail _ ?_)⟩) bx1 (SOk.cons (by exact rfl) (⟨_, _, _, _, _, by repeat (first | exact List.Mem.head _ | refine List.Mem.tail _ ?_), by repeat (first | exact List.Mem.head _ | refine List.Mem.tail _ ?_)⟩) by1 (SOk.cons (by exact rfl) (⟨_, _, _, _, _, by repeat (first | exact List.Mem.head _ | refine List.Mem.tail _ ?_), by repeat (first | exact List.Mem.head _ | refine List.Mem.tail _ ?_)⟩) bz1 (SOk.cons (by exact rfl) (⟨_, _, _, _, _, by repeat (first | exact List.Mem.head _ | refine List.Mem.tail _ ?_), by repeat (first | exact List.Mem.head _ | refine List.Mem.tail _ ?_)⟩) bx2 (SOk.cons (by exact rfl) (⟨_, _, _, _, _, by repeat (first | exact List.Mem.head _ | refine List.Mem.tail _ ?_), by repeat (first | exact List.Mem.head _ | refine List.Mem.tail _ ?_)⟩) by2 (SOk.cons (by exact rfl) (⟨_, _, _, _, _, by repeat (first | exact List.Mem.head _ | refine List.Mem.tail _ ?_), by repeat (first | exact List.Mem.head _ | refine List.Mem.tail _ ?_)⟩) bz2 SOk.nil)))))) (by kernel_rfl) (by kernel_rfl) ?_) rfl
  intro news2 h2 tk2 F2 N2 s2 S2
  repeat' ((fail_if_success (with_reducible show wpAny _ _ (eval (Expr.Compare _ _ _ _) _) _ _ _)); first | (k_unfold; (try dsimp only)) | (k_end; wrow_close) | walk1 | (dsimp only; walk1) | fail "no step")
  · refine wpAny_Compare1 (fcmp_ok (S := [("x1", X1), ("y1", Y1), ("z1", Z1), ("x2", X2), ("y2", Y2), ("z2", Z2)]) (v := mF q Y1 Z2) (u := mF q Y2 Z1) (fops2 hp) (by k_asm) (by k_asm) (by k_asm) (by k_asm) (by k_asm) (by first | exact rfl | assumption) (by ktr_room) (by ktr_units) (Loc.of ["x1", "y1", "z1", "x2", "y2", "z2"] rfl (by decide +kernel)) S2 (by kernel_rfl) (by kernel_rfl) ?_) rfl
    intro news3 h3 tk3 F3 N3 s3 S3
    k_steps
    rw [eqT_b (t := (X1, Y1, Z1)) (u := (X2, Y2, Z2)) (by assumption)] at hret
    exact hret _ _ _ (by k_asm) (by k_asm) (fun e he => (s3 e (s2 e (by repeat (first | exact he | refine List.Mem.tail _ ?_)))))
  · have hne : ¬ mF q X1 Z2 = mF q X2 Z1 := by assumption
    rw [(eqT_a (t := (X1, Y1, Z1)) (u := (X2, Y2, Z2)) hne).trans (decide_eq_false hne).symm] at hret
    exact hret _ _ _ (by k_asm) (by k_asm) (fun e he => (s2 e (by repeat (first | exact he | refine List.Mem.tail _ ?_))))

 

set_option maxRecDepth 100000 in
set_option maxHeartbeats 0 in
theorem cmul2_0 {q n : Int} {tn : Tok} {v : Addr} {t : Tr}
    (B : Below A₀ base outer h₀) (F : Fr h₀ L s.heap m) (X : (kk.heap_1 w.params).In h₀) (N : News h₀ L s.heap news) (T : Top p loose mean mg mb h₀) (hk : cs.kind = .function)
    (hd : dp + 30 < recursionLimit) (hu : un + 240 < cLine) (hp : Pr q) (J : JacM 417 w.params news q v t) (I : RgT q t) (hn : n = 0) (hret : ∀ (r : Addr) (news' : List (Addr × Obj)) (h' : Heap) (tk' : Nat), Fr h₀ L h' m → News h₀ L h' news' → (∀ e ∈ news, e ∈ news') → JacM 417 w.params news' q r ((1, 1, 0)) → RgT q ((1, 1, 0)) → Q (.ref r) { s with heap := h', toks := tk' }) :
    wpAny (model PySem.Challenge.pw_lh0034_01 w) (ktrTop dp un gd cn cs L a ccd cl outer) (call (.ref 456) [.ref v, .int n tn]) Q E s := by
  subst hn
  have hq : 0 < q ∧ q ≤ 127 := ⟨hp.pos, hp.hi⟩
  have hq1 : 1 < q ∧ q ≤ 127 := ⟨by have := hp.lo; omega, hp.hi⟩
  have J1' := J
  obtain ⟨n1, x1, y1, z1, j1, ⟨dx1, x11, x12, x13, x14, jx1, jdx1⟩, ⟨dy1, y11, y12, y13, y14, jy1, jdy1⟩, ⟨dz1, z11, z12, z13, z14, jz1, jdz1⟩⟩ := J
  obtain ⟨X1, Y1, Z1⟩ := t
  have I1' := I
  obtain ⟨bx1, by1, bz1⟩ := I
  dsimp only at bx1 by1 bz1 jdx1 jdy1 jdz1 I1'
  have N := add7 N j1 jx1 jdx1 jy1 jdy1 jz1 jdz1
  refine wpAny_call ?_
  k_dflt ktr_enter
  k_steps
  exact hret _ _ _ _ (by k_asm) (by k_asm) (fun e he => (by repeat (first | exact he | refine List.Mem.tail _ ?_))) ⟨_, _, _, _, .head _, ⟨_, _, _, _, _, by repeat (first | exact List.Mem.head _ | refine List.Mem.tail _ ?_), by repeat (first | exact List.Mem.head _ | refine List.Mem.tail _ ?_)⟩, ⟨_, _, _, _, _, by repeat (first | exact List.Mem.head _ | refine List.Mem.tail _ ?_), by repeat (first | exact List.Mem.head _ | refine List.Mem.tail _ ?_)⟩, ⟨_, _, _, _, _, by repeat (first | exact List.Mem.head _ | refine List.Mem.tail _ ?_), by repeat (first | exact List.Mem.head _ | refine List.Mem.tail _ ?_)⟩⟩ ⟨⟨by decide, by have := hp.lo; show (1 : Int) < q; omega⟩, ⟨by decide, by have := hp.lo; show (1 : Int) < q; omega⟩, ⟨by decide, by have := hp.lo; show (0 : Int) < q; omega⟩⟩

set_option maxRecDepth 100000 in
set_option maxHeartbeats 0 in
theorem cmul2_1 {q n : Int} {tn : Tok} {v : Addr} {t : Tr}
    (B : Below A₀ base outer h₀) (F : Fr h₀ L s.heap m) (X : (kk.heap_1 w.params).In h₀) (N : News h₀ L s.heap news) (T : Top p loose mean mg mb h₀) (hk : cs.kind = .function)
    (hd : dp + 30 < recursionLimit) (hu : un + 240 < cLine) (hp : Pr q) (J : JacM 417 w.params news q v t) (I : RgT q t) (hn : n = 1) (hret : ∀ (r : Addr) (news' : List (Addr × Obj)) (h' : Heap) (tk' : Nat), Fr h₀ L h' m → News h₀ L h' news' → (∀ e ∈ news, e ∈ news') → JacM 417 w.params news' q r (t) → RgT q (t) → Q (.ref r) { s with heap := h', toks := tk' }) :
    wpAny (model PySem.Challenge.pw_lh0034_01 w) (ktrTop dp un gd cn cs L a ccd cl outer) (call (.ref 456) [.ref v, .int n tn]) Q E s := by
  subst hn
  refine wpAny_call ?_
  k_dflt ktr_enter
  k_steps
  exact hret _ _ _ _ (by k_asm) (by k_asm) (fun e he => he) J I

set_option maxRecDepth 100000 in
set_option maxHeartbeats 0 in
theorem cmul2_2 {q n : Int} {tn : Tok} {v : Addr} {t : Tr}
    (B : Below A₀ base outer h₀) (F : Fr h₀ L s.heap m) (X : (kk.heap_1 w.params).In h₀) (N : News h₀ L s.heap news) (T : Top p loose mean mg mb h₀) (hk : cs.kind = .function)
    (hd : dp + 60 < recursionLimit) (hu : un + 480 < cLine) (hp : Pr q) (J : JacM 417 w.params news q v t) (I : RgT q t) (hn : n = 2) (hret : ∀ (r : Addr) (news' : List (Addr × Obj)) (h' : Heap) (tk' : Nat), Fr h₀ L h' m → News h₀ L h' news' → (∀ e ∈ news, e ∈ news') → JacM 417 w.params news' q r (dblT q t) → RgT q (dblT q t) → Q (.ref r) { s with heap := h', toks := tk' }) :
    wpAny (model PySem.Challenge.pw_lh0034_01 w) (ktrTop dp un gd cn cs L a ccd cl outer) (call (.ref 456) [.ref v, .int n tn]) Q E s := by
  subst hn
  have hq : 0 < q ∧ q ≤ 127 := ⟨hp.pos, hp.hi⟩
  refine wpAny_call ?_
  k_dflt ktr_enter
  repeat' ((fail_if_success (with_reducible show wpAny _ _ (call (Value.ref 442) _) _ _ _)); first | (k_unfold; (try dsimp only)) | (k_end; wrow_close) | walk1 | (dsimp only; walk1) | fail "no step")
  k_dflt (refine' dbl2 ?B ?F ?X ?N ?T ?K ?hd ?hu hp J I ?_; (case B => k_asm); (case F => k_asm); (case X => k_asm); (case N => k_asm); (case T => k_asm); (case K => first | exact rfl | assumption); (case hd => ktr_room); (case hu => ktr_units))
  intro r2 news2 h2 tk2 F2 N2 s2 J2 I2
  (try dsimp only)
  repeat' ((fail_if_success (with_reducible show wpAny _ _ (call (Value.ref 456) _) _ _ _)); first | (k_unfold; (try dsimp only)) | (k_end; wrow_close) | walk1 | (dsimp only; walk1) | fail "no step")
  k_dflt (refine' cmul2_1 ?B ?F ?X ?N ?T ?K ?hd ?hu hp J2 I2 ?hn ?_; (case B => k_asm); (case F => k_asm); (case X => k_asm); (case N => k_asm); (case T => k_asm); (case K => first | exact rfl | assumption); (case hd => ktr_room); (case hu => ktr_units); (case hn => exact rfl))
  intro r3 news3 h3 tk3 F3 N3 s3 J3 I3
  (try dsimp only)
  k_steps
  exact hret _ _ _ _ (by k_asm) (by k_asm) (fun e he => s3 e (s2 e he)) J3 I3

set_option maxRecDepth 100000 in
set_option maxHeartbeats 0 in
theorem cmul2_3 {q n : Int} {tn : Tok} {v : Addr} {t : Tr}
    (B : Below A₀ base outer h₀) (F : Fr h₀ L s.heap m) (X : (kk.heap_1 w.params).In h₀) (N : News h₀ L s.heap news) (T : Top p loose mean mg mb h₀) (hk : cs.kind = .function)
    (hd : dp + 60 < recursionLimit) (hu : un + 480 < cLine) (hp : Pr q) (J : JacM 417 w.params news q v t) (I : RgT q t) (hn : n = 3) (hret : ∀ (r : Addr) (news' : List (Addr × Obj)) (h' : Heap) (tk' : Nat), Fr h₀ L h' m → News h₀ L h' news' → (∀ e ∈ news, e ∈ news') → JacM 417 w.params news' q r (addT q (dblT q t) t) → RgT q (addT q (dblT q t) t) → Q (.ref r) { s with heap := h', toks := tk' }) :
    wpAny (model PySem.Challenge.pw_lh0034_01 w) (ktrTop dp un gd cn cs L a ccd cl outer) (call (.ref 456) [.ref v, .int n tn]) Q E s := by
  subst hn
  have hq : 0 < q ∧ q ≤ 127 := ⟨hp.pos, hp.hi⟩
  refine wpAny_call ?_
  k_dflt ktr_enter
  repeat' ((fail_if_success (with_reducible show wpAny _ _ (call (Value.ref 442) _) _ _ _)); first | (k_unfold; (try dsimp only)) | (k_end; wrow_close) | walk1 | (dsimp only; walk1) | fail "no step")
  k_dflt (refine' dbl2 ?B ?F ?X ?N ?T ?K ?hd ?hu hp J I ?_; (case B => k_asm); (case F => k_asm); (case X => k_asm); (case N => k_asm); (case T => k_asm); (case K => first | exact rfl | assumption); (case hd => ktr_room); (case hu => ktr_units))
  intro r2 news2 h2 tk2 F2 N2 s2 J2 I2
  (try dsimp only)
  repeat' ((fail_if_success (with_reducible show wpAny _ _ (call (Value.ref 456) _) _ _ _)); first | (k_unfold; (try dsimp only)) | (k_end; wrow_close) | walk1 | (dsimp only; walk1) | fail "no step")
  k_dflt (refine' cmul2_1 ?B ?F ?X ?N ?T ?K ?hd ?hu hp J2 I2 ?hn ?_; (case B => k_asm); (case F => k_asm); (case X => k_asm); (case N => k_asm); (case T => k_asm); (case K => first | exact rfl | assumption); (case hd => ktr_room); (case hu => ktr_units); (case hn => exact rfl))
  intro r3 news3 h3 tk3 F3 N3 s3 J3 I3
  (try dsimp only)
  repeat' ((fail_if_success (with_reducible show wpAny _ _ (call (Value.ref 449) _) _ _ _)); first | (k_unfold; (try dsimp only)) | (k_end; wrow_close) | walk1 | (dsimp only; walk1) | fail "no step")
  k_dflt (refine' cadd2 ?B ?F ?X ?N ?T ?K ?hd ?hu hp J3 I3 (J.mono fun e he => s3 e (s2 e he)) I ?_; (case B => k_asm); (case F => k_asm); (case X => k_asm); (case N => k_asm); (case T => k_asm); (case K => first | exact rfl | assumption); (case hd => ktr_room); (case hu => ktr_units))
  intro r4 news4 h4 tk4 F4 N4 s4 J4 I4
  (try dsimp only)
  k_steps
  exact hret _ _ _ _ (by k_asm) (by k_asm) (fun e he => s4 e (s3 e (s2 e he))) J4 I4

set_option maxRecDepth 100000 in
set_option maxHeartbeats 0 in
theorem cmul1_0 {q n : Int} {tn : Tok} {v : Addr} {t : Tr}
    (B : Below A₀ base outer h₀) (F : Fr h₀ L s.heap m) (X : (kk.heap_1 w.params).In h₀) (N : News h₀ L s.heap news) (T : Top p loose mean mg mb h₀) (hk : cs.kind = .function)
    (hd : dp + 30 < recursionLimit) (hu : un + 240 < cLine) (hp : Pr q) (J : JacM 417 w.params news q v t) (I : RgT q t) (hn : n = 0) (hret : ∀ (r : Addr) (news' : List (Addr × Obj)) (h' : Heap) (tk' : Nat), Fr h₀ L h' m → News h₀ L h' news' → (∀ e ∈ news, e ∈ news') → JacM 417 w.params news' q r ((1, 1, 0)) → RgT q ((1, 1, 0)) → Q (.ref r) { s with heap := h', toks := tk' }) :
    wpAny (model PySem.Challenge.pw_lh0034_01 w) (ktrTop dp un gd cn cs L a ccd cl outer) (call (.ref 56) [.ref v, .int n tn]) Q E s := by
  subst hn
  have hq : 0 < q ∧ q ≤ 127 := ⟨hp.pos, hp.hi⟩
  have hq1 : 1 < q ∧ q ≤ 127 := ⟨by have := hp.lo; omega, hp.hi⟩
  have J1' := J
  obtain ⟨n1, x1, y1, z1, j1, ⟨dx1, x11, x12, x13, x14, jx1, jdx1⟩, ⟨dy1, y11, y12, y13, y14, jy1, jdy1⟩, ⟨dz1, z11, z12, z13, z14, jz1, jdz1⟩⟩ := J
  obtain ⟨X1, Y1, Z1⟩ := t
  have I1' := I
  obtain ⟨bx1, by1, bz1⟩ := I
  dsimp only at bx1 by1 bz1 jdx1 jdy1 jdz1 I1'
  have N := add7 N j1 jx1 jdx1 jy1 jdy1 jz1 jdz1
  refine wpAny_call ?_
  k_dflt ktr_enter
  k_steps
  exact hret _ _ _ _ (by k_asm) (by k_asm) (fun e he => (by repeat (first | exact he | refine List.Mem.tail _ ?_))) ⟨_, _, _, _, .head _, ⟨_, _, _, _, _, by repeat (first | exact List.Mem.head _ | refine List.Mem.tail _ ?_), by repeat (first | exact List.Mem.head _ | refine List.Mem.tail _ ?_)⟩, ⟨_, _, _, _, _, by repeat (first | exact List.Mem.head _ | refine List.Mem.tail _ ?_), by repeat (first | exact List.Mem.head _ | refine List.Mem.tail _ ?_)⟩, ⟨_, _, _, _, _, by repeat (first | exact List.Mem.head _ | refine List.Mem.tail _ ?_), by repeat (first | exact List.Mem.head _ | refine List.Mem.tail _ ?_)⟩⟩ ⟨⟨by decide, by have := hp.lo; show (1 : Int) < q; omega⟩, ⟨by decide, by have := hp.lo; show (1 : Int) < q; omega⟩, ⟨by decide, by have := hp.lo; show (0 : Int) < q; omega⟩⟩

set_option maxRecDepth 100000 in
set_option maxHeartbeats 0 in
theorem cmul1_1 {q n : Int} {tn : Tok} {v : Addr} {t : Tr}
    (B : Below A₀ base outer h₀) (F : Fr h₀ L s.heap m) (X : (kk.heap_1 w.params).In h₀) (N : News h₀ L s.heap news) (T : Top p loose mean mg mb h₀) (hk : cs.kind = .function)
    (hd : dp + 30 < recursionLimit) (hu : un + 240 < cLine) (hp : Pr q) (J : JacM 417 w.params news q v t) (I : RgT q t) (hn : n = 1) (hret : ∀ (r : Addr) (news' : List (Addr × Obj)) (h' : Heap) (tk' : Nat), Fr h₀ L h' m → News h₀ L h' news' → (∀ e ∈ news, e ∈ news') → JacM 417 w.params news' q r (t) → RgT q (t) → Q (.ref r) { s with heap := h', toks := tk' }) :
    wpAny (model PySem.Challenge.pw_lh0034_01 w) (ktrTop dp un gd cn cs L a ccd cl outer) (call (.ref 56) [.ref v, .int n tn]) Q E s := by
  subst hn
  refine wpAny_call ?_
  k_dflt ktr_enter
  k_steps
  exact hret _ _ _ _ (by k_asm) (by k_asm) (fun e he => he) J I

set_option maxRecDepth 100000 in
set_option maxHeartbeats 0 in
theorem cmul1_2 {q n : Int} {tn : Tok} {v : Addr} {t : Tr}
    (B : Below A₀ base outer h₀) (F : Fr h₀ L s.heap m) (X : (kk.heap_1 w.params).In h₀) (N : News h₀ L s.heap news) (T : Top p loose mean mg mb h₀) (hk : cs.kind = .function)
    (hd : dp + 60 < recursionLimit) (hu : un + 480 < cLine) (hp : Pr q) (J : JacM 417 w.params news q v t) (I : RgT q t) (hn : n = 2) (hret : ∀ (r : Addr) (news' : List (Addr × Obj)) (h' : Heap) (tk' : Nat), Fr h₀ L h' m → News h₀ L h' news' → (∀ e ∈ news, e ∈ news') → JacM 417 w.params news' q r (dblT q t) → RgT q (dblT q t) → Q (.ref r) { s with heap := h', toks := tk' }) :
    wpAny (model PySem.Challenge.pw_lh0034_01 w) (ktrTop dp un gd cn cs L a ccd cl outer) (call (.ref 56) [.ref v, .int n tn]) Q E s := by
  subst hn
  have hq : 0 < q ∧ q ≤ 127 := ⟨hp.pos, hp.hi⟩
  refine wpAny_call ?_
  k_dflt ktr_enter
  repeat' ((fail_if_success (with_reducible show wpAny _ _ (call (Value.ref 42) _) _ _ _)); first | (k_unfold; (try dsimp only)) | (k_end; wrow_close) | walk1 | (dsimp only; walk1) | fail "no step")
  k_dflt (refine' dbl1 ?B ?F ?X ?N ?T ?K ?hd ?hu hp J I ?_; (case B => k_asm); (case F => k_asm); (case X => k_asm); (case N => k_asm); (case T => k_asm); (case K => first | exact rfl | assumption); (case hd => ktr_room); (case hu => ktr_units))
  intro r2 news2 h2 tk2 F2 N2 s2 J2 I2
  (try dsimp only)
  repeat' ((fail_if_success (with_reducible show wpAny _ _ (call (Value.ref 56) _) _ _ _)); first | (k_unfold; (try dsimp only)) | (k_end; wrow_close) | walk1 | (dsimp only; walk1) | fail "no step")
  k_dflt (refine' cmul1_1 ?B ?F ?X ?N ?T ?K ?hd ?hu hp J2 I2 ?hn ?_; (case B => k_asm); (case F => k_asm); (case X => k_asm); (case N => k_asm); (case T => k_asm); (case K => first | exact rfl | assumption); (case hd => ktr_room); (case hu => ktr_units); (case hn => exact rfl))
  intro r3 news3 h3 tk3 F3 N3 s3 J3 I3
  (try dsimp only)
  k_steps
  exact hret _ _ _ _ (by k_asm) (by k_asm) (fun e he => s3 e (s2 e he)) J3 I3

set_option maxRecDepth 100000 in
set_option maxHeartbeats 0 in
theorem cmul1_3 {q n : Int} {tn : Tok} {v : Addr} {t : Tr}
    (B : Below A₀ base outer h₀) (F : Fr h₀ L s.heap m) (X : (kk.heap_1 w.params).In h₀) (N : News h₀ L s.heap news) (T : Top p loose mean mg mb h₀) (hk : cs.kind = .function)
    (hd : dp + 60 < recursionLimit) (hu : un + 480 < cLine) (hp : Pr q) (J : JacM 417 w.params news q v t) (I : RgT q t) (hn : n = 3) (hret : ∀ (r : Addr) (news' : List (Addr × Obj)) (h' : Heap) (tk' : Nat), Fr h₀ L h' m → News h₀ L h' news' → (∀ e ∈ news, e ∈ news') → JacM 417 w.params news' q r (addT q (dblT q t) t) → RgT q (addT q (dblT q t) t) → Q (.ref r) { s with heap := h', toks := tk' }) :
    wpAny (model PySem.Challenge.pw_lh0034_01 w) (ktrTop dp un gd cn cs L a ccd cl outer) (call (.ref 56) [.ref v, .int n tn]) Q E s := by
  subst hn
  have hq : 0 < q ∧ q ≤ 127 := ⟨hp.pos, hp.hi⟩
  refine wpAny_call ?_
  k_dflt ktr_enter
  repeat' ((fail_if_success (with_reducible show wpAny _ _ (call (Value.ref 42) _) _ _ _)); first | (k_unfold; (try dsimp only)) | (k_end; wrow_close) | walk1 | (dsimp only; walk1) | fail "no step")
  k_dflt (refine' dbl1 ?B ?F ?X ?N ?T ?K ?hd ?hu hp J I ?_; (case B => k_asm); (case F => k_asm); (case X => k_asm); (case N => k_asm); (case T => k_asm); (case K => first | exact rfl | assumption); (case hd => ktr_room); (case hu => ktr_units))
  intro r2 news2 h2 tk2 F2 N2 s2 J2 I2
  (try dsimp only)
  repeat' ((fail_if_success (with_reducible show wpAny _ _ (call (Value.ref 56) _) _ _ _)); first | (k_unfold; (try dsimp only)) | (k_end; wrow_close) | walk1 | (dsimp only; walk1) | fail "no step")
  k_dflt (refine' cmul1_1 ?B ?F ?X ?N ?T ?K ?hd ?hu hp J2 I2 ?hn ?_; (case B => k_asm); (case F => k_asm); (case X => k_asm); (case N => k_asm); (case T => k_asm); (case K => first | exact rfl | assumption); (case hd => ktr_room); (case hu => ktr_units); (case hn => exact rfl))
  intro r3 news3 h3 tk3 F3 N3 s3 J3 I3
  (try dsimp only)
  repeat' ((fail_if_success (with_reducible show wpAny _ _ (call (Value.ref 49) _) _ _ _)); first | (k_unfold; (try dsimp only)) | (k_end; wrow_close) | walk1 | (dsimp only; walk1) | fail "no step")
  k_dflt (refine' cadd1 ?B ?F ?X ?N ?T ?K ?hd ?hu hp J3 I3 (J.mono fun e he => s3 e (s2 e he)) I ?_; (case B => k_asm); (case F => k_asm); (case X => k_asm); (case N => k_asm); (case T => k_asm); (case K => first | exact rfl | assumption); (case hd => ktr_room); (case hu => ktr_units))
  intro r4 news4 h4 tk4 F4 N4 s4 J4 I4
  (try dsimp only)
  k_steps
  exact hret _ _ _ _ (by k_asm) (by k_asm) (fun e he => s4 e (s3 e (s2 e he))) J4 I4

set_option maxRecDepth 100000 in
set_option maxHeartbeats 0 in
theorem pdbl {q : Int} {pv : Value} {P : Pt}
    (B : Below A₀ base outer h₀) (F : Fr h₀ L s.heap m) (X : (kk.heap_1 w.params).In h₀) (N : News h₀ L s.heap news) (T : Top p loose mean mg mb h₀) (hk : cs.kind = .function)
    (hd : dp + 20 < recursionLimit) (hu : un + 160 < cLine) (hp : Pr q) (J : PlM w.params news q pv P) (I : RgP q P) (hret : ∀ (pv' : Value) (news' : List (Addr × Obj)) (h' : Heap) (tk' : Nat), Fr h₀ L h' m → News h₀ L h' news' → (∀ e ∈ news, e ∈ news') → PlM w.params news' q pv' (P.map (plDbl q)) → RgP q (P.map (plDbl q)) → Q pv' { s with heap := h', toks := tk' }) :
    wpAny (model PySem.Challenge.pw_lh0034_01 w) (ktrTop dp un gd cn cs L a ccd cl outer) (call (.ref 91) [pv]) Q E s := by
  cases P with
  | none =>
    obtain rfl : pv = .none := J
    refine wpAny_call ?_
    k_dflt ktr_enter
    k_steps
    exact hret _ _ _ _ (by k_asm) (by k_asm) (fun e he => he) rfl trivial
  | some a =>
  obtain ⟨X1, Y1⟩ := a
  have hq : 0 < q ∧ q ≤ 127 := ⟨hp.pos, hp.hi⟩
  have J1' := J
  obtain ⟨v1, rfl, n1, x1, y1, j1, ⟨dx1, x11, x12, x13, x14, jx1, jdx1⟩, ⟨dy1, y11, y12, y13, y14, jy1, jdy1⟩⟩ := J
  have I1' := I
  obtain ⟨bx1, by1⟩ := I
  dsimp only at bx1 by1 jdx1 jdy1 I1'
  have N := add5 N j1 jx1 jdx1 jy1 jdy1
  refine wpAny_call ?_
  k_dflt ktr_enter
  repeat' ((fail_if_success (with_reducible show wpAny _ _ (execs (Stmt.Assign [Expr.Name _ _] (Expr.BinOp _ _ _ _) _ :: _) _) _ _ _)); first | (k_unfold; (try dsimp only)) | (k_end; wrow_close) | walk1 | (dsimp only; walk1) | fail "no step")
  dsimp only
  refine frun_go (S := [("x", X1), ("y", Y1)]) 3 [("newy", (sF q (aF q (mF q (nF q (dF q (mF q (mF q X1 X1) 3) (mF q Y1 2))) (sF q (mF q (dF q (mF q (mF q X1 X1) 3) (mF q Y1 2)) (dF q (mF q (mF q X1 X1) 3) (mF q Y1 2))) (mF q X1 2))) (mF q (dF q (mF q (mF q X1 X1) 3) (mF q Y1 2)) X1)) Y1)), ("newx", (sF q (mF q (dF q (mF q (mF q X1 X1) 3) (mF q Y1 2)) (dF q (mF q (mF q X1 X1) 3) (mF q Y1 2))) (mF q X1 2))), ("m", (dF q (mF q (mF q X1 X1) 3) (mF q Y1 2))), ("x", X1), ("y", Y1)] (fops1 hp) (by k_asm) (by k_asm) (by k_asm) (by k_asm) (by k_asm) (by first | exact rfl | assumption) (by ktr_room) (by ktr_units) (Loc.of ["x", "y"] rfl (by decide +kernel)) (SOk.cons (by exact rfl) (⟨_, _, _, _, _, by repeat (first | exact List.Mem.head _ | refine List.Mem.tail _ ?_), by repeat (first | exact List.Mem.head _ | refine List.Mem.tail _ ?_)⟩) bx1 (SOk.cons (by exact rfl) (⟨_, _, _, _, _, by repeat (first | exact List.Mem.head _ | refine List.Mem.tail _ ?_), by repeat (first | exact List.Mem.head _ | refine List.Mem.tail _ ?_)⟩) by1 SOk.nil)) (by kernel_rfl) ?_
  intro m2 news2 h2 tk2 F2 N2 s2 S2 l2 e2
  simp only [List.drop_succ_cons, List.drop_zero]
  repeat' ((fail_if_success (with_reducible show wpAny _ _ (eval (Expr.Tuple _ _ _) _) _ _ _)); first | (k_unfold; (try dsimp only)) | (k_end; wrow_close) | walk1 | (dsimp only; walk1) | fail "no step")
  refine ftuple_ok (fops1 hp) (vs := [(plDbl q (X1, Y1)).1, (plDbl q (X1, Y1)).2]) (by k_asm) (by k_asm) (by k_asm) (by k_asm) (by k_asm) (by first | exact rfl | assumption) (by ktr_room) (by ktr_units) l2 S2 (by kernel_rfl) (by decide) ?_
  intro r xs news3 h3 tk3 F3 N3 s3 a3
  k_steps

  exact hret _ _ _ _ (by k_asm) (by k_asm) (fun e he => .tail _ (s3 e (s2 e (by repeat (first | exact he | refine List.Mem.tail _ ?_))))) ⟨r, rfl, (pair_all (r := r) a3).1⟩ (pair_all (r := r) a3).2

set_option maxRecDepth 100000 in
set_option maxHeartbeats 0 in
theorem padd {q : Int} {pv1 pv2 : Value} {P1 P2 : Pt}
    (B : Below A₀ base outer h₀) (F : Fr h₀ L s.heap m) (X : (kk.heap_1 w.params).In h₀) (N : News h₀ L s.heap news) (T : Top p loose mean mg mb h₀) (hk : cs.kind = .function)
    (hd : dp + 40 < recursionLimit) (hu : un + 320 < cLine) (hp : Pr q) (J1 : PlM w.params news q pv1 P1) (I1 : RgP q P1) (J2 : PlM w.params news q pv2 P2) (I2 : RgP q P2) (ck : PlCk q P1 P2) (hret : ∀ (pv' : Value) (news' : List (Addr × Obj)) (h' : Heap) (tk' : Nat), Fr h₀ L h' m → News h₀ L h' news' → (∀ e ∈ news, e ∈ news') → PlM w.params news' q pv' (plAdd q P1 P2) → RgP q (plAdd q P1 P2) → Q pv' { s with heap := h', toks := tk' }) :
    wpAny (model PySem.Challenge.pw_lh0034_01 w) (ktrTop dp un gd cn cs L a ccd cl outer) (call (.ref 98) [pv1, pv2]) Q E s := by
  cases P1 with
  | none =>
    obtain rfl : pv1 = .none := J1
    cases P2 with
    | none =>
      obtain rfl : pv2 = .none := J2
      refine wpAny_call ?_
      k_dflt ktr_enter
      k_steps
      exact hret _ _ _ _ (by k_asm) (by k_asm) (fun e he => he) rfl trivial
    | some a =>
      have J2' := J2
      obtain ⟨v, rfl, _⟩ := J2
      refine wpAny_call ?_
      k_dflt ktr_enter
      k_steps
      exact hret _ _ _ _ (by k_asm) (by k_asm) (fun e he => he) J2' I2
  | some a =>
  cases P2 with
  | none =>
    obtain rfl : pv2 = .none := J2
    have J1' := J1
    obtain ⟨v, rfl, _⟩ := J1
    refine wpAny_call ?_
    k_dflt ktr_enter
    k_steps
    exact hret _ _ _ _ (by k_asm) (by k_asm) (fun e he => he) J1' I1
  | some c =>
  obtain ⟨X1, Y1⟩ := a
  obtain ⟨X2, Y2⟩ := c
  have hq : 0 < q ∧ q ≤ 127 := ⟨hp.pos, hp.hi⟩
  have J1' := J1
  obtain ⟨v1, rfl, n1, x1, y1, j1, ⟨dx1, x11, x12, x13, x14, jx1, jdx1⟩, ⟨dy1, y11, y12, y13, y14, jy1, jdy1⟩⟩ := J1
  have I1' := I1
  obtain ⟨bx1, by1⟩ := I1
  dsimp only at bx1 by1 jdx1 jdy1 I1'
  have J2' := J2
  obtain ⟨v2, rfl, n2, x2, y2, j2, ⟨dx2, x21, x22, x23, x24, jx2, jdx2⟩, ⟨dy2, y21, y22, y23, y24, jy2, jdy2⟩⟩ := J2
  have I2' := I2
  obtain ⟨bx2, by2⟩ := I2
  dsimp only at bx2 by2 jdx2 jdy2 I2'
  have N := add5 N j2 jx2 jdx2 jy2 jdy2
  have N := add5 N (sub5 _ j1) (sub5 _ jx1) (sub5 _ jdx1) (sub5 _ jy1) (sub5 _ jdy1)
  refine wpAny_call ?_
  k_dflt ktr_enter
  repeat' ((fail_if_success (with_reducible show wpAny _ _ (PySem.isTrue (Expr.Compare _ [CmpOp.Eq] _ _) _ _) _ _ _)); first | (k_unfold; (try dsimp only)) | (k_end; wrow_close) | walk1 | (dsimp only; walk1) | fail "no step")
  refine wpAny_isTrue_Compare1 (fcmp_ok (S := [("x1", X1), ("y1", Y1), ("x2", X2), ("y2", Y2)]) (v := X2) (u := X1) (fops1 hp) (by k_asm) (by k_asm) (by k_asm) (by k_asm) (by k_asm) (by first | exact rfl | assumption) (by ktr_room) (by ktr_units) (Loc.of ["x1", "y1", "x2", "y2"] rfl (by decide +kernel)) (SOk.cons (by exact rfl) (⟨_, _, _, _, _, by repeat (first | exact List.Mem.head _ | refine List.Mem.tail _ ?_), by repeat (first | exact List.Mem.head _ | refine List.Mem.tail _ ?_)⟩) bx1 (SOk.cons (by exact rfl) (⟨_, _, _, _, _, by repeat (first | exact List.Mem.head _ | refine List.Mem.tail _ ?_), by repeat (first | exact List.Mem.head _ | refine List.Mem.tail _ ?_)⟩) by1 (SOk.cons (by exact rfl) (⟨_, _, _, _, _, by repeat (first | exact List.Mem.head _ | refine List.Mem.tail _ ?_), by repeat (first | exact List.Mem.head _ | refine List.Mem.tail _ ?_)⟩) bx2 (SOk.cons (by exact rfl) (⟨_, _, _, _, _, by repeat (first | exact List.Mem.head _ | refine List.Mem.tail _ ?_), by repeat (first | exact List.Mem.head _ | refine List.Mem.tail _ ?_)⟩) by2 SOk.nil)))) (by kernel_rfl) (by kernel_rfl) ?_) rfl
  intro news2 h2 tk2 F2 N2 s2 S2
  repeat' ((fail_if_success (with_reducible show wpAny _ _ (PySem.isTrue (Expr.Compare _ [CmpOp.Eq] _ _) _ _) _ _ _)); first | (k_unfold; (try dsimp only)) | (k_end; wrow_close) | walk1 | (dsimp only; walk1) | fail "no step")
  · refine wpAny_isTrue_Compare1 (fcmp_ok (S := [("x1", X1), ("y1", Y1), ("x2", X2), ("y2", Y2)]) (v := Y2) (u := Y1) (fops1 hp) (by k_asm) (by k_asm) (by k_asm) (by k_asm) (by k_asm) (by first | exact rfl | assumption) (by ktr_room) (by ktr_units) (Loc.of ["x1", "y1", "x2", "y2"] rfl (by decide +kernel)) S2 (by kernel_rfl) (by kernel_rfl) ?_) rfl
    intro news3 h3 tk3 F3 N3 s3 S3
    repeat' ((fail_if_success (with_reducible show wpAny _ _ (PySem.isTrue (Expr.Compare _ [CmpOp.Eq] _ _) _ _) _ _ _)); (fail_if_success (with_reducible show wpAny _ _ (call (Value.ref 91) _) _ _ _)); first | (k_unfold; (try dsimp only)) | (k_end; wrow_close) | walk1 | (dsimp only; walk1) | fail "no step")
    · k_dflt (refine' pdbl ?B ?F ?X ?N ?T ?K ?hd ?hu hp (PlM.mono J1' (fun e he => (s3 e (s2 e (by repeat (first | exact he | refine List.Mem.tail _ ?_)))))) I1' ?_; (case B => k_asm); (case F => k_asm); (case X => k_asm); (case N => k_asm); (case T => k_asm); (case K => first | exact rfl | assumption); (case hd => ktr_room); (case hu => ktr_units))
      intro pv4 news4 h4 tk4 F4 N4 s4 J4 I4
      (try dsimp only)
      k_steps
      rw [plAdd_a (a := (X1, Y1)) (c := (X2, Y2)) (by assumption) (by assumption)] at hret
      exact hret _ _ _ _ (by k_asm) (by k_asm) (fun e he => s4 e ((fun e he => (s3 e (s2 e (by repeat (first | exact he | refine List.Mem.tail _ ?_))))) e he)) J4 I4
    · refine wpAny_isTrue_Compare1 (fcmp_ok (S := [("x1", X1), ("y1", Y1), ("x2", X2), ("y2", Y2)]) (v := X2) (u := X1) (fops1 hp) (by k_asm) (by k_asm) (by k_asm) (by k_asm) (by k_asm) (by first | exact rfl | assumption) (by ktr_room) (by ktr_units) (Loc.of ["x1", "y1", "x2", "y2"] rfl (by decide +kernel)) S3 (by kernel_rfl) (by kernel_rfl) ?_) rfl
      intro news4 h4 tk4 F4 N4 s4 S4
      k_steps
      rw [plAdd_b (a := (X1, Y1)) (c := (X2, Y2)) (by assumption) (by assumption)] at hret
      exact hret _ _ _ _ (by k_asm) (by k_asm) (fun e he => (s4 e (s3 e (s2 e (by repeat (first | exact he | refine List.Mem.tail _ ?_)))))) rfl trivial
  · have hxx : ¬ X2 = X1 := by assumption
    have ck' := ck (X1, Y1) (X2, Y2) rfl rfl hxx
    dsimp only [plM, plX] at ck'
    refine wpAny_isTrue_Compare1 (fcmp_ok (S := [("x1", X1), ("y1", Y1), ("x2", X2), ("y2", Y2)]) (v := X2) (u := X1) (fops1 hp) (by k_asm) (by k_asm) (by k_asm) (by k_asm) (by k_asm) (by first | exact rfl | assumption) (by ktr_room) (by ktr_units) (Loc.of ["x1", "y1", "x2", "y2"] rfl (by decide +kernel)) S2 (by kernel_rfl) (by kernel_rfl) ?_) rfl
    intro news3 h3 tk3 F3 N3 s3 S3
    repeat' ((fail_if_success (with_reducible show wpAny _ _ (execs (Stmt.Assign [Expr.Name _ _] (Expr.BinOp _ _ _ _) _ :: _) _) _ _ _)); first | (k_unfold; (try dsimp only)) | (k_end; wrow_close) | walk1 | (dsimp only; walk1) | fail "no step")
    dsimp only
    refine frun_go (S := [("x1", X1), ("y1", Y1), ("x2", X2), ("y2", Y2)]) 1 [("m", (dF q (sF q Y2 Y1) (sF q X2 X1))), ("x1", X1), ("y1", Y1), ("x2", X2), ("y2", Y2)] (fops1 hp) (by k_asm) (by k_asm) (by k_asm) (by k_asm) (by k_asm) (by first | exact rfl | assumption) (by ktr_room) (by ktr_units) (Loc.of ["x1", "y1", "x2", "y2"] rfl (by decide +kernel)) S3 (by kernel_rfl) ?_
    intro m4 news4 h4 tk4 F4 N4 s4 S4 l4 e4
    simp only [List.drop_succ_cons, List.drop_zero]
    repeat' ((fail_if_success (with_reducible show wpAny _ _ (execs (Stmt.Assign [Expr.Name _ _] (Expr.BinOp _ _ _ _) _ :: _) _) _ _ _)); first | (k_unfold; (try dsimp only)) | (k_end; wrow_close) | walk1 | (dsimp only; walk1) | fail "no step")
    dsimp only
    refine frun_go (S := [("m", (dF q (sF q Y2 Y1) (sF q X2 X1))), ("x1", X1), ("y1", Y1), ("x2", X2), ("y2", Y2)]) 2 [("newy", (sF q (aF q (mF q (nF q (dF q (sF q Y2 Y1) (sF q X2 X1))) (sF q (sF q (mF q (dF q (sF q Y2 Y1) (sF q X2 X1)) (dF q (sF q Y2 Y1) (sF q X2 X1))) X1) X2)) (mF q (dF q (sF q Y2 Y1) (sF q X2 X1)) X1)) Y1)), ("newx", (sF q (sF q (mF q (dF q (sF q Y2 Y1) (sF q X2 X1)) (dF q (sF q Y2 Y1) (sF q X2 X1))) X1) X2)), ("m", (dF q (sF q Y2 Y1) (sF q X2 X1))), ("x1", X1), ("y1", Y1), ("x2", X2), ("y2", Y2)] (fops1 hp) (by k_asm) (by k_asm) (by k_asm) (by k_asm) (by k_asm) (by first | exact rfl | assumption) (by ktr_room) (by ktr_units) l4 S4 (by kernel_rfl) ?_
    intro m5 news5 h5 tk5 F5 N5 s5 S5 l5 e5
    simp only [List.drop_succ_cons, List.drop_zero]
    repeat' ((fail_if_success (with_reducible show wpAny _ _ (PySem.isTrue (Expr.Compare _ [CmpOp.Eq] _ _) _ _) _ _ _)); (fail_if_success (with_reducible show wpAny _ _ (eval (Expr.Compare _ [CmpOp.Eq] _ _) _) _ _ _)); first | (k_unfold; (try dsimp only)) | (k_end; wrow_close) | walk1 | (dsimp only; walk1) | fail "no step")
    refine wpAny_isTrue_Compare1 (fcmp_ok (S := [("newy", (sF q (aF q (mF q (nF q (dF q (sF q Y2 Y1) (sF q X2 X1))) (sF q (sF q (mF q (dF q (sF q Y2 Y1) (sF q X2 X1)) (dF q (sF q Y2 Y1) (sF q X2 X1))) X1) X2)) (mF q (dF q (sF q Y2 Y1) (sF q X2 X1)) X1)) Y1)), ("newx", (sF q (sF q (mF q (dF q (sF q Y2 Y1) (sF q X2 X1)) (dF q (sF q Y2 Y1) (sF q X2 X1))) X1) X2)), ("m", (dF q (sF q Y2 Y1) (sF q X2 X1))), ("x1", X1), ("y1", Y1), ("x2", X2), ("y2", Y2)]) (v := (sF q (aF q (mF q (nF q (dF q (sF q Y2 Y1) (sF q X2 X1))) (sF q (sF q (mF q (dF q (sF q Y2 Y1) (sF q X2 X1)) (dF q (sF q Y2 Y1) (sF q X2 X1))) X1) X2)) (mF q (dF q (sF q Y2 Y1) (sF q X2 X1)) X1)) Y1)) (u := sF q (aF q (mF q (nF q (dF q (sF q Y2 Y1) (sF q X2 X1))) (sF q (sF q (mF q (dF q (sF q Y2 Y1) (sF q X2 X1)) (dF q (sF q Y2 Y1) (sF q X2 X1))) X1) X2)) (mF q (dF q (sF q Y2 Y1) (sF q X2 X1)) X2)) Y2) (fops1 hp) (by k_asm) (by k_asm) (by k_asm) (by k_asm) (by k_asm) (by first | exact rfl | assumption) (by ktr_room) (by ktr_units) l5 S5 (by kernel_rfl) (by kernel_rfl) ?_) rfl
    intro news6 h6 tk6 F6 N6 s6 S6
    rw [decide_eq_true ck']
    repeat' ((fail_if_success (with_reducible show wpAny _ _ (eval (Expr.Tuple _ _ _) _) _ _ _)); first | (k_unfold; (try dsimp only)) | (k_end; wrow_close) | walk1 | (dsimp only; walk1) | fail "no step")
    refine ftuple_ok (fops1 hp) (vs := [(sF q (sF q (mF q (dF q (sF q Y2 Y1) (sF q X2 X1)) (dF q (sF q Y2 Y1) (sF q X2 X1))) X1) X2), (sF q (aF q (mF q (nF q (dF q (sF q Y2 Y1) (sF q X2 X1))) (sF q (sF q (mF q (dF q (sF q Y2 Y1) (sF q X2 X1)) (dF q (sF q Y2 Y1) (sF q X2 X1))) X1) X2)) (mF q (dF q (sF q Y2 Y1) (sF q X2 X1)) X1)) Y1)]) (by k_asm) (by k_asm) (by k_asm) (by k_asm) (by k_asm) (by first | exact rfl | assumption) (by ktr_room) (by ktr_units) l5 S6 (by kernel_rfl) (by decide) ?_
    intro r xs news7 h7 tk7 F7 N7 s7 a7
    k_steps
    rw [plAdd_c (a := (X1, Y1)) (c := (X2, Y2)) (by assumption)] at hret
    dsimp only [plM, plX] at hret

    exact hret _ _ _ _ (by k_asm) (by k_asm) (fun e he => .tail _ (s7 e ((fun e he => (s6 e (s5 e (s4 e (s3 e (s2 e (by repeat (first | exact he | refine List.Mem.tail _ ?_)))))))) e he))) ⟨r, rfl, (pair_all (r := r) a7).1⟩ (pair_all (r := r) a7).2

end
theorem pow_stay {M : Model} {A : Around} {E : Value → Shared → Prop} {s : Shared} {Q : Value → Shared → Prop} {t : Sem Value} (h : wpAny M A t Q E s) : wpAny M A t Q E s := h
noncomputable def PtM (news : List (Addr × Obj)) (pv : Value) : Pt → Prop
  | none => pv = .none
  | some a => ∃ v n t1 t2, pv = .ref v ∧ (v, ({ cls := .type "tuple", data := .seq #[.int a.1 t1, .int a.2 t2] n } : Obj)) ∈ news
theorem PtM.mono {news news' : List (Addr × Obj)} {pv : Value} {t : Pt} (h : PtM news pv t) (s : ∀ e ∈ news, e ∈ news') : PtM news' pv t := by
  cases t with
  | none => exact h
  | some a => obtain ⟨v, n, t1, t2, e, p⟩ := h; exact ⟨v, n, t1, t2, e, s _ p⟩
noncomputable def ptD : Pt → PyData
  | none => .none
  | some a => .tuple [.int a.1, .int a.2]
theorem ptD_reads {h₀ h : Heap} {L : Addr} {news : List (Addr × Obj)} {pv : Value} {S : Pt} (N : News h₀ L h news) (J : PtM news pv S) : Reads h pv (ptD S) [] := by
  cases S with
  | none => obtain rfl : pv = .none := J; exact .none
  | some a => obtain ⟨v, n, t1, t2, rfl, j⟩ := J; exact reads_tuple_at (N.get j) rfl rfl (.cons (.int _ _) (.cons (.int _ _) .nil))
theorem ptD_same (S : Pt) : PyData.eqv (ptD S) (ptD S) = true := by cases S <;> simp [ptD, PyData.eqv, PyData.eqvAll]
theorem ptD_sh (S : Pt) : PySem.SeqAt.shaped (ptD S) = true := by cases S <;> rfl
section
variable {M : Model} {prog : Program} {w : World} {A : Around} {E : Value → Shared → Prop} {s : Shared} {Q : Value → Shared → Prop} {h₀ : Heap} {L : Addr} {news : List (Addr × Obj)} {a b v1 v2 v3 u1 u2 u3 : Value} {S S1 S2 S3 : Pt} {D R : Addr} {n k : Nat} {d : Bool}
theorem pt_eq (N : News h₀ L s.heap news) (Ja : PtM news a S) (Jb : PtM news b S) (hu : A.units + 64 < cLine) (h : Q (.bool true) s) : wpAny (model prog w) A (compareOp .Eq a b) Q E s :=
  eq_dataH (ptD_reads N Ja) (ptD_reads N Jb) (ptD_sh S) (ptD_sh S) hu (by rw [ptD_same]; exact h)
theorem pt_ne (N : News h₀ L s.heap news) (Ja : PtM news a S) (Jb : PtM news b S) (hu : A.units + 64 < cLine) (h : Q (.bool false) s) : wpAny (model prog w) A (compareOp .NotEq a b) Q E s :=
  ne_dataH (ptD_reads N Ja) (ptD_reads N Jb) (ptD_sh S) (ptD_sh S) hu (by rw [ptD_same]; exact h)
theorem pt_is (J : PtM news a S) (e : decide (S = none) = d) (h : Q (.bool d) s) : wpAny M A (compareOp .Is a .none) Q E s := by
  subst e
  cases S with
  | none => obtain rfl : a = .none := J; exact is_none_none h
  | some p => obtain ⟨v, n, t1, t2, rfl, j⟩ := J; exact is_ref_none h
theorem pts_eq (N : News h₀ L s.heap news) (m1 : (D, ({ cls := .type "list", data := .seq #[v1, v2, v3] n } : Obj)) ∈ news) (m2 : (R, ({ cls := .type "list", data := .seq #[u1, u2, u3] k } : Obj)) ∈ news)
    (a1 : PtM news v1 S1) (b1 : PtM news u1 S1) (a2 : PtM news v2 S2) (b2 : PtM news u2 S2) (a3 : PtM news v3 S3) (b3 : PtM news u3 S3) (hu : A.units + 64 < cLine) (h : Q (.bool true) s) : wpAny (model prog w) A (compareOp .Eq (.ref D) (.ref R)) Q E s := by
  have sh : PySem.SeqAt.shaped (.list [ptD S1, ptD S2, ptD S3]) = true := by cases S1 <;> cases S2 <;> cases S3 <;> rfl
  refine eq_dataH (reads_list_at (N.get m1) rfl rfl (.cons (ptD_reads N a1) (.cons (ptD_reads N a2) (.cons (ptD_reads N a3) .nil)))) (reads_list_at (N.get m2) rfl rfl (.cons (ptD_reads N b1) (.cons (ptD_reads N b2) (.cons (ptD_reads N b3) .nil)))) sh sh hu ?_
  simp only [PyData.eqv, PyData.eqvAll, ptD_same, Bool.and_true]
  exact h
end
local macro_rules | `(tactic| walk_at "call builtin:pow") => `(tactic| (k_here; (with_reducible show wpAny _ _ (call (Value.builtin "pow") [Value.int _ _, Value.int _ _, Value.int _ _]) _ _ _); k_dflt (refine' pow_call ?k1 ?k2 ?_; (case k1 => first | omega | assumption); (case k2 => omega); k_whole)))

set_option maxRecDepth 100000 in
set_option maxHeartbeats 0 in
theorem lat {k : Int} {tk : Tok} {l : Addr} {vs : List Value} {ns : List Int}
    (B : Below A₀ base outer h₀) (F : Fr h₀ L s.heap m) (X : (kk.heap_1 w.params).In h₀) (N : News h₀ L s.heap news) (T : Top p loose mean mg mb h₀) (hk : cs.kind = .function)
    (hd : dp + 20 < recursionLimit) (hu : un + 160 < cLine) (hl : h₀.IsList l vs.toArray) (hi : IntsAre vs ns) (hlen : ¬ (63 : Int) < (ns.length : Int)) (hk0 : 0 ≤ k ∧ k ≤ 11) (hret : ∀ (v : Int) (t' : Tok) (h' : Heap) (tk' : Nat), -1000000000 < v ∧ v < 1000000000 → Fr h₀ L h' m → News h₀ L h' news → Q (.int v t') { s with heap := h', toks := tk' }) :
    wpAny (model PySem.Challenge.pw_lh0034_01 w) (ktrTop dp un gd cn cs L a ccd cl outer) (call (.ref 491) [.ref l, .int k tk]) Q E s := by
  have hz : (vs.toArray.size : Int) < 2 ^ 63 := by have := IntsAre.sizeZ hi; omega
  refine wpAny_call ?_
  k_dflt ktr_enter
  have hl2 := Fr.lst (by assumption) hl
  have hl3 := Fr.lst (by assumption) hl2
  k_steps

  · exact hret _ _ _ _ (by omega) (by k_asm) (cb_drop (by k_asm) (by repeat (first | exact subR | refine subC ?_ | refine subS ?_)))
  · exact hret _ _ _ _ (lat_f _) (by k_asm) (cb_drop (by k_asm) (by repeat (first | exact subR | refine subC ?_ | refine subS ?_)))
  · exact hret _ _ _ _ (lat_f _) (by k_asm) (cb_drop (by k_asm) (by repeat (first | exact subR | refine subC ?_ | refine subS ?_)))
  · exact hret _ _ _ _ (by omega) (by k_asm) (cb_drop (by k_asm) (by repeat (first | exact subR | refine subC ?_ | refine subS ?_)))

set_option maxRecDepth 100000 in
set_option maxHeartbeats 0 in
theorem lcurve {q v : Int} {tq tv : Tok}
    (B : Below A₀ base outer h₀) (F : Fr h₀ L s.heap m) (X : (kk.heap_1 w.params).In h₀) (N : News h₀ L s.heap news) (T : Top p loose mean mg mb h₀) (hk : cs.kind = .function)
    (hd : dp + 20 < recursionLimit) (hu : un + 160 < cLine) (hp : Pr q) (hv : -1000000000 < v ∧ v < 1000000000) (hret : ∀ (v : Int) (t' : Tok) (h' : Heap) (tk' : Nat), 0 < v ∧ v < q ∧ Good q v → Fr h₀ L h' m → News h₀ L h' news → Q (.int v t') { s with heap := h', toks := tk' }) :
    wpAny (model PySem.Challenge.pw_lh0034_01 w) (ktrTop dp un gd cn cs L a ccd cl outer) (call (.ref 498) [.int q tq, .int v tv]) Q E s := by
  have hq7 := And.intro hp.lo hp.hi
  have hfd := lc_fd hp.lo
  k_with "exec While BoolOp cons nil" => k_while (fun _ b => 0 ≤ b ∧ b < q) (fun _ b => stepsB q b) "b"
  k_with "state" => exact lc_in (by assumption)
  k_with "measure" => first | exact lc_m1 hp (by omega) (by omega) | exact lc_m2 hp (by omega) (by assumption) | exact lc_m1 (by assumption) (by assumption) (by assumption) | exact lc_m2 (by assumption) (by assumption) (by assumption)
  refine wpAny_call ?_
  k_dflt ktr_enter
  k_steps

  exact hret _ _ _ _ (lc_end hp (by omega) (by first | assumption | omega) (by assumption)) (by k_asm) (cb_drop (by k_asm) (by repeat (first | exact subR | refine subC ?_ | refine subS ?_)))

set_option maxRecDepth 100000 in
set_option maxHeartbeats 0 in
theorem lminus {q : Int} {tq : Tok} {pv : Value} {P : Pt}
    (B : Below A₀ base outer h₀) (F : Fr h₀ L s.heap m) (X : (kk.heap_1 w.params).In h₀) (N : News h₀ L s.heap news) (T : Top p loose mean mg mb h₀) (hk : cs.kind = .function)
    (hd : dp + 20 < recursionLimit) (hu : un + 160 < cLine) (hp : Pr q) (J1 : PtM news pv P) (I1 : InP q P) (hret : ∀ (pv' : Value) (news' : List (Addr × Obj)) (h' : Heap) (tk' : Nat), Fr h₀ L h' m → News h₀ L h' news' → (∀ e ∈ news, e ∈ news') → PtM news' pv' (minusA q P) → Q pv' { s with heap := h', toks := tk' }) :
    wpAny (model PySem.Challenge.pw_lh0034_01 w) (ktrTop dp un gd cn cs L a ccd cl outer) (call (.ref 512) [.int q tq, pv]) Q E s := by
  have hq7 := And.intro hp.lo hp.hi
  cases P with
  | none =>
    obtain rfl : pv = .none := J1
    refine wpAny_call ?_
    k_dflt ktr_enter
    k_steps
    exact hret _ _ _ _ (by k_asm) (by k_asm) (fun e he => he) rfl
  | some a =>
  obtain ⟨X1, Y1⟩ := a
  obtain ⟨v1, n1, t11, t12, rfl, j1⟩ := J1
  dsimp only [InP] at I1
  have N := addE N j1
  refine wpAny_call ?_
  k_dflt ktr_enter
  k_steps

  rw [show minusA q (some (X1, Y1)) = some (X1, (q - Y1).fmod q) from congrArg (fun z => some (X1, z)) (Int.fmod_eq_emod_of_nonneg _ (by omega)).symm] at hret
  exact hret _ _ _ _ (by k_asm) (by k_asm) (fun e he => (by repeat (first | exact he | refine List.Mem.tail _ ?_))) ⟨_, _, _, _, rfl, .head _⟩

theorem st_join {prog : Program} {w : World} {A : Around} {E : Value → Shared → Prop} {s : Shared} {Q : Flow → Shared → Prop} {h₀ : Heap} {L : Addr} {m : Str → Option Value} {news : List (Addr × Obj)} {st : Stmt} {rest : List Stmt} {env : Env} (G : Prop) (F : Fr h₀ L s.heap m) (N : News h₀ L s.heap news)
    (one : ∀ R : Flow → Shared → Prop, R = (fun fl s' => (fl = .next ∧ G ∧ ∃ (h' : Heap) (tk' : Nat), s' = { s with heap := h', toks := tk' } ∧ Fr h₀ L h' m ∧ News h₀ L h' news) ∨ (fl ≠ .next ∧ Q fl s')) → wpAny (model prog w) A (exec st env) R E s)
    (go : G → ∀ (h' : Heap) (tk' : Nat), Fr h₀ L h' m → News h₀ L h' news → wpAny (model prog w) A (execs rest env) Q E { s with heap := h', toks := tk' }) : wpAny (model prog w) A (execs (st :: rest) env) Q E s := by
  refine wpAny_execs_cons (wpAny_mono (one _ rfl) (fun fl s' hq => ?_) fun _ _ e => e)
  rcases hq with ⟨rfl, g, h', tk', rfl, F', N'⟩ | ⟨ne, hq⟩
  · exact go g h' tk' F' N'
  · cases fl with
    | next => exact absurd rfl ne
    | _ => exact hq
theorem int_join {prog : Program} {w : World} {A : Around} {E : Value → Shared → Prop} {s : Shared} {Q : Flow → Shared → Prop} {h₀ : Heap} {L : Addr} {m : Str → Option Value} {news : List (Addr × Obj)} {st : Stmt} {rest : List Stmt} {env : Env} (x : Str) (v : Int) (F : Fr h₀ L s.heap m) (N : News h₀ L s.heap news)
    (one : ∀ R : Flow → Shared → Prop, R = (fun fl s' => fl = .next ∧ ∃ (t : Tok) (h' : Heap) (tk' : Nat), s' = { s with heap := h', toks := tk' } ∧ Fr h₀ L h' (fun y => if y = x then some (.int v t) else m y) ∧ News h₀ L h' news) → wpAny (model prog w) A (exec st env) R E s)
    (go : ∀ (t : Tok) (h' : Heap) (tk' : Nat), Fr h₀ L h' (fun y => if y = x then some (.int v t) else m y) → News h₀ L h' news → wpAny (model prog w) A (execs rest env) Q E { s with heap := h', toks := tk' }) : wpAny (model prog w) A (execs (st :: rest) env) Q E s := by
  refine wpAny_execs_cons (wpAny_mono (one _ rfl) (fun fl s' hq => ?_) fun _ _ e => e)
  obtain ⟨rfl, t, h', tk', rfl, F', N'⟩ := hq
  exact go t h' tk' F' N'

set_option maxRecDepth 100000 in
set_option maxHeartbeats 0 in
theorem lsumP {q : Int} {tq : Tok} {pv1 pv2 : Value} {P1 P2 : Pt}
    (B : Below A₀ base outer h₀) (F : Fr h₀ L s.heap m) (X : (kk.heap_1 w.params).In h₀) (N : News h₀ L s.heap news) (T : Top p loose mean mg mb h₀) (hk : cs.kind = .function)
    (hd : dp + 20 < recursionLimit) (hu : un + 160 < cLine) (hp : Pr q) (J1 : PtM news pv1 P1) (I1 : InP q P1) (J2 : PtM news pv2 P2) (I2 : InP q P2) (hret1 : ∀ (pv' : Value) (h' : Heap) (tk' : Nat), (∀ nw, PtM nw pv1 P1 → PtM nw pv2 P2 → PtM nw pv' (sumA q P1 P2)) → Fr h₀ L h' m → News h₀ L h' news → Q pv' { s with heap := h', toks := tk' }) (hret2 : ∀ (D : Addr) (x y : Int) (t1 t2 : Tok) (h' : Heap) (tk' : Nat), sumA q P1 P2 = some (x, y) → Fr h₀ L h' m → News h₀ L h' ((D, { cls := .type "tuple", data := .seq #[.int x t1, .int y t2] }) :: news) → AllLt D news → Q (.ref D) { s with heap := h', toks := tk' }) :
    wpAny (model PySem.Challenge.pw_lh0034_01 w) (ktrTop dp un gd cn cs L a ccd cl outer) (call (.ref 519) [.int q tq, pv1, pv2]) Q E s := by
  have hq7 := And.intro hp.lo hp.hi
  cases P1 with
  | none =>
    obtain rfl : pv1 = .none := J1
    cases P2 with
    | none =>
      obtain rfl : pv2 = .none := J2
      refine wpAny_call ?_
      k_dflt ktr_enter
      k_steps
      exact hret1 _ _ _ (fun _ _ _ => rfl) (by k_asm) (by k_asm)
    | some a =>
      have J2' := J2
      obtain ⟨v2, n2, t21, t22, rfl, j2⟩ := J2
      refine wpAny_call ?_
      k_dflt ktr_enter
      k_steps
      exact hret1 _ _ _ (fun _ _ h => h) (by k_asm) (by k_asm)
  | some a =>
  cases P2 with
  | none =>
    obtain rfl : pv2 = .none := J2
    have J1' := J1
    obtain ⟨v1, n1, t11, t12, rfl, j1⟩ := J1
    refine wpAny_call ?_
    k_dflt ktr_enter
    k_steps
    exact hret1 _ _ _ (fun _ h _ => h) (by k_asm) (by k_asm)
  | some c =>
  obtain ⟨X1, Y1⟩ := a
  obtain ⟨X2, Y2⟩ := c
  obtain ⟨v1, n1, t11, t12, rfl, j1⟩ := J1
  obtain ⟨v2, n2, t21, t22, rfl, j2⟩ := J2
  dsimp only [InP] at I1 I2 j1 j2
  have hmS := mS_b hq7 I1 I2
  have hpa := And.intro (pm_lo ((2 * Y1).fmod q) (q - 2) q) (pm_lt ((2 * Y1).fmod q) (q - 2) q hp.pos)
  have hpb := And.intro (pm_lo ((X2 - X1).fmod q) (q - 2) q) (pm_lt ((X2 - X1).fmod q) (q - 2) q hp.pos)
  have hsq := mul_b (A := 127) (B := 127) (a := X1) (b := X1) (by omega) (by omega) (by omega)
  have N := addE N j2
  have N := addE N (.tail _ j1)
  refine wpAny_call ?_
  k_dflt ktr_enter
  repeat' ((fail_if_success (with_reducible show wpAny _ _ (execs (Stmt.If (Expr.BoolOp BoolOp.And _ _) _ _ _ :: _) _) _ _ _)); first | (k_unfold; (try dsimp only)) | (k_end; wrow_close) | walk1 | (dsimp only; walk1) | fail "no step")
  refine st_join (¬ (X1 = X2 ∧ (Y1 + Y2).fmod q = 0)) (by k_asm) (by k_asm) ?_ ?_
  · intro R hR
    k_steps
    all_goals first
      | (rw [hR]; exact .inl ⟨rfl, (by first | exact fun h => absurd h.1 (by assumption) | exact fun h => absurd h.2 (by assumption)), _, _, rfl, by k_asm, by k_asm⟩)
      | (rw [hR]; refine .inr ⟨nofun, ?_⟩; k_steps; rw [sumA_none (by assumption) (by assumption)] at hret1; exact hret1 .none _ _ (fun _ _ _ => rfl) (by k_asm) (cb_drop (by k_asm) (by repeat (first | exact subR | refine subC ?_ | refine subS ?_))))
  intro g9 h9 tk9 F9 N9
  have e9 := sumA_m hp.pos g9
  repeat' ((fail_if_success (with_reducible show wpAny _ _ (execs (Stmt.If (Expr.Compare _ _ _ _) _ _ _ :: _) _) _ _ _)); first | (k_unfold; (try dsimp only)) | (k_end; wrow_close) | walk1 | (dsimp only; walk1) | fail "no step")
  refine int_join "m" (mS q X1 Y1 X2 Y2) (by k_asm) (by k_asm) ?_ ?_
  · intro R hR
    k_steps
    all_goals (rw [hR])
    · exact ⟨rfl, _, _, _, rfl, by rw [show mS q X1 Y1 X2 Y2 = _ from if_pos (by assumption)]; k_asm, by k_asm⟩
    · exact ⟨rfl, _, _, _, rfl, by rw [show mS q X1 Y1 X2 Y2 = _ from if_neg (by first | assumption | exact Bool.eq_false_iff.mp (by assumption))]; k_asm, by k_asm⟩
  intro t10 h10 tk10 F10 N10
  clear hpa hpb hsq
  generalize mS q X1 Y1 X2 Y2 = M at hmS e9 F10
  k_steps

  (rename (_ < _) ∧ (_ < _) ∧ AllLt _ _ => hl1)
  exact hret2 _ _ _ _ _ _ _ e9 (by k_asm) (cb_drop (by k_asm) (by repeat (first | exact subR | refine subC ?_ | refine subS ?_))) hl1.2.2

set_option maxRecDepth 100000 in
set_option maxHeartbeats 0 in
theorem lsum {q : Int} {tq : Tok} {pv1 pv2 : Value} {P1 P2 : Pt}
    (B : Below A₀ base outer h₀) (F : Fr h₀ L s.heap m) (X : (kk.heap_1 w.params).In h₀) (N : News h₀ L s.heap news) (T : Top p loose mean mg mb h₀) (hk : cs.kind = .function)
    (hd : dp + 20 < recursionLimit) (hu : un + 160 < cLine) (hp : Pr q) (J1 : PtM news pv1 P1) (I1 : InP q P1) (J2 : PtM news pv2 P2) (I2 : InP q P2) (hret : ∀ (pv' : Value) (news' : List (Addr × Obj)) (h' : Heap) (tk' : Nat), Fr h₀ L h' m → News h₀ L h' news' → (∀ e ∈ news, e ∈ news') → PtM news' pv' (sumA q P1 P2) → Q pv' { s with heap := h', toks := tk' }) :
    wpAny (model PySem.Challenge.pw_lh0034_01 w) (ktrTop dp un gd cn cs L a ccd cl outer) (call (.ref 519) [.int q tq, pv1, pv2]) Q E s := by

  exact lsumP B F X N T hk hd hu hp J1 I1 J2 I2 (fun pv' h' tk' hz F' N' => hret pv' _ h' tk' F' N' (fun e he => he) (hz _ J1 J2)) fun D x y t1 t2 h' tk' e F' N' _ => hret _ _ h' tk' F' N' (fun e he => .tail _ he) (by rw [e]; exact ⟨_, _, _, _, rfl, .head _⟩)

set_option maxRecDepth 100000 in
set_option maxHeartbeats 0 in
theorem lmade {q sc f : Int} {tq ts tf : Tok} {pv : Value} {P : Pt}
    (B : Below A₀ base outer h₀) (F : Fr h₀ L s.heap m) (X : (kk.heap_1 w.params).In h₀) (N : News h₀ L s.heap news) (T : Top p loose mean mg mb h₀) (hk : cs.kind = .function)
    (hd : dp + 20 < recursionLimit) (hu : un + 160 < cLine) (hp : Pr q) (J1 : PtM news pv P) (I1 : InP q P) (hs : 0 < sc ∧ sc < q) (hf : -1000000000 < f ∧ f < 1000000001) (hret : ∀ (r : Addr) (news' : List (Addr × Obj)) (h' : Heap) (tk' : Nat), Fr h₀ L h' m → News h₀ L h' news' → (∀ e ∈ news, e ∈ news') → JacM 417 w.params news' q r (madeT q P sc f) → RgT q (madeT q P sc f) → Q (.ref r) { s with heap := h', toks := tk' }) :
    wpAny (model PySem.Challenge.pw_lh0034_01 w) (ktrTop dp un gd cn cs L a ccd cl outer) (call (.ref 526) [.int q tq, pv, .int sc ts, .int f tf]) Q E s := by
  have hq7 := And.intro hp.lo hp.hi
  have hq : 0 < q ∧ q ≤ 127 := ⟨hp.pos, hp.hi⟩
  cases P with
  | none =>
    obtain rfl : pv = .none := J1
    refine wpAny_call ?_
    k_dflt ktr_enter
    k_steps
    rw [show madeT q none sc f = (f % q, sc % q, 0 % q) from by rw [Int.zero_emod]; rfl] at hret
    exact hret _ _ _ _ (by k_asm) (by k_asm) (fun e he => (by repeat (first | exact he | refine List.Mem.tail _ ?_))) ⟨_, _, _, _, .head _, ⟨_, _, _, _, _, by repeat (first | exact List.Mem.head _ | refine List.Mem.tail _ ?_), by repeat (first | exact List.Mem.head _ | refine List.Mem.tail _ ?_)⟩, ⟨_, _, _, _, _, by repeat (first | exact List.Mem.head _ | refine List.Mem.tail _ ?_), by repeat (first | exact List.Mem.head _ | refine List.Mem.tail _ ?_)⟩, ⟨_, _, _, _, _, by repeat (first | exact List.Mem.head _ | refine List.Mem.tail _ ?_), by repeat (first | exact List.Mem.head _ | refine List.Mem.tail _ ?_)⟩⟩ ⟨fin_r hq _, fin_r hq _, fin_r hq _⟩
  | some a =>
  obtain ⟨X1, Y1⟩ := a
  obtain ⟨v1, n1, t11, t12, rfl, j1⟩ := J1
  dsimp only [InP] at I1
  have N := addE N j1
  refine wpAny_call ?_
  k_dflt ktr_enter
  k_steps

  exact hret _ _ _ _ (by k_asm) (by k_asm) (fun e he => (by repeat (first | exact he | refine List.Mem.tail _ ?_))) ⟨_, _, _, _, .head _, ⟨_, _, _, _, _, by repeat (first | exact List.Mem.head _ | refine List.Mem.tail _ ?_), by repeat (first | exact List.Mem.head _ | refine List.Mem.tail _ ?_)⟩, ⟨_, _, _, _, _, by repeat (first | exact List.Mem.head _ | refine List.Mem.tail _ ?_), by repeat (first | exact List.Mem.head _ | refine List.Mem.tail _ ?_)⟩, ⟨_, _, _, _, _, by repeat (first | exact List.Mem.head _ | refine List.Mem.tail _ ?_), by repeat (first | exact List.Mem.head _ | refine List.Mem.tail _ ?_)⟩⟩ ⟨fin_r hq _, fin_r hq _, fin_r hq _⟩

set_option maxRecDepth 100000 in
set_option maxHeartbeats 0 in
theorem lplain {q : Int} {tq : Tok} {pv : Value} {P : Pt}
    (B : Below A₀ base outer h₀) (F : Fr h₀ L s.heap m) (X : (kk.heap_1 w.params).In h₀) (N : News h₀ L s.heap news) (T : Top p loose mean mg mb h₀) (hk : cs.kind = .function)
    (hd : dp + 20 < recursionLimit) (hu : un + 160 < cLine) (hp : Pr q) (J1 : PtM news pv P) (I1 : InP q P) (hret : ∀ (pv' : Value) (news' : List (Addr × Obj)) (h' : Heap) (tk' : Nat), Fr h₀ L h' m → News h₀ L h' news' → (∀ e ∈ news, e ∈ news') → PlM w.params news' q pv' (P) → RgP q (P) → Q pv' { s with heap := h', toks := tk' }) :
    wpAny (model PySem.Challenge.pw_lh0034_01 w) (ktrTop dp un gd cn cs L a ccd cl outer) (call (.ref 533) [.int q tq, pv]) Q E s := by
  have hq7 := And.intro hp.lo hp.hi
  have hq : 0 < q ∧ q ≤ 127 := ⟨hp.pos, hp.hi⟩
  cases P with
  | none =>
    obtain rfl : pv = .none := J1
    refine wpAny_call ?_
    k_dflt ktr_enter
    k_steps
    exact hret _ _ _ _ (by k_asm) (by k_asm) (fun e he => he) rfl trivial
  | some a =>
  obtain ⟨X1, Y1⟩ := a
  obtain ⟨v1, n1, t11, t12, rfl, j1⟩ := J1
  dsimp only [InP] at I1
  have N := addE N j1
  refine wpAny_call ?_
  k_dflt ktr_enter
  k_steps

  rw [show (some (X1, Y1) : Pt) = some (X1 % q, Y1 % q) from by rw [Int.emod_eq_of_lt I1.1 I1.2.1, Int.emod_eq_of_lt I1.2.2.1 I1.2.2.2]] at hret
  exact hret _ _ _ _ (by k_asm) (by k_asm) (fun e he => (by repeat (first | exact he | refine List.Mem.tail _ ?_))) ⟨_, rfl, _, _, _, .head _, ⟨_, _, _, _, _, by repeat (first | exact List.Mem.head _ | refine List.Mem.tail _ ?_), by repeat (first | exact List.Mem.head _ | refine List.Mem.tail _ ?_)⟩, ⟨_, _, _, _, _, by repeat (first | exact List.Mem.head _ | refine List.Mem.tail _ ?_), by repeat (first | exact List.Mem.head _ | refine List.Mem.tail _ ?_)⟩⟩ ⟨fin_r hq _, fin_r hq _⟩

set_option maxRecDepth 100000 in
set_option maxHeartbeats 0 in
theorem lptold {q : Int} {pv : Value} {P : Pt}
    (B : Below A₀ base outer h₀) (F : Fr h₀ L s.heap m) (X : (kk.heap_1 w.params).In h₀) (N : News h₀ L s.heap news) (T : Top p loose mean mg mb h₀) (hk : cs.kind = .function)
    (hd : dp + 20 < recursionLimit) (hu : un + 160 < cLine) (hp : Pr q) (J1 : PlM w.params news q pv P) (hret : ∀ (pv' : Value) (news' : List (Addr × Obj)) (h' : Heap) (tk' : Nat), Fr h₀ L h' m → News h₀ L h' news' → (∀ e ∈ news, e ∈ news') → PtM news' pv' (P) → Q pv' { s with heap := h', toks := tk' }) :
    wpAny (model PySem.Challenge.pw_lh0034_01 w) (ktrTop dp un gd cn cs L a ccd cl outer) (call (.ref 540) [pv]) Q E s := by
  cases P with
  | none =>
    obtain rfl : pv = .none := J1
    refine wpAny_call ?_
    k_dflt ktr_enter
    k_steps
    exact hret _ _ _ _ (by k_asm) (by k_asm) (fun e he => he) rfl
  | some a =>
  obtain ⟨X1, Y1⟩ := a
  obtain ⟨v1, rfl, n1, x1, y1, j1, ⟨dx1, x11, x12, x13, x14, jx1, jdx1⟩, ⟨dy1, y11, y12, y13, y14, jy1, jdy1⟩⟩ := J1
  dsimp only at jdx1 jdy1
  have N := add5 N j1 jx1 jdx1 jy1 jdy1

  refine wpAny_call ?_
  k_dflt ktr_enter
  k_steps

  exact hret _ _ _ _ (by k_asm) (by k_asm) (fun e he => (by repeat (first | exact he | refine List.Mem.tail _ ?_))) ⟨_, _, _, _, rfl, .head _⟩

set_option maxRecDepth 100000 in
set_option maxHeartbeats 0 in
theorem ltold0 {q : Int} {tq : Tok} {v : Addr} {t : Tr}
    (B : Below A₀ base outer h₀) (F : Fr h₀ L s.heap m) (X : (kk.heap_1 w.params).In h₀) (N : News h₀ L s.heap news) (T : Top p loose mean mg mb h₀) (hk : cs.kind = .function)
    (hd : dp + 20 < recursionLimit) (hu : un + 160 < cLine) (hp : Pr q) (J : JacM 417 w.params news q v t) (I : RgT q t) (hz : t.2.2 = 0) (hret : ∀ (h' : Heap) (tk' : Nat), Fr h₀ L h' m → News h₀ L h' news → Q .none { s with heap := h', toks := tk' }) :
    wpAny (model PySem.Challenge.pw_lh0034_01 w) (ktrTop dp un gd cn cs L a ccd cl outer) (call (.ref 547) [.int q tq, .ref v]) Q E s := by
  have hq7 := And.intro hp.lo hp.hi
  have J1' := J
  obtain ⟨n1, x1, y1, z1, j1, ⟨dx1, x11, x12, x13, x14, jx1, jdx1⟩, ⟨dy1, y11, y12, y13, y14, jy1, jdy1⟩, ⟨dz1, z11, z12, z13, z14, jz1, jdz1⟩⟩ := J
  obtain ⟨X1, Y1, Z1⟩ := t
  have I1' := I
  obtain ⟨bx1, by1, bz1⟩ := I
  dsimp only at bx1 by1 bz1 jdx1 jdy1 jdz1 I1'
  have N := add7 N j1 jx1 jdx1 jy1 jdy1 jz1 jdz1
  have hpl := And.intro (pm_lo Z1 (q - 2) q) (pm_lt Z1 (q - 2) q hp.pos)
  dsimp only [Rg] at bx1 by1 bz1
  have hz' : Z1 = 0 := hz
  refine wpAny_call ?_
  k_dflt ktr_enter
  k_steps

  · exact hret _ _ (by k_asm) (cb_drop (by k_asm) (by repeat (first | exact subR | refine subC ?_ | refine subS ?_)))
  · exact absurd hz' (by assumption)

set_option maxRecDepth 100000 in
set_option maxHeartbeats 0 in
theorem ltold1 {q : Int} {tq : Tok} {v : Addr} {t : Tr} {a9 : Int × Int}
    (B : Below A₀ base outer h₀) (F : Fr h₀ L s.heap m) (X : (kk.heap_1 w.params).In h₀) (N : News h₀ L s.heap news) (T : Top p loose mean mg mb h₀) (hk : cs.kind = .function)
    (hd : dp + 20 < recursionLimit) (hu : un + 160 < cLine) (hp : Pr q) (J : JacM 417 w.params news q v t) (I : RgT q t) (hz : told q t = some a9) (hret : ∀ (D : Addr) (t1 t2 : Tok) (h' : Heap) (tk' : Nat), Fr h₀ L h' m → News h₀ L h' ((D, { cls := .type "tuple", data := .seq #[.int a9.1 t1, .int a9.2 t2] }) :: news) → AllLt D news → Q (.ref D) { s with heap := h', toks := tk' }) :
    wpAny (model PySem.Challenge.pw_lh0034_01 w) (ktrTop dp un gd cn cs L a ccd cl outer) (call (.ref 547) [.int q tq, .ref v]) Q E s := by
  have hq7 := And.intro hp.lo hp.hi
  have J1' := J
  obtain ⟨n1, x1, y1, z1, j1, ⟨dx1, x11, x12, x13, x14, jx1, jdx1⟩, ⟨dy1, y11, y12, y13, y14, jy1, jdy1⟩, ⟨dz1, z11, z12, z13, z14, jz1, jdz1⟩⟩ := J
  obtain ⟨X1, Y1, Z1⟩ := t
  have I1' := I
  obtain ⟨bx1, by1, bz1⟩ := I
  dsimp only at bx1 by1 bz1 jdx1 jdy1 jdz1 I1'
  have N := add7 N j1 jx1 jdx1 jy1 jdy1 jz1 jdz1
  have hpl := And.intro (pm_lo Z1 (q - 2) q) (pm_lt Z1 (q - 2) q hp.pos)
  dsimp only [Rg] at bx1 by1 bz1
  have hz' : ¬ Z1 = 0 := told_ne hz
  rw [told_b hp.pos hz'] at hz
  obtain rfl := Option.some.inj hz
  refine wpAny_call ?_
  k_dflt ktr_enter
  k_steps

  · exact absurd (by assumption) hz'
  · (rename (_ < _) ∧ (_ < _) ∧ (_ < _) ∧ (_ < _) ∧ (_ < _) ∧ (_ < _) ∧ (_ < _) ∧ AllLt _ _ => hl1)
    exact hret _ _ _ _ _ (by k_asm) (cb_drop (by k_asm) (by repeat (first | exact subR | refine subC ?_ | refine subS ?_))) hl1.2.2.2.2.2.2.2

set_option maxRecDepth 100000 in
set_option maxHeartbeats 0 in
theorem ltold {q : Int} {tq : Tok} {v : Addr} {t : Tr}
    (B : Below A₀ base outer h₀) (F : Fr h₀ L s.heap m) (X : (kk.heap_1 w.params).In h₀) (N : News h₀ L s.heap news) (T : Top p loose mean mg mb h₀) (hk : cs.kind = .function)
    (hd : dp + 20 < recursionLimit) (hu : un + 160 < cLine) (hp : Pr q) (J : JacM 417 w.params news q v t) (I : RgT q t) (hret : ∀ (pv' : Value) (news' : List (Addr × Obj)) (h' : Heap) (tk' : Nat), Fr h₀ L h' m → News h₀ L h' news' → (∀ e ∈ news, e ∈ news') → PtM news' pv' (told q t) → Q pv' { s with heap := h', toks := tk' }) :
    wpAny (model PySem.Challenge.pw_lh0034_01 w) (ktrTop dp un gd cn cs L a ccd cl outer) (call (.ref 547) [.int q tq, .ref v]) Q E s := by

  by_cases hz : t.2.2 = 0
  · exact ltold0 B F X N T hk hd hu hp J I hz fun h' tk' F' N' => hret _ _ h' tk' F' N' (fun e he => he) (by rw [told_a hz]; rfl)
  · have ha := told_b hp.pos hz
    exact ltold1 B F X N T hk hd hu hp J I ha fun D t1 t2 h' tk' F' N' _ => hret _ _ h' tk' F' N' (fun e he => .tail _ he) (by rw [ha]; exact ⟨_, _, _, _, rfl, .head _⟩)

theorem pm_fit {k a e q : Int} (h : 0 < q ∧ q ≤ 127) : IntMulOk k (pm a e q) := .of_right (intBits_le_64 (by have := pm_lo a e q; omega) (by have := pm_lt a e q h.1; omega))
local macro_rules | `(tactic| walk_at "binaryOp Mult int int") => `(tactic| (k_here; (with_reducible show wpAny _ _ (binaryOp _ (Value.int _ _) (Value.int (pm _ _ _) _)) _ _ _); with_reducible refine mul_int ?_ (pm_fit ?hq9); (case hq9 => omega)))

set_option maxRecDepth 100000 in
set_option maxHeartbeats 0 in
theorem lpoint {q b v : Int} {tq tb tv : Tok}
    (B : Below A₀ base outer h₀) (F : Fr h₀ L s.heap m) (X : (kk.heap_1 w.params).In h₀) (N : News h₀ L s.heap news) (T : Top p loose mean mg mb h₀) (hk : cs.kind = .function)
    (hd : dp + 20 < recursionLimit) (hu : un + 160 < cLine) (hp : Pr q) (hb : 0 < b ∧ b < q) (hg : Good q b) (hv : -1000000000 < v ∧ v < 1000000000) (hret : ∀ (pv' : Value) (P : Pt) (news' : List (Addr × Obj)) (h' : Heap) (tk' : Nat), Fr h₀ L h' m → News h₀ L h' news' → (∀ e ∈ news, e ∈ news') → PtM news' pv' (P) → OnC q b P → Q pv' { s with heap := h', toks := tk' }) :
    wpAny (model PySem.Challenge.pw_lh0034_01 w) (ktrTop dp un gd cn cs L a ccd cl outer) (call (.ref 505) [.int q tq, .int b tb, .int v tv]) Q E s := by
  have hq7 := And.intro hp.lo hp.hi
  have hfd := lc_fd4 hp.lo
  k_with "pyIter ref" => k_search (fun pre => True)
  refine wpAny_call ?_
  k_dflt ktr_enter
  k_steps

  all_goals first
    | exact hret .none none _ _ _ (by k_asm) (by k_asm) (fun e he => he) rfl trivial
    | exact hret _ (some _) _ _ _ (by k_asm) (by k_asm) (fun e he => by repeat (first | exact he | exact List.mem_append.mpr (.inl he) | refine List.Mem.tail _ ?_)) ⟨_, _, _, _, rfl, .head _⟩ (pt_on hp hg (lc_in hq7) ⟨pm_lo _ _ _, pm_lt _ _ _ hp.pos⟩ (by assumption)).1
    | exact hret _ (some _) _ _ _ (by k_asm) (by k_asm) (fun e he => by repeat (first | exact he | exact List.mem_append.mpr (.inl he) | refine List.Mem.tail _ ?_)) ⟨_, _, _, _, rfl, .head _⟩ (pt_on hp hg (lc_in hq7) ⟨pm_lo _ _ _, pm_lt _ _ _ hp.pos⟩ (by assumption)).2

set_option maxRecDepth 100000 in
set_option maxHeartbeats 0 in
theorem pmul_0 {q n : Int} {tn : Tok} {pv : Value} {P : Pt}
    (B : Below A₀ base outer h₀) (F : Fr h₀ L s.heap m) (X : (kk.heap_1 w.params).In h₀) (N : News h₀ L s.heap news) (T : Top p loose mean mg mb h₀) (hk : cs.kind = .function)
    (hd : dp + 30 < recursionLimit) (hu : un + 240 < cLine) (hp : Pr q) (J : PlM w.params news q pv P) (I : RgP q P) (hn : n = 0) (hret : ∀ (pv' : Value) (news' : List (Addr × Obj)) (h' : Heap) (tk' : Nat), Fr h₀ L h' m → News h₀ L h' news' → (∀ e ∈ news, e ∈ news') → PlM w.params news' q pv' (none) → RgP q (none) → Q pv' { s with heap := h', toks := tk' }) :
    wpAny (model PySem.Challenge.pw_lh0034_01 w) (ktrTop dp un gd cn cs L a ccd cl outer) (call (.ref 105) [pv, .int n tn]) Q E s := by
  subst hn
  have hq : 0 < q ∧ q ≤ 127 := ⟨hp.pos, hp.hi⟩
  refine wpAny_call ?_
  k_dflt ktr_enter
  k_steps

  exact hret _ _ _ _ (by k_asm) (by k_asm) (fun e he => he) rfl trivial

set_option maxRecDepth 100000 in
set_option maxHeartbeats 0 in
theorem pmul_1 {q n : Int} {tn : Tok} {pv : Value} {P : Pt}
    (B : Below A₀ base outer h₀) (F : Fr h₀ L s.heap m) (X : (kk.heap_1 w.params).In h₀) (N : News h₀ L s.heap news) (T : Top p loose mean mg mb h₀) (hk : cs.kind = .function)
    (hd : dp + 30 < recursionLimit) (hu : un + 240 < cLine) (hp : Pr q) (J : PlM w.params news q pv P) (I : RgP q P) (hn : n = 1) (hret : ∀ (pv' : Value) (news' : List (Addr × Obj)) (h' : Heap) (tk' : Nat), Fr h₀ L h' m → News h₀ L h' news' → (∀ e ∈ news, e ∈ news') → PlM w.params news' q pv' (P) → RgP q (P) → Q pv' { s with heap := h', toks := tk' }) :
    wpAny (model PySem.Challenge.pw_lh0034_01 w) (ktrTop dp un gd cn cs L a ccd cl outer) (call (.ref 105) [pv, .int n tn]) Q E s := by
  subst hn
  have hq : 0 < q ∧ q ≤ 127 := ⟨hp.pos, hp.hi⟩
  refine wpAny_call ?_
  k_dflt ktr_enter
  k_steps

  exact hret _ _ _ _ (by k_asm) (by k_asm) (fun e he => he) J I

set_option maxRecDepth 100000 in
set_option maxHeartbeats 0 in
theorem pmul_2 {q n : Int} {tn : Tok} {pv : Value} {P : Pt}
    (B : Below A₀ base outer h₀) (F : Fr h₀ L s.heap m) (X : (kk.heap_1 w.params).In h₀) (N : News h₀ L s.heap news) (T : Top p loose mean mg mb h₀) (hk : cs.kind = .function)
    (hd : dp + 60 < recursionLimit) (hu : un + 480 < cLine) (hp : Pr q) (J : PlM w.params news q pv P) (I : RgP q P) (hn : n = 2) (hret : ∀ (pv' : Value) (news' : List (Addr × Obj)) (h' : Heap) (tk' : Nat), Fr h₀ L h' m → News h₀ L h' news' → (∀ e ∈ news, e ∈ news') → PlM w.params news' q pv' (P.map (plDbl q)) → RgP q (P.map (plDbl q)) → Q pv' { s with heap := h', toks := tk' }) :
    wpAny (model PySem.Challenge.pw_lh0034_01 w) (ktrTop dp un gd cn cs L a ccd cl outer) (call (.ref 105) [pv, .int n tn]) Q E s := by
  subst hn
  have hq : 0 < q ∧ q ≤ 127 := ⟨hp.pos, hp.hi⟩
  refine wpAny_call ?_
  k_dflt ktr_enter
  repeat' ((fail_if_success (with_reducible show wpAny _ _ (call (Value.ref 91) _) _ _ _)); first | (k_unfold; (try dsimp only)) | (k_end; wrow_close) | walk1 | (dsimp only; walk1) | fail "no step")
  k_dflt (refine' pdbl ?B ?F ?X ?N ?T ?K ?hd ?hu hp J I ?_; (case B => k_asm); (case F => k_asm); (case X => k_asm); (case N => k_asm); (case T => k_asm); (case K => first | exact rfl | assumption); (case hd => ktr_room); (case hu => ktr_units))
  intro pv2 news2 h2 tk2 F2 N2 s2 J2 I2
  (try dsimp only)
  repeat' ((fail_if_success (with_reducible show wpAny _ _ (call (Value.ref 105) _) _ _ _)); first | (k_unfold; (try dsimp only)) | (k_end; wrow_close) | walk1 | (dsimp only; walk1) | fail "no step")
  k_dflt (refine' pmul_1 ?B ?F ?X ?N ?T ?K ?hd ?hu hp J2 I2 ?hn ?_; (case B => k_asm); (case F => k_asm); (case X => k_asm); (case N => k_asm); (case T => k_asm); (case K => first | exact rfl | assumption); (case hd => ktr_room); (case hu => ktr_units); (case hn => exact rfl))
  intro pv3 news3 h3 tk3 F3 N3 s3 J3 I3
  (try dsimp only)
  k_steps

  exact hret _ _ _ _ (by k_asm) (by k_asm) (fun e he => s3 e (s2 e he)) J3 I3

set_option maxRecDepth 100000 in
set_option maxHeartbeats 0 in
theorem pmul_3 {q n : Int} {tn : Tok} {pv : Value} {P : Pt}
    (B : Below A₀ base outer h₀) (F : Fr h₀ L s.heap m) (X : (kk.heap_1 w.params).In h₀) (N : News h₀ L s.heap news) (T : Top p loose mean mg mb h₀) (hk : cs.kind = .function)
    (hd : dp + 60 < recursionLimit) (hu : un + 480 < cLine) (hp : Pr q) (J : PlM w.params news q pv P) (I : RgP q P) (hn : n = 3) (ck : PlCk q (P.map (plDbl q)) P) (hret : ∀ (pv' : Value) (news' : List (Addr × Obj)) (h' : Heap) (tk' : Nat), Fr h₀ L h' m → News h₀ L h' news' → (∀ e ∈ news, e ∈ news') → PlM w.params news' q pv' (plAdd q (P.map (plDbl q)) P) → RgP q (plAdd q (P.map (plDbl q)) P) → Q pv' { s with heap := h', toks := tk' }) :
    wpAny (model PySem.Challenge.pw_lh0034_01 w) (ktrTop dp un gd cn cs L a ccd cl outer) (call (.ref 105) [pv, .int n tn]) Q E s := by
  subst hn
  have hq : 0 < q ∧ q ≤ 127 := ⟨hp.pos, hp.hi⟩
  refine wpAny_call ?_
  k_dflt ktr_enter
  repeat' ((fail_if_success (with_reducible show wpAny _ _ (call (Value.ref 91) _) _ _ _)); first | (k_unfold; (try dsimp only)) | (k_end; wrow_close) | walk1 | (dsimp only; walk1) | fail "no step")
  k_dflt (refine' pdbl ?B ?F ?X ?N ?T ?K ?hd ?hu hp J I ?_; (case B => k_asm); (case F => k_asm); (case X => k_asm); (case N => k_asm); (case T => k_asm); (case K => first | exact rfl | assumption); (case hd => ktr_room); (case hu => ktr_units))
  intro pv2 news2 h2 tk2 F2 N2 s2 J2 I2
  (try dsimp only)
  repeat' ((fail_if_success (with_reducible show wpAny _ _ (call (Value.ref 105) _) _ _ _)); first | (k_unfold; (try dsimp only)) | (k_end; wrow_close) | walk1 | (dsimp only; walk1) | fail "no step")
  k_dflt (refine' pmul_1 ?B ?F ?X ?N ?T ?K ?hd ?hu hp J2 I2 ?hn ?_; (case B => k_asm); (case F => k_asm); (case X => k_asm); (case N => k_asm); (case T => k_asm); (case K => first | exact rfl | assumption); (case hd => ktr_room); (case hu => ktr_units); (case hn => exact rfl))
  intro pv3 news3 h3 tk3 F3 N3 s3 J3 I3
  (try dsimp only)
  repeat' ((fail_if_success (with_reducible show wpAny _ _ (call (Value.ref 98) _) _ _ _)); first | (k_unfold; (try dsimp only)) | (k_end; wrow_close) | walk1 | (dsimp only; walk1) | fail "no step")
  k_dflt (refine' padd ?B ?F ?X ?N ?T ?K ?hd ?hu hp J3 I3 (J.mono fun e he => s3 e (s2 e he)) I ck ?_; (case B => k_asm); (case F => k_asm); (case X => k_asm); (case N => k_asm); (case T => k_asm); (case K => first | exact rfl | assumption); (case hd => ktr_room); (case hu => ktr_units))
  intro pv4 news4 h4 tk4 F4 N4 s4 J4 I4
  (try dsimp only)
  k_steps

  exact hret _ _ _ _ (by k_asm) (by k_asm) (fun e he => s4 e (s3 e (s2 e he))) J4 I4

set_option maxRecDepth 100000 in
set_option maxHeartbeats 0 in
theorem lsums2 {q b : Int} {tq tb : Tok} {v1 v2 : Addr} {pvS : Value} {t u : Tr} {P1 P2 S : Pt}
    (B : Below A₀ base outer h₀) (F : Fr h₀ L s.heap m) (X : (kk.heap_1 w.params).In h₀) (N : News h₀ L s.heap news) (T : Top p loose mean mg mb h₀) (hk : cs.kind = .function)
    (hd : dp + 90 < recursionLimit) (hu : un + 720 < cLine) (hp : Pr q) (hb : 0 < b ∧ b < q) (hg : Good q b) (o1 : OnC q b P1) (o2 : OnC q b P2) (r1 : Rep q P1 t) (r2 : Rep q P2 u) (J1 : JacM 417 w.params news q v1 t) (I1 : RgT q t) (J2 : JacM 417 w.params news q v2 u) (I2 : RgT q u) (hS : sumA q P1 P2 = S) (JS : PtM news pvS S) (hret : ∀ (news' : List (Addr × Obj)) (h' : Heap) (tk' : Nat), Fr h₀ L h' m → News h₀ L h' news' → (∀ e ∈ news, e ∈ news') → Q (.bool (true)) { s with heap := h', toks := tk' }) :
    wpAny (model PySem.Challenge.pw_lh0034_01 w) (ktrTop dp un gd cn cs L a ccd cl outer) (call (.ref 554) [.int q tq, .int b tb, .bool true, .ref v1, .ref v2, pvS]) Q E s := by
  have hq7 := And.intro hp.lo hp.hi
  have hq : 0 < q ∧ q ≤ 127 := ⟨hp.pos, hp.hi⟩
  have rA := add_rep hp hg o1 o2 r1 r2
  have rB := add_rep hp hg o2 o1 r2 r1
  have oS := sum_on hp hg o1 o2
  rw [sum_comm hp hg o1 o2] at rB
  rw [hS] at rA rB oS
  refine wpAny_call ?_
  k_dflt ktr_enter
  repeat' ((fail_if_success (with_reducible show wpAny _ _ (call (Value.ref 449) _) _ _ _)); first | (k_unfold; (try dsimp only)) | (k_end; wrow_close) | walk1 | (dsimp only; walk1) | fail "no step")
  k_dflt (refine' cadd2 ?B ?F ?X ?N ?T ?K ?hd ?hu hp J1 I1 J2 I2 ?_; (case B => k_asm); (case F => k_asm); (case X => k_asm); (case N => k_asm); (case T => k_asm); (case K => first | exact rfl | assumption); (case hd => ktr_room); (case hu => ktr_units))
  intro ra newsa ha tka Fa Na sa Ja Ia
  (try dsimp only)
  repeat' ((fail_if_success (with_reducible show wpAny _ _ (call (Value.ref 449) _) _ _ _)); first | (k_unfold; (try dsimp only)) | (k_end; wrow_close) | walk1 | (dsimp only; walk1) | fail "no step")
  k_dflt (refine' cadd2 ?B ?F ?X ?N ?T ?K ?hd ?hu hp (J2.mono sa) I2 (J1.mono sa) I1 ?_; (case B => k_asm); (case F => k_asm); (case X => k_asm); (case N => k_asm); (case T => k_asm); (case K => first | exact rfl | assumption); (case hd => ktr_room); (case hu => ktr_units))
  intro rb newsb hb2 tkb Fb Nb sb Jb Ib
  (try dsimp only)
  obtain ⟨d9, hd9⟩ : ∃ d9, decide (S = none) = d9 := ⟨_, rfl⟩
  repeat' ((fail_if_success (with_reducible show wpAny _ _ (call (Value.ref 428) _) _ _ _)); first | (k_unfold; (try dsimp only)) | (k_end; wrow_close) | walk1 | (dsimp only; walk1) | fail "no step")
  k_dflt (refine' cinf2 ?B ?F ?X ?N ?T ?K ?hd ?hu hp ?j Ia ?_; (case B => k_asm); (case F => k_asm); (case X => k_asm); (case N => k_asm); (case T => k_asm); (case K => first | exact rfl | assumption); (case hd => ktr_room); (case hu => ktr_units); (case j => exact Ja.mono (fun e he => by repeat (first | exact sb e he | refine List.Mem.tail _ ?_))))
  intro newsc hc tkc Fc Nc sc
  (try dsimp only)
  rw [(rep_zero rA).trans hd9]
  repeat' ((fail_if_success (with_reducible show wpAny _ _ (call (Value.ref 435) _) _ _ _)); first | (k_unfold; (try dsimp only)) | (k_end; wrow_close) | walk1 | (dsimp only; walk1) | fail "no step")
  k_dflt (refine' con2 ?B ?F ?X ?N ?T ?K ?hd ?hu hp ?j Ia ?jb (fin_r hq _) ?_; (case B => k_asm); (case F => k_asm); (case X => k_asm); (case N => k_asm); (case T => k_asm); (case K => first | exact rfl | assumption); (case hd => ktr_room); (case hu => ktr_units); (case j => exact Ja.mono (fun e he => (by repeat (first | exact sc e (by repeat (first | exact sb e (by repeat (first | exact he | refine List.Mem.tail _ ?_)) | refine List.Mem.tail _ ?_)) | refine List.Mem.tail _ ?_)))); (case jb => exact ⟨_, _, _, _, _, by repeat (first | exact List.Mem.head _ | refine List.Mem.tail _ ?_), by repeat (first | exact List.Mem.head _ | refine List.Mem.tail _ ?_)⟩))
  intro newsd hd2 tkd Fd Nd sd
  (try dsimp only)
  rw [on_same hp oS rA]
  repeat' ((fail_if_success (with_reducible show wpAny _ _ (call (Value.ref 435) _) _ _ _)); first | (k_unfold; (try dsimp only)) | (k_end; wrow_close) | walk1 | (dsimp only; walk1) | fail "no step")
  k_dflt (refine' con2 ?B ?F ?X ?N ?T ?K ?hd ?hu hp ?j Ia ?jb (fin_r hq _) ?_; (case B => k_asm); (case F => k_asm); (case X => k_asm); (case N => k_asm); (case T => k_asm); (case K => first | exact rfl | assumption); (case hd => ktr_room); (case hu => ktr_units); (case j => exact Ja.mono (fun e he => (by repeat (first | exact sd e (by repeat (first | exact sc e (by repeat (first | exact sb e (by repeat (first | exact he | refine List.Mem.tail _ ?_)) | refine List.Mem.tail _ ?_)) | refine List.Mem.tail _ ?_)) | refine List.Mem.tail _ ?_)))); (case jb => exact ⟨_, _, _, _, _, by repeat (first | exact List.Mem.head _ | refine List.Mem.tail _ ?_), by repeat (first | exact List.Mem.head _ | refine List.Mem.tail _ ?_)⟩))
  intro newse he2 tke Fe Ne se
  (try dsimp only)
  rw [(on_next hp oS rA).trans hd9]
  repeat' ((fail_if_success (with_reducible show wpAny _ _ (compareOp CmpOp.Is _ _) _ _ _)); first | (k_unfold; (try dsimp only)) | (k_end; wrow_close) | walk1 | (dsimp only; walk1) | fail "no step")
  refine pt_is JS hd9 ?_
  repeat' ((fail_if_success (with_reducible show wpAny _ _ (compareOp CmpOp.Is _ _) _ _ _)); first | (k_unfold; (try dsimp only)) | (k_end; wrow_close) | walk1 | (dsimp only; walk1) | fail "no step")
  refine pt_is JS hd9 ?_
  repeat' ((fail_if_success (with_reducible show wpAny _ _ (call (Value.ref 547) _) _ _ _)); first | (k_unfold; (try dsimp only)) | (k_end; wrow_close) | walk1 | (dsimp only; walk1) | fail "no step")
  k_dflt (refine' ltold ?B ?F ?X ?N ?T ?K ?hd ?hu hp ?j Ia ?_; (case B => k_asm); (case F => k_asm); (case X => k_asm); (case N => k_asm); (case T => k_asm); (case K => first | exact rfl | assumption); (case hd => ktr_room); (case hu => ktr_units); (case j => exact Ja.mono (fun e he => (by repeat (first | exact se e (by repeat (first | exact sd e (by repeat (first | exact sc e (by repeat (first | exact sb e (by repeat (first | exact he | refine List.Mem.tail _ ?_)) | refine List.Mem.tail _ ?_)) | refine List.Mem.tail _ ?_)) | refine List.Mem.tail _ ?_)) | refine List.Mem.tail _ ?_)))))
  intro pvt newsf hf tkf Ff Nf sf Jf
  (try dsimp only)
  rw [told_rep hp oS.inP rA] at Jf
  repeat' ((fail_if_success (with_reducible show wpAny _ _ (compareOp CmpOp.Eq _ _) _ _ _)); first | (k_unfold; (try dsimp only)) | (k_end; wrow_close) | walk1 | (dsimp only; walk1) | fail "no step")
  refine pt_eq (by k_asm) Jf (JS.mono (fun e he => (by repeat (first | exact sf e (by repeat (first | exact se e (by repeat (first | exact sd e (by repeat (first | exact sc e (by repeat (first | exact sb e (by repeat (first | exact sa e (by repeat (first | exact he | refine List.Mem.tail _ ?_)) | refine List.Mem.tail _ ?_)) | refine List.Mem.tail _ ?_)) | refine List.Mem.tail _ ?_)) | refine List.Mem.tail _ ?_)) | refine List.Mem.tail _ ?_)) | refine List.Mem.tail _ ?_)))) (by ke_room) ?_
  repeat' ((fail_if_success (with_reducible show wpAny _ _ (call (Value.ref 547) _) _ _ _)); first | (k_unfold; (try dsimp only)) | (k_end; wrow_close) | walk1 | (dsimp only; walk1) | fail "no step")
  k_dflt (refine' ltold ?B ?F ?X ?N ?T ?K ?hd ?hu hp ?j Ib ?_; (case B => k_asm); (case F => k_asm); (case X => k_asm); (case N => k_asm); (case T => k_asm); (case K => first | exact rfl | assumption); (case hd => ktr_room); (case hu => ktr_units); (case j => exact Jb.mono (fun e he => (by repeat (first | exact sf e (by repeat (first | exact se e (by repeat (first | exact sd e (by repeat (first | exact sc e (by repeat (first | exact he | refine List.Mem.tail _ ?_)) | refine List.Mem.tail _ ?_)) | refine List.Mem.tail _ ?_)) | refine List.Mem.tail _ ?_)) | refine List.Mem.tail _ ?_)))))
  intro pvu newsg hg2 tkg Fg Ng sg Jg
  (try dsimp only)
  rw [told_rep hp oS.inP rB] at Jg
  repeat' ((fail_if_success (with_reducible show wpAny _ _ (compareOp CmpOp.Eq _ _) _ _ _)); first | (k_unfold; (try dsimp only)) | (k_end; wrow_close) | walk1 | (dsimp only; walk1) | fail "no step")
  refine pt_eq (by k_asm) Jg (JS.mono (fun e he => (by repeat (first | exact sg e (by repeat (first | exact sf e (by repeat (first | exact se e (by repeat (first | exact sd e (by repeat (first | exact sc e (by repeat (first | exact sb e (by repeat (first | exact sa e (by repeat (first | exact he | refine List.Mem.tail _ ?_)) | refine List.Mem.tail _ ?_)) | refine List.Mem.tail _ ?_)) | refine List.Mem.tail _ ?_)) | refine List.Mem.tail _ ?_)) | refine List.Mem.tail _ ?_)) | refine List.Mem.tail _ ?_)) | refine List.Mem.tail _ ?_)))) (by ke_room) ?_
  k_steps
  exact hret _ _ _ (by k_asm) (by k_asm) (fun e he => (by repeat (first | exact sg e (by repeat (first | exact sf e (by repeat (first | exact se e (by repeat (first | exact sd e (by repeat (first | exact sc e (by repeat (first | exact sb e (by repeat (first | exact sa e (by repeat (first | exact he | refine List.Mem.tail _ ?_)) | refine List.Mem.tail _ ?_)) | refine List.Mem.tail _ ?_)) | refine List.Mem.tail _ ?_)) | refine List.Mem.tail _ ?_)) | refine List.Mem.tail _ ?_)) | refine List.Mem.tail _ ?_)) | refine List.Mem.tail _ ?_)))

 

set_option maxRecDepth 100000 in
set_option maxHeartbeats 0 in
theorem lsums1 {q b : Int} {tq tb : Tok} {v1 v2 : Addr} {pvS : Value} {t u : Tr} {P1 P2 S : Pt}
    (B : Below A₀ base outer h₀) (F : Fr h₀ L s.heap m) (X : (kk.heap_1 w.params).In h₀) (N : News h₀ L s.heap news) (T : Top p loose mean mg mb h₀) (hk : cs.kind = .function)
    (hd : dp + 90 < recursionLimit) (hu : un + 720 < cLine) (hp : Pr q) (hb : 0 < b ∧ b < q) (hg : Good q b) (o1 : OnC q b P1) (o2 : OnC q b P2) (r1 : Rep q P1 t) (r2 : Rep q P2 u) (J1 : JacM 417 w.params news q v1 t) (I1 : RgT q t) (J2 : JacM 417 w.params news q v2 u) (I2 : RgT q u) (hS : sumA q P1 P2 = S) (JS : PtM news pvS S) (hret : ∀ (news' : List (Addr × Obj)) (h' : Heap) (tk' : Nat), Fr h₀ L h' m → News h₀ L h' news' → (∀ e ∈ news, e ∈ news') → Q (.bool (true)) { s with heap := h', toks := tk' }) :
    wpAny (model PySem.Challenge.pw_lh0034_01 w) (ktrTop dp un gd cn cs L a ccd cl outer) (call (.ref 554) [.int q tq, .int b tb, .bool false, .ref v1, .ref v2, pvS]) Q E s := by
  have hq7 := And.intro hp.lo hp.hi
  have hq : 0 < q ∧ q ≤ 127 := ⟨hp.pos, hp.hi⟩
  have rA := add_rep hp hg o1 o2 r1 r2
  have rB := add_rep hp hg o2 o1 r2 r1
  have oS := sum_on hp hg o1 o2
  rw [sum_comm hp hg o1 o2] at rB
  rw [hS] at rA rB oS
  refine wpAny_call ?_
  k_dflt ktr_enter
  repeat' ((fail_if_success (with_reducible show wpAny _ _ (call (Value.ref 49) _) _ _ _)); first | (k_unfold; (try dsimp only)) | (k_end; wrow_close) | walk1 | (dsimp only; walk1) | fail "no step")
  k_dflt (refine' cadd1 ?B ?F ?X ?N ?T ?K ?hd ?hu hp J1 I1 J2 I2 ?_; (case B => k_asm); (case F => k_asm); (case X => k_asm); (case N => k_asm); (case T => k_asm); (case K => first | exact rfl | assumption); (case hd => ktr_room); (case hu => ktr_units))
  intro ra newsa ha tka Fa Na sa Ja Ia
  (try dsimp only)
  repeat' ((fail_if_success (with_reducible show wpAny _ _ (call (Value.ref 49) _) _ _ _)); first | (k_unfold; (try dsimp only)) | (k_end; wrow_close) | walk1 | (dsimp only; walk1) | fail "no step")
  k_dflt (refine' cadd1 ?B ?F ?X ?N ?T ?K ?hd ?hu hp (J2.mono sa) I2 (J1.mono sa) I1 ?_; (case B => k_asm); (case F => k_asm); (case X => k_asm); (case N => k_asm); (case T => k_asm); (case K => first | exact rfl | assumption); (case hd => ktr_room); (case hu => ktr_units))
  intro rb newsb hb2 tkb Fb Nb sb Jb Ib
  (try dsimp only)
  obtain ⟨d9, hd9⟩ : ∃ d9, decide (S = none) = d9 := ⟨_, rfl⟩
  repeat' ((fail_if_success (with_reducible show wpAny _ _ (call (Value.ref 28) _) _ _ _)); first | (k_unfold; (try dsimp only)) | (k_end; wrow_close) | walk1 | (dsimp only; walk1) | fail "no step")
  k_dflt (refine' cinf1 ?B ?F ?X ?N ?T ?K ?hd ?hu hp ?j Ia ?_; (case B => k_asm); (case F => k_asm); (case X => k_asm); (case N => k_asm); (case T => k_asm); (case K => first | exact rfl | assumption); (case hd => ktr_room); (case hu => ktr_units); (case j => exact Ja.mono (fun e he => by repeat (first | exact sb e he | refine List.Mem.tail _ ?_))))
  intro newsc hc tkc Fc Nc sc
  (try dsimp only)
  rw [(rep_zero rA).trans hd9]
  repeat' ((fail_if_success (with_reducible show wpAny _ _ (call (Value.ref 35) _) _ _ _)); first | (k_unfold; (try dsimp only)) | (k_end; wrow_close) | walk1 | (dsimp only; walk1) | fail "no step")
  k_dflt (refine' con1 ?B ?F ?X ?N ?T ?K ?hd ?hu hp ?j Ia ?jb (fin_r hq _) ?_; (case B => k_asm); (case F => k_asm); (case X => k_asm); (case N => k_asm); (case T => k_asm); (case K => first | exact rfl | assumption); (case hd => ktr_room); (case hu => ktr_units); (case j => exact Ja.mono (fun e he => (by repeat (first | exact sc e (by repeat (first | exact sb e (by repeat (first | exact he | refine List.Mem.tail _ ?_)) | refine List.Mem.tail _ ?_)) | refine List.Mem.tail _ ?_)))); (case jb => exact ⟨_, _, _, _, _, by repeat (first | exact List.Mem.head _ | refine List.Mem.tail _ ?_), by repeat (first | exact List.Mem.head _ | refine List.Mem.tail _ ?_)⟩))
  intro newsd hd2 tkd Fd Nd sd
  (try dsimp only)
  rw [on_same hp oS rA]
  repeat' ((fail_if_success (with_reducible show wpAny _ _ (call (Value.ref 35) _) _ _ _)); first | (k_unfold; (try dsimp only)) | (k_end; wrow_close) | walk1 | (dsimp only; walk1) | fail "no step")
  k_dflt (refine' con1 ?B ?F ?X ?N ?T ?K ?hd ?hu hp ?j Ia ?jb (fin_r hq _) ?_; (case B => k_asm); (case F => k_asm); (case X => k_asm); (case N => k_asm); (case T => k_asm); (case K => first | exact rfl | assumption); (case hd => ktr_room); (case hu => ktr_units); (case j => exact Ja.mono (fun e he => (by repeat (first | exact sd e (by repeat (first | exact sc e (by repeat (first | exact sb e (by repeat (first | exact he | refine List.Mem.tail _ ?_)) | refine List.Mem.tail _ ?_)) | refine List.Mem.tail _ ?_)) | refine List.Mem.tail _ ?_)))); (case jb => exact ⟨_, _, _, _, _, by repeat (first | exact List.Mem.head _ | refine List.Mem.tail _ ?_), by repeat (first | exact List.Mem.head _ | refine List.Mem.tail _ ?_)⟩))
  intro newse he2 tke Fe Ne se
  (try dsimp only)
  rw [(on_next hp oS rA).trans hd9]
  repeat' ((fail_if_success (with_reducible show wpAny _ _ (compareOp CmpOp.Is _ _) _ _ _)); first | (k_unfold; (try dsimp only)) | (k_end; wrow_close) | walk1 | (dsimp only; walk1) | fail "no step")
  refine pt_is JS hd9 ?_
  repeat' ((fail_if_success (with_reducible show wpAny _ _ (compareOp CmpOp.Is _ _) _ _ _)); first | (k_unfold; (try dsimp only)) | (k_end; wrow_close) | walk1 | (dsimp only; walk1) | fail "no step")
  refine pt_is JS hd9 ?_
  repeat' ((fail_if_success (with_reducible show wpAny _ _ (call (Value.ref 547) _) _ _ _)); first | (k_unfold; (try dsimp only)) | (k_end; wrow_close) | walk1 | (dsimp only; walk1) | fail "no step")
  k_dflt (refine' ltold ?B ?F ?X ?N ?T ?K ?hd ?hu hp ?j Ia ?_; (case B => k_asm); (case F => k_asm); (case X => k_asm); (case N => k_asm); (case T => k_asm); (case K => first | exact rfl | assumption); (case hd => ktr_room); (case hu => ktr_units); (case j => exact Ja.mono (fun e he => (by repeat (first | exact se e (by repeat (first | exact sd e (by repeat (first | exact sc e (by repeat (first | exact sb e (by repeat (first | exact he | refine List.Mem.tail _ ?_)) | refine List.Mem.tail _ ?_)) | refine List.Mem.tail _ ?_)) | refine List.Mem.tail _ ?_)) | refine List.Mem.tail _ ?_)))))
  intro pvt newsf hf tkf Ff Nf sf Jf
  (try dsimp only)
  rw [told_rep hp oS.inP rA] at Jf
  repeat' ((fail_if_success (with_reducible show wpAny _ _ (compareOp CmpOp.Eq _ _) _ _ _)); first | (k_unfold; (try dsimp only)) | (k_end; wrow_close) | walk1 | (dsimp only; walk1) | fail "no step")
  refine pt_eq (by k_asm) Jf (JS.mono (fun e he => (by repeat (first | exact sf e (by repeat (first | exact se e (by repeat (first | exact sd e (by repeat (first | exact sc e (by repeat (first | exact sb e (by repeat (first | exact sa e (by repeat (first | exact he | refine List.Mem.tail _ ?_)) | refine List.Mem.tail _ ?_)) | refine List.Mem.tail _ ?_)) | refine List.Mem.tail _ ?_)) | refine List.Mem.tail _ ?_)) | refine List.Mem.tail _ ?_)) | refine List.Mem.tail _ ?_)))) (by ke_room) ?_
  repeat' ((fail_if_success (with_reducible show wpAny _ _ (call (Value.ref 547) _) _ _ _)); first | (k_unfold; (try dsimp only)) | (k_end; wrow_close) | walk1 | (dsimp only; walk1) | fail "no step")
  k_dflt (refine' ltold ?B ?F ?X ?N ?T ?K ?hd ?hu hp ?j Ib ?_; (case B => k_asm); (case F => k_asm); (case X => k_asm); (case N => k_asm); (case T => k_asm); (case K => first | exact rfl | assumption); (case hd => ktr_room); (case hu => ktr_units); (case j => exact Jb.mono (fun e he => (by repeat (first | exact sf e (by repeat (first | exact se e (by repeat (first | exact sd e (by repeat (first | exact sc e (by repeat (first | exact he | refine List.Mem.tail _ ?_)) | refine List.Mem.tail _ ?_)) | refine List.Mem.tail _ ?_)) | refine List.Mem.tail _ ?_)) | refine List.Mem.tail _ ?_)))))
  intro pvu newsg hg2 tkg Fg Ng sg Jg
  (try dsimp only)
  rw [told_rep hp oS.inP rB] at Jg
  repeat' ((fail_if_success (with_reducible show wpAny _ _ (compareOp CmpOp.Eq _ _) _ _ _)); first | (k_unfold; (try dsimp only)) | (k_end; wrow_close) | walk1 | (dsimp only; walk1) | fail "no step")
  refine pt_eq (by k_asm) Jg (JS.mono (fun e he => (by repeat (first | exact sg e (by repeat (first | exact sf e (by repeat (first | exact se e (by repeat (first | exact sd e (by repeat (first | exact sc e (by repeat (first | exact sb e (by repeat (first | exact sa e (by repeat (first | exact he | refine List.Mem.tail _ ?_)) | refine List.Mem.tail _ ?_)) | refine List.Mem.tail _ ?_)) | refine List.Mem.tail _ ?_)) | refine List.Mem.tail _ ?_)) | refine List.Mem.tail _ ?_)) | refine List.Mem.tail _ ?_)) | refine List.Mem.tail _ ?_)))) (by ke_room) ?_
  k_steps
  exact hret _ _ _ (by k_asm) (by k_asm) (fun e he => (by repeat (first | exact sg e (by repeat (first | exact sf e (by repeat (first | exact se e (by repeat (first | exact sd e (by repeat (first | exact sc e (by repeat (first | exact sb e (by repeat (first | exact sa e (by repeat (first | exact he | refine List.Mem.tail _ ?_)) | refine List.Mem.tail _ ?_)) | refine List.Mem.tail _ ?_)) | refine List.Mem.tail _ ?_)) | refine List.Mem.tail _ ?_)) | refine List.Mem.tail _ ?_)) | refine List.Mem.tail _ ?_)) | refine List.Mem.tail _ ?_)))

 

set_option maxRecDepth 100000 in
set_option maxHeartbeats 0 in
theorem lsumN {q : Int} {tq : Tok} {pv2 : Value} {P2 : Pt}
    (B : Below A₀ base outer h₀) (F : Fr h₀ L s.heap m) (X : (kk.heap_1 w.params).In h₀) (N : News h₀ L s.heap news) (T : Top p loose mean mg mb h₀) (hk : cs.kind = .function)
    (hd : dp + 20 < recursionLimit) (hu : un + 160 < cLine) (hp : Pr q) (J2 : PtM news pv2 P2) (hret : ∀ (h' : Heap) (tk' : Nat), Fr h₀ L h' m → News h₀ L h' news → Q pv2 { s with heap := h', toks := tk' }) :
    wpAny (model PySem.Challenge.pw_lh0034_01 w) (ktrTop dp un gd cn cs L a ccd cl outer) (call (.ref 519) [.int q tq, .none, pv2]) Q E s := by
  cases P2 with
  | none =>
    obtain rfl : pv2 = .none := J2
    refine wpAny_call ?_
    k_dflt ktr_enter
    k_steps
    exact hret _ _ (by k_asm) (by k_asm)
  | some a =>
    obtain ⟨v2, n2, t21, t22, rfl, j2⟩ := J2
    refine wpAny_call ?_
    k_dflt ktr_enter
    k_steps
    exact hret _ _ (by k_asm) (by k_asm)

 

noncomputable def lawO (P : Params) : Option Obj := (kk.heap_1 P).lookup 559
noncomputable def lawB (P : Params) : List Stmt := match lawO P with | some ⟨_, _, .func fd, _⟩ => (match fd.body with | .stmts b => b | _ => []) | _ => []
noncomputable def lawS (P : Params) : Scope := match lawO P with | some ⟨_, _, .func fd, _⟩ => fd.scope | _ => default
local macro_rules | `(tactic| walk_at "eval Call") => `(tactic| (k_here; (with_reducible show wpAny _ _ (eval (Expr.Call (Expr.Name _ _) _ _ _) _) _ _ _); k_dflt (refine Call_ ?_)))
theorem kkIn {w : World} {h : Heap} (X : (kk.heap_1 w.params).In h) : (kk.heap_1 w.params).In h := X
theorem prime_item {prog : Program} {w : World} {A : Around} {E : Value → Shared → Prop} {s : Shared} {Q : Value → Shared → Prop} {value slice : PySem.Expr} {l : Addr} {v : Int} {u t1 t2 t3 t4 t5 t6 t7 t8 : Tok}
    (hl : s.heap.IsList l #[.int 7 t1, .int 19 t2, .int 31 t3, .int 43 t4, .int 67 t5, .int 79 t6, .int 103 t7, .int 127 t8]) (h : ∀ p t, Pr p → Q (.int p t) s)
    (hs : subscripted slice false (.ref l) (.int (v.fmod 8) u) = operate [.ref l, .int (v.fmod 8) u] (getItem (.ref l) (.int (v.fmod 8) u)) := by with_unfolding_all rfl) :
    wpAny (model prog w) A (subscriptTail value slice (.ref l) (.int (v.fmod 8) u)) Q E s := by
  have hb : 0 ≤ v.fmod 8 ∧ v.fmod 8 < 8 := by rw [Int.fmod_eq_emod_of_nonneg _ (by omega)]; omega
  obtain ⟨p, t, hx, hp⟩ : ∃ p t, (#[.int 7 t1, .int 19 t2, .int 31 t3, .int 43 t4, .int 67 t5, .int 79 t6, .int 103 t7, .int 127 t8] : Array Value)[(v.fmod 8).toNat]? = some (.int p t) ∧ Pr p := by
    have h8 : (v.fmod 8).toNat < 8 := by omega
    generalize (v.fmod 8).toNat = i at h8
    match i, h8 with
    | 0, _ => exact ⟨7, t1, rfl, by unfold Pr prs; decide⟩
    | 1, _ => exact ⟨19, t2, rfl, by unfold Pr prs; decide⟩
    | 2, _ => exact ⟨31, t3, rfl, by unfold Pr prs; decide⟩
    | 3, _ => exact ⟨43, t4, rfl, by unfold Pr prs; decide⟩
    | 4, _ => exact ⟨67, t5, rfl, by unfold Pr prs; decide⟩
    | 5, _ => exact ⟨79, t6, rfl, by unfold Pr prs; decide⟩
    | 6, _ => exact ⟨103, t7, rfl, by unfold Pr prs; decide⟩
    | 7, _ => exact ⟨127, t8, rfl, by unfold Pr prs; decide⟩
    | n + 8, h => omega
  exact tail_any hl.typeIs slot_list_getitem.lookup (wpAny_getItem_list hl hb.1 (by omega) hx (h p t hp)) hs
theorem upd_same {m : Str → Option Value} {x : Str} {v : Value} (h : m x = some v) : (fun y => if y = x then some v else m y) = m := by
  funext y
  by_cases e : y = x
  · simp [e, h]
  · simp [e]
theorem sc_in {q v : Int} (h : 7 ≤ q) : 0 < 1 + v.fmod (q - 1) ∧ 1 + v.fmod (q - 1) < q := by
  have h1 := Int.emod_nonneg v (by omega : q - 1 ≠ 0)
  have h2 := Int.emod_lt_of_pos v (by omega : 0 < q - 1)
  rw [Int.fmod_eq_emod_of_nonneg _ (by omega)]; omega
theorem lmadeR {w : World} {p : Program} {loose : List Str} {mean : ExcName → Option Value} {mg mb : Str → Option Value} {dp un : Nat} {gd : Option (List Code)} {cn : Str} {cs : Scope} {a : Addr} {ccd : Value} {cl : List (Str × Addr)} {outer : List Env} {A₀ : Around} {base h₀ : Heap} {L : Addr} {m : Str → Option Value} {news : List (Addr × Obj)} {s : Shared} {Q E : Value → Shared → Prop} {q sc f : Int} {tq ts tf : Tok} {pv : Value} {P : Pt}
    (B : Below A₀ base outer h₀) (F : Fr h₀ L s.heap m) (X : (kk.heap_1 w.params).In h₀) (N : News h₀ L s.heap news) (T : Top p loose mean mg mb h₀) (hk : cs.kind = .function) (hd : dp + 20 < recursionLimit) (hu : un + 160 < cLine) (hp : Pr q) (J1 : PtM news pv P) (I1 : InP q P) (hs : 0 < sc ∧ sc < q) (hf : -1000000000 < f ∧ f < 1000000001)
    (hret : ∀ (r : Addr) (t : Tr) (news' : List (Addr × Obj)) (h' : Heap) (tk' : Nat), Fr h₀ L h' m → News h₀ L h' news' → (∀ e ∈ news, e ∈ news') → JacM 417 w.params news' q r t → RgT q t → Rep q P t → (t.2.2 = 0 → t.2.1 % q ≠ 0) → Q (.ref r) { s with heap := h', toks := tk' }) :
    wpAny (model PySem.Challenge.pw_lh0034_01 w) (ktrTop dp un gd cn cs L a ccd cl outer) (call (.ref 526) [.int q tq, pv, .int sc ts, .int f tf]) Q E s :=
  lmade B F X N T hk hd hu hp J1 I1 hs hf fun r news' h' tk' F' N' s' J I => hret r _ news' h' tk' F' N' s' J I (made_rep hp hs) (made_side hs)
theorem lsumsB {w : World} {p : Program} {loose : List Str} {mean : ExcName → Option Value} {mg mb : Str → Option Value} {dp un : Nat} {gd : Option (List Code)} {cn : Str} {cs : Scope} {a : Addr} {ccd : Value} {cl : List (Str × Addr)} {outer : List Env} {A₀ : Around} {base h₀ : Heap} {L : Addr} {m : Str → Option Value} {news : List (Addr × Obj)} {s : Shared} {Q E : Value → Shared → Prop} {q b : Int} {ob : Bool} {tq tb : Tok} {v1 v2 : Addr} {pvS : Value} {t u : Tr} {P1 P2 S : Pt}
    (B : Below A₀ base outer h₀) (F : Fr h₀ L s.heap m) (X : (kk.heap_1 w.params).In h₀) (N : News h₀ L s.heap news) (T : Top p loose mean mg mb h₀) (hk : cs.kind = .function) (hd : dp + 90 < recursionLimit) (hu : un + 720 < cLine) (hp : Pr q) (hb : 0 < b ∧ b < q) (hg : Good q b) (o1 : OnC q b P1) (o2 : OnC q b P2) (r1 : Rep q P1 t) (r2 : Rep q P2 u) (J1 : JacM 417 w.params news q v1 t) (I1 : RgT q t) (J2 : JacM 417 w.params news q v2 u) (I2 : RgT q u) (hS : sumA q P1 P2 = S) (JS : PtM news pvS S)
    (hret : ∀ (news' : List (Addr × Obj)) (h' : Heap) (tk' : Nat), Fr h₀ L h' m → News h₀ L h' news' → (∀ e ∈ news, e ∈ news') → Q (.bool true) { s with heap := h', toks := tk' }) :
    wpAny (model PySem.Challenge.pw_lh0034_01 w) (ktrTop dp un gd cn cs L a ccd cl outer) (call (.ref 554) [.int q tq, .int b tb, .bool ob, .ref v1, .ref v2, pvS]) Q E s := by
  cases ob
  · exact lsums1 B F X N T hk hd hu hp hb hg o1 o2 r1 r2 J1 I1 J2 I2 hS JS hret
  · exact lsums2 B F X N T hk hd hu hp hb hg o1 o2 r1 r2 J1 I1 J2 I2 hS JS hret
noncomputable def JoinTwo (h₀ : Heap) (L : Addr) (s : Shared) (x : Str) (m : Str → Option Value) (c : Addr × Obj) (news : List (Addr × Obj)) (q b : Int) (fl : Flow) (s' : Shared) : Prop :=
  fl = .next ∧ ∃ (pv : Value) (P : Pt) (nw : List (Addr × Obj)) (h' : Heap) (tk' : Nat), s' = { s with heap := h', toks := tk' } ∧ Fr h₀ L h' (fun y => if y = x then some pv else m y) ∧ News h₀ L h' (c :: nw) ∧ (∀ e ∈ news, e ∈ nw) ∧ PtM nw pv P ∧ OnC q b P
theorem if_join {prog : Program} {w : World} {A : Around} {E : Value → Shared → Prop} {s : Shared} {Q : Flow → Shared → Prop} {h₀ : Heap} {L : Addr} {m : Str → Option Value} {c : Addr × Obj} {news : List (Addr × Obj)} {st : Stmt} {rest : List Stmt} {env : Env} (x : Str) (q b : Int) (F : Fr h₀ L s.heap m) (N : News h₀ L s.heap (c :: news))
    (one : ∀ R : Flow → Shared → Prop, R = JoinTwo h₀ L s x m c news q b → wpAny (model prog w) A (exec st env) R E s)
    (go : ∀ (pv : Value) (P : Pt) (nw : List (Addr × Obj)) (h' : Heap) (tk' : Nat), Fr h₀ L h' (fun y => if y = x then some pv else m y) → News h₀ L h' (c :: nw) → (∀ e ∈ news, e ∈ nw) → PtM nw pv P → OnC q b P → wpAny (model prog w) A (execs rest env) Q E { s with heap := h', toks := tk' }) :
    wpAny (model prog w) A (execs (st :: rest) env) Q E s := by
  refine wpAny_execs_cons (wpAny_mono (one _ rfl) (fun fl s' hq => ?_) fun _ _ e => e)
  obtain ⟨rfl, pv, P, nw, h', tk', rfl, F', N', s1, J, O⟩ := hq
  exact go pv P nw h' tk' F' N' s1 J O
noncomputable def JoinFor (h₀ : Heap) (L : Addr) (s : Shared) (m : Str → Option Value) (c : Addr × Obj) (news : List (Addr × Obj)) (Z : Value → List (Addr × Obj) → Prop) (fl : Flow) (s' : Shared) : Prop :=
  fl = .next ∧ ∃ (pv : Value) (ku : Option Value) (nw : List (Addr × Obj)) (h' : Heap) (tk' : Nat), s' = { s with heap := h', toks := tk' } ∧ Fr h₀ L h' (fun y => if y = "many" then some pv else if y = "k" then ku else m y) ∧ News h₀ L h' (c :: nw) ∧ (∀ e ∈ news, e ∈ nw) ∧ Z pv nw
theorem for_join {prog : Program} {w : World} {A : Around} {E : Value → Shared → Prop} {s : Shared} {Q : Flow → Shared → Prop} {h₀ : Heap} {L : Addr} {m : Str → Option Value} {c : Addr × Obj} {news : List (Addr × Obj)} {st : Stmt} {rest : List Stmt} {env : Env} {nn : Int} {tn : Tok} (Z : Int → Value → List (Addr × Obj) → Prop) (F : Fr h₀ L s.heap m) (N : News h₀ L s.heap (c :: news)) (hn : m "n" = some (.int nn tn))
    (one : ∀ R : Flow → Shared → Prop, R = JoinFor h₀ L s m c news (Z nn) → wpAny (model prog w) A (exec st env) R E s)
    (go : ∀ (pv : Value) (ku : Option Value) (nw : List (Addr × Obj)) (h' : Heap) (tk' : Nat), Fr h₀ L h' (fun y => if y = "many" then some pv else if y = "k" then ku else m y) → News h₀ L h' (c :: nw) → (∀ e ∈ news, e ∈ nw) → Z nn pv nw → wpAny (model prog w) A (execs rest env) Q E { s with heap := h', toks := tk' }) :
    wpAny (model prog w) A (execs (st :: rest) env) Q E s := by
  refine wpAny_execs_cons (wpAny_mono (one _ rfl) (fun fl s' hq => ?_) fun _ _ e => e)
  obtain ⟨rfl, pv, ku, nw, h', tk', rfl, F', N', s1, z⟩ := hq
  exact go pv ku nw h' tk' F' N' s1 z
theorem fm4 (v : Int) : 0 ≤ v.fmod 4 ∧ v.fmod 4 ≤ 3 := by rw [Int.fmod_eq_emod_of_nonneg _ (by omega)]; omega
theorem n_split {h₀ h : Heap} {L : Addr} {m : Str → Option Value} {nn : Int} {tn : Tok} {G : Prop} (F : Fr h₀ L h m) (hn : m "n" = some (.int nn tn)) (hb : 0 ≤ nn ∧ nn ≤ 3)
    (g0 : nn = 0 → Fr h₀ L h (fun y => if y = "n" then some (.int 0 tn) else m y) → G) (g1 : nn = 1 → Fr h₀ L h (fun y => if y = "n" then some (.int 1 tn) else m y) → G)
    (g2 : nn = 2 → Fr h₀ L h (fun y => if y = "n" then some (.int 2 tn) else m y) → G) (g3 : nn = 3 → Fr h₀ L h (fun y => if y = "n" then some (.int 3 tn) else m y) → G) : G := by
  have : nn = 0 ∨ nn = 1 ∨ nn = 2 ∨ nn = 3 := by omega
  rcases this with e | e | e | e
  · exact g0 e (by rw [← e, upd_same hn]; exact F)
  · exact g1 e (by rw [← e, upd_same hn]; exact F)
  · exact g2 e (by rw [← e, upd_same hn]; exact F)
  · exact g3 e (by rw [← e, upd_same hn]; exact F)
theorem rng4 {M : Model} {A : Around} {E : Value → Shared → Prop} {s : Shared} {Q : Value → Shared → Prop} {f : Value} {v : Int} {t : Tok} (h0 : v.fmod 4 = 0 → wpAny M A (call f [.int 0 t]) Q E s) (h1 : v.fmod 4 = 1 → wpAny M A (call f [.int 1 t]) Q E s) (h2 : v.fmod 4 = 2 → wpAny M A (call f [.int 2 t]) Q E s) (h3 : v.fmod 4 = 3 → wpAny M A (call f [.int 3 t]) Q E s) : wpAny M A (call f [.int (v.fmod 4) t]) Q E s := by
  have : v.fmod 4 = 0 ∨ v.fmod 4 = 1 ∨ v.fmod 4 = 2 ∨ v.fmod 4 = 3 := by rw [Int.fmod_eq_emod_of_nonneg _ (by omega)]; omega
  rcases this with e | e | e | e <;> rw [e]
  · exact h0 e
  · exact h1 e
  · exact h2 e
  · exact h3 e
theorem lt_off {d : Addr} : ∀ {l : List (Addr × Obj)}, AllLt d l → ∀ p ∈ l, p.1 ≠ d
  | [], _, p, hp => nomatch hp
  | a :: l, h, p, hp => (List.mem_cons.mp hp).elim (fun e => by rw [e]; exact Nat.ne_of_lt h.1) fun e => lt_off h.2 p e
theorem sumA_nl {p : Int} (P : Pt) : sumA p none P = P := by cases P <;> rfl
theorem many1 {p : Int} (P : Pt) : manyA p P 1 = P := sumA_nl P
theorem many2 {p : Int} (P : Pt) : manyA p P 2 = sumA p P P := by show sumA p (manyA p P 1) P = _; rw [many1]
theorem many3 {p : Int} (P : Pt) : manyA p P 3 = sumA p (sumA p P P) P := by show sumA p (manyA p P 2) P = _; rw [many2]
theorem many_on {p b : Int} (h : Pr p) (hg : Good p b) {P : Pt} (hP : OnC p b P) : ∀ k, OnC p b (manyA p P k)
  | 0 => trivial
  | k + 1 => sum_on h hg (many_on h hg hP k) hP
theorem swap3 {a b c d : Addr × Obj} {r : List (Addr × Obj)} : ∀ p ∈ a :: b :: c :: d :: r, p ∈ d :: a :: b :: c :: r := by
  intro p hp
  simp only [List.mem_cons] at *
  rcases hp with h | h | h | h | h <;> simp [h]
theorem addAll {h₀ h : Heap} {L : Addr} {l news : List (Addr × Obj)} (N : News h₀ L h news) (s : ∀ e ∈ l, e ∈ news) : News h₀ L h (l ++ news) := fun p hp => (List.mem_append.mp hp).elim (fun q => N p (s p q)) (N p)
noncomputable def JoinAny (h₀ : Heap) (L : Addr) (s : Shared) (x : Str) (m : Str → Option Value) (c : Addr × Obj) (news : List (Addr × Obj)) (Z : Value → List (Addr × Obj) → Prop) (fl : Flow) (s' : Shared) : Prop :=
  fl = .next ∧ ∃ (pv : Value) (nw : List (Addr × Obj)) (h' : Heap) (tk' : Nat), s' = { s with heap := h', toks := tk' } ∧ Fr h₀ L h' (fun y => if y = x then some pv else m y) ∧ News h₀ L h' (c :: nw) ∧ (∀ e ∈ news, e ∈ nw) ∧ Z pv nw
theorem any_join {prog : Program} {w : World} {A : Around} {E : Value → Shared → Prop} {s : Shared} {Q : Flow → Shared → Prop} {h₀ : Heap} {L : Addr} {m : Str → Option Value} {c : Addr × Obj} {news : List (Addr × Obj)} {st : Stmt} {rest : List Stmt} {env : Env} (x : Str) (Z : Value → List (Addr × Obj) → Prop) (F : Fr h₀ L s.heap m) (N : News h₀ L s.heap (c :: news))
    (one : ∀ R : Flow → Shared → Prop, R = JoinAny h₀ L s x m c news Z → wpAny (model prog w) A (exec st env) R E s)
    (go : ∀ (pv : Value) (nw : List (Addr × Obj)) (h' : Heap) (tk' : Nat), Fr h₀ L h' (fun y => if y = x then some pv else m y) → News h₀ L h' (c :: nw) → (∀ e ∈ news, e ∈ nw) → Z pv nw → wpAny (model prog w) A (execs rest env) Q E { s with heap := h', toks := tk' }) :
    wpAny (model prog w) A (execs (st :: rest) env) Q E s := by
  refine wpAny_execs_cons (wpAny_mono (one _ rfl) (fun fl s' hq => ?_) fun _ _ e => e)
  obtain ⟨rfl, pv, nw, h', tk', rfl, F', N', s1, z⟩ := hq
  exact go pv nw h' tk' F' N' s1 z
local macro_rules | `(tactic| walk_at "call ref") => `(tactic| (k_here; (with_reducible show wpAny _ _ (call (Value.ref 491) [Value.ref _, Value.int _ _]) _ _ _); k_dflt (refine' lat ?B ?F ?X ?N ?T ?K ?hd ?hu ?hl ?hi ?hlen ?hk ?_; (case B => k_asm); (case F => k_asm); (case X => k_asm); (case N => k_asm); (case T => k_asm); (case K => first | exact rfl | assumption); (case hd => ktr_room); (case hu => ktr_units); (case hl => assumption); (case hi => assumption); (case hlen => assumption); (case hk => decide)); intro v' t' h' tk' bv' F' N'; (try k_sweep); (try k_fold)))

noncomputable def lawB2 (P : Params) : List Stmt := match (lawB P).drop 12 with | .If _ b _ _ :: _ => b.drop 1 | _ => []
noncomputable def lawB0 (P : Params) : List Stmt := match (lawB P).drop 10 with | .If _ b _ _ :: _ => b | _ => []
noncomputable def lawB1 (P : Params) : List Stmt := match (lawB P).drop 11 with | .If _ b _ _ :: _ => b | _ => []
noncomputable def lawB3 (P : Params) : List Stmt := (lawB P).drop 13
theorem swap2 {a b : Addr × Obj} {r : List (Addr × Obj)} : ∀ p ∈ a :: b :: r, p ∈ b :: a :: r := by
  intro p hp
  simp only [List.mem_cons] at *
  rcases hp with h | h | h <;> simp [h]
theorem swap3c {a b c : Addr × Obj} {r : List (Addr × Obj)} : ∀ p ∈ a :: b :: c :: r, p ∈ b :: c :: a :: r := by
  intro p hp
  simp only [List.mem_cons] at *
  rcases hp with h | h | h | h <;> simp [h]
theorem ptm_new {news : List (Addr × Obj)} {q x y : Int} {D : Addr} {n : Nat} {t1 t2 : Tok} {P1 P2 : Pt} (e : sumA q P1 P2 = some (x, y)) (h : (D, ({ cls := .type "tuple", data := .seq #[.int x t1, .int y t2] n } : Obj)) ∈ news) : PtM news (.ref D) (sumA q P1 P2) := by
  rw [e]; exact ⟨D, n, t1, t2, rfl, h⟩
theorem fcast {h₀ h : Heap} {L : Addr} {m m' : Str → Option Value} (F : Fr h₀ L h m) (e : ∀ y, m y = m' y) : Fr h₀ L h m' := (funext e : m = m') ▸ F

set_option maxRecDepth 100000 in
set_option maxHeartbeats 0 in
theorem cmul2R {q b n : Int} {tn : Tok} {v : Addr} {t : Tr} {P : Pt}
    (B : Below A₀ base outer h₀) (F : Fr h₀ L s.heap m) (X : (kk.heap_1 w.params).In h₀) (N : News h₀ L s.heap news) (T : Top p loose mean mg mb h₀) (hk : cs.kind = .function)
    (hd : dp + 60 < recursionLimit) (hu : un + 480 < cLine) (hp : Pr q) (J : JacM 417 w.params news q v t) (I : RgT q t) (hn : 0 ≤ n ∧ n ≤ 3) (hg : Good q b) (o : OnC q b P) (r : Rep q P t) (hret : ∀ (r : Addr) (t' : Tr) (news' : List (Addr × Obj)) (h' : Heap) (tk' : Nat), Fr h₀ L h' m → News h₀ L h' news' → (∀ e ∈ news, e ∈ news') → JacM 417 w.params news' q r t' → RgT q t' → Rep q (manyA q P n.toNat) t' → Q (.ref r) { s with heap := h', toks := tk' }) :
    wpAny (model PySem.Challenge.pw_lh0034_01 w) (ktrTop dp un gd cn cs L a ccd cl outer) (call (.ref 456) [.ref v, .int n tn]) Q E s := by
  have h4 : n = 0 ∨ n = 1 ∨ n = 2 ∨ n = 3 := by omega
  rcases h4 with h4 | h4 | h4 | h4

  · refine cmul2_0 B F X N T hk (by omega) (by omega) hp J I h4 fun r' news' h' tk' F' N' s' J' I' => hret r' _ news' h' tk' F' N' s' J' I' ?_
    subst h4
    exact ⟨by decide, by have := hp.lo; show (0 : Int) < q; omega, rfl⟩
  · refine cmul2_1 B F X N T hk (by omega) (by omega) hp J I h4 fun r' news' h' tk' F' N' s' J' I' => hret r' _ news' h' tk' F' N' s' J' I' ?_
    subst h4
    exact (many1 (p := q) P).symm ▸ r
  · refine cmul2_2 B F X N T hk (hd) (hu) hp J I h4 fun r' news' h' tk' F' N' s' J' I' => hret r' _ news' h' tk' F' N' s' J' I' ?_
    subst h4
    exact (many2 (p := q) P).symm ▸ dbl_rep hp hg o r
  · refine cmul2_3 B F X N T hk (hd) (hu) hp J I h4 fun r' news' h' tk' F' N' s' J' I' => hret r' _ news' h' tk' F' N' s' J' I' ?_
    subst h4
    exact (many3 (p := q) P).symm ▸ add_rep hp hg (sum_on hp hg o o) o (dbl_rep hp hg o r) r


set_option maxRecDepth 100000 in
set_option maxHeartbeats 0 in
theorem cmul1R {q b n : Int} {tn : Tok} {v : Addr} {t : Tr} {P : Pt}
    (B : Below A₀ base outer h₀) (F : Fr h₀ L s.heap m) (X : (kk.heap_1 w.params).In h₀) (N : News h₀ L s.heap news) (T : Top p loose mean mg mb h₀) (hk : cs.kind = .function)
    (hd : dp + 60 < recursionLimit) (hu : un + 480 < cLine) (hp : Pr q) (J : JacM 417 w.params news q v t) (I : RgT q t) (hn : 0 ≤ n ∧ n ≤ 3) (hg : Good q b) (o : OnC q b P) (r : Rep q P t) (hret : ∀ (r : Addr) (t' : Tr) (news' : List (Addr × Obj)) (h' : Heap) (tk' : Nat), Fr h₀ L h' m → News h₀ L h' news' → (∀ e ∈ news, e ∈ news') → JacM 417 w.params news' q r t' → RgT q t' → Rep q (manyA q P n.toNat) t' → Q (.ref r) { s with heap := h', toks := tk' }) :
    wpAny (model PySem.Challenge.pw_lh0034_01 w) (ktrTop dp un gd cn cs L a ccd cl outer) (call (.ref 56) [.ref v, .int n tn]) Q E s := by
  have h4 : n = 0 ∨ n = 1 ∨ n = 2 ∨ n = 3 := by omega
  rcases h4 with h4 | h4 | h4 | h4

  · refine cmul1_0 B F X N T hk (by omega) (by omega) hp J I h4 fun r' news' h' tk' F' N' s' J' I' => hret r' _ news' h' tk' F' N' s' J' I' ?_
    subst h4
    exact ⟨by decide, by have := hp.lo; show (0 : Int) < q; omega, rfl⟩
  · refine cmul1_1 B F X N T hk (by omega) (by omega) hp J I h4 fun r' news' h' tk' F' N' s' J' I' => hret r' _ news' h' tk' F' N' s' J' I' ?_
    subst h4
    exact (many1 (p := q) P).symm ▸ r
  · refine cmul1_2 B F X N T hk (hd) (hu) hp J I h4 fun r' news' h' tk' F' N' s' J' I' => hret r' _ news' h' tk' F' N' s' J' I' ?_
    subst h4
    exact (many2 (p := q) P).symm ▸ dbl_rep hp hg o r
  · refine cmul1_3 B F X N T hk (hd) (hu) hp J I h4 fun r' news' h' tk' F' N' s' J' I' => hret r' _ news' h' tk' F' N' s' J' I' ?_
    subst h4
    exact (many3 (p := q) P).symm ▸ add_rep hp hg (sum_on hp hg o o) o (dbl_rep hp hg o r) r


set_option maxRecDepth 100000 in
set_option maxHeartbeats 0 in
theorem pmulR {q b n : Int} {tn : Tok} {pv : Value} {P : Pt}
    (B : Below A₀ base outer h₀) (F : Fr h₀ L s.heap m) (X : (kk.heap_1 w.params).In h₀) (N : News h₀ L s.heap news) (T : Top p loose mean mg mb h₀) (hk : cs.kind = .function)
    (hd : dp + 60 < recursionLimit) (hu : un + 480 < cLine) (hp : Pr q) (J : PlM w.params news q pv P) (I : RgP q P) (hn : 0 ≤ n ∧ n ≤ 3) (hg : Good q b) (o : OnC q b P) (hret : ∀ (pv' : Value) (news' : List (Addr × Obj)) (h' : Heap) (tk' : Nat), Fr h₀ L h' m → News h₀ L h' news' → (∀ e ∈ news, e ∈ news') → PlM w.params news' q pv' (manyA q P n.toNat) → Q pv' { s with heap := h', toks := tk' }) :
    wpAny (model PySem.Challenge.pw_lh0034_01 w) (ktrTop dp un gd cn cs L a ccd cl outer) (call (.ref 105) [pv, .int n tn]) Q E s := by
  have h4 : n = 0 ∨ n = 1 ∨ n = 2 ∨ n = 3 := by omega
  rcases h4 with h4 | h4 | h4 | h4

  · refine pmul_0 B F X N T hk (by omega) (by omega) hp J I h4 fun r' news' h' tk' F' N' s' J' I' => hret r' news' h' tk' F' N' s' ?_
    subst h4; exact J'
  · refine pmul_1 B F X N T hk (by omega) (by omega) hp J I h4 fun r' news' h' tk' F' N' s' J' I' => hret r' news' h' tk' F' N' s' ?_
    subst h4; exact (many1 (p := q) P).symm ▸ J'
  · refine pmul_2 B F X N T hk hd hu hp J I h4 fun r' news' h' tk' F' N' s' J' I' => hret r' news' h' tk' F' N' s' ?_
    subst h4; rw [plDbl_sum hp hg o] at J'; exact (many2 (p := q) P).symm ▸ J'
  · refine pmul_3 B F X N T hk hd hu hp J I h4 (by rw [plDbl_sum hp hg o]; exact plCk hp hg (sum_on hp hg o o) o) fun r' news' h' tk' F' N' s' J' I' => hret r' news' h' tk' F' N' s' ?_
    subst h4; rw [plDbl_sum hp hg o, plAdd_sum hp hg (sum_on hp hg o o) o] at J'; exact (many3 (p := q) P).symm ▸ J'


set_option maxRecDepth 100000 in
set_option maxHeartbeats 0 in
theorem law_w2 {w : World} {p : Program} {loose : List Str} {mean : ExcName → Option Value} {mg mb : Str → Option Value} {h₀ : Heap} {L fa : Addr} {cdv : Value} {s : Shared} {Q : Flow → Shared → Prop} {E : Value → Shared → Prop} {l : Addr} {o : Obj}
    {q b nn fr kd wy : Int} {tq tb tn tf tk tw : Tok} {ob : Bool} {pv1 pvB : Value} {P1 PB : Pt} {vF vG : Addr} {tF tG : Tr} {news : List (Addr × Obj)} {b2 : List Stmt} {sc : Scope}
    (B : Below callerA h₀ [] h₀) (F : Fr h₀ L s.heap (fun y => if y = "many" then some .none else if y = "second" then some (.ref vG) else if y = "first" then some (.ref vF) else if y = "n" then some (.int nn tn) else if y = "front" then some (.int fr tf) else if y = "two" then some pvB else if y = "kind" then some (.int kd tk) else if y = "other" then some (.bool ob) else if y = "way" then some (.int wy tw) else if y = "one" then some pv1 else if y = "b" then some (.int b tb) else if y = "script" then some (.ref l) else none)) (X : (kk.heap_1 w.params).In h₀) (N : News h₀ L s.heap ((L + 1, o) :: news)) (d : o.data = .cell (some (.int q tq))) (T : Top p loose mean mg mb h₀)
    (hp : Pr q) (hb : 0 < b ∧ b < q) (hg : Good q b) (JA : PtM news pv1 P1) (O1 : OnC q b P1) (JF : JacM 417 w.params news q vF tF) (IF : RgT q tF) (rF : Rep q P1 tF)
    (hn : 0 ≤ nn ∧ nn ≤ 3)
    (eb : b2 = lawB2 w.params) (es : sc = lawS w.params)
    (hE : PassesOwn (model PySem.Challenge.pw_lh0034_01 w) (callerA.deeper (envOfC "law" sc L fa cdv)) (envOfC "law" sc L fa cdv) E)
    (hret : ∀ (news' : List (Addr × Obj)) (h' : Heap) (tk' : Nat) (m' : Str → Option Value), Fr h₀ L h' m' → News h₀ L h' news' → Q (.ret (.bool true)) { s with heap := h', toks := tk' }) :
    wpAny (model PySem.Challenge.pw_lh0034_01 w) (callerA.deeper (envOfC "law" sc L fa cdv)) (execs b2 (envOfC "law" sc L fa cdv)) Q E s := by
  conv at eb => rhs; whnf
  subst eb
  conv at es => rhs; whnf
  subst es
  have hq7 := And.intro hp.lo hp.hi
  have hq : 0 < q ∧ q ≤ 127 := ⟨hp.pos, hp.hi⟩
  (try dsimp only)
  refine for_join (fun nn pv nw => PtM nw pv (manyA q P1 nn.toNat)) (by k_asm) (by k_asm) (by exact rfl) ?_ ?_
  · intro R hR
    refine n_split (by k_asm) (by exact rfl) hn ?_ ?_ ?_ ?_
    · intro hn0 Fn0
      subst hn0
      repeat' ((fail_if_success (with_reducible show wpAny _ _ (call (Value.ref 519) _) _ _ _)); first | (k_unfold; (try dsimp only)) | (k_end; wrow_close) | walk1 | (dsimp only; walk1) | fail "no step")
      k_steps
      (rename News _ _ _ _ => NU)
      rw [hR]; exact ⟨rfl, .none, _, news, _, _, rfl, fcast (by assumption) (by intro y; by_cases a1 : y = "many"; (subst a1; rfl); by_cases a2 : y = "k"; (subst a2; rfl); by_cases a3 : y = "n"; (subst a3; rfl); simp only [a1, a2, a3, if_false]), fun p hp => NU p (hp), fun e he => he, rfl⟩
    · intro hn1 Fn1
      subst hn1
      repeat' ((fail_if_success (with_reducible show wpAny _ _ (call (Value.ref 519) _) _ _ _)); first | (k_unfold; (try dsimp only)) | (k_end; wrow_close) | walk1 | (dsimp only; walk1) | fail "no step")
      (rename (_ < _) ∧ AllLt _ _ => hl1)
      k_dflt (refine' lsumN ?B ?F ?X ?N ?T ?K ?hd ?hu hp ?j ?_; (case B => k_asm); (case F => k_asm); (case X => k_asm); (case N => k_asm); (case T => k_asm); (case K => first | exact rfl | assumption); (case hd => ktr_room); (case hu => ktr_units); (case j => exact JA.mono (fun e he => by repeat (first | exact he | refine List.Mem.tail _ ?_))))
      intro hM1 tkM1 FM1 NM1
      (try dsimp only)
      k_steps
      (rename News _ _ _ _ => NU)
      refine UnrEnd.intro (by assumption) NU _ (fun p hp => hp) (List.forall_mem_cons.mpr ⟨Nat.ne_of_lt hl1.1, lt_off hl1.2⟩) ?_
      k_steps
      (rename News _ _ _ _ => NU)
      rw [hR]; exact ⟨rfl, pv1, _, news, _, _, rfl, fcast (by assumption) (by intro y; by_cases a1 : y = "many"; (subst a1; rfl); by_cases a2 : y = "k"; (subst a2; rfl); by_cases a3 : y = "n"; (subst a3; rfl); simp only [a1, a2, a3, if_false]), fun p hp => NU p (hp), fun e he => he, (many1 (p := q) P1).symm ▸ JA⟩
    · intro hn2 Fn2
      subst hn2
      repeat' ((fail_if_success (with_reducible show wpAny _ _ (call (Value.ref 519) _) _ _ _)); first | (k_unfold; (try dsimp only)) | (k_end; wrow_close) | walk1 | (dsimp only; walk1) | fail "no step")
      (rename (_ < _) ∧ AllLt _ _ => hl1)
      k_dflt (refine' lsumN ?B ?F ?X ?N ?T ?K ?hd ?hu hp ?j ?_; (case B => k_asm); (case F => k_asm); (case X => k_asm); (case N => k_asm); (case T => k_asm); (case K => first | exact rfl | assumption); (case hd => ktr_room); (case hu => ktr_units); (case j => exact JA.mono (fun e he => by repeat (first | exact he | refine List.Mem.tail _ ?_))))
      intro hM1 tkM1 FM1 NM1
      (try dsimp only)
      k_steps
      (rename News _ _ _ _ => NU)
      refine UnrEnd.intro (by assumption) NU _ (fun p hp => hp) (List.forall_mem_cons.mpr ⟨Nat.ne_of_lt hl1.1, lt_off hl1.2⟩) ?_
      repeat' ((fail_if_success (with_reducible show wpAny _ _ (call (Value.ref 519) _) _ _ _)); first | (k_unfold; (try dsimp only)) | (k_end; wrow_close) | walk1 | (dsimp only; walk1) | fail "no step")
      k_dflt (refine' lsumP ?B ?F ?X ?N ?T ?K ?hd ?hu hp ?j O1.inP ?j2 O1.inP ?_ ?_; (case B => k_asm); (case F => k_asm); (case X => k_asm); (case N => k_asm); (case T => k_asm); (case K => first | exact rfl | assumption); (case hd => ktr_room); (case hu => ktr_units); (case j => exact JA.mono (fun e he => by repeat (first | exact he | refine List.Mem.tail _ ?_))); (case j2 => exact JA.mono (fun e he => by repeat (first | exact he | refine List.Mem.tail _ ?_))))
      · intro pvK2 hK2 tkK2 JK2 FK2 NK2
        (try dsimp only)
        k_steps
        (rename News _ _ _ _ => NU)
        refine UnrEnd.intro (by assumption) NU _ (fun p hp => hp) (List.forall_mem_cons.mpr ⟨Nat.ne_of_lt hl1.1, lt_off hl1.2⟩) ?_
        k_steps
        (rename News _ _ _ _ => NU)
        rw [hR]; exact ⟨rfl, pvK2, _, news, _, _, rfl, fcast (by assumption) (by intro y; by_cases a1 : y = "many"; (subst a1; rfl); by_cases a2 : y = "k"; (subst a2; rfl); by_cases a3 : y = "n"; (subst a3; rfl); simp only [a1, a2, a3, if_false]), fun p hp => NU p (hp), fun e he => he, (many2 (p := q) P1).symm ▸ JK2 _ JA JA⟩
      · intro D2 X2 Y2 t21 t22 hK2 tkK2 eS2 FK2 NK2 hD2
        (try dsimp only)
        k_steps
        (rename News _ _ _ _ => NU)
        refine UnrEnd.intro (by assumption) NU _ swap2 (List.forall_mem_cons.mpr ⟨(Nat.ne_of_lt hD2.1).symm, (List.forall_mem_cons.mpr ⟨Nat.ne_of_lt hl1.1, lt_off hl1.2⟩)⟩) ?_
        k_steps
        (rename News _ _ _ _ => NU)
        rw [hR]; exact ⟨rfl, .ref D2, _, _, _, _, rfl, fcast (by assumption) (by intro y; by_cases a1 : y = "many"; (subst a1; rfl); by_cases a2 : y = "k"; (subst a2; rfl); by_cases a3 : y = "n"; (subst a3; rfl); simp only [a1, a2, a3, if_false]), fun p hp => NU p (swap2 p hp), fun e he => .tail _ he, (many2 (p := q) P1).symm ▸ ptm_new eS2 (.head _)⟩
    · intro hn3 Fn3
      subst hn3
      repeat' ((fail_if_success (with_reducible show wpAny _ _ (call (Value.ref 519) _) _ _ _)); first | (k_unfold; (try dsimp only)) | (k_end; wrow_close) | walk1 | (dsimp only; walk1) | fail "no step")
      (rename (_ < _) ∧ AllLt _ _ => hl1)
      k_dflt (refine' lsumN ?B ?F ?X ?N ?T ?K ?hd ?hu hp ?j ?_; (case B => k_asm); (case F => k_asm); (case X => k_asm); (case N => k_asm); (case T => k_asm); (case K => first | exact rfl | assumption); (case hd => ktr_room); (case hu => ktr_units); (case j => exact JA.mono (fun e he => by repeat (first | exact he | refine List.Mem.tail _ ?_))))
      intro hM1 tkM1 FM1 NM1
      (try dsimp only)
      k_steps
      (rename News _ _ _ _ => NU)
      refine UnrEnd.intro (by assumption) NU _ (fun p hp => hp) (List.forall_mem_cons.mpr ⟨Nat.ne_of_lt hl1.1, lt_off hl1.2⟩) ?_
      repeat' ((fail_if_success (with_reducible show wpAny _ _ (call (Value.ref 519) _) _ _ _)); first | (k_unfold; (try dsimp only)) | (k_end; wrow_close) | walk1 | (dsimp only; walk1) | fail "no step")
      k_dflt (refine' lsumP ?B ?F ?X ?N ?T ?K ?hd ?hu hp ?j O1.inP ?j2 O1.inP ?_ ?_; (case B => k_asm); (case F => k_asm); (case X => k_asm); (case N => k_asm); (case T => k_asm); (case K => first | exact rfl | assumption); (case hd => ktr_room); (case hu => ktr_units); (case j => exact JA.mono (fun e he => by repeat (first | exact he | refine List.Mem.tail _ ?_))); (case j2 => exact JA.mono (fun e he => by repeat (first | exact he | refine List.Mem.tail _ ?_))))
      · intro pvK2 hK2 tkK2 JK2 FK2 NK2
        (try dsimp only)
        k_steps
        (rename News _ _ _ _ => NU)
        refine UnrEnd.intro (by assumption) NU _ (fun p hp => hp) (List.forall_mem_cons.mpr ⟨Nat.ne_of_lt hl1.1, lt_off hl1.2⟩) ?_
        repeat' ((fail_if_success (with_reducible show wpAny _ _ (call (Value.ref 519) _) _ _ _)); first | (k_unfold; (try dsimp only)) | (k_end; wrow_close) | walk1 | (dsimp only; walk1) | fail "no step")
        k_dflt (refine' lsumP ?B ?F ?X ?N ?T ?K ?hd ?hu hp ?j (sum_on hp hg O1 O1).inP ?j2 O1.inP ?_ ?_; (case B => k_asm); (case F => k_asm); (case X => k_asm); (case N => k_asm); (case T => k_asm); (case K => first | exact rfl | assumption); (case hd => ktr_room); (case hu => ktr_units); (case j => exact JK2 _ (JA.mono (fun e he => by repeat (first | exact he | refine List.Mem.tail _ ?_))) (JA.mono (fun e he => by repeat (first | exact he | refine List.Mem.tail _ ?_)))); (case j2 => exact JA.mono (fun e he => by repeat (first | exact he | refine List.Mem.tail _ ?_))))
        · intro pvK3 hK3 tkK3 JK3 FK3 NK3
          (try dsimp only)
          k_steps
          (rename News _ _ _ _ => NU)
          refine UnrEnd.intro (by assumption) NU _ (fun p hp => hp) (List.forall_mem_cons.mpr ⟨Nat.ne_of_lt hl1.1, lt_off hl1.2⟩) ?_
          k_steps
          (rename News _ _ _ _ => NU)
          rw [hR]; exact ⟨rfl, pvK3, _, news, _, _, rfl, fcast (by assumption) (by intro y; by_cases a1 : y = "many"; (subst a1; rfl); by_cases a2 : y = "k"; (subst a2; rfl); by_cases a3 : y = "n"; (subst a3; rfl); simp only [a1, a2, a3, if_false]), fun p hp => NU p (hp), fun e he => he, (many3 (p := q) P1).symm ▸ JK3 _ (JK2 _ JA JA) JA⟩
        · intro D3 X3 Y3 t31 t32 hK3 tkK3 eS3 FK3 NK3 hD3
          (try dsimp only)
          k_steps
          (rename News _ _ _ _ => NU)
          refine UnrEnd.intro (by assumption) NU _ swap2 (List.forall_mem_cons.mpr ⟨(Nat.ne_of_lt hD3.1).symm, (List.forall_mem_cons.mpr ⟨Nat.ne_of_lt hl1.1, lt_off hl1.2⟩)⟩) ?_
          k_steps
          (rename News _ _ _ _ => NU)
          rw [hR]; exact ⟨rfl, .ref D3, _, _, _, _, rfl, fcast (by assumption) (by intro y; by_cases a1 : y = "many"; (subst a1; rfl); by_cases a2 : y = "k"; (subst a2; rfl); by_cases a3 : y = "n"; (subst a3; rfl); simp only [a1, a2, a3, if_false]), fun p hp => NU p (swap2 p hp), fun e he => .tail _ he, (many3 (p := q) P1).symm ▸ ptm_new eS3 (.head _)⟩
      · intro D2 X2 Y2 t21 t22 hK2 tkK2 eS2 FK2 NK2 hD2
        (try dsimp only)
        k_steps
        (rename News _ _ _ _ => NU)
        refine UnrEnd.intro (by assumption) NU _ swap2 (List.forall_mem_cons.mpr ⟨(Nat.ne_of_lt hD2.1).symm, (List.forall_mem_cons.mpr ⟨Nat.ne_of_lt hl1.1, lt_off hl1.2⟩)⟩) ?_
        repeat' ((fail_if_success (with_reducible show wpAny _ _ (call (Value.ref 519) _) _ _ _)); first | (k_unfold; (try dsimp only)) | (k_end; wrow_close) | walk1 | (dsimp only; walk1) | fail "no step")
        k_dflt (refine' lsumP ?B ?F ?X ?N ?T ?K ?hd ?hu hp ?j (sum_on hp hg O1 O1).inP ?j2 O1.inP ?_ ?_; (case B => k_asm); (case F => k_asm); (case X => k_asm); (case N => k_asm); (case T => k_asm); (case K => first | exact rfl | assumption); (case hd => ktr_room); (case hu => ktr_units); (case j => exact ptm_new eS2 (by repeat (first | exact List.Mem.head _ | refine List.Mem.tail _ ?_))); (case j2 => exact JA.mono (fun e he => by repeat (first | exact he | refine List.Mem.tail _ ?_))))
        · intro pvK3 hK3 tkK3 JK3 FK3 NK3
          (try dsimp only)
          k_steps
          (rename News _ _ _ _ => NU)
          refine UnrEnd.intro (by assumption) NU _ (fun p hp => hp) (List.forall_mem_cons.mpr ⟨(Nat.ne_of_lt hD2.1).symm, (List.forall_mem_cons.mpr ⟨Nat.ne_of_lt hl1.1, lt_off hl1.2⟩)⟩) ?_
          k_steps
          (rename News _ _ _ _ => NU)
          rw [hR]; exact ⟨rfl, pvK3, _, _, _, _, rfl, fcast (by assumption) (by intro y; by_cases a1 : y = "many"; (subst a1; rfl); by_cases a2 : y = "k"; (subst a2; rfl); by_cases a3 : y = "n"; (subst a3; rfl); simp only [a1, a2, a3, if_false]), fun p hp => NU p (swap2 p hp), fun e he => .tail _ he, (many3 (p := q) P1).symm ▸ JK3 _ (ptm_new eS2 (.head _)) (JA.mono fun e he => .tail _ he)⟩
        · intro D3 X3 Y3 t31 t32 hK3 tkK3 eS3 FK3 NK3 hD3
          (try dsimp only)
          k_steps
          (rename News _ _ _ _ => NU)
          refine UnrEnd.intro (by assumption) NU _ swap2 (List.forall_mem_cons.mpr ⟨(Nat.ne_of_lt hD3.1).symm, (List.forall_mem_cons.mpr ⟨(Nat.ne_of_lt hD2.1).symm, (List.forall_mem_cons.mpr ⟨Nat.ne_of_lt hl1.1, lt_off hl1.2⟩)⟩)⟩) ?_
          k_steps
          (rename News _ _ _ _ => NU)
          rw [hR]; exact ⟨rfl, .ref D3, _, _, _, _, rfl, fcast (by assumption) (by intro y; by_cases a1 : y = "many"; (subst a1; rfl); by_cases a2 : y = "k"; (subst a2; rfl); by_cases a3 : y = "n"; (subst a3; rfl); simp only [a1, a2, a3, if_false]), fun p hp => NU p (swap3c p hp), fun e he => .tail _ (.tail _ he), (many3 (p := q) P1).symm ▸ ptm_new eS3 (.head _)⟩
  intro pvM ku newsM hM tkM FM NM sM JM
  have oS := many_on hp hg O1 nn.toNat
  (try dsimp only)
  refine any_join "told" (fun pv nw => ∃ r t, pv = .ref r ∧ JacM 417 w.params nw q r t ∧ RgT q t ∧ Rep q (manyA q P1 nn.toNat) t) (by k_asm) (by k_asm) ?_ ?_
  · intro R hR
    repeat' ((fail_if_success (with_reducible show wpAny _ _ (call (Value.ref 456) _) _ _ _)); (fail_if_success (with_reducible show wpAny _ _ (call (Value.ref 56) _) _ _ _)); first | (k_unfold; (try dsimp only)) | (k_end; wrow_close) | walk1 | (dsimp only; walk1) | fail "no step")
    · skip
      k_dflt (refine' cmul2R ?B ?F ?X ?N ?T ?K ?hd ?hu hp ?j IF hn hg O1 rF ?_; (case B => k_asm); (case F => k_asm); (case X => k_asm); (case N => k_asm); (case T => k_asm); (case K => first | exact rfl | assumption); (case hd => ktr_room); (case hu => ktr_units); (case j => exact JF.mono (fun e he => (by repeat (first | exact sM e (by repeat (first | exact he | refine List.Mem.tail _ ?_)) | refine List.Mem.tail _ ?_)))))
      intro r1 t1 newsI hI tkI FI NI sI Ja1 Ia1 ra1
      have NI := addE NI (sI _ (.head _))
      (try dsimp only)
      k_steps
      (rename News _ _ _ _ => Nz)
      rw [hR]; exact ⟨rfl, _, newsI, _, _, rfl, by k_asm, Nz, (fun e he => (by repeat (first | exact sI e (by repeat (first | exact he | refine List.Mem.tail _ ?_)) | refine List.Mem.tail _ ?_))), _, _, rfl, Ja1, Ia1, ra1⟩
    · skip
      k_dflt (refine' cmul1R ?B ?F ?X ?N ?T ?K ?hd ?hu hp ?j IF hn hg O1 rF ?_; (case B => k_asm); (case F => k_asm); (case X => k_asm); (case N => k_asm); (case T => k_asm); (case K => first | exact rfl | assumption); (case hd => ktr_room); (case hu => ktr_units); (case j => exact JF.mono (fun e he => (by repeat (first | exact sM e (by repeat (first | exact he | refine List.Mem.tail _ ?_)) | refine List.Mem.tail _ ?_)))))
      intro r1 t1 newsI hI tkI FI NI sI Ja1 Ia1 ra1
      have NI := addE NI (sI _ (.head _))
      (try dsimp only)
      k_steps
      (rename News _ _ _ _ => Nz)
      rw [hR]; exact ⟨rfl, _, newsI, _, _, rfl, by k_asm, Nz, (fun e he => (by repeat (first | exact sI e (by repeat (first | exact he | refine List.Mem.tail _ ?_)) | refine List.Mem.tail _ ?_))), _, _, rfl, Ja1, Ia1, ra1⟩
  rintro pvL newsL hL tkL FL NL sL ⟨vt, tt, rfl, Jt, It, rt⟩
  have zt := told_rep hp oS.inP rt
  have JM := JM.mono (show ∀ e ∈ newsM, e ∈ newsL from (fun e he => (by repeat (first | exact sL e (by repeat (first | exact he | refine List.Mem.tail _ ?_)) | refine List.Mem.tail _ ?_))))
  obtain ⟨S, hS⟩ : ∃ S, manyA q P1 nn.toNat = S := ⟨_, rfl⟩
  rw [hS] at JM zt oS rt
  repeat' ((fail_if_success (with_reducible show wpAny _ _ (call (Value.ref 547) _) _ _ _)); first | (k_unfold; (try dsimp only)) | (k_end; wrow_close) | walk1 | (dsimp only; walk1) | fail "no step")
  k_dflt (refine' ltold ?B ?F ?X ?N ?T ?K ?hd ?hu hp ?j It ?_; (case B => k_asm); (case F => k_asm); (case X => k_asm); (case N => k_asm); (case T => k_asm); (case K => first | exact rfl | assumption); (case hd => ktr_room); (case hu => ktr_units); (case j => exact Jt.mono (fun e he => by repeat (first | exact he | refine List.Mem.tail _ ?_))))
  intro pvT newsT hT tkT FT NT sT JT
  have NT := addE NT (sT _ (.head _))
  (try dsimp only)
  rw [zt] at JT
  repeat' ((fail_if_success (with_reducible show wpAny _ _ (compareOp CmpOp.Eq _ _) _ _ _)); first | (k_unfold; (try dsimp only)) | (k_end; wrow_close) | walk1 | (dsimp only; walk1) | fail "no step")
  refine pt_eq (by k_asm) JT (JM.mono (fun e he => (by repeat (first | exact sT e (by repeat (first | exact he | refine List.Mem.tail _ ?_)) | refine List.Mem.tail _ ?_)))) (by ke_room) ?_
  repeat' ((fail_if_success (with_reducible show wpAny _ _ (call (Value.ref 533) _) _ _ _)); first | (k_unfold; (try dsimp only)) | (k_end; wrow_close) | walk1 | (dsimp only; walk1) | fail "no step")
  k_dflt (refine' lplain ?B ?F ?X ?N ?T ?K ?hd ?hu hp ?j O1.inP ?_; (case B => k_asm); (case F => k_asm); (case X => k_asm); (case N => k_asm); (case T => k_asm); (case K => first | exact rfl | assumption); (case hd => ktr_room); (case hu => ktr_units); (case j => exact JA.mono (fun e he => (by repeat (first | exact sT e (by repeat (first | exact sL e (by repeat (first | exact sM e (by repeat (first | exact he | refine List.Mem.tail _ ?_)) | refine List.Mem.tail _ ?_)) | refine List.Mem.tail _ ?_)) | refine List.Mem.tail _ ?_)))))
  intro pw1 newsC hC tkC FC NC sC JW1 IW1
  have NC := addE NC (sC _ (.head _))
  (try dsimp only)
  repeat' ((fail_if_success (with_reducible show wpAny _ _ (call (Value.ref 105) _) _ _ _)); first | (k_unfold; (try dsimp only)) | (k_end; wrow_close) | walk1 | (dsimp only; walk1) | fail "no step")
  k_dflt (refine' pmulR ?B ?F ?X ?N ?T ?K ?hd ?hu hp ?j IW1 hn hg O1 ?_; (case B => k_asm); (case F => k_asm); (case X => k_asm); (case N => k_asm); (case T => k_asm); (case K => first | exact rfl | assumption); (case hd => ktr_room); (case hu => ktr_units); (case j => exact JW1.mono (fun e he => by repeat (first | exact he | refine List.Mem.tail _ ?_))))
  intro pw2 newsD hD tkD FD ND sD JW2
  have ND := addE ND (sD _ (.head _))
  (try dsimp only)
  rw [hS] at JW2
  repeat' ((fail_if_success (with_reducible show wpAny _ _ (call (Value.ref 540) _) _ _ _)); first | (k_unfold; (try dsimp only)) | (k_end; wrow_close) | walk1 | (dsimp only; walk1) | fail "no step")
  k_dflt (refine' lptold ?B ?F ?X ?N ?T ?K ?hd ?hu hp ?j ?_; (case B => k_asm); (case F => k_asm); (case X => k_asm); (case N => k_asm); (case T => k_asm); (case K => first | exact rfl | assumption); (case hd => ktr_room); (case hu => ktr_units); (case j => exact JW2.mono (fun e he => by repeat (first | exact he | refine List.Mem.tail _ ?_))))
  intro pvU newsE hE2 tkE FE NE sE JU
  have NE := addE NE (sE _ (.head _))
  (try dsimp only)
  repeat' ((fail_if_success (with_reducible show wpAny _ _ (compareOp CmpOp.Eq _ _) _ _ _)); first | (k_unfold; (try dsimp only)) | (k_end; wrow_close) | walk1 | (dsimp only; walk1) | fail "no step")
  refine pt_eq (by k_asm) JU (JM.mono (fun e he => (by repeat (first | exact sE e (by repeat (first | exact sD e (by repeat (first | exact sC e (by repeat (first | exact sT e (by repeat (first | exact he | refine List.Mem.tail _ ?_)) | refine List.Mem.tail _ ?_)) | refine List.Mem.tail _ ?_)) | refine List.Mem.tail _ ?_)) | refine List.Mem.tail _ ?_)))) (by ke_room) ?_
  k_steps
  exact hret _ _ _ _ (by k_asm) (by k_asm)

section
variable {prog : Program} {w : World} {A : Around} {E : Value → Shared → Prop} {s : Shared} {Q : Value → Shared → Prop}
theorem eq_tup_none {l : Addr} {items : Array Value} (hl : s.heap.IsTuple l items) (hu : A.units < cLine) (h : Q (.bool false) s) : wpAny (model prog w) A (compareOp .Eq (.ref l) .none) Q E s := PySem.SeqAt.RcAt.tuple_none hl hu prog w E Q h
theorem eq_none_tup {l : Addr} {items : Array Value} (hl : s.heap.IsTuple l items) (hu : A.units < cLine) (h : Q (.bool false) s) : wpAny (model prog w) A (compareOp .Eq .none (.ref l)) Q E s := PySem.SeqAt.RcAt.none_tuple hl hu prog w E Q h
end
noncomputable def TupAt (ax : Addr) (its : Array Value) (news : List (Addr × Obj)) : Prop := False ∨ ∃ o, (ax, o) ∈ news ∧ o.cls = .type "tuple" ∧ ∃ n, o.data = .seq its n
theorem TupAt.tup {h₀ h : Heap} {L ax : Addr} {its : Array Value} {news : List (Addr × Obj)} (x : TupAt ax its news) (N : News h₀ L h news) : h.IsTuple ax its :=
  x.elim False.elim fun ⟨o, hm, hc, hd⟩ => ⟨o, (N _ hm).1, hc, hd⟩
noncomputable def TupSrc (prog : Program) (w : World) (A : Around) (h₀ : Heap) (L : Addr) (m : Str → Option Value) (env : Env) (elt : Expr) (x : Str) (scope : Scope) (cl : List (Str × Addr)) (Fin : Shared → List Value → List (Addr × Obj) → Prop) (xv : Value) (s₁ : Shared) : Prop :=
  ∃ ax its news, xv = .ref ax ∧ Fr h₀ L s₁.heap m ∧ News h₀ L s₁.heap news ∧ TupAt ax its news ∧ its.size ≤ sizeLine ∧
    ∀ g, LCg.CompRest prog w A h₀ L m env elt x scope cl { s₁ with heap := g } (TupAt ax its) (fun i v => its[i]? = some v) (Fin { s₁ with heap := g }) its.size 0 [] news
theorem comp_tup {prog : Program} {w : World} {A : Around} {E : Value → Shared → Prop} {s : Shared} {h₀ : Heap} {L : Addr} {m : Str → Option Value} {env : Env} {elt iter : Expr} {x : Str} {px : Pos} {scope : Scope} {cl : List (Str × Addr)} {pos : Pos} {Q : Value → Shared → Prop} (_F₀ : Fr h₀ L s.heap m) (hh : A.handled = none)
    (c1 : closureFor scope env = pure cl) (c2 : ∀ y ∈ scope.names, y.2 ≠ .cell) (c3 : scope.kind = .function) (c4 : ∀ y ∈ scope.names, y.2 = .local → scope.names.lookup y.1 = some .local) (c5 : scope.names.lookup x = some .local)
    (h : wpAny (model prog w) A (eval iter env) (TupSrc prog w A h₀ L m env elt x scope cl (fun s₂ => LCg.FinE h₀ L m s₂ Q)) E s)
    (c6 : ∀ x, foldedSetIterable iter env x = pure x := by intro _; rfl) :
    wpAny (model prog w) A (eval (.ListComp elt [⟨.Name x px, iter, [], 0⟩] scope pos) env) Q E s := by
  rw [eval_ListComp]
  refine wpAny_comprehension_free (use := none) rfl c6 c1 c3 c4 (wpAny_mono h ?_ fun _ _ e => e)
  rintro _ s₁ ⟨ax, its, news, rfl, F, N, S, sz, R⟩
  have tup := S.tup N
  obtain ⟨ot, et, _⟩ := id tup
  have lt : ax < s₁.heap.objs.size := Heap.lt_size et
  refine wpAny_pyIter_tuple tup (LCg.block_U (Walks.tuple hh s₁.heap.objs.size ax (Nat.ne_of_lt lt) its) sz (fun i h st => ?_) (fun i h h' o nw st e e' k N' S' => ?_) c2 c3 c5 ⟨⟨_, Heap.get?_push_size _ rfl, rfl, rfl⟩, tup.push _⟩ (fun b hb => ?_)
    (F.keeps fun _ _ e => Heap.get?_push_of_some _ e) (N.grown fun _ _ e => Heap.get?_push_of_some _ e) (Nat.ne_of_lt F.ns.lt) (next_is_new F) (fun p hp => Nat.ne_of_lt (Heap.lt_size (N p hp).1)) S (R _) ?_)
  · obtain ⟨⟨o, e, _⟩, _⟩ := st; exact ⟨o, e⟩
  · obtain ⟨⟨o', q, r⟩, _⟩ := st
    rw [e] at q; cases q
    exact ⟨⟨o, e', r⟩, S'.tup N'⟩
  · show b < (s₁.heap.push _).objs.size
    rw [Heap.size_push]
    simp only [List.mem_cons, List.not_mem_nil, or_false] at hb
    rcases hb with rfl | rfl
    · exact Nat.lt_succ_self _
    · exact Nat.lt_succ_of_lt lt
  · intro D C h tk m' ys nw F' N' o1 ns hC0 hD0 hCL hDL hCD off fin
    refine ⟨m', ns, fun h'' ch => fin D h'' tk (F'.change ch hCL hC0) (fun p hp => ⟨ch.extBut _ _ ?_ (N' p hp).1, (N' p hp).2⟩) o1⟩
    rcases List.mem_cons.mp hp with rfl | hp
    · exact Ne.symm hCD
    · exact off p hp
theorem pair_dec (a b c d : Int) : decide ((some (a, b) : Pt) = some (c, d)) = (a == c && b == d) := by
  by_cases h : a = c <;> by_cases h' : b = d <;> simp [h, h']

set_option maxRecDepth 100000 in
set_option maxHeartbeats 0 in
theorem law_w3 {w : World} {p : Program} {loose : List Str} {mean : ExcName → Option Value} {mg mb : Str → Option Value} {h₀ : Heap} {L fa : Addr} {cdv : Value} {s : Shared} {Q : Flow → Shared → Prop} {E : Value → Shared → Prop} {l : Addr} {vs : List Value} {ns : List Int} {o : Obj}
    {q b nn fr kd wy : Int} {tq tb tn tf tk tw : Tok} {ob : Bool} {pv1 pvB : Value} {P1 PB : Pt} {vF vG : Addr} {tF tG : Tr} {news : List (Addr × Obj)} {b2 : List Stmt} {sc : Scope}
    (B : Below callerA h₀ [] h₀) (F : Fr h₀ L s.heap (fun y => if y = "second" then some (.ref vG) else if y = "first" then some (.ref vF) else if y = "n" then some (.int nn tn) else if y = "front" then some (.int fr tf) else if y = "two" then some pvB else if y = "kind" then some (.int kd tk) else if y = "other" then some (.bool ob) else if y = "way" then some (.int wy tw) else if y = "one" then some pv1 else if y = "b" then some (.int b tb) else if y = "script" then some (.ref l) else none)) (X : (kk.heap_1 w.params).In h₀) (N : News h₀ L s.heap ((L + 1, o) :: news)) (d : o.data = .cell (some (.int q tq))) (T : Top p loose mean mg mb h₀)
    (hp : Pr q) (hb : 0 < b ∧ b < q) (hg : Good q b) (JA : PtM news pv1 P1) (O1 : OnC q b P1) (JF : JacM 417 w.params news q vF tF) (IF : RgT q tF) (rF : Rep q P1 tF)
    (JB : PtM news pvB PB) (OB : OnC q b PB) (JG : JacM 417 w.params news q vG tG) (IG : RgT q tG) (rG : Rep q PB tG) (gF : tF.2.2 = 0 → tF.2.1 % q ≠ 0) (gG : tG.2.2 = 0 → tG.2.1 % q ≠ 0) (hl : h₀.IsList l vs.toArray) (hi : IntsAre vs ns) (hlen : ¬ (63 : Int) < (ns.length : Int))
    (eb : b2 = lawB3 w.params) (es : sc = lawS w.params)
    (hE : PassesOwn (model PySem.Challenge.pw_lh0034_01 w) (callerA.deeper (envOfC "law" sc L fa cdv)) (envOfC "law" sc L fa cdv) E)
    (hret : ∀ (news' : List (Addr × Obj)) (h' : Heap) (tk' : Nat) (m' : Str → Option Value), Fr h₀ L h' m' → News h₀ L h' news' → Q (.ret (.bool true)) { s with heap := h', toks := tk' }) :
    wpAny (model PySem.Challenge.pw_lh0034_01 w) (callerA.deeper (envOfC "law" sc L fa cdv)) (execs b2 (envOfC "law" sc L fa cdv)) Q E s := by
  conv at eb => rhs; whnf
  subst eb
  conv at es => rhs; whnf
  subst es
  have hq7 := And.intro hp.lo hp.hi
  have hq : 0 < q ∧ q ≤ 127 := ⟨hp.pos, hp.hi⟩
  (try dsimp only)
  repeat' ((fail_if_success (with_reducible show wpAny _ _ (call (Value.ref 526) _) _ _ _)); first | (k_unfold; (try dsimp only)) | (k_end; wrow_close) | walk1 | (dsimp only; walk1) | fail "no step")
  k_dflt (refine' lmadeR ?B ?F ?X ?N ?T ?K ?hd ?hu hp ?j O1.inP (sc_in hq7.1) ?hf ?_; (case B => k_asm); (case F => k_asm); (case X => k_asm); (case N => k_asm); (case T => k_asm); (case K => first | exact rfl | assumption); (case hd => ktr_room); (case hu => ktr_units); (case j => exact JA.mono (fun e he => by repeat (first | exact he | refine List.Mem.tail _ ?_))); (case hf => omega))
  intro vH tH newsH hH tkH FH NH sH JH IH rH gH
  have NH := addE NH (sH _ (.head _))
  (try dsimp only)
  repeat' ((fail_if_success (with_reducible show wpAny _ _ (execs (Stmt.Assign [Expr.Name _ _] (Expr.IfExp _ _ _ _) _ :: _) _) _ _ _)); first | (k_unfold; (try dsimp only)) | (k_end; wrow_close) | walk1 | (dsimp only; walk1) | fail "no step")
  have e1 : eqT q tF tH = true := (eq_rep hp O1.inP O1.inP rF rH gF gH).trans (decide_eq_true rfl)
  have e2 := eq_rep hp O1.inP OB.inP rF rG gF gG
  refine any_join "told" (fun pv nw => ∃ lt, pv = .ref lt ∧ (lt, W.listOf #[.bool true, .bool (decide (P1 = PB))] 0) ∈ nw) (by k_asm) (by k_asm) ?_ ?_
  · intro R hR
    repeat' ((fail_if_success (with_reducible show wpAny _ _ (call (Value.ref 463) _) _ _ _)); (fail_if_success (with_reducible show wpAny _ _ (call (Value.ref 63) _) _ _ _)); first | (k_unfold; (try dsimp only)) | (k_end; wrow_close) | walk1 | (dsimp only; walk1) | fail "no step")
    · skip
      k_dflt (refine' ceq2 ?B ?F ?X ?N ?T ?K ?hd ?hu hp ?j IF ?j2 IH ?_; (case B => k_asm); (case F => k_asm); (case X => k_asm); (case N => k_asm); (case T => k_asm); (case K => first | exact rfl | assumption); (case hd => ktr_room); (case hu => ktr_units); (case j => exact JF.mono (fun e he => (by repeat (first | exact sH e (by repeat (first | exact he | refine List.Mem.tail _ ?_)) | refine List.Mem.tail _ ?_)))); (case j2 => exact JH.mono (fun e he => by repeat (first | exact he | refine List.Mem.tail _ ?_))))
      intro newsI hI tkI FI NI sI
      have NI := addE NI (sI _ (.head _))
      (try dsimp only)
      rw [e1]
      repeat' ((fail_if_success (with_reducible show wpAny _ _ (call (Value.ref 463) _) _ _ _)); first | (k_unfold; (try dsimp only)) | (k_end; wrow_close) | walk1 | (dsimp only; walk1) | fail "no step")
      k_dflt (refine' ceq2 ?B ?F ?X ?N ?T ?K ?hd ?hu hp ?j IF ?j2 IG ?_; (case B => k_asm); (case F => k_asm); (case X => k_asm); (case N => k_asm); (case T => k_asm); (case K => first | exact rfl | assumption); (case hd => ktr_room); (case hu => ktr_units); (case j => exact JF.mono (fun e he => (by repeat (first | exact sI e (by repeat (first | exact sH e (by repeat (first | exact he | refine List.Mem.tail _ ?_)) | refine List.Mem.tail _ ?_)) | refine List.Mem.tail _ ?_)))); (case j2 => exact JG.mono (fun e he => (by repeat (first | exact sI e (by repeat (first | exact sH e (by repeat (first | exact he | refine List.Mem.tail _ ?_)) | refine List.Mem.tail _ ?_)) | refine List.Mem.tail _ ?_)))))
      intro newsJ hJ tkJ FJ NJ sJ
      have NJ := addE NJ (sJ _ (.head _))
      (try dsimp only)
      rw [e2]
      k_steps
      (rename News _ _ _ _ => Nz)
      have Nz := addE Nz (.tail _ (.head _))
      rw [hR]; exact ⟨rfl, _, _, _, _, rfl, by k_asm, Nz, (fun e he => (by repeat (first | exact sJ e (by repeat (first | exact sI e (by repeat (first | exact he | refine List.Mem.tail _ ?_)) | refine List.Mem.tail _ ?_)) | refine List.Mem.tail _ ?_))), _, rfl, .head _⟩
    · skip
      k_dflt (refine' ceq1 ?B ?F ?X ?N ?T ?K ?hd ?hu hp ?j IF ?j2 IH ?_; (case B => k_asm); (case F => k_asm); (case X => k_asm); (case N => k_asm); (case T => k_asm); (case K => first | exact rfl | assumption); (case hd => ktr_room); (case hu => ktr_units); (case j => exact JF.mono (fun e he => (by repeat (first | exact sH e (by repeat (first | exact he | refine List.Mem.tail _ ?_)) | refine List.Mem.tail _ ?_)))); (case j2 => exact JH.mono (fun e he => by repeat (first | exact he | refine List.Mem.tail _ ?_))))
      intro newsI hI tkI FI NI sI
      have NI := addE NI (sI _ (.head _))
      (try dsimp only)
      rw [e1]
      repeat' ((fail_if_success (with_reducible show wpAny _ _ (call (Value.ref 63) _) _ _ _)); first | (k_unfold; (try dsimp only)) | (k_end; wrow_close) | walk1 | (dsimp only; walk1) | fail "no step")
      k_dflt (refine' ceq1 ?B ?F ?X ?N ?T ?K ?hd ?hu hp ?j IF ?j2 IG ?_; (case B => k_asm); (case F => k_asm); (case X => k_asm); (case N => k_asm); (case T => k_asm); (case K => first | exact rfl | assumption); (case hd => ktr_room); (case hu => ktr_units); (case j => exact JF.mono (fun e he => (by repeat (first | exact sI e (by repeat (first | exact sH e (by repeat (first | exact he | refine List.Mem.tail _ ?_)) | refine List.Mem.tail _ ?_)) | refine List.Mem.tail _ ?_)))); (case j2 => exact JG.mono (fun e he => (by repeat (first | exact sI e (by repeat (first | exact sH e (by repeat (first | exact he | refine List.Mem.tail _ ?_)) | refine List.Mem.tail _ ?_)) | refine List.Mem.tail _ ?_)))))
      intro newsJ hJ tkJ FJ NJ sJ
      have NJ := addE NJ (sJ _ (.head _))
      (try dsimp only)
      rw [e2]
      k_steps
      (rename News _ _ _ _ => Nz)
      have Nz := addE Nz (.tail _ (.head _))
      rw [hR]; exact ⟨rfl, _, _, _, _, rfl, by k_asm, Nz, (fun e he => (by repeat (first | exact sJ e (by repeat (first | exact sI e (by repeat (first | exact he | refine List.Mem.tail _ ?_)) | refine List.Mem.tail _ ?_)) | refine List.Mem.tail _ ?_))), _, rfl, .head _⟩
  rintro pvL newsL hL tkL FL NL sL ⟨vt, rfl, jL⟩
  have JA := JA.mono (show ∀ e ∈ news, e ∈ newsL from (fun e he => (by repeat (first | exact sL e (by repeat (first | exact sH e (by repeat (first | exact he | refine List.Mem.tail _ ?_)) | refine List.Mem.tail _ ?_)) | refine List.Mem.tail _ ?_))))
  have JB := JB.mono (show ∀ e ∈ news, e ∈ newsL from (fun e he => (by repeat (first | exact sL e (by repeat (first | exact sH e (by repeat (first | exact he | refine List.Mem.tail _ ?_)) | refine List.Mem.tail _ ?_)) | refine List.Mem.tail _ ?_))))
  obtain ⟨bv, hbv⟩ : ∃ bv, decide (P1 = PB) = bv := ⟨_, rfl⟩
  rw [hbv] at jL
  refine any_join "told" (fun _ _ => True) (by k_asm) (by k_asm) ?_ ?_
  · intro R hR
    have NL := addE NL (.tail _ jL)
    cases P1 with
    | none =>
      obtain rfl : pv1 = .none := JA
      cases PB with
      | none =>
        obtain rfl : pvB = .none := JB
        obtain rfl : bv = true := by rw [← hbv]; exact decide_eq_true rfl
        k_steps
        all_goals first
          | (rw [hR]; exact ⟨rfl, .ref vt, newsL, _, _, rfl, fcast (by assumption) (by intro y; by_cases a1 : y = "told"; (subst a1; rfl); simp only [a1, if_false]), (cb_drop (by k_asm) (by repeat (first | exact subR | refine subC ?_ | refine subS ?_))), fun e he => he, trivial⟩)
          | (exfalso; (rename (_ == (_ && _)) = false => ha); simp at ha; done)
      | some aB =>
        obtain ⟨XB, YB⟩ := aB
        obtain ⟨v2, n2, t21, t22, rfl, j2⟩ := JB
        dsimp only at j2
        obtain rfl : bv = false := by rw [← hbv]; exact decide_eq_false (by intro h; cases h)
        have NL := addE NL (.tail _ (.tail _ j2))
        repeat' ((fail_if_success (with_reducible show wpAny _ _ (compareOp CmpOp.Eq _ _) _ _ _)); first | (k_unfold; (try dsimp only)) | (k_end; wrow_close) | walk1 | (dsimp only; walk1) | fail "no step")
        refine eq_none_tup ⟨_, News.get (by k_asm) (by k_mem), rfl, _, rfl⟩ (by ke_room) ?_
        k_steps
        all_goals first
          | (rw [hR]; exact ⟨rfl, .ref vt, newsL, _, _, rfl, fcast (by assumption) (by intro y; by_cases a1 : y = "told"; (subst a1; rfl); simp only [a1, if_false]), (cb_drop (by k_asm) (by repeat (first | exact subR | refine subC ?_ | refine subS ?_))), fun e he => he, trivial⟩)
          | (exfalso; (rename (_ == (_ && _)) = false => ha); simp at ha; done)
    | some aA =>
      obtain ⟨XA, YA⟩ := aA
      obtain ⟨v1, n1, t11, t12, rfl, j1⟩ := JA
      dsimp only at j1
      have NL := addE NL (.tail _ (.tail _ j1))
      cases PB with
      | none =>
        obtain rfl : pvB = .none := JB
        obtain rfl : bv = false := by rw [← hbv]; exact decide_eq_false (by intro h; cases h)
        repeat' ((fail_if_success (with_reducible show wpAny _ _ (compareOp CmpOp.Eq _ _) _ _ _)); first | (k_unfold; (try dsimp only)) | (k_end; wrow_close) | walk1 | (dsimp only; walk1) | fail "no step")
        refine eq_tup_none ⟨_, News.get (by k_asm) (by k_mem), rfl, _, rfl⟩ (by ke_room) ?_
        k_steps
        all_goals first
          | (rw [hR]; exact ⟨rfl, .ref vt, newsL, _, _, rfl, fcast (by assumption) (by intro y; by_cases a1 : y = "told"; (subst a1; rfl); simp only [a1, if_false]), (cb_drop (by k_asm) (by repeat (first | exact subR | refine subC ?_ | refine subS ?_))), fun e he => he, trivial⟩)
          | (exfalso; (rename (_ == (_ && _)) = false => ha); simp at ha; done)
      | some aB =>
        obtain ⟨XB, YB⟩ := aB
        obtain ⟨v2, n2, t21, t22, rfl, j2⟩ := JB
        dsimp only at j2
        have NL := addE NL (.tail _ (.tail _ (.tail _ j2)))
        obtain rfl : bv = (XA == XB && YA == YB) := by rw [← hbv]; exact pair_dec _ _ _ _
        k_steps
        all_goals first
          | (rw [hR]; exact ⟨rfl, .ref vt, newsL, _, _, rfl, fcast (by assumption) (by intro y; by_cases a1 : y = "told"; (subst a1; rfl); simp only [a1, if_false]), (cb_drop (by k_asm) (by repeat (first | exact subR | refine subC ?_ | refine subS ?_))), fun e he => he, trivial⟩)
          | (exfalso; (rename (_ == (_ && _)) = false => ha); simp at ha; done)
  intro pvX newsX hX tkX FX NX sX _
  have JA := JA.mono (show ∀ e ∈ newsL, e ∈ newsX from (fun e he => (by repeat (first | exact sX e (by repeat (first | exact he | refine List.Mem.tail _ ?_)) | refine List.Mem.tail _ ?_))))
  have JF := JF.mono (show ∀ e ∈ news, e ∈ newsX from (fun e he => (by repeat (first | exact sX e (by repeat (first | exact sL e (by repeat (first | exact sH e (by repeat (first | exact he | refine List.Mem.tail _ ?_)) | refine List.Mem.tail _ ?_)) | refine List.Mem.tail _ ?_)) | refine List.Mem.tail _ ?_))))
  cases P1 with
  | none =>
    obtain rfl : pv1 = .none := JA
    k_steps
    exact hret _ _ _ _ (by k_asm) (by k_asm)
  | some aA =>
    obtain ⟨XA, YA⟩ := aA
    obtain ⟨v1, n1, t11, t12, rfl, j1⟩ := JA
    dsimp only at j1
    repeat' ((fail_if_success (with_reducible show wpAny _ _ (execs (Stmt.Assign [Expr.Name _ _] (Expr.IfExp _ _ _ _) _ :: _) _) _ _ _)); first | (k_unfold; (try dsimp only)) | (k_end; wrow_close) | walk1 | (dsimp only; walk1) | fail "no step")
    have e3 := nrm_rep hp O1.inP rF
    refine any_join "pair" (fun pv nw => ∃ r, pv = .ref r ∧ PairM 417 w.params nw q r (XA, YA)) (by k_asm) (by k_asm) ?_ ?_
    · intro R hR
      repeat' ((fail_if_success (with_reducible show wpAny _ _ (call (Value.ref 470) _) _ _ _)); (fail_if_success (with_reducible show wpAny _ _ (call (Value.ref 70) _) _ _ _)); first | (k_unfold; (try dsimp only)) | (k_end; wrow_close) | walk1 | (dsimp only; walk1) | fail "no step")
      · skip
        k_dflt (refine' cnorm2 ?B ?F ?X ?N ?T ?K ?hd ?hu hp ?j IF ?_; (case B => k_asm); (case F => k_asm); (case X => k_asm); (case N => k_asm); (case T => k_asm); (case K => first | exact rfl | assumption); (case hd => ktr_room); (case hu => ktr_units); (case j => exact JF.mono (fun e he => by repeat (first | exact he | refine List.Mem.tail _ ?_))))
        intro r1 newsI hI tkI FI NI sI Jp1 _ _
        (try dsimp only)
        rw [e3] at Jp1
        k_steps
        (rename News _ _ _ _ => Nz)
        have Nz := addE Nz (sI _ (.head _))
        rw [hR]; exact ⟨rfl, _, newsI, _, _, rfl, by k_asm, Nz, (fun e he => (by repeat (first | exact sI e (by repeat (first | exact he | refine List.Mem.tail _ ?_)) | refine List.Mem.tail _ ?_))), _, rfl, Jp1⟩
      · skip
        k_dflt (refine' cnorm1 ?B ?F ?X ?N ?T ?K ?hd ?hu hp ?j IF ?_; (case B => k_asm); (case F => k_asm); (case X => k_asm); (case N => k_asm); (case T => k_asm); (case K => first | exact rfl | assumption); (case hd => ktr_room); (case hu => ktr_units); (case j => exact JF.mono (fun e he => by repeat (first | exact he | refine List.Mem.tail _ ?_))))
        intro r1 newsI hI tkI FI NI sI Jp1 _ _
        (try dsimp only)
        rw [e3] at Jp1
        k_steps
        (rename News _ _ _ _ => Nz)
        have Nz := addE Nz (sI _ (.head _))
        rw [hR]; exact ⟨rfl, _, newsI, _, _, rfl, by k_asm, Nz, (fun e he => (by repeat (first | exact sI e (by repeat (first | exact he | refine List.Mem.tail _ ?_)) | refine List.Mem.tail _ ?_))), _, rfl, Jp1⟩
    rintro pvY newsY hY tkY FY NY sY ⟨r2, rfl, Jp⟩
    have j1 := (show ∀ e ∈ newsX, e ∈ newsY from (fun e he => (by repeat (first | exact sY e (by repeat (first | exact he | refine List.Mem.tail _ ?_)) | refine List.Mem.tail _ ?_)))) _ j1
    obtain ⟨n2, x2, y2, j2, ⟨dx2, x21, x22, x23, x24, jx2, jdx2⟩, ⟨dy2, y21, y22, y23, y24, jy2, jdy2⟩⟩ := Jp
    dsimp only at jdx2 jdy2
    have NY := addE NY (.tail _ j1)
    have NY := add5 NY (.tail _ (.tail _ j2)) (.tail _ (.tail _ jx2)) (.tail _ (.tail _ jdx2)) (.tail _ (.tail _ jy2)) (.tail _ (.tail _ jdy2))
    repeat' ((fail_if_success (with_reducible show wpAny _ _ (eval (Expr.ListComp _ _ _ _) _) _ _ _)); first | (k_unfold; (try dsimp only)) | (k_end; wrow_close) | walk1 | (dsimp only; walk1) | fail "no step")
    k_dflt (refine comp_tup (by k_asm) (by rfl) (by rfl) (by decide) (by rfl) (by decide) (by rfl) ?_)
    walk1
    refine ⟨_, _, _, rfl, by k_asm, by k_asm, .inr ⟨_, by k_mem, rfl, _, rfl⟩, by exact Nat.le_of_ble_eq_true rfl, ?_⟩
    intro g'
    lcg_lit
    k_steps
    (rename News _ _ _ _ => NU)
    refine LCg.CompEnd.intro (by assumption) NU _ (fun p hp => hp) (by assumption) (by lcg_src) ?_
    k_steps
    (rename News _ _ _ _ => NU)
    refine LCg.CompEnd.intro (by assumption) NU _ (fun p hp => hp) (by assumption) (by lcg_src) ?_
    k_steps
    exact hret _ _ _ _ (by k_asm) (by k_asm)

set_option maxRecDepth 100000 in
set_option maxHeartbeats 0 in
theorem ltoldU {q : Int} {tq : Tok} {v : Addr} {t : Tr} {l0 : List (Addr × Obj)} {S : Pt}
    (B : Below A₀ base outer h₀) (F : Fr h₀ L s.heap m) (X : (kk.heap_1 w.params).In h₀) (N : News h₀ L s.heap news) (T : Top p loose mean mg mb h₀) (hk : cs.kind = .function)
    (hd : dp + 20 < recursionLimit) (hu : un + 160 < cLine) (hp : Pr q) (J : JacM 417 w.params l0 q v t) (s0 : ∀ e ∈ l0, e ∈ news) (I : RgT q t) (hz : told q t = S) (hret : ∀ (pv : Value) (a1 : Addr) (o1 : Obj) (h' : Heap) (tk' : Nat), PtM [(a1, o1)] pv S → ((a1, o1) ∈ l0 ∨ AllLt a1 news) → Fr h₀ L h' m → News h₀ L h' ((a1, o1) :: news) → Q pv { s with heap := h', toks := tk' }) :
    wpAny (model PySem.Challenge.pw_lh0034_01 w) (ktrTop dp un gd cn cs L a ccd cl outer) (call (.ref 547) [.int q tq, .ref v]) Q E s := by

  by_cases z0 : t.2.2 = 0
  · obtain ⟨n, x, y, z, j0, j1⟩ := id J
    exact ltold0 B F X N T hk hd hu hp (J.mono s0) I z0 fun h' tk' F' N' => hret .none v _ h' tk' (by rw [← hz, told_a z0]; rfl) (.inl j0) F' (addE N' (s0 _ j0))
  · have ha := told_b hp.pos z0
    exact ltold1 B F X N T hk hd hu hp (J.mono s0) I ha fun D t1 t2 h' tk' F' N' lt => hret (.ref D) D _ h' tk' (by rw [← hz, ha]; exact ⟨_, _, _, _, rfl, .head _⟩) (.inr lt) F' N' 

theorem offU {I C D a1 : Addr} {o1 oI oC oD : Obj} {l0 r : List (Addr × Obj)} (M : (a1, o1) ∈ l0 ∨ AllLt a1 ((I, oI) :: (C, oC) :: (D, oD) :: r)) (h0 : ∀ p ∈ l0, p ∈ r) (off : LCg.Off3 I C D r) : LCg.Off3 I C D ((a1, o1) :: r) :=
  ⟨M.elim (fun h => off.mem _ (h0 _ h)) fun h => ⟨Nat.ne_of_gt h.1, Nat.ne_of_gt h.2.1, Nat.ne_of_gt h.2.2.1⟩, off⟩

set_option maxRecDepth 100000 in
set_option maxHeartbeats 0 in
theorem law_w0 {w : World} {p : Program} {loose : List Str} {mean : ExcName → Option Value} {mg mb : Str → Option Value} {h₀ : Heap} {L fa : Addr} {cdv : Value} {s : Shared} {Q : Flow → Shared → Prop} {E : Value → Shared → Prop} {l : Addr} {vs : List Value} {ns : List Int} {o : Obj}
    {q b nn fr kd wy : Int} {tq tb tn tf tk tw : Tok} {ob : Bool} {pv1 pvB : Value} {P1 PB : Pt} {vF vG : Addr} {tF tG : Tr} {news : List (Addr × Obj)} {b2 : List Stmt} {sc : Scope}
    (B : Below callerA h₀ [] h₀) (F : Fr h₀ L s.heap (fun y => if y = "second" then some (.ref vG) else if y = "first" then some (.ref vF) else if y = "n" then some (.int nn tn) else if y = "front" then some (.int fr tf) else if y = "two" then some pvB else if y = "kind" then some (.int kd tk) else if y = "other" then some (.bool ob) else if y = "way" then some (.int wy tw) else if y = "one" then some pv1 else if y = "b" then some (.int b tb) else if y = "script" then some (.ref l) else none)) (X : (kk.heap_1 w.params).In h₀) (N : News h₀ L s.heap ((L + 1, o) :: news)) (d : o.data = .cell (some (.int q tq))) (T : Top p loose mean mg mb h₀)
    (hp : Pr q) (hb : 0 < b ∧ b < q) (hg : Good q b) (JA : PtM news pv1 P1) (O1 : OnC q b P1) (JF : JacM 417 w.params news q vF tF) (IF : RgT q tF) (rF : Rep q P1 tF)
    (JB : PtM news pvB PB) (OB : OnC q b PB) (JG : JacM 417 w.params news q vG tG) (IG : RgT q tG) (rG : Rep q PB tG) (gF : tF.2.2 = 0 → tF.2.1 % q ≠ 0) (gG : tG.2.2 = 0 → tG.2.1 % q ≠ 0) (hl : h₀.IsList l vs.toArray) (hi : IntsAre vs ns) (hlen : ¬ (63 : Int) < (ns.length : Int))
    (eb : b2 = lawB0 w.params) (es : sc = lawS w.params)
    (hE : PassesOwn (model PySem.Challenge.pw_lh0034_01 w) (callerA.deeper (envOfC "law" sc L fa cdv)) (envOfC "law" sc L fa cdv) E)
    (hret : ∀ (news' : List (Addr × Obj)) (h' : Heap) (tk' : Nat) (m' : Str → Option Value), Fr h₀ L h' m' → News h₀ L h' news' → Q (.ret (.bool true)) { s with heap := h', toks := tk' }) :
    wpAny (model PySem.Challenge.pw_lh0034_01 w) (callerA.deeper (envOfC "law" sc L fa cdv)) (execs b2 (envOfC "law" sc L fa cdv)) Q E s := by
  conv at eb => rhs; whnf
  subst eb
  conv at es => rhs; whnf
  subst es
  have hq7 := And.intro hp.lo hp.hi
  have hq : 0 < q ∧ q ≤ 127 := ⟨hp.pos, hp.hi⟩
  (try dsimp only)
  repeat' ((fail_if_success (with_reducible show wpAny _ _ (call (Value.ref 519) _) _ _ _)); first | (k_unfold; (try dsimp only)) | (k_end; wrow_close) | walk1 | (dsimp only; walk1) | fail "no step")
  k_dflt (refine' lsum ?B ?F ?X ?N ?T ?K ?hd ?hu hp ?j O1.inP ?j2 OB.inP ?_; (case B => k_asm); (case F => k_asm); (case X => k_asm); (case N => k_asm); (case T => k_asm); (case K => first | exact rfl | assumption); (case hd => ktr_room); (case hu => ktr_units); (case j => exact JA.mono (fun e he => (by repeat (first | exact he | refine List.Mem.tail _ ?_)))); (case j2 => exact JB.mono (fun e he => (by repeat (first | exact he | refine List.Mem.tail _ ?_)))))
  intro pvS newsS hS tkS FS NS sS JS
  have NS := addE NS (sS _ (.head _))
  (try dsimp only)
  repeat' ((fail_if_success (with_reducible show wpAny _ _ (call (Value.ref 533) _) _ _ _)); first | (k_unfold; (try dsimp only)) | (k_end; wrow_close) | walk1 | (dsimp only; walk1) | fail "no step")
  k_dflt (refine' lplain ?B ?F ?X ?N ?T ?K ?hd ?hu hp ?j O1.inP ?_; (case B => k_asm); (case F => k_asm); (case X => k_asm); (case N => k_asm); (case T => k_asm); (case K => first | exact rfl | assumption); (case hd => ktr_room); (case hu => ktr_units); (case j => exact JA.mono (fun e he => (by repeat (first | exact sS e (by repeat (first | exact he | refine List.Mem.tail _ ?_)) | refine List.Mem.tail _ ?_)))))
  intro pw1 newsC hC tkC FC NC sC JW1 IW1
  have NC := addE NC (sC _ (.head _))
  (try dsimp only)
  repeat' ((fail_if_success (with_reducible show wpAny _ _ (call (Value.ref 533) _) _ _ _)); first | (k_unfold; (try dsimp only)) | (k_end; wrow_close) | walk1 | (dsimp only; walk1) | fail "no step")
  k_dflt (refine' lplain ?B ?F ?X ?N ?T ?K ?hd ?hu hp ?j OB.inP ?_; (case B => k_asm); (case F => k_asm); (case X => k_asm); (case N => k_asm); (case T => k_asm); (case K => first | exact rfl | assumption); (case hd => ktr_room); (case hu => ktr_units); (case j => exact JB.mono (fun e he => (by repeat (first | exact sC e (by repeat (first | exact sS e (by repeat (first | exact he | refine List.Mem.tail _ ?_)) | refine List.Mem.tail _ ?_)) | refine List.Mem.tail _ ?_)))))
  intro pw2 newsD hD tkD FD ND sD JW2 IW2
  have ND := addE ND (sD _ (.head _))
  (try dsimp only)
  repeat' ((fail_if_success (with_reducible show wpAny _ _ (call (Value.ref 98) _) _ _ _)); first | (k_unfold; (try dsimp only)) | (k_end; wrow_close) | walk1 | (dsimp only; walk1) | fail "no step")
  k_dflt (refine' padd ?B ?F ?X ?N ?T ?K ?hd ?hu hp ?j IW1 ?j2 IW2 (plCk hp hg O1 OB) ?_; (case B => k_asm); (case F => k_asm); (case X => k_asm); (case N => k_asm); (case T => k_asm); (case K => first | exact rfl | assumption); (case hd => ktr_room); (case hu => ktr_units); (case j => exact JW1.mono (fun e he => (by repeat (first | exact sD e (by repeat (first | exact he | refine List.Mem.tail _ ?_)) | refine List.Mem.tail _ ?_)))); (case j2 => exact JW2.mono (fun e he => (by repeat (first | exact he | refine List.Mem.tail _ ?_)))))
  intro pw3 newsE hE tkE FE NE sE JW3 IW3
  have NE := addE NE (sE _ (.head _))
  (try dsimp only)
  repeat' ((fail_if_success (with_reducible show wpAny _ _ (call (Value.ref 540) _) _ _ _)); first | (k_unfold; (try dsimp only)) | (k_end; wrow_close) | walk1 | (dsimp only; walk1) | fail "no step")
  k_dflt (refine' lptold ?B ?F ?X ?N ?T ?K ?hd ?hu hp ?j ?_; (case B => k_asm); (case F => k_asm); (case X => k_asm); (case N => k_asm); (case T => k_asm); (case K => first | exact rfl | assumption); (case hd => ktr_room); (case hu => ktr_units); (case j => exact JW3.mono (fun e he => (by repeat (first | exact he | refine List.Mem.tail _ ?_)))))
  intro pvT newsT hT tkT FT NT sT JT
  have NT := addE NT (sT _ (.head _))
  (try dsimp only)
  rw [plAdd_sum hp hg O1 OB] at JT
  have JS := JS.mono (show ∀ e ∈ newsS, e ∈ newsT from (fun e he => (by repeat (first | exact sT e (by repeat (first | exact sE e (by repeat (first | exact sD e (by repeat (first | exact sC e (by repeat (first | exact he | refine List.Mem.tail _ ?_)) | refine List.Mem.tail _ ?_)) | refine List.Mem.tail _ ?_)) | refine List.Mem.tail _ ?_)) | refine List.Mem.tail _ ?_))))
  have JF := JF.mono (show ∀ e ∈ news, e ∈ newsT from (fun e he => (by repeat (first | exact sT e (by repeat (first | exact sE e (by repeat (first | exact sD e (by repeat (first | exact sC e (by repeat (first | exact sS e (by repeat (first | exact he | refine List.Mem.tail _ ?_)) | refine List.Mem.tail _ ?_)) | refine List.Mem.tail _ ?_)) | refine List.Mem.tail _ ?_)) | refine List.Mem.tail _ ?_)) | refine List.Mem.tail _ ?_))))
  have JG := JG.mono (show ∀ e ∈ news, e ∈ newsT from (fun e he => (by repeat (first | exact sT e (by repeat (first | exact sE e (by repeat (first | exact sD e (by repeat (first | exact sC e (by repeat (first | exact sS e (by repeat (first | exact he | refine List.Mem.tail _ ?_)) | refine List.Mem.tail _ ?_)) | refine List.Mem.tail _ ?_)) | refine List.Mem.tail _ ?_)) | refine List.Mem.tail _ ?_)) | refine List.Mem.tail _ ?_))))
  obtain ⟨S, hS⟩ : ∃ S, sumA q P1 PB = S := ⟨_, rfl⟩
  rw [hS] at JT JS
  repeat' ((fail_if_success (with_reducible show wpAny _ _ (compareOp CmpOp.NotEq _ _) _ _ _)); first | (k_unfold; (try dsimp only)) | (k_end; wrow_close) | walk1 | (dsimp only; walk1) | fail "no step")
  refine pt_ne (by k_asm) JT JS (by ke_room) ?_
  repeat' ((fail_if_success (with_reducible show wpAny _ _ (call (Value.ref 554) _) _ _ _)); first | (k_unfold; (try dsimp only)) | (k_end; wrow_close) | walk1 | (dsimp only; walk1) | fail "no step")
  k_dflt (refine' lsumsB ?B ?F ?X ?N ?T ?K ?hd ?hu hp hb hg O1 OB rF rG ?j IF ?j2 IG hS ?js ?_; (case B => k_asm); (case F => k_asm); (case X => k_asm); (case N => k_asm); (case T => k_asm); (case K => first | exact rfl | assumption); (case hd => ktr_room); (case hu => ktr_units); (case j => exact JF.mono (fun e he => by repeat (first | exact he | refine List.Mem.tail _ ?_))); (case j2 => exact JG.mono (fun e he => by repeat (first | exact he | refine List.Mem.tail _ ?_))); (case js => exact JS.mono (fun e he => by repeat (first | exact he | refine List.Mem.tail _ ?_))))
  intro newsU hU tkU FU NU sU
  have NU := addE NU (sU _ (.head _))
  (try dsimp only)
  k_steps
  exact hret _ _ _ _ (by k_asm) (by k_asm)

set_option maxRecDepth 100000 in
set_option maxHeartbeats 0 in
theorem law_w1 {w : World} {p : Program} {loose : List Str} {mean : ExcName → Option Value} {mg mb : Str → Option Value} {h₀ : Heap} {L fa : Addr} {cdv : Value} {s : Shared} {Q : Flow → Shared → Prop} {E : Value → Shared → Prop} {l : Addr} {vs : List Value} {ns : List Int} {o : Obj}
    {q b nn fr kd wy : Int} {tq tb tn tf tk tw : Tok} {ob : Bool} {pv1 pvB : Value} {P1 PB : Pt} {vF vG : Addr} {tF tG : Tr} {news : List (Addr × Obj)} {b2 : List Stmt} {sc : Scope}
    (B : Below callerA h₀ [] h₀) (F : Fr h₀ L s.heap (fun y => if y = "second" then some (.ref vG) else if y = "first" then some (.ref vF) else if y = "n" then some (.int nn tn) else if y = "front" then some (.int fr tf) else if y = "two" then some pvB else if y = "kind" then some (.int kd tk) else if y = "other" then some (.bool ob) else if y = "way" then some (.int wy tw) else if y = "one" then some pv1 else if y = "b" then some (.int b tb) else if y = "script" then some (.ref l) else none)) (X : (kk.heap_1 w.params).In h₀) (N : News h₀ L s.heap ((L + 1, o) :: news)) (d : o.data = .cell (some (.int q tq))) (T : Top p loose mean mg mb h₀)
    (hp : Pr q) (hb : 0 < b ∧ b < q) (hg : Good q b) (JA : PtM news pv1 P1) (O1 : OnC q b P1) (JF : JacM 417 w.params news q vF tF) (IF : RgT q tF) (rF : Rep q P1 tF)
    (JB : PtM news pvB PB) (OB : OnC q b PB) (JG : JacM 417 w.params news q vG tG) (IG : RgT q tG) (rG : Rep q PB tG) (gF : tF.2.2 = 0 → tF.2.1 % q ≠ 0) (gG : tG.2.2 = 0 → tG.2.1 % q ≠ 0) (hl : h₀.IsList l vs.toArray) (hi : IntsAre vs ns) (hlen : ¬ (63 : Int) < (ns.length : Int))
    (eb : b2 = lawB1 w.params) (es : sc = lawS w.params)
    (hE : PassesOwn (model PySem.Challenge.pw_lh0034_01 w) (callerA.deeper (envOfC "law" sc L fa cdv)) (envOfC "law" sc L fa cdv) E)
    (hret : ∀ (news' : List (Addr × Obj)) (h' : Heap) (tk' : Nat) (m' : Str → Option Value), Fr h₀ L h' m' → News h₀ L h' news' → Q (.ret (.bool true)) { s with heap := h', toks := tk' }) :
    wpAny (model PySem.Challenge.pw_lh0034_01 w) (callerA.deeper (envOfC "law" sc L fa cdv)) (execs b2 (envOfC "law" sc L fa cdv)) Q E s := by
  conv at eb => rhs; whnf
  subst eb
  conv at es => rhs; whnf
  subst es
  have hq7 := And.intro hp.lo hp.hi
  have hq : 0 < q ∧ q ≤ 127 := ⟨hp.pos, hp.hi⟩
  (try dsimp only)
  repeat' ((fail_if_success (with_reducible show wpAny _ _ (call (Value.ref 526) _) _ _ _)); first | (k_unfold; (try dsimp only)) | (k_end; wrow_close) | walk1 | (dsimp only; walk1) | fail "no step")
  k_dflt (refine' lmadeR ?B ?F ?X ?N ?T ?K ?hd ?hu hp ?j O1.inP (sc_in hq7.1) ?hf ?_; (case B => k_asm); (case F => k_asm); (case X => k_asm); (case N => k_asm); (case T => k_asm); (case K => first | exact rfl | assumption); (case hd => ktr_room); (case hu => ktr_units); (case j => exact JA.mono (fun e he => (by repeat (first | exact he | refine List.Mem.tail _ ?_)))); (case hf => omega))
  intro vH tH newsH hH tkH FH NH sH JH IH rH gH
  have NH := addE NH (sH _ (.head _))
  (try dsimp only)
  repeat' ((fail_if_success (with_reducible show wpAny _ _ (execs (Stmt.Assign [Expr.Name _ _] (Expr.IfExp _ _ _ _) _ :: _) _) _ _ _)); first | (k_unfold; (try dsimp only)) | (k_end; wrow_close) | walk1 | (dsimp only; walk1) | fail "no step")
  have JF := JF.mono (show ∀ e ∈ news, e ∈ newsH from (fun e he => (by repeat (first | exact sH e (by repeat (first | exact he | refine List.Mem.tail _ ?_)) | refine List.Mem.tail _ ?_))))
  have JG := JG.mono (show ∀ e ∈ news, e ∈ newsH from (fun e he => (by repeat (first | exact sH e (by repeat (first | exact he | refine List.Mem.tail _ ?_)) | refine List.Mem.tail _ ?_))))
  (rename News _ _ _ _ => NX)
  refine any_join "told" (fun pv nw => ∃ lt r1 r2 r3 t1 t2 t3, pv = .ref lt ∧ (lt, W.listOf #[.ref r1, .ref r2, .ref r3] 0) ∈ nw ∧ JacM 417 w.params nw q r1 t1 ∧ RgT q t1 ∧ Rep q (sumA q P1 P1) t1 ∧ JacM 417 w.params nw q r2 t2 ∧ RgT q t2 ∧ Rep q (sumA q P1 P1) t2 ∧ JacM 417 w.params nw q r3 t3 ∧ RgT q t3 ∧ Rep q (minusA q PB) t3) (by k_asm) NX ?_ ?_
  · intro R hR
    repeat' ((fail_if_success (with_reducible show wpAny _ _ (call (Value.ref 442) _) _ _ _)); (fail_if_success (with_reducible show wpAny _ _ (call (Value.ref 42) _) _ _ _)); first | (k_unfold; (try dsimp only)) | (k_end; wrow_close) | walk1 | (dsimp only; walk1) | fail "no step")
    · skip
      k_dflt (refine' dbl2 ?B ?F ?X ?N ?T ?K ?hd ?hu hp ?j IH ?_; (case B => k_asm); (case F => k_asm); (case X => k_asm); (case N => k_asm); (case T => k_asm); (case K => first | exact rfl | assumption); (case hd => ktr_room); (case hu => ktr_units); (case j => exact JH.mono (fun e he => by repeat (first | exact he | refine List.Mem.tail _ ?_))))
      intro r1 newsI hI tkI FI NI sI Ja1 Ia1
      have NI := addE NI (sI _ (.head _))
      (try dsimp only)
      repeat' ((fail_if_success (with_reducible show wpAny _ _ (call (Value.ref 449) _) _ _ _)); first | (k_unfold; (try dsimp only)) | (k_end; wrow_close) | walk1 | (dsimp only; walk1) | fail "no step")
      k_dflt (refine' cadd2 ?B ?F ?X ?N ?T ?K ?hd ?hu hp ?j IF ?j2 IH ?_; (case B => k_asm); (case F => k_asm); (case X => k_asm); (case N => k_asm); (case T => k_asm); (case K => first | exact rfl | assumption); (case hd => ktr_room); (case hu => ktr_units); (case j => exact JF.mono (fun e he => (by repeat (first | exact sI e (by repeat (first | exact he | refine List.Mem.tail _ ?_)) | refine List.Mem.tail _ ?_)))); (case j2 => exact JH.mono (fun e he => (by repeat (first | exact sI e (by repeat (first | exact he | refine List.Mem.tail _ ?_)) | refine List.Mem.tail _ ?_)))))
      intro r2 newsJ hJ tkJ FJ NJ sJ Ja2 Ia2
      have NJ := addE NJ (sJ _ (.head _))
      (try dsimp only)
      repeat' ((fail_if_success (with_reducible show wpAny _ _ (call (Value.ref 477) _) _ _ _)); first | (k_unfold; (try dsimp only)) | (k_end; wrow_close) | walk1 | (dsimp only; walk1) | fail "no step")
      k_dflt (refine' cneg2 ?B ?F ?X ?N ?T ?K ?hd ?hu hp ?j IG ?_; (case B => k_asm); (case F => k_asm); (case X => k_asm); (case N => k_asm); (case T => k_asm); (case K => first | exact rfl | assumption); (case hd => ktr_room); (case hu => ktr_units); (case j => exact JG.mono (fun e he => (by repeat (first | exact sJ e (by repeat (first | exact sI e (by repeat (first | exact he | refine List.Mem.tail _ ?_)) | refine List.Mem.tail _ ?_)) | refine List.Mem.tail _ ?_)))))
      intro r3 newsK hK tkK FK NK sK Ja3 Ia3
      have NK := addE NK (sK _ (.head _))
      (try dsimp only)
      k_steps
      (rename News _ _ _ _ => Nz)
      have Nz := addE Nz (.tail _ (.head _))
      rw [hR]; exact ⟨rfl, _, _, _, _, rfl, by k_asm, Nz, (fun e he => (by repeat (first | exact sK e (by repeat (first | exact sJ e (by repeat (first | exact sI e (by repeat (first | exact he | refine List.Mem.tail _ ?_)) | refine List.Mem.tail _ ?_)) | refine List.Mem.tail _ ?_)) | refine List.Mem.tail _ ?_))), _, _, _, _, _, _, _, rfl, .head _, Ja1.mono (fun e he => (by repeat (first | exact sK e (by repeat (first | exact sJ e (by repeat (first | exact he | refine List.Mem.tail _ ?_)) | refine List.Mem.tail _ ?_)) | refine List.Mem.tail _ ?_))), Ia1, dbl_rep hp hg O1 rH, Ja2.mono (fun e he => (by repeat (first | exact sK e (by repeat (first | exact he | refine List.Mem.tail _ ?_)) | refine List.Mem.tail _ ?_))), Ia2, add_rep hp hg O1 O1 rF rH, Ja3.mono (fun e he => (by repeat (first | exact he | refine List.Mem.tail _ ?_))), Ia3, neg_rep hp OB.inP rG⟩
    · skip
      k_dflt (refine' dbl1 ?B ?F ?X ?N ?T ?K ?hd ?hu hp ?j IH ?_; (case B => k_asm); (case F => k_asm); (case X => k_asm); (case N => k_asm); (case T => k_asm); (case K => first | exact rfl | assumption); (case hd => ktr_room); (case hu => ktr_units); (case j => exact JH.mono (fun e he => by repeat (first | exact he | refine List.Mem.tail _ ?_))))
      intro r1 newsI hI tkI FI NI sI Ja1 Ia1
      have NI := addE NI (sI _ (.head _))
      (try dsimp only)
      repeat' ((fail_if_success (with_reducible show wpAny _ _ (call (Value.ref 49) _) _ _ _)); first | (k_unfold; (try dsimp only)) | (k_end; wrow_close) | walk1 | (dsimp only; walk1) | fail "no step")
      k_dflt (refine' cadd1 ?B ?F ?X ?N ?T ?K ?hd ?hu hp ?j IF ?j2 IH ?_; (case B => k_asm); (case F => k_asm); (case X => k_asm); (case N => k_asm); (case T => k_asm); (case K => first | exact rfl | assumption); (case hd => ktr_room); (case hu => ktr_units); (case j => exact JF.mono (fun e he => (by repeat (first | exact sI e (by repeat (first | exact he | refine List.Mem.tail _ ?_)) | refine List.Mem.tail _ ?_)))); (case j2 => exact JH.mono (fun e he => (by repeat (first | exact sI e (by repeat (first | exact he | refine List.Mem.tail _ ?_)) | refine List.Mem.tail _ ?_)))))
      intro r2 newsJ hJ tkJ FJ NJ sJ Ja2 Ia2
      have NJ := addE NJ (sJ _ (.head _))
      (try dsimp only)
      repeat' ((fail_if_success (with_reducible show wpAny _ _ (call (Value.ref 77) _) _ _ _)); first | (k_unfold; (try dsimp only)) | (k_end; wrow_close) | walk1 | (dsimp only; walk1) | fail "no step")
      k_dflt (refine' cneg1 ?B ?F ?X ?N ?T ?K ?hd ?hu hp ?j IG ?_; (case B => k_asm); (case F => k_asm); (case X => k_asm); (case N => k_asm); (case T => k_asm); (case K => first | exact rfl | assumption); (case hd => ktr_room); (case hu => ktr_units); (case j => exact JG.mono (fun e he => (by repeat (first | exact sJ e (by repeat (first | exact sI e (by repeat (first | exact he | refine List.Mem.tail _ ?_)) | refine List.Mem.tail _ ?_)) | refine List.Mem.tail _ ?_)))))
      intro r3 newsK hK tkK FK NK sK Ja3 Ia3
      have NK := addE NK (sK _ (.head _))
      (try dsimp only)
      k_steps
      (rename News _ _ _ _ => Nz)
      have Nz := addE Nz (.tail _ (.head _))
      rw [hR]; exact ⟨rfl, _, _, _, _, rfl, by k_asm, Nz, (fun e he => (by repeat (first | exact sK e (by repeat (first | exact sJ e (by repeat (first | exact sI e (by repeat (first | exact he | refine List.Mem.tail _ ?_)) | refine List.Mem.tail _ ?_)) | refine List.Mem.tail _ ?_)) | refine List.Mem.tail _ ?_))), _, _, _, _, _, _, _, rfl, .head _, Ja1.mono (fun e he => (by repeat (first | exact sK e (by repeat (first | exact sJ e (by repeat (first | exact he | refine List.Mem.tail _ ?_)) | refine List.Mem.tail _ ?_)) | refine List.Mem.tail _ ?_))), Ia1, dbl_rep hp hg O1 rH, Ja2.mono (fun e he => (by repeat (first | exact sK e (by repeat (first | exact he | refine List.Mem.tail _ ?_)) | refine List.Mem.tail _ ?_))), Ia2, add_rep hp hg O1 O1 rF rH, Ja3.mono (fun e he => (by repeat (first | exact he | refine List.Mem.tail _ ?_))), Ia3, neg_rep hp OB.inP rG⟩
  rintro pvL newsL hL tkL FL NL sL ⟨lt, r1, r2, r3, t1, t2, t3, rfl, jL, Ja1, Ia1, ra1, Ja2, Ia2, ra2, Ja3, Ia3, ra3⟩
  repeat' ((fail_if_success (with_reducible show wpAny _ _ (call (Value.ref 519) _) _ _ _)); first | (k_unfold; (try dsimp only)) | (k_end; wrow_close) | walk1 | (dsimp only; walk1) | fail "no step")
  k_dflt (refine' lsum ?B ?F ?X ?N ?T ?K ?hd ?hu hp ?j O1.inP ?j2 O1.inP ?_; (case B => k_asm); (case F => k_asm); (case X => k_asm); (case N => k_asm); (case T => k_asm); (case K => first | exact rfl | assumption); (case hd => ktr_room); (case hu => ktr_units); (case j => exact JA.mono (fun e he => (by repeat (first | exact sL e (by repeat (first | exact sH e (by repeat (first | exact he | refine List.Mem.tail _ ?_)) | refine List.Mem.tail _ ?_)) | refine List.Mem.tail _ ?_)))); (case j2 => exact JA.mono (fun e he => (by repeat (first | exact sL e (by repeat (first | exact sH e (by repeat (first | exact he | refine List.Mem.tail _ ?_)) | refine List.Mem.tail _ ?_)) | refine List.Mem.tail _ ?_)))))
  intro pvS newsS hS tkS FS NS sS JS
  have NS := addE NS (sS _ (.head _))
  (try dsimp only)
  have NS := addE NS (.tail _ ((show ∀ e ∈ newsL, e ∈ newsS from (fun e he => (by repeat (first | exact sS e (by repeat (first | exact he | refine List.Mem.tail _ ?_)) | refine List.Mem.tail _ ?_)))) _ jL))
  obtain ⟨D, hD⟩ : ∃ D, sumA q P1 P1 = D := ⟨_, rfl⟩
  obtain ⟨M, hM⟩ : ∃ M, minusA q PB = M := ⟨_, rfl⟩
  have oD := sum_on hp hg O1 O1
  have oM := minus_on OB
  rw [hD] at JS ra1 ra2 oD
  rw [hM] at ra3 oM
  have z1 := told_rep hp oD.inP ra1
  have z2 := told_rep hp oD.inP ra2
  have z3 := told_rep hp oM.inP ra3
  repeat' ((fail_if_success (with_reducible show wpAny _ _ (call (Value.ref 547) _) _ _ _)); first | (k_unfold; (try dsimp only)) | (k_end; wrow_close) | walk1 | (dsimp only; walk1) | fail "no step")
  k_dflt (refine' ltoldU ?B ?F ?X ?N ?T ?K ?hd ?hu hp ?j ?s0 Ia1 z1 ?_; (case B => k_asm); (case F => k_asm); (case X => k_asm); (case N => k_asm); (case T => k_asm); (case K => first | exact rfl | assumption); (case hd => ktr_room); (case hu => ktr_units); (case j => exact Ja1.mono (fun e he => (by repeat (first | exact sS e (by repeat (first | exact he | refine List.Mem.tail _ ?_)) | refine List.Mem.tail _ ?_)))); (case s0 => exact (fun e he => by repeat (first | exact he | refine List.Mem.tail _ ?_))))
  intro v1 a1 o1 hT1 tkT1 Pt1 M1 FT1 NT1
  (try dsimp only)
  refine LCg.CompEnd.intro (by assumption) NT1 _ swap3 (offU M1 (fun e he => by repeat (first | exact he | refine List.Mem.tail _ ?_)) (by assumption)) (by lcg_src) ?_
  repeat' ((fail_if_success (with_reducible show wpAny _ _ (call (Value.ref 547) _) _ _ _)); first | (k_unfold; (try dsimp only)) | (k_end; wrow_close) | walk1 | (dsimp only; walk1) | fail "no step")
  k_dflt (refine' ltoldU ?B ?F ?X ?N ?T ?K ?hd ?hu hp ?j ?s0 Ia2 z2 ?_; (case B => k_asm); (case F => k_asm); (case X => k_asm); (case N => k_asm); (case T => k_asm); (case K => first | exact rfl | assumption); (case hd => ktr_room); (case hu => ktr_units); (case j => exact Ja2.mono (fun e he => (by repeat (first | exact sS e (by repeat (first | exact he | refine List.Mem.tail _ ?_)) | refine List.Mem.tail _ ?_)))); (case s0 => exact (fun e he => by repeat (first | exact he | refine List.Mem.tail _ ?_))))
  intro v2 a2 o2 hT2 tkT2 Pt2 M2 FT2 NT2
  (try dsimp only)
  refine LCg.CompEnd.intro (by assumption) NT2 _ swap3 (offU M2 (fun e he => by repeat (first | exact he | refine List.Mem.tail _ ?_)) (by assumption)) (by lcg_src) ?_
  repeat' ((fail_if_success (with_reducible show wpAny _ _ (call (Value.ref 547) _) _ _ _)); first | (k_unfold; (try dsimp only)) | (k_end; wrow_close) | walk1 | (dsimp only; walk1) | fail "no step")
  k_dflt (refine' ltoldU ?B ?F ?X ?N ?T ?K ?hd ?hu hp ?j ?s0 Ia3 z3 ?_; (case B => k_asm); (case F => k_asm); (case X => k_asm); (case N => k_asm); (case T => k_asm); (case K => first | exact rfl | assumption); (case hd => ktr_room); (case hu => ktr_units); (case j => exact Ja3.mono (fun e he => (by repeat (first | exact sS e (by repeat (first | exact he | refine List.Mem.tail _ ?_)) | refine List.Mem.tail _ ?_)))); (case s0 => exact (fun e he => by repeat (first | exact he | refine List.Mem.tail _ ?_))))
  intro v3 a3 o3 hT3 tkT3 Pt3 M3 FT3 NT3
  (try dsimp only)
  refine LCg.CompEnd.intro (by assumption) NT3 _ swap3 (offU M3 (fun e he => by repeat (first | exact he | refine List.Mem.tail _ ?_)) (by assumption)) (by lcg_src) ?_
  repeat' ((fail_if_success (with_reducible show wpAny _ _ (call (Value.ref 512) _) _ _ _)); first | (k_unfold; (try dsimp only)) | (k_end; wrow_close) | walk1 | (dsimp only; walk1) | fail "no step")
  k_dflt (refine' lminus ?B ?F ?X ?N ?T ?K ?hd ?hu hp ?j OB.inP ?_; (case B => k_asm); (case F => k_asm); (case X => k_asm); (case N => k_asm); (case T => k_asm); (case K => first | exact rfl | assumption); (case hd => ktr_room); (case hu => ktr_units); (case j => exact JB.mono (fun e he => (by repeat (first | exact sS e (by repeat (first | exact sL e (by repeat (first | exact sH e (by repeat (first | exact he | refine List.Mem.tail _ ?_)) | refine List.Mem.tail _ ?_)) | refine List.Mem.tail _ ?_)) | refine List.Mem.tail _ ?_)))))
  intro pvM newsM hM2 tkM FM NM sM JM
  (try dsimp only)
  rw [hM] at JM
  have NM := addE NM (sM _ (.head _))
  have NM := addE NM (.tail _ (sM _ (.tail _ (.head _))))
  have NM := addE NM (.tail _ (.tail _ (sM _ (.tail _ (.tail _ (.head _))))))
  have NM := addE NM (.tail _ (.tail _ (.tail _ (sM _ (.tail _ (.tail _ (.tail _ (.head _))))))))
  have NM := addE NM (.tail _ (.tail _ (.tail _ (.tail _ (sM _ (.tail _ (.tail _ (.tail _ (.tail _ (.head _))))))))))
  have NM := addE NM (.tail _ (.tail _ (.tail _ (.tail _ (.tail _ (sM _ (.tail _ (.tail _ (.tail _ (.tail _ (.tail _ (.head _))))))))))))
  have JS := JS.mono (show ∀ e ∈ newsS, e ∈ newsM from (fun e he => sM e (.tail _ (.tail _ (.tail _ (.tail _ (.tail _ (.tail _ (he)))))))))
  have Pt1 := Pt1.mono (show ∀ e ∈ [(a1, o1)], e ∈ newsM from fun e he => (List.mem_singleton.mp he) ▸ sM _ (.tail _ (.tail _ (.tail _ (.head _)))))
  have Pt2 := Pt2.mono (show ∀ e ∈ [(a2, o2)], e ∈ newsM from fun e he => (List.mem_singleton.mp he) ▸ sM _ (.tail _ (.tail _ (.head _))))
  have Pt3 := Pt3.mono (show ∀ e ∈ [(a3, o3)], e ∈ newsM from fun e he => (List.mem_singleton.mp he) ▸ sM _ (.tail _ (.head _)))
  repeat' ((fail_if_success (with_reducible show wpAny _ _ (compareOp CmpOp.Eq _ _) _ _ _)); first | (k_unfold; (try dsimp only)) | (k_end; wrow_close) | walk1 | (dsimp only; walk1) | fail "no step")
  refine pts_eq (by k_asm) (by k_mem) (by k_mem) (Pt1.mono (fun e he => by repeat (first | exact he | refine List.Mem.tail _ ?_))) (JS.mono (fun e he => by repeat (first | exact he | refine List.Mem.tail _ ?_))) (Pt2.mono (fun e he => by repeat (first | exact he | refine List.Mem.tail _ ?_))) (JS.mono (fun e he => by repeat (first | exact he | refine List.Mem.tail _ ?_))) (Pt3.mono (fun e he => by repeat (first | exact he | refine List.Mem.tail _ ?_))) (JM.mono (fun e he => by repeat (first | exact he | refine List.Mem.tail _ ?_))) (by ke_room) ?_
  k_steps
  exact hret _ _ _ _ (by k_asm) (by k_asm)

set_option maxRecDepth 100000 in
set_option maxHeartbeats 0 in
theorem law_body {w : World} {p : Program} {loose : List Str} {mean : ExcName → Option Value} {mg mb : Str → Option Value} {h₀ : Heap} {L fa : Addr} {cdv : Value} {s : Shared} {Q : Flow → Shared → Prop} {E : Value → Shared → Prop} {l : Addr} {vs : List Value} {ns : List Int} {o : Obj}
    (B : Below callerA h₀ [] h₀) (F : Fr h₀ L s.heap (fun y => if y = "script" then some (.ref l) else none)) (X : (kk.heap_1 w.params).In h₀) (N : News h₀ L s.heap [(L + 1, o)]) (d : o.data = .cell none) (T : Top p loose mean mg mb h₀)
    (hl : h₀.IsList l vs.toArray) (hi : IntsAre vs ns) (hlen : ¬ (63 : Int) < (ns.length : Int)) (b : List Stmt) (eb : b = lawB w.params) (sc : Scope) (es : sc = lawS w.params)
    (hE : PassesOwn (model PySem.Challenge.pw_lh0034_01 w) (callerA.deeper (envOfC "law" sc L fa cdv)) (envOfC "law" sc L fa cdv) E)
    (hret : ∀ (news' : List (Addr × Obj)) (h' : Heap) (tk' : Nat) (m' : Str → Option Value), Fr h₀ L h' m' → News h₀ L h' news' → Q (.ret (.bool true)) { s with heap := h', toks := tk' }) :
    wpAny (model PySem.Challenge.pw_lh0034_01 w) (callerA.deeper (envOfC "law" sc L fa cdv)) (execs b (envOfC "law" sc L fa cdv)) Q E s := by
  conv at eb => rhs; whnf
  subst eb
  conv at es => rhs; whnf
  subst es
  (try dsimp only)
  repeat' ((fail_if_success (with_reducible show wpAny _ _ (subscriptTail _ _ (Value.ref _) (Value.int _ _)) _ _ _)); first | (k_unfold; (try dsimp only)) | (k_end; wrow_close) | walk1 | (dsimp only; walk1) | fail "no step")
  k_dflt (refine' prime_item ?hpl ?_; (case hpl => is_list))
  intro q tq hp
  (try dsimp only)
  have hq7 := And.intro hp.lo hp.hi
  have hq : 0 < q ∧ q ≤ 127 := ⟨hp.pos, hp.hi⟩
  repeat' ((fail_if_success (with_reducible show wpAny _ _ (call (Value.ref 498) _) _ _ _)); first | (k_unfold; (try dsimp only)) | (k_end; wrow_close) | walk1 | (dsimp only; walk1) | fail "no step")
  k_dflt (refine' lcurve ?B ?F ?X ?N ?T ?K ?hd ?hu hp (by assumption) ?_; (case B => k_asm); (case F => k_asm); (case X => k_asm); (case N => k_asm); (case T => k_asm); (case K => first | exact rfl | assumption); (case hd => ktr_room); (case hu => ktr_units))
  intro b tb0 hb0 tkb0 gb Fb0 Nb0
  (try dsimp only)
  obtain ⟨hb1, hb2, hg⟩ := gb
  have hb : 0 < b ∧ b < q := ⟨hb1, hb2⟩
  repeat' ((fail_if_success (with_reducible show wpAny _ _ (call (Value.ref 505) _) _ _ _)); first | (k_unfold; (try dsimp only)) | (k_end; wrow_close) | walk1 | (dsimp only; walk1) | fail "no step")
  k_dflt (refine' lpoint ?B ?F ?X ?N ?T ?K ?hd ?hu hp hb hg (by assumption) ?_; (case B => k_asm); (case F => k_asm); (case X => k_asm); (case N => k_asm); (case T => k_asm); (case K => first | exact rfl | assumption); (case hd => ktr_room); (case hu => ktr_units))
  intro pv1 P1 news1 h1 tk1 F1 N1 s1 J1 O1
  (try dsimp only)
  have N1 := addE N1 (s1 _ (.tail _ (.head _)))
  repeat' ((fail_if_success (with_reducible show wpAny _ _ (call (Value.ref 505) _) _ _ _)); first | (k_unfold; (try dsimp only)) | (k_end; wrow_close) | walk1 | (dsimp only; walk1) | fail "no step")
  k_dflt (refine' lpoint ?B ?F ?X ?N ?T ?K ?hd ?hu hp hb hg (by assumption) ?_; (case B => k_asm); (case F => k_asm); (case X => k_asm); (case N => k_asm); (case T => k_asm); (case K => first | exact rfl | assumption); (case hd => ktr_room); (case hu => ktr_units))
  intro pv2 P2 news2 h2 tk2 F2 N2 s2 J2 O2
  (try dsimp only)
  have N2 := addE N2 (s2 _ (.head _))
  repeat' ((fail_if_success (with_reducible show wpAny _ _ (execs (Stmt.If _ _ _ _ :: _) _) _ _ _)); first | (k_unfold; (try dsimp only)) | (k_end; wrow_close) | walk1 | (dsimp only; walk1) | fail "no step")
  (rename News _ _ _ _ => Nx)
  have Ny := cb_drop Nx (fun p hp => List.Mem.tail _ (List.Mem.tail _ hp))
  refine if_join "two" q b (by k_asm) Ny ?_ ?_
  · intro R hR
    k_steps
    · rw [hR]; exact ⟨rfl, pv1, P1, news2, _, _, rfl, by k_asm, by k_asm, fun e he => he, J1.mono (fun e he => (by repeat (first | exact s2 e (by repeat (first | exact he | refine List.Mem.tail _ ?_)) | refine List.Mem.tail _ ?_))), O1⟩
    · rw [hR]; exact ⟨rfl, pv2, P2, news2, _, _, rfl, by (rw [upd_same (by exact rfl)]; k_asm), by k_asm, fun e he => he, J2, O2⟩
  intro pv3 P3 news3 h3 tk3 F3 N3 s3 J3 O3
  clear J2 O2
  refine if_join "two" q b (by k_asm) N3 ?_ ?_
  · intro R hR
    repeat' ((fail_if_success (with_reducible show wpAny _ _ (call (Value.ref 512) _) _ _ _)); first | (k_unfold; (try dsimp only)) | (k_end; wrow_close) | walk1 | (dsimp only; walk1) | fail "no step")
    · k_dflt (refine' lminus ?B ?F ?X ?N ?T ?K ?hd ?hu hp ?j O1.inP ?_; (case B => k_asm); (case F => k_asm); (case X => k_asm); (case N => k_asm); (case T => k_asm); (case K => first | exact rfl | assumption); (case hd => ktr_room); (case hu => ktr_units); (case j => exact J1.mono (fun e he => (by repeat (first | exact s3 e (by repeat (first | exact s2 e (by repeat (first | exact he | refine List.Mem.tail _ ?_)) | refine List.Mem.tail _ ?_)) | refine List.Mem.tail _ ?_)))))
      intro pv4 news4 h4 tk4 F4 N4 s4 J4
      have N4 := addE N4 (s4 _ (.head _))
      (try dsimp only)
      k_steps
      rw [hR]; exact ⟨rfl, pv4, _, news4, _, _, rfl, by k_asm, by k_asm, (fun e he => (by repeat (first | exact s4 e (by repeat (first | exact he | refine List.Mem.tail _ ?_)) | refine List.Mem.tail _ ?_))), J4, minus_on O1⟩
    · rw [hR]; exact ⟨rfl, pv3, P3, news3, _, _, rfl, by (rw [upd_same (by exact rfl)]; k_asm), by k_asm, fun e he => he, J3, O3⟩
  intro pv4 P4 news4 h4 tk4 F4 N4 s4 J4 O4
  clear J3 O3
  refine if_join "two" q b (by k_asm) N4 ?_ ?_
  · intro R hR
    repeat' ((fail_if_success (with_reducible show wpAny _ _ (call (Value.ref 519) _) _ _ _)); first | (k_unfold; (try dsimp only)) | (k_end; wrow_close) | walk1 | (dsimp only; walk1) | fail "no step")
    · k_dflt (refine' lsum ?B ?F ?X ?N ?T ?K ?hd ?hu hp ?j O1.inP ?j2 O1.inP ?_; (case B => k_asm); (case F => k_asm); (case X => k_asm); (case N => k_asm); (case T => k_asm); (case K => first | exact rfl | assumption); (case hd => ktr_room); (case hu => ktr_units); (case j => exact J1.mono (fun e he => (by repeat (first | exact s4 e (by repeat (first | exact s3 e (by repeat (first | exact s2 e (by repeat (first | exact he | refine List.Mem.tail _ ?_)) | refine List.Mem.tail _ ?_)) | refine List.Mem.tail _ ?_)) | refine List.Mem.tail _ ?_)))); (case j2 => exact J1.mono (fun e he => (by repeat (first | exact s4 e (by repeat (first | exact s3 e (by repeat (first | exact s2 e (by repeat (first | exact he | refine List.Mem.tail _ ?_)) | refine List.Mem.tail _ ?_)) | refine List.Mem.tail _ ?_)) | refine List.Mem.tail _ ?_)))))
      intro pv5 news5 h5 tk5 F5 N5 s5 J5
      have N5 := addE N5 (s5 _ (.head _))
      (try dsimp only)
      k_steps
      rw [hR]; exact ⟨rfl, pv5, _, news5, _, _, rfl, by k_asm, by k_asm, (fun e he => (by repeat (first | exact s5 e (by repeat (first | exact he | refine List.Mem.tail _ ?_)) | refine List.Mem.tail _ ?_))), J5, sum_on hp hg O1 O1⟩
    · rw [hR]; exact ⟨rfl, pv4, P4, news4, _, _, rfl, by (rw [upd_same (by exact rfl)]; k_asm), by k_asm, fun e he => he, J4, O4⟩
  intro pvB PB news5 h5 tk5 F5 N5 s5 JB OB
  clear J4 O4
  have JA := J1.mono (show ∀ e ∈ news1, e ∈ news5 from (fun e he => (by repeat (first | exact s5 e (by repeat (first | exact s4 e (by repeat (first | exact s3 e (by repeat (first | exact s2 e (by repeat (first | exact he | refine List.Mem.tail _ ?_)) | refine List.Mem.tail _ ?_)) | refine List.Mem.tail _ ?_)) | refine List.Mem.tail _ ?_)) | refine List.Mem.tail _ ?_))))
  repeat' ((fail_if_success (with_reducible show wpAny _ _ (call (Value.ref 526) _) _ _ _)); first | (k_unfold; (try dsimp only)) | (k_end; wrow_close) | walk1 | (dsimp only; walk1) | fail "no step")
  k_dflt (refine' lmadeR ?B ?F ?X ?N ?T ?K ?hd ?hu hp ?j O1.inP (sc_in hq7.1) ?hf ?_; (case B => k_asm); (case F => k_asm); (case X => k_asm); (case N => k_asm); (case T => k_asm); (case K => first | exact rfl | assumption); (case hd => ktr_room); (case hu => ktr_units); (case j => exact JA.mono (fun e he => (by repeat (first | exact he | refine List.Mem.tail _ ?_)))); (case hf => omega))
  intro vF tF newsA hA tkA FA NA sA JF IF rF gF
  have NA := addE NA (sA _ (.tail _ (.head _)))
  (try dsimp only)
  repeat' ((fail_if_success (with_reducible show wpAny _ _ (call (Value.ref 526) _) _ _ _)); first | (k_unfold; (try dsimp only)) | (k_end; wrow_close) | walk1 | (dsimp only; walk1) | fail "no step")
  k_dflt (refine' lmadeR ?B ?F ?X ?N ?T ?K ?hd ?hu hp ?j OB.inP (sc_in hq7.1) ?hf ?_; (case B => k_asm); (case F => k_asm); (case X => k_asm); (case N => k_asm); (case T => k_asm); (case K => first | exact rfl | assumption); (case hd => ktr_room); (case hu => ktr_units); (case j => exact JB.mono (fun e he => (by repeat (first | exact sA e (by repeat (first | exact he | refine List.Mem.tail _ ?_)) | refine List.Mem.tail _ ?_)))); (case hf => omega))
  intro vG tG newsB hB tkB FB NB sB JG IG rG gG
  have NB := addE NB (sB _ (.head _))
  (try dsimp only)
  repeat' ((fail_if_success (with_reducible show wpAny _ _ (execs (Stmt.If _ _ _ _ :: _) _) _ _ _)); first | (k_unfold; (try dsimp only)) | (k_end; wrow_close) | walk1 | (dsimp only; walk1) | fail "no step")
  refine wpAny_execs_cons ?_
  repeat' ((fail_if_success (with_reducible show wpAny _ _ (execs (Stmt.Assign [Expr.Name _ _] (Expr.Call _ _ _ _) _ :: _) _) _ _ _)); (fail_if_success (with_reducible show wpAny _ _ (execs (Stmt.If _ _ _ _ :: _) _) _ _ _)); first | (k_unfold; (try dsimp only)) | (k_end; wrow_close) | walk1 | (dsimp only; walk1) | fail "no step")
  · skip
    dsimp only
    (rename News _ _ _ _ => NX)
    (rename Fr _ _ _ _ => FX)
    refine law_w0 B (fcast FX (by intro y; by_cases a1 : y = "two"; (subst a1; rfl); simp only [a1, if_false]; rfl)) X NX (by assumption) T hp hb hg (JA.mono (fun e he => (by repeat (first | exact sB e (by repeat (first | exact sA e (by repeat (first | exact he | refine List.Mem.tail _ ?_)) | refine List.Mem.tail _ ?_)) | refine List.Mem.tail _ ?_)))) O1 (JF.mono (fun e he => (by repeat (first | exact sB e (by repeat (first | exact he | refine List.Mem.tail _ ?_)) | refine List.Mem.tail _ ?_)))) IF rF (JB.mono (fun e he => (by repeat (first | exact sB e (by repeat (first | exact sA e (by repeat (first | exact he | refine List.Mem.tail _ ?_)) | refine List.Mem.tail _ ?_)) | refine List.Mem.tail _ ?_)))) OB JG IG rG gF gG hl hi hlen (by rfl) (by rfl) hE ?_
    intro news' h' tk' m' F' N'
    exact hret _ _ _ _ F' N'
  refine wpAny_execs_cons ?_
  repeat' ((fail_if_success (with_reducible show wpAny _ _ (execs (Stmt.Assign [Expr.Name _ _] (Expr.Call _ _ _ _) _ :: _) _) _ _ _)); (fail_if_success (with_reducible show wpAny _ _ (execs (Stmt.If _ _ _ _ :: _) _) _ _ _)); first | (k_unfold; (try dsimp only)) | (k_end; wrow_close) | walk1 | (dsimp only; walk1) | fail "no step")
  · skip
    dsimp only
    (rename News _ _ _ _ => NX)
    (rename Fr _ _ _ _ => FX)
    refine law_w1 B (fcast FX (by intro y; by_cases a1 : y = "two"; (subst a1; rfl); simp only [a1, if_false]; rfl)) X NX (by assumption) T hp hb hg (JA.mono (fun e he => (by repeat (first | exact sB e (by repeat (first | exact sA e (by repeat (first | exact he | refine List.Mem.tail _ ?_)) | refine List.Mem.tail _ ?_)) | refine List.Mem.tail _ ?_)))) O1 (JF.mono (fun e he => (by repeat (first | exact sB e (by repeat (first | exact he | refine List.Mem.tail _ ?_)) | refine List.Mem.tail _ ?_)))) IF rF (JB.mono (fun e he => (by repeat (first | exact sB e (by repeat (first | exact sA e (by repeat (first | exact he | refine List.Mem.tail _ ?_)) | refine List.Mem.tail _ ?_)) | refine List.Mem.tail _ ?_)))) OB JG IG rG gF gG hl hi hlen (by rfl) (by rfl) hE ?_
    intro news' h' tk' m' F' N'
    exact hret _ _ _ _ F' N'
  refine wpAny_execs_cons ?_
  repeat' ((fail_if_success (with_reducible show wpAny _ _ (execs (Stmt.Assign [Expr.Name _ _] (Expr.Call _ _ _ _) _ :: _) _) _ _ _)); (fail_if_success (with_reducible show wpAny _ _ (execs (Stmt.For _ _ _ _ _ :: _) _) _ _ _)); first | (k_unfold; (try dsimp only)) | (k_end; wrow_close) | walk1 | (dsimp only; walk1) | fail "no step")
  · skip
    dsimp only
    (rename News _ _ _ _ => NX)
    (rename Fr _ _ _ _ => FX)
    refine law_w2 (tG := tG) (PB := PB) B (fcast FX (by intro y; by_cases a1 : y = "two"; (subst a1; rfl); simp only [a1, if_false]; rfl)) X NX (by assumption) T hp hb hg (JA.mono (fun e he => (by repeat (first | exact sB e (by repeat (first | exact sA e (by repeat (first | exact he | refine List.Mem.tail _ ?_)) | refine List.Mem.tail _ ?_)) | refine List.Mem.tail _ ?_)))) O1 (JF.mono (fun e he => (by repeat (first | exact sB e (by repeat (first | exact he | refine List.Mem.tail _ ?_)) | refine List.Mem.tail _ ?_)))) IF rF (fm4 _) (by rfl) (by rfl) hE ?_
    intro news' h' tk' m' F' N'
    exact hret _ _ _ _ F' N'
  · skip
    dsimp only
    (rename News _ _ _ _ => NX)
    (rename Fr _ _ _ _ => FX)
    refine law_w3 B (fcast FX (by intro y; by_cases a1 : y = "two"; (subst a1; rfl); simp only [a1, if_false]; rfl)) X NX (by assumption) T hp hb hg (JA.mono (fun e he => (by repeat (first | exact sB e (by repeat (first | exact sA e (by repeat (first | exact he | refine List.Mem.tail _ ?_)) | refine List.Mem.tail _ ?_)) | refine List.Mem.tail _ ?_)))) O1 (JF.mono (fun e he => (by repeat (first | exact sB e (by repeat (first | exact he | refine List.Mem.tail _ ?_)) | refine List.Mem.tail _ ?_)))) IF rF (JB.mono (fun e he => (by repeat (first | exact sB e (by repeat (first | exact sA e (by repeat (first | exact he | refine List.Mem.tail _ ?_)) | refine List.Mem.tail _ ?_)) | refine List.Mem.tail _ ?_)))) OB JG IG rG gF gG hl hi hlen (by rfl) (by rfl) hE ?_
    intro news' h' tk' m' F' N'
    exact hret _ _ _ _ F' N'

end
end Mine
namespace Mine
theorem hd.tw14025477980397611182 : True := trivial
theorem hd.tw10727248033764811480 : True := trivial
theorem hd.tw3212571192583754236 : True := trivial
theorem hd.tw1969208074967243228 : True := trivial
theorem hd.tw9932287769889038123 : True := trivial
theorem hd.tw2795623510236289202 : True := trivial
theorem hd.tw26425463804135960 : True := trivial
theorem hd.tw11810488352746199185 : True := trivial
theorem hd.tw12706454586588949735 : True := trivial
theorem hd.tw16005092535978360704 : True := trivial
theorem hd.tw9501216881252252250 : True := trivial
theorem hd.tw1834576870787037144 : True := trivial
theorem hd.tw1809572648325974726 : True := trivial
theorem hd.tw12870888531099404533 : True := trivial
theorem hd.tw9990345226319884068 : True := trivial
theorem hd.tw8052382678804489345 : True := trivial
theorem hd.tw7433558315747005067 : True := trivial
theorem hd.tw16240987189780228909 : True := trivial
theorem hd.tw4185656317496899905 : True := trivial
theorem hd.tw10144816814625151507 : True := trivial
theorem hd.tw7578210074245671484 : True := trivial
theorem hd.tw9577689765879766989 : True := trivial
theorem hd.tw8053944837975664402 : True := trivial
theorem hd.tw6411954120941647267 : True := trivial
theorem hd.tw11249132867342737325 : True := trivial
theorem hd.tw6082411064634330575 : True := trivial
theorem hd.tw14091984216438838776 : True := trivial
theorem hd.tw13132618709999183898 : True := trivial
theorem hd.tw1589133516308662214 : True := trivial
theorem hd.tw15508949281206285077 : True := trivial
theorem hd.tw6761669909254768831 : True := trivial
theorem hd.tw8457440626546761165 : True := trivial
theorem hd.tw12023040214023829324 : True := trivial
theorem hd.tw15463257786427224491 : True := trivial
theorem hd.tw6785817131721698500 : True := trivial
theorem hd.tw8716120427605611371 : True := trivial
theorem hd.tw11117797201346649052 : True := trivial
theorem hd.tw11213053971927718326 : True := trivial
theorem hd.tw3795277891434052102 : True := trivial
theorem hd.tw8242931771332617035 : True := trivial
theorem hd.tw6438293893037913957 : True := trivial
theorem hd.tw12744807935193187038 : True := trivial
theorem hd.tw17986969038992634876 : True := trivial
theorem hd.tw10784824025267889561 : True := trivial
theorem hd.tw7519716089354478335 : True := trivial
theorem hd.tw14478148883734587675 : True := trivial
theorem hd.tw17062030032774818151 : True := trivial
theorem hd.tw6186238094035137676 : True := trivial
theorem hd.tw9277588360372424766 : True := trivial
theorem hd.tw13267510147771200024 : True := trivial
theorem hd.tw7152984921513172624 : True := trivial
theorem hd.tw13321331477185743149 : True := trivial
theorem hd.tw12591134339009171964 : True := trivial
theorem hd.tw3404104791013757517 : True := trivial
theorem hd.tw11151547217846952531 : True := trivial
theorem hd.tw8990313861142287110 : True := trivial
theorem hd.tw7289634563603522867 : True := trivial
theorem hd.tw5987830557187376847 : True := trivial
theorem hd.tw9427301549700849589 : True := trivial
theorem hd.tw100483095206116625 : True := trivial
theorem hd.tw920214292312260371 : True := trivial
theorem hd.tw16171809288044610508 : True := trivial
theorem hd.tw14553816603554493358 : True := trivial
theorem hd.tw15367242080415987702 : True := trivial
theorem hd.tw16011055738799735888 : True := trivial
theorem hd.tw16332348944364537037 : True := trivial
theorem hd.tw7526368328331116154 : True := trivial
theorem hd.tw13609717118414637909 : True := trivial
theorem hd.tw10949625832625181284 : True := trivial
theorem hd.tw13770079208771991547 : True := trivial
theorem hd.tw2327210489368252092 : True := trivial
theorem hd.tw4014540891139286612 : True := trivial
theorem hd.tw14176624398918483544 : True := trivial
theorem hd.tw9783614193127449063 : True := trivial
theorem hd.tw9386895884608548742 : True := trivial
theorem hd.tw10117440562283002822 : True := trivial
theorem hd.tw6136932545381038964 : True := trivial
theorem hd.tw15790720579355451973 : True := trivial
theorem hd.tw7494724483528729301 : True := trivial
theorem hd.tw11551083187376567056 : True := trivial
theorem hd.tw9398405308114057262 : True := trivial
theorem hd.tw4788038989552484473 : True := trivial
theorem hd.tw3442329435671937591 : True := trivial
theorem hd.tw541196102884509978 : True := trivial
theorem hd.tw7028611270464810887 : True := trivial
theorem hd.tw13783031573616600631 : True := trivial
theorem hd.tw13038990169509382042 : True := trivial
theorem hd.tw1409312971732116557 : True := trivial
theorem hd.tw11079593142295127227 : True := trivial
theorem hd.tw11660266114150955751 : True := trivial
theorem hd.tw16211521421427940678 : True := trivial
theorem hd.tw5732804406350252772 : True := trivial
theorem hd.tw4856431653887292112 : True := trivial
theorem hd.tw5130813555471234732 : True := trivial
theorem hd.tw2386827423013361158 : True := trivial
theorem hd.tw9499510787657705874 : True := trivial
theorem hd.tw1580110805410547442 : True := trivial
theorem hd.tw17893044597097874663 : True := trivial
theorem hd.tw2391449824757734642 : True := trivial
theorem hd.tw5549315172176941698 : True := trivial
theorem hd.tw14492701947808656938 : True := trivial
theorem hd.tw12602439190401603521 : True := trivial
theorem hd.tw4115565904173853331 : True := trivial
theorem hd.tw17213754286329925777 : True := trivial
theorem hd.tw10292235466723388172 : True := trivial
theorem hd.tw5511420028821071320 : True := trivial
theorem hd.tw4478166936697009375 : True := trivial
theorem hd.tw5716766192118558609 : True := trivial
theorem hd.tw12050417470231563642 : True := trivial
theorem hd.tw5009564483982726761 : True := trivial
theorem hd.tw17047115858639842297 : True := trivial
theorem hd.tw18219297243305740317 : True := trivial
theorem hd.tw17258206423299326598 : True := trivial
theorem hd.tw3789350110615891812 : True := trivial
theorem hd.tw4367231431732253908 : True := trivial
theorem hd.tw9406673726873002282 : True := trivial
theorem hd.tw6882427118574961969 : True := trivial
theorem hd.tw14955159897011116063 : True := trivial
theorem hd.tw15616948245753086127 : True := trivial
theorem hd.tw15220180469806662145 : True := trivial
theorem hd.tw15673258824015622330 : True := trivial
theorem hd.tw4702841417184801058 : True := trivial
theorem hd.tw4643362625855044894 : True := trivial
theorem hd.tw4494801613693538912 : True := trivial
theorem hd.tw8458067239894703972 : True := trivial
theorem hd.tw1043307727769730188 : True := trivial
theorem hd.tw3259873300814134281 : True := trivial
theorem hd.tw5592360268479517082 : True := trivial
theorem hd.tw1848646778235469078 : True := trivial
theorem hd.tw4377701919642642989 : True := trivial
theorem hd.tw17714235663813219645 : True := trivial
theorem hd.tw6060742912462422084 : True := trivial
theorem hd.tw10111801491309104144 : True := trivial
theorem hd.tw12414669353804360901 : True := trivial
theorem hd.tw6898005170327248138 : True := trivial
theorem hd.tw5167245352685981253 : True := trivial
theorem hd.tw2304311442786299043 : True := trivial
theorem hd.tw14892549342360969540 : True := trivial
theorem hd.tw10458740792067480800 : True := trivial
theorem hd.tw9271970288684553227 : True := trivial
theorem hd.tw991583007596301734 : True := trivial
theorem hd.tw6598312636042714100 : True := trivial
theorem hd.tw3219085151875037572 : True := trivial
theorem hd.tw1118553966540926140 : True := trivial
theorem hd.tw15910714762333108613 : True := trivial
theorem hd.tw2295870552580634182 : True := trivial
theorem hd.tw4182648748547736412 : True := trivial
theorem hd.tw5247051413645994129 : True := trivial
theorem hd.tw4272726840584523970 : True := trivial
theorem hd.tw13929354066492186541 : True := trivial
theorem hd.tw11256106856564762260 : True := trivial
theorem hd.tw1563692795949630186 : True := trivial
theorem hd.tw257007361410690125 : True := trivial
theorem hd.tw1712922718373300912 : True := trivial
theorem hd.tw2329189449893159454 : True := trivial
theorem hd.tw18322514126500204803 : True := trivial
theorem hd.tw16357263729072622229 : True := trivial
theorem hd.tw2134215046882385847 : True := trivial
theorem hd.tw3571134770919094901 : True := trivial
theorem hd.tw6423634429210846174 : True := trivial
theorem hd.tw12647368939536790636 : True := trivial
theorem hd.tw2480057099694739299 : True := trivial
theorem hd.tw8226494294326810461 : True := trivial
theorem hd.tw2000490053193787569 : True := trivial
theorem hd.tw16919406825032445293 : True := trivial
theorem hd.tw8134915037123179040 : True := trivial
theorem hd.tw15048261121198461528 : True := trivial
theorem hd.tw13638418597567726942 : True := trivial
theorem hd.tw7654286748164834634 : True := trivial
theorem hd.tw16155205043701107222 : True := trivial
theorem hd.tw8228950375871286339 : True := trivial
theorem hd.tw1439246655266547700 : True := trivial
theorem hd.tw15642763164714097627 : True := trivial
theorem hd.tw226724450230711188 : True := trivial
theorem hd.tw876933089483189297 : True := trivial
theorem hd.tw526207354791536317 : True := trivial
theorem hd.tw5373601922739893978 : True := trivial
theorem hd.tw4068527845204499245 : True := trivial
theorem hd.tw15683763237869141255 : True := trivial
theorem hd.tw15615420239508185596 : True := trivial
theorem hd.tw6818987989461384207 : True := trivial
theorem hd.tw2799067240506288376 : True := trivial
theorem hd.tw13225837485096350037 : True := trivial
theorem hd.tw1129884963351977449 : True := trivial
theorem hd.tw307737655149646647 : True := trivial
theorem hd.tw9557236495431379559 : True := trivial
theorem hd.tw18264374347568628810 : True := trivial
theorem hd.tw2167537188350426706 : True := trivial
theorem hd.tw9533747618267967006 : True := trivial
theorem hd.tw2457190517430149469 : True := trivial
theorem hd.tw1331086792558400476 : True := trivial
theorem hd.tw6407587892757256292 : True := trivial
theorem hd.tw2603259988358896889 : True := trivial
theorem hd.tw1194904439430580092 : True := trivial
theorem hd.tw7355570028127101125 : True := trivial
theorem hd.tw12268275109542032366 : True := trivial
theorem hd.tw13289513938125300765 : True := trivial
theorem hd.tw402640490398009360 : True := trivial
theorem hd.tw16037735763661986305 : True := trivial
theorem hd.tw16432713993328977331 : True := trivial
theorem hd.tw12832683148521936107 : True := trivial
theorem hd.tw16713699803418581334 : True := trivial
theorem hd.tw14705683404202351889 : True := trivial
theorem hd.tw13363553139645760527 : True := trivial
theorem hd.tw6123773746684550334 : True := trivial
theorem hd.tw10012880186880212623 : True := trivial
theorem hd.tw8343274005884668182 : True := trivial
theorem hd.tw14685462170515437407 : True := trivial
theorem hd.tw6469175993241445255 : True := trivial
theorem hd.tw6305734824756694309 : True := trivial
theorem hd.tw9641152695372364146 : True := trivial
theorem hd.tw1197925565968671727 : True := trivial
theorem hd.tw14560493823538711346 : True := trivial
theorem hd.tw15416985209724490359 : True := trivial
theorem hd.tw13372043803930879067 : True := trivial
theorem hd.tw3443669649825651883 : True := trivial
theorem hd.tw2274498078352570744 : True := trivial
theorem hd.tw6965799899956892507 : True := trivial
theorem hd.tw5635641802508607975 : True := trivial
theorem hd.tw2783992281797965187 : True := trivial
theorem hd.tw10246146449241189800 : True := trivial
theorem hd.tw9345929723534960622 : True := trivial
theorem hd.tw17919194246423945575 : True := trivial
theorem hd.tw13466754112058979494 : True := trivial
theorem hd.tw11128854368766332075 : True := trivial
theorem hd.tw15675198926951892251 : True := trivial
theorem hd.tw15610959940260225430 : True := trivial
theorem hd.tw17234923516513369237 : True := trivial
theorem hd.tw2315301623876862497 : True := trivial
theorem hd.tw14353793391729792155 : True := trivial
theorem hd.tw11953376511379268794 : True := trivial
theorem hd.tw16091413853298234908 : True := trivial
theorem hd.tw17948085552500728524 : True := trivial
theorem hd.tw14906377314874228009 : True := trivial
theorem hd.tw13322179722446271537 : True := trivial
theorem hd.tw11162318198679636149 : True := trivial
theorem hd.tw5054737718236178183 : True := trivial
theorem hd.tw4654797750381630734 : True := trivial
theorem hd.tw3828038474966422129 : True := trivial
theorem hd.tw16064382804478563927 : True := trivial
theorem hd.tw17491280204586788870 : True := trivial
theorem hd.tw2887051446865420828 : True := trivial
theorem hd.tw18185175575083235020 : True := trivial
theorem hd.tw10583446816852156582 : True := trivial
theorem hd.tw8117029840178788049 : True := trivial
theorem hd.tw519851828213033955 : True := trivial
theorem hd.tw18166333605607142505 : True := trivial
theorem hd.tw18093812233618175256 : True := trivial
theorem hd.tw6038821095411175016 : True := trivial
theorem hd.tw7023726343779634624 : True := trivial
theorem hd.tw162610821266807592 : True := trivial
theorem hd.tw185848376630758926 : True := trivial
theorem hd.tw17447410573909459338 : True := trivial
theorem hd.tw7082855905992002993 : True := trivial
theorem hd.tw8770205317985620760 : True := trivial
theorem hd.tw6545403380812914513 : True := trivial
theorem hd.tw5629675986466331604 : True := trivial
theorem hd.tw1241404454085649124 : True := trivial
theorem hd.tw8587404781116728655 : True := trivial
theorem hd.tw13682609094392984937 : True := trivial
theorem hd.tw4990156530697904881 : True := trivial
theorem hd.tw15213948185873263833 : True := trivial
theorem hd.tw7085514621470718492 : True := trivial
theorem hd.tw16868993833207775613 : True := trivial
theorem hd.tw2999033326186475339 : True := trivial
theorem hd.tw6906073325868019850 : True := trivial
theorem hd.tw14598272352848978880 : True := trivial
theorem hd.tw7721951785955056133 : True := trivial
theorem hd.tw5036846961687405229 : True := trivial
theorem hd.tw13368278939475635651 : True := trivial
theorem hd.tw16772102934027710169 : True := trivial
theorem hd.tw1882180444382439491 : True := trivial
theorem hd.tw1013155817946168525 : True := trivial
theorem hd.tw8004679753235328684 : True := trivial
theorem hd.tw7676003278276379012 : True := trivial
theorem hd.tw10860895700388868024 : True := trivial
theorem hd.tw7540655947842036084 : True := trivial
theorem hd.tw2608437505485318709 : True := trivial
theorem hd.tw13277076834127875243 : True := trivial
theorem hd.tw13893168526513508166 : True := trivial
theorem hd.tw15166520500009309586 : True := trivial
theorem hd.tw3759623122121258479 : True := trivial
theorem hd.tw3182187488490625086 : True := trivial
theorem hd.tw13431754692932380062 : True := trivial
theorem hd.tw4383666589626881386 : True := trivial
theorem hd.tw5505005885091257285 : True := trivial
theorem hd.tw13217225542625558698 : True := trivial
theorem hd.tw9298403506768410418 : True := trivial
theorem hd.tw3919010098100093602 : True := trivial
theorem hd.tw17903497710992402801 : True := trivial
theorem hd.tw2788664435532181463 : True := trivial
theorem hd.tw4065347644161347641 : True := trivial
theorem hd.tw8516288146210602744 : True := trivial
theorem hd.tw12070051907170230399 : True := trivial
theorem hd.tw3452082135128663414 : True := trivial
theorem hd.tw17177331786930743035 : True := trivial
theorem hd.tw13566260322249332789 : True := trivial
theorem hd.tw6767318904944593275 : True := trivial
theorem hd.tw17070941380808615275 : True := trivial
theorem hd.tw12769127236821124696 : True := trivial
theorem hd.tw6627881031435992008 : True := trivial
theorem hd.tw7854228177987924090 : True := trivial
theorem hd.tw13066319289922817542 : True := trivial
theorem hd.tw5978321128707920903 : True := trivial
theorem hd.tw9132557439983319658 : True := trivial
theorem hd.tw663384727985864361 : True := trivial
theorem hd.tw13532847315355080253 : True := trivial
theorem hd.tw12459740579856956213 : True := trivial
theorem hd.tw7927469264209771579 : True := trivial
theorem hd.tw7698358502638924378 : True := trivial
theorem hd.tw14103535550066685397 : True := trivial
theorem hd.tw3434918251397683217 : True := trivial
theorem hd.tw1147470481896660410 : True := trivial
theorem hd.tw4136554803537287180 : True := trivial
theorem hd.tw16194383521188589630 : True := trivial
theorem hd.tw7369741819223213686 : True := trivial
theorem hd.tw701787995468756871 : True := trivial
theorem hd.tw9421340871869096474 : True := trivial
theorem hd.tw4225703048834024713 : True := trivial
theorem hd.tw10543509907540572799 : True := trivial
theorem hd.tw7379015992945566340 : True := trivial
theorem hd.tw14029546391885035639 : True := trivial
theorem hd.tw7752767780024739350 : True := trivial
theorem hd.tw12393119488966705847 : True := trivial
theorem hd.tw15527848837575444561 : True := trivial
theorem hd.tw11319097763535126812 : True := trivial
theorem hd.tw4111692666942324129 : True := trivial
theorem hd.tw1413172679324656950 : True := trivial
theorem hd.tw7914949630228597729 : True := trivial
theorem hd.tw8269573656231971908 : True := trivial
theorem hd.tw922143313871775805 : True := trivial
theorem hd.tw11917015161858427179 : True := trivial
theorem hd.tw11912922877643110818 : True := trivial
theorem hd.tw9719896912496429819 : True := trivial
theorem hd.tw13365295217650922812 : True := trivial
theorem hd.tw5282504435634884242 : True := trivial
theorem hd.tw17377529257436501650 : True := trivial
theorem hd.tw9960721518486171458 : True := trivial
theorem hd.tw11402939732021071671 : True := trivial
theorem hd.tw3646829019195819677 : True := trivial
theorem hd.tw12611767792052310623 : True := trivial
theorem hd.tw5505332120971382143 : True := trivial
theorem hd.tw11893437276241958245 : True := trivial
theorem hd.tw16259696140248634718 : True := trivial
theorem hd.tw15813434630575017362 : True := trivial
theorem hd.tw6528754448969337418 : True := trivial
theorem hd.tw17950676927832955104 : True := trivial
theorem hd.tw18291419657060728153 : True := trivial
theorem hd.tw7540741092611519060 : True := trivial
theorem hd.tw7120233287515763914 : True := trivial
theorem hd.tw5148922909946612681 : True := trivial
theorem hd.tw18268791191939849864 : True := trivial
theorem hd.tw3480954088277226078 : True := trivial
theorem hd.tw7523672394736509286 : True := trivial
theorem hd.tw8671608845466749128 : True := trivial
theorem hd.tw6184460063843016694 : True := trivial
theorem hd.tw16904818350239718627 : True := trivial
theorem hd.tw11652457597714270106 : True := trivial
theorem hd.tw16858285156579221889 : True := trivial
theorem hd.tw6982297934935202809 : True := trivial
theorem hd.tw11631947586910100387 : True := trivial
theorem hd.tw8934143017859847078 : True := trivial
theorem hd.tw16477043939570097188 : True := trivial
theorem hd.tw12588582704262371052 : True := trivial
theorem hd.tw4642405928176397000 : True := trivial
theorem hd.tw10403243965636340961 : True := trivial
theorem hd.tw18293851220164018083 : True := trivial
theorem hd.tw14294001040229213422 : True := trivial
theorem hd.tw16154546982801380032 : True := trivial
theorem hd.tw11801993109049149486 : True := trivial
theorem hd.tw8609351116199087170 : True := trivial
theorem hd.tw280609765759037681 : True := trivial
theorem hd.tw4297731678662094536 : True := trivial
theorem hd.tw432457690288141553 : True := trivial
theorem hd.tw10603584201595350602 : True := trivial
theorem hd.tw14852329139284432860 : True := trivial
theorem hd.tw12614811148066621264 : True := trivial
theorem hd.tw3309697970292668127 : True := trivial
theorem hd.tw6482722132109649516 : True := trivial
theorem hd.tw3381375190539634487 : True := trivial
theorem hd.tw15427206886491885616 : True := trivial
theorem hd.tw17429513623812275283 : True := trivial
theorem hd.tw3350844169311001129 : True := trivial
theorem hd.tw2708950531961675432 : True := trivial
theorem hd.tw3109861748172591687 : True := trivial
theorem hd.tw4261007774652802322 : True := trivial
theorem hd.tw9657781627882305391 : True := trivial
theorem hd.tw697623264460660564 : True := trivial
theorem hd.tw4138081844389336918 : True := trivial
theorem hd.tw10743916045514856203 : True := trivial
theorem hd.tw13181700845877081190 : True := trivial
theorem hd.tw7793673504863384051 : True := trivial
theorem hd.tw1506431575118746342 : True := trivial
theorem hd.tw5416991563250132298 : True := trivial
theorem hd.tw3008623586974134963 : True := trivial
theorem hd.tw15643275761693703936 : True := trivial
theorem hd.tw10678649693572172417 : True := trivial
theorem hd.tw15852365999677673905 : True := trivial
theorem hd.tw9184186324627900627 : True := trivial
theorem hd.tw17252143746492648416 : True := trivial
theorem hd.tw3953601041324332601 : True := trivial
theorem hd.tw4851647983119433812 : True := trivial
theorem hd.tw11709330566771433103 : True := trivial
theorem hd.tw5278057926702712004 : True := trivial
theorem hd.tw7068711184596962023 : True := trivial
theorem hd.tw9228397985900620932 : True := trivial
theorem hd.tw4159134105002834734 : True := trivial
theorem hd.tw7270182246851987180 : True := trivial
theorem hd.tw13483081372092288885 : True := trivial
theorem hd.tw17711083657039698284 : True := trivial
theorem hd.tw11713075325732132258 : True := trivial
theorem hd.tw2442259710966052079 : True := trivial
theorem hd.tw1610171440888473627 : True := trivial
theorem hd.tw9983995961361265002 : True := trivial
theorem hd.tw1033889070964956483 : True := trivial
theorem hd.tw17925215291927510665 : True := trivial
theorem hd.tw13330244855972007585 : True := trivial
theorem hd.tw10170382586518783626 : True := trivial
theorem hd.tw12173100003817136821 : True := trivial
theorem hd.tw464777395874653626 : True := trivial
theorem hd.tw8381844023166312768 : True := trivial
theorem hd.tw2855845756224970109 : True := trivial
theorem hd.tw16920754564084929960 : True := trivial
theorem hd.tw15948780112781908787 : True := trivial
theorem hd.tw17975533764899295144 : True := trivial
theorem hd.tw11054480109507316185 : True := trivial
theorem hd.tw12949589719889679912 : True := trivial
theorem hd.tw17562767543260142214 : True := trivial
theorem hd.tw17001982702790524580 : True := trivial
theorem hd.tw7746578258024575070 : True := trivial
theorem hd.tw2101469004524951375 : True := trivial
theorem hd.tw15946388913382835224 : True := trivial
theorem hd.tw11011131195910976488 : True := trivial
theorem hd.tw2284436838669742495 : True := trivial
theorem hd.tw11465210709893060100 : True := trivial
theorem hd.tw11232374478483605306 : True := trivial
theorem hd.tw10792051664901133789 : True := trivial
theorem hd.tw17606422857730326317 : True := trivial
theorem hd.tw17387473266821786944 : True := trivial
theorem hd.tw17311223219408574766 : True := trivial
theorem hd.tw6578402527460240241 : True := trivial
theorem hd.tw16056359734778111409 : True := trivial
theorem hd.tw6547078798241139092 : True := trivial
theorem hd.tw1359830224848277088 : True := trivial
theorem hd.tw7534799579077118603 : True := trivial
theorem hd.tw11389486352061984695 : True := trivial
theorem hd.tw2502866573005156581 : True := trivial
theorem hd.tw7317836474542784337 : True := trivial
theorem hd.tw11587034568685482758 : True := trivial
theorem hd.tw1452849714261714991 : True := trivial
theorem hd.tw16970440968685349367 : True := trivial
theorem hd.tw14896477498954680388 : True := trivial
theorem hd.tw4870687313549177768 : True := trivial
theorem hd.tw17183224562656869120 : True := trivial
theorem hd.tw13866372431405929976 : True := trivial
theorem hd.tw1666387254794493845 : True := trivial
theorem hd.tw17843490464661113860 : True := trivial
theorem hd.tw15833661619300960221 : True := trivial
theorem hd.tw8789358453043137523 : True := trivial
theorem hd.tw14745743045033390146 : True := trivial
theorem hd.tw4315991029959535628 : True := trivial
theorem hd.tw10614716105012338702 : True := trivial
theorem hd.tw1800889605409440832 : True := trivial
theorem hd.tw12350410155528471161 : True := trivial
theorem hd.tw12394076208661396346 : True := trivial
theorem hd.tw7153062008950511462 : True := trivial
theorem hd.tw1097998534492414930 : True := trivial
theorem hd.tw16302227732802510677 : True := trivial
theorem hd.tw5292301768408028288 : True := trivial
theorem hd.tw845060206244984605 : True := trivial
theorem hd.tw6683769817339685419 : True := trivial
theorem hd.tw7382370116671421104 : True := trivial
theorem hd.tw14400467628812073631 : True := trivial
theorem hd.tw5238241317806426387 : True := trivial
theorem hd.tw13931416462566266981 : True := trivial
theorem hd.tw17420951861521290806 : True := trivial
theorem hd.tw1997569388931296116 : True := trivial
theorem hd.tw461538923250603899 : True := trivial
theorem hd.tw6838551448383532254 : True := trivial
theorem hd.tw18241275227582772068 : True := trivial
theorem hd.tw12399718760709695909 : True := trivial
theorem hd.tw1760603350576429475 : True := trivial
theorem hd.tw1222794163293265305 : True := trivial
theorem hd.tw4282304852377368616 : True := trivial
theorem hd.tw9617658007855726926 : True := trivial
theorem hd.tw10491609206876299696 : True := trivial
theorem hd.tw13409441903868389331 : True := trivial
theorem hd.tw6804821044290156842 : True := trivial
theorem hd.tw10752148897807903841 : True := trivial
theorem hd.tw9763420282994701918 : True := trivial
theorem hd.tw9013056391748086436 : True := trivial
theorem hd.tw16006246977917349235 : True := trivial
theorem hd.tw17672654358674132775 : True := trivial
theorem hd.tw6830512106363814048 : True := trivial
theorem hd.tw17336936450418997793 : True := trivial
theorem hd.tw1088296927520436173 : True := trivial
theorem hd.tw6759412095888398321 : True := trivial
theorem hd.tw4402725079659364252 : True := trivial
theorem hd.tw2951005344575393816 : True := trivial
theorem hd.tw1865391376527767206 : True := trivial
theorem hd.tw6293948785866598258 : True := trivial
theorem hd.tw15837987909243819085 : True := trivial
theorem hd.tw17588044629489971554 : True := trivial
theorem hd.tw8960069828448710407 : True := trivial
theorem hd.tw14060154772996877548 : True := trivial
theorem hd.tw11319892378374348655 : True := trivial
theorem hd.tw7763873220885509757 : True := trivial
theorem hd.tw16456969618363192440 : True := trivial
theorem hd.tw728884934406724761 : True := trivial
theorem hd.tw15042006015671813226 : True := trivial
theorem hd.tw6931407450589930559 : True := trivial
theorem hd.tw5245234834050458271 : True := trivial
theorem hd.tw978945382295711627 : True := trivial
theorem hd.tw3451239065008710300 : True := trivial
theorem hd.tw8727321023445011275 : True := trivial
theorem hd.tw16640546478005224243 : True := trivial
theorem hd.tw10738003575532504788 : True := trivial
theorem hd.tw15759970867653108152 : True := trivial
theorem hd.tw2845679848157327705 : True := trivial
theorem hd.tw12239354291974867115 : True := trivial
theorem hd.tw10905682514733158466 : True := trivial
theorem hd.tw18343703819029505601 : True := trivial
theorem hd.tw8015326511298524721 : True := trivial
theorem hd.tw16694946328126371552 : True := trivial
theorem hd.tw17681399029576232318 : True := trivial
theorem hd.tw4363365295628954845 : True := trivial
theorem hd.tw9748044761591592747 : True := trivial
theorem hd.tw7512474625130614241 : True := trivial
theorem hd.tw6998783941825042932 : True := trivial
theorem hd.tw12901994302517312135 : True := trivial
theorem hd.tw10258999931320997221 : True := trivial
theorem hd.tw12058812876911547015 : True := trivial
theorem hd.tw15529170255622000948 : True := trivial
theorem hd.tw16473244170626142550 : True := trivial
theorem hd.tw7292484366425897655 : True := trivial
theorem hd.tw2195365466389143174 : True := trivial
theorem hd.tw16178712458983371728 : True := trivial
theorem hd.tw7754304195085646258 : True := trivial
theorem hd.tw190519026028168232 : True := trivial
theorem hd.tw13315533130655954831 : True := trivial
theorem hd.tw4478964076566166474 : True := trivial
theorem hd.tw16853341256802265648 : True := trivial
theorem hd.tw3493717111155160527 : True := trivial
theorem hd.tw12994019391074448376 : True := trivial
theorem hd.tw8047900516022102942 : True := trivial
theorem hd.tw15578025631644234493 : True := trivial
theorem hd.tw17574625026820762457 : True := trivial
theorem hd.tw6291416237084387574 : True := trivial
theorem hd.tw5480042469492414594 : True := trivial
theorem hd.tw14960593345356199642 : True := trivial
theorem hd.tw1382963296337349011 : True := trivial
theorem hd.tw12127338746724423809 : True := trivial
theorem hd.tw9741134391959003819 : True := trivial
theorem hd.tw8683856772340465682 : True := trivial
theorem hd.tw9496365245306024149 : True := trivial
theorem hd.tw16412773359747925120 : True := trivial
theorem hd.tw16794629799341752650 : True := trivial
theorem hd.tw3694398316872202419 : True := trivial
theorem hd.tw15103106377680225435 : True := trivial
theorem hd.tw10601615944963115059 : True := trivial
theorem hd.tw7296583596125217682 : True := trivial
theorem hd.tw15992342658441690333 : True := trivial
theorem hd.tw8977307856219701671 : True := trivial
theorem hd.tw17673860158736603733 : True := trivial
theorem hd.tw12271959270614036898 : True := trivial
theorem hd.tw16945582573551092051 : True := trivial
theorem hd.tw4993660671451451078 : True := trivial
theorem hd.tw9170477692918782315 : True := trivial
theorem hd.tw14620637471214046174 : True := trivial
theorem hd.tw17696971302532935780 : True := trivial
theorem hd.tw5388632664720090651 : True := trivial
theorem hd.tw18103342009636024947 : True := trivial
theorem hd.tw6046454685291232161 : True := trivial
theorem hd.tw758273949599710562 : True := trivial
theorem hd.tw13342606739435360313 : True := trivial
theorem hd.tw17542962492245011380 : True := trivial
theorem hd.tw2114630138375439770 : True := trivial
theorem hd.tw8538877666451538035 : True := trivial
theorem hd.tw8684328023851190084 : True := trivial
theorem hd.tw15043168886218598503 : True := trivial
theorem hd.tw5976792059365374437 : True := trivial
theorem hd.tw14457593812595234344 : True := trivial
theorem hd.tw5343241284826551009 : True := trivial
theorem hd.tw5363564295841288755 : True := trivial
theorem hd.tw15967140613478806237 : True := trivial
theorem hd.tw2323474266016966308 : True := trivial
theorem hd.tw6320253292602491972 : True := trivial
theorem hd.tw16722109127936396110 : True := trivial
theorem hd.tw12070654863422294720 : True := trivial
theorem hd.tw5562173858411828344 : True := trivial
theorem hd.tw8545014587354053640 : True := trivial
theorem hd.tw5657824000916062451 : True := trivial
theorem hd.tw13919464512627920130 : True := trivial
theorem hd.tw18293732401869909652 : True := trivial
theorem hd.tw7891253978561527248 : True := trivial
theorem hd.tw1699103778626983548 : True := trivial
theorem hd.tw13790719812936386609 : True := trivial
theorem hd.tw11210553801493137410 : True := trivial
theorem hd.tw6164396464334811476 : True := trivial
theorem hd.tw3229955645248102723 : True := trivial
theorem hd.tw5608270528595127837 : True := trivial
theorem hd.tw2867327485932766208 : True := trivial
theorem hd.tw14980023328507725902 : True := trivial
theorem hd.tw6555240042291301478 : True := trivial
theorem hd.tw16053994301053490033 : True := trivial
theorem hd.tw8081886968326746073 : True := trivial
theorem hd.tw10806950440038215891 : True := trivial
theorem hd.tw1588505670450824345 : True := trivial
theorem hd.tw10525666975642140466 : True := trivial
theorem hd.tw13285133528070534704 : True := trivial
theorem hd.tw10844753989422098599 : True := trivial
theorem hd.tw10847404155465417027 : True := trivial
theorem hd.tw9702936160620672325 : True := trivial
theorem hd.tw12131494931117144662 : True := trivial
theorem hd.tw17895171251205151618 : True := trivial
theorem hd.tw5902613922787404954 : True := trivial
theorem hd.tw8356816923877370021 : True := trivial
theorem hd.tw3915529967508079626 : True := trivial
theorem hd.tw7598622570094877466 : True := trivial
theorem hd.tw9908193460736022307 : True := trivial
theorem hd.tw442638132926106271 : True := trivial
theorem hd.tw16257038226119295666 : True := trivial
theorem hd.tw12487502673411948298 : True := trivial
theorem hd.tw732345407407602841 : True := trivial
theorem hd.tw8652628183442184457 : True := trivial
theorem hd.tw11513968764499736323 : True := trivial
theorem hd.tw4172343393113369950 : True := trivial
theorem hd.tw10264135568141901301 : True := trivial
theorem hd.tw10030107230732127627 : True := trivial
theorem hd.tw16828841361933241965 : True := trivial
theorem hd.tw8879563391730754479 : True := trivial
theorem hd.tw15595854959937240912 : True := trivial
theorem hd.tw15083628210047938546 : True := trivial
theorem hd.tw250903467453971090 : True := trivial
theorem hd.tw6184208073178115725 : True := trivial
theorem hd.tw6394381022753523788 : True := trivial
theorem hd.tw8268277133935991078 : True := trivial
theorem hd.tw16299908979028503884 : True := trivial
theorem hd.tw8493152586797012548 : True := trivial
theorem hd.tw1836080755315867724 : True := trivial
theorem hd.tw4015398097383911347 : True := trivial
theorem hd.tw13642289790063256904 : True := trivial
theorem hd.tw10424393626065333798 : True := trivial
theorem hd.tw4523669819894539328 : True := trivial
theorem hd.tw10024716035694756283 : True := trivial
theorem hd.tw17454471701868102899 : True := trivial
theorem hd.tw10404513684093684653 : True := trivial
theorem hd.tw10089429385370944074 : True := trivial
theorem hd.tw15468368490978597196 : True := trivial
theorem hd.tw6041868581591045557 : True := trivial
theorem hd.tw13293453174229064190 : True := trivial
theorem hd.tw383508010279920811 : True := trivial
theorem hd.tw8324942866272850510 : True := trivial
theorem hd.tw13855881374063213867 : True := trivial
theorem hd.tw16922344198503927458 : True := trivial
theorem hd.tw1664623461322820018 : True := trivial
theorem hd.tw5318216170032084099 : True := trivial
theorem hd.tw8543747110792727883 : True := trivial
theorem hd.tw1608453256928411877 : True := trivial
theorem hd.tw3941438180925939637 : True := trivial
theorem hd.tw8941397038133226642 : True := trivial
theorem hd.tw212345690472687942 : True := trivial
theorem hd.tw5366084841770067474 : True := trivial
theorem hd.tw17087091549796120035 : True := trivial
theorem hd.tw18300207936620678264 : True := trivial
theorem hd.tw18402139038575964673 : True := trivial
theorem hd.tw7759468741731315421 : True := trivial
theorem hd.tw14168552714766633299 : True := trivial
theorem hd.tw6103063771097309860 : True := trivial
theorem hd.tw11034497122203965937 : True := trivial
theorem hd.tw8959176491354863721 : True := trivial
theorem hd.tw15665482370847157851 : True := trivial
theorem hd.tw17054507655720011243 : True := trivial
theorem hd.tw9555612238305686254 : True := trivial
theorem hd.tw15955140184888088701 : True := trivial
theorem hd.tw10781468475247234061 : True := trivial
theorem hd.tw15089522573102190283 : True := trivial
theorem hd.tw1011335219593555734 : True := trivial
theorem hd.tw6196171512934965099 : True := trivial
theorem hd.tw8273930003744585626 : True := trivial
theorem hd.tw128412058910260475 : True := trivial
theorem hd.tw16345102440705955213 : True := trivial
theorem hd.tw1244394853168657340 : True := trivial
theorem hd.tw15207398651663016943 : True := trivial
theorem hd.tw6442067068224118133 : True := trivial
theorem hd.tw6140570298594658328 : True := trivial
theorem hd.tw11375277706881905925 : True := trivial
theorem hd.tw5567388512258382067 : True := trivial
theorem hd.tw10919297434634762262 : True := trivial
theorem hd.tw6990203504111849199 : True := trivial
theorem hd.tw11754176132448286083 : True := trivial
theorem hd.tw5190246844813560578 : True := trivial
theorem hd.tw9131607905817354932 : True := trivial
theorem hd.tw11136197038861592535 : True := trivial
theorem hd.tw4360684699965382250 : True := trivial
theorem hd.tw8351282476255451920 : True := trivial
theorem hd.tw4086058157674990017 : True := trivial
theorem hd.tw7880807054014371918 : True := trivial
theorem hd.tw17330945745186091897 : True := trivial
theorem hd.tw5174551420813472067 : True := trivial
theorem hd.tw8664936974563722654 : True := trivial
theorem hd.tw3429492842335990350 : True := trivial
theorem hd.tw9430268157657104642 : True := trivial
theorem hd.tw13855946660403688772 : True := trivial
theorem hd.tw15279998641719260112 : True := trivial
theorem hd.tw12092154237167983948 : True := trivial
theorem hd.tw1781861727890032366 : True := trivial
theorem hd.tw8068729725432388964 : True := trivial
theorem hd.tw5781342201191254626 : True := trivial
theorem hd.tw13518370688599389936 : True := trivial
theorem hd.tw16634568088961857937 : True := trivial
theorem hd.tw18245042118932799458 : True := trivial
theorem hd.tw8025032847418708242 : True := trivial
theorem hd.tw15422856539912107476 : True := trivial
theorem hd.tw8965841893048198262 : True := trivial
theorem hd.tw11032806212648032379 : True := trivial
theorem hd.tw16649331688326792143 : True := trivial
theorem hd.tw9566141503761928105 : True := trivial
theorem hd.tw18103420901670897651 : True := trivial
theorem hd.tw7366208706002141716 : True := trivial
theorem hd.tw16007149819294483003 : True := trivial
theorem hd.tw17130151131035750659 : True := trivial
theorem hd.tw395138700845864316 : True := trivial
theorem hd.tw6264232113106981867 : True := trivial
theorem hd.tw11778180911958503814 : True := trivial
theorem hd.tw9153386212771759811 : True := trivial
theorem hd.tw2252305205657439004 : True := trivial
theorem hd.tw11968265576560266318 : True := trivial
theorem hd.tw1425423193147277237 : True := trivial
theorem hd.tw15987713032478767096 : True := trivial
theorem hd.tw189712035060473897 : True := trivial
theorem hd.tw14772383043592177042 : True := trivial
theorem hd.tw6924109203229866365 : True := trivial
theorem hd.tw13047593935725612058 : True := trivial
theorem hd.tw15615537253650120727 : True := trivial
theorem hd.tw17739348878880393726 : True := trivial
theorem hd.tw2051048951616859547 : True := trivial
theorem hd.tw15411387601460861337 : True := trivial
theorem hd.tw15368132723985388332 : True := trivial
theorem hd.tw16157073509204512506 : True := trivial
theorem hd.tw11631869004601391166 : True := trivial
theorem hd.tw6868836192036940282 : True := trivial
theorem hd.tw7610815399733428385 : True := trivial
theorem hd.tw12936449754285732098 : True := trivial
theorem hd.tw5283464899586487735 : True := trivial
theorem hd.tw17599816209265215132 : True := trivial
theorem hd.tw4706079058837389440 : True := trivial
theorem hd.tw10879034167726328663 : True := trivial
theorem hd.tw14727110085682223627 : True := trivial
theorem hd.tw12112201142124510154 : True := trivial
theorem hd.tw13220430256171166289 : True := trivial
theorem hd.tw18176940659606848779 : True := trivial
theorem hd.tw4449123307109862055 : True := trivial
theorem hd.tw8801323125487838256 : True := trivial
theorem hd.tw2930668341846507884 : True := trivial
theorem hd.tw22551697357593593 : True := trivial
theorem hd.tw3673020696563887462 : True := trivial
theorem hd.tw9244321171653502345 : True := trivial
theorem hd.tw8112040973832200146 : True := trivial
theorem hd.tw3085183777334472315 : True := trivial
theorem hd.tw9345676750909349944 : True := trivial
theorem hd.tw14768889098011018680 : True := trivial
theorem hd.tw7628703163842673926 : True := trivial
theorem hd.tw4971549296188076032 : True := trivial
theorem hd.tw2216850387143573719 : True := trivial
theorem hd.tw16029623286316568529 : True := trivial
theorem hd.tw6819123309680001836 : True := trivial
theorem hd.tw8184699220007379433 : True := trivial
theorem hd.tw3673089383077640791 : True := trivial
theorem hd.tw9673543361469618366 : True := trivial
theorem hd.tw1954109241102656831 : True := trivial
theorem hd.tw13828106393651249627 : True := trivial
theorem hd.tw17650839729002327288 : True := trivial
theorem hd.tw6019021122589006684 : True := trivial
theorem hd.tw6276725880618359904 : True := trivial
theorem hd.tw17901334829092211166 : True := trivial
theorem hd.tw2448417245163862455 : True := trivial
theorem hd.tw1600037746751723098 : True := trivial
theorem hd.tw3530705653197291679 : True := trivial
theorem hd.tw4021928978595405253 : True := trivial
theorem hd.tw14246236162039180721 : True := trivial
theorem hd.tw12575139184659369484 : True := trivial
theorem hd.tw13280443560766958183 : True := trivial
theorem hd.tw11251137523995926341 : True := trivial
set_option Elab.async true
set_option maxRecDepth 100000 in
set_option maxHeartbeats 0 in
theorem hd : (0 : Nat) = 0 → PySem.Challenge.rw_lh0034_01.Holds := by
  intro _
  w_on; o_law; k_head; (case hw => w_witness2)
  k_go0
  (all_goals try k_fold)
  (rename Frag.In _ _ => KX9)
  have KX8 := kkIn KX9
  (rename Fr _ _ _ _ => F9)
  (rename News _ _ _ _ => N9)
  (rename Below _ _ _ _ => B9)
  (rename Top _ _ _ _ _ _ => T9)
  (rename Obj.data _ = _ => d9)
  (rename Heap.IsList _ _ _ => l9)
  (rename IntsAre _ _ => i9)
  (rename ¬ _ < _ => c9)
  refine law_body B9 (fcast F9 ?_) KX8 N9 d9 T9 l9 i9 c9 _ (by rfl) _ (by rfl) ?_ ?_
  · exact fun y => rfl
  · passes_own
  · intro news' h' tk' m' F' N'
    k_steps
end Mine
theorem PySem.Challenge.cw_lh0034_01_holds : PySem.Challenge.rw_lh0034_01.Holds :=
  Mine.hd rfl

