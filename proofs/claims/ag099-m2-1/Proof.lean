import JvmDerived
import JvmDerived.Pilot.@@N@@Statement
import JvmDerived.Pilot.@@N@@Code
set_option linter.unusedVariables false
set_option linter.unusedSimpArgs false
namespace Jvm.RoadKit
open Sem ClassFile Op Lib Jvm.Stand Jvm.Free Jvm.LawKit
section Own
variable {p : Program} {l : Launch} {e : Env} {R : Room} {s : State} {m : MethodId} {args : Array Value} {below : List Frame} {meth : Method} {c : Code} {T : State} {locs : List Loc} {cells slots : Nat}
theorem own_ni0 {a : Addr} : a ∉ ([] : List Addr) := List.not_mem_nil
theorem own_niS {a b : Addr} {ws : List Addr} (h : a ≠ b) (r : a ∉ ws) : a ∉ b :: ws := fun q => (List.mem_cons.mp q).elim h r
theorem own_all0 {P : Addr → Prop} : ∀ x ∈ ([] : List Addr), P x := fun _ q => nomatch q
theorem own_allS {P : Addr → Prop} {b : Addr} {ws : List Addr} (h : P b) (r : ∀ x ∈ ws, P x) : ∀ x ∈ b :: ws, P x := fun x q => (List.mem_cons.mp q).elim (fun e => e ▸ h) (r x)
theorem own_lremM {g : JFrame} {target : State} (X : Stand p l e R s m args below meth c T locs cells slots) (hx : p.tables.exec = Jvm.exec) (hg : g.method = m) {x y : Int64} {rest : List Value} (hd : decode c.code g.pc = .ok (.lrem, 1)) (hs : g.stack = .long y :: .long x :: rest) (hy : y ≠ 0)
    (hr : Steps p.tables e below (T.setTop { g with pc := g.pc + 1, stack := .long (x % y) :: rest }) target) : Steps p.tables e below (T.setTop g) target :=
  XS.lrem X.here hx hg hd hs hy (by rw [lrem_mod]; exact hr)
end Own
end Jvm.RoadKit
namespace Jvm.OwnFP
open Jvm.FP Jvm.FP.Core Jvm.Free.Fl
/-- a double's worth, in units of the least positive double -/
def zv (x : UInt64) : Int := zval b64 (val64 x)
/-- x is finite and is the number i / D -/
def Ra (i : Int) (D : Nat) (x : UInt64) : Prop := DFin x ∧ zv x * (D : Int) = i * (one64 : Int)
theorem Ra.fin {i : Int} {D : Nat} {x : UInt64} (h : Ra i D x) : Fin64 x := fin64_core.mpr h.1
theorem Ra.nn {i : Int} {D : Nat} {x : UInt64} (h : Ra i D x) : NoNaN64 x := h.fin.noNaN
theorem Ra.ne_nan {i : Int} {D : Nat} {x : UInt64} (h : Ra i D x) : val64 x ≠ .nan := h.1.ne_nan
theorem oz : (0 : Int) < (one64 : Int) := Int.natCast_pos.mpr one64_pos
theorem nan_of {x : UInt64} (h : NoNaN64 x) : val64 x ≠ .nan := (notNaN_iff x).mp (noNaN64_no.mp h)
theorem mulc {a b c : Int} (hc : c ≠ 0) (h : a * c = b * c) : a = b := Int.eq_of_mul_eq_mul_right hc h
theorem al_scale {z D D' i i' o : Int} (h : z * D = i * o) (e : i * D' = i' * D) : z * D' * D = i' * o * D := by
  calc z * D' * D = z * D * D' := by ac_rfl
    _ = i * o * D' := by rw [h]
    _ = i * D' * o := by ac_rfl
    _ = i' * o * D := by rw [e]; ac_rfl
theorem al_mul {x y v D E i j o : Int} (hx : x * D = i * o) (hy : y * E = j * o) (hv : v * (D * E) = i * j * o) : x * y * (D * E) = v * o * (D * E) := by
  calc x * y * (D * E) = (x * D) * (y * E) := by ac_rfl
    _ = (i * o) * (j * o) := by rw [hx, hy]
    _ = (i * j * o) * o := by ac_rfl
    _ = v * (D * E) * o := by rw [hv]
    _ = v * o * (D * E) := by ac_rfl
theorem al_mulr {x y v D E F i j r o : Int} (hx : x * D = i * o) (hy : y * E = j * o) (hv : v * F = r * o) (h : i * j * F = r * (D * E)) : x * y * D * E * F = v * o * D * E * F := by
  calc x * y * D * E * F = (x * D) * (y * E) * F := by ac_rfl
    _ = (i * j * F) * (o * o) := by rw [hx, hy]; ac_rfl
    _ = (r * o) * o * (D * E) := by rw [h]; ac_rfl
    _ = (v * F) * o * (D * E) := by rw [hv]
    _ = v * o * D * E * F := by ac_rfl
theorem al_div {x y v D E F i j r o : Int} (hx : x * D = i * o) (hy : y * E = j * o) (hv : v * F = r * o) (h : i * E * F = r * (j * D)) : x * o * D * E * F = v * y * D * E * F := by
  calc x * o * D * E * F = (x * D) * (o * E * F) := by ac_rfl
    _ = (i * E * F) * (o * o) := by rw [hx]; ac_rfl
    _ = (r * o) * (j * o) * D := by rw [h]; ac_rfl
    _ = (v * F) * (y * E) * D := by rw [hv, hy]
    _ = v * y * D * E * F := by ac_rfl
theorem al_units {V d P Q : Nat} : V * P * d * Q = (V * (d * Q)) * P := by ac_rfl
theorem al_mag {i P D o : Nat} (h : i ≤ P * D) : i * o ≤ P * o * D := by
  calc i * o ≤ P * D * o := Nat.mul_le_mul_right _ h
    _ = P * o * D := by ac_rfl
theorem rep {i : Int} {D k : Nat} (hi : i.natAbs < 9007199254740992) (hD : D = 2 ^ k) (hk : k ≤ 1000) : ∃ V, Ra i D V := by
  have hc : i.natAbs < 2 ^ b64.p := by rw [show (2 : Nat) ^ b64.p = 9007199254740992 by decide +kernel]; exact hi
  have hq2 : b64.qmax = 971 := by decide
  obtain ⟨c', q', h1, h2⟩ := round_exact good_b64 (decide (i < 0)) (c := i.natAbs) (q := -(k : Int)) hc (by rw [qmin_b64]; omega) (by rw [hq2]; omega)
  refine ⟨of64 (round b64 (.fin (decide (i < 0)) i.natAbs (-(k : Int)))), ⟨_, _, _, by rw [val64_of64 (round_fits good_b64 _), h1]⟩, ?_⟩
  unfold zv
  rw [val64_of64 (round_fits good_b64 _), h1]
  show signed (decide (i < 0)) (inUnits c' q' b64.qmin) * _ = _
  rw [h2]
  unfold inUnits
  have e1 : signed (decide (i < 0)) i.natAbs = i := by unfold signed; by_cases h : i < 0 <;> simp [h] <;> omega
  have e2 : (-(k : Int) - b64.qmin).toNat + k = 1074 := by rw [qmin_b64]; omega
  rw [signed_mul, e1, Int.mul_assoc, hD, ← Int.natCast_mul, ← Nat.pow_add, e2]
  rfl
theorem fin_of {x V : UInt64} (hn : val64 x ≠ .nan) (hV : DFin V) (h : zv x = zv V) : DFin x := by
  cases hx : val64 x with
  | nan => exact absurd hx hn
  | fin s c q => exact ⟨s, c, q, hx⟩
  | inf s =>
    exfalso
    have h1 := hV.zval_lt
    unfold zv zval at h
    rw [hx] at h
    have h2 := congrArg Int.natAbs h
    rw [natAbs_signed, natAbs_signed] at h2
    exact absurd h2.symm (Nat.ne_of_lt h1)
theorem Ra.scale {i i' : Int} {D D' : Nat} {x : UInt64} (h : Ra i D x) (hD : 0 < D) (e : i * (D' : Int) = i' * (D : Int)) : Ra i' D' x := by
  exact ⟨h.1, mulc (c := (D : Int)) (by omega) (al_scale h.2 e)⟩
theorem Ra.same {i i' : Int} {D : Nat} {x : UInt64} (h : Ra i D x) (e : i = i') : Ra i' D x := e ▸ h
theorem Ra.add {i j : Int} {D k : Nat} {x y : UInt64} (hx : Ra i D x) (hy : Ra j D y) (h : (i + j).natAbs < 9007199254740992) (hD : D = 2 ^ k) (hk : k ≤ 1000) : Ra (i + j) D (FP.dadd x y) := by
  obtain ⟨V, hV⟩ := rep h hD hk
  have hD0 : (D : Int) ≠ 0 := by rw [hD]; exact Int.ne_of_gt (Int.natCast_pos.mpr (Nat.two_pow_pos k))
  have hs : zval b64 (val64 x) + zval b64 (val64 y) = zval b64 (val64 V) := mulc hD0 (by
    have a := hx.2; have b := hy.2; have c := hV.2
    unfold zv at a b c
    rw [Int.add_mul, a, b, c, Int.add_mul])
  have hz : zv (Core.dadd x y) = zv V := by
    unfold zv
    rw [val64_dadd]
    exact Int.le_antisymm (sum_le good_b64 hx.1 hy.1 (val64_fits x) (val64_fits y) (val64_fits V) hV.ne_nan (Int.le_of_eq hs)) (sum_ge good_b64 hx.1 hy.1 (val64_fits x) (val64_fits y) (val64_fits V) hV.ne_nan (Int.le_of_eq hs.symm))
  exact ⟨fin_of ((notNaN_iff _).mp (dadd_out hx.1.notNaN hy.1)) hV.1 hz, by show zv (Core.dadd x y) * _ = _; rw [hz, hV.2]⟩
theorem fin_negate {x : UInt64} (h : DFin x) : ∃ s c q, negate (val64 x) = .fin s c q := by
  obtain ⟨s, c, q, h⟩ := h; exact ⟨!s, c, q, by rw [h]; rfl⟩
theorem Ra.sub {i j : Int} {D k : Nat} {x y : UInt64} (hx : Ra i D x) (hy : Ra j D y) (h : (i - j).natAbs < 9007199254740992) (hD : D = 2 ^ k) (hk : k ≤ 1000) : Ra (i - j) D (FP.dsub x y) := by
  obtain ⟨V, hV⟩ := rep h hD hk
  have hD0 : (D : Int) ≠ 0 := by rw [hD]; exact Int.ne_of_gt (Int.natCast_pos.mpr (Nat.two_pow_pos k))
  have hs : zval b64 (val64 x) + zval b64 (negate (val64 y)) = zval b64 (val64 V) := mulc hD0 (by
    have a := hx.2; have b := hy.2; have c := hV.2
    unfold zv at a b c
    rw [zval_negate, Int.add_mul, Int.neg_mul, a, b, c, Int.sub_mul]
    omega)
  have hz : zv (Core.dsub x y) = zv V := by
    unfold zv
    rw [val64_dsub]
    exact Int.le_antisymm (sum_le good_b64 hx.1 (fin_negate hy.1) (val64_fits x) (negate_fits (val64_fits y)) (val64_fits V) hV.ne_nan (Int.le_of_eq hs)) (sum_ge good_b64 hx.1 (fin_negate hy.1) (val64_fits x) (negate_fits (val64_fits y)) (val64_fits V) hV.ne_nan (Int.le_of_eq hs.symm))
  exact ⟨fin_of ((notNaN_iff _).mp (dsub_out hx.1.notNaN hy.1)) hV.1 hz, by show zv (Core.dsub x y) * _ = _; rw [hz, hV.2]⟩
theorem qq : (b64.qmin - 2 * b64.qmin).toNat = (-b64.qmin).toNat := by rw [qmin_b64]; decide
/-- a product, held against a double -/
theorem mul_le {x y V : UInt64} (hx : DFin x) (hy : DFin y) (hV : val64 V ≠ .nan) (h : zv x * zv y ≤ zv V * (one64 : Int)) : zv (Core.dmul x y) ≤ zv V := by
  obtain ⟨s, c, q, ex⟩ := hx
  obtain ⟨t, d, r, ey⟩ := hy
  have fx := val64_fits x; have fy := val64_fits y
  rw [ex] at fx; rw [ey] at fy
  obtain ⟨p1, p2, p3⟩ := product_units fx fy
  unfold zv at h ⊢
  rw [val64_dmul, ex, ey, p1]
  rw [ex, ey] at h
  exact zval_round_le good_b64 (val64_fits V) hV (e0 := 2 * b64.qmin) (by rw [qmin_b64]; decide) p2 (by rw [p3, signed_xor, qq, pow_qmin64]; exact h)
theorem mul_ge {x y V : UInt64} (hx : DFin x) (hy : DFin y) (hV : val64 V ≠ .nan) (h : zv V * (one64 : Int) ≤ zv x * zv y) : zv V ≤ zv (Core.dmul x y) := by
  obtain ⟨s, c, q, ex⟩ := hx
  obtain ⟨t, d, r, ey⟩ := hy
  have fx := val64_fits x; have fy := val64_fits y
  rw [ex] at fx; rw [ey] at fy
  obtain ⟨p1, p2, p3⟩ := product_units fx fy
  unfold zv at h ⊢
  rw [val64_dmul, ex, ey, p1]
  rw [ex, ey] at h
  exact zval_round_ge good_b64 (val64_fits V) hV (e0 := 2 * b64.qmin) (by rw [qmin_b64]; decide) p2 (by rw [p3, signed_xor, qq, pow_qmin64]; exact h)
/-- the product's worth, where it is a double's -/
theorem mul_zv {x y V : UInt64} (hx : DFin x) (hy : DFin y) (hV : val64 V ≠ .nan) (h : zv x * zv y = zv V * (one64 : Int)) : zv (Core.dmul x y) = zv V :=
  Int.le_antisymm (mul_le hx hy hV (Int.le_of_eq h)) (mul_ge hx hy hV (Int.le_of_eq h.symm))
theorem Ra.mul {i j : Int} {D E k : Nat} {x y : UInt64} (hx : Ra i D x) (hy : Ra j E y) (h : (i * j).natAbs < 9007199254740992) (hD : D * E = 2 ^ k) (hk : k ≤ 1000) : Ra (i * j) (D * E) (FP.dmul x y) := by
  obtain ⟨V, hV⟩ := rep h hD hk
  have hD0 : ((D * E : Nat) : Int) ≠ 0 := by rw [hD]; exact Int.ne_of_gt (Int.natCast_pos.mpr (Nat.two_pow_pos k))
  have hv := hV.2
  rw [Int.natCast_mul] at hv hD0
  have hs : zv x * zv y = zv V * (one64 : Int) := mulc hD0 (al_mul hx.2 hy.2 hv)
  have hz : zv (Core.dmul x y) = zv V := mul_zv hx.1 hy.1 hV.ne_nan hs
  exact ⟨fin_of ((notNaN_iff _).mp (dmul_out hx.1 hy.1)) hV.1 hz, by show zv (Core.dmul x y) * _ = _; rw [hz, hV.2]⟩
/-- a product written in its least terms -/
theorem Ra.mulr {i j r : Int} {D E F k : Nat} {x y : UInt64} (hx : Ra i D x) (hy : Ra j E y) (hD : 0 < D) (hE : 0 < E) (hr : r.natAbs < 9007199254740992) (hF : F = 2 ^ k) (hk : k ≤ 1000) (h : i * j * (F : Int) = r * ((D : Int) * (E : Int))) : Ra r F (FP.dmul x y) := by
  obtain ⟨V, hV⟩ := rep hr hF hk
  have hF0 : (F : Int) ≠ 0 := by rw [hF]; exact Int.ne_of_gt (Int.natCast_pos.mpr (Nat.two_pow_pos k))
  have hs : zv x * zv y = zv V * (one64 : Int) := by
    exact mulc (c := (D : Int)) (by omega) (mulc (c := (E : Int)) (by omega) (mulc hF0 (al_mulr hx.2 hy.2 hV.2 h)))
  have hz : zv (Core.dmul x y) = zv V := mul_zv hx.1 hy.1 hV.ne_nan hs
  exact ⟨fin_of ((notNaN_iff _).mp (dmul_out hx.1 hy.1)) hV.1 hz, by show zv (Core.dmul x y) * _ = _; rw [hz, hV.2]⟩
theorem zv_abs (x : UInt64) : (zv x).natAbs = zmag b64 (val64 x) := by unfold zv zval; rw [natAbs_signed]
/-- the quotient's parts -/
theorem div_parts {x y : UInt64} (hx : DFin x) (hy : DFin y) (hz : zv y ≠ 0) : ∃ s t c d q r, val64 x = .fin s c q ∧ val64 y = .fin t d r ∧ 0 < d ∧ b64.qmin ≤ q ∧ b64.qmin ≤ r ∧ zmag b64 (val64 x) = c * 2 ^ (q - b64.qmin).toNat ∧ zmag b64 (val64 y) = d * 2 ^ (r - b64.qmin).toNat ∧ val64 (Core.ddiv x y) = roundRatio b64 (s != t) c d (q - r) := by
  obtain ⟨s, c, q, ex⟩ := hx
  obtain ⟨t, d, r, ey⟩ := hy
  have fx := val64_fits x; have fy := val64_fits y
  rw [ex] at fx; rw [ey] at fy
  have hd : d ≠ 0 := fun h => hz (by unfold zv; rw [ey, h]; simp [zval, zmag, sgn, inUnits, signed])
  refine ⟨s, t, c, d, q, r, ex, ey, Nat.pos_of_ne_zero hd, fx.2.1, fy.2.1, by rw [ex]; rfl, by rw [ey]; rfl, ?_⟩
  rw [val64_ddiv, ex, ey]
  show (if d = 0 then _ else roundRatio b64 (s != t) c d (q - r)) = _
  rw [if_neg hd]
theorem div_units {c d V : Nat} {q r e : Int} (hq : b64.qmin ≤ q) (hr : b64.qmin ≤ r) (h1 : e ≤ b64.qmin) (h2 : e ≤ q - r) :
    inUnits c (q - r) e * 2 ^ (r - b64.qmin).toNat = (c * 2 ^ (q - b64.qmin).toNat * one64) * 2 ^ (b64.qmin - e).toNat ∧
      V * 2 ^ (b64.qmin - e).toNat * d * 2 ^ (r - b64.qmin).toNat = (V * (d * 2 ^ (r - b64.qmin).toNat)) * 2 ^ (b64.qmin - e).toNat := by
  refine ⟨?_, al_units⟩
  have hn : b64.qmin < 0 := by rw [qmin_b64]; decide
  unfold inUnits
  rw [← pow_qmin64, Nat.mul_assoc, Nat.mul_assoc, Nat.mul_assoc, ← Nat.pow_add, ← Nat.pow_add, ← Nat.pow_add]
  congr 2
  omega
theorem div_mag_le {x y V : UInt64} (hx : DFin x) (hy : DFin y) (hz : zv y ≠ 0) (hV : val64 V ≠ .nan) (h : (zv x).natAbs * one64 ≤ (zv V).natAbs * (zv y).natAbs) : (zv (Core.ddiv x y)).natAbs ≤ (zv V).natAbs := by
  obtain ⟨s, t, c, d, q, r, ex, ey, hd, hq, hr, mx, my, hv⟩ := div_parts hx hy hz
  rw [zv_abs, zv_abs, hv]
  rw [zv_abs, zv_abs, zv_abs, mx, my] at h
  refine zmag_roundRatio_le good_b64 hd (val64_fits V) hV (e0 := min b64.qmin (q - r)) (by omega) (by omega) ?_
  obtain ⟨u1, u2⟩ := div_units (c := c) (d := d) (V := zmag b64 (val64 V)) hq hr (e := min b64.qmin (q - r)) (by omega) (by omega)
  refine Nat.le_of_mul_le_mul_right (c := 2 ^ (r - b64.qmin).toNat) ?_ (Nat.two_pow_pos _)
  rw [u1, u2]
  exact Nat.mul_le_mul_right _ h
theorem div_mag_ge {x y V : UInt64} (hx : DFin x) (hy : DFin y) (hz : zv y ≠ 0) (h : (zv V).natAbs * (zv y).natAbs ≤ (zv x).natAbs * one64) : (zv V).natAbs ≤ (zv (Core.ddiv x y)).natAbs := by
  obtain ⟨s, t, c, d, q, r, ex, ey, hd, hq, hr, mx, my, hv⟩ := div_parts hx hy hz
  rw [zv_abs, zv_abs, hv]
  rw [zv_abs, zv_abs, zv_abs, mx, my] at h
  refine zmag_roundRatio_ge good_b64 hd (val64_fits V) (e0 := min b64.qmin (q - r)) (by omega) (by omega) ?_
  obtain ⟨u1, u2⟩ := div_units (c := c) (d := d) (V := zmag b64 (val64 V)) hq hr (e := min b64.qmin (q - r)) (by omega) (by omega)
  refine Nat.le_of_mul_le_mul_right (c := 2 ^ (r - b64.qmin).toNat) ?_ (Nat.two_pow_pos _)
  rw [u1, u2]
  exact Nat.mul_le_mul_right _ h
theorem zv_sgn (x : UInt64) : zv x = signed (sgn (val64 x)) (zv x).natAbs := by rw [zv_abs]; rfl
theorem div_sgn {x y : UInt64} (hx : DFin x) (hy : DFin y) (hz : zv y ≠ 0) : sgn (val64 (Core.ddiv x y)) = (sgn (val64 x) != sgn (val64 y)) := by
  obtain ⟨s, t, c, d, q, r, ex, ey, -, -, -, -, -, hv⟩ := div_parts hx hy hz
  rw [hv, sgn_roundRatio, ex, ey]; rfl
theorem sgn_pos {x : UInt64} (h : 0 < zv x) : sgn (val64 x) = false := by
  rw [zv_sgn] at h
  cases hs : sgn (val64 x) with
  | false => rfl
  | true => rw [hs] at h; simp [signed] at h; omega
theorem div_nonneg {x y : UInt64} (hx : DFin x) (hy : DFin y) (h1 : 0 < zv x) (h2 : 0 < zv y) : zv (Core.ddiv x y) = ((zv (Core.ddiv x y)).natAbs : Int) := by
  have h := div_sgn hx hy (Int.ne_of_gt h2)
  rw [sgn_pos h1, sgn_pos h2] at h
  rw [zv_sgn (Core.ddiv x y), h]; simp [signed]
theorem div_ge {x y V : UInt64} (hx : DFin x) (hy : DFin y) (h1 : 0 < zv x) (h2 : 0 < zv y) (hV : 0 ≤ zv V) (h : zv V * zv y ≤ zv x * (one64 : Int)) : zv V ≤ zv (Core.ddiv x y) := by
  have k : (zv V).natAbs * (zv y).natAbs ≤ (zv x).natAbs * one64 := by
    have e1 : ((zv V).natAbs : Int) = zv V := by omega
    have e2 : ((zv y).natAbs : Int) = zv y := by omega
    have e3 : ((zv x).natAbs : Int) = zv x := by omega
    refine Int.ofNat_le.mp ?_
    rw [Int.natCast_mul, Int.natCast_mul, e1, e2, e3]; exact h
  have := div_mag_ge hx hy (Int.ne_of_gt h2) k
  rw [div_nonneg hx hy h1 h2]; omega
theorem div_le {x y V : UInt64} (hx : DFin x) (hy : DFin y) (h1 : 0 < zv x) (h2 : 0 < zv y) (hn : val64 V ≠ .nan) (hV : 0 ≤ zv V) (h : zv x * (one64 : Int) ≤ zv V * zv y) : zv (Core.ddiv x y) ≤ zv V := by
  have k : (zv x).natAbs * one64 ≤ (zv V).natAbs * (zv y).natAbs := by
    have e1 : ((zv V).natAbs : Int) = zv V := by omega
    have e2 : ((zv y).natAbs : Int) = zv y := by omega
    have e3 : ((zv x).natAbs : Int) = zv x := by omega
    refine Int.ofNat_le.mp ?_
    rw [Int.natCast_mul, Int.natCast_mul, e1, e2, e3]; exact h
  have := div_mag_le hx hy (Int.ne_of_gt h2) hn k
  rw [div_nonneg hx hy h1 h2]; omega
theorem signed_inj {s t : Bool} {n : Nat} (hn : n ≠ 0) (h : signed s n = signed t n) : s = t := by
  cases s <;> cases t <;> simp [signed] at h ⊢ <;> omega
theorem xor_back {s t v : Bool} (h : s = (v != t)) : (s != t) = v := by cases s <;> cases t <;> cases v <;> simp_all
/-- the quotient's worth, where it is a double's -/
theorem div_zv {x y V : UInt64} (hx : DFin x) (hy : DFin y) (hz : zv y ≠ 0) (hV : DFin V) (h : zv x * (one64 : Int) = zv V * zv y) : zv (Core.ddiv x y) = zv V := by
  have ha : (zv x).natAbs * one64 = (zv V).natAbs * (zv y).natAbs := by
    have := congrArg Int.natAbs h
    rwa [Int.natAbs_mul, Int.natAbs_mul, Int.natAbs_natCast] at this
  have hm : (zv (Core.ddiv x y)).natAbs = (zv V).natAbs := Nat.le_antisymm (div_mag_le hx hy hz hV.ne_nan (Nat.le_of_eq ha)) (div_mag_ge hx hy hz (Nat.le_of_eq ha.symm))
  rw [zv_sgn (Core.ddiv x y), hm, div_sgn hx hy hz]
  by_cases h0 : (zv V).natAbs = 0
  · rw [h0, Int.natAbs_eq_zero.mp h0]; exact signed_zero _
  · have k : signed (sgn (val64 x)) ((zv x).natAbs * one64) = zv x * (one64 : Int) := by rw [signed_mul, ← zv_sgn]
    rw [ha] at k
    have k2 : signed (sgn (val64 V) != sgn (val64 y)) ((zv V).natAbs * (zv y).natAbs) = zv V * zv y := by rw [signed_xor, ← zv_sgn, ← zv_sgn]
    have e := xor_back (signed_inj (n := (zv V).natAbs * (zv y).natAbs) (Nat.mul_ne_zero h0 (fun q => hz (Int.natAbs_eq_zero.mp q))) (k.trans (h.trans k2.symm)))
    rw [e, ← zv_sgn]
theorem Ra.div {i j r : Int} {D E F k : Nat} {x y : UInt64} (hx : Ra i D x) (hy : Ra j E y) (hD : 0 < D) (hE : 0 < E) (hj : j ≠ 0) (hr : r.natAbs < 9007199254740992) (hF : F = 2 ^ k) (hk : k ≤ 1000) (h : i * (E : Int) * (F : Int) = r * (j * (D : Int))) : Ra r F (FP.ddiv x y) := by
  obtain ⟨V, hV⟩ := rep hr hF hk
  have hF0 : (F : Int) ≠ 0 := by rw [hF]; exact Int.ne_of_gt (Int.natCast_pos.mpr (Nat.two_pow_pos k))
  have hy0 : zv y ≠ 0 := fun q => by
    have := hy.2; rw [q, Int.zero_mul] at this
    exact (Int.mul_ne_zero hj (Int.ne_of_gt oz)) this.symm
  have hs : zv x * (one64 : Int) = zv V * zv y := by
    exact mulc (c := (D : Int)) (by omega) (mulc (c := (E : Int)) (by omega) (mulc hF0 (al_div hx.2 hy.2 hV.2 h)))
  have hz : zv (Core.ddiv x y) = zv V := div_zv hx.1 hy.1 hy0 hV.1 hs
  have hyz : ¬ DZero y := fun q => hy0 (by unfold zv; exact DZero.zval q)
  exact ⟨fin_of ((notNaN_iff _).mp (ddiv_out hx.1.notNaN hy.1 hyz)) hV.1 hz, by show zv (Core.ddiv x y) * _ = _; rw [hz, hV.2]⟩
/-- two quotients of one ratio are of one worth -/
theorem div_alike {x y x' y' : UInt64} (hx : DFin x) (hy : DFin y) (hx' : DFin x') (hy' : DFin y') (hz : zv y ≠ 0) (hz' : zv y' ≠ 0) (h : zv x * zv y' = zv x' * zv y) : zv (Core.ddiv x y) = zv (Core.ddiv x' y') := by
  have ha : (zv x).natAbs * (zv y').natAbs = (zv x').natAbs * (zv y).natAbs := by
    have := congrArg Int.natAbs h
    rwa [Int.natAbs_mul, Int.natAbs_mul] at this
  have hsg := div_sgn hx hy hz
  have hsg' := div_sgn hx' hy' hz'
  obtain ⟨s, t, c, d, q, r, ex, ey, hd, hq, hr, mx, my, hv⟩ := div_parts hx hy hz
  obtain ⟨s', t', c', d', q', r', ex', ey', hd', hq', hr', mx', my', hv'⟩ := div_parts hx' hy' hz'
  have hm : (zv (Core.ddiv x y)).natAbs = (zv (Core.ddiv x' y')).natAbs := by
    rw [zv_abs, zv_abs, zv_abs, zv_abs, mx, my, mx', my'] at ha
    rw [zv_abs, zv_abs, hv, hv']
    have e : roundRatio b64 (s != t) c d (q - r) = roundRatio b64 (s != t) c' d' (q' - r') := by
      refine roundRatio_congr hd hd' ?_
      have g1 : ∃ T, (q - b64.qmin).toNat + (r' - b64.qmin).toNat = (q - r - (q' - r')).toNat + T ∧ (q' - b64.qmin).toNat + (r - b64.qmin).toNat = (q' - r' - (q - r)).toNat + T := ⟨(min ((q - b64.qmin) + (r' - b64.qmin)) ((q' - b64.qmin) + (r - b64.qmin))).toNat, by omega, by omega⟩
      obtain ⟨T, g1, g2⟩ := g1
      refine Nat.eq_of_mul_eq_mul_right (Nat.two_pow_pos T) ?_
      calc c * d' * 2 ^ (q - r - (q' - r')).toNat * 2 ^ T = (c * 2 ^ (q - b64.qmin).toNat) * (d' * 2 ^ (r' - b64.qmin).toNat) := by rw [Nat.mul_assoc, ← Nat.pow_add, ← g1, Nat.pow_add]; ac_rfl
        _ = (c' * 2 ^ (q' - b64.qmin).toNat) * (d * 2 ^ (r - b64.qmin).toNat) := ha
        _ = c' * d * 2 ^ (q' - r' - (q - r)).toNat * 2 ^ T := by rw [Nat.mul_assoc (c' * d), ← Nat.pow_add, ← g2, Nat.pow_add]; ac_rfl
    rw [e]
    rcases roundRatio_cases b64 (s != t) c' d' (q' - r') with ⟨a, b, g⟩ | g <;> rcases roundRatio_cases b64 (s' != t') c' d' (q' - r') with ⟨a', b', g'⟩ | g'
    all_goals first
      | (have := negate_roundRatio b64 (s' != t') c' d' (q' - r')
         by_cases w : (s != t) = (s' != t')
         · rw [w]
         · rw [show (s != t) = !(s' != t') by cases s <;> cases t <;> cases s' <;> cases t' <;> simp_all, ← this]
           rw [g']; rfl)
  rw [zv_sgn (Core.ddiv x y), zv_sgn (Core.ddiv x' y'), hm, hsg, hsg']
  by_cases h0 : (zv (Core.ddiv x' y')).natAbs = 0
  · rw [h0, signed_zero, signed_zero]
  · by_cases hx0 : (zv x').natAbs = 0
    · exfalso; apply h0
      have := div_mag_le (V := (0 : UInt64)) hx' hy' hz' (by rw [val64_zero]; exact Datum.noConfusion) (by rw [hx0, Nat.zero_mul]; exact Nat.zero_le _)
      have z0 : zv 0 = 0 := zval64_zero
      rw [z0] at this; simpa using this
    · congr 1
      have hy1 : (zv y).natAbs ≠ 0 := fun q => hz (Int.natAbs_eq_zero.mp q)
      have k : signed (sgn (val64 x) != sgn (val64 y')) ((zv x').natAbs * (zv y).natAbs) = signed (sgn (val64 x') != sgn (val64 y)) ((zv x').natAbs * (zv y).natAbs) := by
        rw [← ha, signed_xor, ha, signed_xor, ← zv_sgn, ← zv_sgn, ← zv_sgn, ← zv_sgn]; exact h
      have k2 := signed_inj (Nat.mul_ne_zero hx0 hy1) k
      revert k2
      generalize sgn (val64 x) = a; generalize sgn (val64 y) = b; generalize sgn (val64 x') = a'; generalize sgn (val64 y') = b'
      cases a <;> cases b <;> cases a' <;> cases b' <;> simp
/-- comparisons -/
theorem cv_lt {x y : UInt64} (nx : val64 x ≠ .nan) (ny : val64 y ≠ .nan) (h : zv x < zv y) (o : Jvm.ClassFile.CmpOp) : Jvm.Op.cmpValue (FP.dcmp x y) o = -1 := by
  rw [show FP.dcmp x y = some .lt from dcmp_lt.mpr ⟨nx, ny, h⟩]; cases o <;> rfl
theorem cv_eq {x y : UInt64} (nx : val64 x ≠ .nan) (ny : val64 y ≠ .nan) (h : zv x = zv y) (o : Jvm.ClassFile.CmpOp) : Jvm.Op.cmpValue (FP.dcmp x y) o = 0 := by
  rw [show FP.dcmp x y = some .eq from dcmp_eq.mpr ⟨nx, ny, h⟩]; cases o <;> rfl
theorem cv_gt {x y : UInt64} (nx : val64 x ≠ .nan) (ny : val64 y ≠ .nan) (h : zv y < zv x) (o : Jvm.ClassFile.CmpOp) : Jvm.Op.cmpValue (FP.dcmp x y) o = 1 := by
  rw [show FP.dcmp x y = some .gt from dcmp_gt.mpr ⟨nx, ny, h⟩]; cases o <;> rfl
theorem cv_le {x y : UInt64} (nx : val64 x ≠ .nan) (ny : val64 y ≠ .nan) (h : zv x ≤ zv y) (o : Jvm.ClassFile.CmpOp) : ¬ (0 : Int32) < Jvm.Op.cmpValue (FP.dcmp x y) o := by
  rcases Int.lt_or_eq_of_le h with q | q
  · rw [cv_lt nx ny q]; decide
  · rw [cv_eq nx ny q]; decide
theorem cv_ge {x y : UInt64} (nx : val64 x ≠ .nan) (ny : val64 y ≠ .nan) (h : zv y ≤ zv x) (o : Jvm.ClassFile.CmpOp) : ¬ Jvm.Op.cmpValue (FP.dcmp x y) o < (0 : Int32) := by
  rcases Int.lt_or_eq_of_le h with q | q
  · rw [cv_gt nx ny q]; decide
  · rw [cv_eq nx ny q.symm]; decide
theorem cv_lt' {x y : UInt64} (nx : val64 x ≠ .nan) (ny : val64 y ≠ .nan) (h : zv x < zv y) (o : Jvm.ClassFile.CmpOp) : Jvm.Op.cmpValue (FP.dcmp x y) o < (0 : Int32) := by rw [cv_lt nx ny h]; decide
theorem cv_gt' {x y : UInt64} (nx : val64 x ≠ .nan) (ny : val64 y ≠ .nan) (h : zv y < zv x) (o : Jvm.ClassFile.CmpOp) : (0 : Int32) < Jvm.Op.cmpValue (FP.dcmp x y) o := by rw [cv_gt nx ny h]; decide
theorem zv_lt {i j : Int} {D : Nat} {x y : UInt64} (hx : Ra i D x) (hy : Ra j D y) (hD : 0 < D) (h : i < j) : zv x < zv y := by
  refine Int.lt_of_mul_lt_mul_right (a := (D : Int)) ?_ (by omega)
  rw [hx.2, hy.2]; exact Int.mul_lt_mul_of_pos_right h oz
theorem zv_eq {i j : Int} {D : Nat} {x y : UInt64} (hx : Ra i D x) (hy : Ra j D y) (hD : 0 < D) (h : i = j) : zv x = zv y :=
  mulc (c := (D : Int)) (by omega) (by rw [hx.2, hy.2, h])
theorem Ra.lt {i j : Int} {D : Nat} {x y : UInt64} (hx : Ra i D x) (hy : Ra j D y) (hD : 0 < D) (h : i < j) (o : Jvm.ClassFile.CmpOp) : Jvm.Op.cmpValue (FP.dcmp x y) o = -1 := cv_lt hx.ne_nan hy.ne_nan (zv_lt hx hy hD h) o
theorem Ra.gt {i j : Int} {D : Nat} {x y : UInt64} (hx : Ra i D x) (hy : Ra j D y) (hD : 0 < D) (h : j < i) (o : Jvm.ClassFile.CmpOp) : Jvm.Op.cmpValue (FP.dcmp x y) o = 1 := cv_gt hx.ne_nan hy.ne_nan (zv_lt hy hx hD h) o
theorem Ra.eq {i j : Int} {D : Nat} {x y : UInt64} (hx : Ra i D x) (hy : Ra j D y) (hD : 0 < D) (h : i = j) (o : Jvm.ClassFile.CmpOp) : Jvm.Op.cmpValue (FP.dcmp x y) o = 0 := cv_eq hx.ne_nan hy.ne_nan (zv_eq hx hy hD h) o
theorem zv_le {i j : Int} {D : Nat} {x y : UInt64} (hx : Ra i D x) (hy : Ra j D y) (hD : 0 < D) (h : i ≤ j) : zv x ≤ zv y := by
  rcases Int.lt_or_eq_of_le h with q | q
  · exact Int.le_of_lt (zv_lt hx hy hD q)
  · exact Int.le_of_eq (zv_eq hx hy hD q)
theorem Ra.le {i j : Int} {D : Nat} {x y : UInt64} (hx : Ra i D x) (hy : Ra j D y) (hD : 0 < D) (h : i ≤ j) (o : Jvm.ClassFile.CmpOp) : ¬ (0 : Int32) < Jvm.Op.cmpValue (FP.dcmp x y) o := cv_le hx.ne_nan hy.ne_nan (zv_le hx hy hD h) o
theorem Ra.ge {i j : Int} {D : Nat} {x y : UInt64} (hx : Ra i D x) (hy : Ra j D y) (hD : 0 < D) (h : j ≤ i) (o : Jvm.ClassFile.CmpOp) : ¬ Jvm.Op.cmpValue (FP.dcmp x y) o < (0 : Int32) := cv_ge hx.ne_nan hy.ne_nan (zv_le hy hx hD h) o
theorem Ra.lt' {i j : Int} {D : Nat} {x y : UInt64} (hx : Ra i D x) (hy : Ra j D y) (hD : 0 < D) (h : i < j) (o : Jvm.ClassFile.CmpOp) : Jvm.Op.cmpValue (FP.dcmp x y) o < (0 : Int32) := cv_lt' hx.ne_nan hy.ne_nan (zv_lt hx hy hD h) o
theorem Ra.gt' {i j : Int} {D : Nat} {x y : UInt64} (hx : Ra i D x) (hy : Ra j D y) (hD : 0 < D) (h : j < i) (o : Jvm.ClassFile.CmpOp) : (0 : Int32) < Jvm.Op.cmpValue (FP.dcmp x y) o := cv_gt' hx.ne_nan hy.ne_nan (zv_lt hy hx hD h) o
theorem Ra.of_int {i : Int} {x : UInt64} (h : DInt i x) (hf : DFin x) : Ra i 1 x := ⟨hf, by show zval b64 (val64 x) * _ = _; rw [DInt_zval h]; show _ * (1 : Int) = _; rw [Int.mul_one]⟩
theorem Ra.i2d (a : Int32) : Ra a.toInt 1 (FP.i2d a) := Ra.of_int (i2d_int a) (Core.i2d_fin a)
theorem Ra.l2d {a : Int64} (h : a.toInt.natAbs ≤ 9007199254740992) : Ra a.toInt 1 (FP.l2d a) := Ra.of_int (l2d_int h) (Core.l2d_fin a)
/-- a written constant -/
theorem Ra.lit {x : UInt64} {s : Bool} {c D n : Nat} {q i : Int} {k : Nat} (h : val64 x = .fin s c q) (hD : D = 2 ^ k) (hq : q = -((k + n : Nat) : Int)) (hk : k + n ≤ 1074) (e : signed s c = i * ((2 ^ n : Nat) : Int)) : Ra i D x := by
  refine ⟨⟨s, c, q, h⟩, ?_⟩
  unfold zv
  rw [h]
  show signed s (inUnits c q b64.qmin) * _ = _
  unfold inUnits
  have e2 : n + (q - b64.qmin).toNat + k = 1074 := by rw [qmin_b64]; omega
  rw [signed_mul, e, hD, Int.mul_assoc, Int.mul_assoc, ← Int.natCast_mul, ← Int.natCast_mul, ← Nat.pow_add, ← Nat.pow_add, ← Nat.add_assoc, e2]
  rfl
theorem zv_neg (x : UInt64) : zv (FP.dneg x) = -zv x := by unfold zv; rw [Jvm.FP.val64_dneg, zval_negate]
theorem Ra.neg {i : Int} {D : Nat} {x : UInt64} (h : Ra i D x) : Ra (-i) D (FP.dneg x) := by
  obtain ⟨⟨s, c, q, ex⟩, e⟩ := h
  exact ⟨⟨!s, c, q, by rw [Jvm.FP.val64_dneg, ex]; rfl⟩, by rw [zv_neg, Int.neg_mul, e, Int.neg_mul]⟩
/-- exact products of longs -/
theorem lmul_of {x y : Int64} {a b : Int} (hx : x.toInt = a) (hy : y.toInt = b) (h1 : -9223372036854775808 ≤ a * b) (h2 : a * b < 9223372036854775808) : (x * y).toInt = a * b := by
  rw [int64_mul (by rw [hx, hy]; exact h1) (by rw [hx, hy]; exact h2), hx, hy]
theorem ladd_of {x y : Int64} {a b : Int} (hx : x.toInt = a) (hy : y.toInt = b) (h1 : -9223372036854775808 ≤ a + b) (h2 : a + b < 9223372036854775808) : (x + y).toInt = a + b := by
  rw [int64_add (by rw [hx, hy]; exact h1) (by rw [hx, hy]; exact h2), hx, hy]
theorem lsub_of {x y : Int64} {a b : Int} (hx : x.toInt = a) (hy : y.toInt = b) (h1 : -9223372036854775808 ≤ a - b) (h2 : a - b < 9223372036854775808) : (x - y).toInt = a - b := by
  rw [int64_sub (by rw [hx, hy]; exact h1) (by rw [hx, hy]; exact h2), hx, hy]
theorem lneg_of {x : Int64} {a : Int} (hx : x.toInt = a) (h1 : -9223372036854775808 < a) : (-x).toInt = -a := by
  rw [int64_neg (by rw [hx]; exact h1), hx]
theorem i2l_of {x : Int32} {a : Int} (hx : x.toInt = a) : x.toInt64.toInt = a := by rw [Int32.toInt_toInt64, hx]
theorem fin_of_le {x V : UInt64} (hn : val64 x ≠ .nan) (hV : DFin V) (h : (zv x).natAbs ≤ (zv V).natAbs) : DFin x := by
  cases hx : val64 x with
  | nan => exact absurd hx hn
  | fin s c q => exact ⟨s, c, q, hx⟩
  | inf s =>
    exfalso
    have h1 := hV.zval_lt
    rw [zv_abs, zv_abs, hx] at h
    exact absurd (Nat.lt_of_le_of_lt h h1) (Nat.lt_irrefl _)
/-- a bound on the worth bounds the bits -/
theorem mag_of {x : UInt64} {n : Nat} (hx : DFin x) (h : (zv x).natAbs ≤ 2 ^ n * one64) : Mag64 (n + 1024) x := by
  have z := zmag_bits hx.ne_nan
  rw [zv_abs, z] at h
  have hs : unitsOf b64 ((n + 1024) * b64.tails) = b64.tails * 2 ^ (n + 1024 - 1) := unitsOf_start (by omega)
  have ho : 2 ^ n * one64 < b64.tails * 2 ^ (n + 1024 - 1) := by
    rw [tails_b64, ← pow_qmin64, ← Nat.pow_add, ← Nat.pow_add, qmin_b64]
    exact Nat.pow_lt_pow_right (by decide) (by omega)
  have hl : unitsOf b64 (x.toNat % 2 ^ 63) < unitsOf b64 ((n + 1024) * b64.tails) := by rw [hs]; exact Nat.lt_of_le_of_lt h ho
  have hb := unitsOf_lt_iff.mp hl
  rw [tails_b64] at hb
  unfold Mag64
  exact hb
theorem Ra.mag {i : Int} {D n : Nat} {x : UInt64} (h : Ra i D x) (hD : 0 < D) (hi : i.natAbs ≤ 2 ^ n * D) : Mag64 (n + 1024) x := by
  refine mag_of h.1 (Nat.le_of_mul_le_mul_right (c := D) ?_ hD)
  have e := congrArg Int.natAbs h.2
  rw [Int.natAbs_mul, Int.natAbs_mul, Int.natAbs_natCast, Int.natAbs_natCast] at e
  rw [e]
  exact al_mag hi
theorem ra_zero : Ra 0 1 (0 : UInt64) := ⟨⟨_, _, _, val64_zero⟩, by rw [show zv 0 = 0 from zval64_zero, Int.zero_mul, Int.zero_mul]⟩
theorem ra_one : Ra 1 1 (4607182418800017408 : UInt64) := Ra.lit (s := false) (c := 4503599627370496) (q := -52) (k := 0) (n := 52) (by decide +kernel) rfl (by decide) (by decide) (by decide)
theorem ra_two : Ra 2 1 (4611686018427387904 : UInt64) := Ra.lit (s := false) (c := 4503599627370496) (q := -51) (k := 0) (n := 51) (by decide +kernel) rfl (by decide) (by decide) (by decide)
end Jvm.OwnFP
namespace Jvm.Pilot.@@N@@
open Jvm Jvm.ClassFile Sem Op Lib Jvm.Free Jvm.Stand Jvm.LawKit Jvm.RoadKit Bundle Jvm.Pilot.@@N@@.Jvm.D
theorem d1_0 : decode prog_32_method_7_code 0 = .ok (.dload_n 0, 1) := by decide +kernel
theorem d1_1 : decode prog_32_method_7_code 1 = .ok (.dload_n 2, 1) := by decide +kernel
theorem d1_2 : decode prog_32_method_7_code 2 = .ok (.ldc2_w 115, 3) := by decide +kernel
theorem d1_5 : decode prog_32_method_7_code 5 = .ok (.dload 4, 2) := by decide +kernel
theorem d1_7 : decode prog_32_method_7_code 7 = .ok (.dmul, 1) := by decide +kernel
theorem d1_8 : decode prog_32_method_7_code 8 = .ok (.dload 6, 2) := by decide +kernel
theorem d1_10 : decode prog_32_method_7_code 10 = .ok (.dmul, 1) := by decide +kernel
theorem d1_11 : decode prog_32_method_7_code 11 = .ok (.dadd, 1) := by decide +kernel
theorem d1_12 : decode prog_32_method_7_code 12 = .ok (.dneg, 1) := by decide +kernel
theorem d1_13 : decode prog_32_method_7_code 13 = .ok (.dcmp .g, 1) := by decide +kernel
theorem d1_14 : decode prog_32_method_7_code 14 = .ok (.ifCond .ge 7, 3) := by decide +kernel
theorem d1_17 : decode prog_32_method_7_code 17 = .ok (.iconst 1, 1) := by decide +kernel
theorem d1_18 : decode prog_32_method_7_code 18 = .ok (.goto 4, 3) := by decide +kernel
theorem d1_22 : decode prog_32_method_7_code 22 = .ok (.ireturn, 1) := by decide +kernel
theorem pn_com_example_vast_mdp_vastmdp_engine_StrategyImprover : plainName "com/example/vast_mdp/vastmdp/engine/StrategyImprover" = true := by first | (simp [plainName, overriddenIn]; done) | decide +kernel
theorem ef_1_DDDD (m : MethodId) (x0 : UInt64) (x1 : UInt64) (x2 : UInt64) (x3 : UInt64) : entryFrame m #[(.double x0), (.double x1), (.double x2), (.double x3)] 8 = mkF m 0 #[.val (.double x0), .second, .val (.double x1), .second, .val (.double x2), .second, .val (.double x3), .second] [] := by first | (simp [entryFrame, mkF, argsToLocals, Value.category]; done) | rfl
def Q_rm1a (Z : State) (d0 : UInt64) (d1 : UInt64) (d2 : UInt64) (d3 : UInt64) (h0 : Heap) (n0 : Nat) (v : Option Value) (h : Heap) (L : List Loc) : Prop := v = some (.int (1 : Int32)) ∧ Fr n0 L ∧ h = h0
set_option maxRecDepth 65536 in
set_option maxHeartbeats 40000000 in
theorem rm1a (l : Launch) (Z : State) (a0 : Array Value) (hw : ∀ d ∈ tables_1, d.before a0 Z = true) (ws : List Jvm.Cond) (d0 : UInt64) (d1 : UInt64) (d2 : UInt64) (d3 : UInt64) (h0 : Heap) (n0 : Nat) (Z0 : n0 ≤ h0.size) (nn7 : Jvm.Free.Fl.NoNaN64 (FP.dmul (4611686018427387904 : UInt64) d2)) (nn10 : Jvm.Free.Fl.NoNaN64 (FP.dmul (FP.dmul (4611686018427387904 : UInt64) d2) d3)) (nn11 : Jvm.Free.Fl.NoNaN64 (FP.dadd d1 (FP.dmul (FP.dmul (4611686018427387904 : UInt64) d2) d3))) (hd13 : (cmpValue (FP.dcmp d0 (FP.dneg (FP.dadd d1 (FP.dmul (FP.dmul (4611686018427387904 : UInt64) d2) d3)))) .g) = (-1 : Int32)) :
    MetFree l (⟨"com/example/vast_mdp/vastmdp/engine/StrategyImprover", "isSaving", "(DDDD)Z"⟩ : MethodName) (head1 (Jvm.Cond.code (⟨"com/example/vast_mdp/vastmdp/engine/StrategyImprover", "isSaving", "(DDDD)Z"⟩ : MethodName) prog_32_method_7_code 8 (some .boolean) :: ws) ({ frames := 0, cells := 0, slots := 0, locals := 0 } : Room)) (fun a U => a = #[(.double d0), (.double d1), (.double d2), (.double d3)] ∧ Z.Warmed39 U.vm ∧ U.heap = h0) (fun _ _ _ _ _ => True) (fun _ U o U' => ∃ v L, o = .returned v ∧ Q_rm1a Z d0 d1 d2 d3 h0 n0 v U'.heap L ∧ FrameEnd U o U' L ({ frames := 0, cells := 0, slots := 0, locals := 0 } : Room).cells ({ frames := 0, cells := 0, slots := 0, locals := 0 } : Room).slots) := by
  refine MetFree.of_bodySF (plainFor_of_name pn_com_example_vast_mdp_vastmdp_engine_StrategyImprover) hisR ?_
  intro p e s m args below meth c s₁ Bd hml0 hP hK
  obtain ⟨rfl, hZ, hh⟩ := hP
  have hx := Bd.exec
  have hby := Bd.bytes
  have hml : c.maxLocals = 8 := hml0
  have hown : s.vm.findClass "com/example/vast_mdp/vastmdp/engine/StrategyImprover" = some m.cls := findClass_of_methodNamed Bd.named
  have hnm := (name_of_methodNamed Bd.named Bd.method).1
  have X0 : Stand p l e ({ frames := 0, cells := 0, slots := 0, locals := 0 } : Room) s m #[(.double d0), (.double d1), (.double d2), (.double d3)] below meth c s₁ [] 0 0 := Stand.of_body Bd
  have e0 : s₁.heap = h0 := by rw [← hh, Bd.state]; rfl
  have N0 := Fr.nil n0
  have pre0 : ∀ t, Steps p.tables e below (s₁.setTop (mkF m 0 #[.val (.double d0), .second, .val (.double d1), .second, .val (.double d2), .second, .val (.double d3), .second] [])) t → Steps p.tables e below (s₁.setTop (entryFrame m #[(.double d0), (.double d1), (.double d2), (.double d3)] 8)) t := fun t k => castTop (ef_1_DDDD m d0 d1 d2 d3) k
  obtain ⟨fs, hr, hrun, hended, hW, hsame⟩ := X0.leave (v := some (.int (1 : Int32))) (fun h => by rw [Bd.returns] at h; cases h)
  refine ⟨_, _, pre0 _ ?_, hrun, hended, _, _, rfl, ?_, ⟨_, rfl⟩, hW, hsame.mono (by decide) (by decide)⟩
  · show Steps p.tables e below (s₁.setTop (mkF m 0 #[.val (.double d0), .second, .val (.double d1), .second, .val (.double d2), .second, .val (.double d3), .second] [])) _
    refine XS.dloadN X0.here hx rfl (hb hby d1_0) rfl ?_
    show Steps p.tables e below (s₁.setTop (mkF m 1 #[.val (.double d0), .second, .val (.double d1), .second, .val (.double d2), .second, .val (.double d3), .second] [(.double d0)])) _
    refine XS.dloadN X0.here hx rfl (hb hby d1_1) rfl ?_
    show Steps p.tables e below (s₁.setTop (mkF m 2 #[.val (.double d0), .second, .val (.double d1), .second, .val (.double d2), .second, .val (.double d3), .second] [(.double d1), (.double d0)])) _
    refine X0.ldc2DoubleC hx hown (mvT hZ (hw _ (List.mem_of_getElem? (i := 7) rfl))) (g := (mkF m 2 #[.val (.double d0), .second, .val (.double d1), .second, .val (.double d2), .second, .val (.double d3), .second] [(.double d1), (.double d0)])) rfl (hb hby d1_2) _ ?_
    show Steps p.tables e below (s₁.setTop (mkF m 5 #[.val (.double d0), .second, .val (.double d1), .second, .val (.double d2), .second, .val (.double d3), .second] [(.double (4611686018427387904 : UInt64)), (.double d1), (.double d0)])) _
    refine XS.dload X0.here hx rfl (hb hby d1_5) rfl ?_
    show Steps p.tables e below (s₁.setTop (mkF m 7 #[.val (.double d0), .second, .val (.double d1), .second, .val (.double d2), .second, .val (.double d3), .second] [(.double d2), (.double (4611686018427387904 : UInt64)), (.double d1), (.double d0)])) _
    refine XS.dmulS X0.here hx rfl (hb hby d1_7) rfl nn7 (v := (FP.dmul (4611686018427387904 : UInt64) d2)) rfl ?_
    show Steps p.tables e below (s₁.setTop (mkF m 8 #[.val (.double d0), .second, .val (.double d1), .second, .val (.double d2), .second, .val (.double d3), .second] [(.double (FP.dmul (4611686018427387904 : UInt64) d2)), (.double d1), (.double d0)])) _
    refine XS.dload X0.here hx rfl (hb hby d1_8) rfl ?_
    show Steps p.tables e below (s₁.setTop (mkF m 10 #[.val (.double d0), .second, .val (.double d1), .second, .val (.double d2), .second, .val (.double d3), .second] [(.double d3), (.double (FP.dmul (4611686018427387904 : UInt64) d2)), (.double d1), (.double d0)])) _
    refine XS.dmulS X0.here hx rfl (hb hby d1_10) rfl nn10 (v := (FP.dmul (FP.dmul (4611686018427387904 : UInt64) d2) d3)) rfl ?_
    show Steps p.tables e below (s₁.setTop (mkF m 11 #[.val (.double d0), .second, .val (.double d1), .second, .val (.double d2), .second, .val (.double d3), .second] [(.double (FP.dmul (FP.dmul (4611686018427387904 : UInt64) d2) d3)), (.double d1), (.double d0)])) _
    refine XS.daddS X0.here hx rfl (hb hby d1_11) rfl nn11 (v := (FP.dadd d1 (FP.dmul (FP.dmul (4611686018427387904 : UInt64) d2) d3))) rfl ?_
    show Steps p.tables e below (s₁.setTop (mkF m 12 #[.val (.double d0), .second, .val (.double d1), .second, .val (.double d2), .second, .val (.double d3), .second] [(.double (FP.dadd d1 (FP.dmul (FP.dmul (4611686018427387904 : UInt64) d2) d3))), (.double d0)])) _
    refine XS.dnegS X0.here hx rfl (hb hby d1_12) rfl (v := (FP.dneg (FP.dadd d1 (FP.dmul (FP.dmul (4611686018427387904 : UInt64) d2) d3)))) rfl ?_
    show Steps p.tables e below (s₁.setTop (mkF m 13 #[.val (.double d0), .second, .val (.double d1), .second, .val (.double d2), .second, .val (.double d3), .second] [(.double (FP.dneg (FP.dadd d1 (FP.dmul (FP.dmul (4611686018427387904 : UInt64) d2) d3)))), (.double d0)])) _
    refine XS.dcmpS X0.here hx rfl (hb hby d1_13) rfl (v := (-1 : Int32)) hd13 ?_
    show Steps p.tables e below (s₁.setTop (mkF m 14 #[.val (.double d0), .second, .val (.double d1), .second, .val (.double d2), .second, .val (.double d3), .second] [(.int (-1 : Int32))])) _
    refine XS.ifNo X0.here hx rfl (hb hby d1_14) rfl ((if0 _ _).trans (tlt (by decide : (-1 : Int32) < (0 : Int32))).2.1) ?_
    show Steps p.tables e below (s₁.setTop (mkF m 17 #[.val (.double d0), .second, .val (.double d1), .second, .val (.double d2), .second, .val (.double d3), .second] [])) _
    refine XS.iconst X0.here hx rfl (hb hby d1_17) ?_
    show Steps p.tables e below (s₁.setTop (mkF m 18 #[.val (.double d0), .second, .val (.double d1), .second, .val (.double d2), .second, .val (.double d3), .second] [(.int (1 : Int32))])) _
    refine XS.goto X0.here hx rfl (pc0 := 18) (pc' := 22) rfl (hb hby d1_18) (by decide) (by decide) ?_
    show Steps p.tables e below (s₁.setTop (mkF m 22 #[.val (.double d0), .second, .val (.double d1), .second, .val (.double d2), .second, .val (.double d3), .second] [(.int (1 : Int32))])) _
    exact retN X0 hx (t := .boolean) Bd.returns (by simp) (hb hby d1_22) hr
  · show Q_rm1a Z d0 d1 d2 d3 h0 n0 _ s₁.heap _
    rw [e0]
    exact ⟨rfl, N0, rfl⟩
theorem d1_21 : decode prog_32_method_7_code 21 = .ok (.iconst 0, 1) := by decide +kernel
def Q_rm1b (Z : State) (d0 : UInt64) (d1 : UInt64) (d2 : UInt64) (d3 : UInt64) (h0 : Heap) (n0 : Nat) (v : Option Value) (h : Heap) (L : List Loc) : Prop := v = some (.int (0 : Int32)) ∧ Fr n0 L ∧ h = h0
set_option maxRecDepth 65536 in
set_option maxHeartbeats 40000000 in
theorem rm1b (l : Launch) (Z : State) (a0 : Array Value) (hw : ∀ d ∈ tables_1, d.before a0 Z = true) (ws : List Jvm.Cond) (d0 : UInt64) (d1 : UInt64) (d2 : UInt64) (d3 : UInt64) (h0 : Heap) (n0 : Nat) (Z0 : n0 ≤ h0.size) (nn7 : Jvm.Free.Fl.NoNaN64 (FP.dmul (4611686018427387904 : UInt64) d2)) (nn10 : Jvm.Free.Fl.NoNaN64 (FP.dmul (FP.dmul (4611686018427387904 : UInt64) d2) d3)) (nn11 : Jvm.Free.Fl.NoNaN64 (FP.dadd d1 (FP.dmul (FP.dmul (4611686018427387904 : UInt64) d2) d3))) (hd13 : (cmpValue (FP.dcmp d0 (FP.dneg (FP.dadd d1 (FP.dmul (FP.dmul (4611686018427387904 : UInt64) d2) d3)))) .g) = (0 : Int32)) :
    MetFree l (⟨"com/example/vast_mdp/vastmdp/engine/StrategyImprover", "isSaving", "(DDDD)Z"⟩ : MethodName) (head1 (Jvm.Cond.code (⟨"com/example/vast_mdp/vastmdp/engine/StrategyImprover", "isSaving", "(DDDD)Z"⟩ : MethodName) prog_32_method_7_code 8 (some .boolean) :: ws) ({ frames := 0, cells := 0, slots := 0, locals := 0 } : Room)) (fun a U => a = #[(.double d0), (.double d1), (.double d2), (.double d3)] ∧ Z.Warmed39 U.vm ∧ U.heap = h0) (fun _ _ _ _ _ => True) (fun _ U o U' => ∃ v L, o = .returned v ∧ Q_rm1b Z d0 d1 d2 d3 h0 n0 v U'.heap L ∧ FrameEnd U o U' L ({ frames := 0, cells := 0, slots := 0, locals := 0 } : Room).cells ({ frames := 0, cells := 0, slots := 0, locals := 0 } : Room).slots) := by
  refine MetFree.of_bodySF (plainFor_of_name pn_com_example_vast_mdp_vastmdp_engine_StrategyImprover) hisR ?_
  intro p e s m args below meth c s₁ Bd hml0 hP hK
  obtain ⟨rfl, hZ, hh⟩ := hP
  have hx := Bd.exec
  have hby := Bd.bytes
  have hml : c.maxLocals = 8 := hml0
  have hown : s.vm.findClass "com/example/vast_mdp/vastmdp/engine/StrategyImprover" = some m.cls := findClass_of_methodNamed Bd.named
  have hnm := (name_of_methodNamed Bd.named Bd.method).1
  have X0 : Stand p l e ({ frames := 0, cells := 0, slots := 0, locals := 0 } : Room) s m #[(.double d0), (.double d1), (.double d2), (.double d3)] below meth c s₁ [] 0 0 := Stand.of_body Bd
  have e0 : s₁.heap = h0 := by rw [← hh, Bd.state]; rfl
  have N0 := Fr.nil n0
  have pre0 : ∀ t, Steps p.tables e below (s₁.setTop (mkF m 0 #[.val (.double d0), .second, .val (.double d1), .second, .val (.double d2), .second, .val (.double d3), .second] [])) t → Steps p.tables e below (s₁.setTop (entryFrame m #[(.double d0), (.double d1), (.double d2), (.double d3)] 8)) t := fun t k => castTop (ef_1_DDDD m d0 d1 d2 d3) k
  obtain ⟨fs, hr, hrun, hended, hW, hsame⟩ := X0.leave (v := some (.int (0 : Int32))) (fun h => by rw [Bd.returns] at h; cases h)
  refine ⟨_, _, pre0 _ ?_, hrun, hended, _, _, rfl, ?_, ⟨_, rfl⟩, hW, hsame.mono (by decide) (by decide)⟩
  · show Steps p.tables e below (s₁.setTop (mkF m 0 #[.val (.double d0), .second, .val (.double d1), .second, .val (.double d2), .second, .val (.double d3), .second] [])) _
    refine XS.dloadN X0.here hx rfl (hb hby d1_0) rfl ?_
    show Steps p.tables e below (s₁.setTop (mkF m 1 #[.val (.double d0), .second, .val (.double d1), .second, .val (.double d2), .second, .val (.double d3), .second] [(.double d0)])) _
    refine XS.dloadN X0.here hx rfl (hb hby d1_1) rfl ?_
    show Steps p.tables e below (s₁.setTop (mkF m 2 #[.val (.double d0), .second, .val (.double d1), .second, .val (.double d2), .second, .val (.double d3), .second] [(.double d1), (.double d0)])) _
    refine X0.ldc2DoubleC hx hown (mvT hZ (hw _ (List.mem_of_getElem? (i := 7) rfl))) (g := (mkF m 2 #[.val (.double d0), .second, .val (.double d1), .second, .val (.double d2), .second, .val (.double d3), .second] [(.double d1), (.double d0)])) rfl (hb hby d1_2) _ ?_
    show Steps p.tables e below (s₁.setTop (mkF m 5 #[.val (.double d0), .second, .val (.double d1), .second, .val (.double d2), .second, .val (.double d3), .second] [(.double (4611686018427387904 : UInt64)), (.double d1), (.double d0)])) _
    refine XS.dload X0.here hx rfl (hb hby d1_5) rfl ?_
    show Steps p.tables e below (s₁.setTop (mkF m 7 #[.val (.double d0), .second, .val (.double d1), .second, .val (.double d2), .second, .val (.double d3), .second] [(.double d2), (.double (4611686018427387904 : UInt64)), (.double d1), (.double d0)])) _
    refine XS.dmulS X0.here hx rfl (hb hby d1_7) rfl nn7 (v := (FP.dmul (4611686018427387904 : UInt64) d2)) rfl ?_
    show Steps p.tables e below (s₁.setTop (mkF m 8 #[.val (.double d0), .second, .val (.double d1), .second, .val (.double d2), .second, .val (.double d3), .second] [(.double (FP.dmul (4611686018427387904 : UInt64) d2)), (.double d1), (.double d0)])) _
    refine XS.dload X0.here hx rfl (hb hby d1_8) rfl ?_
    show Steps p.tables e below (s₁.setTop (mkF m 10 #[.val (.double d0), .second, .val (.double d1), .second, .val (.double d2), .second, .val (.double d3), .second] [(.double d3), (.double (FP.dmul (4611686018427387904 : UInt64) d2)), (.double d1), (.double d0)])) _
    refine XS.dmulS X0.here hx rfl (hb hby d1_10) rfl nn10 (v := (FP.dmul (FP.dmul (4611686018427387904 : UInt64) d2) d3)) rfl ?_
    show Steps p.tables e below (s₁.setTop (mkF m 11 #[.val (.double d0), .second, .val (.double d1), .second, .val (.double d2), .second, .val (.double d3), .second] [(.double (FP.dmul (FP.dmul (4611686018427387904 : UInt64) d2) d3)), (.double d1), (.double d0)])) _
    refine XS.daddS X0.here hx rfl (hb hby d1_11) rfl nn11 (v := (FP.dadd d1 (FP.dmul (FP.dmul (4611686018427387904 : UInt64) d2) d3))) rfl ?_
    show Steps p.tables e below (s₁.setTop (mkF m 12 #[.val (.double d0), .second, .val (.double d1), .second, .val (.double d2), .second, .val (.double d3), .second] [(.double (FP.dadd d1 (FP.dmul (FP.dmul (4611686018427387904 : UInt64) d2) d3))), (.double d0)])) _
    refine XS.dnegS X0.here hx rfl (hb hby d1_12) rfl (v := (FP.dneg (FP.dadd d1 (FP.dmul (FP.dmul (4611686018427387904 : UInt64) d2) d3)))) rfl ?_
    show Steps p.tables e below (s₁.setTop (mkF m 13 #[.val (.double d0), .second, .val (.double d1), .second, .val (.double d2), .second, .val (.double d3), .second] [(.double (FP.dneg (FP.dadd d1 (FP.dmul (FP.dmul (4611686018427387904 : UInt64) d2) d3)))), (.double d0)])) _
    refine XS.dcmpS X0.here hx rfl (hb hby d1_13) rfl (v := (0 : Int32)) hd13 ?_
    show Steps p.tables e below (s₁.setTop (mkF m 14 #[.val (.double d0), .second, .val (.double d1), .second, .val (.double d2), .second, .val (.double d3), .second] [(.int (0 : Int32))])) _
    refine XS.ifYes X0.here hx rfl (pc0 := 14) (pc' := 21) rfl (hb hby d1_14) rfl ((if0 _ _).trans (flt (by decide : ¬ ((0 : Int32) < (0 : Int32)))).2.1) (by decide) (by decide) ?_
    show Steps p.tables e below (s₁.setTop (mkF m 21 #[.val (.double d0), .second, .val (.double d1), .second, .val (.double d2), .second, .val (.double d3), .second] [])) _
    refine XS.iconst X0.here hx rfl (hb hby d1_21) ?_
    show Steps p.tables e below (s₁.setTop (mkF m 22 #[.val (.double d0), .second, .val (.double d1), .second, .val (.double d2), .second, .val (.double d3), .second] [(.int (0 : Int32))])) _
    exact retN X0 hx (t := .boolean) Bd.returns (by simp) (hb hby d1_22) hr
  · show Q_rm1b Z d0 d1 d2 d3 h0 n0 _ s₁.heap _
    rw [e0]
    exact ⟨rfl, N0, rfl⟩
def Q_rm1c (Z : State) (d0 : UInt64) (d1 : UInt64) (d2 : UInt64) (d3 : UInt64) (h0 : Heap) (n0 : Nat) (v : Option Value) (h : Heap) (L : List Loc) : Prop := v = some (.int (0 : Int32)) ∧ Fr n0 L ∧ h = h0
set_option maxRecDepth 65536 in
set_option maxHeartbeats 40000000 in
theorem rm1c (l : Launch) (Z : State) (a0 : Array Value) (hw : ∀ d ∈ tables_1, d.before a0 Z = true) (ws : List Jvm.Cond) (d0 : UInt64) (d1 : UInt64) (d2 : UInt64) (d3 : UInt64) (h0 : Heap) (n0 : Nat) (Z0 : n0 ≤ h0.size) (nn7 : Jvm.Free.Fl.NoNaN64 (FP.dmul (4611686018427387904 : UInt64) d2)) (nn10 : Jvm.Free.Fl.NoNaN64 (FP.dmul (FP.dmul (4611686018427387904 : UInt64) d2) d3)) (nn11 : Jvm.Free.Fl.NoNaN64 (FP.dadd d1 (FP.dmul (FP.dmul (4611686018427387904 : UInt64) d2) d3))) (hd13 : (cmpValue (FP.dcmp d0 (FP.dneg (FP.dadd d1 (FP.dmul (FP.dmul (4611686018427387904 : UInt64) d2) d3)))) .g) = (1 : Int32)) :
    MetFree l (⟨"com/example/vast_mdp/vastmdp/engine/StrategyImprover", "isSaving", "(DDDD)Z"⟩ : MethodName) (head1 (Jvm.Cond.code (⟨"com/example/vast_mdp/vastmdp/engine/StrategyImprover", "isSaving", "(DDDD)Z"⟩ : MethodName) prog_32_method_7_code 8 (some .boolean) :: ws) ({ frames := 0, cells := 0, slots := 0, locals := 0 } : Room)) (fun a U => a = #[(.double d0), (.double d1), (.double d2), (.double d3)] ∧ Z.Warmed39 U.vm ∧ U.heap = h0) (fun _ _ _ _ _ => True) (fun _ U o U' => ∃ v L, o = .returned v ∧ Q_rm1c Z d0 d1 d2 d3 h0 n0 v U'.heap L ∧ FrameEnd U o U' L ({ frames := 0, cells := 0, slots := 0, locals := 0 } : Room).cells ({ frames := 0, cells := 0, slots := 0, locals := 0 } : Room).slots) := by
  refine MetFree.of_bodySF (plainFor_of_name pn_com_example_vast_mdp_vastmdp_engine_StrategyImprover) hisR ?_
  intro p e s m args below meth c s₁ Bd hml0 hP hK
  obtain ⟨rfl, hZ, hh⟩ := hP
  have hx := Bd.exec
  have hby := Bd.bytes
  have hml : c.maxLocals = 8 := hml0
  have hown : s.vm.findClass "com/example/vast_mdp/vastmdp/engine/StrategyImprover" = some m.cls := findClass_of_methodNamed Bd.named
  have hnm := (name_of_methodNamed Bd.named Bd.method).1
  have X0 : Stand p l e ({ frames := 0, cells := 0, slots := 0, locals := 0 } : Room) s m #[(.double d0), (.double d1), (.double d2), (.double d3)] below meth c s₁ [] 0 0 := Stand.of_body Bd
  have e0 : s₁.heap = h0 := by rw [← hh, Bd.state]; rfl
  have N0 := Fr.nil n0
  have pre0 : ∀ t, Steps p.tables e below (s₁.setTop (mkF m 0 #[.val (.double d0), .second, .val (.double d1), .second, .val (.double d2), .second, .val (.double d3), .second] [])) t → Steps p.tables e below (s₁.setTop (entryFrame m #[(.double d0), (.double d1), (.double d2), (.double d3)] 8)) t := fun t k => castTop (ef_1_DDDD m d0 d1 d2 d3) k
  obtain ⟨fs, hr, hrun, hended, hW, hsame⟩ := X0.leave (v := some (.int (0 : Int32))) (fun h => by rw [Bd.returns] at h; cases h)
  refine ⟨_, _, pre0 _ ?_, hrun, hended, _, _, rfl, ?_, ⟨_, rfl⟩, hW, hsame.mono (by decide) (by decide)⟩
  · show Steps p.tables e below (s₁.setTop (mkF m 0 #[.val (.double d0), .second, .val (.double d1), .second, .val (.double d2), .second, .val (.double d3), .second] [])) _
    refine XS.dloadN X0.here hx rfl (hb hby d1_0) rfl ?_
    show Steps p.tables e below (s₁.setTop (mkF m 1 #[.val (.double d0), .second, .val (.double d1), .second, .val (.double d2), .second, .val (.double d3), .second] [(.double d0)])) _
    refine XS.dloadN X0.here hx rfl (hb hby d1_1) rfl ?_
    show Steps p.tables e below (s₁.setTop (mkF m 2 #[.val (.double d0), .second, .val (.double d1), .second, .val (.double d2), .second, .val (.double d3), .second] [(.double d1), (.double d0)])) _
    refine X0.ldc2DoubleC hx hown (mvT hZ (hw _ (List.mem_of_getElem? (i := 7) rfl))) (g := (mkF m 2 #[.val (.double d0), .second, .val (.double d1), .second, .val (.double d2), .second, .val (.double d3), .second] [(.double d1), (.double d0)])) rfl (hb hby d1_2) _ ?_
    show Steps p.tables e below (s₁.setTop (mkF m 5 #[.val (.double d0), .second, .val (.double d1), .second, .val (.double d2), .second, .val (.double d3), .second] [(.double (4611686018427387904 : UInt64)), (.double d1), (.double d0)])) _
    refine XS.dload X0.here hx rfl (hb hby d1_5) rfl ?_
    show Steps p.tables e below (s₁.setTop (mkF m 7 #[.val (.double d0), .second, .val (.double d1), .second, .val (.double d2), .second, .val (.double d3), .second] [(.double d2), (.double (4611686018427387904 : UInt64)), (.double d1), (.double d0)])) _
    refine XS.dmulS X0.here hx rfl (hb hby d1_7) rfl nn7 (v := (FP.dmul (4611686018427387904 : UInt64) d2)) rfl ?_
    show Steps p.tables e below (s₁.setTop (mkF m 8 #[.val (.double d0), .second, .val (.double d1), .second, .val (.double d2), .second, .val (.double d3), .second] [(.double (FP.dmul (4611686018427387904 : UInt64) d2)), (.double d1), (.double d0)])) _
    refine XS.dload X0.here hx rfl (hb hby d1_8) rfl ?_
    show Steps p.tables e below (s₁.setTop (mkF m 10 #[.val (.double d0), .second, .val (.double d1), .second, .val (.double d2), .second, .val (.double d3), .second] [(.double d3), (.double (FP.dmul (4611686018427387904 : UInt64) d2)), (.double d1), (.double d0)])) _
    refine XS.dmulS X0.here hx rfl (hb hby d1_10) rfl nn10 (v := (FP.dmul (FP.dmul (4611686018427387904 : UInt64) d2) d3)) rfl ?_
    show Steps p.tables e below (s₁.setTop (mkF m 11 #[.val (.double d0), .second, .val (.double d1), .second, .val (.double d2), .second, .val (.double d3), .second] [(.double (FP.dmul (FP.dmul (4611686018427387904 : UInt64) d2) d3)), (.double d1), (.double d0)])) _
    refine XS.daddS X0.here hx rfl (hb hby d1_11) rfl nn11 (v := (FP.dadd d1 (FP.dmul (FP.dmul (4611686018427387904 : UInt64) d2) d3))) rfl ?_
    show Steps p.tables e below (s₁.setTop (mkF m 12 #[.val (.double d0), .second, .val (.double d1), .second, .val (.double d2), .second, .val (.double d3), .second] [(.double (FP.dadd d1 (FP.dmul (FP.dmul (4611686018427387904 : UInt64) d2) d3))), (.double d0)])) _
    refine XS.dnegS X0.here hx rfl (hb hby d1_12) rfl (v := (FP.dneg (FP.dadd d1 (FP.dmul (FP.dmul (4611686018427387904 : UInt64) d2) d3)))) rfl ?_
    show Steps p.tables e below (s₁.setTop (mkF m 13 #[.val (.double d0), .second, .val (.double d1), .second, .val (.double d2), .second, .val (.double d3), .second] [(.double (FP.dneg (FP.dadd d1 (FP.dmul (FP.dmul (4611686018427387904 : UInt64) d2) d3)))), (.double d0)])) _
    refine XS.dcmpS X0.here hx rfl (hb hby d1_13) rfl (v := (1 : Int32)) hd13 ?_
    show Steps p.tables e below (s₁.setTop (mkF m 14 #[.val (.double d0), .second, .val (.double d1), .second, .val (.double d2), .second, .val (.double d3), .second] [(.int (1 : Int32))])) _
    refine XS.ifYes X0.here hx rfl (pc0 := 14) (pc' := 21) rfl (hb hby d1_14) rfl ((if0 _ _).trans (flt (by decide : ¬ ((1 : Int32) < (0 : Int32)))).2.1) (by decide) (by decide) ?_
    show Steps p.tables e below (s₁.setTop (mkF m 21 #[.val (.double d0), .second, .val (.double d1), .second, .val (.double d2), .second, .val (.double d3), .second] [])) _
    refine XS.iconst X0.here hx rfl (hb hby d1_21) ?_
    show Steps p.tables e below (s₁.setTop (mkF m 22 #[.val (.double d0), .second, .val (.double d1), .second, .val (.double d2), .second, .val (.double d3), .second] [(.int (0 : Int32))])) _
    exact retN X0 hx (t := .boolean) Bd.returns (by simp) (hb hby d1_22) hr
  · show Q_rm1c Z d0 d1 d2 d3 h0 n0 _ s₁.heap _
    rw [e0]
    exact ⟨rfl, N0, rfl⟩
theorem pd_0 : parseMethodDescriptor "(DDDD)Z" = some ⟨[.double, .double, .double, .double], some .boolean⟩ := by decide +kernel
theorem pn_com_example_vast_mdp_vastmdp_engine_StrategyImproverIsSavingPinLaw : plainName "com/example/vast_mdp/vastmdp/engine/StrategyImproverIsSavingPinLaw" = true := by first | (simp [plainName, overriddenIn]; done) | decide +kernel
theorem ef_0_IIII (m : MethodId) (x0 : Int32) (x1 : Int32) (x2 : Int32) (x3 : Int32) : entryFrame m #[(.int x0), (.int x1), (.int x2), (.int x3)] maxLocals = mkF m 0 #[.val (.int x0), .val (.int x1), .val (.int x2), .val (.int x3), .unset, .unset, .unset, .unset, .unset, .unset, .unset, .unset, .unset, .unset, .unset, .unset, .unset, .unset, .unset, .unset, .unset, .unset] [] := by first | (simp [entryFrame, mkF, argsToLocals, Value.category, maxLocals]; done) | rfl
def Q0 (n0 : Nat) (v : Option Value) (h : Heap) (L : List Loc) : Prop := v = some (.int (1 : Int32)) ∧ Fr n0 L
set_option maxRecDepth 65536 in
set_option maxHeartbeats 40000000 in
theorem rm0a (l : Launch) (Z : State) (a0 : Array Value) (hw : ∀ d ∈ tables_1, d.before a0 Z = true) (ws : List Jvm.Cond) (p0 : Int32) (p1 : Int32) (p2 : Int32) (p3 : Int32) (h0 : Heap) (n0 : Nat) (Z0 : n0 ≤ h0.size) (nn36 : Jvm.Free.Fl.NoNaN64 (FP.ddiv (FP.l2d ((p2 &&& (65535 : Int32)).toInt64)) (4742290407621132288 : UInt64))) (nn7_52 : Jvm.Free.Fl.NoNaN64 (FP.dmul (4611686018427387904 : UInt64) (FP.ddiv (FP.l2d ((p2 &&& (65535 : Int32)).toInt64)) (4742290407621132288 : UInt64)))) (nn10_52 : Jvm.Free.Fl.NoNaN64 (FP.dmul (FP.dmul (4611686018427387904 : UInt64) (FP.ddiv (FP.l2d ((p2 &&& (65535 : Int32)).toInt64)) (4742290407621132288 : UInt64))) (FP.l2d ((p3 &&& (65535 : Int32)).toInt64)))) (nn11_52 : Jvm.Free.Fl.NoNaN64 (FP.dadd (FP.l2d ((p1 &&& (1048575 : Int32)).toInt64)) (FP.dmul (FP.dmul (4611686018427387904 : UInt64) (FP.ddiv (FP.l2d ((p2 &&& (65535 : Int32)).toInt64)) (4742290407621132288 : UInt64))) (FP.l2d ((p3 &&& (65535 : Int32)).toInt64))))) (hd13_52 : (cmpValue (FP.dcmp (FP.i2d p0) (FP.dneg (FP.dadd (FP.l2d ((p1 &&& (1048575 : Int32)).toInt64)) (FP.dmul (FP.dmul (4611686018427387904 : UInt64) (FP.ddiv (FP.l2d ((p2 &&& (65535 : Int32)).toInt64)) (4742290407621132288 : UInt64))) (FP.l2d ((p3 &&& (65535 : Int32)).toInt64)))))) .g) = (-1 : Int32)) (hc84 : (lcmpW ((p0.toInt64) * (1073741824 : Int64)) (-((((p1 &&& (1048575 : Int32)).toInt64) * (1073741824 : Int64)) + (((2 : Int64) * ((p2 &&& (65535 : Int32)).toInt64)) * ((p3 &&& (65535 : Int32)).toInt64))))) < (0 : Int32)) :
    MetFree l x (head1 (Jvm.Cond.code x code maxLocals ret :: ws) room_1) (fun a U => a = #[(.int p0), (.int p1), (.int p2), (.int p3)] ∧ Z.Warmed39 U.vm ∧ U.heap = h0) (fun _ _ _ _ _ => True) (fun _ U o U' => ∃ v L, o = .returned v ∧ Q0 n0 v U'.heap L ∧ FrameEnd U o U' L room_1.cells room_1.slots) := by
  refine MetFree.of_bodySF (plainFor_of_name pn_com_example_vast_mdp_vastmdp_engine_StrategyImproverIsSavingPinLaw) hisR ?_
  intro p e s m args below meth c s₁ Bd hml0 hP hK
  obtain ⟨rfl, hZ, hh⟩ := hP
  have hx := Bd.exec
  have hby := Bd.bytes
  have hml : c.maxLocals = 22 := hml0
  have hown : s.vm.findClass "com/example/vast_mdp/vastmdp/engine/StrategyImproverIsSavingPinLaw" = some m.cls := findClass_of_methodNamed Bd.named
  have hnm := (name_of_methodNamed Bd.named Bd.method).1
  have X0 : Stand p l e room_1 s m #[(.int p0), (.int p1), (.int p2), (.int p3)] below meth c s₁ [] 0 0 := Stand.of_body Bd
  have e0 : s₁.heap = h0 := by rw [← hh, Bd.state]; rfl
  have N0 := Fr.nil n0
  have pre0 : ∀ t, Steps p.tables e below (s₁.setTop (mkF m 0 #[.val (.int p0), .val (.int p1), .val (.int p2), .val (.int p3), .unset, .unset, .unset, .unset, .unset, .unset, .unset, .unset, .unset, .unset, .unset, .unset, .unset, .unset, .unset, .unset, .unset, .unset] [])) t → Steps p.tables e below (s₁.setTop (entryFrame m #[(.int p0), (.int p1), (.int p2), (.int p3)] maxLocals)) t := fun t k => castTop (ef_0_IIII m p0 p1 p2 p3) k
  obtain ⟨_, _, ⟨T1, L1, k1, n1⟩, -, X1, ⟨Lc1, hQ1, l1, y1, z1⟩, st1⟩ := Jvm.LawKit.callS X0 hx (y := (⟨"com/example/vast_mdp/vastmdp/engine/StrategyImprover", "isSaving", "(DDDD)Z"⟩ : MethodName)) hown (mvT hZ (hw _ (List.mem_of_getElem? (i := 3) rfl))) (mvT hZ (hw _ (List.mem_of_getElem? (i := 4) rfl))) (mvT hZ (hw _ (List.mem_of_getElem? (i := 5) rfl))) (mvT hZ (hw _ (List.mem_of_getElem? (i := 6) rfl))) (by decide) (backOf (W := 0) (rm1a l Z a0 hw [] (FP.i2d p0) (FP.l2d ((p1 &&& (1048575 : Int32)).toInt64)) (FP.ddiv (FP.l2d ((p2 &&& (65535 : Int32)).toInt64)) (4742290407621132288 : UInt64)) (FP.l2d ((p3 &&& (65535 : Int32)).toInt64)) h0 n0 Z0 nn7_52 nn10_52 nn11_52 hd13_52) hZ (hw _ (List.mem_of_getElem? (i := 6) rfl)) (hw _ (List.mem_of_getElem? (i := 5) rfl)) (by decide) (by decide)) (g := (mkF m 52 #[.val (.int p0), .val (.int p1), .val (.int p2), .val (.int p3), .val (.long ((p1 &&& (1048575 : Int32)).toInt64)), .second, .val (.long ((p2 &&& (65535 : Int32)).toInt64)), .second, .val (.long ((p3 &&& (65535 : Int32)).toInt64)), .second, .val (.double (FP.i2d p0)), .second, .val (.double (FP.l2d ((p1 &&& (1048575 : Int32)).toInt64))), .second, .val (.double (FP.ddiv (FP.l2d ((p2 &&& (65535 : Int32)).toInt64)) (4742290407621132288 : UInt64))), .second, .val (.double (FP.l2d ((p3 &&& (65535 : Int32)).toInt64))), .second, .unset, .unset, .unset, .unset] [(.double (FP.l2d ((p3 &&& (65535 : Int32)).toInt64))), (.double (FP.ddiv (FP.l2d ((p2 &&& (65535 : Int32)).toInt64)) (4742290407621132288 : UInt64))), (.double (FP.l2d ((p1 &&& (1048575 : Int32)).toInt64))), (.double (FP.i2d p0))])) rfl (by rw [hml]; rfl) (argsL := [(.double (FP.i2d p0)), (.double (FP.l2d ((p1 &&& (1048575 : Int32)).toInt64))), (.double (FP.ddiv (FP.l2d ((p2 &&& (65535 : Int32)).toInt64)) (4742290407621132288 : UInt64))), (.double (FP.l2d ((p3 &&& (65535 : Int32)).toInt64)))]) (rest := []) (lenOf pd_0 rfl) rfl (by show 2 * 0 + _ ≤ _; exact Nat.le_of_eq rfl) (hb hby at_52) (fun _ _ => ⟨rfl, e0, (by decide : 0 + 0 ≤ _), (by decide : 0 + 0 ≤ _)⟩)
  dsimp only [Pt.U, Pt.locs, Pt.cells, Pt.slots] at X1 l1 y1 z1 st1 hQ1
  subst l1 y1 z1
  obtain ⟨rfl, N1q, eh1⟩ := hQ1
  have N1 := Fr.app N0 N1q
  have e1 : T1.heap = h0 := eh1
  obtain ⟨fs, hr, hrun, hended, hW, hsame⟩ := X1.leave (v := some (.int (1 : Int32))) (fun h => by rw [Bd.returns] at h; cases h)
  refine ⟨_, _, pre0 _ ?_, hrun, hended, _, _, rfl, ?_, ⟨_, rfl⟩, hW, hsame.mono (by decide) (by decide)⟩
  · show Steps p.tables e below (s₁.setTop (mkF m 0 #[.val (.int p0), .val (.int p1), .val (.int p2), .val (.int p3), .unset, .unset, .unset, .unset, .unset, .unset, .unset, .unset, .unset, .unset, .unset, .unset, .unset, .unset, .unset, .unset, .unset, .unset] [])) _
    refine XS.iloadN X0.here hx rfl (hb hby at_0) rfl ?_
    show Steps p.tables e below (s₁.setTop (mkF m 1 #[.val (.int p0), .val (.int p1), .val (.int p2), .val (.int p3), .unset, .unset, .unset, .unset, .unset, .unset, .unset, .unset, .unset, .unset, .unset, .unset, .unset, .unset, .unset, .unset, .unset, .unset] [(.int p1)])) _
    refine X0.ldcInt hx hown (mvT hZ (hw _ (List.mem_of_getElem? (i := 0) rfl))) (g := (mkF m 1 #[.val (.int p0), .val (.int p1), .val (.int p2), .val (.int p3), .unset, .unset, .unset, .unset, .unset, .unset, .unset, .unset, .unset, .unset, .unset, .unset, .unset, .unset, .unset, .unset, .unset, .unset] [(.int p1)])) rfl (hb hby at_1) _ ?_
    show Steps p.tables e below (s₁.setTop (mkF m 3 #[.val (.int p0), .val (.int p1), .val (.int p2), .val (.int p3), .unset, .unset, .unset, .unset, .unset, .unset, .unset, .unset, .unset, .unset, .unset, .unset, .unset, .unset, .unset, .unset, .unset, .unset] [(.int (1048575 : Int32)), (.int p1)])) _
    refine XS.iand X0.here hx rfl (hb hby at_3) rfl ?_
    show Steps p.tables e below (s₁.setTop (mkF m 4 #[.val (.int p0), .val (.int p1), .val (.int p2), .val (.int p3), .unset, .unset, .unset, .unset, .unset, .unset, .unset, .unset, .unset, .unset, .unset, .unset, .unset, .unset, .unset, .unset, .unset, .unset] [(.int (p1 &&& (1048575 : Int32)))])) _
    refine XS.i2l X0.here hx rfl (hb hby at_4) rfl ?_
    show Steps p.tables e below (s₁.setTop (mkF m 5 #[.val (.int p0), .val (.int p1), .val (.int p2), .val (.int p3), .unset, .unset, .unset, .unset, .unset, .unset, .unset, .unset, .unset, .unset, .unset, .unset, .unset, .unset, .unset, .unset, .unset, .unset] [(.long ((p1 &&& (1048575 : Int32)).toInt64))])) _
    refine XS.lstore X0.here hx rfl (hb hby at_5) rfl (l' := #[.val (.int p0), .val (.int p1), .val (.int p2), .val (.int p3), .val (.long ((p1 &&& (1048575 : Int32)).toInt64)), .second, .unset, .unset, .unset, .unset, .unset, .unset, .unset, .unset, .unset, .unset, .unset, .unset, .unset, .unset, .unset, .unset]) rfl ?_
    show Steps p.tables e below (s₁.setTop (mkF m 7 #[.val (.int p0), .val (.int p1), .val (.int p2), .val (.int p3), .val (.long ((p1 &&& (1048575 : Int32)).toInt64)), .second, .unset, .unset, .unset, .unset, .unset, .unset, .unset, .unset, .unset, .unset, .unset, .unset, .unset, .unset, .unset, .unset] [])) _
    refine XS.iloadN X0.here hx rfl (hb hby at_7) rfl ?_
    show Steps p.tables e below (s₁.setTop (mkF m 8 #[.val (.int p0), .val (.int p1), .val (.int p2), .val (.int p3), .val (.long ((p1 &&& (1048575 : Int32)).toInt64)), .second, .unset, .unset, .unset, .unset, .unset, .unset, .unset, .unset, .unset, .unset, .unset, .unset, .unset, .unset, .unset, .unset] [(.int p2)])) _
    refine X0.ldcInt hx hown (mvT hZ (hw _ (List.mem_of_getElem? (i := 1) rfl))) (g := (mkF m 8 #[.val (.int p0), .val (.int p1), .val (.int p2), .val (.int p3), .val (.long ((p1 &&& (1048575 : Int32)).toInt64)), .second, .unset, .unset, .unset, .unset, .unset, .unset, .unset, .unset, .unset, .unset, .unset, .unset, .unset, .unset, .unset, .unset] [(.int p2)])) rfl (hb hby at_8) _ ?_
    show Steps p.tables e below (s₁.setTop (mkF m 10 #[.val (.int p0), .val (.int p1), .val (.int p2), .val (.int p3), .val (.long ((p1 &&& (1048575 : Int32)).toInt64)), .second, .unset, .unset, .unset, .unset, .unset, .unset, .unset, .unset, .unset, .unset, .unset, .unset, .unset, .unset, .unset, .unset] [(.int (65535 : Int32)), (.int p2)])) _
    refine XS.iand X0.here hx rfl (hb hby at_10) rfl ?_
    show Steps p.tables e below (s₁.setTop (mkF m 11 #[.val (.int p0), .val (.int p1), .val (.int p2), .val (.int p3), .val (.long ((p1 &&& (1048575 : Int32)).toInt64)), .second, .unset, .unset, .unset, .unset, .unset, .unset, .unset, .unset, .unset, .unset, .unset, .unset, .unset, .unset, .unset, .unset] [(.int (p2 &&& (65535 : Int32)))])) _
    refine XS.i2l X0.here hx rfl (hb hby at_11) rfl ?_
    show Steps p.tables e below (s₁.setTop (mkF m 12 #[.val (.int p0), .val (.int p1), .val (.int p2), .val (.int p3), .val (.long ((p1 &&& (1048575 : Int32)).toInt64)), .second, .unset, .unset, .unset, .unset, .unset, .unset, .unset, .unset, .unset, .unset, .unset, .unset, .unset, .unset, .unset, .unset] [(.long ((p2 &&& (65535 : Int32)).toInt64))])) _
    refine XS.lstore X0.here hx rfl (hb hby at_12) rfl (l' := #[.val (.int p0), .val (.int p1), .val (.int p2), .val (.int p3), .val (.long ((p1 &&& (1048575 : Int32)).toInt64)), .second, .val (.long ((p2 &&& (65535 : Int32)).toInt64)), .second, .unset, .unset, .unset, .unset, .unset, .unset, .unset, .unset, .unset, .unset, .unset, .unset, .unset, .unset]) rfl ?_
    show Steps p.tables e below (s₁.setTop (mkF m 14 #[.val (.int p0), .val (.int p1), .val (.int p2), .val (.int p3), .val (.long ((p1 &&& (1048575 : Int32)).toInt64)), .second, .val (.long ((p2 &&& (65535 : Int32)).toInt64)), .second, .unset, .unset, .unset, .unset, .unset, .unset, .unset, .unset, .unset, .unset, .unset, .unset, .unset, .unset] [])) _
    refine XS.iloadN X0.here hx rfl (hb hby at_14) rfl ?_
    show Steps p.tables e below (s₁.setTop (mkF m 15 #[.val (.int p0), .val (.int p1), .val (.int p2), .val (.int p3), .val (.long ((p1 &&& (1048575 : Int32)).toInt64)), .second, .val (.long ((p2 &&& (65535 : Int32)).toInt64)), .second, .unset, .unset, .unset, .unset, .unset, .unset, .unset, .unset, .unset, .unset, .unset, .unset, .unset, .unset] [(.int p3)])) _
    refine X0.ldcInt hx hown (mvT hZ (hw _ (List.mem_of_getElem? (i := 1) rfl))) (g := (mkF m 15 #[.val (.int p0), .val (.int p1), .val (.int p2), .val (.int p3), .val (.long ((p1 &&& (1048575 : Int32)).toInt64)), .second, .val (.long ((p2 &&& (65535 : Int32)).toInt64)), .second, .unset, .unset, .unset, .unset, .unset, .unset, .unset, .unset, .unset, .unset, .unset, .unset, .unset, .unset] [(.int p3)])) rfl (hb hby at_15) _ ?_
    show Steps p.tables e below (s₁.setTop (mkF m 17 #[.val (.int p0), .val (.int p1), .val (.int p2), .val (.int p3), .val (.long ((p1 &&& (1048575 : Int32)).toInt64)), .second, .val (.long ((p2 &&& (65535 : Int32)).toInt64)), .second, .unset, .unset, .unset, .unset, .unset, .unset, .unset, .unset, .unset, .unset, .unset, .unset, .unset, .unset] [(.int (65535 : Int32)), (.int p3)])) _
    refine XS.iand X0.here hx rfl (hb hby at_17) rfl ?_
    show Steps p.tables e below (s₁.setTop (mkF m 18 #[.val (.int p0), .val (.int p1), .val (.int p2), .val (.int p3), .val (.long ((p1 &&& (1048575 : Int32)).toInt64)), .second, .val (.long ((p2 &&& (65535 : Int32)).toInt64)), .second, .unset, .unset, .unset, .unset, .unset, .unset, .unset, .unset, .unset, .unset, .unset, .unset, .unset, .unset] [(.int (p3 &&& (65535 : Int32)))])) _
    refine XS.i2l X0.here hx rfl (hb hby at_18) rfl ?_
    show Steps p.tables e below (s₁.setTop (mkF m 19 #[.val (.int p0), .val (.int p1), .val (.int p2), .val (.int p3), .val (.long ((p1 &&& (1048575 : Int32)).toInt64)), .second, .val (.long ((p2 &&& (65535 : Int32)).toInt64)), .second, .unset, .unset, .unset, .unset, .unset, .unset, .unset, .unset, .unset, .unset, .unset, .unset, .unset, .unset] [(.long ((p3 &&& (65535 : Int32)).toInt64))])) _
    refine XS.lstore X0.here hx rfl (hb hby at_19) rfl (l' := #[.val (.int p0), .val (.int p1), .val (.int p2), .val (.int p3), .val (.long ((p1 &&& (1048575 : Int32)).toInt64)), .second, .val (.long ((p2 &&& (65535 : Int32)).toInt64)), .second, .val (.long ((p3 &&& (65535 : Int32)).toInt64)), .second, .unset, .unset, .unset, .unset, .unset, .unset, .unset, .unset, .unset, .unset, .unset, .unset]) rfl ?_
    show Steps p.tables e below (s₁.setTop (mkF m 21 #[.val (.int p0), .val (.int p1), .val (.int p2), .val (.int p3), .val (.long ((p1 &&& (1048575 : Int32)).toInt64)), .second, .val (.long ((p2 &&& (65535 : Int32)).toInt64)), .second, .val (.long ((p3 &&& (65535 : Int32)).toInt64)), .second, .unset, .unset, .unset, .unset, .unset, .unset, .unset, .unset, .unset, .unset, .unset, .unset] [])) _
    refine XS.iloadN X0.here hx rfl (hb hby at_21) rfl ?_
    show Steps p.tables e below (s₁.setTop (mkF m 22 #[.val (.int p0), .val (.int p1), .val (.int p2), .val (.int p3), .val (.long ((p1 &&& (1048575 : Int32)).toInt64)), .second, .val (.long ((p2 &&& (65535 : Int32)).toInt64)), .second, .val (.long ((p3 &&& (65535 : Int32)).toInt64)), .second, .unset, .unset, .unset, .unset, .unset, .unset, .unset, .unset, .unset, .unset, .unset, .unset] [(.int p0)])) _
    refine XS.i2dS X0.here hx rfl (hb hby at_22) rfl (v := (FP.i2d p0)) rfl ?_
    show Steps p.tables e below (s₁.setTop (mkF m 23 #[.val (.int p0), .val (.int p1), .val (.int p2), .val (.int p3), .val (.long ((p1 &&& (1048575 : Int32)).toInt64)), .second, .val (.long ((p2 &&& (65535 : Int32)).toInt64)), .second, .val (.long ((p3 &&& (65535 : Int32)).toInt64)), .second, .unset, .unset, .unset, .unset, .unset, .unset, .unset, .unset, .unset, .unset, .unset, .unset] [(.double (FP.i2d p0))])) _
    refine XS.dstore X0.here hx rfl (hb hby at_23) rfl (l' := #[.val (.int p0), .val (.int p1), .val (.int p2), .val (.int p3), .val (.long ((p1 &&& (1048575 : Int32)).toInt64)), .second, .val (.long ((p2 &&& (65535 : Int32)).toInt64)), .second, .val (.long ((p3 &&& (65535 : Int32)).toInt64)), .second, .val (.double (FP.i2d p0)), .second, .unset, .unset, .unset, .unset, .unset, .unset, .unset, .unset, .unset, .unset]) rfl ?_
    show Steps p.tables e below (s₁.setTop (mkF m 25 #[.val (.int p0), .val (.int p1), .val (.int p2), .val (.int p3), .val (.long ((p1 &&& (1048575 : Int32)).toInt64)), .second, .val (.long ((p2 &&& (65535 : Int32)).toInt64)), .second, .val (.long ((p3 &&& (65535 : Int32)).toInt64)), .second, .val (.double (FP.i2d p0)), .second, .unset, .unset, .unset, .unset, .unset, .unset, .unset, .unset, .unset, .unset] [])) _
    refine XS.lload X0.here hx rfl (hb hby at_25) rfl ?_
    show Steps p.tables e below (s₁.setTop (mkF m 27 #[.val (.int p0), .val (.int p1), .val (.int p2), .val (.int p3), .val (.long ((p1 &&& (1048575 : Int32)).toInt64)), .second, .val (.long ((p2 &&& (65535 : Int32)).toInt64)), .second, .val (.long ((p3 &&& (65535 : Int32)).toInt64)), .second, .val (.double (FP.i2d p0)), .second, .unset, .unset, .unset, .unset, .unset, .unset, .unset, .unset, .unset, .unset] [(.long ((p1 &&& (1048575 : Int32)).toInt64))])) _
    refine XS.l2dS X0.here hx rfl (hb hby at_27) rfl (v := (FP.l2d ((p1 &&& (1048575 : Int32)).toInt64))) rfl ?_
    show Steps p.tables e below (s₁.setTop (mkF m 28 #[.val (.int p0), .val (.int p1), .val (.int p2), .val (.int p3), .val (.long ((p1 &&& (1048575 : Int32)).toInt64)), .second, .val (.long ((p2 &&& (65535 : Int32)).toInt64)), .second, .val (.long ((p3 &&& (65535 : Int32)).toInt64)), .second, .val (.double (FP.i2d p0)), .second, .unset, .unset, .unset, .unset, .unset, .unset, .unset, .unset, .unset, .unset] [(.double (FP.l2d ((p1 &&& (1048575 : Int32)).toInt64)))])) _
    refine XS.dstore X0.here hx rfl (hb hby at_28) rfl (l' := #[.val (.int p0), .val (.int p1), .val (.int p2), .val (.int p3), .val (.long ((p1 &&& (1048575 : Int32)).toInt64)), .second, .val (.long ((p2 &&& (65535 : Int32)).toInt64)), .second, .val (.long ((p3 &&& (65535 : Int32)).toInt64)), .second, .val (.double (FP.i2d p0)), .second, .val (.double (FP.l2d ((p1 &&& (1048575 : Int32)).toInt64))), .second, .unset, .unset, .unset, .unset, .unset, .unset, .unset, .unset]) rfl ?_
    show Steps p.tables e below (s₁.setTop (mkF m 30 #[.val (.int p0), .val (.int p1), .val (.int p2), .val (.int p3), .val (.long ((p1 &&& (1048575 : Int32)).toInt64)), .second, .val (.long ((p2 &&& (65535 : Int32)).toInt64)), .second, .val (.long ((p3 &&& (65535 : Int32)).toInt64)), .second, .val (.double (FP.i2d p0)), .second, .val (.double (FP.l2d ((p1 &&& (1048575 : Int32)).toInt64))), .second, .unset, .unset, .unset, .unset, .unset, .unset, .unset, .unset] [])) _
    refine XS.lload X0.here hx rfl (hb hby at_30) rfl ?_
    show Steps p.tables e below (s₁.setTop (mkF m 32 #[.val (.int p0), .val (.int p1), .val (.int p2), .val (.int p3), .val (.long ((p1 &&& (1048575 : Int32)).toInt64)), .second, .val (.long ((p2 &&& (65535 : Int32)).toInt64)), .second, .val (.long ((p3 &&& (65535 : Int32)).toInt64)), .second, .val (.double (FP.i2d p0)), .second, .val (.double (FP.l2d ((p1 &&& (1048575 : Int32)).toInt64))), .second, .unset, .unset, .unset, .unset, .unset, .unset, .unset, .unset] [(.long ((p2 &&& (65535 : Int32)).toInt64))])) _
    refine XS.l2dS X0.here hx rfl (hb hby at_32) rfl (v := (FP.l2d ((p2 &&& (65535 : Int32)).toInt64))) rfl ?_
    show Steps p.tables e below (s₁.setTop (mkF m 33 #[.val (.int p0), .val (.int p1), .val (.int p2), .val (.int p3), .val (.long ((p1 &&& (1048575 : Int32)).toInt64)), .second, .val (.long ((p2 &&& (65535 : Int32)).toInt64)), .second, .val (.long ((p3 &&& (65535 : Int32)).toInt64)), .second, .val (.double (FP.i2d p0)), .second, .val (.double (FP.l2d ((p1 &&& (1048575 : Int32)).toInt64))), .second, .unset, .unset, .unset, .unset, .unset, .unset, .unset, .unset] [(.double (FP.l2d ((p2 &&& (65535 : Int32)).toInt64)))])) _
    refine X0.ldc2DoubleC hx hown (mvT hZ (hw _ (List.mem_of_getElem? (i := 2) rfl))) (g := (mkF m 33 #[.val (.int p0), .val (.int p1), .val (.int p2), .val (.int p3), .val (.long ((p1 &&& (1048575 : Int32)).toInt64)), .second, .val (.long ((p2 &&& (65535 : Int32)).toInt64)), .second, .val (.long ((p3 &&& (65535 : Int32)).toInt64)), .second, .val (.double (FP.i2d p0)), .second, .val (.double (FP.l2d ((p1 &&& (1048575 : Int32)).toInt64))), .second, .unset, .unset, .unset, .unset, .unset, .unset, .unset, .unset] [(.double (FP.l2d ((p2 &&& (65535 : Int32)).toInt64)))])) rfl (hb hby at_33) _ ?_
    show Steps p.tables e below (s₁.setTop (mkF m 36 #[.val (.int p0), .val (.int p1), .val (.int p2), .val (.int p3), .val (.long ((p1 &&& (1048575 : Int32)).toInt64)), .second, .val (.long ((p2 &&& (65535 : Int32)).toInt64)), .second, .val (.long ((p3 &&& (65535 : Int32)).toInt64)), .second, .val (.double (FP.i2d p0)), .second, .val (.double (FP.l2d ((p1 &&& (1048575 : Int32)).toInt64))), .second, .unset, .unset, .unset, .unset, .unset, .unset, .unset, .unset] [(.double (4742290407621132288 : UInt64)), (.double (FP.l2d ((p2 &&& (65535 : Int32)).toInt64)))])) _
    refine XS.ddivS X0.here hx rfl (hb hby at_36) rfl nn36 (v := (FP.ddiv (FP.l2d ((p2 &&& (65535 : Int32)).toInt64)) (4742290407621132288 : UInt64))) rfl ?_
    show Steps p.tables e below (s₁.setTop (mkF m 37 #[.val (.int p0), .val (.int p1), .val (.int p2), .val (.int p3), .val (.long ((p1 &&& (1048575 : Int32)).toInt64)), .second, .val (.long ((p2 &&& (65535 : Int32)).toInt64)), .second, .val (.long ((p3 &&& (65535 : Int32)).toInt64)), .second, .val (.double (FP.i2d p0)), .second, .val (.double (FP.l2d ((p1 &&& (1048575 : Int32)).toInt64))), .second, .unset, .unset, .unset, .unset, .unset, .unset, .unset, .unset] [(.double (FP.ddiv (FP.l2d ((p2 &&& (65535 : Int32)).toInt64)) (4742290407621132288 : UInt64)))])) _
    refine XS.dstore X0.here hx rfl (hb hby at_37) rfl (l' := #[.val (.int p0), .val (.int p1), .val (.int p2), .val (.int p3), .val (.long ((p1 &&& (1048575 : Int32)).toInt64)), .second, .val (.long ((p2 &&& (65535 : Int32)).toInt64)), .second, .val (.long ((p3 &&& (65535 : Int32)).toInt64)), .second, .val (.double (FP.i2d p0)), .second, .val (.double (FP.l2d ((p1 &&& (1048575 : Int32)).toInt64))), .second, .val (.double (FP.ddiv (FP.l2d ((p2 &&& (65535 : Int32)).toInt64)) (4742290407621132288 : UInt64))), .second, .unset, .unset, .unset, .unset, .unset, .unset]) rfl ?_
    show Steps p.tables e below (s₁.setTop (mkF m 39 #[.val (.int p0), .val (.int p1), .val (.int p2), .val (.int p3), .val (.long ((p1 &&& (1048575 : Int32)).toInt64)), .second, .val (.long ((p2 &&& (65535 : Int32)).toInt64)), .second, .val (.long ((p3 &&& (65535 : Int32)).toInt64)), .second, .val (.double (FP.i2d p0)), .second, .val (.double (FP.l2d ((p1 &&& (1048575 : Int32)).toInt64))), .second, .val (.double (FP.ddiv (FP.l2d ((p2 &&& (65535 : Int32)).toInt64)) (4742290407621132288 : UInt64))), .second, .unset, .unset, .unset, .unset, .unset, .unset] [])) _
    refine XS.lload X0.here hx rfl (hb hby at_39) rfl ?_
    show Steps p.tables e below (s₁.setTop (mkF m 41 #[.val (.int p0), .val (.int p1), .val (.int p2), .val (.int p3), .val (.long ((p1 &&& (1048575 : Int32)).toInt64)), .second, .val (.long ((p2 &&& (65535 : Int32)).toInt64)), .second, .val (.long ((p3 &&& (65535 : Int32)).toInt64)), .second, .val (.double (FP.i2d p0)), .second, .val (.double (FP.l2d ((p1 &&& (1048575 : Int32)).toInt64))), .second, .val (.double (FP.ddiv (FP.l2d ((p2 &&& (65535 : Int32)).toInt64)) (4742290407621132288 : UInt64))), .second, .unset, .unset, .unset, .unset, .unset, .unset] [(.long ((p3 &&& (65535 : Int32)).toInt64))])) _
    refine XS.l2dS X0.here hx rfl (hb hby at_41) rfl (v := (FP.l2d ((p3 &&& (65535 : Int32)).toInt64))) rfl ?_
    show Steps p.tables e below (s₁.setTop (mkF m 42 #[.val (.int p0), .val (.int p1), .val (.int p2), .val (.int p3), .val (.long ((p1 &&& (1048575 : Int32)).toInt64)), .second, .val (.long ((p2 &&& (65535 : Int32)).toInt64)), .second, .val (.long ((p3 &&& (65535 : Int32)).toInt64)), .second, .val (.double (FP.i2d p0)), .second, .val (.double (FP.l2d ((p1 &&& (1048575 : Int32)).toInt64))), .second, .val (.double (FP.ddiv (FP.l2d ((p2 &&& (65535 : Int32)).toInt64)) (4742290407621132288 : UInt64))), .second, .unset, .unset, .unset, .unset, .unset, .unset] [(.double (FP.l2d ((p3 &&& (65535 : Int32)).toInt64)))])) _
    refine XS.dstore X0.here hx rfl (hb hby at_42) rfl (l' := #[.val (.int p0), .val (.int p1), .val (.int p2), .val (.int p3), .val (.long ((p1 &&& (1048575 : Int32)).toInt64)), .second, .val (.long ((p2 &&& (65535 : Int32)).toInt64)), .second, .val (.long ((p3 &&& (65535 : Int32)).toInt64)), .second, .val (.double (FP.i2d p0)), .second, .val (.double (FP.l2d ((p1 &&& (1048575 : Int32)).toInt64))), .second, .val (.double (FP.ddiv (FP.l2d ((p2 &&& (65535 : Int32)).toInt64)) (4742290407621132288 : UInt64))), .second, .val (.double (FP.l2d ((p3 &&& (65535 : Int32)).toInt64))), .second, .unset, .unset, .unset, .unset]) rfl ?_
    show Steps p.tables e below (s₁.setTop (mkF m 44 #[.val (.int p0), .val (.int p1), .val (.int p2), .val (.int p3), .val (.long ((p1 &&& (1048575 : Int32)).toInt64)), .second, .val (.long ((p2 &&& (65535 : Int32)).toInt64)), .second, .val (.long ((p3 &&& (65535 : Int32)).toInt64)), .second, .val (.double (FP.i2d p0)), .second, .val (.double (FP.l2d ((p1 &&& (1048575 : Int32)).toInt64))), .second, .val (.double (FP.ddiv (FP.l2d ((p2 &&& (65535 : Int32)).toInt64)) (4742290407621132288 : UInt64))), .second, .val (.double (FP.l2d ((p3 &&& (65535 : Int32)).toInt64))), .second, .unset, .unset, .unset, .unset] [])) _
    refine XS.dload X0.here hx rfl (hb hby at_44) rfl ?_
    show Steps p.tables e below (s₁.setTop (mkF m 46 #[.val (.int p0), .val (.int p1), .val (.int p2), .val (.int p3), .val (.long ((p1 &&& (1048575 : Int32)).toInt64)), .second, .val (.long ((p2 &&& (65535 : Int32)).toInt64)), .second, .val (.long ((p3 &&& (65535 : Int32)).toInt64)), .second, .val (.double (FP.i2d p0)), .second, .val (.double (FP.l2d ((p1 &&& (1048575 : Int32)).toInt64))), .second, .val (.double (FP.ddiv (FP.l2d ((p2 &&& (65535 : Int32)).toInt64)) (4742290407621132288 : UInt64))), .second, .val (.double (FP.l2d ((p3 &&& (65535 : Int32)).toInt64))), .second, .unset, .unset, .unset, .unset] [(.double (FP.i2d p0))])) _
    refine XS.dload X0.here hx rfl (hb hby at_46) rfl ?_
    show Steps p.tables e below (s₁.setTop (mkF m 48 #[.val (.int p0), .val (.int p1), .val (.int p2), .val (.int p3), .val (.long ((p1 &&& (1048575 : Int32)).toInt64)), .second, .val (.long ((p2 &&& (65535 : Int32)).toInt64)), .second, .val (.long ((p3 &&& (65535 : Int32)).toInt64)), .second, .val (.double (FP.i2d p0)), .second, .val (.double (FP.l2d ((p1 &&& (1048575 : Int32)).toInt64))), .second, .val (.double (FP.ddiv (FP.l2d ((p2 &&& (65535 : Int32)).toInt64)) (4742290407621132288 : UInt64))), .second, .val (.double (FP.l2d ((p3 &&& (65535 : Int32)).toInt64))), .second, .unset, .unset, .unset, .unset] [(.double (FP.l2d ((p1 &&& (1048575 : Int32)).toInt64))), (.double (FP.i2d p0))])) _
    refine XS.dload X0.here hx rfl (hb hby at_48) rfl ?_
    show Steps p.tables e below (s₁.setTop (mkF m 50 #[.val (.int p0), .val (.int p1), .val (.int p2), .val (.int p3), .val (.long ((p1 &&& (1048575 : Int32)).toInt64)), .second, .val (.long ((p2 &&& (65535 : Int32)).toInt64)), .second, .val (.long ((p3 &&& (65535 : Int32)).toInt64)), .second, .val (.double (FP.i2d p0)), .second, .val (.double (FP.l2d ((p1 &&& (1048575 : Int32)).toInt64))), .second, .val (.double (FP.ddiv (FP.l2d ((p2 &&& (65535 : Int32)).toInt64)) (4742290407621132288 : UInt64))), .second, .val (.double (FP.l2d ((p3 &&& (65535 : Int32)).toInt64))), .second, .unset, .unset, .unset, .unset] [(.double (FP.ddiv (FP.l2d ((p2 &&& (65535 : Int32)).toInt64)) (4742290407621132288 : UInt64))), (.double (FP.l2d ((p1 &&& (1048575 : Int32)).toInt64))), (.double (FP.i2d p0))])) _
    refine XS.dload X0.here hx rfl (hb hby at_50) rfl ?_
    show Steps p.tables e below (s₁.setTop (mkF m 52 #[.val (.int p0), .val (.int p1), .val (.int p2), .val (.int p3), .val (.long ((p1 &&& (1048575 : Int32)).toInt64)), .second, .val (.long ((p2 &&& (65535 : Int32)).toInt64)), .second, .val (.long ((p3 &&& (65535 : Int32)).toInt64)), .second, .val (.double (FP.i2d p0)), .second, .val (.double (FP.l2d ((p1 &&& (1048575 : Int32)).toInt64))), .second, .val (.double (FP.ddiv (FP.l2d ((p2 &&& (65535 : Int32)).toInt64)) (4742290407621132288 : UInt64))), .second, .val (.double (FP.l2d ((p3 &&& (65535 : Int32)).toInt64))), .second, .unset, .unset, .unset, .unset] [(.double (FP.l2d ((p3 &&& (65535 : Int32)).toInt64))), (.double (FP.ddiv (FP.l2d ((p2 &&& (65535 : Int32)).toInt64)) (4742290407621132288 : UInt64))), (.double (FP.l2d ((p1 &&& (1048575 : Int32)).toInt64))), (.double (FP.i2d p0))])) _
    refine st1 _ ?_
    show Steps p.tables e below (T1.setTop (mkF m 55 #[.val (.int p0), .val (.int p1), .val (.int p2), .val (.int p3), .val (.long ((p1 &&& (1048575 : Int32)).toInt64)), .second, .val (.long ((p2 &&& (65535 : Int32)).toInt64)), .second, .val (.long ((p3 &&& (65535 : Int32)).toInt64)), .second, .val (.double (FP.i2d p0)), .second, .val (.double (FP.l2d ((p1 &&& (1048575 : Int32)).toInt64))), .second, .val (.double (FP.ddiv (FP.l2d ((p2 &&& (65535 : Int32)).toInt64)) (4742290407621132288 : UInt64))), .second, .val (.double (FP.l2d ((p3 &&& (65535 : Int32)).toInt64))), .second, .unset, .unset, .unset, .unset] [(.int (1 : Int32))])) _
    refine XS.istore X1.here hx rfl (hb hby at_55) rfl (l' := #[.val (.int p0), .val (.int p1), .val (.int p2), .val (.int p3), .val (.long ((p1 &&& (1048575 : Int32)).toInt64)), .second, .val (.long ((p2 &&& (65535 : Int32)).toInt64)), .second, .val (.long ((p3 &&& (65535 : Int32)).toInt64)), .second, .val (.double (FP.i2d p0)), .second, .val (.double (FP.l2d ((p1 &&& (1048575 : Int32)).toInt64))), .second, .val (.double (FP.ddiv (FP.l2d ((p2 &&& (65535 : Int32)).toInt64)) (4742290407621132288 : UInt64))), .second, .val (.double (FP.l2d ((p3 &&& (65535 : Int32)).toInt64))), .second, .val (.int (1 : Int32)), .unset, .unset, .unset]) rfl ?_
    show Steps p.tables e below (T1.setTop (mkF m 57 #[.val (.int p0), .val (.int p1), .val (.int p2), .val (.int p3), .val (.long ((p1 &&& (1048575 : Int32)).toInt64)), .second, .val (.long ((p2 &&& (65535 : Int32)).toInt64)), .second, .val (.long ((p3 &&& (65535 : Int32)).toInt64)), .second, .val (.double (FP.i2d p0)), .second, .val (.double (FP.l2d ((p1 &&& (1048575 : Int32)).toInt64))), .second, .val (.double (FP.ddiv (FP.l2d ((p2 &&& (65535 : Int32)).toInt64)) (4742290407621132288 : UInt64))), .second, .val (.double (FP.l2d ((p3 &&& (65535 : Int32)).toInt64))), .second, .val (.int (1 : Int32)), .unset, .unset, .unset] [])) _
    refine X1.ldc2Long hx hown (mvT hZ (hw _ (List.mem_of_getElem? (i := 8) rfl))) (g := (mkF m 57 #[.val (.int p0), .val (.int p1), .val (.int p2), .val (.int p3), .val (.long ((p1 &&& (1048575 : Int32)).toInt64)), .second, .val (.long ((p2 &&& (65535 : Int32)).toInt64)), .second, .val (.long ((p3 &&& (65535 : Int32)).toInt64)), .second, .val (.double (FP.i2d p0)), .second, .val (.double (FP.l2d ((p1 &&& (1048575 : Int32)).toInt64))), .second, .val (.double (FP.ddiv (FP.l2d ((p2 &&& (65535 : Int32)).toInt64)) (4742290407621132288 : UInt64))), .second, .val (.double (FP.l2d ((p3 &&& (65535 : Int32)).toInt64))), .second, .val (.int (1 : Int32)), .unset, .unset, .unset] [])) rfl (hb hby at_57) _ ?_
    show Steps p.tables e below (T1.setTop (mkF m 60 #[.val (.int p0), .val (.int p1), .val (.int p2), .val (.int p3), .val (.long ((p1 &&& (1048575 : Int32)).toInt64)), .second, .val (.long ((p2 &&& (65535 : Int32)).toInt64)), .second, .val (.long ((p3 &&& (65535 : Int32)).toInt64)), .second, .val (.double (FP.i2d p0)), .second, .val (.double (FP.l2d ((p1 &&& (1048575 : Int32)).toInt64))), .second, .val (.double (FP.ddiv (FP.l2d ((p2 &&& (65535 : Int32)).toInt64)) (4742290407621132288 : UInt64))), .second, .val (.double (FP.l2d ((p3 &&& (65535 : Int32)).toInt64))), .second, .val (.int (1 : Int32)), .unset, .unset, .unset] [(.long (1073741824 : Int64))])) _
    refine XS.lstore X1.here hx rfl (hb hby at_60) rfl (l' := #[.val (.int p0), .val (.int p1), .val (.int p2), .val (.int p3), .val (.long ((p1 &&& (1048575 : Int32)).toInt64)), .second, .val (.long ((p2 &&& (65535 : Int32)).toInt64)), .second, .val (.long ((p3 &&& (65535 : Int32)).toInt64)), .second, .val (.double (FP.i2d p0)), .second, .val (.double (FP.l2d ((p1 &&& (1048575 : Int32)).toInt64))), .second, .val (.double (FP.ddiv (FP.l2d ((p2 &&& (65535 : Int32)).toInt64)) (4742290407621132288 : UInt64))), .second, .val (.double (FP.l2d ((p3 &&& (65535 : Int32)).toInt64))), .second, .val (.int (1 : Int32)), .val (.long (1073741824 : Int64)), .second, .unset]) rfl ?_
    show Steps p.tables e below (T1.setTop (mkF m 62 #[.val (.int p0), .val (.int p1), .val (.int p2), .val (.int p3), .val (.long ((p1 &&& (1048575 : Int32)).toInt64)), .second, .val (.long ((p2 &&& (65535 : Int32)).toInt64)), .second, .val (.long ((p3 &&& (65535 : Int32)).toInt64)), .second, .val (.double (FP.i2d p0)), .second, .val (.double (FP.l2d ((p1 &&& (1048575 : Int32)).toInt64))), .second, .val (.double (FP.ddiv (FP.l2d ((p2 &&& (65535 : Int32)).toInt64)) (4742290407621132288 : UInt64))), .second, .val (.double (FP.l2d ((p3 &&& (65535 : Int32)).toInt64))), .second, .val (.int (1 : Int32)), .val (.long (1073741824 : Int64)), .second, .unset] [])) _
    refine XS.iloadN X1.here hx rfl (hb hby at_62) rfl ?_
    show Steps p.tables e below (T1.setTop (mkF m 63 #[.val (.int p0), .val (.int p1), .val (.int p2), .val (.int p3), .val (.long ((p1 &&& (1048575 : Int32)).toInt64)), .second, .val (.long ((p2 &&& (65535 : Int32)).toInt64)), .second, .val (.long ((p3 &&& (65535 : Int32)).toInt64)), .second, .val (.double (FP.i2d p0)), .second, .val (.double (FP.l2d ((p1 &&& (1048575 : Int32)).toInt64))), .second, .val (.double (FP.ddiv (FP.l2d ((p2 &&& (65535 : Int32)).toInt64)) (4742290407621132288 : UInt64))), .second, .val (.double (FP.l2d ((p3 &&& (65535 : Int32)).toInt64))), .second, .val (.int (1 : Int32)), .val (.long (1073741824 : Int64)), .second, .unset] [(.int p0)])) _
    refine XS.i2l X1.here hx rfl (hb hby at_63) rfl ?_
    show Steps p.tables e below (T1.setTop (mkF m 64 #[.val (.int p0), .val (.int p1), .val (.int p2), .val (.int p3), .val (.long ((p1 &&& (1048575 : Int32)).toInt64)), .second, .val (.long ((p2 &&& (65535 : Int32)).toInt64)), .second, .val (.long ((p3 &&& (65535 : Int32)).toInt64)), .second, .val (.double (FP.i2d p0)), .second, .val (.double (FP.l2d ((p1 &&& (1048575 : Int32)).toInt64))), .second, .val (.double (FP.ddiv (FP.l2d ((p2 &&& (65535 : Int32)).toInt64)) (4742290407621132288 : UInt64))), .second, .val (.double (FP.l2d ((p3 &&& (65535 : Int32)).toInt64))), .second, .val (.int (1 : Int32)), .val (.long (1073741824 : Int64)), .second, .unset] [(.long (p0.toInt64))])) _
    refine XS.lload X1.here hx rfl (hb hby at_64) rfl ?_
    show Steps p.tables e below (T1.setTop (mkF m 66 #[.val (.int p0), .val (.int p1), .val (.int p2), .val (.int p3), .val (.long ((p1 &&& (1048575 : Int32)).toInt64)), .second, .val (.long ((p2 &&& (65535 : Int32)).toInt64)), .second, .val (.long ((p3 &&& (65535 : Int32)).toInt64)), .second, .val (.double (FP.i2d p0)), .second, .val (.double (FP.l2d ((p1 &&& (1048575 : Int32)).toInt64))), .second, .val (.double (FP.ddiv (FP.l2d ((p2 &&& (65535 : Int32)).toInt64)) (4742290407621132288 : UInt64))), .second, .val (.double (FP.l2d ((p3 &&& (65535 : Int32)).toInt64))), .second, .val (.int (1 : Int32)), .val (.long (1073741824 : Int64)), .second, .unset] [(.long (1073741824 : Int64)), (.long (p0.toInt64))])) _
    refine XS.lmul X1.here hx rfl (hb hby at_66) rfl ?_
    show Steps p.tables e below (T1.setTop (mkF m 67 #[.val (.int p0), .val (.int p1), .val (.int p2), .val (.int p3), .val (.long ((p1 &&& (1048575 : Int32)).toInt64)), .second, .val (.long ((p2 &&& (65535 : Int32)).toInt64)), .second, .val (.long ((p3 &&& (65535 : Int32)).toInt64)), .second, .val (.double (FP.i2d p0)), .second, .val (.double (FP.l2d ((p1 &&& (1048575 : Int32)).toInt64))), .second, .val (.double (FP.ddiv (FP.l2d ((p2 &&& (65535 : Int32)).toInt64)) (4742290407621132288 : UInt64))), .second, .val (.double (FP.l2d ((p3 &&& (65535 : Int32)).toInt64))), .second, .val (.int (1 : Int32)), .val (.long (1073741824 : Int64)), .second, .unset] [(.long ((p0.toInt64) * (1073741824 : Int64)))])) _
    refine XS.lload X1.here hx rfl (hb hby at_67) rfl ?_
    show Steps p.tables e below (T1.setTop (mkF m 69 #[.val (.int p0), .val (.int p1), .val (.int p2), .val (.int p3), .val (.long ((p1 &&& (1048575 : Int32)).toInt64)), .second, .val (.long ((p2 &&& (65535 : Int32)).toInt64)), .second, .val (.long ((p3 &&& (65535 : Int32)).toInt64)), .second, .val (.double (FP.i2d p0)), .second, .val (.double (FP.l2d ((p1 &&& (1048575 : Int32)).toInt64))), .second, .val (.double (FP.ddiv (FP.l2d ((p2 &&& (65535 : Int32)).toInt64)) (4742290407621132288 : UInt64))), .second, .val (.double (FP.l2d ((p3 &&& (65535 : Int32)).toInt64))), .second, .val (.int (1 : Int32)), .val (.long (1073741824 : Int64)), .second, .unset] [(.long ((p1 &&& (1048575 : Int32)).toInt64)), (.long ((p0.toInt64) * (1073741824 : Int64)))])) _
    refine XS.lload X1.here hx rfl (hb hby at_69) rfl ?_
    show Steps p.tables e below (T1.setTop (mkF m 71 #[.val (.int p0), .val (.int p1), .val (.int p2), .val (.int p3), .val (.long ((p1 &&& (1048575 : Int32)).toInt64)), .second, .val (.long ((p2 &&& (65535 : Int32)).toInt64)), .second, .val (.long ((p3 &&& (65535 : Int32)).toInt64)), .second, .val (.double (FP.i2d p0)), .second, .val (.double (FP.l2d ((p1 &&& (1048575 : Int32)).toInt64))), .second, .val (.double (FP.ddiv (FP.l2d ((p2 &&& (65535 : Int32)).toInt64)) (4742290407621132288 : UInt64))), .second, .val (.double (FP.l2d ((p3 &&& (65535 : Int32)).toInt64))), .second, .val (.int (1 : Int32)), .val (.long (1073741824 : Int64)), .second, .unset] [(.long (1073741824 : Int64)), (.long ((p1 &&& (1048575 : Int32)).toInt64)), (.long ((p0.toInt64) * (1073741824 : Int64)))])) _
    refine XS.lmul X1.here hx rfl (hb hby at_71) rfl ?_
    show Steps p.tables e below (T1.setTop (mkF m 72 #[.val (.int p0), .val (.int p1), .val (.int p2), .val (.int p3), .val (.long ((p1 &&& (1048575 : Int32)).toInt64)), .second, .val (.long ((p2 &&& (65535 : Int32)).toInt64)), .second, .val (.long ((p3 &&& (65535 : Int32)).toInt64)), .second, .val (.double (FP.i2d p0)), .second, .val (.double (FP.l2d ((p1 &&& (1048575 : Int32)).toInt64))), .second, .val (.double (FP.ddiv (FP.l2d ((p2 &&& (65535 : Int32)).toInt64)) (4742290407621132288 : UInt64))), .second, .val (.double (FP.l2d ((p3 &&& (65535 : Int32)).toInt64))), .second, .val (.int (1 : Int32)), .val (.long (1073741824 : Int64)), .second, .unset] [(.long (((p1 &&& (1048575 : Int32)).toInt64) * (1073741824 : Int64))), (.long ((p0.toInt64) * (1073741824 : Int64)))])) _
    refine X1.ldc2Long hx hown (mvT hZ (hw _ (List.mem_of_getElem? (i := 9) rfl))) (g := (mkF m 72 #[.val (.int p0), .val (.int p1), .val (.int p2), .val (.int p3), .val (.long ((p1 &&& (1048575 : Int32)).toInt64)), .second, .val (.long ((p2 &&& (65535 : Int32)).toInt64)), .second, .val (.long ((p3 &&& (65535 : Int32)).toInt64)), .second, .val (.double (FP.i2d p0)), .second, .val (.double (FP.l2d ((p1 &&& (1048575 : Int32)).toInt64))), .second, .val (.double (FP.ddiv (FP.l2d ((p2 &&& (65535 : Int32)).toInt64)) (4742290407621132288 : UInt64))), .second, .val (.double (FP.l2d ((p3 &&& (65535 : Int32)).toInt64))), .second, .val (.int (1 : Int32)), .val (.long (1073741824 : Int64)), .second, .unset] [(.long (((p1 &&& (1048575 : Int32)).toInt64) * (1073741824 : Int64))), (.long ((p0.toInt64) * (1073741824 : Int64)))])) rfl (hb hby at_72) _ ?_
    show Steps p.tables e below (T1.setTop (mkF m 75 #[.val (.int p0), .val (.int p1), .val (.int p2), .val (.int p3), .val (.long ((p1 &&& (1048575 : Int32)).toInt64)), .second, .val (.long ((p2 &&& (65535 : Int32)).toInt64)), .second, .val (.long ((p3 &&& (65535 : Int32)).toInt64)), .second, .val (.double (FP.i2d p0)), .second, .val (.double (FP.l2d ((p1 &&& (1048575 : Int32)).toInt64))), .second, .val (.double (FP.ddiv (FP.l2d ((p2 &&& (65535 : Int32)).toInt64)) (4742290407621132288 : UInt64))), .second, .val (.double (FP.l2d ((p3 &&& (65535 : Int32)).toInt64))), .second, .val (.int (1 : Int32)), .val (.long (1073741824 : Int64)), .second, .unset] [(.long (2 : Int64)), (.long (((p1 &&& (1048575 : Int32)).toInt64) * (1073741824 : Int64))), (.long ((p0.toInt64) * (1073741824 : Int64)))])) _
    refine XS.lload X1.here hx rfl (hb hby at_75) rfl ?_
    show Steps p.tables e below (T1.setTop (mkF m 77 #[.val (.int p0), .val (.int p1), .val (.int p2), .val (.int p3), .val (.long ((p1 &&& (1048575 : Int32)).toInt64)), .second, .val (.long ((p2 &&& (65535 : Int32)).toInt64)), .second, .val (.long ((p3 &&& (65535 : Int32)).toInt64)), .second, .val (.double (FP.i2d p0)), .second, .val (.double (FP.l2d ((p1 &&& (1048575 : Int32)).toInt64))), .second, .val (.double (FP.ddiv (FP.l2d ((p2 &&& (65535 : Int32)).toInt64)) (4742290407621132288 : UInt64))), .second, .val (.double (FP.l2d ((p3 &&& (65535 : Int32)).toInt64))), .second, .val (.int (1 : Int32)), .val (.long (1073741824 : Int64)), .second, .unset] [(.long ((p2 &&& (65535 : Int32)).toInt64)), (.long (2 : Int64)), (.long (((p1 &&& (1048575 : Int32)).toInt64) * (1073741824 : Int64))), (.long ((p0.toInt64) * (1073741824 : Int64)))])) _
    refine XS.lmul X1.here hx rfl (hb hby at_77) rfl ?_
    show Steps p.tables e below (T1.setTop (mkF m 78 #[.val (.int p0), .val (.int p1), .val (.int p2), .val (.int p3), .val (.long ((p1 &&& (1048575 : Int32)).toInt64)), .second, .val (.long ((p2 &&& (65535 : Int32)).toInt64)), .second, .val (.long ((p3 &&& (65535 : Int32)).toInt64)), .second, .val (.double (FP.i2d p0)), .second, .val (.double (FP.l2d ((p1 &&& (1048575 : Int32)).toInt64))), .second, .val (.double (FP.ddiv (FP.l2d ((p2 &&& (65535 : Int32)).toInt64)) (4742290407621132288 : UInt64))), .second, .val (.double (FP.l2d ((p3 &&& (65535 : Int32)).toInt64))), .second, .val (.int (1 : Int32)), .val (.long (1073741824 : Int64)), .second, .unset] [(.long ((2 : Int64) * ((p2 &&& (65535 : Int32)).toInt64))), (.long (((p1 &&& (1048575 : Int32)).toInt64) * (1073741824 : Int64))), (.long ((p0.toInt64) * (1073741824 : Int64)))])) _
    refine XS.lload X1.here hx rfl (hb hby at_78) rfl ?_
    show Steps p.tables e below (T1.setTop (mkF m 80 #[.val (.int p0), .val (.int p1), .val (.int p2), .val (.int p3), .val (.long ((p1 &&& (1048575 : Int32)).toInt64)), .second, .val (.long ((p2 &&& (65535 : Int32)).toInt64)), .second, .val (.long ((p3 &&& (65535 : Int32)).toInt64)), .second, .val (.double (FP.i2d p0)), .second, .val (.double (FP.l2d ((p1 &&& (1048575 : Int32)).toInt64))), .second, .val (.double (FP.ddiv (FP.l2d ((p2 &&& (65535 : Int32)).toInt64)) (4742290407621132288 : UInt64))), .second, .val (.double (FP.l2d ((p3 &&& (65535 : Int32)).toInt64))), .second, .val (.int (1 : Int32)), .val (.long (1073741824 : Int64)), .second, .unset] [(.long ((p3 &&& (65535 : Int32)).toInt64)), (.long ((2 : Int64) * ((p2 &&& (65535 : Int32)).toInt64))), (.long (((p1 &&& (1048575 : Int32)).toInt64) * (1073741824 : Int64))), (.long ((p0.toInt64) * (1073741824 : Int64)))])) _
    refine XS.lmul X1.here hx rfl (hb hby at_80) rfl ?_
    show Steps p.tables e below (T1.setTop (mkF m 81 #[.val (.int p0), .val (.int p1), .val (.int p2), .val (.int p3), .val (.long ((p1 &&& (1048575 : Int32)).toInt64)), .second, .val (.long ((p2 &&& (65535 : Int32)).toInt64)), .second, .val (.long ((p3 &&& (65535 : Int32)).toInt64)), .second, .val (.double (FP.i2d p0)), .second, .val (.double (FP.l2d ((p1 &&& (1048575 : Int32)).toInt64))), .second, .val (.double (FP.ddiv (FP.l2d ((p2 &&& (65535 : Int32)).toInt64)) (4742290407621132288 : UInt64))), .second, .val (.double (FP.l2d ((p3 &&& (65535 : Int32)).toInt64))), .second, .val (.int (1 : Int32)), .val (.long (1073741824 : Int64)), .second, .unset] [(.long (((2 : Int64) * ((p2 &&& (65535 : Int32)).toInt64)) * ((p3 &&& (65535 : Int32)).toInt64))), (.long (((p1 &&& (1048575 : Int32)).toInt64) * (1073741824 : Int64))), (.long ((p0.toInt64) * (1073741824 : Int64)))])) _
    refine XS.ladd X1.here hx rfl (hb hby at_81) rfl ?_
    show Steps p.tables e below (T1.setTop (mkF m 82 #[.val (.int p0), .val (.int p1), .val (.int p2), .val (.int p3), .val (.long ((p1 &&& (1048575 : Int32)).toInt64)), .second, .val (.long ((p2 &&& (65535 : Int32)).toInt64)), .second, .val (.long ((p3 &&& (65535 : Int32)).toInt64)), .second, .val (.double (FP.i2d p0)), .second, .val (.double (FP.l2d ((p1 &&& (1048575 : Int32)).toInt64))), .second, .val (.double (FP.ddiv (FP.l2d ((p2 &&& (65535 : Int32)).toInt64)) (4742290407621132288 : UInt64))), .second, .val (.double (FP.l2d ((p3 &&& (65535 : Int32)).toInt64))), .second, .val (.int (1 : Int32)), .val (.long (1073741824 : Int64)), .second, .unset] [(.long ((((p1 &&& (1048575 : Int32)).toInt64) * (1073741824 : Int64)) + (((2 : Int64) * ((p2 &&& (65535 : Int32)).toInt64)) * ((p3 &&& (65535 : Int32)).toInt64)))), (.long ((p0.toInt64) * (1073741824 : Int64)))])) _
    refine XS.lneg X1.here hx rfl (hb hby at_82) rfl ?_
    show Steps p.tables e below (T1.setTop (mkF m 83 #[.val (.int p0), .val (.int p1), .val (.int p2), .val (.int p3), .val (.long ((p1 &&& (1048575 : Int32)).toInt64)), .second, .val (.long ((p2 &&& (65535 : Int32)).toInt64)), .second, .val (.long ((p3 &&& (65535 : Int32)).toInt64)), .second, .val (.double (FP.i2d p0)), .second, .val (.double (FP.l2d ((p1 &&& (1048575 : Int32)).toInt64))), .second, .val (.double (FP.ddiv (FP.l2d ((p2 &&& (65535 : Int32)).toInt64)) (4742290407621132288 : UInt64))), .second, .val (.double (FP.l2d ((p3 &&& (65535 : Int32)).toInt64))), .second, .val (.int (1 : Int32)), .val (.long (1073741824 : Int64)), .second, .unset] [(.long (-((((p1 &&& (1048575 : Int32)).toInt64) * (1073741824 : Int64)) + (((2 : Int64) * ((p2 &&& (65535 : Int32)).toInt64)) * ((p3 &&& (65535 : Int32)).toInt64))))), (.long ((p0.toInt64) * (1073741824 : Int64)))])) _
    refine XS.lcmp X1.here hx rfl (hb hby at_83) rfl ?_
    show Steps p.tables e below (T1.setTop (mkF m 84 #[.val (.int p0), .val (.int p1), .val (.int p2), .val (.int p3), .val (.long ((p1 &&& (1048575 : Int32)).toInt64)), .second, .val (.long ((p2 &&& (65535 : Int32)).toInt64)), .second, .val (.long ((p3 &&& (65535 : Int32)).toInt64)), .second, .val (.double (FP.i2d p0)), .second, .val (.double (FP.l2d ((p1 &&& (1048575 : Int32)).toInt64))), .second, .val (.double (FP.ddiv (FP.l2d ((p2 &&& (65535 : Int32)).toInt64)) (4742290407621132288 : UInt64))), .second, .val (.double (FP.l2d ((p3 &&& (65535 : Int32)).toInt64))), .second, .val (.int (1 : Int32)), .val (.long (1073741824 : Int64)), .second, .unset] [(.int (lcmpW ((p0.toInt64) * (1073741824 : Int64)) (-((((p1 &&& (1048575 : Int32)).toInt64) * (1073741824 : Int64)) + (((2 : Int64) * ((p2 &&& (65535 : Int32)).toInt64)) * ((p3 &&& (65535 : Int32)).toInt64))))))])) _
    refine XS.ifNo X1.here hx rfl (hb hby at_84) rfl ((if0 _ _).trans (tlt hc84).2.1) ?_
    show Steps p.tables e below (T1.setTop (mkF m 87 #[.val (.int p0), .val (.int p1), .val (.int p2), .val (.int p3), .val (.long ((p1 &&& (1048575 : Int32)).toInt64)), .second, .val (.long ((p2 &&& (65535 : Int32)).toInt64)), .second, .val (.long ((p3 &&& (65535 : Int32)).toInt64)), .second, .val (.double (FP.i2d p0)), .second, .val (.double (FP.l2d ((p1 &&& (1048575 : Int32)).toInt64))), .second, .val (.double (FP.ddiv (FP.l2d ((p2 &&& (65535 : Int32)).toInt64)) (4742290407621132288 : UInt64))), .second, .val (.double (FP.l2d ((p3 &&& (65535 : Int32)).toInt64))), .second, .val (.int (1 : Int32)), .val (.long (1073741824 : Int64)), .second, .unset] [])) _
    refine XS.iconst X1.here hx rfl (hb hby at_87) ?_
    show Steps p.tables e below (T1.setTop (mkF m 88 #[.val (.int p0), .val (.int p1), .val (.int p2), .val (.int p3), .val (.long ((p1 &&& (1048575 : Int32)).toInt64)), .second, .val (.long ((p2 &&& (65535 : Int32)).toInt64)), .second, .val (.long ((p3 &&& (65535 : Int32)).toInt64)), .second, .val (.double (FP.i2d p0)), .second, .val (.double (FP.l2d ((p1 &&& (1048575 : Int32)).toInt64))), .second, .val (.double (FP.ddiv (FP.l2d ((p2 &&& (65535 : Int32)).toInt64)) (4742290407621132288 : UInt64))), .second, .val (.double (FP.l2d ((p3 &&& (65535 : Int32)).toInt64))), .second, .val (.int (1 : Int32)), .val (.long (1073741824 : Int64)), .second, .unset] [(.int (1 : Int32))])) _
    refine XS.goto X1.here hx rfl (pc0 := 88) (pc' := 92) rfl (hb hby at_88) (by decide) (by decide) ?_
    show Steps p.tables e below (T1.setTop (mkF m 92 #[.val (.int p0), .val (.int p1), .val (.int p2), .val (.int p3), .val (.long ((p1 &&& (1048575 : Int32)).toInt64)), .second, .val (.long ((p2 &&& (65535 : Int32)).toInt64)), .second, .val (.long ((p3 &&& (65535 : Int32)).toInt64)), .second, .val (.double (FP.i2d p0)), .second, .val (.double (FP.l2d ((p1 &&& (1048575 : Int32)).toInt64))), .second, .val (.double (FP.ddiv (FP.l2d ((p2 &&& (65535 : Int32)).toInt64)) (4742290407621132288 : UInt64))), .second, .val (.double (FP.l2d ((p3 &&& (65535 : Int32)).toInt64))), .second, .val (.int (1 : Int32)), .val (.long (1073741824 : Int64)), .second, .unset] [(.int (1 : Int32))])) _
    refine XS.istore X1.here hx rfl (hb hby at_92) rfl (l' := #[.val (.int p0), .val (.int p1), .val (.int p2), .val (.int p3), .val (.long ((p1 &&& (1048575 : Int32)).toInt64)), .second, .val (.long ((p2 &&& (65535 : Int32)).toInt64)), .second, .val (.long ((p3 &&& (65535 : Int32)).toInt64)), .second, .val (.double (FP.i2d p0)), .second, .val (.double (FP.l2d ((p1 &&& (1048575 : Int32)).toInt64))), .second, .val (.double (FP.ddiv (FP.l2d ((p2 &&& (65535 : Int32)).toInt64)) (4742290407621132288 : UInt64))), .second, .val (.double (FP.l2d ((p3 &&& (65535 : Int32)).toInt64))), .second, .val (.int (1 : Int32)), .val (.long (1073741824 : Int64)), .second, .val (.int (1 : Int32))]) rfl ?_
    show Steps p.tables e below (T1.setTop (mkF m 94 #[.val (.int p0), .val (.int p1), .val (.int p2), .val (.int p3), .val (.long ((p1 &&& (1048575 : Int32)).toInt64)), .second, .val (.long ((p2 &&& (65535 : Int32)).toInt64)), .second, .val (.long ((p3 &&& (65535 : Int32)).toInt64)), .second, .val (.double (FP.i2d p0)), .second, .val (.double (FP.l2d ((p1 &&& (1048575 : Int32)).toInt64))), .second, .val (.double (FP.ddiv (FP.l2d ((p2 &&& (65535 : Int32)).toInt64)) (4742290407621132288 : UInt64))), .second, .val (.double (FP.l2d ((p3 &&& (65535 : Int32)).toInt64))), .second, .val (.int (1 : Int32)), .val (.long (1073741824 : Int64)), .second, .val (.int (1 : Int32))] [])) _
    refine XS.iload X1.here hx rfl (hb hby at_94) rfl ?_
    show Steps p.tables e below (T1.setTop (mkF m 96 #[.val (.int p0), .val (.int p1), .val (.int p2), .val (.int p3), .val (.long ((p1 &&& (1048575 : Int32)).toInt64)), .second, .val (.long ((p2 &&& (65535 : Int32)).toInt64)), .second, .val (.long ((p3 &&& (65535 : Int32)).toInt64)), .second, .val (.double (FP.i2d p0)), .second, .val (.double (FP.l2d ((p1 &&& (1048575 : Int32)).toInt64))), .second, .val (.double (FP.ddiv (FP.l2d ((p2 &&& (65535 : Int32)).toInt64)) (4742290407621132288 : UInt64))), .second, .val (.double (FP.l2d ((p3 &&& (65535 : Int32)).toInt64))), .second, .val (.int (1 : Int32)), .val (.long (1073741824 : Int64)), .second, .val (.int (1 : Int32))] [(.int (1 : Int32))])) _
    refine XS.iload X1.here hx rfl (hb hby at_96) rfl ?_
    show Steps p.tables e below (T1.setTop (mkF m 98 #[.val (.int p0), .val (.int p1), .val (.int p2), .val (.int p3), .val (.long ((p1 &&& (1048575 : Int32)).toInt64)), .second, .val (.long ((p2 &&& (65535 : Int32)).toInt64)), .second, .val (.long ((p3 &&& (65535 : Int32)).toInt64)), .second, .val (.double (FP.i2d p0)), .second, .val (.double (FP.l2d ((p1 &&& (1048575 : Int32)).toInt64))), .second, .val (.double (FP.ddiv (FP.l2d ((p2 &&& (65535 : Int32)).toInt64)) (4742290407621132288 : UInt64))), .second, .val (.double (FP.l2d ((p3 &&& (65535 : Int32)).toInt64))), .second, .val (.int (1 : Int32)), .val (.long (1073741824 : Int64)), .second, .val (.int (1 : Int32))] [(.int (1 : Int32)), (.int (1 : Int32))])) _
    refine XS.icmpNo X1.here hx rfl (hb hby at_98) rfl (teq (by decide : (1 : Int32) = (1 : Int32))).2 ?_
    show Steps p.tables e below (T1.setTop (mkF m 101 #[.val (.int p0), .val (.int p1), .val (.int p2), .val (.int p3), .val (.long ((p1 &&& (1048575 : Int32)).toInt64)), .second, .val (.long ((p2 &&& (65535 : Int32)).toInt64)), .second, .val (.long ((p3 &&& (65535 : Int32)).toInt64)), .second, .val (.double (FP.i2d p0)), .second, .val (.double (FP.l2d ((p1 &&& (1048575 : Int32)).toInt64))), .second, .val (.double (FP.ddiv (FP.l2d ((p2 &&& (65535 : Int32)).toInt64)) (4742290407621132288 : UInt64))), .second, .val (.double (FP.l2d ((p3 &&& (65535 : Int32)).toInt64))), .second, .val (.int (1 : Int32)), .val (.long (1073741824 : Int64)), .second, .val (.int (1 : Int32))] [])) _
    refine XS.iconst X1.here hx rfl (hb hby at_101) ?_
    show Steps p.tables e below (T1.setTop (mkF m 102 #[.val (.int p0), .val (.int p1), .val (.int p2), .val (.int p3), .val (.long ((p1 &&& (1048575 : Int32)).toInt64)), .second, .val (.long ((p2 &&& (65535 : Int32)).toInt64)), .second, .val (.long ((p3 &&& (65535 : Int32)).toInt64)), .second, .val (.double (FP.i2d p0)), .second, .val (.double (FP.l2d ((p1 &&& (1048575 : Int32)).toInt64))), .second, .val (.double (FP.ddiv (FP.l2d ((p2 &&& (65535 : Int32)).toInt64)) (4742290407621132288 : UInt64))), .second, .val (.double (FP.l2d ((p3 &&& (65535 : Int32)).toInt64))), .second, .val (.int (1 : Int32)), .val (.long (1073741824 : Int64)), .second, .val (.int (1 : Int32))] [(.int (1 : Int32))])) _
    refine XS.goto X1.here hx rfl (pc0 := 102) (pc' := 106) rfl (hb hby at_102) (by decide) (by decide) ?_
    show Steps p.tables e below (T1.setTop (mkF m 106 #[.val (.int p0), .val (.int p1), .val (.int p2), .val (.int p3), .val (.long ((p1 &&& (1048575 : Int32)).toInt64)), .second, .val (.long ((p2 &&& (65535 : Int32)).toInt64)), .second, .val (.long ((p3 &&& (65535 : Int32)).toInt64)), .second, .val (.double (FP.i2d p0)), .second, .val (.double (FP.l2d ((p1 &&& (1048575 : Int32)).toInt64))), .second, .val (.double (FP.ddiv (FP.l2d ((p2 &&& (65535 : Int32)).toInt64)) (4742290407621132288 : UInt64))), .second, .val (.double (FP.l2d ((p3 &&& (65535 : Int32)).toInt64))), .second, .val (.int (1 : Int32)), .val (.long (1073741824 : Int64)), .second, .val (.int (1 : Int32))] [(.int (1 : Int32))])) _
    exact retN X1 hx (t := .boolean) Bd.returns (by simp) (hb hby at_106) hr
  · show Q0 n0 _ T1.heap _
    rw [e1]
    exact ⟨rfl, N1⟩
set_option maxRecDepth 65536 in
set_option maxHeartbeats 40000000 in
theorem rm0b (l : Launch) (Z : State) (a0 : Array Value) (hw : ∀ d ∈ tables_1, d.before a0 Z = true) (ws : List Jvm.Cond) (p0 : Int32) (p1 : Int32) (p2 : Int32) (p3 : Int32) (h0 : Heap) (n0 : Nat) (Z0 : n0 ≤ h0.size) (nn36 : Jvm.Free.Fl.NoNaN64 (FP.ddiv (FP.l2d ((p2 &&& (65535 : Int32)).toInt64)) (4742290407621132288 : UInt64))) (nn7_52 : Jvm.Free.Fl.NoNaN64 (FP.dmul (4611686018427387904 : UInt64) (FP.ddiv (FP.l2d ((p2 &&& (65535 : Int32)).toInt64)) (4742290407621132288 : UInt64)))) (nn10_52 : Jvm.Free.Fl.NoNaN64 (FP.dmul (FP.dmul (4611686018427387904 : UInt64) (FP.ddiv (FP.l2d ((p2 &&& (65535 : Int32)).toInt64)) (4742290407621132288 : UInt64))) (FP.l2d ((p3 &&& (65535 : Int32)).toInt64)))) (nn11_52 : Jvm.Free.Fl.NoNaN64 (FP.dadd (FP.l2d ((p1 &&& (1048575 : Int32)).toInt64)) (FP.dmul (FP.dmul (4611686018427387904 : UInt64) (FP.ddiv (FP.l2d ((p2 &&& (65535 : Int32)).toInt64)) (4742290407621132288 : UInt64))) (FP.l2d ((p3 &&& (65535 : Int32)).toInt64))))) (hd13_52 : (cmpValue (FP.dcmp (FP.i2d p0) (FP.dneg (FP.dadd (FP.l2d ((p1 &&& (1048575 : Int32)).toInt64)) (FP.dmul (FP.dmul (4611686018427387904 : UInt64) (FP.ddiv (FP.l2d ((p2 &&& (65535 : Int32)).toInt64)) (4742290407621132288 : UInt64))) (FP.l2d ((p3 &&& (65535 : Int32)).toInt64)))))) .g) = (0 : Int32)) (hc84 : ¬ ((lcmpW ((p0.toInt64) * (1073741824 : Int64)) (-((((p1 &&& (1048575 : Int32)).toInt64) * (1073741824 : Int64)) + (((2 : Int64) * ((p2 &&& (65535 : Int32)).toInt64)) * ((p3 &&& (65535 : Int32)).toInt64))))) < (0 : Int32))) :
    MetFree l x (head1 (Jvm.Cond.code x code maxLocals ret :: ws) room_1) (fun a U => a = #[(.int p0), (.int p1), (.int p2), (.int p3)] ∧ Z.Warmed39 U.vm ∧ U.heap = h0) (fun _ _ _ _ _ => True) (fun _ U o U' => ∃ v L, o = .returned v ∧ Q0 n0 v U'.heap L ∧ FrameEnd U o U' L room_1.cells room_1.slots) := by
  refine MetFree.of_bodySF (plainFor_of_name pn_com_example_vast_mdp_vastmdp_engine_StrategyImproverIsSavingPinLaw) hisR ?_
  intro p e s m args below meth c s₁ Bd hml0 hP hK
  obtain ⟨rfl, hZ, hh⟩ := hP
  have hx := Bd.exec
  have hby := Bd.bytes
  have hml : c.maxLocals = 22 := hml0
  have hown : s.vm.findClass "com/example/vast_mdp/vastmdp/engine/StrategyImproverIsSavingPinLaw" = some m.cls := findClass_of_methodNamed Bd.named
  have hnm := (name_of_methodNamed Bd.named Bd.method).1
  have X0 : Stand p l e room_1 s m #[(.int p0), (.int p1), (.int p2), (.int p3)] below meth c s₁ [] 0 0 := Stand.of_body Bd
  have e0 : s₁.heap = h0 := by rw [← hh, Bd.state]; rfl
  have N0 := Fr.nil n0
  have pre0 : ∀ t, Steps p.tables e below (s₁.setTop (mkF m 0 #[.val (.int p0), .val (.int p1), .val (.int p2), .val (.int p3), .unset, .unset, .unset, .unset, .unset, .unset, .unset, .unset, .unset, .unset, .unset, .unset, .unset, .unset, .unset, .unset, .unset, .unset] [])) t → Steps p.tables e below (s₁.setTop (entryFrame m #[(.int p0), (.int p1), (.int p2), (.int p3)] maxLocals)) t := fun t k => castTop (ef_0_IIII m p0 p1 p2 p3) k
  obtain ⟨_, _, ⟨T1, L1, k1, n1⟩, -, X1, ⟨Lc1, hQ1, l1, y1, z1⟩, st1⟩ := Jvm.LawKit.callS X0 hx (y := (⟨"com/example/vast_mdp/vastmdp/engine/StrategyImprover", "isSaving", "(DDDD)Z"⟩ : MethodName)) hown (mvT hZ (hw _ (List.mem_of_getElem? (i := 3) rfl))) (mvT hZ (hw _ (List.mem_of_getElem? (i := 4) rfl))) (mvT hZ (hw _ (List.mem_of_getElem? (i := 5) rfl))) (mvT hZ (hw _ (List.mem_of_getElem? (i := 6) rfl))) (by decide) (backOf (W := 0) (rm1b l Z a0 hw [] (FP.i2d p0) (FP.l2d ((p1 &&& (1048575 : Int32)).toInt64)) (FP.ddiv (FP.l2d ((p2 &&& (65535 : Int32)).toInt64)) (4742290407621132288 : UInt64)) (FP.l2d ((p3 &&& (65535 : Int32)).toInt64)) h0 n0 Z0 nn7_52 nn10_52 nn11_52 hd13_52) hZ (hw _ (List.mem_of_getElem? (i := 6) rfl)) (hw _ (List.mem_of_getElem? (i := 5) rfl)) (by decide) (by decide)) (g := (mkF m 52 #[.val (.int p0), .val (.int p1), .val (.int p2), .val (.int p3), .val (.long ((p1 &&& (1048575 : Int32)).toInt64)), .second, .val (.long ((p2 &&& (65535 : Int32)).toInt64)), .second, .val (.long ((p3 &&& (65535 : Int32)).toInt64)), .second, .val (.double (FP.i2d p0)), .second, .val (.double (FP.l2d ((p1 &&& (1048575 : Int32)).toInt64))), .second, .val (.double (FP.ddiv (FP.l2d ((p2 &&& (65535 : Int32)).toInt64)) (4742290407621132288 : UInt64))), .second, .val (.double (FP.l2d ((p3 &&& (65535 : Int32)).toInt64))), .second, .unset, .unset, .unset, .unset] [(.double (FP.l2d ((p3 &&& (65535 : Int32)).toInt64))), (.double (FP.ddiv (FP.l2d ((p2 &&& (65535 : Int32)).toInt64)) (4742290407621132288 : UInt64))), (.double (FP.l2d ((p1 &&& (1048575 : Int32)).toInt64))), (.double (FP.i2d p0))])) rfl (by rw [hml]; rfl) (argsL := [(.double (FP.i2d p0)), (.double (FP.l2d ((p1 &&& (1048575 : Int32)).toInt64))), (.double (FP.ddiv (FP.l2d ((p2 &&& (65535 : Int32)).toInt64)) (4742290407621132288 : UInt64))), (.double (FP.l2d ((p3 &&& (65535 : Int32)).toInt64)))]) (rest := []) (lenOf pd_0 rfl) rfl (by show 2 * 0 + _ ≤ _; exact Nat.le_of_eq rfl) (hb hby at_52) (fun _ _ => ⟨rfl, e0, (by decide : 0 + 0 ≤ _), (by decide : 0 + 0 ≤ _)⟩)
  dsimp only [Pt.U, Pt.locs, Pt.cells, Pt.slots] at X1 l1 y1 z1 st1 hQ1
  subst l1 y1 z1
  obtain ⟨rfl, N1q, eh1⟩ := hQ1
  have N1 := Fr.app N0 N1q
  have e1 : T1.heap = h0 := eh1
  obtain ⟨fs, hr, hrun, hended, hW, hsame⟩ := X1.leave (v := some (.int (1 : Int32))) (fun h => by rw [Bd.returns] at h; cases h)
  refine ⟨_, _, pre0 _ ?_, hrun, hended, _, _, rfl, ?_, ⟨_, rfl⟩, hW, hsame.mono (by decide) (by decide)⟩
  · show Steps p.tables e below (s₁.setTop (mkF m 0 #[.val (.int p0), .val (.int p1), .val (.int p2), .val (.int p3), .unset, .unset, .unset, .unset, .unset, .unset, .unset, .unset, .unset, .unset, .unset, .unset, .unset, .unset, .unset, .unset, .unset, .unset] [])) _
    refine XS.iloadN X0.here hx rfl (hb hby at_0) rfl ?_
    show Steps p.tables e below (s₁.setTop (mkF m 1 #[.val (.int p0), .val (.int p1), .val (.int p2), .val (.int p3), .unset, .unset, .unset, .unset, .unset, .unset, .unset, .unset, .unset, .unset, .unset, .unset, .unset, .unset, .unset, .unset, .unset, .unset] [(.int p1)])) _
    refine X0.ldcInt hx hown (mvT hZ (hw _ (List.mem_of_getElem? (i := 0) rfl))) (g := (mkF m 1 #[.val (.int p0), .val (.int p1), .val (.int p2), .val (.int p3), .unset, .unset, .unset, .unset, .unset, .unset, .unset, .unset, .unset, .unset, .unset, .unset, .unset, .unset, .unset, .unset, .unset, .unset] [(.int p1)])) rfl (hb hby at_1) _ ?_
    show Steps p.tables e below (s₁.setTop (mkF m 3 #[.val (.int p0), .val (.int p1), .val (.int p2), .val (.int p3), .unset, .unset, .unset, .unset, .unset, .unset, .unset, .unset, .unset, .unset, .unset, .unset, .unset, .unset, .unset, .unset, .unset, .unset] [(.int (1048575 : Int32)), (.int p1)])) _
    refine XS.iand X0.here hx rfl (hb hby at_3) rfl ?_
    show Steps p.tables e below (s₁.setTop (mkF m 4 #[.val (.int p0), .val (.int p1), .val (.int p2), .val (.int p3), .unset, .unset, .unset, .unset, .unset, .unset, .unset, .unset, .unset, .unset, .unset, .unset, .unset, .unset, .unset, .unset, .unset, .unset] [(.int (p1 &&& (1048575 : Int32)))])) _
    refine XS.i2l X0.here hx rfl (hb hby at_4) rfl ?_
    show Steps p.tables e below (s₁.setTop (mkF m 5 #[.val (.int p0), .val (.int p1), .val (.int p2), .val (.int p3), .unset, .unset, .unset, .unset, .unset, .unset, .unset, .unset, .unset, .unset, .unset, .unset, .unset, .unset, .unset, .unset, .unset, .unset] [(.long ((p1 &&& (1048575 : Int32)).toInt64))])) _
    refine XS.lstore X0.here hx rfl (hb hby at_5) rfl (l' := #[.val (.int p0), .val (.int p1), .val (.int p2), .val (.int p3), .val (.long ((p1 &&& (1048575 : Int32)).toInt64)), .second, .unset, .unset, .unset, .unset, .unset, .unset, .unset, .unset, .unset, .unset, .unset, .unset, .unset, .unset, .unset, .unset]) rfl ?_
    show Steps p.tables e below (s₁.setTop (mkF m 7 #[.val (.int p0), .val (.int p1), .val (.int p2), .val (.int p3), .val (.long ((p1 &&& (1048575 : Int32)).toInt64)), .second, .unset, .unset, .unset, .unset, .unset, .unset, .unset, .unset, .unset, .unset, .unset, .unset, .unset, .unset, .unset, .unset] [])) _
    refine XS.iloadN X0.here hx rfl (hb hby at_7) rfl ?_
    show Steps p.tables e below (s₁.setTop (mkF m 8 #[.val (.int p0), .val (.int p1), .val (.int p2), .val (.int p3), .val (.long ((p1 &&& (1048575 : Int32)).toInt64)), .second, .unset, .unset, .unset, .unset, .unset, .unset, .unset, .unset, .unset, .unset, .unset, .unset, .unset, .unset, .unset, .unset] [(.int p2)])) _
    refine X0.ldcInt hx hown (mvT hZ (hw _ (List.mem_of_getElem? (i := 1) rfl))) (g := (mkF m 8 #[.val (.int p0), .val (.int p1), .val (.int p2), .val (.int p3), .val (.long ((p1 &&& (1048575 : Int32)).toInt64)), .second, .unset, .unset, .unset, .unset, .unset, .unset, .unset, .unset, .unset, .unset, .unset, .unset, .unset, .unset, .unset, .unset] [(.int p2)])) rfl (hb hby at_8) _ ?_
    show Steps p.tables e below (s₁.setTop (mkF m 10 #[.val (.int p0), .val (.int p1), .val (.int p2), .val (.int p3), .val (.long ((p1 &&& (1048575 : Int32)).toInt64)), .second, .unset, .unset, .unset, .unset, .unset, .unset, .unset, .unset, .unset, .unset, .unset, .unset, .unset, .unset, .unset, .unset] [(.int (65535 : Int32)), (.int p2)])) _
    refine XS.iand X0.here hx rfl (hb hby at_10) rfl ?_
    show Steps p.tables e below (s₁.setTop (mkF m 11 #[.val (.int p0), .val (.int p1), .val (.int p2), .val (.int p3), .val (.long ((p1 &&& (1048575 : Int32)).toInt64)), .second, .unset, .unset, .unset, .unset, .unset, .unset, .unset, .unset, .unset, .unset, .unset, .unset, .unset, .unset, .unset, .unset] [(.int (p2 &&& (65535 : Int32)))])) _
    refine XS.i2l X0.here hx rfl (hb hby at_11) rfl ?_
    show Steps p.tables e below (s₁.setTop (mkF m 12 #[.val (.int p0), .val (.int p1), .val (.int p2), .val (.int p3), .val (.long ((p1 &&& (1048575 : Int32)).toInt64)), .second, .unset, .unset, .unset, .unset, .unset, .unset, .unset, .unset, .unset, .unset, .unset, .unset, .unset, .unset, .unset, .unset] [(.long ((p2 &&& (65535 : Int32)).toInt64))])) _
    refine XS.lstore X0.here hx rfl (hb hby at_12) rfl (l' := #[.val (.int p0), .val (.int p1), .val (.int p2), .val (.int p3), .val (.long ((p1 &&& (1048575 : Int32)).toInt64)), .second, .val (.long ((p2 &&& (65535 : Int32)).toInt64)), .second, .unset, .unset, .unset, .unset, .unset, .unset, .unset, .unset, .unset, .unset, .unset, .unset, .unset, .unset]) rfl ?_
    show Steps p.tables e below (s₁.setTop (mkF m 14 #[.val (.int p0), .val (.int p1), .val (.int p2), .val (.int p3), .val (.long ((p1 &&& (1048575 : Int32)).toInt64)), .second, .val (.long ((p2 &&& (65535 : Int32)).toInt64)), .second, .unset, .unset, .unset, .unset, .unset, .unset, .unset, .unset, .unset, .unset, .unset, .unset, .unset, .unset] [])) _
    refine XS.iloadN X0.here hx rfl (hb hby at_14) rfl ?_
    show Steps p.tables e below (s₁.setTop (mkF m 15 #[.val (.int p0), .val (.int p1), .val (.int p2), .val (.int p3), .val (.long ((p1 &&& (1048575 : Int32)).toInt64)), .second, .val (.long ((p2 &&& (65535 : Int32)).toInt64)), .second, .unset, .unset, .unset, .unset, .unset, .unset, .unset, .unset, .unset, .unset, .unset, .unset, .unset, .unset] [(.int p3)])) _
    refine X0.ldcInt hx hown (mvT hZ (hw _ (List.mem_of_getElem? (i := 1) rfl))) (g := (mkF m 15 #[.val (.int p0), .val (.int p1), .val (.int p2), .val (.int p3), .val (.long ((p1 &&& (1048575 : Int32)).toInt64)), .second, .val (.long ((p2 &&& (65535 : Int32)).toInt64)), .second, .unset, .unset, .unset, .unset, .unset, .unset, .unset, .unset, .unset, .unset, .unset, .unset, .unset, .unset] [(.int p3)])) rfl (hb hby at_15) _ ?_
    show Steps p.tables e below (s₁.setTop (mkF m 17 #[.val (.int p0), .val (.int p1), .val (.int p2), .val (.int p3), .val (.long ((p1 &&& (1048575 : Int32)).toInt64)), .second, .val (.long ((p2 &&& (65535 : Int32)).toInt64)), .second, .unset, .unset, .unset, .unset, .unset, .unset, .unset, .unset, .unset, .unset, .unset, .unset, .unset, .unset] [(.int (65535 : Int32)), (.int p3)])) _
    refine XS.iand X0.here hx rfl (hb hby at_17) rfl ?_
    show Steps p.tables e below (s₁.setTop (mkF m 18 #[.val (.int p0), .val (.int p1), .val (.int p2), .val (.int p3), .val (.long ((p1 &&& (1048575 : Int32)).toInt64)), .second, .val (.long ((p2 &&& (65535 : Int32)).toInt64)), .second, .unset, .unset, .unset, .unset, .unset, .unset, .unset, .unset, .unset, .unset, .unset, .unset, .unset, .unset] [(.int (p3 &&& (65535 : Int32)))])) _
    refine XS.i2l X0.here hx rfl (hb hby at_18) rfl ?_
    show Steps p.tables e below (s₁.setTop (mkF m 19 #[.val (.int p0), .val (.int p1), .val (.int p2), .val (.int p3), .val (.long ((p1 &&& (1048575 : Int32)).toInt64)), .second, .val (.long ((p2 &&& (65535 : Int32)).toInt64)), .second, .unset, .unset, .unset, .unset, .unset, .unset, .unset, .unset, .unset, .unset, .unset, .unset, .unset, .unset] [(.long ((p3 &&& (65535 : Int32)).toInt64))])) _
    refine XS.lstore X0.here hx rfl (hb hby at_19) rfl (l' := #[.val (.int p0), .val (.int p1), .val (.int p2), .val (.int p3), .val (.long ((p1 &&& (1048575 : Int32)).toInt64)), .second, .val (.long ((p2 &&& (65535 : Int32)).toInt64)), .second, .val (.long ((p3 &&& (65535 : Int32)).toInt64)), .second, .unset, .unset, .unset, .unset, .unset, .unset, .unset, .unset, .unset, .unset, .unset, .unset]) rfl ?_
    show Steps p.tables e below (s₁.setTop (mkF m 21 #[.val (.int p0), .val (.int p1), .val (.int p2), .val (.int p3), .val (.long ((p1 &&& (1048575 : Int32)).toInt64)), .second, .val (.long ((p2 &&& (65535 : Int32)).toInt64)), .second, .val (.long ((p3 &&& (65535 : Int32)).toInt64)), .second, .unset, .unset, .unset, .unset, .unset, .unset, .unset, .unset, .unset, .unset, .unset, .unset] [])) _
    refine XS.iloadN X0.here hx rfl (hb hby at_21) rfl ?_
    show Steps p.tables e below (s₁.setTop (mkF m 22 #[.val (.int p0), .val (.int p1), .val (.int p2), .val (.int p3), .val (.long ((p1 &&& (1048575 : Int32)).toInt64)), .second, .val (.long ((p2 &&& (65535 : Int32)).toInt64)), .second, .val (.long ((p3 &&& (65535 : Int32)).toInt64)), .second, .unset, .unset, .unset, .unset, .unset, .unset, .unset, .unset, .unset, .unset, .unset, .unset] [(.int p0)])) _
    refine XS.i2dS X0.here hx rfl (hb hby at_22) rfl (v := (FP.i2d p0)) rfl ?_
    show Steps p.tables e below (s₁.setTop (mkF m 23 #[.val (.int p0), .val (.int p1), .val (.int p2), .val (.int p3), .val (.long ((p1 &&& (1048575 : Int32)).toInt64)), .second, .val (.long ((p2 &&& (65535 : Int32)).toInt64)), .second, .val (.long ((p3 &&& (65535 : Int32)).toInt64)), .second, .unset, .unset, .unset, .unset, .unset, .unset, .unset, .unset, .unset, .unset, .unset, .unset] [(.double (FP.i2d p0))])) _
    refine XS.dstore X0.here hx rfl (hb hby at_23) rfl (l' := #[.val (.int p0), .val (.int p1), .val (.int p2), .val (.int p3), .val (.long ((p1 &&& (1048575 : Int32)).toInt64)), .second, .val (.long ((p2 &&& (65535 : Int32)).toInt64)), .second, .val (.long ((p3 &&& (65535 : Int32)).toInt64)), .second, .val (.double (FP.i2d p0)), .second, .unset, .unset, .unset, .unset, .unset, .unset, .unset, .unset, .unset, .unset]) rfl ?_
    show Steps p.tables e below (s₁.setTop (mkF m 25 #[.val (.int p0), .val (.int p1), .val (.int p2), .val (.int p3), .val (.long ((p1 &&& (1048575 : Int32)).toInt64)), .second, .val (.long ((p2 &&& (65535 : Int32)).toInt64)), .second, .val (.long ((p3 &&& (65535 : Int32)).toInt64)), .second, .val (.double (FP.i2d p0)), .second, .unset, .unset, .unset, .unset, .unset, .unset, .unset, .unset, .unset, .unset] [])) _
    refine XS.lload X0.here hx rfl (hb hby at_25) rfl ?_
    show Steps p.tables e below (s₁.setTop (mkF m 27 #[.val (.int p0), .val (.int p1), .val (.int p2), .val (.int p3), .val (.long ((p1 &&& (1048575 : Int32)).toInt64)), .second, .val (.long ((p2 &&& (65535 : Int32)).toInt64)), .second, .val (.long ((p3 &&& (65535 : Int32)).toInt64)), .second, .val (.double (FP.i2d p0)), .second, .unset, .unset, .unset, .unset, .unset, .unset, .unset, .unset, .unset, .unset] [(.long ((p1 &&& (1048575 : Int32)).toInt64))])) _
    refine XS.l2dS X0.here hx rfl (hb hby at_27) rfl (v := (FP.l2d ((p1 &&& (1048575 : Int32)).toInt64))) rfl ?_
    show Steps p.tables e below (s₁.setTop (mkF m 28 #[.val (.int p0), .val (.int p1), .val (.int p2), .val (.int p3), .val (.long ((p1 &&& (1048575 : Int32)).toInt64)), .second, .val (.long ((p2 &&& (65535 : Int32)).toInt64)), .second, .val (.long ((p3 &&& (65535 : Int32)).toInt64)), .second, .val (.double (FP.i2d p0)), .second, .unset, .unset, .unset, .unset, .unset, .unset, .unset, .unset, .unset, .unset] [(.double (FP.l2d ((p1 &&& (1048575 : Int32)).toInt64)))])) _
    refine XS.dstore X0.here hx rfl (hb hby at_28) rfl (l' := #[.val (.int p0), .val (.int p1), .val (.int p2), .val (.int p3), .val (.long ((p1 &&& (1048575 : Int32)).toInt64)), .second, .val (.long ((p2 &&& (65535 : Int32)).toInt64)), .second, .val (.long ((p3 &&& (65535 : Int32)).toInt64)), .second, .val (.double (FP.i2d p0)), .second, .val (.double (FP.l2d ((p1 &&& (1048575 : Int32)).toInt64))), .second, .unset, .unset, .unset, .unset, .unset, .unset, .unset, .unset]) rfl ?_
    show Steps p.tables e below (s₁.setTop (mkF m 30 #[.val (.int p0), .val (.int p1), .val (.int p2), .val (.int p3), .val (.long ((p1 &&& (1048575 : Int32)).toInt64)), .second, .val (.long ((p2 &&& (65535 : Int32)).toInt64)), .second, .val (.long ((p3 &&& (65535 : Int32)).toInt64)), .second, .val (.double (FP.i2d p0)), .second, .val (.double (FP.l2d ((p1 &&& (1048575 : Int32)).toInt64))), .second, .unset, .unset, .unset, .unset, .unset, .unset, .unset, .unset] [])) _
    refine XS.lload X0.here hx rfl (hb hby at_30) rfl ?_
    show Steps p.tables e below (s₁.setTop (mkF m 32 #[.val (.int p0), .val (.int p1), .val (.int p2), .val (.int p3), .val (.long ((p1 &&& (1048575 : Int32)).toInt64)), .second, .val (.long ((p2 &&& (65535 : Int32)).toInt64)), .second, .val (.long ((p3 &&& (65535 : Int32)).toInt64)), .second, .val (.double (FP.i2d p0)), .second, .val (.double (FP.l2d ((p1 &&& (1048575 : Int32)).toInt64))), .second, .unset, .unset, .unset, .unset, .unset, .unset, .unset, .unset] [(.long ((p2 &&& (65535 : Int32)).toInt64))])) _
    refine XS.l2dS X0.here hx rfl (hb hby at_32) rfl (v := (FP.l2d ((p2 &&& (65535 : Int32)).toInt64))) rfl ?_
    show Steps p.tables e below (s₁.setTop (mkF m 33 #[.val (.int p0), .val (.int p1), .val (.int p2), .val (.int p3), .val (.long ((p1 &&& (1048575 : Int32)).toInt64)), .second, .val (.long ((p2 &&& (65535 : Int32)).toInt64)), .second, .val (.long ((p3 &&& (65535 : Int32)).toInt64)), .second, .val (.double (FP.i2d p0)), .second, .val (.double (FP.l2d ((p1 &&& (1048575 : Int32)).toInt64))), .second, .unset, .unset, .unset, .unset, .unset, .unset, .unset, .unset] [(.double (FP.l2d ((p2 &&& (65535 : Int32)).toInt64)))])) _
    refine X0.ldc2DoubleC hx hown (mvT hZ (hw _ (List.mem_of_getElem? (i := 2) rfl))) (g := (mkF m 33 #[.val (.int p0), .val (.int p1), .val (.int p2), .val (.int p3), .val (.long ((p1 &&& (1048575 : Int32)).toInt64)), .second, .val (.long ((p2 &&& (65535 : Int32)).toInt64)), .second, .val (.long ((p3 &&& (65535 : Int32)).toInt64)), .second, .val (.double (FP.i2d p0)), .second, .val (.double (FP.l2d ((p1 &&& (1048575 : Int32)).toInt64))), .second, .unset, .unset, .unset, .unset, .unset, .unset, .unset, .unset] [(.double (FP.l2d ((p2 &&& (65535 : Int32)).toInt64)))])) rfl (hb hby at_33) _ ?_
    show Steps p.tables e below (s₁.setTop (mkF m 36 #[.val (.int p0), .val (.int p1), .val (.int p2), .val (.int p3), .val (.long ((p1 &&& (1048575 : Int32)).toInt64)), .second, .val (.long ((p2 &&& (65535 : Int32)).toInt64)), .second, .val (.long ((p3 &&& (65535 : Int32)).toInt64)), .second, .val (.double (FP.i2d p0)), .second, .val (.double (FP.l2d ((p1 &&& (1048575 : Int32)).toInt64))), .second, .unset, .unset, .unset, .unset, .unset, .unset, .unset, .unset] [(.double (4742290407621132288 : UInt64)), (.double (FP.l2d ((p2 &&& (65535 : Int32)).toInt64)))])) _
    refine XS.ddivS X0.here hx rfl (hb hby at_36) rfl nn36 (v := (FP.ddiv (FP.l2d ((p2 &&& (65535 : Int32)).toInt64)) (4742290407621132288 : UInt64))) rfl ?_
    show Steps p.tables e below (s₁.setTop (mkF m 37 #[.val (.int p0), .val (.int p1), .val (.int p2), .val (.int p3), .val (.long ((p1 &&& (1048575 : Int32)).toInt64)), .second, .val (.long ((p2 &&& (65535 : Int32)).toInt64)), .second, .val (.long ((p3 &&& (65535 : Int32)).toInt64)), .second, .val (.double (FP.i2d p0)), .second, .val (.double (FP.l2d ((p1 &&& (1048575 : Int32)).toInt64))), .second, .unset, .unset, .unset, .unset, .unset, .unset, .unset, .unset] [(.double (FP.ddiv (FP.l2d ((p2 &&& (65535 : Int32)).toInt64)) (4742290407621132288 : UInt64)))])) _
    refine XS.dstore X0.here hx rfl (hb hby at_37) rfl (l' := #[.val (.int p0), .val (.int p1), .val (.int p2), .val (.int p3), .val (.long ((p1 &&& (1048575 : Int32)).toInt64)), .second, .val (.long ((p2 &&& (65535 : Int32)).toInt64)), .second, .val (.long ((p3 &&& (65535 : Int32)).toInt64)), .second, .val (.double (FP.i2d p0)), .second, .val (.double (FP.l2d ((p1 &&& (1048575 : Int32)).toInt64))), .second, .val (.double (FP.ddiv (FP.l2d ((p2 &&& (65535 : Int32)).toInt64)) (4742290407621132288 : UInt64))), .second, .unset, .unset, .unset, .unset, .unset, .unset]) rfl ?_
    show Steps p.tables e below (s₁.setTop (mkF m 39 #[.val (.int p0), .val (.int p1), .val (.int p2), .val (.int p3), .val (.long ((p1 &&& (1048575 : Int32)).toInt64)), .second, .val (.long ((p2 &&& (65535 : Int32)).toInt64)), .second, .val (.long ((p3 &&& (65535 : Int32)).toInt64)), .second, .val (.double (FP.i2d p0)), .second, .val (.double (FP.l2d ((p1 &&& (1048575 : Int32)).toInt64))), .second, .val (.double (FP.ddiv (FP.l2d ((p2 &&& (65535 : Int32)).toInt64)) (4742290407621132288 : UInt64))), .second, .unset, .unset, .unset, .unset, .unset, .unset] [])) _
    refine XS.lload X0.here hx rfl (hb hby at_39) rfl ?_
    show Steps p.tables e below (s₁.setTop (mkF m 41 #[.val (.int p0), .val (.int p1), .val (.int p2), .val (.int p3), .val (.long ((p1 &&& (1048575 : Int32)).toInt64)), .second, .val (.long ((p2 &&& (65535 : Int32)).toInt64)), .second, .val (.long ((p3 &&& (65535 : Int32)).toInt64)), .second, .val (.double (FP.i2d p0)), .second, .val (.double (FP.l2d ((p1 &&& (1048575 : Int32)).toInt64))), .second, .val (.double (FP.ddiv (FP.l2d ((p2 &&& (65535 : Int32)).toInt64)) (4742290407621132288 : UInt64))), .second, .unset, .unset, .unset, .unset, .unset, .unset] [(.long ((p3 &&& (65535 : Int32)).toInt64))])) _
    refine XS.l2dS X0.here hx rfl (hb hby at_41) rfl (v := (FP.l2d ((p3 &&& (65535 : Int32)).toInt64))) rfl ?_
    show Steps p.tables e below (s₁.setTop (mkF m 42 #[.val (.int p0), .val (.int p1), .val (.int p2), .val (.int p3), .val (.long ((p1 &&& (1048575 : Int32)).toInt64)), .second, .val (.long ((p2 &&& (65535 : Int32)).toInt64)), .second, .val (.long ((p3 &&& (65535 : Int32)).toInt64)), .second, .val (.double (FP.i2d p0)), .second, .val (.double (FP.l2d ((p1 &&& (1048575 : Int32)).toInt64))), .second, .val (.double (FP.ddiv (FP.l2d ((p2 &&& (65535 : Int32)).toInt64)) (4742290407621132288 : UInt64))), .second, .unset, .unset, .unset, .unset, .unset, .unset] [(.double (FP.l2d ((p3 &&& (65535 : Int32)).toInt64)))])) _
    refine XS.dstore X0.here hx rfl (hb hby at_42) rfl (l' := #[.val (.int p0), .val (.int p1), .val (.int p2), .val (.int p3), .val (.long ((p1 &&& (1048575 : Int32)).toInt64)), .second, .val (.long ((p2 &&& (65535 : Int32)).toInt64)), .second, .val (.long ((p3 &&& (65535 : Int32)).toInt64)), .second, .val (.double (FP.i2d p0)), .second, .val (.double (FP.l2d ((p1 &&& (1048575 : Int32)).toInt64))), .second, .val (.double (FP.ddiv (FP.l2d ((p2 &&& (65535 : Int32)).toInt64)) (4742290407621132288 : UInt64))), .second, .val (.double (FP.l2d ((p3 &&& (65535 : Int32)).toInt64))), .second, .unset, .unset, .unset, .unset]) rfl ?_
    show Steps p.tables e below (s₁.setTop (mkF m 44 #[.val (.int p0), .val (.int p1), .val (.int p2), .val (.int p3), .val (.long ((p1 &&& (1048575 : Int32)).toInt64)), .second, .val (.long ((p2 &&& (65535 : Int32)).toInt64)), .second, .val (.long ((p3 &&& (65535 : Int32)).toInt64)), .second, .val (.double (FP.i2d p0)), .second, .val (.double (FP.l2d ((p1 &&& (1048575 : Int32)).toInt64))), .second, .val (.double (FP.ddiv (FP.l2d ((p2 &&& (65535 : Int32)).toInt64)) (4742290407621132288 : UInt64))), .second, .val (.double (FP.l2d ((p3 &&& (65535 : Int32)).toInt64))), .second, .unset, .unset, .unset, .unset] [])) _
    refine XS.dload X0.here hx rfl (hb hby at_44) rfl ?_
    show Steps p.tables e below (s₁.setTop (mkF m 46 #[.val (.int p0), .val (.int p1), .val (.int p2), .val (.int p3), .val (.long ((p1 &&& (1048575 : Int32)).toInt64)), .second, .val (.long ((p2 &&& (65535 : Int32)).toInt64)), .second, .val (.long ((p3 &&& (65535 : Int32)).toInt64)), .second, .val (.double (FP.i2d p0)), .second, .val (.double (FP.l2d ((p1 &&& (1048575 : Int32)).toInt64))), .second, .val (.double (FP.ddiv (FP.l2d ((p2 &&& (65535 : Int32)).toInt64)) (4742290407621132288 : UInt64))), .second, .val (.double (FP.l2d ((p3 &&& (65535 : Int32)).toInt64))), .second, .unset, .unset, .unset, .unset] [(.double (FP.i2d p0))])) _
    refine XS.dload X0.here hx rfl (hb hby at_46) rfl ?_
    show Steps p.tables e below (s₁.setTop (mkF m 48 #[.val (.int p0), .val (.int p1), .val (.int p2), .val (.int p3), .val (.long ((p1 &&& (1048575 : Int32)).toInt64)), .second, .val (.long ((p2 &&& (65535 : Int32)).toInt64)), .second, .val (.long ((p3 &&& (65535 : Int32)).toInt64)), .second, .val (.double (FP.i2d p0)), .second, .val (.double (FP.l2d ((p1 &&& (1048575 : Int32)).toInt64))), .second, .val (.double (FP.ddiv (FP.l2d ((p2 &&& (65535 : Int32)).toInt64)) (4742290407621132288 : UInt64))), .second, .val (.double (FP.l2d ((p3 &&& (65535 : Int32)).toInt64))), .second, .unset, .unset, .unset, .unset] [(.double (FP.l2d ((p1 &&& (1048575 : Int32)).toInt64))), (.double (FP.i2d p0))])) _
    refine XS.dload X0.here hx rfl (hb hby at_48) rfl ?_
    show Steps p.tables e below (s₁.setTop (mkF m 50 #[.val (.int p0), .val (.int p1), .val (.int p2), .val (.int p3), .val (.long ((p1 &&& (1048575 : Int32)).toInt64)), .second, .val (.long ((p2 &&& (65535 : Int32)).toInt64)), .second, .val (.long ((p3 &&& (65535 : Int32)).toInt64)), .second, .val (.double (FP.i2d p0)), .second, .val (.double (FP.l2d ((p1 &&& (1048575 : Int32)).toInt64))), .second, .val (.double (FP.ddiv (FP.l2d ((p2 &&& (65535 : Int32)).toInt64)) (4742290407621132288 : UInt64))), .second, .val (.double (FP.l2d ((p3 &&& (65535 : Int32)).toInt64))), .second, .unset, .unset, .unset, .unset] [(.double (FP.ddiv (FP.l2d ((p2 &&& (65535 : Int32)).toInt64)) (4742290407621132288 : UInt64))), (.double (FP.l2d ((p1 &&& (1048575 : Int32)).toInt64))), (.double (FP.i2d p0))])) _
    refine XS.dload X0.here hx rfl (hb hby at_50) rfl ?_
    show Steps p.tables e below (s₁.setTop (mkF m 52 #[.val (.int p0), .val (.int p1), .val (.int p2), .val (.int p3), .val (.long ((p1 &&& (1048575 : Int32)).toInt64)), .second, .val (.long ((p2 &&& (65535 : Int32)).toInt64)), .second, .val (.long ((p3 &&& (65535 : Int32)).toInt64)), .second, .val (.double (FP.i2d p0)), .second, .val (.double (FP.l2d ((p1 &&& (1048575 : Int32)).toInt64))), .second, .val (.double (FP.ddiv (FP.l2d ((p2 &&& (65535 : Int32)).toInt64)) (4742290407621132288 : UInt64))), .second, .val (.double (FP.l2d ((p3 &&& (65535 : Int32)).toInt64))), .second, .unset, .unset, .unset, .unset] [(.double (FP.l2d ((p3 &&& (65535 : Int32)).toInt64))), (.double (FP.ddiv (FP.l2d ((p2 &&& (65535 : Int32)).toInt64)) (4742290407621132288 : UInt64))), (.double (FP.l2d ((p1 &&& (1048575 : Int32)).toInt64))), (.double (FP.i2d p0))])) _
    refine st1 _ ?_
    show Steps p.tables e below (T1.setTop (mkF m 55 #[.val (.int p0), .val (.int p1), .val (.int p2), .val (.int p3), .val (.long ((p1 &&& (1048575 : Int32)).toInt64)), .second, .val (.long ((p2 &&& (65535 : Int32)).toInt64)), .second, .val (.long ((p3 &&& (65535 : Int32)).toInt64)), .second, .val (.double (FP.i2d p0)), .second, .val (.double (FP.l2d ((p1 &&& (1048575 : Int32)).toInt64))), .second, .val (.double (FP.ddiv (FP.l2d ((p2 &&& (65535 : Int32)).toInt64)) (4742290407621132288 : UInt64))), .second, .val (.double (FP.l2d ((p3 &&& (65535 : Int32)).toInt64))), .second, .unset, .unset, .unset, .unset] [(.int (0 : Int32))])) _
    refine XS.istore X1.here hx rfl (hb hby at_55) rfl (l' := #[.val (.int p0), .val (.int p1), .val (.int p2), .val (.int p3), .val (.long ((p1 &&& (1048575 : Int32)).toInt64)), .second, .val (.long ((p2 &&& (65535 : Int32)).toInt64)), .second, .val (.long ((p3 &&& (65535 : Int32)).toInt64)), .second, .val (.double (FP.i2d p0)), .second, .val (.double (FP.l2d ((p1 &&& (1048575 : Int32)).toInt64))), .second, .val (.double (FP.ddiv (FP.l2d ((p2 &&& (65535 : Int32)).toInt64)) (4742290407621132288 : UInt64))), .second, .val (.double (FP.l2d ((p3 &&& (65535 : Int32)).toInt64))), .second, .val (.int (0 : Int32)), .unset, .unset, .unset]) rfl ?_
    show Steps p.tables e below (T1.setTop (mkF m 57 #[.val (.int p0), .val (.int p1), .val (.int p2), .val (.int p3), .val (.long ((p1 &&& (1048575 : Int32)).toInt64)), .second, .val (.long ((p2 &&& (65535 : Int32)).toInt64)), .second, .val (.long ((p3 &&& (65535 : Int32)).toInt64)), .second, .val (.double (FP.i2d p0)), .second, .val (.double (FP.l2d ((p1 &&& (1048575 : Int32)).toInt64))), .second, .val (.double (FP.ddiv (FP.l2d ((p2 &&& (65535 : Int32)).toInt64)) (4742290407621132288 : UInt64))), .second, .val (.double (FP.l2d ((p3 &&& (65535 : Int32)).toInt64))), .second, .val (.int (0 : Int32)), .unset, .unset, .unset] [])) _
    refine X1.ldc2Long hx hown (mvT hZ (hw _ (List.mem_of_getElem? (i := 8) rfl))) (g := (mkF m 57 #[.val (.int p0), .val (.int p1), .val (.int p2), .val (.int p3), .val (.long ((p1 &&& (1048575 : Int32)).toInt64)), .second, .val (.long ((p2 &&& (65535 : Int32)).toInt64)), .second, .val (.long ((p3 &&& (65535 : Int32)).toInt64)), .second, .val (.double (FP.i2d p0)), .second, .val (.double (FP.l2d ((p1 &&& (1048575 : Int32)).toInt64))), .second, .val (.double (FP.ddiv (FP.l2d ((p2 &&& (65535 : Int32)).toInt64)) (4742290407621132288 : UInt64))), .second, .val (.double (FP.l2d ((p3 &&& (65535 : Int32)).toInt64))), .second, .val (.int (0 : Int32)), .unset, .unset, .unset] [])) rfl (hb hby at_57) _ ?_
    show Steps p.tables e below (T1.setTop (mkF m 60 #[.val (.int p0), .val (.int p1), .val (.int p2), .val (.int p3), .val (.long ((p1 &&& (1048575 : Int32)).toInt64)), .second, .val (.long ((p2 &&& (65535 : Int32)).toInt64)), .second, .val (.long ((p3 &&& (65535 : Int32)).toInt64)), .second, .val (.double (FP.i2d p0)), .second, .val (.double (FP.l2d ((p1 &&& (1048575 : Int32)).toInt64))), .second, .val (.double (FP.ddiv (FP.l2d ((p2 &&& (65535 : Int32)).toInt64)) (4742290407621132288 : UInt64))), .second, .val (.double (FP.l2d ((p3 &&& (65535 : Int32)).toInt64))), .second, .val (.int (0 : Int32)), .unset, .unset, .unset] [(.long (1073741824 : Int64))])) _
    refine XS.lstore X1.here hx rfl (hb hby at_60) rfl (l' := #[.val (.int p0), .val (.int p1), .val (.int p2), .val (.int p3), .val (.long ((p1 &&& (1048575 : Int32)).toInt64)), .second, .val (.long ((p2 &&& (65535 : Int32)).toInt64)), .second, .val (.long ((p3 &&& (65535 : Int32)).toInt64)), .second, .val (.double (FP.i2d p0)), .second, .val (.double (FP.l2d ((p1 &&& (1048575 : Int32)).toInt64))), .second, .val (.double (FP.ddiv (FP.l2d ((p2 &&& (65535 : Int32)).toInt64)) (4742290407621132288 : UInt64))), .second, .val (.double (FP.l2d ((p3 &&& (65535 : Int32)).toInt64))), .second, .val (.int (0 : Int32)), .val (.long (1073741824 : Int64)), .second, .unset]) rfl ?_
    show Steps p.tables e below (T1.setTop (mkF m 62 #[.val (.int p0), .val (.int p1), .val (.int p2), .val (.int p3), .val (.long ((p1 &&& (1048575 : Int32)).toInt64)), .second, .val (.long ((p2 &&& (65535 : Int32)).toInt64)), .second, .val (.long ((p3 &&& (65535 : Int32)).toInt64)), .second, .val (.double (FP.i2d p0)), .second, .val (.double (FP.l2d ((p1 &&& (1048575 : Int32)).toInt64))), .second, .val (.double (FP.ddiv (FP.l2d ((p2 &&& (65535 : Int32)).toInt64)) (4742290407621132288 : UInt64))), .second, .val (.double (FP.l2d ((p3 &&& (65535 : Int32)).toInt64))), .second, .val (.int (0 : Int32)), .val (.long (1073741824 : Int64)), .second, .unset] [])) _
    refine XS.iloadN X1.here hx rfl (hb hby at_62) rfl ?_
    show Steps p.tables e below (T1.setTop (mkF m 63 #[.val (.int p0), .val (.int p1), .val (.int p2), .val (.int p3), .val (.long ((p1 &&& (1048575 : Int32)).toInt64)), .second, .val (.long ((p2 &&& (65535 : Int32)).toInt64)), .second, .val (.long ((p3 &&& (65535 : Int32)).toInt64)), .second, .val (.double (FP.i2d p0)), .second, .val (.double (FP.l2d ((p1 &&& (1048575 : Int32)).toInt64))), .second, .val (.double (FP.ddiv (FP.l2d ((p2 &&& (65535 : Int32)).toInt64)) (4742290407621132288 : UInt64))), .second, .val (.double (FP.l2d ((p3 &&& (65535 : Int32)).toInt64))), .second, .val (.int (0 : Int32)), .val (.long (1073741824 : Int64)), .second, .unset] [(.int p0)])) _
    refine XS.i2l X1.here hx rfl (hb hby at_63) rfl ?_
    show Steps p.tables e below (T1.setTop (mkF m 64 #[.val (.int p0), .val (.int p1), .val (.int p2), .val (.int p3), .val (.long ((p1 &&& (1048575 : Int32)).toInt64)), .second, .val (.long ((p2 &&& (65535 : Int32)).toInt64)), .second, .val (.long ((p3 &&& (65535 : Int32)).toInt64)), .second, .val (.double (FP.i2d p0)), .second, .val (.double (FP.l2d ((p1 &&& (1048575 : Int32)).toInt64))), .second, .val (.double (FP.ddiv (FP.l2d ((p2 &&& (65535 : Int32)).toInt64)) (4742290407621132288 : UInt64))), .second, .val (.double (FP.l2d ((p3 &&& (65535 : Int32)).toInt64))), .second, .val (.int (0 : Int32)), .val (.long (1073741824 : Int64)), .second, .unset] [(.long (p0.toInt64))])) _
    refine XS.lload X1.here hx rfl (hb hby at_64) rfl ?_
    show Steps p.tables e below (T1.setTop (mkF m 66 #[.val (.int p0), .val (.int p1), .val (.int p2), .val (.int p3), .val (.long ((p1 &&& (1048575 : Int32)).toInt64)), .second, .val (.long ((p2 &&& (65535 : Int32)).toInt64)), .second, .val (.long ((p3 &&& (65535 : Int32)).toInt64)), .second, .val (.double (FP.i2d p0)), .second, .val (.double (FP.l2d ((p1 &&& (1048575 : Int32)).toInt64))), .second, .val (.double (FP.ddiv (FP.l2d ((p2 &&& (65535 : Int32)).toInt64)) (4742290407621132288 : UInt64))), .second, .val (.double (FP.l2d ((p3 &&& (65535 : Int32)).toInt64))), .second, .val (.int (0 : Int32)), .val (.long (1073741824 : Int64)), .second, .unset] [(.long (1073741824 : Int64)), (.long (p0.toInt64))])) _
    refine XS.lmul X1.here hx rfl (hb hby at_66) rfl ?_
    show Steps p.tables e below (T1.setTop (mkF m 67 #[.val (.int p0), .val (.int p1), .val (.int p2), .val (.int p3), .val (.long ((p1 &&& (1048575 : Int32)).toInt64)), .second, .val (.long ((p2 &&& (65535 : Int32)).toInt64)), .second, .val (.long ((p3 &&& (65535 : Int32)).toInt64)), .second, .val (.double (FP.i2d p0)), .second, .val (.double (FP.l2d ((p1 &&& (1048575 : Int32)).toInt64))), .second, .val (.double (FP.ddiv (FP.l2d ((p2 &&& (65535 : Int32)).toInt64)) (4742290407621132288 : UInt64))), .second, .val (.double (FP.l2d ((p3 &&& (65535 : Int32)).toInt64))), .second, .val (.int (0 : Int32)), .val (.long (1073741824 : Int64)), .second, .unset] [(.long ((p0.toInt64) * (1073741824 : Int64)))])) _
    refine XS.lload X1.here hx rfl (hb hby at_67) rfl ?_
    show Steps p.tables e below (T1.setTop (mkF m 69 #[.val (.int p0), .val (.int p1), .val (.int p2), .val (.int p3), .val (.long ((p1 &&& (1048575 : Int32)).toInt64)), .second, .val (.long ((p2 &&& (65535 : Int32)).toInt64)), .second, .val (.long ((p3 &&& (65535 : Int32)).toInt64)), .second, .val (.double (FP.i2d p0)), .second, .val (.double (FP.l2d ((p1 &&& (1048575 : Int32)).toInt64))), .second, .val (.double (FP.ddiv (FP.l2d ((p2 &&& (65535 : Int32)).toInt64)) (4742290407621132288 : UInt64))), .second, .val (.double (FP.l2d ((p3 &&& (65535 : Int32)).toInt64))), .second, .val (.int (0 : Int32)), .val (.long (1073741824 : Int64)), .second, .unset] [(.long ((p1 &&& (1048575 : Int32)).toInt64)), (.long ((p0.toInt64) * (1073741824 : Int64)))])) _
    refine XS.lload X1.here hx rfl (hb hby at_69) rfl ?_
    show Steps p.tables e below (T1.setTop (mkF m 71 #[.val (.int p0), .val (.int p1), .val (.int p2), .val (.int p3), .val (.long ((p1 &&& (1048575 : Int32)).toInt64)), .second, .val (.long ((p2 &&& (65535 : Int32)).toInt64)), .second, .val (.long ((p3 &&& (65535 : Int32)).toInt64)), .second, .val (.double (FP.i2d p0)), .second, .val (.double (FP.l2d ((p1 &&& (1048575 : Int32)).toInt64))), .second, .val (.double (FP.ddiv (FP.l2d ((p2 &&& (65535 : Int32)).toInt64)) (4742290407621132288 : UInt64))), .second, .val (.double (FP.l2d ((p3 &&& (65535 : Int32)).toInt64))), .second, .val (.int (0 : Int32)), .val (.long (1073741824 : Int64)), .second, .unset] [(.long (1073741824 : Int64)), (.long ((p1 &&& (1048575 : Int32)).toInt64)), (.long ((p0.toInt64) * (1073741824 : Int64)))])) _
    refine XS.lmul X1.here hx rfl (hb hby at_71) rfl ?_
    show Steps p.tables e below (T1.setTop (mkF m 72 #[.val (.int p0), .val (.int p1), .val (.int p2), .val (.int p3), .val (.long ((p1 &&& (1048575 : Int32)).toInt64)), .second, .val (.long ((p2 &&& (65535 : Int32)).toInt64)), .second, .val (.long ((p3 &&& (65535 : Int32)).toInt64)), .second, .val (.double (FP.i2d p0)), .second, .val (.double (FP.l2d ((p1 &&& (1048575 : Int32)).toInt64))), .second, .val (.double (FP.ddiv (FP.l2d ((p2 &&& (65535 : Int32)).toInt64)) (4742290407621132288 : UInt64))), .second, .val (.double (FP.l2d ((p3 &&& (65535 : Int32)).toInt64))), .second, .val (.int (0 : Int32)), .val (.long (1073741824 : Int64)), .second, .unset] [(.long (((p1 &&& (1048575 : Int32)).toInt64) * (1073741824 : Int64))), (.long ((p0.toInt64) * (1073741824 : Int64)))])) _
    refine X1.ldc2Long hx hown (mvT hZ (hw _ (List.mem_of_getElem? (i := 9) rfl))) (g := (mkF m 72 #[.val (.int p0), .val (.int p1), .val (.int p2), .val (.int p3), .val (.long ((p1 &&& (1048575 : Int32)).toInt64)), .second, .val (.long ((p2 &&& (65535 : Int32)).toInt64)), .second, .val (.long ((p3 &&& (65535 : Int32)).toInt64)), .second, .val (.double (FP.i2d p0)), .second, .val (.double (FP.l2d ((p1 &&& (1048575 : Int32)).toInt64))), .second, .val (.double (FP.ddiv (FP.l2d ((p2 &&& (65535 : Int32)).toInt64)) (4742290407621132288 : UInt64))), .second, .val (.double (FP.l2d ((p3 &&& (65535 : Int32)).toInt64))), .second, .val (.int (0 : Int32)), .val (.long (1073741824 : Int64)), .second, .unset] [(.long (((p1 &&& (1048575 : Int32)).toInt64) * (1073741824 : Int64))), (.long ((p0.toInt64) * (1073741824 : Int64)))])) rfl (hb hby at_72) _ ?_
    show Steps p.tables e below (T1.setTop (mkF m 75 #[.val (.int p0), .val (.int p1), .val (.int p2), .val (.int p3), .val (.long ((p1 &&& (1048575 : Int32)).toInt64)), .second, .val (.long ((p2 &&& (65535 : Int32)).toInt64)), .second, .val (.long ((p3 &&& (65535 : Int32)).toInt64)), .second, .val (.double (FP.i2d p0)), .second, .val (.double (FP.l2d ((p1 &&& (1048575 : Int32)).toInt64))), .second, .val (.double (FP.ddiv (FP.l2d ((p2 &&& (65535 : Int32)).toInt64)) (4742290407621132288 : UInt64))), .second, .val (.double (FP.l2d ((p3 &&& (65535 : Int32)).toInt64))), .second, .val (.int (0 : Int32)), .val (.long (1073741824 : Int64)), .second, .unset] [(.long (2 : Int64)), (.long (((p1 &&& (1048575 : Int32)).toInt64) * (1073741824 : Int64))), (.long ((p0.toInt64) * (1073741824 : Int64)))])) _
    refine XS.lload X1.here hx rfl (hb hby at_75) rfl ?_
    show Steps p.tables e below (T1.setTop (mkF m 77 #[.val (.int p0), .val (.int p1), .val (.int p2), .val (.int p3), .val (.long ((p1 &&& (1048575 : Int32)).toInt64)), .second, .val (.long ((p2 &&& (65535 : Int32)).toInt64)), .second, .val (.long ((p3 &&& (65535 : Int32)).toInt64)), .second, .val (.double (FP.i2d p0)), .second, .val (.double (FP.l2d ((p1 &&& (1048575 : Int32)).toInt64))), .second, .val (.double (FP.ddiv (FP.l2d ((p2 &&& (65535 : Int32)).toInt64)) (4742290407621132288 : UInt64))), .second, .val (.double (FP.l2d ((p3 &&& (65535 : Int32)).toInt64))), .second, .val (.int (0 : Int32)), .val (.long (1073741824 : Int64)), .second, .unset] [(.long ((p2 &&& (65535 : Int32)).toInt64)), (.long (2 : Int64)), (.long (((p1 &&& (1048575 : Int32)).toInt64) * (1073741824 : Int64))), (.long ((p0.toInt64) * (1073741824 : Int64)))])) _
    refine XS.lmul X1.here hx rfl (hb hby at_77) rfl ?_
    show Steps p.tables e below (T1.setTop (mkF m 78 #[.val (.int p0), .val (.int p1), .val (.int p2), .val (.int p3), .val (.long ((p1 &&& (1048575 : Int32)).toInt64)), .second, .val (.long ((p2 &&& (65535 : Int32)).toInt64)), .second, .val (.long ((p3 &&& (65535 : Int32)).toInt64)), .second, .val (.double (FP.i2d p0)), .second, .val (.double (FP.l2d ((p1 &&& (1048575 : Int32)).toInt64))), .second, .val (.double (FP.ddiv (FP.l2d ((p2 &&& (65535 : Int32)).toInt64)) (4742290407621132288 : UInt64))), .second, .val (.double (FP.l2d ((p3 &&& (65535 : Int32)).toInt64))), .second, .val (.int (0 : Int32)), .val (.long (1073741824 : Int64)), .second, .unset] [(.long ((2 : Int64) * ((p2 &&& (65535 : Int32)).toInt64))), (.long (((p1 &&& (1048575 : Int32)).toInt64) * (1073741824 : Int64))), (.long ((p0.toInt64) * (1073741824 : Int64)))])) _
    refine XS.lload X1.here hx rfl (hb hby at_78) rfl ?_
    show Steps p.tables e below (T1.setTop (mkF m 80 #[.val (.int p0), .val (.int p1), .val (.int p2), .val (.int p3), .val (.long ((p1 &&& (1048575 : Int32)).toInt64)), .second, .val (.long ((p2 &&& (65535 : Int32)).toInt64)), .second, .val (.long ((p3 &&& (65535 : Int32)).toInt64)), .second, .val (.double (FP.i2d p0)), .second, .val (.double (FP.l2d ((p1 &&& (1048575 : Int32)).toInt64))), .second, .val (.double (FP.ddiv (FP.l2d ((p2 &&& (65535 : Int32)).toInt64)) (4742290407621132288 : UInt64))), .second, .val (.double (FP.l2d ((p3 &&& (65535 : Int32)).toInt64))), .second, .val (.int (0 : Int32)), .val (.long (1073741824 : Int64)), .second, .unset] [(.long ((p3 &&& (65535 : Int32)).toInt64)), (.long ((2 : Int64) * ((p2 &&& (65535 : Int32)).toInt64))), (.long (((p1 &&& (1048575 : Int32)).toInt64) * (1073741824 : Int64))), (.long ((p0.toInt64) * (1073741824 : Int64)))])) _
    refine XS.lmul X1.here hx rfl (hb hby at_80) rfl ?_
    show Steps p.tables e below (T1.setTop (mkF m 81 #[.val (.int p0), .val (.int p1), .val (.int p2), .val (.int p3), .val (.long ((p1 &&& (1048575 : Int32)).toInt64)), .second, .val (.long ((p2 &&& (65535 : Int32)).toInt64)), .second, .val (.long ((p3 &&& (65535 : Int32)).toInt64)), .second, .val (.double (FP.i2d p0)), .second, .val (.double (FP.l2d ((p1 &&& (1048575 : Int32)).toInt64))), .second, .val (.double (FP.ddiv (FP.l2d ((p2 &&& (65535 : Int32)).toInt64)) (4742290407621132288 : UInt64))), .second, .val (.double (FP.l2d ((p3 &&& (65535 : Int32)).toInt64))), .second, .val (.int (0 : Int32)), .val (.long (1073741824 : Int64)), .second, .unset] [(.long (((2 : Int64) * ((p2 &&& (65535 : Int32)).toInt64)) * ((p3 &&& (65535 : Int32)).toInt64))), (.long (((p1 &&& (1048575 : Int32)).toInt64) * (1073741824 : Int64))), (.long ((p0.toInt64) * (1073741824 : Int64)))])) _
    refine XS.ladd X1.here hx rfl (hb hby at_81) rfl ?_
    show Steps p.tables e below (T1.setTop (mkF m 82 #[.val (.int p0), .val (.int p1), .val (.int p2), .val (.int p3), .val (.long ((p1 &&& (1048575 : Int32)).toInt64)), .second, .val (.long ((p2 &&& (65535 : Int32)).toInt64)), .second, .val (.long ((p3 &&& (65535 : Int32)).toInt64)), .second, .val (.double (FP.i2d p0)), .second, .val (.double (FP.l2d ((p1 &&& (1048575 : Int32)).toInt64))), .second, .val (.double (FP.ddiv (FP.l2d ((p2 &&& (65535 : Int32)).toInt64)) (4742290407621132288 : UInt64))), .second, .val (.double (FP.l2d ((p3 &&& (65535 : Int32)).toInt64))), .second, .val (.int (0 : Int32)), .val (.long (1073741824 : Int64)), .second, .unset] [(.long ((((p1 &&& (1048575 : Int32)).toInt64) * (1073741824 : Int64)) + (((2 : Int64) * ((p2 &&& (65535 : Int32)).toInt64)) * ((p3 &&& (65535 : Int32)).toInt64)))), (.long ((p0.toInt64) * (1073741824 : Int64)))])) _
    refine XS.lneg X1.here hx rfl (hb hby at_82) rfl ?_
    show Steps p.tables e below (T1.setTop (mkF m 83 #[.val (.int p0), .val (.int p1), .val (.int p2), .val (.int p3), .val (.long ((p1 &&& (1048575 : Int32)).toInt64)), .second, .val (.long ((p2 &&& (65535 : Int32)).toInt64)), .second, .val (.long ((p3 &&& (65535 : Int32)).toInt64)), .second, .val (.double (FP.i2d p0)), .second, .val (.double (FP.l2d ((p1 &&& (1048575 : Int32)).toInt64))), .second, .val (.double (FP.ddiv (FP.l2d ((p2 &&& (65535 : Int32)).toInt64)) (4742290407621132288 : UInt64))), .second, .val (.double (FP.l2d ((p3 &&& (65535 : Int32)).toInt64))), .second, .val (.int (0 : Int32)), .val (.long (1073741824 : Int64)), .second, .unset] [(.long (-((((p1 &&& (1048575 : Int32)).toInt64) * (1073741824 : Int64)) + (((2 : Int64) * ((p2 &&& (65535 : Int32)).toInt64)) * ((p3 &&& (65535 : Int32)).toInt64))))), (.long ((p0.toInt64) * (1073741824 : Int64)))])) _
    refine XS.lcmp X1.here hx rfl (hb hby at_83) rfl ?_
    show Steps p.tables e below (T1.setTop (mkF m 84 #[.val (.int p0), .val (.int p1), .val (.int p2), .val (.int p3), .val (.long ((p1 &&& (1048575 : Int32)).toInt64)), .second, .val (.long ((p2 &&& (65535 : Int32)).toInt64)), .second, .val (.long ((p3 &&& (65535 : Int32)).toInt64)), .second, .val (.double (FP.i2d p0)), .second, .val (.double (FP.l2d ((p1 &&& (1048575 : Int32)).toInt64))), .second, .val (.double (FP.ddiv (FP.l2d ((p2 &&& (65535 : Int32)).toInt64)) (4742290407621132288 : UInt64))), .second, .val (.double (FP.l2d ((p3 &&& (65535 : Int32)).toInt64))), .second, .val (.int (0 : Int32)), .val (.long (1073741824 : Int64)), .second, .unset] [(.int (lcmpW ((p0.toInt64) * (1073741824 : Int64)) (-((((p1 &&& (1048575 : Int32)).toInt64) * (1073741824 : Int64)) + (((2 : Int64) * ((p2 &&& (65535 : Int32)).toInt64)) * ((p3 &&& (65535 : Int32)).toInt64))))))])) _
    refine XS.ifYes X1.here hx rfl (pc0 := 84) (pc' := 91) rfl (hb hby at_84) rfl ((if0 _ _).trans (flt hc84).2.1) (by decide) (by decide) ?_
    show Steps p.tables e below (T1.setTop (mkF m 91 #[.val (.int p0), .val (.int p1), .val (.int p2), .val (.int p3), .val (.long ((p1 &&& (1048575 : Int32)).toInt64)), .second, .val (.long ((p2 &&& (65535 : Int32)).toInt64)), .second, .val (.long ((p3 &&& (65535 : Int32)).toInt64)), .second, .val (.double (FP.i2d p0)), .second, .val (.double (FP.l2d ((p1 &&& (1048575 : Int32)).toInt64))), .second, .val (.double (FP.ddiv (FP.l2d ((p2 &&& (65535 : Int32)).toInt64)) (4742290407621132288 : UInt64))), .second, .val (.double (FP.l2d ((p3 &&& (65535 : Int32)).toInt64))), .second, .val (.int (0 : Int32)), .val (.long (1073741824 : Int64)), .second, .unset] [])) _
    refine XS.iconst X1.here hx rfl (hb hby at_91) ?_
    show Steps p.tables e below (T1.setTop (mkF m 92 #[.val (.int p0), .val (.int p1), .val (.int p2), .val (.int p3), .val (.long ((p1 &&& (1048575 : Int32)).toInt64)), .second, .val (.long ((p2 &&& (65535 : Int32)).toInt64)), .second, .val (.long ((p3 &&& (65535 : Int32)).toInt64)), .second, .val (.double (FP.i2d p0)), .second, .val (.double (FP.l2d ((p1 &&& (1048575 : Int32)).toInt64))), .second, .val (.double (FP.ddiv (FP.l2d ((p2 &&& (65535 : Int32)).toInt64)) (4742290407621132288 : UInt64))), .second, .val (.double (FP.l2d ((p3 &&& (65535 : Int32)).toInt64))), .second, .val (.int (0 : Int32)), .val (.long (1073741824 : Int64)), .second, .unset] [(.int (0 : Int32))])) _
    refine XS.istore X1.here hx rfl (hb hby at_92) rfl (l' := #[.val (.int p0), .val (.int p1), .val (.int p2), .val (.int p3), .val (.long ((p1 &&& (1048575 : Int32)).toInt64)), .second, .val (.long ((p2 &&& (65535 : Int32)).toInt64)), .second, .val (.long ((p3 &&& (65535 : Int32)).toInt64)), .second, .val (.double (FP.i2d p0)), .second, .val (.double (FP.l2d ((p1 &&& (1048575 : Int32)).toInt64))), .second, .val (.double (FP.ddiv (FP.l2d ((p2 &&& (65535 : Int32)).toInt64)) (4742290407621132288 : UInt64))), .second, .val (.double (FP.l2d ((p3 &&& (65535 : Int32)).toInt64))), .second, .val (.int (0 : Int32)), .val (.long (1073741824 : Int64)), .second, .val (.int (0 : Int32))]) rfl ?_
    show Steps p.tables e below (T1.setTop (mkF m 94 #[.val (.int p0), .val (.int p1), .val (.int p2), .val (.int p3), .val (.long ((p1 &&& (1048575 : Int32)).toInt64)), .second, .val (.long ((p2 &&& (65535 : Int32)).toInt64)), .second, .val (.long ((p3 &&& (65535 : Int32)).toInt64)), .second, .val (.double (FP.i2d p0)), .second, .val (.double (FP.l2d ((p1 &&& (1048575 : Int32)).toInt64))), .second, .val (.double (FP.ddiv (FP.l2d ((p2 &&& (65535 : Int32)).toInt64)) (4742290407621132288 : UInt64))), .second, .val (.double (FP.l2d ((p3 &&& (65535 : Int32)).toInt64))), .second, .val (.int (0 : Int32)), .val (.long (1073741824 : Int64)), .second, .val (.int (0 : Int32))] [])) _
    refine XS.iload X1.here hx rfl (hb hby at_94) rfl ?_
    show Steps p.tables e below (T1.setTop (mkF m 96 #[.val (.int p0), .val (.int p1), .val (.int p2), .val (.int p3), .val (.long ((p1 &&& (1048575 : Int32)).toInt64)), .second, .val (.long ((p2 &&& (65535 : Int32)).toInt64)), .second, .val (.long ((p3 &&& (65535 : Int32)).toInt64)), .second, .val (.double (FP.i2d p0)), .second, .val (.double (FP.l2d ((p1 &&& (1048575 : Int32)).toInt64))), .second, .val (.double (FP.ddiv (FP.l2d ((p2 &&& (65535 : Int32)).toInt64)) (4742290407621132288 : UInt64))), .second, .val (.double (FP.l2d ((p3 &&& (65535 : Int32)).toInt64))), .second, .val (.int (0 : Int32)), .val (.long (1073741824 : Int64)), .second, .val (.int (0 : Int32))] [(.int (0 : Int32))])) _
    refine XS.iload X1.here hx rfl (hb hby at_96) rfl ?_
    show Steps p.tables e below (T1.setTop (mkF m 98 #[.val (.int p0), .val (.int p1), .val (.int p2), .val (.int p3), .val (.long ((p1 &&& (1048575 : Int32)).toInt64)), .second, .val (.long ((p2 &&& (65535 : Int32)).toInt64)), .second, .val (.long ((p3 &&& (65535 : Int32)).toInt64)), .second, .val (.double (FP.i2d p0)), .second, .val (.double (FP.l2d ((p1 &&& (1048575 : Int32)).toInt64))), .second, .val (.double (FP.ddiv (FP.l2d ((p2 &&& (65535 : Int32)).toInt64)) (4742290407621132288 : UInt64))), .second, .val (.double (FP.l2d ((p3 &&& (65535 : Int32)).toInt64))), .second, .val (.int (0 : Int32)), .val (.long (1073741824 : Int64)), .second, .val (.int (0 : Int32))] [(.int (0 : Int32)), (.int (0 : Int32))])) _
    refine XS.icmpNo X1.here hx rfl (hb hby at_98) rfl (teq (by decide : (0 : Int32) = (0 : Int32))).2 ?_
    show Steps p.tables e below (T1.setTop (mkF m 101 #[.val (.int p0), .val (.int p1), .val (.int p2), .val (.int p3), .val (.long ((p1 &&& (1048575 : Int32)).toInt64)), .second, .val (.long ((p2 &&& (65535 : Int32)).toInt64)), .second, .val (.long ((p3 &&& (65535 : Int32)).toInt64)), .second, .val (.double (FP.i2d p0)), .second, .val (.double (FP.l2d ((p1 &&& (1048575 : Int32)).toInt64))), .second, .val (.double (FP.ddiv (FP.l2d ((p2 &&& (65535 : Int32)).toInt64)) (4742290407621132288 : UInt64))), .second, .val (.double (FP.l2d ((p3 &&& (65535 : Int32)).toInt64))), .second, .val (.int (0 : Int32)), .val (.long (1073741824 : Int64)), .second, .val (.int (0 : Int32))] [])) _
    refine XS.iconst X1.here hx rfl (hb hby at_101) ?_
    show Steps p.tables e below (T1.setTop (mkF m 102 #[.val (.int p0), .val (.int p1), .val (.int p2), .val (.int p3), .val (.long ((p1 &&& (1048575 : Int32)).toInt64)), .second, .val (.long ((p2 &&& (65535 : Int32)).toInt64)), .second, .val (.long ((p3 &&& (65535 : Int32)).toInt64)), .second, .val (.double (FP.i2d p0)), .second, .val (.double (FP.l2d ((p1 &&& (1048575 : Int32)).toInt64))), .second, .val (.double (FP.ddiv (FP.l2d ((p2 &&& (65535 : Int32)).toInt64)) (4742290407621132288 : UInt64))), .second, .val (.double (FP.l2d ((p3 &&& (65535 : Int32)).toInt64))), .second, .val (.int (0 : Int32)), .val (.long (1073741824 : Int64)), .second, .val (.int (0 : Int32))] [(.int (1 : Int32))])) _
    refine XS.goto X1.here hx rfl (pc0 := 102) (pc' := 106) rfl (hb hby at_102) (by decide) (by decide) ?_
    show Steps p.tables e below (T1.setTop (mkF m 106 #[.val (.int p0), .val (.int p1), .val (.int p2), .val (.int p3), .val (.long ((p1 &&& (1048575 : Int32)).toInt64)), .second, .val (.long ((p2 &&& (65535 : Int32)).toInt64)), .second, .val (.long ((p3 &&& (65535 : Int32)).toInt64)), .second, .val (.double (FP.i2d p0)), .second, .val (.double (FP.l2d ((p1 &&& (1048575 : Int32)).toInt64))), .second, .val (.double (FP.ddiv (FP.l2d ((p2 &&& (65535 : Int32)).toInt64)) (4742290407621132288 : UInt64))), .second, .val (.double (FP.l2d ((p3 &&& (65535 : Int32)).toInt64))), .second, .val (.int (0 : Int32)), .val (.long (1073741824 : Int64)), .second, .val (.int (0 : Int32))] [(.int (1 : Int32))])) _
    exact retN X1 hx (t := .boolean) Bd.returns (by simp) (hb hby at_106) hr
  · show Q0 n0 _ T1.heap _
    rw [e1]
    exact ⟨rfl, N1⟩
set_option maxRecDepth 65536 in
set_option maxHeartbeats 40000000 in
theorem rm0c (l : Launch) (Z : State) (a0 : Array Value) (hw : ∀ d ∈ tables_1, d.before a0 Z = true) (ws : List Jvm.Cond) (p0 : Int32) (p1 : Int32) (p2 : Int32) (p3 : Int32) (h0 : Heap) (n0 : Nat) (Z0 : n0 ≤ h0.size) (nn36 : Jvm.Free.Fl.NoNaN64 (FP.ddiv (FP.l2d ((p2 &&& (65535 : Int32)).toInt64)) (4742290407621132288 : UInt64))) (nn7_52 : Jvm.Free.Fl.NoNaN64 (FP.dmul (4611686018427387904 : UInt64) (FP.ddiv (FP.l2d ((p2 &&& (65535 : Int32)).toInt64)) (4742290407621132288 : UInt64)))) (nn10_52 : Jvm.Free.Fl.NoNaN64 (FP.dmul (FP.dmul (4611686018427387904 : UInt64) (FP.ddiv (FP.l2d ((p2 &&& (65535 : Int32)).toInt64)) (4742290407621132288 : UInt64))) (FP.l2d ((p3 &&& (65535 : Int32)).toInt64)))) (nn11_52 : Jvm.Free.Fl.NoNaN64 (FP.dadd (FP.l2d ((p1 &&& (1048575 : Int32)).toInt64)) (FP.dmul (FP.dmul (4611686018427387904 : UInt64) (FP.ddiv (FP.l2d ((p2 &&& (65535 : Int32)).toInt64)) (4742290407621132288 : UInt64))) (FP.l2d ((p3 &&& (65535 : Int32)).toInt64))))) (hd13_52 : (cmpValue (FP.dcmp (FP.i2d p0) (FP.dneg (FP.dadd (FP.l2d ((p1 &&& (1048575 : Int32)).toInt64)) (FP.dmul (FP.dmul (4611686018427387904 : UInt64) (FP.ddiv (FP.l2d ((p2 &&& (65535 : Int32)).toInt64)) (4742290407621132288 : UInt64))) (FP.l2d ((p3 &&& (65535 : Int32)).toInt64)))))) .g) = (1 : Int32)) (hc84 : ¬ ((lcmpW ((p0.toInt64) * (1073741824 : Int64)) (-((((p1 &&& (1048575 : Int32)).toInt64) * (1073741824 : Int64)) + (((2 : Int64) * ((p2 &&& (65535 : Int32)).toInt64)) * ((p3 &&& (65535 : Int32)).toInt64))))) < (0 : Int32))) :
    MetFree l x (head1 (Jvm.Cond.code x code maxLocals ret :: ws) room_1) (fun a U => a = #[(.int p0), (.int p1), (.int p2), (.int p3)] ∧ Z.Warmed39 U.vm ∧ U.heap = h0) (fun _ _ _ _ _ => True) (fun _ U o U' => ∃ v L, o = .returned v ∧ Q0 n0 v U'.heap L ∧ FrameEnd U o U' L room_1.cells room_1.slots) := by
  refine MetFree.of_bodySF (plainFor_of_name pn_com_example_vast_mdp_vastmdp_engine_StrategyImproverIsSavingPinLaw) hisR ?_
  intro p e s m args below meth c s₁ Bd hml0 hP hK
  obtain ⟨rfl, hZ, hh⟩ := hP
  have hx := Bd.exec
  have hby := Bd.bytes
  have hml : c.maxLocals = 22 := hml0
  have hown : s.vm.findClass "com/example/vast_mdp/vastmdp/engine/StrategyImproverIsSavingPinLaw" = some m.cls := findClass_of_methodNamed Bd.named
  have hnm := (name_of_methodNamed Bd.named Bd.method).1
  have X0 : Stand p l e room_1 s m #[(.int p0), (.int p1), (.int p2), (.int p3)] below meth c s₁ [] 0 0 := Stand.of_body Bd
  have e0 : s₁.heap = h0 := by rw [← hh, Bd.state]; rfl
  have N0 := Fr.nil n0
  have pre0 : ∀ t, Steps p.tables e below (s₁.setTop (mkF m 0 #[.val (.int p0), .val (.int p1), .val (.int p2), .val (.int p3), .unset, .unset, .unset, .unset, .unset, .unset, .unset, .unset, .unset, .unset, .unset, .unset, .unset, .unset, .unset, .unset, .unset, .unset] [])) t → Steps p.tables e below (s₁.setTop (entryFrame m #[(.int p0), (.int p1), (.int p2), (.int p3)] maxLocals)) t := fun t k => castTop (ef_0_IIII m p0 p1 p2 p3) k
  obtain ⟨_, _, ⟨T1, L1, k1, n1⟩, -, X1, ⟨Lc1, hQ1, l1, y1, z1⟩, st1⟩ := Jvm.LawKit.callS X0 hx (y := (⟨"com/example/vast_mdp/vastmdp/engine/StrategyImprover", "isSaving", "(DDDD)Z"⟩ : MethodName)) hown (mvT hZ (hw _ (List.mem_of_getElem? (i := 3) rfl))) (mvT hZ (hw _ (List.mem_of_getElem? (i := 4) rfl))) (mvT hZ (hw _ (List.mem_of_getElem? (i := 5) rfl))) (mvT hZ (hw _ (List.mem_of_getElem? (i := 6) rfl))) (by decide) (backOf (W := 0) (rm1c l Z a0 hw [] (FP.i2d p0) (FP.l2d ((p1 &&& (1048575 : Int32)).toInt64)) (FP.ddiv (FP.l2d ((p2 &&& (65535 : Int32)).toInt64)) (4742290407621132288 : UInt64)) (FP.l2d ((p3 &&& (65535 : Int32)).toInt64)) h0 n0 Z0 nn7_52 nn10_52 nn11_52 hd13_52) hZ (hw _ (List.mem_of_getElem? (i := 6) rfl)) (hw _ (List.mem_of_getElem? (i := 5) rfl)) (by decide) (by decide)) (g := (mkF m 52 #[.val (.int p0), .val (.int p1), .val (.int p2), .val (.int p3), .val (.long ((p1 &&& (1048575 : Int32)).toInt64)), .second, .val (.long ((p2 &&& (65535 : Int32)).toInt64)), .second, .val (.long ((p3 &&& (65535 : Int32)).toInt64)), .second, .val (.double (FP.i2d p0)), .second, .val (.double (FP.l2d ((p1 &&& (1048575 : Int32)).toInt64))), .second, .val (.double (FP.ddiv (FP.l2d ((p2 &&& (65535 : Int32)).toInt64)) (4742290407621132288 : UInt64))), .second, .val (.double (FP.l2d ((p3 &&& (65535 : Int32)).toInt64))), .second, .unset, .unset, .unset, .unset] [(.double (FP.l2d ((p3 &&& (65535 : Int32)).toInt64))), (.double (FP.ddiv (FP.l2d ((p2 &&& (65535 : Int32)).toInt64)) (4742290407621132288 : UInt64))), (.double (FP.l2d ((p1 &&& (1048575 : Int32)).toInt64))), (.double (FP.i2d p0))])) rfl (by rw [hml]; rfl) (argsL := [(.double (FP.i2d p0)), (.double (FP.l2d ((p1 &&& (1048575 : Int32)).toInt64))), (.double (FP.ddiv (FP.l2d ((p2 &&& (65535 : Int32)).toInt64)) (4742290407621132288 : UInt64))), (.double (FP.l2d ((p3 &&& (65535 : Int32)).toInt64)))]) (rest := []) (lenOf pd_0 rfl) rfl (by show 2 * 0 + _ ≤ _; exact Nat.le_of_eq rfl) (hb hby at_52) (fun _ _ => ⟨rfl, e0, (by decide : 0 + 0 ≤ _), (by decide : 0 + 0 ≤ _)⟩)
  dsimp only [Pt.U, Pt.locs, Pt.cells, Pt.slots] at X1 l1 y1 z1 st1 hQ1
  subst l1 y1 z1
  obtain ⟨rfl, N1q, eh1⟩ := hQ1
  have N1 := Fr.app N0 N1q
  have e1 : T1.heap = h0 := eh1
  obtain ⟨fs, hr, hrun, hended, hW, hsame⟩ := X1.leave (v := some (.int (1 : Int32))) (fun h => by rw [Bd.returns] at h; cases h)
  refine ⟨_, _, pre0 _ ?_, hrun, hended, _, _, rfl, ?_, ⟨_, rfl⟩, hW, hsame.mono (by decide) (by decide)⟩
  · show Steps p.tables e below (s₁.setTop (mkF m 0 #[.val (.int p0), .val (.int p1), .val (.int p2), .val (.int p3), .unset, .unset, .unset, .unset, .unset, .unset, .unset, .unset, .unset, .unset, .unset, .unset, .unset, .unset, .unset, .unset, .unset, .unset] [])) _
    refine XS.iloadN X0.here hx rfl (hb hby at_0) rfl ?_
    show Steps p.tables e below (s₁.setTop (mkF m 1 #[.val (.int p0), .val (.int p1), .val (.int p2), .val (.int p3), .unset, .unset, .unset, .unset, .unset, .unset, .unset, .unset, .unset, .unset, .unset, .unset, .unset, .unset, .unset, .unset, .unset, .unset] [(.int p1)])) _
    refine X0.ldcInt hx hown (mvT hZ (hw _ (List.mem_of_getElem? (i := 0) rfl))) (g := (mkF m 1 #[.val (.int p0), .val (.int p1), .val (.int p2), .val (.int p3), .unset, .unset, .unset, .unset, .unset, .unset, .unset, .unset, .unset, .unset, .unset, .unset, .unset, .unset, .unset, .unset, .unset, .unset] [(.int p1)])) rfl (hb hby at_1) _ ?_
    show Steps p.tables e below (s₁.setTop (mkF m 3 #[.val (.int p0), .val (.int p1), .val (.int p2), .val (.int p3), .unset, .unset, .unset, .unset, .unset, .unset, .unset, .unset, .unset, .unset, .unset, .unset, .unset, .unset, .unset, .unset, .unset, .unset] [(.int (1048575 : Int32)), (.int p1)])) _
    refine XS.iand X0.here hx rfl (hb hby at_3) rfl ?_
    show Steps p.tables e below (s₁.setTop (mkF m 4 #[.val (.int p0), .val (.int p1), .val (.int p2), .val (.int p3), .unset, .unset, .unset, .unset, .unset, .unset, .unset, .unset, .unset, .unset, .unset, .unset, .unset, .unset, .unset, .unset, .unset, .unset] [(.int (p1 &&& (1048575 : Int32)))])) _
    refine XS.i2l X0.here hx rfl (hb hby at_4) rfl ?_
    show Steps p.tables e below (s₁.setTop (mkF m 5 #[.val (.int p0), .val (.int p1), .val (.int p2), .val (.int p3), .unset, .unset, .unset, .unset, .unset, .unset, .unset, .unset, .unset, .unset, .unset, .unset, .unset, .unset, .unset, .unset, .unset, .unset] [(.long ((p1 &&& (1048575 : Int32)).toInt64))])) _
    refine XS.lstore X0.here hx rfl (hb hby at_5) rfl (l' := #[.val (.int p0), .val (.int p1), .val (.int p2), .val (.int p3), .val (.long ((p1 &&& (1048575 : Int32)).toInt64)), .second, .unset, .unset, .unset, .unset, .unset, .unset, .unset, .unset, .unset, .unset, .unset, .unset, .unset, .unset, .unset, .unset]) rfl ?_
    show Steps p.tables e below (s₁.setTop (mkF m 7 #[.val (.int p0), .val (.int p1), .val (.int p2), .val (.int p3), .val (.long ((p1 &&& (1048575 : Int32)).toInt64)), .second, .unset, .unset, .unset, .unset, .unset, .unset, .unset, .unset, .unset, .unset, .unset, .unset, .unset, .unset, .unset, .unset] [])) _
    refine XS.iloadN X0.here hx rfl (hb hby at_7) rfl ?_
    show Steps p.tables e below (s₁.setTop (mkF m 8 #[.val (.int p0), .val (.int p1), .val (.int p2), .val (.int p3), .val (.long ((p1 &&& (1048575 : Int32)).toInt64)), .second, .unset, .unset, .unset, .unset, .unset, .unset, .unset, .unset, .unset, .unset, .unset, .unset, .unset, .unset, .unset, .unset] [(.int p2)])) _
    refine X0.ldcInt hx hown (mvT hZ (hw _ (List.mem_of_getElem? (i := 1) rfl))) (g := (mkF m 8 #[.val (.int p0), .val (.int p1), .val (.int p2), .val (.int p3), .val (.long ((p1 &&& (1048575 : Int32)).toInt64)), .second, .unset, .unset, .unset, .unset, .unset, .unset, .unset, .unset, .unset, .unset, .unset, .unset, .unset, .unset, .unset, .unset] [(.int p2)])) rfl (hb hby at_8) _ ?_
    show Steps p.tables e below (s₁.setTop (mkF m 10 #[.val (.int p0), .val (.int p1), .val (.int p2), .val (.int p3), .val (.long ((p1 &&& (1048575 : Int32)).toInt64)), .second, .unset, .unset, .unset, .unset, .unset, .unset, .unset, .unset, .unset, .unset, .unset, .unset, .unset, .unset, .unset, .unset] [(.int (65535 : Int32)), (.int p2)])) _
    refine XS.iand X0.here hx rfl (hb hby at_10) rfl ?_
    show Steps p.tables e below (s₁.setTop (mkF m 11 #[.val (.int p0), .val (.int p1), .val (.int p2), .val (.int p3), .val (.long ((p1 &&& (1048575 : Int32)).toInt64)), .second, .unset, .unset, .unset, .unset, .unset, .unset, .unset, .unset, .unset, .unset, .unset, .unset, .unset, .unset, .unset, .unset] [(.int (p2 &&& (65535 : Int32)))])) _
    refine XS.i2l X0.here hx rfl (hb hby at_11) rfl ?_
    show Steps p.tables e below (s₁.setTop (mkF m 12 #[.val (.int p0), .val (.int p1), .val (.int p2), .val (.int p3), .val (.long ((p1 &&& (1048575 : Int32)).toInt64)), .second, .unset, .unset, .unset, .unset, .unset, .unset, .unset, .unset, .unset, .unset, .unset, .unset, .unset, .unset, .unset, .unset] [(.long ((p2 &&& (65535 : Int32)).toInt64))])) _
    refine XS.lstore X0.here hx rfl (hb hby at_12) rfl (l' := #[.val (.int p0), .val (.int p1), .val (.int p2), .val (.int p3), .val (.long ((p1 &&& (1048575 : Int32)).toInt64)), .second, .val (.long ((p2 &&& (65535 : Int32)).toInt64)), .second, .unset, .unset, .unset, .unset, .unset, .unset, .unset, .unset, .unset, .unset, .unset, .unset, .unset, .unset]) rfl ?_
    show Steps p.tables e below (s₁.setTop (mkF m 14 #[.val (.int p0), .val (.int p1), .val (.int p2), .val (.int p3), .val (.long ((p1 &&& (1048575 : Int32)).toInt64)), .second, .val (.long ((p2 &&& (65535 : Int32)).toInt64)), .second, .unset, .unset, .unset, .unset, .unset, .unset, .unset, .unset, .unset, .unset, .unset, .unset, .unset, .unset] [])) _
    refine XS.iloadN X0.here hx rfl (hb hby at_14) rfl ?_
    show Steps p.tables e below (s₁.setTop (mkF m 15 #[.val (.int p0), .val (.int p1), .val (.int p2), .val (.int p3), .val (.long ((p1 &&& (1048575 : Int32)).toInt64)), .second, .val (.long ((p2 &&& (65535 : Int32)).toInt64)), .second, .unset, .unset, .unset, .unset, .unset, .unset, .unset, .unset, .unset, .unset, .unset, .unset, .unset, .unset] [(.int p3)])) _
    refine X0.ldcInt hx hown (mvT hZ (hw _ (List.mem_of_getElem? (i := 1) rfl))) (g := (mkF m 15 #[.val (.int p0), .val (.int p1), .val (.int p2), .val (.int p3), .val (.long ((p1 &&& (1048575 : Int32)).toInt64)), .second, .val (.long ((p2 &&& (65535 : Int32)).toInt64)), .second, .unset, .unset, .unset, .unset, .unset, .unset, .unset, .unset, .unset, .unset, .unset, .unset, .unset, .unset] [(.int p3)])) rfl (hb hby at_15) _ ?_
    show Steps p.tables e below (s₁.setTop (mkF m 17 #[.val (.int p0), .val (.int p1), .val (.int p2), .val (.int p3), .val (.long ((p1 &&& (1048575 : Int32)).toInt64)), .second, .val (.long ((p2 &&& (65535 : Int32)).toInt64)), .second, .unset, .unset, .unset, .unset, .unset, .unset, .unset, .unset, .unset, .unset, .unset, .unset, .unset, .unset] [(.int (65535 : Int32)), (.int p3)])) _
    refine XS.iand X0.here hx rfl (hb hby at_17) rfl ?_
    show Steps p.tables e below (s₁.setTop (mkF m 18 #[.val (.int p0), .val (.int p1), .val (.int p2), .val (.int p3), .val (.long ((p1 &&& (1048575 : Int32)).toInt64)), .second, .val (.long ((p2 &&& (65535 : Int32)).toInt64)), .second, .unset, .unset, .unset, .unset, .unset, .unset, .unset, .unset, .unset, .unset, .unset, .unset, .unset, .unset] [(.int (p3 &&& (65535 : Int32)))])) _
    refine XS.i2l X0.here hx rfl (hb hby at_18) rfl ?_
    show Steps p.tables e below (s₁.setTop (mkF m 19 #[.val (.int p0), .val (.int p1), .val (.int p2), .val (.int p3), .val (.long ((p1 &&& (1048575 : Int32)).toInt64)), .second, .val (.long ((p2 &&& (65535 : Int32)).toInt64)), .second, .unset, .unset, .unset, .unset, .unset, .unset, .unset, .unset, .unset, .unset, .unset, .unset, .unset, .unset] [(.long ((p3 &&& (65535 : Int32)).toInt64))])) _
    refine XS.lstore X0.here hx rfl (hb hby at_19) rfl (l' := #[.val (.int p0), .val (.int p1), .val (.int p2), .val (.int p3), .val (.long ((p1 &&& (1048575 : Int32)).toInt64)), .second, .val (.long ((p2 &&& (65535 : Int32)).toInt64)), .second, .val (.long ((p3 &&& (65535 : Int32)).toInt64)), .second, .unset, .unset, .unset, .unset, .unset, .unset, .unset, .unset, .unset, .unset, .unset, .unset]) rfl ?_
    show Steps p.tables e below (s₁.setTop (mkF m 21 #[.val (.int p0), .val (.int p1), .val (.int p2), .val (.int p3), .val (.long ((p1 &&& (1048575 : Int32)).toInt64)), .second, .val (.long ((p2 &&& (65535 : Int32)).toInt64)), .second, .val (.long ((p3 &&& (65535 : Int32)).toInt64)), .second, .unset, .unset, .unset, .unset, .unset, .unset, .unset, .unset, .unset, .unset, .unset, .unset] [])) _
    refine XS.iloadN X0.here hx rfl (hb hby at_21) rfl ?_
    show Steps p.tables e below (s₁.setTop (mkF m 22 #[.val (.int p0), .val (.int p1), .val (.int p2), .val (.int p3), .val (.long ((p1 &&& (1048575 : Int32)).toInt64)), .second, .val (.long ((p2 &&& (65535 : Int32)).toInt64)), .second, .val (.long ((p3 &&& (65535 : Int32)).toInt64)), .second, .unset, .unset, .unset, .unset, .unset, .unset, .unset, .unset, .unset, .unset, .unset, .unset] [(.int p0)])) _
    refine XS.i2dS X0.here hx rfl (hb hby at_22) rfl (v := (FP.i2d p0)) rfl ?_
    show Steps p.tables e below (s₁.setTop (mkF m 23 #[.val (.int p0), .val (.int p1), .val (.int p2), .val (.int p3), .val (.long ((p1 &&& (1048575 : Int32)).toInt64)), .second, .val (.long ((p2 &&& (65535 : Int32)).toInt64)), .second, .val (.long ((p3 &&& (65535 : Int32)).toInt64)), .second, .unset, .unset, .unset, .unset, .unset, .unset, .unset, .unset, .unset, .unset, .unset, .unset] [(.double (FP.i2d p0))])) _
    refine XS.dstore X0.here hx rfl (hb hby at_23) rfl (l' := #[.val (.int p0), .val (.int p1), .val (.int p2), .val (.int p3), .val (.long ((p1 &&& (1048575 : Int32)).toInt64)), .second, .val (.long ((p2 &&& (65535 : Int32)).toInt64)), .second, .val (.long ((p3 &&& (65535 : Int32)).toInt64)), .second, .val (.double (FP.i2d p0)), .second, .unset, .unset, .unset, .unset, .unset, .unset, .unset, .unset, .unset, .unset]) rfl ?_
    show Steps p.tables e below (s₁.setTop (mkF m 25 #[.val (.int p0), .val (.int p1), .val (.int p2), .val (.int p3), .val (.long ((p1 &&& (1048575 : Int32)).toInt64)), .second, .val (.long ((p2 &&& (65535 : Int32)).toInt64)), .second, .val (.long ((p3 &&& (65535 : Int32)).toInt64)), .second, .val (.double (FP.i2d p0)), .second, .unset, .unset, .unset, .unset, .unset, .unset, .unset, .unset, .unset, .unset] [])) _
    refine XS.lload X0.here hx rfl (hb hby at_25) rfl ?_
    show Steps p.tables e below (s₁.setTop (mkF m 27 #[.val (.int p0), .val (.int p1), .val (.int p2), .val (.int p3), .val (.long ((p1 &&& (1048575 : Int32)).toInt64)), .second, .val (.long ((p2 &&& (65535 : Int32)).toInt64)), .second, .val (.long ((p3 &&& (65535 : Int32)).toInt64)), .second, .val (.double (FP.i2d p0)), .second, .unset, .unset, .unset, .unset, .unset, .unset, .unset, .unset, .unset, .unset] [(.long ((p1 &&& (1048575 : Int32)).toInt64))])) _
    refine XS.l2dS X0.here hx rfl (hb hby at_27) rfl (v := (FP.l2d ((p1 &&& (1048575 : Int32)).toInt64))) rfl ?_
    show Steps p.tables e below (s₁.setTop (mkF m 28 #[.val (.int p0), .val (.int p1), .val (.int p2), .val (.int p3), .val (.long ((p1 &&& (1048575 : Int32)).toInt64)), .second, .val (.long ((p2 &&& (65535 : Int32)).toInt64)), .second, .val (.long ((p3 &&& (65535 : Int32)).toInt64)), .second, .val (.double (FP.i2d p0)), .second, .unset, .unset, .unset, .unset, .unset, .unset, .unset, .unset, .unset, .unset] [(.double (FP.l2d ((p1 &&& (1048575 : Int32)).toInt64)))])) _
    refine XS.dstore X0.here hx rfl (hb hby at_28) rfl (l' := #[.val (.int p0), .val (.int p1), .val (.int p2), .val (.int p3), .val (.long ((p1 &&& (1048575 : Int32)).toInt64)), .second, .val (.long ((p2 &&& (65535 : Int32)).toInt64)), .second, .val (.long ((p3 &&& (65535 : Int32)).toInt64)), .second, .val (.double (FP.i2d p0)), .second, .val (.double (FP.l2d ((p1 &&& (1048575 : Int32)).toInt64))), .second, .unset, .unset, .unset, .unset, .unset, .unset, .unset, .unset]) rfl ?_
    show Steps p.tables e below (s₁.setTop (mkF m 30 #[.val (.int p0), .val (.int p1), .val (.int p2), .val (.int p3), .val (.long ((p1 &&& (1048575 : Int32)).toInt64)), .second, .val (.long ((p2 &&& (65535 : Int32)).toInt64)), .second, .val (.long ((p3 &&& (65535 : Int32)).toInt64)), .second, .val (.double (FP.i2d p0)), .second, .val (.double (FP.l2d ((p1 &&& (1048575 : Int32)).toInt64))), .second, .unset, .unset, .unset, .unset, .unset, .unset, .unset, .unset] [])) _
    refine XS.lload X0.here hx rfl (hb hby at_30) rfl ?_
    show Steps p.tables e below (s₁.setTop (mkF m 32 #[.val (.int p0), .val (.int p1), .val (.int p2), .val (.int p3), .val (.long ((p1 &&& (1048575 : Int32)).toInt64)), .second, .val (.long ((p2 &&& (65535 : Int32)).toInt64)), .second, .val (.long ((p3 &&& (65535 : Int32)).toInt64)), .second, .val (.double (FP.i2d p0)), .second, .val (.double (FP.l2d ((p1 &&& (1048575 : Int32)).toInt64))), .second, .unset, .unset, .unset, .unset, .unset, .unset, .unset, .unset] [(.long ((p2 &&& (65535 : Int32)).toInt64))])) _
    refine XS.l2dS X0.here hx rfl (hb hby at_32) rfl (v := (FP.l2d ((p2 &&& (65535 : Int32)).toInt64))) rfl ?_
    show Steps p.tables e below (s₁.setTop (mkF m 33 #[.val (.int p0), .val (.int p1), .val (.int p2), .val (.int p3), .val (.long ((p1 &&& (1048575 : Int32)).toInt64)), .second, .val (.long ((p2 &&& (65535 : Int32)).toInt64)), .second, .val (.long ((p3 &&& (65535 : Int32)).toInt64)), .second, .val (.double (FP.i2d p0)), .second, .val (.double (FP.l2d ((p1 &&& (1048575 : Int32)).toInt64))), .second, .unset, .unset, .unset, .unset, .unset, .unset, .unset, .unset] [(.double (FP.l2d ((p2 &&& (65535 : Int32)).toInt64)))])) _
    refine X0.ldc2DoubleC hx hown (mvT hZ (hw _ (List.mem_of_getElem? (i := 2) rfl))) (g := (mkF m 33 #[.val (.int p0), .val (.int p1), .val (.int p2), .val (.int p3), .val (.long ((p1 &&& (1048575 : Int32)).toInt64)), .second, .val (.long ((p2 &&& (65535 : Int32)).toInt64)), .second, .val (.long ((p3 &&& (65535 : Int32)).toInt64)), .second, .val (.double (FP.i2d p0)), .second, .val (.double (FP.l2d ((p1 &&& (1048575 : Int32)).toInt64))), .second, .unset, .unset, .unset, .unset, .unset, .unset, .unset, .unset] [(.double (FP.l2d ((p2 &&& (65535 : Int32)).toInt64)))])) rfl (hb hby at_33) _ ?_
    show Steps p.tables e below (s₁.setTop (mkF m 36 #[.val (.int p0), .val (.int p1), .val (.int p2), .val (.int p3), .val (.long ((p1 &&& (1048575 : Int32)).toInt64)), .second, .val (.long ((p2 &&& (65535 : Int32)).toInt64)), .second, .val (.long ((p3 &&& (65535 : Int32)).toInt64)), .second, .val (.double (FP.i2d p0)), .second, .val (.double (FP.l2d ((p1 &&& (1048575 : Int32)).toInt64))), .second, .unset, .unset, .unset, .unset, .unset, .unset, .unset, .unset] [(.double (4742290407621132288 : UInt64)), (.double (FP.l2d ((p2 &&& (65535 : Int32)).toInt64)))])) _
    refine XS.ddivS X0.here hx rfl (hb hby at_36) rfl nn36 (v := (FP.ddiv (FP.l2d ((p2 &&& (65535 : Int32)).toInt64)) (4742290407621132288 : UInt64))) rfl ?_
    show Steps p.tables e below (s₁.setTop (mkF m 37 #[.val (.int p0), .val (.int p1), .val (.int p2), .val (.int p3), .val (.long ((p1 &&& (1048575 : Int32)).toInt64)), .second, .val (.long ((p2 &&& (65535 : Int32)).toInt64)), .second, .val (.long ((p3 &&& (65535 : Int32)).toInt64)), .second, .val (.double (FP.i2d p0)), .second, .val (.double (FP.l2d ((p1 &&& (1048575 : Int32)).toInt64))), .second, .unset, .unset, .unset, .unset, .unset, .unset, .unset, .unset] [(.double (FP.ddiv (FP.l2d ((p2 &&& (65535 : Int32)).toInt64)) (4742290407621132288 : UInt64)))])) _
    refine XS.dstore X0.here hx rfl (hb hby at_37) rfl (l' := #[.val (.int p0), .val (.int p1), .val (.int p2), .val (.int p3), .val (.long ((p1 &&& (1048575 : Int32)).toInt64)), .second, .val (.long ((p2 &&& (65535 : Int32)).toInt64)), .second, .val (.long ((p3 &&& (65535 : Int32)).toInt64)), .second, .val (.double (FP.i2d p0)), .second, .val (.double (FP.l2d ((p1 &&& (1048575 : Int32)).toInt64))), .second, .val (.double (FP.ddiv (FP.l2d ((p2 &&& (65535 : Int32)).toInt64)) (4742290407621132288 : UInt64))), .second, .unset, .unset, .unset, .unset, .unset, .unset]) rfl ?_
    show Steps p.tables e below (s₁.setTop (mkF m 39 #[.val (.int p0), .val (.int p1), .val (.int p2), .val (.int p3), .val (.long ((p1 &&& (1048575 : Int32)).toInt64)), .second, .val (.long ((p2 &&& (65535 : Int32)).toInt64)), .second, .val (.long ((p3 &&& (65535 : Int32)).toInt64)), .second, .val (.double (FP.i2d p0)), .second, .val (.double (FP.l2d ((p1 &&& (1048575 : Int32)).toInt64))), .second, .val (.double (FP.ddiv (FP.l2d ((p2 &&& (65535 : Int32)).toInt64)) (4742290407621132288 : UInt64))), .second, .unset, .unset, .unset, .unset, .unset, .unset] [])) _
    refine XS.lload X0.here hx rfl (hb hby at_39) rfl ?_
    show Steps p.tables e below (s₁.setTop (mkF m 41 #[.val (.int p0), .val (.int p1), .val (.int p2), .val (.int p3), .val (.long ((p1 &&& (1048575 : Int32)).toInt64)), .second, .val (.long ((p2 &&& (65535 : Int32)).toInt64)), .second, .val (.long ((p3 &&& (65535 : Int32)).toInt64)), .second, .val (.double (FP.i2d p0)), .second, .val (.double (FP.l2d ((p1 &&& (1048575 : Int32)).toInt64))), .second, .val (.double (FP.ddiv (FP.l2d ((p2 &&& (65535 : Int32)).toInt64)) (4742290407621132288 : UInt64))), .second, .unset, .unset, .unset, .unset, .unset, .unset] [(.long ((p3 &&& (65535 : Int32)).toInt64))])) _
    refine XS.l2dS X0.here hx rfl (hb hby at_41) rfl (v := (FP.l2d ((p3 &&& (65535 : Int32)).toInt64))) rfl ?_
    show Steps p.tables e below (s₁.setTop (mkF m 42 #[.val (.int p0), .val (.int p1), .val (.int p2), .val (.int p3), .val (.long ((p1 &&& (1048575 : Int32)).toInt64)), .second, .val (.long ((p2 &&& (65535 : Int32)).toInt64)), .second, .val (.long ((p3 &&& (65535 : Int32)).toInt64)), .second, .val (.double (FP.i2d p0)), .second, .val (.double (FP.l2d ((p1 &&& (1048575 : Int32)).toInt64))), .second, .val (.double (FP.ddiv (FP.l2d ((p2 &&& (65535 : Int32)).toInt64)) (4742290407621132288 : UInt64))), .second, .unset, .unset, .unset, .unset, .unset, .unset] [(.double (FP.l2d ((p3 &&& (65535 : Int32)).toInt64)))])) _
    refine XS.dstore X0.here hx rfl (hb hby at_42) rfl (l' := #[.val (.int p0), .val (.int p1), .val (.int p2), .val (.int p3), .val (.long ((p1 &&& (1048575 : Int32)).toInt64)), .second, .val (.long ((p2 &&& (65535 : Int32)).toInt64)), .second, .val (.long ((p3 &&& (65535 : Int32)).toInt64)), .second, .val (.double (FP.i2d p0)), .second, .val (.double (FP.l2d ((p1 &&& (1048575 : Int32)).toInt64))), .second, .val (.double (FP.ddiv (FP.l2d ((p2 &&& (65535 : Int32)).toInt64)) (4742290407621132288 : UInt64))), .second, .val (.double (FP.l2d ((p3 &&& (65535 : Int32)).toInt64))), .second, .unset, .unset, .unset, .unset]) rfl ?_
    show Steps p.tables e below (s₁.setTop (mkF m 44 #[.val (.int p0), .val (.int p1), .val (.int p2), .val (.int p3), .val (.long ((p1 &&& (1048575 : Int32)).toInt64)), .second, .val (.long ((p2 &&& (65535 : Int32)).toInt64)), .second, .val (.long ((p3 &&& (65535 : Int32)).toInt64)), .second, .val (.double (FP.i2d p0)), .second, .val (.double (FP.l2d ((p1 &&& (1048575 : Int32)).toInt64))), .second, .val (.double (FP.ddiv (FP.l2d ((p2 &&& (65535 : Int32)).toInt64)) (4742290407621132288 : UInt64))), .second, .val (.double (FP.l2d ((p3 &&& (65535 : Int32)).toInt64))), .second, .unset, .unset, .unset, .unset] [])) _
    refine XS.dload X0.here hx rfl (hb hby at_44) rfl ?_
    show Steps p.tables e below (s₁.setTop (mkF m 46 #[.val (.int p0), .val (.int p1), .val (.int p2), .val (.int p3), .val (.long ((p1 &&& (1048575 : Int32)).toInt64)), .second, .val (.long ((p2 &&& (65535 : Int32)).toInt64)), .second, .val (.long ((p3 &&& (65535 : Int32)).toInt64)), .second, .val (.double (FP.i2d p0)), .second, .val (.double (FP.l2d ((p1 &&& (1048575 : Int32)).toInt64))), .second, .val (.double (FP.ddiv (FP.l2d ((p2 &&& (65535 : Int32)).toInt64)) (4742290407621132288 : UInt64))), .second, .val (.double (FP.l2d ((p3 &&& (65535 : Int32)).toInt64))), .second, .unset, .unset, .unset, .unset] [(.double (FP.i2d p0))])) _
    refine XS.dload X0.here hx rfl (hb hby at_46) rfl ?_
    show Steps p.tables e below (s₁.setTop (mkF m 48 #[.val (.int p0), .val (.int p1), .val (.int p2), .val (.int p3), .val (.long ((p1 &&& (1048575 : Int32)).toInt64)), .second, .val (.long ((p2 &&& (65535 : Int32)).toInt64)), .second, .val (.long ((p3 &&& (65535 : Int32)).toInt64)), .second, .val (.double (FP.i2d p0)), .second, .val (.double (FP.l2d ((p1 &&& (1048575 : Int32)).toInt64))), .second, .val (.double (FP.ddiv (FP.l2d ((p2 &&& (65535 : Int32)).toInt64)) (4742290407621132288 : UInt64))), .second, .val (.double (FP.l2d ((p3 &&& (65535 : Int32)).toInt64))), .second, .unset, .unset, .unset, .unset] [(.double (FP.l2d ((p1 &&& (1048575 : Int32)).toInt64))), (.double (FP.i2d p0))])) _
    refine XS.dload X0.here hx rfl (hb hby at_48) rfl ?_
    show Steps p.tables e below (s₁.setTop (mkF m 50 #[.val (.int p0), .val (.int p1), .val (.int p2), .val (.int p3), .val (.long ((p1 &&& (1048575 : Int32)).toInt64)), .second, .val (.long ((p2 &&& (65535 : Int32)).toInt64)), .second, .val (.long ((p3 &&& (65535 : Int32)).toInt64)), .second, .val (.double (FP.i2d p0)), .second, .val (.double (FP.l2d ((p1 &&& (1048575 : Int32)).toInt64))), .second, .val (.double (FP.ddiv (FP.l2d ((p2 &&& (65535 : Int32)).toInt64)) (4742290407621132288 : UInt64))), .second, .val (.double (FP.l2d ((p3 &&& (65535 : Int32)).toInt64))), .second, .unset, .unset, .unset, .unset] [(.double (FP.ddiv (FP.l2d ((p2 &&& (65535 : Int32)).toInt64)) (4742290407621132288 : UInt64))), (.double (FP.l2d ((p1 &&& (1048575 : Int32)).toInt64))), (.double (FP.i2d p0))])) _
    refine XS.dload X0.here hx rfl (hb hby at_50) rfl ?_
    show Steps p.tables e below (s₁.setTop (mkF m 52 #[.val (.int p0), .val (.int p1), .val (.int p2), .val (.int p3), .val (.long ((p1 &&& (1048575 : Int32)).toInt64)), .second, .val (.long ((p2 &&& (65535 : Int32)).toInt64)), .second, .val (.long ((p3 &&& (65535 : Int32)).toInt64)), .second, .val (.double (FP.i2d p0)), .second, .val (.double (FP.l2d ((p1 &&& (1048575 : Int32)).toInt64))), .second, .val (.double (FP.ddiv (FP.l2d ((p2 &&& (65535 : Int32)).toInt64)) (4742290407621132288 : UInt64))), .second, .val (.double (FP.l2d ((p3 &&& (65535 : Int32)).toInt64))), .second, .unset, .unset, .unset, .unset] [(.double (FP.l2d ((p3 &&& (65535 : Int32)).toInt64))), (.double (FP.ddiv (FP.l2d ((p2 &&& (65535 : Int32)).toInt64)) (4742290407621132288 : UInt64))), (.double (FP.l2d ((p1 &&& (1048575 : Int32)).toInt64))), (.double (FP.i2d p0))])) _
    refine st1 _ ?_
    show Steps p.tables e below (T1.setTop (mkF m 55 #[.val (.int p0), .val (.int p1), .val (.int p2), .val (.int p3), .val (.long ((p1 &&& (1048575 : Int32)).toInt64)), .second, .val (.long ((p2 &&& (65535 : Int32)).toInt64)), .second, .val (.long ((p3 &&& (65535 : Int32)).toInt64)), .second, .val (.double (FP.i2d p0)), .second, .val (.double (FP.l2d ((p1 &&& (1048575 : Int32)).toInt64))), .second, .val (.double (FP.ddiv (FP.l2d ((p2 &&& (65535 : Int32)).toInt64)) (4742290407621132288 : UInt64))), .second, .val (.double (FP.l2d ((p3 &&& (65535 : Int32)).toInt64))), .second, .unset, .unset, .unset, .unset] [(.int (0 : Int32))])) _
    refine XS.istore X1.here hx rfl (hb hby at_55) rfl (l' := #[.val (.int p0), .val (.int p1), .val (.int p2), .val (.int p3), .val (.long ((p1 &&& (1048575 : Int32)).toInt64)), .second, .val (.long ((p2 &&& (65535 : Int32)).toInt64)), .second, .val (.long ((p3 &&& (65535 : Int32)).toInt64)), .second, .val (.double (FP.i2d p0)), .second, .val (.double (FP.l2d ((p1 &&& (1048575 : Int32)).toInt64))), .second, .val (.double (FP.ddiv (FP.l2d ((p2 &&& (65535 : Int32)).toInt64)) (4742290407621132288 : UInt64))), .second, .val (.double (FP.l2d ((p3 &&& (65535 : Int32)).toInt64))), .second, .val (.int (0 : Int32)), .unset, .unset, .unset]) rfl ?_
    show Steps p.tables e below (T1.setTop (mkF m 57 #[.val (.int p0), .val (.int p1), .val (.int p2), .val (.int p3), .val (.long ((p1 &&& (1048575 : Int32)).toInt64)), .second, .val (.long ((p2 &&& (65535 : Int32)).toInt64)), .second, .val (.long ((p3 &&& (65535 : Int32)).toInt64)), .second, .val (.double (FP.i2d p0)), .second, .val (.double (FP.l2d ((p1 &&& (1048575 : Int32)).toInt64))), .second, .val (.double (FP.ddiv (FP.l2d ((p2 &&& (65535 : Int32)).toInt64)) (4742290407621132288 : UInt64))), .second, .val (.double (FP.l2d ((p3 &&& (65535 : Int32)).toInt64))), .second, .val (.int (0 : Int32)), .unset, .unset, .unset] [])) _
    refine X1.ldc2Long hx hown (mvT hZ (hw _ (List.mem_of_getElem? (i := 8) rfl))) (g := (mkF m 57 #[.val (.int p0), .val (.int p1), .val (.int p2), .val (.int p3), .val (.long ((p1 &&& (1048575 : Int32)).toInt64)), .second, .val (.long ((p2 &&& (65535 : Int32)).toInt64)), .second, .val (.long ((p3 &&& (65535 : Int32)).toInt64)), .second, .val (.double (FP.i2d p0)), .second, .val (.double (FP.l2d ((p1 &&& (1048575 : Int32)).toInt64))), .second, .val (.double (FP.ddiv (FP.l2d ((p2 &&& (65535 : Int32)).toInt64)) (4742290407621132288 : UInt64))), .second, .val (.double (FP.l2d ((p3 &&& (65535 : Int32)).toInt64))), .second, .val (.int (0 : Int32)), .unset, .unset, .unset] [])) rfl (hb hby at_57) _ ?_
    show Steps p.tables e below (T1.setTop (mkF m 60 #[.val (.int p0), .val (.int p1), .val (.int p2), .val (.int p3), .val (.long ((p1 &&& (1048575 : Int32)).toInt64)), .second, .val (.long ((p2 &&& (65535 : Int32)).toInt64)), .second, .val (.long ((p3 &&& (65535 : Int32)).toInt64)), .second, .val (.double (FP.i2d p0)), .second, .val (.double (FP.l2d ((p1 &&& (1048575 : Int32)).toInt64))), .second, .val (.double (FP.ddiv (FP.l2d ((p2 &&& (65535 : Int32)).toInt64)) (4742290407621132288 : UInt64))), .second, .val (.double (FP.l2d ((p3 &&& (65535 : Int32)).toInt64))), .second, .val (.int (0 : Int32)), .unset, .unset, .unset] [(.long (1073741824 : Int64))])) _
    refine XS.lstore X1.here hx rfl (hb hby at_60) rfl (l' := #[.val (.int p0), .val (.int p1), .val (.int p2), .val (.int p3), .val (.long ((p1 &&& (1048575 : Int32)).toInt64)), .second, .val (.long ((p2 &&& (65535 : Int32)).toInt64)), .second, .val (.long ((p3 &&& (65535 : Int32)).toInt64)), .second, .val (.double (FP.i2d p0)), .second, .val (.double (FP.l2d ((p1 &&& (1048575 : Int32)).toInt64))), .second, .val (.double (FP.ddiv (FP.l2d ((p2 &&& (65535 : Int32)).toInt64)) (4742290407621132288 : UInt64))), .second, .val (.double (FP.l2d ((p3 &&& (65535 : Int32)).toInt64))), .second, .val (.int (0 : Int32)), .val (.long (1073741824 : Int64)), .second, .unset]) rfl ?_
    show Steps p.tables e below (T1.setTop (mkF m 62 #[.val (.int p0), .val (.int p1), .val (.int p2), .val (.int p3), .val (.long ((p1 &&& (1048575 : Int32)).toInt64)), .second, .val (.long ((p2 &&& (65535 : Int32)).toInt64)), .second, .val (.long ((p3 &&& (65535 : Int32)).toInt64)), .second, .val (.double (FP.i2d p0)), .second, .val (.double (FP.l2d ((p1 &&& (1048575 : Int32)).toInt64))), .second, .val (.double (FP.ddiv (FP.l2d ((p2 &&& (65535 : Int32)).toInt64)) (4742290407621132288 : UInt64))), .second, .val (.double (FP.l2d ((p3 &&& (65535 : Int32)).toInt64))), .second, .val (.int (0 : Int32)), .val (.long (1073741824 : Int64)), .second, .unset] [])) _
    refine XS.iloadN X1.here hx rfl (hb hby at_62) rfl ?_
    show Steps p.tables e below (T1.setTop (mkF m 63 #[.val (.int p0), .val (.int p1), .val (.int p2), .val (.int p3), .val (.long ((p1 &&& (1048575 : Int32)).toInt64)), .second, .val (.long ((p2 &&& (65535 : Int32)).toInt64)), .second, .val (.long ((p3 &&& (65535 : Int32)).toInt64)), .second, .val (.double (FP.i2d p0)), .second, .val (.double (FP.l2d ((p1 &&& (1048575 : Int32)).toInt64))), .second, .val (.double (FP.ddiv (FP.l2d ((p2 &&& (65535 : Int32)).toInt64)) (4742290407621132288 : UInt64))), .second, .val (.double (FP.l2d ((p3 &&& (65535 : Int32)).toInt64))), .second, .val (.int (0 : Int32)), .val (.long (1073741824 : Int64)), .second, .unset] [(.int p0)])) _
    refine XS.i2l X1.here hx rfl (hb hby at_63) rfl ?_
    show Steps p.tables e below (T1.setTop (mkF m 64 #[.val (.int p0), .val (.int p1), .val (.int p2), .val (.int p3), .val (.long ((p1 &&& (1048575 : Int32)).toInt64)), .second, .val (.long ((p2 &&& (65535 : Int32)).toInt64)), .second, .val (.long ((p3 &&& (65535 : Int32)).toInt64)), .second, .val (.double (FP.i2d p0)), .second, .val (.double (FP.l2d ((p1 &&& (1048575 : Int32)).toInt64))), .second, .val (.double (FP.ddiv (FP.l2d ((p2 &&& (65535 : Int32)).toInt64)) (4742290407621132288 : UInt64))), .second, .val (.double (FP.l2d ((p3 &&& (65535 : Int32)).toInt64))), .second, .val (.int (0 : Int32)), .val (.long (1073741824 : Int64)), .second, .unset] [(.long (p0.toInt64))])) _
    refine XS.lload X1.here hx rfl (hb hby at_64) rfl ?_
    show Steps p.tables e below (T1.setTop (mkF m 66 #[.val (.int p0), .val (.int p1), .val (.int p2), .val (.int p3), .val (.long ((p1 &&& (1048575 : Int32)).toInt64)), .second, .val (.long ((p2 &&& (65535 : Int32)).toInt64)), .second, .val (.long ((p3 &&& (65535 : Int32)).toInt64)), .second, .val (.double (FP.i2d p0)), .second, .val (.double (FP.l2d ((p1 &&& (1048575 : Int32)).toInt64))), .second, .val (.double (FP.ddiv (FP.l2d ((p2 &&& (65535 : Int32)).toInt64)) (4742290407621132288 : UInt64))), .second, .val (.double (FP.l2d ((p3 &&& (65535 : Int32)).toInt64))), .second, .val (.int (0 : Int32)), .val (.long (1073741824 : Int64)), .second, .unset] [(.long (1073741824 : Int64)), (.long (p0.toInt64))])) _
    refine XS.lmul X1.here hx rfl (hb hby at_66) rfl ?_
    show Steps p.tables e below (T1.setTop (mkF m 67 #[.val (.int p0), .val (.int p1), .val (.int p2), .val (.int p3), .val (.long ((p1 &&& (1048575 : Int32)).toInt64)), .second, .val (.long ((p2 &&& (65535 : Int32)).toInt64)), .second, .val (.long ((p3 &&& (65535 : Int32)).toInt64)), .second, .val (.double (FP.i2d p0)), .second, .val (.double (FP.l2d ((p1 &&& (1048575 : Int32)).toInt64))), .second, .val (.double (FP.ddiv (FP.l2d ((p2 &&& (65535 : Int32)).toInt64)) (4742290407621132288 : UInt64))), .second, .val (.double (FP.l2d ((p3 &&& (65535 : Int32)).toInt64))), .second, .val (.int (0 : Int32)), .val (.long (1073741824 : Int64)), .second, .unset] [(.long ((p0.toInt64) * (1073741824 : Int64)))])) _
    refine XS.lload X1.here hx rfl (hb hby at_67) rfl ?_
    show Steps p.tables e below (T1.setTop (mkF m 69 #[.val (.int p0), .val (.int p1), .val (.int p2), .val (.int p3), .val (.long ((p1 &&& (1048575 : Int32)).toInt64)), .second, .val (.long ((p2 &&& (65535 : Int32)).toInt64)), .second, .val (.long ((p3 &&& (65535 : Int32)).toInt64)), .second, .val (.double (FP.i2d p0)), .second, .val (.double (FP.l2d ((p1 &&& (1048575 : Int32)).toInt64))), .second, .val (.double (FP.ddiv (FP.l2d ((p2 &&& (65535 : Int32)).toInt64)) (4742290407621132288 : UInt64))), .second, .val (.double (FP.l2d ((p3 &&& (65535 : Int32)).toInt64))), .second, .val (.int (0 : Int32)), .val (.long (1073741824 : Int64)), .second, .unset] [(.long ((p1 &&& (1048575 : Int32)).toInt64)), (.long ((p0.toInt64) * (1073741824 : Int64)))])) _
    refine XS.lload X1.here hx rfl (hb hby at_69) rfl ?_
    show Steps p.tables e below (T1.setTop (mkF m 71 #[.val (.int p0), .val (.int p1), .val (.int p2), .val (.int p3), .val (.long ((p1 &&& (1048575 : Int32)).toInt64)), .second, .val (.long ((p2 &&& (65535 : Int32)).toInt64)), .second, .val (.long ((p3 &&& (65535 : Int32)).toInt64)), .second, .val (.double (FP.i2d p0)), .second, .val (.double (FP.l2d ((p1 &&& (1048575 : Int32)).toInt64))), .second, .val (.double (FP.ddiv (FP.l2d ((p2 &&& (65535 : Int32)).toInt64)) (4742290407621132288 : UInt64))), .second, .val (.double (FP.l2d ((p3 &&& (65535 : Int32)).toInt64))), .second, .val (.int (0 : Int32)), .val (.long (1073741824 : Int64)), .second, .unset] [(.long (1073741824 : Int64)), (.long ((p1 &&& (1048575 : Int32)).toInt64)), (.long ((p0.toInt64) * (1073741824 : Int64)))])) _
    refine XS.lmul X1.here hx rfl (hb hby at_71) rfl ?_
    show Steps p.tables e below (T1.setTop (mkF m 72 #[.val (.int p0), .val (.int p1), .val (.int p2), .val (.int p3), .val (.long ((p1 &&& (1048575 : Int32)).toInt64)), .second, .val (.long ((p2 &&& (65535 : Int32)).toInt64)), .second, .val (.long ((p3 &&& (65535 : Int32)).toInt64)), .second, .val (.double (FP.i2d p0)), .second, .val (.double (FP.l2d ((p1 &&& (1048575 : Int32)).toInt64))), .second, .val (.double (FP.ddiv (FP.l2d ((p2 &&& (65535 : Int32)).toInt64)) (4742290407621132288 : UInt64))), .second, .val (.double (FP.l2d ((p3 &&& (65535 : Int32)).toInt64))), .second, .val (.int (0 : Int32)), .val (.long (1073741824 : Int64)), .second, .unset] [(.long (((p1 &&& (1048575 : Int32)).toInt64) * (1073741824 : Int64))), (.long ((p0.toInt64) * (1073741824 : Int64)))])) _
    refine X1.ldc2Long hx hown (mvT hZ (hw _ (List.mem_of_getElem? (i := 9) rfl))) (g := (mkF m 72 #[.val (.int p0), .val (.int p1), .val (.int p2), .val (.int p3), .val (.long ((p1 &&& (1048575 : Int32)).toInt64)), .second, .val (.long ((p2 &&& (65535 : Int32)).toInt64)), .second, .val (.long ((p3 &&& (65535 : Int32)).toInt64)), .second, .val (.double (FP.i2d p0)), .second, .val (.double (FP.l2d ((p1 &&& (1048575 : Int32)).toInt64))), .second, .val (.double (FP.ddiv (FP.l2d ((p2 &&& (65535 : Int32)).toInt64)) (4742290407621132288 : UInt64))), .second, .val (.double (FP.l2d ((p3 &&& (65535 : Int32)).toInt64))), .second, .val (.int (0 : Int32)), .val (.long (1073741824 : Int64)), .second, .unset] [(.long (((p1 &&& (1048575 : Int32)).toInt64) * (1073741824 : Int64))), (.long ((p0.toInt64) * (1073741824 : Int64)))])) rfl (hb hby at_72) _ ?_
    show Steps p.tables e below (T1.setTop (mkF m 75 #[.val (.int p0), .val (.int p1), .val (.int p2), .val (.int p3), .val (.long ((p1 &&& (1048575 : Int32)).toInt64)), .second, .val (.long ((p2 &&& (65535 : Int32)).toInt64)), .second, .val (.long ((p3 &&& (65535 : Int32)).toInt64)), .second, .val (.double (FP.i2d p0)), .second, .val (.double (FP.l2d ((p1 &&& (1048575 : Int32)).toInt64))), .second, .val (.double (FP.ddiv (FP.l2d ((p2 &&& (65535 : Int32)).toInt64)) (4742290407621132288 : UInt64))), .second, .val (.double (FP.l2d ((p3 &&& (65535 : Int32)).toInt64))), .second, .val (.int (0 : Int32)), .val (.long (1073741824 : Int64)), .second, .unset] [(.long (2 : Int64)), (.long (((p1 &&& (1048575 : Int32)).toInt64) * (1073741824 : Int64))), (.long ((p0.toInt64) * (1073741824 : Int64)))])) _
    refine XS.lload X1.here hx rfl (hb hby at_75) rfl ?_
    show Steps p.tables e below (T1.setTop (mkF m 77 #[.val (.int p0), .val (.int p1), .val (.int p2), .val (.int p3), .val (.long ((p1 &&& (1048575 : Int32)).toInt64)), .second, .val (.long ((p2 &&& (65535 : Int32)).toInt64)), .second, .val (.long ((p3 &&& (65535 : Int32)).toInt64)), .second, .val (.double (FP.i2d p0)), .second, .val (.double (FP.l2d ((p1 &&& (1048575 : Int32)).toInt64))), .second, .val (.double (FP.ddiv (FP.l2d ((p2 &&& (65535 : Int32)).toInt64)) (4742290407621132288 : UInt64))), .second, .val (.double (FP.l2d ((p3 &&& (65535 : Int32)).toInt64))), .second, .val (.int (0 : Int32)), .val (.long (1073741824 : Int64)), .second, .unset] [(.long ((p2 &&& (65535 : Int32)).toInt64)), (.long (2 : Int64)), (.long (((p1 &&& (1048575 : Int32)).toInt64) * (1073741824 : Int64))), (.long ((p0.toInt64) * (1073741824 : Int64)))])) _
    refine XS.lmul X1.here hx rfl (hb hby at_77) rfl ?_
    show Steps p.tables e below (T1.setTop (mkF m 78 #[.val (.int p0), .val (.int p1), .val (.int p2), .val (.int p3), .val (.long ((p1 &&& (1048575 : Int32)).toInt64)), .second, .val (.long ((p2 &&& (65535 : Int32)).toInt64)), .second, .val (.long ((p3 &&& (65535 : Int32)).toInt64)), .second, .val (.double (FP.i2d p0)), .second, .val (.double (FP.l2d ((p1 &&& (1048575 : Int32)).toInt64))), .second, .val (.double (FP.ddiv (FP.l2d ((p2 &&& (65535 : Int32)).toInt64)) (4742290407621132288 : UInt64))), .second, .val (.double (FP.l2d ((p3 &&& (65535 : Int32)).toInt64))), .second, .val (.int (0 : Int32)), .val (.long (1073741824 : Int64)), .second, .unset] [(.long ((2 : Int64) * ((p2 &&& (65535 : Int32)).toInt64))), (.long (((p1 &&& (1048575 : Int32)).toInt64) * (1073741824 : Int64))), (.long ((p0.toInt64) * (1073741824 : Int64)))])) _
    refine XS.lload X1.here hx rfl (hb hby at_78) rfl ?_
    show Steps p.tables e below (T1.setTop (mkF m 80 #[.val (.int p0), .val (.int p1), .val (.int p2), .val (.int p3), .val (.long ((p1 &&& (1048575 : Int32)).toInt64)), .second, .val (.long ((p2 &&& (65535 : Int32)).toInt64)), .second, .val (.long ((p3 &&& (65535 : Int32)).toInt64)), .second, .val (.double (FP.i2d p0)), .second, .val (.double (FP.l2d ((p1 &&& (1048575 : Int32)).toInt64))), .second, .val (.double (FP.ddiv (FP.l2d ((p2 &&& (65535 : Int32)).toInt64)) (4742290407621132288 : UInt64))), .second, .val (.double (FP.l2d ((p3 &&& (65535 : Int32)).toInt64))), .second, .val (.int (0 : Int32)), .val (.long (1073741824 : Int64)), .second, .unset] [(.long ((p3 &&& (65535 : Int32)).toInt64)), (.long ((2 : Int64) * ((p2 &&& (65535 : Int32)).toInt64))), (.long (((p1 &&& (1048575 : Int32)).toInt64) * (1073741824 : Int64))), (.long ((p0.toInt64) * (1073741824 : Int64)))])) _
    refine XS.lmul X1.here hx rfl (hb hby at_80) rfl ?_
    show Steps p.tables e below (T1.setTop (mkF m 81 #[.val (.int p0), .val (.int p1), .val (.int p2), .val (.int p3), .val (.long ((p1 &&& (1048575 : Int32)).toInt64)), .second, .val (.long ((p2 &&& (65535 : Int32)).toInt64)), .second, .val (.long ((p3 &&& (65535 : Int32)).toInt64)), .second, .val (.double (FP.i2d p0)), .second, .val (.double (FP.l2d ((p1 &&& (1048575 : Int32)).toInt64))), .second, .val (.double (FP.ddiv (FP.l2d ((p2 &&& (65535 : Int32)).toInt64)) (4742290407621132288 : UInt64))), .second, .val (.double (FP.l2d ((p3 &&& (65535 : Int32)).toInt64))), .second, .val (.int (0 : Int32)), .val (.long (1073741824 : Int64)), .second, .unset] [(.long (((2 : Int64) * ((p2 &&& (65535 : Int32)).toInt64)) * ((p3 &&& (65535 : Int32)).toInt64))), (.long (((p1 &&& (1048575 : Int32)).toInt64) * (1073741824 : Int64))), (.long ((p0.toInt64) * (1073741824 : Int64)))])) _
    refine XS.ladd X1.here hx rfl (hb hby at_81) rfl ?_
    show Steps p.tables e below (T1.setTop (mkF m 82 #[.val (.int p0), .val (.int p1), .val (.int p2), .val (.int p3), .val (.long ((p1 &&& (1048575 : Int32)).toInt64)), .second, .val (.long ((p2 &&& (65535 : Int32)).toInt64)), .second, .val (.long ((p3 &&& (65535 : Int32)).toInt64)), .second, .val (.double (FP.i2d p0)), .second, .val (.double (FP.l2d ((p1 &&& (1048575 : Int32)).toInt64))), .second, .val (.double (FP.ddiv (FP.l2d ((p2 &&& (65535 : Int32)).toInt64)) (4742290407621132288 : UInt64))), .second, .val (.double (FP.l2d ((p3 &&& (65535 : Int32)).toInt64))), .second, .val (.int (0 : Int32)), .val (.long (1073741824 : Int64)), .second, .unset] [(.long ((((p1 &&& (1048575 : Int32)).toInt64) * (1073741824 : Int64)) + (((2 : Int64) * ((p2 &&& (65535 : Int32)).toInt64)) * ((p3 &&& (65535 : Int32)).toInt64)))), (.long ((p0.toInt64) * (1073741824 : Int64)))])) _
    refine XS.lneg X1.here hx rfl (hb hby at_82) rfl ?_
    show Steps p.tables e below (T1.setTop (mkF m 83 #[.val (.int p0), .val (.int p1), .val (.int p2), .val (.int p3), .val (.long ((p1 &&& (1048575 : Int32)).toInt64)), .second, .val (.long ((p2 &&& (65535 : Int32)).toInt64)), .second, .val (.long ((p3 &&& (65535 : Int32)).toInt64)), .second, .val (.double (FP.i2d p0)), .second, .val (.double (FP.l2d ((p1 &&& (1048575 : Int32)).toInt64))), .second, .val (.double (FP.ddiv (FP.l2d ((p2 &&& (65535 : Int32)).toInt64)) (4742290407621132288 : UInt64))), .second, .val (.double (FP.l2d ((p3 &&& (65535 : Int32)).toInt64))), .second, .val (.int (0 : Int32)), .val (.long (1073741824 : Int64)), .second, .unset] [(.long (-((((p1 &&& (1048575 : Int32)).toInt64) * (1073741824 : Int64)) + (((2 : Int64) * ((p2 &&& (65535 : Int32)).toInt64)) * ((p3 &&& (65535 : Int32)).toInt64))))), (.long ((p0.toInt64) * (1073741824 : Int64)))])) _
    refine XS.lcmp X1.here hx rfl (hb hby at_83) rfl ?_
    show Steps p.tables e below (T1.setTop (mkF m 84 #[.val (.int p0), .val (.int p1), .val (.int p2), .val (.int p3), .val (.long ((p1 &&& (1048575 : Int32)).toInt64)), .second, .val (.long ((p2 &&& (65535 : Int32)).toInt64)), .second, .val (.long ((p3 &&& (65535 : Int32)).toInt64)), .second, .val (.double (FP.i2d p0)), .second, .val (.double (FP.l2d ((p1 &&& (1048575 : Int32)).toInt64))), .second, .val (.double (FP.ddiv (FP.l2d ((p2 &&& (65535 : Int32)).toInt64)) (4742290407621132288 : UInt64))), .second, .val (.double (FP.l2d ((p3 &&& (65535 : Int32)).toInt64))), .second, .val (.int (0 : Int32)), .val (.long (1073741824 : Int64)), .second, .unset] [(.int (lcmpW ((p0.toInt64) * (1073741824 : Int64)) (-((((p1 &&& (1048575 : Int32)).toInt64) * (1073741824 : Int64)) + (((2 : Int64) * ((p2 &&& (65535 : Int32)).toInt64)) * ((p3 &&& (65535 : Int32)).toInt64))))))])) _
    refine XS.ifYes X1.here hx rfl (pc0 := 84) (pc' := 91) rfl (hb hby at_84) rfl ((if0 _ _).trans (flt hc84).2.1) (by decide) (by decide) ?_
    show Steps p.tables e below (T1.setTop (mkF m 91 #[.val (.int p0), .val (.int p1), .val (.int p2), .val (.int p3), .val (.long ((p1 &&& (1048575 : Int32)).toInt64)), .second, .val (.long ((p2 &&& (65535 : Int32)).toInt64)), .second, .val (.long ((p3 &&& (65535 : Int32)).toInt64)), .second, .val (.double (FP.i2d p0)), .second, .val (.double (FP.l2d ((p1 &&& (1048575 : Int32)).toInt64))), .second, .val (.double (FP.ddiv (FP.l2d ((p2 &&& (65535 : Int32)).toInt64)) (4742290407621132288 : UInt64))), .second, .val (.double (FP.l2d ((p3 &&& (65535 : Int32)).toInt64))), .second, .val (.int (0 : Int32)), .val (.long (1073741824 : Int64)), .second, .unset] [])) _
    refine XS.iconst X1.here hx rfl (hb hby at_91) ?_
    show Steps p.tables e below (T1.setTop (mkF m 92 #[.val (.int p0), .val (.int p1), .val (.int p2), .val (.int p3), .val (.long ((p1 &&& (1048575 : Int32)).toInt64)), .second, .val (.long ((p2 &&& (65535 : Int32)).toInt64)), .second, .val (.long ((p3 &&& (65535 : Int32)).toInt64)), .second, .val (.double (FP.i2d p0)), .second, .val (.double (FP.l2d ((p1 &&& (1048575 : Int32)).toInt64))), .second, .val (.double (FP.ddiv (FP.l2d ((p2 &&& (65535 : Int32)).toInt64)) (4742290407621132288 : UInt64))), .second, .val (.double (FP.l2d ((p3 &&& (65535 : Int32)).toInt64))), .second, .val (.int (0 : Int32)), .val (.long (1073741824 : Int64)), .second, .unset] [(.int (0 : Int32))])) _
    refine XS.istore X1.here hx rfl (hb hby at_92) rfl (l' := #[.val (.int p0), .val (.int p1), .val (.int p2), .val (.int p3), .val (.long ((p1 &&& (1048575 : Int32)).toInt64)), .second, .val (.long ((p2 &&& (65535 : Int32)).toInt64)), .second, .val (.long ((p3 &&& (65535 : Int32)).toInt64)), .second, .val (.double (FP.i2d p0)), .second, .val (.double (FP.l2d ((p1 &&& (1048575 : Int32)).toInt64))), .second, .val (.double (FP.ddiv (FP.l2d ((p2 &&& (65535 : Int32)).toInt64)) (4742290407621132288 : UInt64))), .second, .val (.double (FP.l2d ((p3 &&& (65535 : Int32)).toInt64))), .second, .val (.int (0 : Int32)), .val (.long (1073741824 : Int64)), .second, .val (.int (0 : Int32))]) rfl ?_
    show Steps p.tables e below (T1.setTop (mkF m 94 #[.val (.int p0), .val (.int p1), .val (.int p2), .val (.int p3), .val (.long ((p1 &&& (1048575 : Int32)).toInt64)), .second, .val (.long ((p2 &&& (65535 : Int32)).toInt64)), .second, .val (.long ((p3 &&& (65535 : Int32)).toInt64)), .second, .val (.double (FP.i2d p0)), .second, .val (.double (FP.l2d ((p1 &&& (1048575 : Int32)).toInt64))), .second, .val (.double (FP.ddiv (FP.l2d ((p2 &&& (65535 : Int32)).toInt64)) (4742290407621132288 : UInt64))), .second, .val (.double (FP.l2d ((p3 &&& (65535 : Int32)).toInt64))), .second, .val (.int (0 : Int32)), .val (.long (1073741824 : Int64)), .second, .val (.int (0 : Int32))] [])) _
    refine XS.iload X1.here hx rfl (hb hby at_94) rfl ?_
    show Steps p.tables e below (T1.setTop (mkF m 96 #[.val (.int p0), .val (.int p1), .val (.int p2), .val (.int p3), .val (.long ((p1 &&& (1048575 : Int32)).toInt64)), .second, .val (.long ((p2 &&& (65535 : Int32)).toInt64)), .second, .val (.long ((p3 &&& (65535 : Int32)).toInt64)), .second, .val (.double (FP.i2d p0)), .second, .val (.double (FP.l2d ((p1 &&& (1048575 : Int32)).toInt64))), .second, .val (.double (FP.ddiv (FP.l2d ((p2 &&& (65535 : Int32)).toInt64)) (4742290407621132288 : UInt64))), .second, .val (.double (FP.l2d ((p3 &&& (65535 : Int32)).toInt64))), .second, .val (.int (0 : Int32)), .val (.long (1073741824 : Int64)), .second, .val (.int (0 : Int32))] [(.int (0 : Int32))])) _
    refine XS.iload X1.here hx rfl (hb hby at_96) rfl ?_
    show Steps p.tables e below (T1.setTop (mkF m 98 #[.val (.int p0), .val (.int p1), .val (.int p2), .val (.int p3), .val (.long ((p1 &&& (1048575 : Int32)).toInt64)), .second, .val (.long ((p2 &&& (65535 : Int32)).toInt64)), .second, .val (.long ((p3 &&& (65535 : Int32)).toInt64)), .second, .val (.double (FP.i2d p0)), .second, .val (.double (FP.l2d ((p1 &&& (1048575 : Int32)).toInt64))), .second, .val (.double (FP.ddiv (FP.l2d ((p2 &&& (65535 : Int32)).toInt64)) (4742290407621132288 : UInt64))), .second, .val (.double (FP.l2d ((p3 &&& (65535 : Int32)).toInt64))), .second, .val (.int (0 : Int32)), .val (.long (1073741824 : Int64)), .second, .val (.int (0 : Int32))] [(.int (0 : Int32)), (.int (0 : Int32))])) _
    refine XS.icmpNo X1.here hx rfl (hb hby at_98) rfl (teq (by decide : (0 : Int32) = (0 : Int32))).2 ?_
    show Steps p.tables e below (T1.setTop (mkF m 101 #[.val (.int p0), .val (.int p1), .val (.int p2), .val (.int p3), .val (.long ((p1 &&& (1048575 : Int32)).toInt64)), .second, .val (.long ((p2 &&& (65535 : Int32)).toInt64)), .second, .val (.long ((p3 &&& (65535 : Int32)).toInt64)), .second, .val (.double (FP.i2d p0)), .second, .val (.double (FP.l2d ((p1 &&& (1048575 : Int32)).toInt64))), .second, .val (.double (FP.ddiv (FP.l2d ((p2 &&& (65535 : Int32)).toInt64)) (4742290407621132288 : UInt64))), .second, .val (.double (FP.l2d ((p3 &&& (65535 : Int32)).toInt64))), .second, .val (.int (0 : Int32)), .val (.long (1073741824 : Int64)), .second, .val (.int (0 : Int32))] [])) _
    refine XS.iconst X1.here hx rfl (hb hby at_101) ?_
    show Steps p.tables e below (T1.setTop (mkF m 102 #[.val (.int p0), .val (.int p1), .val (.int p2), .val (.int p3), .val (.long ((p1 &&& (1048575 : Int32)).toInt64)), .second, .val (.long ((p2 &&& (65535 : Int32)).toInt64)), .second, .val (.long ((p3 &&& (65535 : Int32)).toInt64)), .second, .val (.double (FP.i2d p0)), .second, .val (.double (FP.l2d ((p1 &&& (1048575 : Int32)).toInt64))), .second, .val (.double (FP.ddiv (FP.l2d ((p2 &&& (65535 : Int32)).toInt64)) (4742290407621132288 : UInt64))), .second, .val (.double (FP.l2d ((p3 &&& (65535 : Int32)).toInt64))), .second, .val (.int (0 : Int32)), .val (.long (1073741824 : Int64)), .second, .val (.int (0 : Int32))] [(.int (1 : Int32))])) _
    refine XS.goto X1.here hx rfl (pc0 := 102) (pc' := 106) rfl (hb hby at_102) (by decide) (by decide) ?_
    show Steps p.tables e below (T1.setTop (mkF m 106 #[.val (.int p0), .val (.int p1), .val (.int p2), .val (.int p3), .val (.long ((p1 &&& (1048575 : Int32)).toInt64)), .second, .val (.long ((p2 &&& (65535 : Int32)).toInt64)), .second, .val (.long ((p3 &&& (65535 : Int32)).toInt64)), .second, .val (.double (FP.i2d p0)), .second, .val (.double (FP.l2d ((p1 &&& (1048575 : Int32)).toInt64))), .second, .val (.double (FP.ddiv (FP.l2d ((p2 &&& (65535 : Int32)).toInt64)) (4742290407621132288 : UInt64))), .second, .val (.double (FP.l2d ((p3 &&& (65535 : Int32)).toInt64))), .second, .val (.int (0 : Int32)), .val (.long (1073741824 : Int64)), .second, .val (.int (0 : Int32))] [(.int (1 : Int32))])) _
    exact retN X1 hx (t := .boolean) Bd.returns (by simp) (hb hby at_106) hr
  · show Q0 n0 _ T1.heap _
    rw [e1]
    exact ⟨rfl, N1⟩
open Jvm.OwnFP in
theorem own_sums (d : Int32) (r e f : Int) (x y z : UInt64) (hr : Ra r 1 x) (he : Ra e 1 y) (hf : Ra f 1 z) (r0 : 0 ≤ r) (r1 : r ≤ 1048575) (e0 : 0 ≤ e) (e1 : e ≤ 65535) (f0 : 0 ≤ f) (f1 : f ≤ 65535) :
    Jvm.Free.Fl.NoNaN64 (FP.ddiv y (4742290407621132288 : UInt64)) ∧ Jvm.Free.Fl.NoNaN64 (FP.dmul (4611686018427387904 : UInt64) (FP.ddiv y (4742290407621132288 : UInt64))) ∧
    Jvm.Free.Fl.NoNaN64 (FP.dmul (FP.dmul (4611686018427387904 : UInt64) (FP.ddiv y (4742290407621132288 : UInt64))) z) ∧
    Jvm.Free.Fl.NoNaN64 (FP.dadd x (FP.dmul (FP.dmul (4611686018427387904 : UInt64) (FP.ddiv y (4742290407621132288 : UInt64))) z)) ∧
    Ra (-(r * 1073741824 + 2 * e * f)) 1073741824 (FP.dneg (FP.dadd x (FP.dmul (FP.dmul (4611686018427387904 : UInt64) (FP.ddiv y (4742290407621132288 : UInt64))) z))) ∧ Ra (d.toInt * 1073741824) 1073741824 (FP.i2d d) ∧ 0 ≤ e * f ∧ e * f ≤ 4294836225 := by
  have ef0 : 0 ≤ e * f := Int.mul_nonneg e0 f0
  have ef1 : e * f ≤ 65535 * 65535 := Int.mul_le_mul e1 f1 f0 (by decide)
  have k : Ra 1073741824 1 (4742290407621132288 : UInt64) := Ra.lit (s := false) (c := 4503599627370496) (q := -22) (k := 0) (n := 22) (by decide +kernel) rfl (by decide) (by decide) (by decide)
  have a1 : Ra e 1073741824 (FP.ddiv y (4742290407621132288 : UInt64)) := Ra.div (k := 30) he k (by decide) (by decide) (by decide) (by omega) (by decide) (by decide) (by omega)
  have a2 : Ra (2 * e) (1 * 1073741824) (FP.dmul (4611686018427387904 : UInt64) (FP.ddiv y (4742290407621132288 : UInt64))) := Ra.mul (k := 30) ra_two a1 (by omega) (by decide) (by decide)
  have a3 : Ra (2 * e * f) (1 * 1073741824 * 1) (FP.dmul (FP.dmul (4611686018427387904 : UInt64) (FP.ddiv y (4742290407621132288 : UInt64))) z) := Ra.mul (k := 30) a2 hf (by rw [Int.mul_assoc]; omega) (by decide) (by decide)
  have a4 : Ra (r * 1073741824) 1073741824 x := hr.scale (by decide) (by omega)
  have a5 : Ra (r * 1073741824 + 2 * e * f) 1073741824 (FP.dadd x (FP.dmul (FP.dmul (4611686018427387904 : UInt64) (FP.ddiv y (4742290407621132288 : UInt64))) z)) := Ra.add (k := 30) a4 a3 (by rw [Int.mul_assoc]; omega) (by decide) (by decide)
  exact ⟨a1.nn, a2.nn, a3.nn, a5.nn, a5.neg, (Ra.i2d d).scale (by decide) (by omega), ef0, ef1⟩
theorem own_law (l : Launch) (Z : State) (a0 : Array Value) (hw : ∀ d ∈ tables_1, d.before a0 Z = true) (ws : List Jvm.Cond) (p0 : Int32) (p1 : Int32) (p2 : Int32) (p3 : Int32) (h0 : Heap) (n0 : Nat) (Z0 : n0 ≤ h0.size) :
    MetFree l x (head1 (Jvm.Cond.code x code maxLocals ret :: ws) room_1) (fun a U => a = #[(.int p0), (.int p1), (.int p2), (.int p3)] ∧ Z.Warmed39 U.vm ∧ U.heap = h0) (fun _ _ _ _ _ => True) (fun _ U o U' => ∃ v L, o = .returned v ∧ Q0 n0 v U'.heap L ∧ FrameEnd U o U' L room_1.cells room_1.slots) := by
  have b1 := c_and p1 (1048575 : Int32) (by decide)
  have b2 := c_and p2 (65535 : Int32) (by decide)
  have b3 := c_and p3 (65535 : Int32) (by decide)
  rw [show (1048575 : Int32).toInt = 1048575 by decide] at b1
  rw [show (65535 : Int32).toInt = 65535 by decide] at b2 b3
  have b0 := rng32 p0
  obtain ⟨r, hr⟩ : ∃ z, (p1 &&& (1048575 : Int32)).toInt = z := ⟨_, rfl⟩
  obtain ⟨e, he⟩ : ∃ z, (p2 &&& (65535 : Int32)).toInt = z := ⟨_, rfl⟩
  obtain ⟨f, hf⟩ : ∃ z, (p3 &&& (65535 : Int32)).toInt = z := ⟨_, rfl⟩
  rw [hr] at b1; rw [he] at b2; rw [hf] at b3
  have lr := Jvm.OwnFP.i2l_of hr
  have le := Jvm.OwnFP.i2l_of he
  have lf := Jvm.OwnFP.i2l_of hf
  have ld : p0.toInt64.toInt = p0.toInt := Jvm.OwnFP.i2l_of rfl
  obtain ⟨n1, n2, n3, n4, hs, hd, ef0, ef1⟩ := own_sums p0 r e f _ _ _ ((Jvm.OwnFP.Ra.l2d (a := (p1 &&& (1048575 : Int32)).toInt64) (by omega)).same lr) ((Jvm.OwnFP.Ra.l2d (a := (p2 &&& (65535 : Int32)).toInt64) (by omega)).same le) ((Jvm.OwnFP.Ra.l2d (a := (p3 &&& (65535 : Int32)).toInt64) (by omega)).same lf) b1.1 b1.2 b2.1 b2.2 b3.1 b3.2
  have k1 : (p0.toInt64 * (1073741824 : Int64)).toInt = p0.toInt * 1073741824 := Jvm.OwnFP.lmul_of ld (by decide +kernel) (by omega) (by omega)
  have k2 : ((p1 &&& (1048575 : Int32)).toInt64 * (1073741824 : Int64)).toInt = r * 1073741824 := Jvm.OwnFP.lmul_of lr (by decide +kernel) (by omega) (by omega)
  have k3 : ((2 : Int64) * (p2 &&& (65535 : Int32)).toInt64).toInt = 2 * e := Jvm.OwnFP.lmul_of (by decide +kernel) le (by omega) (by omega)
  have k4 : ((2 : Int64) * (p2 &&& (65535 : Int32)).toInt64 * (p3 &&& (65535 : Int32)).toInt64).toInt = 2 * e * f := Jvm.OwnFP.lmul_of k3 lf (by rw [Int.mul_assoc]; omega) (by rw [Int.mul_assoc]; omega)
  have k5 := Jvm.OwnFP.ladd_of k2 k4 (by rw [Int.mul_assoc]; omega) (by rw [Int.mul_assoc]; omega)
  have k6 := Jvm.OwnFP.lneg_of k5 (by rw [Int.mul_assoc]; omega)
  have kl : lcmpW (p0.toInt64 * (1073741824 : Int64)) (-((p1 &&& (1048575 : Int32)).toInt64 * (1073741824 : Int64) + (2 : Int64) * (p2 &&& (65535 : Int32)).toInt64 * (p3 &&& (65535 : Int32)).toInt64)) < 0 ↔ p0.toInt * 1073741824 < -(r * 1073741824 + 2 * e * f) := by
    rw [lw_lt, Int64.lt_iff_toInt_lt, k1, k6]
  rcases Int.lt_trichotomy (p0.toInt * 1073741824) (-(r * 1073741824 + 2 * e * f)) with h | h | h
  · exact rm0a l Z a0 hw ws p0 p1 p2 p3 h0 n0 Z0 (nn36 := n1) (nn7_52 := n2) (nn10_52 := n3) (nn11_52 := n4) (hd13_52 := hd.lt hs (by decide) h _) (hc84 := kl.mpr h)
  · exact rm0b l Z a0 hw ws p0 p1 p2 p3 h0 n0 Z0 (nn36 := n1) (nn7_52 := n2) (nn10_52 := n3) (nn11_52 := n4) (hd13_52 := hd.eq hs (by decide) h _) (hc84 := fun q => absurd (kl.mp q) (Int.not_lt.mpr (Int.le_of_eq h.symm)))
  · exact rm0c l Z a0 hw ws p0 p1 p2 p3 h0 n0 Z0 (nn36 := n1) (nn7_52 := n2) (nn10_52 := n3) (nn11_52 := n4) (hd13_52 := hd.gt hs (by decide) h _) (hc84 := fun q => absurd (kl.mp q) (Int.not_lt.mpr (Int.le_of_lt h)))
set_option maxRecDepth 65536 in
set_option maxHeartbeats 40000000 in
theorem comes_1 {Post : Tables → Env → Array Value → State → Outcome → State → Prop} (hpost : ∀ tb e args s v u, (limb_1_1.after args s (.returned v) u = true ∧ limb_1_2.after args s (.returned v) u = true ∧ True) → FrameEnd s (.returned v) u (Jvm.fieldLocs frame_1_writes args s ++ Jvm.arrayLocs frame_1_arrays args s ++ Jvm.staticLocs frame_1_statics s) 0 0 → Post tb e args s (.returned v) u) :
    ArmFor flags0 classFile x code maxLocals ret World_1 tables_1 room_1 Calls_1 rest_1 Pre_1 Post := by
  intro l hfl _ _ p e ha hc hk s m args below hf hA hF happ hP
  obtain ⟨hcalls, hrest, hpre⟩ := hP
  obtain ⟨-, -, -, hnamed, -, -, -, hat⟩ := (Spec.applies_iff hf).mp happ
  obtain ⟨hg, hn⟩ := and_e (Cond.before_iff.mp (show (Jvm.Cond.and given_1 narrow_1).before args s = true from hpre))
  obtain ⟨g1, g2⟩ := and_e hg
  obtain ⟨g3, g4⟩ := and_e g2
  obtain ⟨g5, g6⟩ := and_e g4
  obtain ⟨g7, g8⟩ := and_e g6
  obtain ⟨w0, w1, w2, w3, rfl⟩ : ∃ w0 w1 w2 w3 : Value, args = #[w0, w1, w2, w3] := by
    have hs : args.size = 4 := by simpa [Cond.value, given_1] using g1
    obtain ⟨L⟩ := args
    match L, hs with
    | [w0, w1, w2, w3], _ => exact ⟨w0, w1, w2, w3, rfl⟩
  have hw := fun d (hd : d ∈ tables_1) => atoms_spec (ws := Jvm.Cond.code x code maxLocals ret :: tables_1) hat d (List.mem_cons_of_mem _ hd)
  have hfit : Fit s := fun {y c} hc i hi => by
    obtain ⟨ha, rfl⟩ := Array.getElem?_eq_some_iff.mp hc
    have q := List.all_eq_true.mp ((Array.all_eq_true_iff_forall_mem.mp hF) _ (Array.getElem_mem ha)) i (List.mem_range.mpr hi)
    simpa [Array.getElem?_eq_getElem hi] using q
  obtain ⟨i0, ei0⟩ := is_v g3
  obtain rfl : w0 = (.int i0) := Option.some.inj ei0
  obtain ⟨i1, ei1⟩ := is_v g5
  obtain rfl : w1 = (.int i1) := Option.some.inj ei1
  obtain ⟨i2, ei2⟩ := is_v g7
  obtain rfl : w2 = (.int i2) := Option.some.inj ei2
  obtain ⟨i3, ei3⟩ := is_v g8
  obtain rfl : w3 = (.int i3) := Option.some.inj ei3
  obtain ⟨n, o, h1, h2, h3, _, L, rfl, ⟨rfl, N⟩, hq⟩ := own_law l s _ hw tables_1 i0 i1 i2 i3 s.heap s.heap.size (Nat.le_refl _)  p e ha hc hk s m _ below hf ((Spec.applies_iff_loose hf).mp happ).1 ⟨rfl, State.Warmed39.refl s, rfl⟩ trivial
  refine ⟨n, _, h1, h2, h3, hpost _ _ _ _ _ _ ⟨Cond.after_iff.mpr rfl, Cond.after_iff.mpr (eq_i res_at (Term.int_eval (1)) rfl), trivial⟩ ⟨hq.1, hq.2.1, (hq.2.2.sift fun y hy => Or.inr (N y hy)).mono (by decide) (by decide)⟩⟩
theorem main_1_1 : Claimed_1_1 := comes_1 fun _ _ _ _ _ _ h hF => ⟨h.1, hF⟩
theorem main_1_2 : Claimed_1_2 := comes_1 fun _ _ _ _ _ _ h hF => ⟨h.2.1, hF⟩
end Jvm.Pilot.@@N@@
namespace Jvm.Pilot.@@N@@
open Jvm Jvm.ClassFile Sem Op Lib Jvm.Free Jvm.Stand Jvm.Pilot.@@N@@.Jvm.D
/-! MADE BY PROGRAM (witnessworld.py) out of the Statement's table words and the real class files: 9 classes; the members and pool entries that the words name. The judged class is class 1, her method 1. -/
namespace start1
open Jvm.ClassFile
def u (s : String) : CpInfo := .utf8 (stringToUtf16 s)
/-- a pool by its gaps: so many unusable entries, then the entry; so many at the end -/
def gap : Nat → List CpInfo → List CpInfo
  | 0, r => r
  | n + 1, r => .unusable :: gap n r
def poolList (es : List (Nat × CpInfo)) (last : Nat) : List CpInfo := es.foldr (fun e r => gap e.1 (e.2 :: r)) (gap last [])
def pool (es : List (Nat × CpInfo)) (last : Nat) : Array CpInfo := ⟨poolList es last⟩
def fileOf (pool : Array CpInfo) (this : Nat) (attrs : Array Attribute := #[]) (ms : Array MethodInfo := #[]) (fl : Nat := 33) (sup : Nat := 0) (ifs : Array Nat := #[]) (fds : Array FieldInfo := #[]) : ClassFile where
  minorVersion := 0
  majorVersion := 65
  constantPool := pool
  accessFlags := fl
  thisClass := this
  superClass := sup
  interfaces := ifs
  fields := fds
  methods := ms
  attributes := attrs
def plain (name : String) (sup : Option ClassId) : Class where
  name := name
  kind := .ordinary
  loader := none
  accessFlags := 33
  super := sup
  interfaces := #[]
  cf := none
  fields := #[]
  methods := #[]
  instanceTypes := #[]
  staticTypes := #[]
  resolved := #[]
  callSites := []
  init := .initialized
  statics := none
  mirror := none

def pool0 : Array CpInfo := pool [(5, u "<init>"), (0, u "()V"), (1, .class_ 10), (1, u "java/lang/Object")] 113

def k0m0 : Method := { name := "<init>", desc := "()V", sig := { parameters := [], returnType := none }, accessFlags := 1, code := none }
/-- java/lang/Object -/
def k0 : Class := { plain "java/lang/Object" none with
  accessFlags := 33
  interfaces := #[]
  cf := some (fileOf pool0 8 #[] #[{ accessFlags := 1, nameIndex := 5, descriptorIndex := 6, attributes := #[] }] 33 0 #[] #[])
  fields := #[]
  methods := #[k0m0]
  instanceTypes := #[]
  staticTypes := #[]
  resolved := Array.replicate 124 none
  statics := none }

def pool1 : Array CpInfo := pool [(2, .class_ 4), (1, u "java/lang/Object"), (0, u "<init>"), (0, u "()V"), (0, .integer 1048575), (0, .integer 65535), (0, .double 4742290407621132288), (1, .methodref 12 13), (0, .class_ 14), (0, .nameAndType 15 16), (0, u "com/example/vast_mdp/vastmdp/engine/StrategyImprover"), (0, u "isSaving"), (0, u "(DDDD)Z"), (0, .long 1073741824), (1, .long 2), (1, .class_ 22), (0, u "com/example/vast_mdp/vastmdp/engine/StrategyImproverIsSavingPinLaw"), (2, u "law"), (0, u "(IIII)Z")] 3

def k1m0 : Method := { name := "<init>", desc := "()V", sig := { parameters := [], returnType := none }, accessFlags := 1, code := none }
def k1c1 : Code := { maxStack := 8, maxLocals := 22, code := code, exceptionTable := #[], attributes := #[] }
def k1m1 : Method := { name := "law", desc := "(IIII)Z", sig := { parameters := [.int, .int, .int, .int], returnType := some .boolean }, accessFlags := 9, code := some k1c1 }
/-- com/example/vast_mdp/vastmdp/engine/StrategyImproverIsSavingPinLaw -/
def k1 : Class := { plain "com/example/vast_mdp/vastmdp/engine/StrategyImproverIsSavingPinLaw" (some 0) with
  accessFlags := 49
  interfaces := #[]
  cf := some (fileOf pool1 21 #[] #[{ accessFlags := 1, nameIndex := 5, descriptorIndex := 6, attributes := #[] }, { accessFlags := 9, nameIndex := 25, descriptorIndex := 26, attributes := #[] }] 49 2 #[] #[])
  fields := #[]
  methods := #[k1m0, k1m1]
  instanceTypes := #[]
  staticTypes := #[]
  resolved := Array.replicate 30 none
  statics := none }

def pool2 : Array CpInfo := pool [(2, .class_ 4), (1, u "java/lang/Object"), (3, .class_ 10), (1, u "com/example/vast_mdp/vastmdp/engine/StrategyImprover"), (0, u "model"), (0, u "Lcom/example/vast_mdp/vastmdp/engine/ExplicitModel;"), (2, u "proper"), (0, u "Ljava/util/BitSet;"), (21, u "share"), (3, u "D"), (2, u "packed"), (0, u "[J"), (2, u "reached"), (0, u "[I"), (2, u "toCurrent"), (0, u "[D"), (2, u "toCandidate"), (36, u "currentCost"), (2, u "currentMagnitude"), (2, u "currentDrift"), (14, .double 4611686018427387904), (3, u "limit"), (2, u "merged"), (0, u "Z"), (7, u "isSaving"), (0, u "(DDDD)Z"), (8, u "reachedCount"), (0, u "I"), (12, u "ROUNDING"), (1, u "ERROR_MARGIN")] 10

def k2c0 : Code := { maxStack := 8, maxLocals := 8, code := prog_32_method_7_code, exceptionTable := #[], attributes := #[] }
def k2m0 : Method := { name := "isSaving", desc := "(DDDD)Z", sig := { parameters := [.double, .double, .double, .double], returnType := some .boolean }, accessFlags := 8, code := some k2c0 }
/-- com/example/vast_mdp/vastmdp/engine/StrategyImprover -/
def k2 : Class := { plain "com/example/vast_mdp/vastmdp/engine/StrategyImprover" (some 0) with
  accessFlags := 48
  interfaces := #[]
  cf := some (fileOf pool2 8 #[] #[{ accessFlags := 8, nameIndex := 131, descriptorIndex := 132, attributes := #[] }] 48 2 #[] #[{ accessFlags := 26, nameIndex := 155, descriptorIndex := 42, attributes := #[] }, { accessFlags := 26, nameIndex := 157, descriptorIndex := 42, attributes := #[] }, { accessFlags := 18, nameIndex := 11, descriptorIndex := 12, attributes := #[] }, { accessFlags := 18, nameIndex := 15, descriptorIndex := 16, attributes := #[] }, { accessFlags := 18, nameIndex := 38, descriptorIndex := 42, attributes := #[] }, { accessFlags := 2, nameIndex := 94, descriptorIndex := 42, attributes := #[] }, { accessFlags := 2, nameIndex := 97, descriptorIndex := 42, attributes := #[] }, { accessFlags := 2, nameIndex := 100, descriptorIndex := 42, attributes := #[] }, { accessFlags := 2, nameIndex := 119, descriptorIndex := 42, attributes := #[] }, { accessFlags := 18, nameIndex := 45, descriptorIndex := 46, attributes := #[] }, { accessFlags := 18, nameIndex := 49, descriptorIndex := 50, attributes := #[] }, { accessFlags := 18, nameIndex := 53, descriptorIndex := 54, attributes := #[] }, { accessFlags := 18, nameIndex := 57, descriptorIndex := 54, attributes := #[] }, { accessFlags := 2, nameIndex := 122, descriptorIndex := 123, attributes := #[] }, { accessFlags := 2, nameIndex := 141, descriptorIndex := 142, attributes := #[] }])
  fields := #[{ name := "ROUNDING", type := .double, accessFlags := 26, slot := 0, constantValue := 0 }, { name := "ERROR_MARGIN", type := .double, accessFlags := 26, slot := 1, constantValue := 0 }, { name := "model", type := (.object "com/example/vast_mdp/vastmdp/engine/ExplicitModel"), accessFlags := 18, slot := 0, constantValue := 0 }, { name := "proper", type := (.object "java/util/BitSet"), accessFlags := 18, slot := 1, constantValue := 0 }, { name := "share", type := .double, accessFlags := 18, slot := 2, constantValue := 0 }, { name := "currentCost", type := .double, accessFlags := 2, slot := 3, constantValue := 0 }, { name := "currentMagnitude", type := .double, accessFlags := 2, slot := 4, constantValue := 0 }, { name := "currentDrift", type := .double, accessFlags := 2, slot := 5, constantValue := 0 }, { name := "limit", type := .double, accessFlags := 2, slot := 6, constantValue := 0 }, { name := "packed", type := (.array .long), accessFlags := 18, slot := 7, constantValue := 0 }, { name := "reached", type := (.array .int), accessFlags := 18, slot := 8, constantValue := 0 }, { name := "toCurrent", type := (.array .double), accessFlags := 18, slot := 9, constantValue := 0 }, { name := "toCandidate", type := (.array .double), accessFlags := 18, slot := 10, constantValue := 0 }, { name := "merged", type := .boolean, accessFlags := 2, slot := 11, constantValue := 0 }, { name := "reachedCount", type := .int, accessFlags := 2, slot := 12, constantValue := 0 }]
  methods := #[k2m0]
  instanceTypes := #[(.object "com/example/vast_mdp/vastmdp/engine/ExplicitModel"), (.object "java/util/BitSet"), .double, .double, .double, .double, .double, (.array .long), (.array .int), (.array .double), (.array .double), .boolean, .int]
  staticTypes := #[.double, .double]
  resolved := Array.replicate 168 none
  statics := none }

def pool3 : Array CpInfo := pool [(1, u "java/lang/Cloneable"), (0, .class_ 1), (0, u "java/lang/Object"), (0, .class_ 3)] 3

/-- java/lang/Cloneable -/
def k3 : Class := { plain "java/lang/Cloneable" (some 0) with
  accessFlags := 1537
  interfaces := #[]
  cf := some (fileOf pool3 2 #[] #[] 1537 4 #[] #[])
  fields := #[]
  methods := #[]
  instanceTypes := #[]
  staticTypes := #[]
  resolved := Array.replicate 8 none
  statics := none }

def pool4 : Array CpInfo := pool [(1, u "java/io/Serializable"), (0, .class_ 1), (0, u "java/lang/Object"), (0, .class_ 3)] 3

/-- java/io/Serializable -/
def k4 : Class := { plain "java/io/Serializable" (some 0) with
  accessFlags := 1537
  interfaces := #[]
  cf := some (fileOf pool4 2 #[] #[] 1537 4 #[] #[])
  fields := #[]
  methods := #[]
  instanceTypes := #[]
  staticTypes := #[]
  resolved := Array.replicate 8 none
  statics := none }

/-- the primitive byte -/
def k5 : Class := { plain "byte" none with kind := .primitive 'B', accessFlags := 0x411 }
/-- [B -/
def k6 : Class := { plain "[B" (some 0) with kind := .array 5 .byte, interfaces := #[3, 4], accessFlags := 1041 }

/-- the primitive int -/
def k7 : Class := { plain "int" none with kind := .primitive 'I', accessFlags := 0x411 }
/-- [I -/
def k8 : Class := { plain "[I" (some 0) with kind := .array 7 .int, interfaces := #[3, 4], accessFlags := 1041 }

def heap : Heap := #[]
def classes : Array Class := #[k0, k1, k2, k3, k4, k5, k6, k7, k8]
def interned : List (Array UInt16 × Addr) := []
def slotsUsed : Nat := 0
def theMethod : MethodId := ⟨1, 1⟩
def args0 : Array Value := #[.int 5, .int 7, .int 3, .int 2]
def aboutOver (below : List Frame) : State where
  vm := { classes := classes, interned := interned.toArray }
  heap := heap
  slotsUsed := slotsUsed
  threads := #[{ frames := .invoking theMethod args0 :: below }]
def below0 : List Frame := [.native { method := ⟨0, 0⟩, args := #[] }]
def about1 : State := aboutOver below0
def p0 : Program := .bare "" "" ""
def e0 : Env := launch0.env 0 0 0
theorem w_frames : about1.frames = Frame.invoking theMethod args0 :: below0 := rfl
set_option maxRecDepth 65536 in
theorem w_args : argsFit about1.vm theMethod args0 = true := by decide +kernel
set_option maxRecDepth 65536 in
theorem w_heap : heapFits about1 = true := by decide +kernel
set_option maxRecDepth 65536 in
theorem w_runnable : about1.curStatus? = some .runnable := by decide +kernel
set_option maxRecDepth 65536 in
theorem w_alone : about1.alone = true := by decide +kernel
set_option maxRecDepth 65536 in
theorem w_named : about1.methodNamed? x = some theMethod := by decide +kernel
set_option maxRecDepth 65536 in
theorem w_hears : about1.hears theMethod below0 = true := by decide +kernel
set_option maxRecDepth 65536 in
theorem w_ripe : about1.ripe theMethod args0 below0 = true := by decide +kernel
theorem w_running : about1.status = .running := rfl
set_option maxRecDepth 65536 in
theorem w_room : about1.hasRoom e0.platform room_1 = true :=
  launch0.hasRoom_least _ room_1 (by decide +kernel) (by decide +kernel) (by decide +kernel) (by decide +kernel) (by decide +kernel) (by decide +kernel)
theorem allAtoms_all (ts : List Jvm.Cond) (a : Array Jvm.Value) (st : Jvm.State) : (allAtoms ts).before a st = ts.all (fun c => c.before a st) := by
  induction ts with
  | nil => rfl
  | cons c t ih =>
    show (Jvm.Cond.and c (allAtoms t)).before a st = _
    rw [Jvm.Cond.before_and, ih, List.all_cons]
def words1 : List Jvm.Cond := Jvm.Cond.code x code maxLocals ret :: tables_1
/-- a 'code' word, met by the world's own term for the bytes: nothing is compared byte by byte -/
theorem code_word {y : MethodName} {bytes : ByteArray} {mx : Nat} {rt : Option FieldType} {a : Array Value} {s : State} {m : MethodId} {meth : Method} {c : Code} (h1 : s.methodNamed? y = some m) (h2 : s.vm.method? m = some meth) (h3 : meth.code = some c) (h4 : c.code = bytes)
    (h5 : (c.maxLocals == mx && c.exceptionTable.isEmpty && decide (c.maxStack ≤ mostOperands) && decide (meth.sig.returnType = rt) && !meth.locks && decide (parseMethodDescriptor y.desc = some meth.sig)) = true) : (Jvm.Cond.code y bytes mx rt).before a s = true := by
  simp only [Bool.and_eq_true, beq_iff_eq, Bool.not_eq_true', decide_eq_true_eq] at h5
  obtain ⟨⟨⟨⟨⟨g1, g2⟩, g3⟩, g4⟩, g5⟩, g6⟩ := h5
  simp [Cond.before, Cond.holds, Cond.value, h1, h2, h3, h4, g1, g2, g3, g4, g5, g6]
def isCode : Jvm.Cond → Bool
  | .code _ _ _ _ => true
  | _ => false
theorem all_split {L : List Jvm.Cond} {P : Jvm.Cond → Bool} (h1 : L.all (fun c => isCode c || P c) = true) (h2 : ∀ c ∈ L.filter isCode, P c = true) : L.all P = true := by
  refine List.all_eq_true.mpr fun c hc => ?_
  have h := List.all_eq_true.mp h1 c hc
  rcases Bool.eq_false_or_eq_true (isCode c) with hi | hi
  · exact h2 c (List.mem_filter.mpr ⟨hc, hi⟩)
  · simpa [hi] using h
set_option maxRecDepth 65536 in
theorem w_c0 : (Jvm.Cond.code x code maxLocals ret).before args0 about1 = true := code_word (m := ⟨1, 1⟩) (meth := k1m1) (c := k1c1) (by decide +kernel) rfl rfl rfl (by decide +kernel)
set_option maxRecDepth 65536 in
theorem w_c1 : (Jvm.Cond.code ({ cls := "com/example/vast_mdp/vastmdp/engine/StrategyImprover", name := "isSaving", desc := "(DDDD)Z" } : Jvm.MethodName) prog_32_method_7_code (8 : Nat) (Option.some Jvm.ClassFile.FieldType.boolean)).before args0 about1 = true := code_word (m := ⟨2, 0⟩) (meth := k2m0) (c := k2c0) (by decide +kernel) rfl rfl rfl (by decide +kernel)
def codes1 : List Jvm.Cond := [Jvm.Cond.code x code maxLocals ret, Jvm.Cond.code ({ cls := "com/example/vast_mdp/vastmdp/engine/StrategyImprover", name := "isSaving", desc := "(DDDD)Z" } : Jvm.MethodName) prog_32_method_7_code (8 : Nat) (Option.some Jvm.ClassFile.FieldType.boolean)]
set_option maxRecDepth 65536 in
theorem codes_eq : words1.filter isCode = codes1 := rfl
theorem w_codes : ∀ c ∈ words1.filter isCode, c.before args0 about1 = true := by
  rw [codes_eq]
  intro c hc
  simp only [codes1, List.mem_cons, List.not_mem_nil, or_false] at hc
  rcases hc with rfl | rfl
  · exact w_c0
  · exact w_c1
set_option maxRecDepth 65536 in
theorem w_t1 : words1.all (fun c => isCode c || c.before args0 about1) = true := by decide +kernel
theorem w_tables : (allAtoms (Jvm.Cond.code x code maxLocals ret :: tables_1)).before args0 about1 = true := by
  rw [allAtoms_all]
  show words1.all (fun c => c.before args0 about1) = true
  refine all_split ?_ w_codes
  rw [w_t1]
set_option maxRecDepth 65536 in
theorem w_case : (Jvm.Cond.and given_1 narrow_1).before args0 about1 = true := by decide +kernel
theorem w_applies : (headSpec (Jvm.Cond.code x code maxLocals ret :: tables_1) room_1).applies x e0.platform about1 = true :=
  (Spec.applies_iff w_frames).mpr ⟨w_running, w_runnable, w_alone, w_named, w_hears, w_ripe, w_room, w_tables⟩
theorem atStart : AtStart classFile x code maxLocals ret World_1 tables_1 room_1 Calls_1 rest_1 Pre_1 launch0 p0 e0 about1 theMethod args0 below0 :=
  ⟨lists_1, trivial, launch0.admits_env _ _ _, launch0.least_env, fairChoices_fair.cas, fairChoices_fair.clock, w_frames, w_args, w_heap, w_applies, trivial, trivial, w_case⟩
end start1
theorem witness_1 : WitnessClaimed_1 := ⟨start1.p0, start1.e0, start1.about1, start1.theMethod, start1.args0, start1.below0, start1.atStart⟩
end Jvm.Pilot.@@N@@
